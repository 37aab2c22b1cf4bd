import JvmDerived
import JvmDerived.Pilot.@@N@@Statement
import JvmDerived.Pilot.@@N@@Code
set_option linter.unusedVariables false
set_option linter.unusedSimpArgs false
@@BLOCK:NumsL.lean.txt@@
namespace Jvm.RoadKit
open Sem ClassFile Op Lib Jvm.Stand Jvm.Free Jvm.LawKit
section New
variable {p : Program} {l : Launch} {e : Env} {R : Room} {s : State} {m : MethodId} {args : Array Value} {below : List Frame} {meth : Method} {c : Code} {T : State} {locs : List Loc} {cells slots : Nat}
theorem retI (X : Stand p l e R s m args below meth c T locs cells slots) (hx : p.tables.exec = Jvm.exec) {pc : Nat} {Ls : Array Slot} {z : Int32} {rest : List Value} (hret : meth.sig.returnType = some .int) (hd : decode c.code pc = .ok (.ireturn, 1)) {fs : List Frame}
    (hl : ∀ (f : JFrame) (acts : List Action), f.method = m → f.locked = none → f.entered = [] → (doReturn e (T.setTop f) acts (some (.int z))).1 = T.setFrames fs) : Steps p.tables e below (T.setTop (mkF m pc Ls (.int z :: rest))) (T.setFrames fs) := by
  have hm' : T.vm.method? m = some meth := X.method'
  have hn : narrow .int (.int z) = .int z := rfl
  show Steps p.tables e below (T.setTop { method := m, pc := pc, locals := Ls, stack := _ :: rest, locked := none }) _
  jvm_step X.here [X.here.top, hx, hd, hm', hret, hn]
  first | (intro acts; rw [hl _ acts rfl rfl rfl]) | rw [hl _ _ rfl rfl rfl]
  exact Steps.refl _
end New
end Jvm.RoadKit
namespace Jvm.Pilot.@@N@@
open Jvm Jvm.ClassFile Sem Op Lib Jvm.Free Jvm.Stand Jvm.LawKit Jvm.RoadKit Bundle Jvm.Pilot.@@N@@.Jvm.D
def own_Q (r : Option Value) (h0 : Heap) (n0 : Nat) (v : Option Value) (h : Heap) (L : List Loc) : Prop := v = r ∧ Fr n0 L ∧ h = h0
set_option maxRecDepth 65536
set_option maxHeartbeats 40000000
theorem own_w {a0 : Array Value} {Z : State} (hw : ∀ d ∈ tables_1, d.before a0 Z = true) {d : Jvm.Cond} (i : Nat) (h : tables_1[i]? = some d) : d.before a0 Z = true := hw _ (List.mem_of_getElem? h)
theorem own_pre {tb : Tables} {e : Env} {below : List Frame} {T : State} {f g : JFrame} (h : f = g) : ∀ t, Steps tb e below (T.setTop g) t → Steps tb e below (T.setTop f) t := fun t k => castTop h k
abbrev own_HW (a0 : Array Value) (Z : State) : Prop := ∀ d ∈ tables_1, d.before a0 Z = true
abbrev own_M (l : Launch) (x : MethodName) (S : Spec) (A : Array Value) (Z : State) (h0 : Heap) (n0 : Nat) (Q : Heap → Nat → Option Value → Heap → List Loc → Prop) (k n : Nat) : Prop := MetFree l x S (fun a U => a = A ∧ Z.Warmed39 U.vm ∧ U.heap = h0) (fun _ _ _ _ _ => True) (fun _ U o U' => ∃ v L, o = .returned v ∧ Q h0 n0 v U'.heap L ∧ FrameEnd U o U' L k n)
abbrev own_rm_ (f c s l : Nat) : Room := { frames := f, cells := c, slots := s, locals := l }
abbrev Y0_ : MethodName := ⟨"java/lang/StringUTF16", "compress", "([CI[BII)I"⟩
abbrev Y1_ : MethodName := ⟨"java/lang/StringUTF16", "newBytesLength", "(I)I"⟩
abbrev Y2_ : MethodName := ⟨"java/lang/StringUTF16", "putChar", "([BII)V"⟩
abbrev Y3_ : MethodName := ⟨"java/lang/StringUTF16", "newBytesFor", "(I)[B"⟩
abbrev Y4_ : MethodName := ⟨"java/lang/StringUTF16", "toBytes", "([CII)[B"⟩
abbrev Y5_ : MethodName := ⟨"jdk/internal/util/Preconditions", "checkIndex", "(IILjava/util/function/BiFunction;)I"⟩
abbrev Y6_ : MethodName := ⟨"java/lang/String", "checkIndex", "(II)V"⟩
abbrev Y7_ : MethodName := ⟨"java/lang/StringUTF16", "getChar", "([BI)C"⟩
abbrev Y8_ : MethodName := ⟨"java/lang/StringUTF16", "length", "([B)I"⟩
abbrev Y9_ : MethodName := ⟨"java/lang/StringUTF16", "checkIndex", "(I[B)V"⟩
abbrev Y10_ : MethodName := ⟨"java/lang/StringUTF16", "charAt", "([BI)C"⟩
abbrev Y11_ : MethodName := ⟨"java/lang/StringLatin1", "charAt", "([BI)C"⟩
abbrev Y12_ : MethodName := ⟨"java/lang/StringUTF16", "compress", "([CII)[B"⟩
abbrev Y13_ : MethodName := ⟨"java/lang/StringUTF16", "coderFromArrayLen", "([BI)B"⟩
abbrev Y14_ : MethodName := ⟨"java/lang/String", "<init>", "([CIILjava/lang/Void;)V"⟩
abbrev Y15_ : MethodName := ⟨"java/lang/String", "<init>", "([C)V"⟩
abbrev Y16_ : MethodName := ⟨"java/lang/String", "coder", "()B"⟩
abbrev Y17_ : MethodName := ⟨"java/lang/String", "isLatin1", "()Z"⟩
abbrev Y18_ : MethodName := ⟨"java/lang/String", "length", "()I"⟩
abbrev Y19_ : MethodName := ⟨"java/lang/String", "charAt", "(I)C"⟩
abbrev Y20_ : MethodName := ⟨"java/lang/StringLatin1", "inflate", "([BI[CII)V"⟩
abbrev Y21_ : MethodName := ⟨"java/lang/StringLatin1", "toChars", "([B)[C"⟩
abbrev Y22_ : MethodName := ⟨"jdk/internal/util/Preconditions", "checkFromIndexSize", "(IIILjava/util/function/BiFunction;)I"⟩
abbrev Y23_ : MethodName := ⟨"java/lang/String", "checkBoundsOffCount", "(III)I"⟩
abbrev Y24_ : MethodName := ⟨"java/lang/StringUTF16", "checkBoundsOffCount", "(II[B)V"⟩
abbrev Y25_ : MethodName := ⟨"java/lang/StringUTF16", "getChars", "([BII[CI)V"⟩
abbrev Y26_ : MethodName := ⟨"java/lang/StringUTF16", "toChars", "([B)[C"⟩
abbrev Y27_ : MethodName := ⟨"java/lang/String", "toCharArray", "()[C"⟩
abbrev Y28_ : MethodName := ⟨"com/example/rubrique/rubrique/cli/OneLine", "breaksLine", "(C)Z"⟩
abbrev Y29_ : MethodName := ⟨"com/example/rubrique/rubrique/cli/OneLineOfPinLaw", "isBreak", "(C)Z"⟩
abbrev Y30_ : MethodName := ⟨"com/example/rubrique/rubrique/cli/OneLineOfPinLaw", "expected", "(C)C"⟩
abbrev Y31_ : MethodName := ⟨"com/example/rubrique/rubrique/cli/OneLine", "of", "(Ljava/lang/String;)Ljava/lang/String;"⟩
theorem own_eqI {args : Array Value} {Z : State} {t : Term} {k : Int32} (h : (Cond.eq t (Term.int k)).value args Z none Z [] = some true) : t.eval args Z none [] Z = some (.int k) := by
  simp only [Cond.value, Term.eval] at h
  cases ht : t.eval args Z none [] Z with
  | none => simp [ht] at h
  | some v => cases v <;> simp [ht] at h ⊢ <;> exact h
theorem own_eqR {args : Array Value} {Z : State} {t u : Term} {y : Addr} (h : (Cond.eq t u).value args Z none Z [] = some true) (hu : u.eval args Z none [] Z = some (.ref y)) : t.eval args Z none [] Z = some (.ref y) := by
  simp only [Cond.value, hu] at h
  cases ht : t.eval args Z none [] Z with
  | none => simp [ht] at h
  | some v => cases v <;> simp [ht] at h ⊢ <;> exact h
theorem own_safeS {Z : State} {EL : List (String × Nat)} {vm : Vm} {h : Heap} {x : Addr} (hal : Z.vm.Alike vm) (E : Exa Z h x "java/lang/String") (F : Fld Z h x "java/lang/String" "value" "[B" .null) : Safe Z EL vm h x := by
  intro B
  obtain ⟨p, -, u, a, -, q, -, G, rfl | rfl⟩ := B
  · have ha : h[q.sa]? = some q.sC := G.ha
    obtain ⟨cS, ⟨⟨s1, s2, s3, ⟨cv, kv, iv, s4, s4'⟩, ⟨cc, kc, ic, s5, s5'⟩, s6, s7, s8, -⟩, -⟩, -⟩ := G
    obtain ⟨cell, cf, k, i, f, h1, h2, h3, h4, h5, h6, h7⟩ := F
    cases h1.symm.trans ha
    obtain ⟨kv', z4⟩ := ff_back (U := Wst Z vm h) hal s4
    have e := z4.symm.trans h2
    simp only [Option.some.injEq, Prod.mk.injEq] at e
    obtain ⟨-, -, -, rfl⟩ := e
    rw [s8] at h7; cases h7
  · have hd : h[q.sd]? = some q.SA := G.hd
    obtain ⟨cS, -, -, f, -⟩ := G
    obtain ⟨cell, k, e1, e2, -⟩ := E
    cases e1.symm.trans hd
    have f' : Z.vm.findClass "[B" = some q.SA.cls := by rw [← hal.findClass]; exact f
    obtain ⟨k1, a1, a2⟩ := Vm.findClass_spec f'
    obtain ⟨k2, b1, b2⟩ := Vm.findClass_spec e2
    cases a1.symm.trans b1
    exact absurd (a2.symm.trans b2) (by decide)
def own_EL : List (String × Nat) := [("java/lang/String", 7)]
def own_Ctx (Z : State) (h : Heap) (cs1 : Int32) (fv : Value) : Prop := (Sta Z h "java/lang/String" "COMPACT_STRINGS" "Z" (.int cs1)) ∧ (¬ (cs1 = (0 : Int32))) ∧ (Sta Z h "jdk/internal/util/Preconditions" "SIOOBE_FORMATTER" "Ljava/util/function/BiFunction;" fv) ∧ (fv.isRef = true) ∧ (Sta Z h "java/lang/StringUTF16" "$assertionsDisabled" "Z" (.int (1 : Int32))) ∧ (Sta Z h "java/lang/StringUTF16" "HI_BYTE_SHIFT" "I" (.int (0 : Int32))) ∧ (Sta Z h "java/lang/StringUTF16" "LO_BYTE_SHIFT" "I" (.int (8 : Int32)))
theorem own_bm8 (n : Int) : (n.bmod (2 ^ 8)) % 256 = n % 256 := by rw [Int.bmod_def]; omega
theorem own_i2b (x : Int32) : (nar .byte x.toInt8.toInt32).toInt % 256 = x.toInt % 256 := by
  show (x.toInt8.toInt32.toInt8.toInt32).toInt % 256 = _
  have h : ∀ y : Int32, (y.toInt8.toInt32).toInt % 256 = y.toInt % 256 := fun y => by
    rw [Int8.toInt_toInt32, Int32.toInt_toInt8]; exact own_bm8 _
  rw [h, h]
theorem own_lat {c : Int32} (h0 : ¬ (c < (0 : Int32))) (h1 : ¬ ((255 : Int32) < c)) : ((nar .byte (c.toInt8.toInt32)) &&& (255 : Int32)).toUInt32.toUInt16.toUInt32.toInt32 = c := by
  rw [i2c_mask]
  apply Int32.toInt_inj.mp
  have m1 : ((nar .byte (c.toInt8.toInt32)) &&& (255 : Int32)).toInt = (nar .byte (c.toInt8.toInt32)).toInt % 2 ^ 8 := Jvm.Kit.i32_mask _ 255 (k := 8) (by decide) (by decide)
  have m2 := own_i2b c
  rw [Int32.lt_iff_toInt_lt] at h0 h1
  have z0 : (0 : Int32).toInt = 0 := rfl
  have z1 : (255 : Int32).toInt = 255 := rfl
  omega
theorem own_utf {c : Int32} (h0 : ¬ (c < (0 : Int32))) (h1 : ¬ ((65535 : Int32) < c)) : (((nar .byte ((c >>> ((0 : Int32) &&& 31)).toInt8.toInt32)) &&& (255 : Int32)) <<< ((0 : Int32) &&& 31) ||| ((nar .byte ((c >>> ((8 : Int32) &&& 31)).toInt8.toInt32)) &&& (255 : Int32)) <<< ((8 : Int32) &&& 31)).toUInt32.toUInt16.toUInt32.toInt32 = c := by
  rw [Int32.lt_iff_toInt_lt] at h0 h1
  have z0 : (0 : Int32).toInt = 0 := rfl
  have z1 : (65535 : Int32).toInt = 65535 := rfl
  have a0 : (c >>> ((0 : Int32) &&& 31)).toInt = c.toInt / 2 ^ 0 := Jvm.Kit.i32_shr c _ (k := 0) (by decide)
  have a8 : (c >>> ((8 : Int32) &&& 31)).toInt = c.toInt / 2 ^ 8 := Jvm.Kit.i32_shr c _ (k := 8) (by decide)
  have b0 := own_i2b (c >>> ((0 : Int32) &&& 31))
  have b8 := own_i2b (c >>> ((8 : Int32) &&& 31))
  generalize (nar .byte ((c >>> ((0 : Int32) &&& 31)).toInt8.toInt32)) = x at *
  generalize (nar .byte ((c >>> ((8 : Int32) &&& 31)).toInt8.toInt32)) = y at *
  have mx : (x &&& (255 : Int32)).toInt = x.toInt % 2 ^ 8 := Jvm.Kit.i32_mask _ 255 (k := 8) (by decide) (by decide)
  have my : (y &&& (255 : Int32)).toInt = y.toInt % 2 ^ 8 := Jvm.Kit.i32_mask _ 255 (k := 8) (by decide) (by decide)
  have s0 : ((x &&& (255 : Int32)) <<< ((0 : Int32) &&& 31)).toInt = (x &&& (255 : Int32)).toInt * 2 ^ 0 := Jvm.Kit.i32_shl _ _ (k := 0) (by decide) (by omega) (by omega)
  have s8 : ((y &&& (255 : Int32)) <<< ((8 : Int32) &&& 31)).toInt = (y &&& (255 : Int32)).toInt * 2 ^ 8 := Jvm.Kit.i32_shl _ _ (k := 8) (by decide) (by omega) (by omega)
  generalize ((x &&& (255 : Int32)) <<< ((0 : Int32) &&& 31)) = u at *
  generalize ((y &&& (255 : Int32)) <<< ((8 : Int32) &&& 31)) = w at *
  have o1 := c_or' u w 8 (by decide) 256 (by decide) (by omega) (by omega) (by omega)
  have o2 := (u ||| w).toInt_lt
  have o3 := (u ||| w).le_toInt
  have q := c_i2c (u ||| w)
  apply Int32.toInt_inj.mp
  omega
theorem own_nch {c : Int32} (h0 : ¬ (c < (0 : Int32))) (h1 : ¬ ((65535 : Int32) < c)) : (some (Value.int (nar .char c)) : Option Value) = some (.int c) := by
  have q := c_i2c c
  rw [Int32.lt_iff_toInt_lt] at h0 h1
  have z0 : (0 : Int32).toInt = 0 := rfl
  have z1 : (65535 : Int32).toInt = 65535 := rfl
  have e : nar .char c = c := by
    show c.toUInt32.toUInt16.toUInt32.toInt32 = c
    apply Int32.toInt_inj.mp
    omega
  rw [e]
theorem own_255 {c : Int32} (h1 : ¬ ((255 : Int32) < c)) : ¬ ((65535 : Int32) < c) := by
  rw [Int32.lt_iff_toInt_lt] at *
  have z0 : (255 : Int32).toInt = 255 := rfl
  have z1 : (65535 : Int32).toInt = 65535 := rfl
  omega
theorem own_ti {i : Nat} (h : i ≤ 1000) : i.toInt32.toNatClampNeg = i ∧ ¬ (i.toInt32 < 0) ∧ i.toInt32.toInt = i := by
  have e := len_toInt (n := i) (by omega)
  refine ⟨by simp only [Int32.toNatClampNeg, e]; rfl, ?_, e⟩
  rw [Int32.lt_iff_toInt_lt, e]; show ¬ ((i : Int) < 0); omega
theorem own_ts {i : Nat} (h : i ≤ 1000) : i.toInt32 + (1 : Int32) = (i + 1).toInt32 := by
  apply Int32.toInt_inj.mp
  have e := len_toInt (n := i) (by omega)
  have e1 := len_toInt (n := i + 1) (by omega)
  have z : (1 : Int32).toInt = 1 := rfl
  rw [Jvm.Kit.i32_add (by omega) (by omega), e, e1, z]; omega
theorem own_tl {i n : Nat} (h : i < n) (hn : n ≤ 1000) : i.toInt32 < n.toInt32 := by
  have e := len_toInt (n := i) (by omega)
  have e1 := len_toInt (n := n) (by omega)
  rw [Int32.lt_iff_toInt_lt, e, e1]; omega
def own_fill (f : Int32 → Int32) (cs : List Int32) (i : Nat) : List Value := (cs.take i).map (fun c => .int (f c)) ++ List.replicate (cs.length - i) (.int (0 : Int32))
theorem own_fill_len (f : Int32 → Int32) (cs : List Int32) {i : Nat} (h : i ≤ cs.length) : (own_fill f cs i).length = cs.length := by
  simp [own_fill]; omega
theorem own_fill_get (f : Int32 → Int32) (cs : List Int32) {i : Nat} (h : i ≤ cs.length) (j : Nat) : (own_fill f cs i)[j]? = if j < i then (cs[j]?).map (fun c => Value.int (f c)) else if j < cs.length then some (.int (0 : Int32)) else none := by
  have m1 : min i cs.length = i := Nat.min_eq_left h
  by_cases a : j < i
  · have b : j < cs.length := by omega
    simp [own_fill, List.getElem?_append, a, m1, b]
  · simp only [own_fill, List.getElem?_append, List.length_map, List.length_take, m1, a, if_false, List.getElem?_replicate]
    by_cases c : j < cs.length
    · have x : j - i < cs.length - i := by omega
      simp [x, c]
    · have x : ¬ j - i < cs.length - i := by omega
      simp [x, c]
theorem own_fill_set (f : Int32 → Int32) (cs : List Int32) {i : Nat} (h : i < cs.length) : (own_fill f cs i).set i (.int (f cs[i])) = own_fill f cs (i + 1) := by
  apply List.ext_getElem?
  intro j
  have hl := own_fill_len f cs (Nat.le_of_lt h)
  rw [own_fill_get f cs h j]
  by_cases u : i = j
  · subst u
    rw [List.getElem?_set_self (by omega)]
    simp [h]
  · rw [List.getElem?_set_ne u, own_fill_get f cs (Nat.le_of_lt h) j]
    by_cases a : j < i
    · have b : j < i + 1 := by omega
      simp [a, b]
    · have b : ¬ j < i + 1 := by omega
      simp [a, b]
theorem own_fill_all (f : Int32 → Int32) (cs : List Int32) : own_fill f cs cs.length = cs.map (fun c => .int (f c)) := by simp [own_fill]
theorem own_at {cs : List Int32} {i : Nat} (h : i < cs.length) : (cs.map Value.int).getD i (.int (0 : Int32)) = .int cs[i] := by simp [List.getD_eq_getElem?_getD, h]

def own_Qk (r : Option Value) (ws : List Addr) (h0 : Heap) (n0 : Nat) (v : Option Value) (h : Heap) (L : List Loc) : Prop := v = r ∧ Fr n0 L ∧ Keep h0 h ws
def own_QW (Z : State) (r : Option Value) (a3 : Addr) (k3 : ClassId) (ty : FieldType) (z : Int32) (vs : List Value) (h0 : Heap) (n0 : Nat) (v : Option Value) (h : Heap) (L : List Loc) : Prop := v = r ∧ Fr n0 L ∧ Keep h0 h [a3] ∧ Arv Z h a3 k3 ty z vs (.int (0 : Int32))
def own_QA (Z : State) (ty : FieldType) (z : Int32) (vs : List Value) (h0 : Heap) (n0 : Nat) (v : Option Value) (h : Heap) (L : List Loc) : Prop := ∃ (b : Addr) (k : ClassId), v = some (.ref b) ∧ Fr n0 L ∧ Keep h0 h [] ∧ h0.size ≤ b ∧ Arv Z h b k ty z vs (.int (0 : Int32))
theorem d8_3 : decode jdk_52_method_21_code 3 = .ok (.iload 5, 2) := by decide +kernel
theorem d8_5 : decode jdk_52_method_21_code 5 = .ok (.iload 4, 2) := by decide +kernel
theorem d8_7 : decode jdk_52_method_21_code 7 = .ok (.if_icmp .ge 37, 3) := by decide +kernel
theorem d8_10 : decode jdk_52_method_21_code 10 = .ok (.aload_n 0, 1) := by decide +kernel
theorem d8_11 : decode jdk_52_method_21_code 11 = .ok (.iload_n 1, 1) := by decide +kernel
theorem d8_12 : decode jdk_52_method_21_code 12 = .ok (.caload, 1) := by decide +kernel
theorem d8_13 : decode jdk_52_method_21_code 13 = .ok (.istore 6, 2) := by decide +kernel
theorem os8_13 {z0 : Value} {z1 : Value} {z2 : Value} {z3 : Value} {z4 : Value} {z5 : Value} {s6 : Slot} {v : Int32} (h : One s6) : storeLocals #[.val z0, .val z1, .val z2, .val z3, .val z4, .val z5, s6] 6 (.int v) = some #[.val z0, .val z1, .val z2, .val z3, .val z4, .val z5, .val (.int v)] := by
  rcases h with rfl | ⟨w, rfl, hw⟩
  · rfl
  · cases w <;> first | rfl | (simp [Value.category] at hw)
theorem d8_15 : decode jdk_52_method_21_code 15 = .ok (.iload 6, 2) := by decide +kernel
theorem d8_17 : decode jdk_52_method_21_code 17 = .ok (.sipush 255, 3) := by decide +kernel
theorem d8_20 : decode jdk_52_method_21_code 20 = .ok (.if_icmp .le 6, 3) := by decide +kernel
theorem d8_26 : decode jdk_52_method_21_code 26 = .ok (.aload_n 2, 1) := by decide +kernel
theorem d8_27 : decode jdk_52_method_21_code 27 = .ok (.iload_n 3, 1) := by decide +kernel
theorem d8_28 : decode jdk_52_method_21_code 28 = .ok (.iload 6, 2) := by decide +kernel
theorem d8_30 : decode jdk_52_method_21_code 30 = .ok (.i2b, 1) := by decide +kernel
theorem d8_31 : decode jdk_52_method_21_code 31 = .ok (.bastore, 1) := by decide +kernel
theorem d8_32 : decode jdk_52_method_21_code 32 = .ok (.iinc 1 1, 3) := by decide +kernel
theorem d8_35 : decode jdk_52_method_21_code 35 = .ok (.iinc 3 1, 3) := by decide +kernel
theorem d8_38 : decode jdk_52_method_21_code 38 = .ok (.iinc 5 1, 3) := by decide +kernel
theorem d8_41 : decode jdk_52_method_21_code 41 = .ok (.goto (-38), 3) := by decide +kernel
theorem t_cl {p : Program} {l : Launch} {e : Env} {R : Room} {s : State} {m : MethodId} {args : Array Value} {below : List Frame} {meth : Method} {c : Code} {T0 : State} {locs : List Loc} {cells slots : Nat} {Z : State} {a0 : Array Value} {h0 : Heap} {n0 : Nat} (cs1 : Int32) (fv : Value) (a2 a3 : Addr) (k2 k3 : ClassId) (vs2 vs3 : List Value) (i1 z1 c1 : Int32) (s6 : Slot)
    (X0 : Stand p l e R s m args below meth c T0 locs cells slots) (hx : p.tables.exec = Jvm.exec) (hZ : Z.Warmed39 s.vm) (hw : own_HW a0 Z) (hby : c.code = jdk_52_method_21_code) (hml : c.maxLocals = 7) (hown : s.vm.findClass "java/lang/StringUTF16" = some m.cls) (e0 : T0.heap = h0) (N0 : Fr n0 locs) (O0 : Old Z n0 h0) (G : own_Ctx Z Z.heap cs1 fv) (hs6 : One s6) (Va : Arv Z h0 a2 k2 .char z1 vs2 (.int (0 : Int32))) (Vb : Arv Z h0 a3 k3 .byte z1 vs3 (.int (0 : Int32))) (ga : n0 ≤ a3) (hne : a2 ≠ a3) (hi1 : ¬ (i1 < 0)) (hi2 : i1 < z1) (hat : vs2.getD i1.toNatClampNeg (.int (0 : Int32)) = .int c1) (hl : ¬ ((255 : Int32) < c1)) (hlen : i1.toNatClampNeg < vs3.length) :
    ∃ (T' : State) (h' : Heap) (L' : List Loc), Stand p l e R s m args below meth c T' L' cells slots ∧ T'.heap = h' ∧ Fr n0 L' ∧ Old Z n0 h' ∧ Keep h0 h' [a3] ∧ (Arv Z h' a2 k2 .char z1 vs2 (.int (0 : Int32))) ∧ (Arv Z h' a3 k3 .byte z1 (List.set vs3 (i1).toNatClampNeg (.int (nar .byte (c1.toInt8.toInt32)))) (.int (0 : Int32))) ∧ ∀ target, Steps p.tables e below (T'.setTop (mkF m 3 #[.val (.ref a2), .val (.int (i1 + (1 : Int32))), .val (.ref a3), .val (.int (i1 + (1 : Int32))), .val (.int z1), .val (.int (i1 + (1 : Int32))), .val (.int c1)] [])) target → Steps p.tables e below (T0.setTop (mkF m 3 #[.val (.ref a2), .val (.int i1), .val (.ref a3), .val (.int i1), .val (.int z1), .val (.int i1), s6] [])) target := by
  have G0 := G
  obtain ⟨S_CS, N_CS, S_F, R_F, S_AD, S_HI, S_LO⟩ := G
  have vc1 := Va
  obtain ⟨cl1, Ar1, qk1, S1, Nn1, Hs1, Gf1⟩ := vc1
  have hin1 : ¬ (i1 < 0 ∨ cl1.slots.size ≤ (i1).toNatClampNeg) := inb_of S1 ⟨hi1, hi2⟩
  have hat1 : cl1.slots[(i1).toNatClampNeg]? = some (.int c1) := Has.at Hs1 hin1 hat
  have vc2 := Vb
  obtain ⟨cl2, Ar2, qk2, S2, Nn2, Hs2, Gf2⟩ := vc2
  have hin2 : ¬ (i1 < 0 ∨ cl2.slots.size ≤ (i1).toNatClampNeg) := inb_of S2 ⟨hi1, hi2⟩
  obtain ⟨T3, h3, X3, e3, W3, st3⟩ := stB X0 hx hZ e0 Ar2 (j := i1) hin2 (g := (mkF m 31 #[.val (.ref a2), .val (.int i1), .val (.ref a3), .val (.int i1), .val (.int z1), .val (.int i1), .val (.int c1)] [(.int (c1.toInt8.toInt32)), (.int i1), (.ref a3)])) rfl rfl (hb hby d8_31)
  have f4 := Va.other W3 hne
  have O3 := O0.wr W3 ga
  have K3 : Keep h0 h3 [a3] := (Keep.refl h0 [a3]).wr W3 (Or.inl (List.mem_of_getElem? (i := 0) rfl))
  have N3 := Fr.snoc X3 N0 ga
  have f5 : Arv Z h3 a3 k3 .byte z1 (List.set vs3 (i1).toNatClampNeg (.int (nar .byte (c1.toInt8.toInt32)))) (.int (0 : Int32)) := Arv.set Ar2 qk2 S2 Nn2 Hs2 Gf2 (fits_nar_byte _) W3 (i1).toNatClampNeg rfl hlen
  refine ⟨T3, h3, _, X3, e3, N3, O3, K3, f4, f5, fun target kt => ?_⟩
  show Steps p.tables e below (T0.setTop (mkF m 3 #[.val (.ref a2), .val (.int i1), .val (.ref a3), .val (.int i1), .val (.int z1), .val (.int i1), s6] [])) _
  refine XS.iload X0.here hx rfl (hb hby d8_3) rfl ?_
  refine XS.iload X0.here hx rfl (hb hby d8_5) rfl ?_
  refine XS.icmpNo X0.here hx rfl (hb hby d8_7) rfl (tlt (hi2 : i1 < z1)).2.1 ?_
  refine XS.aloadN X0.here hx rfl (hb hby d8_10) rfl rfl ?_
  refine XS.iloadN X0.here hx rfl (hb hby d8_11) rfl ?_
  show Steps p.tables e below (T0.setTop (mkF m 12 #[.val (.ref a2), .val (.int i1), .val (.ref a3), .val (.int i1), .val (.int z1), .val (.int i1), s6] [(.int i1), (.ref a2)])) _
  refine X0.caload hx (j := i1) (v := (.int c1)) (by rw [e0]; exact Ar1.1) (State.isArrayOf_alike hZ.alike Ar1.2.1) Ar1.2.2 hin1 hat1 (g := (mkF m 12 #[.val (.ref a2), .val (.int i1), .val (.ref a3), .val (.int i1), .val (.int z1), .val (.int i1), s6] [(.int i1), (.ref a2)])) rfl rfl (hb hby d8_12) _ ?_
  show Steps p.tables e below (T0.setTop (mkF m 13 #[.val (.ref a2), .val (.int i1), .val (.ref a3), .val (.int i1), .val (.int z1), .val (.int i1), s6] [(.int c1)])) _
  refine XS.istore X0.here hx rfl (hb hby d8_13) rfl (l' := #[.val (.ref a2), .val (.int i1), .val (.ref a3), .val (.int i1), .val (.int z1), .val (.int i1), .val (.int c1)]) (os8_13 hs6) ?_
  refine XS.iload X0.here hx rfl (hb hby d8_15) rfl ?_
  refine XS.sipush X0.here hx rfl (hb hby d8_17) ?_
  refine XS.icmpYes X0.here hx rfl (pc0 := 20) (pc' := 26) rfl (hb hby d8_20) rfl (flt (hl : ¬ ((255 : Int32) < c1))).2.2.2 (by decide) (by decide) ?_
  refine XS.aloadN X0.here hx rfl (hb hby d8_26) rfl rfl ?_
  refine XS.iloadN X0.here hx rfl (hb hby d8_27) rfl ?_
  refine XS.iload X0.here hx rfl (hb hby d8_28) rfl ?_
  refine XS.i2b X0.here hx rfl (hb hby d8_30) rfl ?_
  show Steps p.tables e below (T0.setTop (mkF m 31 #[.val (.ref a2), .val (.int i1), .val (.ref a3), .val (.int i1), .val (.int z1), .val (.int i1), .val (.int c1)] [(.int (c1.toInt8.toInt32)), (.int i1), (.ref a3)])) _
  refine st3 _ ?_
  show Steps p.tables e below (T3.setTop (mkF m 32 #[.val (.ref a2), .val (.int i1), .val (.ref a3), .val (.int i1), .val (.int z1), .val (.int i1), .val (.int c1)] [])) _
  refine XS.iinc X3.here hx rfl (hb hby d8_32) rfl (l' := #[.val (.ref a2), .val (.int (i1 + (1 : Int32))), .val (.ref a3), .val (.int i1), .val (.int z1), .val (.int i1), .val (.int c1)]) rfl ?_
  show Steps p.tables e below (T3.setTop (mkF m 35 #[.val (.ref a2), .val (.int (i1 + (1 : Int32))), .val (.ref a3), .val (.int i1), .val (.int z1), .val (.int i1), .val (.int c1)] [])) _
  refine XS.iinc X3.here hx rfl (hb hby d8_35) rfl (l' := #[.val (.ref a2), .val (.int (i1 + (1 : Int32))), .val (.ref a3), .val (.int (i1 + (1 : Int32))), .val (.int z1), .val (.int i1), .val (.int c1)]) rfl ?_
  show Steps p.tables e below (T3.setTop (mkF m 38 #[.val (.ref a2), .val (.int (i1 + (1 : Int32))), .val (.ref a3), .val (.int (i1 + (1 : Int32))), .val (.int z1), .val (.int i1), .val (.int c1)] [])) _
  refine XS.iinc X3.here hx rfl (hb hby d8_38) rfl (l' := #[.val (.ref a2), .val (.int (i1 + (1 : Int32))), .val (.ref a3), .val (.int (i1 + (1 : Int32))), .val (.int z1), .val (.int (i1 + (1 : Int32))), .val (.int c1)]) rfl ?_
  show Steps p.tables e below (T3.setTop (mkF m 41 #[.val (.ref a2), .val (.int (i1 + (1 : Int32))), .val (.ref a3), .val (.int (i1 + (1 : Int32))), .val (.int z1), .val (.int (i1 + (1 : Int32))), .val (.int c1)] [])) _
  refine XS.goto X3.here hx rfl (pc0 := 41) (pc' := 3) rfl (hb hby d8_41) (by decide) (by decide) ?_
  exact kt
theorem d8_44 : decode jdk_52_method_21_code 44 = .ok (.iload 4, 2) := by decide +kernel
theorem t_clend {p : Program} {l : Launch} {e : Env} {R : Room} {s : State} {m : MethodId} {args : Array Value} {below : List Frame} {meth : Method} {c : Code} {T0 : State} {locs : List Loc} {cells slots : Nat} {Z : State} {a0 : Array Value} {h0 : Heap} {n0 : Nat} (cs1 : Int32) (fv : Value) (a2 a3 : Addr) (i1 z1 : Int32) (s6 : Slot)
    (X0 : Stand p l e R s m args below meth c T0 locs cells slots) (hx : p.tables.exec = Jvm.exec) (hZ : Z.Warmed39 s.vm) (hw : own_HW a0 Z) (hby : c.code = jdk_52_method_21_code) (hml : c.maxLocals = 7) (hown : s.vm.findClass "java/lang/StringUTF16" = some m.cls) (e0 : T0.heap = h0) (O0 : Old Z n0 h0) (G : own_Ctx Z Z.heap cs1 fv) (hi2 : ¬ (i1 < z1)) :
    ∃ T' : State, Stand p l e R s m args below meth c T' locs cells slots ∧ T'.heap = h0 ∧ ∀ target, Steps p.tables e below (T'.setTop (mkF m 46 #[.val (.ref a2), .val (.int i1), .val (.ref a3), .val (.int i1), .val (.int z1), .val (.int i1), s6] [(.int z1)])) target → Steps p.tables e below (T0.setTop (mkF m 3 #[.val (.ref a2), .val (.int i1), .val (.ref a3), .val (.int i1), .val (.int z1), .val (.int i1), s6] [])) target := by
  have G0 := G
  obtain ⟨S_CS, N_CS, S_F, R_F, S_AD, S_HI, S_LO⟩ := G
  refine ⟨T0, X0, e0, fun target kt => ?_⟩
  show Steps p.tables e below (T0.setTop (mkF m 3 #[.val (.ref a2), .val (.int i1), .val (.ref a3), .val (.int i1), .val (.int z1), .val (.int i1), s6] [])) _
  refine XS.iload X0.here hx rfl (hb hby d8_3) rfl ?_
  refine XS.iload X0.here hx rfl (hb hby d8_5) rfl ?_
  refine XS.icmpYes X0.here hx rfl (pc0 := 7) (pc' := 44) rfl (hb hby d8_7) rfl (flt (hi2 : ¬ (i1 < z1))).2.1 (by decide) (by decide) ?_
  refine XS.iload X0.here hx rfl (hb hby d8_44) rfl ?_
  exact kt
theorem d8_23 : decode jdk_52_method_21_code 23 = .ok (.iload 5, 2) := by decide +kernel
theorem t_clno {p : Program} {l : Launch} {e : Env} {R : Room} {s : State} {m : MethodId} {args : Array Value} {below : List Frame} {meth : Method} {c : Code} {T0 : State} {locs : List Loc} {cells slots : Nat} {Z : State} {a0 : Array Value} {h0 : Heap} {n0 : Nat} (cs1 : Int32) (fv : Value) (a2 a3 : Addr) (k2 : ClassId) (vs2 : List Value) (i1 z1 c1 : Int32) (s6 : Slot)
    (X0 : Stand p l e R s m args below meth c T0 locs cells slots) (hx : p.tables.exec = Jvm.exec) (hZ : Z.Warmed39 s.vm) (hw : own_HW a0 Z) (hby : c.code = jdk_52_method_21_code) (hml : c.maxLocals = 7) (hown : s.vm.findClass "java/lang/StringUTF16" = some m.cls) (e0 : T0.heap = h0) (N0 : Fr n0 locs) (O0 : Old Z n0 h0) (G : own_Ctx Z Z.heap cs1 fv) (hs6 : One s6) (Va : Arv Z h0 a2 k2 .char z1 vs2 (.int (0 : Int32))) (hi1 : ¬ (i1 < 0)) (hi2 : i1 < z1) (hat : vs2.getD i1.toNatClampNeg (.int (0 : Int32)) = .int c1) (hl : (255 : Int32) < c1) :
    ∃ (T' : State) (h' : Heap) (L' : List Loc), Stand p l e R s m args below meth c T' L' cells slots ∧ T'.heap = h' ∧ Fr n0 L' ∧ Old Z n0 h' ∧ Keep h0 h' [a3] ∧ ∀ target, Steps p.tables e below (T'.setTop (mkF m 25 #[.val (.ref a2), .val (.int i1), .val (.ref a3), .val (.int i1), .val (.int z1), .val (.int i1), .val (.int c1)] [(.int i1)])) target → Steps p.tables e below (T0.setTop (mkF m 3 #[.val (.ref a2), .val (.int i1), .val (.ref a3), .val (.int i1), .val (.int z1), .val (.int i1), s6] [])) target := by
  have G0 := G
  obtain ⟨S_CS, N_CS, S_F, R_F, S_AD, S_HI, S_LO⟩ := G
  have vc1 := Va
  obtain ⟨cl1, Ar1, qk1, S1, Nn1, Hs1, Gf1⟩ := vc1
  have hin1 : ¬ (i1 < 0 ∨ cl1.slots.size ≤ (i1).toNatClampNeg) := inb_of S1 ⟨hi1, hi2⟩
  have hat1 : cl1.slots[(i1).toNatClampNeg]? = some (.int c1) := Has.at Hs1 hin1 hat
  refine ⟨T0, h0, _, X0, e0, N0, O0, (Keep.refl h0 [a3]), fun target kt => ?_⟩
  show Steps p.tables e below (T0.setTop (mkF m 3 #[.val (.ref a2), .val (.int i1), .val (.ref a3), .val (.int i1), .val (.int z1), .val (.int i1), s6] [])) _
  refine XS.iload X0.here hx rfl (hb hby d8_3) rfl ?_
  refine XS.iload X0.here hx rfl (hb hby d8_5) rfl ?_
  refine XS.icmpNo X0.here hx rfl (hb hby d8_7) rfl (tlt (hi2 : i1 < z1)).2.1 ?_
  refine XS.aloadN X0.here hx rfl (hb hby d8_10) rfl rfl ?_
  refine XS.iloadN X0.here hx rfl (hb hby d8_11) rfl ?_
  show Steps p.tables e below (T0.setTop (mkF m 12 #[.val (.ref a2), .val (.int i1), .val (.ref a3), .val (.int i1), .val (.int z1), .val (.int i1), s6] [(.int i1), (.ref a2)])) _
  refine X0.caload hx (j := i1) (v := (.int c1)) (by rw [e0]; exact Ar1.1) (State.isArrayOf_alike hZ.alike Ar1.2.1) Ar1.2.2 hin1 hat1 (g := (mkF m 12 #[.val (.ref a2), .val (.int i1), .val (.ref a3), .val (.int i1), .val (.int z1), .val (.int i1), s6] [(.int i1), (.ref a2)])) rfl rfl (hb hby d8_12) _ ?_
  show Steps p.tables e below (T0.setTop (mkF m 13 #[.val (.ref a2), .val (.int i1), .val (.ref a3), .val (.int i1), .val (.int z1), .val (.int i1), s6] [(.int c1)])) _
  refine XS.istore X0.here hx rfl (hb hby d8_13) rfl (l' := #[.val (.ref a2), .val (.int i1), .val (.ref a3), .val (.int i1), .val (.int z1), .val (.int i1), .val (.int c1)]) (os8_13 hs6) ?_
  refine XS.iload X0.here hx rfl (hb hby d8_15) rfl ?_
  refine XS.sipush X0.here hx rfl (hb hby d8_17) ?_
  refine XS.icmpNo X0.here hx rfl (hb hby d8_20) rfl (tlt (hl : (255 : Int32) < c1)).2.2.2 ?_
  refine XS.iload X0.here hx rfl (hb hby d8_23) rfl ?_
  exact kt
theorem own_clLoop {p : Program} {l : Launch} {e : Env} {R : Room} {s : State} {m : MethodId} {args : Array Value} {below : List Frame} {meth : Method} {c : Code} {cells slots : Nat} {Z : State} {a0 : Array Value} {n0 : Nat} (cs1 : Int32) (fv : Value) (a2 a3 : Addr) (k2 k3 : ClassId) (cs : List Int32)
    (hx : p.tables.exec = Jvm.exec) (hZ : Z.Warmed39 s.vm) (hw : own_HW a0 Z) (hby : c.code = jdk_52_method_21_code) (hml : c.maxLocals = 7) (hown : s.vm.findClass "java/lang/StringUTF16" = some m.cls) (G : own_Ctx Z Z.heap cs1 fv) (ga : n0 ≤ a3) (hne : a2 ≠ a3) (hn : cs.length ≤ 1000) :
    ∀ (k i : Nat) (T0 : State) (h0 : Heap) (locs : List Loc) (s6 : Slot), i + k = cs.length → Stand p l e R s m args below meth c T0 locs cells slots → T0.heap = h0 → Fr n0 locs → Old Z n0 h0 → One s6 → Arv Z h0 a2 k2 .char cs.length.toInt32 (cs.map Value.int) (.int (0 : Int32)) → Arv Z h0 a3 k3 .byte cs.length.toInt32 (own_fill (fun c => nar .byte c.toInt8.toInt32) cs i) (.int (0 : Int32)) → (∀ j, j < i → ∀ hj : j < cs.length, ¬ ((255 : Int32) < cs[j])) →
    ∃ (T' : State) (h' : Heap) (L' : List Loc) (r : Nat) (q : Nat) (Ls : Array Slot), Stand p l e R s m args below meth c T' L' cells slots ∧ T'.heap = h' ∧ Fr n0 L' ∧ Old Z n0 h' ∧ Keep h0 h' [a3] ∧ (q = 25 ∨ q = 46) ∧ (((∀ hj : r < cs.length, (255 : Int32) < cs[r]) ∧ r < cs.length) ∨ (r = cs.length ∧ (∀ j, ∀ hj : j < cs.length, ¬ ((255 : Int32) < cs[j])) ∧ Arv Z h' a3 k3 .byte cs.length.toInt32 (cs.map (fun c => .int (nar .byte c.toInt8.toInt32))) (.int (0 : Int32)))) ∧
      ∀ target, Steps p.tables e below (T'.setTop (mkF m q Ls [(.int r.toInt32)])) target → Steps p.tables e below (T0.setTop (mkF m 3 #[.val (.ref a2), .val (.int i.toInt32), .val (.ref a3), .val (.int i.toInt32), .val (.int cs.length.toInt32), .val (.int i.toInt32), s6] [])) target := by
  intro k
  induction k with
  | zero =>
    intro i T0 h0 locs s6 hi X0 e0 N0 O0 hs6 Va Vb hall
    obtain rfl : i = cs.length := by omega
    obtain ⟨T1, X1, e1, st⟩ := t_clend cs1 fv a2 a3 cs.length.toInt32 cs.length.toInt32 s6 X0 hx hZ hw hby hml hown e0 O0 G (by rw [Int32.lt_iff_toInt_lt]; omega)
    exact ⟨T1, h0, locs, cs.length, 46, _, X1, e1, N0, O0, Keep.refl _ _, Or.inr rfl, Or.inr ⟨rfl, fun j hj => hall j hj hj, by rw [← own_fill_all]; exact Vb⟩, st⟩
  | succ k ih =>
    intro i T0 h0 locs s6 hi X0 e0 N0 O0 hs6 Va Vb hall
    have hlt : i < cs.length := by omega
    obtain ⟨t1, t2, t3⟩ := own_ti (i := i) (by omega)
    by_cases hq : (255 : Int32) < cs[i]
    · obtain ⟨T1, h1, L1, X1, e1, N1, O1, K1, st1⟩ := t_clno cs1 fv a2 a3 k2 (cs.map Value.int) i.toInt32 cs.length.toInt32 cs[i] s6 X0 hx hZ hw hby hml hown e0 N0 O0 G hs6 Va t2 (own_tl hlt hn) (by rw [t1]; exact own_at hlt) hq
      exact ⟨T1, h1, L1, i, 25, _, X1, e1, N1, O1, K1, Or.inl rfl, Or.inl ⟨fun _ => hq, hlt⟩, st1⟩
    · obtain ⟨T1, h1, L1, X1, e1, N1, O1, K1, V2, V3, st1⟩ := t_cl cs1 fv a2 a3 k2 k3 (cs.map Value.int) (own_fill (fun c => nar .byte c.toInt8.toInt32) cs i) i.toInt32 cs.length.toInt32 cs[i] s6 X0 hx hZ hw hby hml hown e0 N0 O0 G hs6 Va Vb ga hne t2 (own_tl hlt hn) (by rw [t1]; exact own_at hlt) hq (by rw [t1, own_fill_len _ _ (Nat.le_of_lt hlt)]; exact hlt)
      rw [t1, own_fill_set (fun c => nar .byte c.toInt8.toInt32) cs hlt] at V3
      rw [own_ts (by omega)] at st1
      obtain ⟨T', h', L', r, q, Ls, X', e', N', O', K', hq', hr, st'⟩ := ih (i + 1) T1 h1 L1 (.val (.int cs[i])) (by omega) X1 e1 N1 O1 (One.val (w := .int cs[i]) rfl) V2 V3 (fun j hj hj' => by
        by_cases u : j = i
        · subst u; exact hq
        · exact hall j (by omega) hj')
      exact ⟨T', h', L', r, q, Ls, X', e', N', O', K1.trans K' (allS (Or.inl (List.mem_singleton.mpr rfl)) all0), hq', hr, fun target kt => st1 _ (st' _ kt)⟩

theorem d8_25 : decode jdk_52_method_21_code 25 = .ok (.ireturn, 1) := by decide +kernel
theorem d8_46 : decode jdk_52_method_21_code 46 = .ok (.ireturn, 1) := by decide +kernel
theorem d8_0 : decode jdk_52_method_21_code 0 = .ok (.iconst 0, 1) := by decide +kernel
theorem d8_1 : decode jdk_52_method_21_code 1 = .ok (.istore 5, 2) := by decide +kernel
theorem ef_8_0 (m : MethodId) (x0 : Addr) (x1 : Int32) (x2 : Addr) (x3 : Int32) (x4 : Int32) : entryFrame m #[(.ref x0), (.int x1), (.ref x2), (.int x3), (.int x4)] 7 = mkF m 0 #[.val (.ref x0), .val (.int x1), .val (.ref x2), .val (.int x3), .val (.int x4), .unset, .unset] [] := by first | (simp [entryFrame, mkF, argsToLocals, Value.category]; done) | rfl
theorem pn_0 : plainName "java/lang/StringUTF16" = true := by first | (simp [plainName, overriddenIn]; done) | decide +kernel
theorem r_clA (l : Launch) (Z : State) (a0 : Array Value) (hw : own_HW a0 Z) (ws : List Jvm.Cond) (cs1 : Int32) (fv : Value) (h0 : Heap) (n0 : Nat) (O0 : Old Z n0 h0) (G : own_Ctx Z Z.heap cs1 fv) (a2 a3 : Addr) (k2 k3 : ClassId) (cs : List Int32) (hn1 : cs.length ≤ 1000) (Va : Arv Z h0 a2 k2 .char cs.length.toInt32 (cs.map Value.int) (.int (0 : Int32))) (Vb : Arv Z h0 a3 k3 .byte cs.length.toInt32 (List.replicate cs.length (.int (0 : Int32))) (.int (0 : Int32))) (ga : n0 ≤ a3) (hne : a2 ≠ a3) (hl : ∀ j, ∀ hj : j < cs.length, ¬ ((255 : Int32) < cs[j])) :
    own_M l Y0_ (head1 (Jvm.Cond.code Y0_ jdk_52_method_21_code 7 (some .int) :: ws) (own_rm_ 0 0 0 0)) #[(.ref a2), (.int (0 : Int32)), (.ref a3), (.int (0 : Int32)), (.int cs.length.toInt32)] Z h0 n0 (own_QW Z (some (.int cs.length.toInt32)) a3 k3 .byte cs.length.toInt32 (cs.map (fun c => .int (nar .byte c.toInt8.toInt32)))) (own_rm_ 0 0 0 0).cells (own_rm_ 0 0 0 0).slots := by
  have G0 := G
  obtain ⟨S_CS, N_CS, S_F, R_F, S_AD, S_HI, S_LO⟩ := G
  refine MetFree.of_bodySF (plainFor_of_name pn_0) hisR ?_
  intro p e s m args below meth c s₁ Bd hml0 hP hK
  obtain ⟨rfl, hZ, hh⟩ := hP
  have hx := Bd.exec
  have hby := Bd.bytes
  have hml : c.maxLocals = 7 := hml0
  have hown : s.vm.findClass "java/lang/StringUTF16" = some m.cls := findClass_of_methodNamed Bd.named
  have hnm := (name_of_methodNamed Bd.named Bd.method).1
  have X0 : Stand p l e (own_rm_ 0 0 0 0) s m #[(.ref a2), (.int (0 : Int32)), (.ref a3), (.int (0 : Int32)), (.int cs.length.toInt32)] below meth c s₁ [] 0 0 := Stand.of_body Bd
  have e0 : s₁.heap = h0 := by rw [← hh, Bd.state]; rfl
  have N0 := Fr.nil n0
  have pre0 := own_pre (tb := p.tables) (e := e) (below := below) (T := s₁) (ef_8_0 m a2 (0 : Int32) a3 (0 : Int32) cs.length.toInt32)
  have vb0 : Arv Z h0 a3 k3 .byte cs.length.toInt32 (own_fill (fun c => nar .byte c.toInt8.toInt32) cs 0) (.int (0 : Int32)) := by simpa [own_fill] using Vb
  obtain ⟨T9, h9, L9, r9, q9, Ls9, X9, e9, N9, O9, K9, hq9, hr9, st9⟩ := own_clLoop cs1 fv a2 a3 k2 k3 cs hx hZ hw hby hml hown G0 ga hne hn1 cs.length 0 _ _ _ .unset (by omega) X0 e0 N0 O0 One.u Va vb0 (fun j hj => absurd hj (Nat.not_lt_zero _))
  rcases hr9 with ⟨u9, v9⟩ | ⟨hr8, -, V9⟩
  · exact absurd (u9 v9) (hl _ v9)
  subst hr8
  subst e9
  obtain ⟨fs, hr, hrun, hended, hW, hsame⟩ := X9.leave (v := some (.int cs.length.toInt32)) (fun h => by rw [Bd.returns] at h; cases h)
  refine ⟨_, _, pre0 _ ?_, hrun, hended, _, _, rfl, ?_, ⟨_, rfl⟩, hW, hsame.mono (by decide) (by decide)⟩
  · show Steps p.tables e below (s₁.setTop (mkF m 0 #[.val (.ref a2), .val (.int (0 : Int32)), .val (.ref a3), .val (.int (0 : Int32)), .val (.int cs.length.toInt32), .unset, .unset] [])) _
    refine XS.iconst X0.here hx rfl (hb hby d8_0) ?_
    refine XS.istore X0.here hx rfl (hb hby d8_1) rfl (l' := #[.val (.ref a2), .val (.int (0 : Int32)), .val (.ref a3), .val (.int (0 : Int32)), .val (.int cs.length.toInt32), .val (.int (0 : Int32)), .unset]) rfl ?_
    show Steps p.tables e below (s₁.setTop (mkF m 3 #[.val (.ref a2), .val (.int (0 : Nat).toInt32), .val (.ref a3), .val (.int (0 : Nat).toInt32), .val (.int cs.length.toInt32), .val (.int (0 : Nat).toInt32), .unset] [])) _
    refine st9 _ ?_
    rcases hq9 with rfl | rfl
    · exact retI X9 hx Bd.returns (hb hby d8_25) hr
    · exact retI X9 hx Bd.returns (hb hby d8_46) hr
  · exact ⟨rfl, N9, K9, V9⟩
def own_Qcb (cs : List Int32) (a3 : Addr) (h0 : Heap) (n0 : Nat) (v : Option Value) (h : Heap) (L : List Loc) : Prop := ∃ r : Nat, v = some (.int r.toInt32) ∧ Fr n0 L ∧ Keep h0 h [a3] ∧ ∃ hr : r < cs.length, (255 : Int32) < cs[r]
theorem r_clB (l : Launch) (Z : State) (a0 : Array Value) (hw : own_HW a0 Z) (ws : List Jvm.Cond) (cs1 : Int32) (fv : Value) (h0 : Heap) (n0 : Nat) (O0 : Old Z n0 h0) (G : own_Ctx Z Z.heap cs1 fv) (a2 a3 : Addr) (k2 k3 : ClassId) (cs : List Int32) (hn1 : cs.length ≤ 1000) (Va : Arv Z h0 a2 k2 .char cs.length.toInt32 (cs.map Value.int) (.int (0 : Int32))) (Vb : Arv Z h0 a3 k3 .byte cs.length.toInt32 (List.replicate cs.length (.int (0 : Int32))) (.int (0 : Int32))) (ga : n0 ≤ a3) (hne : a2 ≠ a3) (hl : ∃ j, ∃ hj : j < cs.length, (255 : Int32) < cs[j]) :
    own_M l Y0_ (head1 (Jvm.Cond.code Y0_ jdk_52_method_21_code 7 (some .int) :: ws) (own_rm_ 0 0 0 0)) #[(.ref a2), (.int (0 : Int32)), (.ref a3), (.int (0 : Int32)), (.int cs.length.toInt32)] Z h0 n0 (own_Qcb cs a3) (own_rm_ 0 0 0 0).cells (own_rm_ 0 0 0 0).slots := by
  have G0 := G
  obtain ⟨S_CS, N_CS, S_F, R_F, S_AD, S_HI, S_LO⟩ := G
  refine MetFree.of_bodySF (plainFor_of_name pn_0) hisR ?_
  intro p e s m args below meth c s₁ Bd hml0 hP hK
  obtain ⟨rfl, hZ, hh⟩ := hP
  have hx := Bd.exec
  have hby := Bd.bytes
  have hml : c.maxLocals = 7 := hml0
  have hown : s.vm.findClass "java/lang/StringUTF16" = some m.cls := findClass_of_methodNamed Bd.named
  have hnm := (name_of_methodNamed Bd.named Bd.method).1
  have X0 : Stand p l e (own_rm_ 0 0 0 0) s m #[(.ref a2), (.int (0 : Int32)), (.ref a3), (.int (0 : Int32)), (.int cs.length.toInt32)] below meth c s₁ [] 0 0 := Stand.of_body Bd
  have e0 : s₁.heap = h0 := by rw [← hh, Bd.state]; rfl
  have N0 := Fr.nil n0
  have pre0 := own_pre (tb := p.tables) (e := e) (below := below) (T := s₁) (ef_8_0 m a2 (0 : Int32) a3 (0 : Int32) cs.length.toInt32)
  have vb0 : Arv Z h0 a3 k3 .byte cs.length.toInt32 (own_fill (fun c => nar .byte c.toInt8.toInt32) cs 0) (.int (0 : Int32)) := by simpa [own_fill] using Vb
  obtain ⟨T9, h9, L9, r9, q9, Ls9, X9, e9, N9, O9, K9, hq9, hr9, st9⟩ := own_clLoop cs1 fv a2 a3 k2 k3 cs hx hZ hw hby hml hown G0 ga hne hn1 cs.length 0 _ _ _ .unset (by omega) X0 e0 N0 O0 One.u Va vb0 (fun j hj => absurd hj (Nat.not_lt_zero _))
  obtain ⟨u9, v9⟩ : _ ∧ r9 < cs.length := hr9.resolve_right (fun q => by obtain ⟨j, hj, hc⟩ := hl; exact q.2.1 j hj hc)
  subst e9
  obtain ⟨fs, hr, hrun, hended, hW, hsame⟩ := X9.leave (v := some (.int r9.toInt32)) (fun h => by rw [Bd.returns] at h; cases h)
  refine ⟨_, _, pre0 _ ?_, hrun, hended, _, _, rfl, ?_, ⟨_, rfl⟩, hW, hsame.mono (by decide) (by decide)⟩
  · show Steps p.tables e below (s₁.setTop (mkF m 0 #[.val (.ref a2), .val (.int (0 : Int32)), .val (.ref a3), .val (.int (0 : Int32)), .val (.int cs.length.toInt32), .unset, .unset] [])) _
    refine XS.iconst X0.here hx rfl (hb hby d8_0) ?_
    refine XS.istore X0.here hx rfl (hb hby d8_1) rfl (l' := #[.val (.ref a2), .val (.int (0 : Int32)), .val (.ref a3), .val (.int (0 : Int32)), .val (.int cs.length.toInt32), .val (.int (0 : Int32)), .unset]) rfl ?_
    show Steps p.tables e below (s₁.setTop (mkF m 3 #[.val (.ref a2), .val (.int (0 : Nat).toInt32), .val (.ref a3), .val (.int (0 : Nat).toInt32), .val (.int cs.length.toInt32), .val (.int (0 : Nat).toInt32), .unset] [])) _
    refine st9 _ ?_
    rcases hq9 with rfl | rfl
    · exact retI X9 hx Bd.returns (hb hby d8_25) hr
    · exact retI X9 hx Bd.returns (hb hby d8_46) hr
  · exact ⟨r9, rfl, N9, K9, v9, u9 v9⟩
theorem own_shl1 {i : Nat} (h : i ≤ 1000) : i.toInt32 <<< ((1 : Int32) &&& 31) = (2 * i).toInt32 := by
  apply Int32.toInt_inj.mp
  have e := len_toInt (n := i) (by omega)
  have e1 := len_toInt (n := 2 * i) (by omega)
  rw [Jvm.Kit.i32_shl _ _ (k := 1) (by decide) (by omega) (by omega), e, e1]; omega
theorem own_small {n k : Nat} (h : n ≤ k) (hk : k ≤ 1000) : n.toInt32 < (1073741823 : Int32) := by
  have e := len_toInt (n := n) (by omega)
  have z : (1073741823 : Int32).toInt = 1073741823 := rfl
  rw [Int32.lt_iff_toInt_lt, e, z]; omega

def own_two (c : Int32) : List Value := [.int (nar .byte ((c >>> ((0 : Int32) &&& 31)).toInt8.toInt32)), .int (nar .byte ((c >>> ((8 : Int32) &&& 31)).toInt8.toInt32))]
def own_fill2 (cs : List Int32) (i : Nat) : List Value := (cs.take i).flatMap own_two ++ List.replicate (2 * (cs.length - i)) (.int (0 : Int32))
theorem own_two_len (l : List Int32) : (l.flatMap own_two).length = 2 * l.length := by
  induction l with
  | nil => rfl
  | cons c l ih => simp only [List.flatMap_cons, List.length_append, ih, List.length_cons, own_two, List.length_nil]; omega
theorem own_fill2_len (cs : List Int32) {i : Nat} (h : i ≤ cs.length) : (own_fill2 cs i).length = 2 * cs.length := by
  simp only [own_fill2, List.length_append, own_two_len, List.length_take, List.length_replicate]; omega
theorem own_fill2_set (cs : List Int32) {i : Nat} (h : i < cs.length) : ((own_fill2 cs i).set (2 * i) (.int (nar .byte ((cs[i] >>> ((0 : Int32) &&& 31)).toInt8.toInt32)))).set (2 * i + 1) (.int (nar .byte ((cs[i] >>> ((8 : Int32) &&& 31)).toInt8.toInt32))) = own_fill2 cs (i + 1) := by
  have hA : ((cs.take i).flatMap own_two).length = 2 * i := by rw [own_two_len, List.length_take]; omega
  have hr : List.replicate (2 * (cs.length - i)) (Value.int (0 : Int32)) = .int (0 : Int32) :: .int (0 : Int32) :: List.replicate (2 * (cs.length - (i + 1))) (Value.int (0 : Int32)) := by
    rw [show 2 * (cs.length - i) = 2 * (cs.length - (i + 1)) + 1 + 1 by omega, List.replicate_succ, List.replicate_succ]
  have ht : cs.take (i + 1) = cs.take i ++ [cs[i]] := by rw [List.take_append_getElem h]
  simp only [own_fill2, hr, ht, List.flatMap_append, List.flatMap_cons, List.flatMap_nil, List.append_nil]
  generalize (cs.take i).flatMap own_two = A at *
  rw [List.set_append_right _ _ (by omega), hA, Nat.sub_self, List.set_cons_zero, List.set_append_right _ _ (by omega), hA, show 2 * i + 1 - 2 * i = 1 by omega]
  simp [own_two]
theorem own_fill2_all (cs : List Int32) : own_fill2 cs cs.length = cs.flatMap own_two := by simp [own_fill2]

theorem d20_0 : decode jdk_52_method_3_code 0 = .ok (.iload_n 0, 1) := by decide +kernel
theorem d20_1 : decode jdk_52_method_3_code 1 = .ok (.ifCond .ge 11, 3) := by decide +kernel
theorem d20_12 : decode jdk_52_method_3_code 12 = .ok (.iload_n 0, 1) := by decide +kernel
theorem d20_13 : decode jdk_52_method_3_code 13 = .ok (.ldc 20, 2) := by decide +kernel
theorem d20_15 : decode jdk_52_method_3_code 15 = .ok (.if_icmp .lt 40, 3) := by decide +kernel
theorem d20_55 : decode jdk_52_method_3_code 55 = .ok (.iload_n 0, 1) := by decide +kernel
theorem d20_56 : decode jdk_52_method_3_code 56 = .ok (.iconst 1, 1) := by decide +kernel
theorem d20_57 : decode jdk_52_method_3_code 57 = .ok (.ishl, 1) := by decide +kernel
theorem d20_58 : decode jdk_52_method_3_code 58 = .ok (.ireturn, 1) := by decide +kernel
theorem ef_20_1 (m : MethodId) (x0 : Int32) : entryFrame m #[(.int x0)] 1 = mkF m 0 #[.val (.int x0)] [] := by first | (simp [entryFrame, mkF, argsToLocals, Value.category]; done) | rfl
theorem r_nbl (l : Launch) (Z : State) (a0 : Array Value) (hw : own_HW a0 Z) (ws : List Jvm.Cond) (cs1 : Int32) (fv : Value) (h0 : Heap) (n0 : Nat) (O0 : Old Z n0 h0) (G : own_Ctx Z Z.heap cs1 fv) (cs : List Int32) (hn : cs.length ≤ 4) :
    own_M l Y1_ (head1 (Jvm.Cond.code Y1_ jdk_52_method_3_code 1 (some .int) :: ws) (own_rm_ 0 0 0 0)) #[(.int cs.length.toInt32)] Z h0 n0 (own_Q (some (.int (2 * cs.length).toInt32))) (own_rm_ 0 0 0 0).cells (own_rm_ 0 0 0 0).slots := by
  have G0 := G
  obtain ⟨S_CS, N_CS, S_F, R_F, S_AD, S_HI, S_LO⟩ := G
  refine MetFree.of_bodySF (plainFor_of_name pn_0) hisR ?_
  intro p e s m args below meth c s₁ Bd hml0 hP hK
  obtain ⟨rfl, hZ, hh⟩ := hP
  have hx := Bd.exec
  have hby := Bd.bytes
  have hml : c.maxLocals = 1 := hml0
  have hown : s.vm.findClass "java/lang/StringUTF16" = some m.cls := findClass_of_methodNamed Bd.named
  have hnm := (name_of_methodNamed Bd.named Bd.method).1
  have X0 : Stand p l e (own_rm_ 0 0 0 0) s m #[(.int cs.length.toInt32)] below meth c s₁ [] 0 0 := Stand.of_body Bd
  have e0 : s₁.heap = h0 := by rw [← hh, Bd.state]; rfl
  have N0 := Fr.nil n0
  have pre0 := own_pre (tb := p.tables) (e := e) (below := below) (T := s₁) (ef_20_1 m cs.length.toInt32)
  obtain ⟨fs, hr, hrun, hended, hW, hsame⟩ := X0.leave (v := some (.int (2 * cs.length).toInt32)) (fun h => by rw [Bd.returns] at h; cases h)
  refine ⟨_, _, pre0 _ ?_, hrun, hended, _, _, rfl, ?_, ⟨_, rfl⟩, hW, hsame.mono (by decide) (by decide)⟩
  · show Steps p.tables e below (s₁.setTop (mkF m 0 #[.val (.int cs.length.toInt32)] [])) _
    refine XS.iloadN X0.here hx rfl (hb hby d20_0) rfl ?_
    refine XS.ifYes X0.here hx rfl (pc0 := 1) (pc' := 12) rfl (hb hby d20_1) rfl ((if0 _ _).trans (flt ((own_ti (i := cs.length) (by omega)).2.1 : ¬ (cs.length.toInt32 < (0 : Int32)))).2.1) (by decide) (by decide) ?_
    refine XS.iloadN X0.here hx rfl (hb hby d20_12) rfl ?_
    show Steps p.tables e below (s₁.setTop (mkF m 13 #[.val (.int cs.length.toInt32)] [(.int cs.length.toInt32)])) _
    refine X0.ldcInt hx hown (mvT hZ (own_w hw 90 rfl)) (g := (mkF m 13 #[.val (.int cs.length.toInt32)] [(.int cs.length.toInt32)])) rfl (hb hby d20_13) _ ?_
    show Steps p.tables e below (s₁.setTop (mkF m 15 #[.val (.int cs.length.toInt32)] [(.int (1073741823 : Int32)), (.int cs.length.toInt32)])) _
    refine XS.icmpYes X0.here hx rfl (pc0 := 15) (pc' := 55) rfl (hb hby d20_15) rfl (tlt (own_small hn (by decide) : cs.length.toInt32 < (1073741823 : Int32))).1 (by decide) (by decide) ?_
    refine XS.iloadN X0.here hx rfl (hb hby d20_55) rfl ?_
    refine XS.iconst X0.here hx rfl (hb hby d20_56) ?_
    show Steps p.tables e below (s₁.setTop (mkF m 57 #[.val (.int cs.length.toInt32)] [(.int (1 : Int32)), (.int cs.length.toInt32)])) _
    refine XS.ishl X0.here hx rfl (hb hby d20_57) rfl ?_
    show Steps p.tables e below (s₁.setTop (mkF m 58 #[.val (.int cs.length.toInt32)] [(.int (cs.length.toInt32 <<< ((1 : Int32) &&& 31)))])) _
    rw [own_shl1 (i := cs.length) (by omega)]
    show Steps p.tables e below (s₁.setTop (mkF m 58 #[.val (.int cs.length.toInt32)] [(.int (2 * cs.length).toInt32)])) _
    exact retI X0 hx Bd.returns (hb hby d20_58) hr
  · show own_Q (some (.int (2 * cs.length).toInt32)) h0 n0 _ s₁.heap _
    rw [e0]
    exact ⟨rfl, N0, rfl⟩
theorem d21_0 : decode jdk_52_method_4_code 0 = .ok (.getstatic 44, 3) := by decide +kernel
theorem d21_3 : decode jdk_52_method_4_code 3 = .ok (.ifCond .ne 25, 3) := by decide +kernel
theorem d21_28 : decode jdk_52_method_4_code 28 = .ok (.iload_n 1, 1) := by decide +kernel
theorem d21_29 : decode jdk_52_method_4_code 29 = .ok (.iconst 1, 1) := by decide +kernel
theorem d21_30 : decode jdk_52_method_4_code 30 = .ok (.ishl, 1) := by decide +kernel
theorem d21_31 : decode jdk_52_method_4_code 31 = .ok (.istore_n 1, 1) := by decide +kernel
theorem d21_32 : decode jdk_52_method_4_code 32 = .ok (.aload_n 0, 1) := by decide +kernel
theorem d21_33 : decode jdk_52_method_4_code 33 = .ok (.iload_n 1, 1) := by decide +kernel
theorem d21_34 : decode jdk_52_method_4_code 34 = .ok (.iinc 1 1, 3) := by decide +kernel
theorem d21_37 : decode jdk_52_method_4_code 37 = .ok (.iload_n 2, 1) := by decide +kernel
theorem d21_38 : decode jdk_52_method_4_code 38 = .ok (.getstatic 59, 3) := by decide +kernel
theorem d21_41 : decode jdk_52_method_4_code 41 = .ok (.ishr, 1) := by decide +kernel
theorem d21_42 : decode jdk_52_method_4_code 42 = .ok (.i2b, 1) := by decide +kernel
theorem d21_43 : decode jdk_52_method_4_code 43 = .ok (.bastore, 1) := by decide +kernel
theorem d21_44 : decode jdk_52_method_4_code 44 = .ok (.aload_n 0, 1) := by decide +kernel
theorem d21_45 : decode jdk_52_method_4_code 45 = .ok (.iload_n 1, 1) := by decide +kernel
theorem d21_46 : decode jdk_52_method_4_code 46 = .ok (.iload_n 2, 1) := by decide +kernel
theorem d21_47 : decode jdk_52_method_4_code 47 = .ok (.getstatic 63, 3) := by decide +kernel
theorem d21_50 : decode jdk_52_method_4_code 50 = .ok (.ishr, 1) := by decide +kernel
theorem d21_51 : decode jdk_52_method_4_code 51 = .ok (.i2b, 1) := by decide +kernel
theorem d21_52 : decode jdk_52_method_4_code 52 = .ok (.bastore, 1) := by decide +kernel
theorem d21_53 : decode jdk_52_method_4_code 53 = .ok (.return_, 1) := by decide +kernel
theorem ef_21_2 (m : MethodId) (x0 : Addr) (x1 : Int32) (x2 : Int32) : entryFrame m #[(.ref x0), (.int x1), (.int x2)] 3 = mkF m 0 #[.val (.ref x0), .val (.int x1), .val (.int x2)] [] := by first | (simp [entryFrame, mkF, argsToLocals, Value.category]; done) | rfl
theorem r_pc (l : Launch) (Z : State) (a0 : Array Value) (hw : own_HW a0 Z) (ws : List Jvm.Cond) (cs1 : Int32) (fv : Value) (h0 : Heap) (n0 : Nat) (O0 : Old Z n0 h0) (G : own_Ctx Z Z.heap cs1 fv) (a3 : Addr) (k3 : ClassId) (vs3 : List Value) (z1 c1 : Int32) (i : Nat) (Vb : Arv Z h0 a3 k3 .byte z1 vs3 (.int (0 : Int32))) (ga : n0 ≤ a3) (hi : i ≤ 400) (hz : 2 * i + 1 < vs3.length) (hz1 : z1 = vs3.length.toInt32) (hz2 : vs3.length ≤ 1000) :
    own_M l Y2_ (head1 (Jvm.Cond.code Y2_ jdk_52_method_4_code 3 none :: ws) (own_rm_ 0 0 0 0)) #[(.ref a3), (.int i.toInt32), (.int c1)] Z h0 n0 (own_QW Z none a3 k3 .byte z1 ((vs3.set (2 * i) (.int (nar .byte ((c1 >>> ((0 : Int32) &&& 31)).toInt8.toInt32)))).set (2 * i + 1) (.int (nar .byte ((c1 >>> ((8 : Int32) &&& 31)).toInt8.toInt32))))) (own_rm_ 0 0 0 0).cells (own_rm_ 0 0 0 0).slots := by
  have G0 := G
  obtain ⟨S_CS, N_CS, S_F, R_F, S_AD, S_HI, S_LO⟩ := G
  refine MetFree.of_bodySF (plainFor_of_name pn_0) hisR ?_
  intro p e s m args below meth c s₁ Bd hml0 hP hK
  obtain ⟨rfl, hZ, hh⟩ := hP
  have hx := Bd.exec
  have hby := Bd.bytes
  have hml : c.maxLocals = 3 := hml0
  have hown : s.vm.findClass "java/lang/StringUTF16" = some m.cls := findClass_of_methodNamed Bd.named
  have hnm := (name_of_methodNamed Bd.named Bd.method).1
  have X0 : Stand p l e (own_rm_ 0 0 0 0) s m #[(.ref a3), (.int i.toInt32), (.int c1)] below meth c s₁ [] 0 0 := Stand.of_body Bd
  have e0 : s₁.heap = h0 := by rw [← hh, Bd.state]; rfl
  have N0 := Fr.nil n0
  have pre0 := own_pre (tb := p.tables) (e := e) (below := below) (T := s₁) (ef_21_2 m a3 i.toInt32 c1)
  obtain ⟨T1, X1, e1, st1⟩ := getS2 X0 hx hZ hown (host := "") (Or.inl (own_w hw 94 rfl)) Via.refl e0 (S_AD.ext O0.2) (g := (mkF m 0 #[.val (.ref a3), .val (.int i.toInt32), .val (.int c1)] [])) rfl (hb hby d21_0)
  obtain ⟨T2, X2, e2, st2⟩ := getS2 X1 hx hZ hown (host := "") (Or.inl (own_w hw 95 rfl)) Via.refl e1 (S_HI.ext O0.2) (g := (mkF m 38 #[.val (.ref a3), .val (.int (2 * i + 1).toInt32), .val (.int c1)] [(.int c1), (.int (2 * i).toInt32), (.ref a3)])) rfl (hb hby d21_38)
  have vc3 := Vb
  obtain ⟨cl3, Ar3, qk3, S3, Nn3, Hs3, Gf3⟩ := vc3
  have hin3 : ¬ ((2 * i).toInt32 < 0 ∨ cl3.slots.size ≤ ((2 * i).toInt32).toNatClampNeg) := inb_of S3 ⟨(own_ti (i := 2 * i) (by omega)).2.1, by rw [hz1]; exact own_tl (by omega) hz2⟩
  obtain ⟨T4, h4, X4, e4, W4, st4⟩ := stB X2 hx hZ e2 Ar3 (j := (2 * i).toInt32) hin3 (g := (mkF m 43 #[.val (.ref a3), .val (.int (2 * i + 1).toInt32), .val (.int c1)] [(.int ((c1 >>> ((0 : Int32) &&& 31)).toInt8.toInt32)), (.int (2 * i).toInt32), (.ref a3)])) rfl rfl (hb hby d21_43)
  have O4 := O0.wr W4 ga
  have K4 : Keep h0 h4 [a3] := (Keep.refl h0 [a3]).wr W4 (Or.inl (List.mem_of_getElem? (i := 0) rfl))
  have N4 := Fr.snoc X4 N0 ga
  have f5 : Arv Z h4 a3 k3 .byte z1 (List.set vs3 ((2 * i).toInt32).toNatClampNeg (.int (nar .byte ((c1 >>> ((0 : Int32) &&& 31)).toInt8.toInt32)))) (.int (0 : Int32)) := Arv.set Ar3 qk3 S3 Nn3 Hs3 Gf3 (fits_nar_byte _) W4 ((2 * i).toInt32).toNatClampNeg rfl (by rw [(own_ti (i := 2 * i) (by omega)).1]; omega)
  obtain ⟨T6, X6, e6, st6⟩ := getS2 X4 hx hZ hown (host := "") (Or.inl (own_w hw 96 rfl)) Via.refl e4 (S_LO.ext O4.2) (g := (mkF m 47 #[.val (.ref a3), .val (.int (2 * i + 1).toInt32), .val (.int c1)] [(.int c1), (.int (2 * i + 1).toInt32), (.ref a3)])) rfl (hb hby d21_47)
  have vc7 := f5
  obtain ⟨cl7, Ar7, qk7, S7, Nn7, Hs7, Gf7⟩ := vc7
  have hin7 : ¬ ((2 * i + 1).toInt32 < 0 ∨ cl7.slots.size ≤ ((2 * i + 1).toInt32).toNatClampNeg) := inb_of S7 ⟨(own_ti (i := 2 * i + 1) (by omega)).2.1, by rw [hz1]; exact own_tl (by omega) hz2⟩
  obtain ⟨T8, h8, X8, e8, W8, st8⟩ := stB X6 hx hZ e6 Ar7 (j := (2 * i + 1).toInt32) hin7 (g := (mkF m 52 #[.val (.ref a3), .val (.int (2 * i + 1).toInt32), .val (.int c1)] [(.int ((c1 >>> ((8 : Int32) &&& 31)).toInt8.toInt32)), (.int (2 * i + 1).toInt32), (.ref a3)])) rfl rfl (hb hby d21_52)
  have O8 := O4.wr W8 ga
  have K8 : Keep h0 h8 [a3] := K4.wr W8 (Or.inl (List.mem_of_getElem? (i := 0) rfl))
  have N8 := Fr.snoc X8 N4 ga
  have f9 : Arv Z h8 a3 k3 .byte z1 (List.set (List.set vs3 ((2 * i).toInt32).toNatClampNeg (.int (nar .byte ((c1 >>> ((0 : Int32) &&& 31)).toInt8.toInt32)))) ((2 * i + 1).toInt32).toNatClampNeg (.int (nar .byte ((c1 >>> ((8 : Int32) &&& 31)).toInt8.toInt32)))) (.int (0 : Int32)) := Arv.set Ar7 qk7 S7 Nn7 Hs7 Gf7 (fits_nar_byte _) W8 ((2 * i + 1).toInt32).toNatClampNeg rfl (by rw [(own_ti (i := 2 * i + 1) (by omega)).1, List.length_set]; omega)
  obtain ⟨fs, hr, hrun, hended, hW, hsame⟩ := X8.leave (v := none) (fun _ => rfl)
  refine ⟨_, _, pre0 _ ?_, hrun, hended, _, _, rfl, ?_, ⟨_, rfl⟩, hW, hsame.mono (by decide) (by decide)⟩
  · show Steps p.tables e below (s₁.setTop (mkF m 0 #[.val (.ref a3), .val (.int i.toInt32), .val (.int c1)] [])) _
    refine st1 _ ?_
    show Steps p.tables e below (T1.setTop (mkF m 3 #[.val (.ref a3), .val (.int i.toInt32), .val (.int c1)] [(.int (1 : Int32))])) _
    refine XS.ifYes X1.here hx rfl (pc0 := 3) (pc' := 28) rfl (hb hby d21_3) rfl ((if0 _ _).trans (feq (by decide : ¬ ((1 : Int32) = (0 : Int32)))).2) (by decide) (by decide) ?_
    refine XS.iloadN X1.here hx rfl (hb hby d21_28) rfl ?_
    refine XS.iconst X1.here hx rfl (hb hby d21_29) ?_
    show Steps p.tables e below (T1.setTop (mkF m 30 #[.val (.ref a3), .val (.int i.toInt32), .val (.int c1)] [(.int (1 : Int32)), (.int i.toInt32)])) _
    refine XS.ishl X1.here hx rfl (hb hby d21_30) rfl ?_
    show Steps p.tables e below (T1.setTop (mkF m 31 #[.val (.ref a3), .val (.int i.toInt32), .val (.int c1)] [(.int (i.toInt32 <<< ((1 : Int32) &&& 31)))])) _
    rw [own_shl1 (i := i) (by omega)]
    show Steps p.tables e below (T1.setTop (mkF m 31 #[.val (.ref a3), .val (.int i.toInt32), .val (.int c1)] [(.int (2 * i).toInt32)])) _
    refine XS.istoreN X1.here hx rfl (hb hby d21_31) rfl (l' := #[.val (.ref a3), .val (.int (2 * i).toInt32), .val (.int c1)]) rfl ?_
    refine XS.aloadN X1.here hx rfl (hb hby d21_32) rfl rfl ?_
    refine XS.iloadN X1.here hx rfl (hb hby d21_33) rfl ?_
    show Steps p.tables e below (T1.setTop (mkF m 34 #[.val (.ref a3), .val (.int (2 * i).toInt32), .val (.int c1)] [(.int (2 * i).toInt32), (.ref a3)])) _
    refine XS.iinc X1.here hx rfl (hb hby d21_34) rfl (l' := #[.val (.ref a3), .val (.int ((2 * i).toInt32 + (1 : Int32))), .val (.int c1)]) rfl ?_
    show Steps p.tables e below (T1.setTop (mkF m 37 #[.val (.ref a3), .val (.int ((2 * i).toInt32 + (1 : Int32))), .val (.int c1)] [(.int (2 * i).toInt32), (.ref a3)])) _
    rw [own_ts (i := 2 * i) (by omega)]
    show Steps p.tables e below (T1.setTop (mkF m 37 #[.val (.ref a3), .val (.int (2 * i + 1).toInt32), .val (.int c1)] [(.int (2 * i).toInt32), (.ref a3)])) _
    refine XS.iloadN X1.here hx rfl (hb hby d21_37) rfl ?_
    show Steps p.tables e below (T1.setTop (mkF m 38 #[.val (.ref a3), .val (.int (2 * i + 1).toInt32), .val (.int c1)] [(.int c1), (.int (2 * i).toInt32), (.ref a3)])) _
    refine st2 _ ?_
    show Steps p.tables e below (T2.setTop (mkF m 41 #[.val (.ref a3), .val (.int (2 * i + 1).toInt32), .val (.int c1)] [(.int (0 : Int32)), (.int c1), (.int (2 * i).toInt32), (.ref a3)])) _
    refine XS.ishr X2.here hx rfl (hb hby d21_41) rfl ?_
    refine XS.i2b X2.here hx rfl (hb hby d21_42) rfl ?_
    show Steps p.tables e below (T2.setTop (mkF m 43 #[.val (.ref a3), .val (.int (2 * i + 1).toInt32), .val (.int c1)] [(.int ((c1 >>> ((0 : Int32) &&& 31)).toInt8.toInt32)), (.int (2 * i).toInt32), (.ref a3)])) _
    refine st4 _ ?_
    show Steps p.tables e below (T4.setTop (mkF m 44 #[.val (.ref a3), .val (.int (2 * i + 1).toInt32), .val (.int c1)] [])) _
    refine XS.aloadN X4.here hx rfl (hb hby d21_44) rfl rfl ?_
    refine XS.iloadN X4.here hx rfl (hb hby d21_45) rfl ?_
    refine XS.iloadN X4.here hx rfl (hb hby d21_46) rfl ?_
    show Steps p.tables e below (T4.setTop (mkF m 47 #[.val (.ref a3), .val (.int (2 * i + 1).toInt32), .val (.int c1)] [(.int c1), (.int (2 * i + 1).toInt32), (.ref a3)])) _
    refine st6 _ ?_
    show Steps p.tables e below (T6.setTop (mkF m 50 #[.val (.ref a3), .val (.int (2 * i + 1).toInt32), .val (.int c1)] [(.int (8 : Int32)), (.int c1), (.int (2 * i + 1).toInt32), (.ref a3)])) _
    refine XS.ishr X6.here hx rfl (hb hby d21_50) rfl ?_
    refine XS.i2b X6.here hx rfl (hb hby d21_51) rfl ?_
    show Steps p.tables e below (T6.setTop (mkF m 52 #[.val (.ref a3), .val (.int (2 * i + 1).toInt32), .val (.int c1)] [(.int ((c1 >>> ((8 : Int32) &&& 31)).toInt8.toInt32)), (.int (2 * i + 1).toInt32), (.ref a3)])) _
    refine st8 _ ?_
    show Steps p.tables e below (T8.setTop (mkF m 53 #[.val (.ref a3), .val (.int (2 * i + 1).toInt32), .val (.int c1)] [])) _
    exact X8.returnOut hx Bd.returns (hb hby d21_53) hr
  · show own_QW Z none a3 k3 .byte z1 ((vs3.set (2 * i) (.int (nar .byte ((c1 >>> ((0 : Int32) &&& 31)).toInt8.toInt32)))).set (2 * i + 1) (.int (nar .byte ((c1 >>> ((8 : Int32) &&& 31)).toInt8.toInt32)))) h0 n0 _ T8.heap _
    rw [e8]
    exact ⟨rfl, N8, K8, by have q := f9; rw [(own_ti (i := 2 * i) (by omega)).1, (own_ti (i := 2 * i + 1) (by omega)).1] at q; exact q⟩
theorem d19_0 : decode jdk_52_method_2_code 0 = .ok (.iload_n 0, 1) := by decide +kernel
theorem d19_1 : decode jdk_52_method_2_code 1 = .ok (.invokestatic 11, 3) := by decide +kernel
theorem pd_0 : parseMethodDescriptor "(I)I" = some ⟨[.int], some .int⟩ := by decide +kernel
theorem d19_4 : decode jdk_52_method_2_code 4 = .ok (.newarray .byte, 2) := by decide +kernel
theorem d19_6 : decode jdk_52_method_2_code 6 = .ok (.areturn, 1) := by decide +kernel
theorem ef_19_3 (m : MethodId) (x0 : Int32) : entryFrame m #[(.int x0)] 1 = mkF m 0 #[.val (.int x0)] [] := by first | (simp [entryFrame, mkF, argsToLocals, Value.category]; done) | rfl
theorem r_nbf (l : Launch) (Z : State) (a0 : Array Value) (hw : own_HW a0 Z) (ws : List Jvm.Cond) (cs1 : Int32) (fv : Value) (h0 : Heap) (n0 : Nat) (O0 : Old Z n0 h0) (G : own_Ctx Z Z.heap cs1 fv) (cs : List Int32) (hn : cs.length ≤ 4) :
    own_M l Y3_ (head1 (Jvm.Cond.code Y3_ jdk_52_method_2_code 1 (some (.array .byte)) :: ws) (own_rm_ 1 1 8 12)) #[(.int cs.length.toInt32)] Z h0 n0 (own_QA Z .byte (2 * cs.length).toInt32 (List.replicate (2 * cs.length) (.int (0 : Int32)))) (own_rm_ 1 1 8 12).cells (own_rm_ 1 1 8 12).slots := by
  have G0 := G
  obtain ⟨S_CS, N_CS, S_F, R_F, S_AD, S_HI, S_LO⟩ := G
  refine MetFree.of_bodySF (plainFor_of_name pn_0) hisR ?_
  intro p e s m args below meth c s₁ Bd hml0 hP hK
  obtain ⟨rfl, hZ, hh⟩ := hP
  have hx := Bd.exec
  have hby := Bd.bytes
  have hml : c.maxLocals = 1 := hml0
  have hown : s.vm.findClass "java/lang/StringUTF16" = some m.cls := findClass_of_methodNamed Bd.named
  have hnm := (name_of_methodNamed Bd.named Bd.method).1
  have X0 : Stand p l e (own_rm_ 1 1 8 12) s m #[(.int cs.length.toInt32)] below meth c s₁ [] 0 0 := Stand.of_body Bd
  have e0 : s₁.heap = h0 := by rw [← hh, Bd.state]; rfl
  have N0 := Fr.nil n0
  have pre0 := own_pre (tb := p.tables) (e := e) (below := below) (T := s₁) (ef_19_3 m cs.length.toInt32)
  obtain ⟨_, _, ⟨T1, L1, k1, n1⟩, -, X1, ⟨Lc1, hQ1, l1, y1, z1⟩, st1⟩ := Jvm.LawKit.callS X0 hx (y := Y1_) hown (mvT hZ (own_w hw 87 rfl)) (mvT hZ (own_w hw 88 rfl)) (mvT hZ (own_w hw 40 rfl)) (mvT hZ (own_w hw 89 rfl)) (by decide) (backOf (W := 0) (r_nbl l Z a0 hw [] cs1 fv h0 n0 O0 G0 cs hn) hZ (own_w hw 89 rfl) (own_w hw 40 rfl) (by decide) (by decide)) (g := (mkF m 1 #[.val (.int cs.length.toInt32)] [(.int cs.length.toInt32)])) rfl (by rw [hml]; rfl) (argsL := [(.int cs.length.toInt32)]) (rest := []) (lenOf pd_0 rfl) rfl (by show 2 * 0 + _ ≤ _; exact Nat.le_of_eq rfl) (hb hby d19_1) (fun _ _ => ⟨rfl, e0, (by decide : 0 + 0 ≤ _), (by decide : 0 + 0 ≤ _)⟩)
  dsimp only [Pt.U, Pt.locs, Pt.cells, Pt.slots] at X1 l1 y1 z1 st1 hQ1
  subst l1 y1 z1
  obtain ⟨rfl, N1q, e1⟩ := hQ1
  have N1 := Fr.app N0 N1q
  obtain ⟨T2, h2, ka2, X2, e2, E2, A2, st2⟩ := newP X1 hx hZ (own_w hw 15 rfl) e1 (g := (mkF m 4 #[.val (.int cs.length.toInt32)] [(.int (2 * cs.length).toInt32)])) rfl (hb hby d19_4) rfl (own_ti (i := 2 * cs.length) (by omega)).2.1 (cap := 8) (by rw [(own_ti (i := 2 * cs.length) (by omega)).1]; omega) (by decide) (by decide) (by decide)
  obtain ⟨b2, g2⟩ : ∃ z, z = h0.size := ⟨_, rfl⟩
  have g_b2 : n0 ≤ b2 := Nat.le_trans (O0.1 ▸ O0.2.1) (Nat.le_of_eq g2.symm)
  have sz_b2 : h0.size ≤ b2 := Nat.le_trans (Keep.refl h0 []).1 (Nat.le_of_eq g2.symm)
  rw [← g2] at A2 st2
  have O2 := O0.ext E2
  have K2 : Keep h0 h2 [] := (Keep.refl h0 []).ext E2
  have V2 : Arv Z h2 b2 ka2 .byte (2 * cs.length).toInt32 (List.replicate (2 * cs.length) (.int (0 : Int32))) (.int (0 : Int32)) := (Arv.new A2 (own_ti (i := 2 * cs.length) (by omega)).2.1).pad (pad_rep [] (.int (0 : Int32)) (2 * cs.length))
  obtain ⟨fs, hr, hrun, hended, hW, hsame⟩ := X2.leave (v := some (.ref b2)) (fun h => by rw [Bd.returns] at h; cases h)
  refine ⟨_, _, pre0 _ ?_, hrun, hended, _, _, rfl, ?_, ⟨_, rfl⟩, hW, hsame.mono (by decide) (by decide)⟩
  · show Steps p.tables e below (s₁.setTop (mkF m 0 #[.val (.int cs.length.toInt32)] [])) _
    refine XS.iloadN X0.here hx rfl (hb hby d19_0) rfl ?_
    show Steps p.tables e below (s₁.setTop (mkF m 1 #[.val (.int cs.length.toInt32)] [(.int cs.length.toInt32)])) _
    refine st1 _ ?_
    show Steps p.tables e below (T1.setTop (mkF m 4 #[.val (.int cs.length.toInt32)] [(.int (2 * cs.length).toInt32)])) _
    refine st2 _ ?_
    show Steps p.tables e below (T2.setTop (mkF m 6 #[.val (.int cs.length.toInt32)] [(.ref b2)])) _
    exact retOut X2 hx Bd.returns rfl (Or.inr (Or.inr (Or.inr (Or.inr ⟨rfl, rfl, rfl⟩)))) (hb hby d19_6) hr
  · show own_QA Z .byte (2 * cs.length).toInt32 (List.replicate (2 * cs.length) (.int (0 : Int32))) h0 n0 _ T2.heap _
    rw [e2]
    exact ⟨b2, ka2, rfl, N1, K2, sz_b2, V2⟩
theorem own_two_get (cs : List Int32) {i : Nat} (h : i < cs.length) : (cs.flatMap own_two).getD (2 * i) (.int (0 : Int32)) = .int (nar .byte ((cs[i] >>> ((0 : Int32) &&& 31)).toInt8.toInt32)) ∧ (cs.flatMap own_two).getD (2 * i + 1) (.int (0 : Int32)) = .int (nar .byte ((cs[i] >>> ((8 : Int32) &&& 31)).toInt8.toInt32)) := by
  induction cs generalizing i with
  | nil => simp at h
  | cons c cs ih =>
    cases i with
    | zero => exact ⟨rfl, rfl⟩
    | succ i =>
      have q := ih (i := i) (by simpa using h)
      rw [List.flatMap_cons]
      show (List.getD (_ :: _ :: _) _ _ = _) ∧ (List.getD (_ :: _ :: _) _ _ = _)
      rw [show 2 * (i + 1) = 2 * i + 1 + 1 by omega, show 2 * i + 1 + 1 + 1 = (2 * i + 1) + 1 + 1 by omega]
      simpa using q
theorem own_shr1 {i : Nat} (h : i ≤ 400) : (2 * i).toInt32 >>> ((1 : Int32) &&& 31) = i.toInt32 := by
  apply Int32.toInt_inj.mp
  have e := len_toInt (n := i) (by omega)
  have e1 := len_toInt (n := 2 * i) (by omega)
  rw [Jvm.Kit.i32_shr _ _ (k := 1) (by decide), e, e1]; omega
theorem own_k {n : Nat} (h : n ≤ 4) : n ≤ 1000 := by omega
theorem own_ki {i n : Nat} (h : i < n) (hn : n ≤ 4) : i ≤ 1000 := by omega
theorem own_two_in {i n : Nat} (h : i < n) (hn : n ≤ 4) : (2 * i).toInt32 < (2 * n).toInt32 ∧ (2 * i + 1).toInt32 < (2 * n).toInt32 := ⟨own_tl (by omega) (by omega), own_tl (by omega) (by omega)⟩
theorem own_2ti {i n : Nat} (h : i < n) (hn : n ≤ 4) : (2 * i).toInt32.toNatClampNeg = 2 * i ∧ (2 * i + 1).toInt32.toNatClampNeg = 2 * i + 1 ∧ ¬ ((2 * i).toInt32 < 0) ∧ ¬ ((2 * i + 1).toInt32 < 0) := ⟨(own_ti (by omega)).1, (own_ti (by omega)).1, (own_ti (by omega)).2.1, (own_ti (by omega)).2.1⟩
theorem own_fe {i n : Nat} (h : i < n) (hn : n ≤ 4) : ¬ (i.toInt32 = n.toInt32) := by
  have e := len_toInt (n := i) (by omega)
  have e1 := len_toInt (n := n) (by omega)
  intro q; have := congrArg Int32.toInt q; omega
theorem own_cd {n : Nat} (h : 1 ≤ n) (hn : n ≤ 4) : (((n.toInt32 - n.toInt32).toUInt32 >>> ((31 : Int32) &&& 31).toUInt32).toInt32).toInt8.toInt32 = (0 : Int32) ∧ (((n.toInt32 - (2 * n).toInt32).toUInt32 >>> ((31 : Int32) &&& 31).toUInt32).toInt32).toInt8.toInt32 = (1 : Int32) := by
  have h3 : n = 1 ∨ n = 2 ∨ n = 3 ∨ n = 4 := by omega
  rcases h3 with rfl | rfl | rfl | rfl <;> decide
def own_Bd (cs : List Int32) : Prop := ∀ j (hj : j < cs.length), ¬ (cs[j] < (0 : Int32)) ∧ ¬ ((65535 : Int32) < cs[j])
def own_Lat (cs : List Int32) : Prop := ∀ j (hj : j < cs.length), ¬ ((255 : Int32) < cs[j])
theorem own_atf (f : Int32 → Int32) {cs : List Int32} {i : Nat} (h : i < cs.length) : (cs.map (fun c => Value.int (f c))).getD i (.int (0 : Int32)) = .int (f cs[i]) := by simp [List.getD_eq_getElem?_getD, h]

theorem d18_8 : decode jdk_52_method_14_code 8 = .ok (.iload 4, 2) := by decide +kernel
theorem d18_10 : decode jdk_52_method_14_code 10 = .ok (.iload_n 2, 1) := by decide +kernel
theorem d18_11 : decode jdk_52_method_14_code 11 = .ok (.if_icmp .ge 21, 3) := by decide +kernel
theorem d18_14 : decode jdk_52_method_14_code 14 = .ok (.aload_n 3, 1) := by decide +kernel
theorem d18_15 : decode jdk_52_method_14_code 15 = .ok (.iload 4, 2) := by decide +kernel
theorem d18_17 : decode jdk_52_method_14_code 17 = .ok (.aload_n 0, 1) := by decide +kernel
theorem d18_18 : decode jdk_52_method_14_code 18 = .ok (.iload_n 1, 1) := by decide +kernel
theorem d18_19 : decode jdk_52_method_14_code 19 = .ok (.caload, 1) := by decide +kernel
theorem d18_20 : decode jdk_52_method_14_code 20 = .ok (.invokestatic 111, 3) := by decide +kernel
theorem pd_1 : parseMethodDescriptor "([BII)V" = some ⟨[(.array .byte), .int, .int], none⟩ := by decide +kernel
theorem d18_23 : decode jdk_52_method_14_code 23 = .ok (.iinc 1 1, 3) := by decide +kernel
theorem d18_26 : decode jdk_52_method_14_code 26 = .ok (.iinc 4 1, 3) := by decide +kernel
theorem d18_29 : decode jdk_52_method_14_code 29 = .ok (.goto (-21), 3) := by decide +kernel
theorem t_tb {p : Program} {l : Launch} {e : Env} {s : State} {m : MethodId} {args : Array Value} {below : List Frame} {meth : Method} {c : Code} {T0 : State} {locs : List Loc} {Z : State} {a0 : Array Value} {h0 : Heap} {n0 : Nat} (cs1 : Int32) (fv : Value) (a2 a3 : Addr) (k2 k3 : ClassId) (cs : List Int32) (i : Nat)
    (X0 : Stand p l e (own_rm_ 2 1 8 24) s m args below meth c T0 locs 1 8) (hx : p.tables.exec = Jvm.exec) (hZ : Z.Warmed39 s.vm) (hw : own_HW a0 Z) (hby : c.code = jdk_52_method_14_code) (hml : c.maxLocals = 5) (hown : s.vm.findClass "java/lang/StringUTF16" = some m.cls) (e0 : T0.heap = h0) (N0 : Fr n0 locs) (O0 : Old Z n0 h0) (G : own_Ctx Z Z.heap cs1 fv) (Va : Arv Z h0 a2 k2 .char cs.length.toInt32 (cs.map Value.int) (.int (0 : Int32))) (Vb : Arv Z h0 a3 k3 .byte (2 * cs.length).toInt32 (own_fill2 cs i) (.int (0 : Int32))) (ga : n0 ≤ a3) (hne : a2 ≠ a3) (hi : i < cs.length) (hn : cs.length ≤ 4) :
    ∃ (T' : State) (h' : Heap) (L' : List Loc), Stand p l e (own_rm_ 2 1 8 24) s m args below meth c T' L' 1 8 ∧ T'.heap = h' ∧ Fr n0 L' ∧ Old Z n0 h' ∧ Keep h0 h' [a3] ∧ (Arv Z h' a2 k2 .char cs.length.toInt32 (cs.map Value.int) (.int (0 : Int32))) ∧ (Arv Z h' a3 k3 .byte (2 * cs.length).toInt32 (own_fill2 cs (i + 1)) (.int (0 : Int32))) ∧ ∀ target, Steps p.tables e below (T'.setTop (mkF m 8 #[.val (.ref a2), .val (.int (i.toInt32 + (1 : Int32))), .val (.int cs.length.toInt32), .val (.ref a3), .val (.int (i.toInt32 + (1 : Int32)))] [])) target → Steps p.tables e below (T0.setTop (mkF m 8 #[.val (.ref a2), .val (.int i.toInt32), .val (.int cs.length.toInt32), .val (.ref a3), .val (.int i.toInt32)] [])) target := by
  have G0 := G
  obtain ⟨S_CS, N_CS, S_F, R_F, S_AD, S_HI, S_LO⟩ := G
  have hi400 : i ≤ 400 := by omega
  have hpz : 2 * i + 1 < (own_fill2 cs i).length := by rw [own_fill2_len cs (Nat.le_of_lt hi)]; omega
  have hpl : (2 * cs.length).toInt32 = (own_fill2 cs i).length.toInt32 := by rw [own_fill2_len cs (Nat.le_of_lt hi)]
  have hp1000 : (own_fill2 cs i).length ≤ 1000 := by rw [own_fill2_len cs (Nat.le_of_lt hi)]; omega
  have vc1 := Va
  obtain ⟨cl1, Ar1, qk1, S1, Nn1, Hs1, Gf1⟩ := vc1
  have hin1 : ¬ (i.toInt32 < 0 ∨ cl1.slots.size ≤ (i.toInt32).toNatClampNeg) := inb_of S1 ⟨(own_ti (own_ki hi hn)).2.1, own_tl hi (own_k hn)⟩
  have hat1 : cl1.slots[(i.toInt32).toNatClampNeg]? = some (.int cs[i]) := Has.at Hs1 hin1 (by rw [(own_ti (own_ki hi hn)).1]; exact own_at hi)
  obtain ⟨_, _, ⟨T2, L2, k2, n2⟩, -, X2, ⟨Lc2, hQ2, l2, y2, z2⟩, st2⟩ := Jvm.LawKit.callS X0 hx (y := Y2_) hown (mvT hZ (own_w hw 91 rfl)) (mvT hZ (own_w hw 92 rfl)) (mvT hZ (own_w hw 40 rfl)) (mvT hZ (own_w hw 93 rfl)) (by decide) (backOf (W := 0) (r_pc l Z a0 hw [] cs1 fv h0 n0 O0 G0 a3 k3 (own_fill2 cs i) (2 * cs.length).toInt32 cs[i] i Vb ga hi400 hpz hpl hp1000) hZ (own_w hw 93 rfl) (own_w hw 40 rfl) (by decide) (by decide)) (g := (mkF m 20 #[.val (.ref a2), .val (.int i.toInt32), .val (.int cs.length.toInt32), .val (.ref a3), .val (.int i.toInt32)] [(.int cs[i]), (.int i.toInt32), (.ref a3)])) rfl (by rw [hml]; rfl) (argsL := [(.ref a3), (.int i.toInt32), (.int cs[i])]) (rest := []) (lenOf pd_1 rfl) rfl (by show 2 * 0 + _ ≤ _; exact Nat.le_of_eq rfl) (hb hby d18_20) (fun _ _ => ⟨rfl, e0, (by decide : 1 + 0 ≤ _), (by decide : 8 + 0 ≤ _)⟩)
  dsimp only [Pt.U, Pt.locs, Pt.cells, Pt.slots] at X2 l2 y2 z2 st2 hQ2
  subst l2 y2 z2
  obtain ⟨rfl, N2q, Kq2, Vb2⟩ := hQ2
  have N2 := Fr.app N0 N2q
  have f3 := Va.keep Kq2 (fun q => (List.mem_cons.mp q).elim hne (fun q => nomatch q))
  have O2 := O0.keep Kq2 (allS ga all0)
  have K2 : Keep h0 T2.heap [a3] := (Keep.refl h0 [a3]).trans Kq2 (allS (Or.inl (List.mem_of_getElem? (i := 0) rfl)) all0)
  refine ⟨T2, T2.heap, _, X2, rfl, N2, O2, K2, f3, (own_fill2_set cs hi ▸ Vb2), fun target kt => ?_⟩
  show Steps p.tables e below (T0.setTop (mkF m 8 #[.val (.ref a2), .val (.int i.toInt32), .val (.int cs.length.toInt32), .val (.ref a3), .val (.int i.toInt32)] [])) _
  refine XS.iload X0.here hx rfl (hb hby d18_8) rfl ?_
  refine XS.iloadN X0.here hx rfl (hb hby d18_10) rfl ?_
  refine XS.icmpNo X0.here hx rfl (hb hby d18_11) rfl (tlt ((own_tl hi (own_k hn)) : i.toInt32 < cs.length.toInt32)).2.1 ?_
  refine XS.aloadN X0.here hx rfl (hb hby d18_14) rfl rfl ?_
  refine XS.iload X0.here hx rfl (hb hby d18_15) rfl ?_
  refine XS.aloadN X0.here hx rfl (hb hby d18_17) rfl rfl ?_
  refine XS.iloadN X0.here hx rfl (hb hby d18_18) rfl ?_
  show Steps p.tables e below (T0.setTop (mkF m 19 #[.val (.ref a2), .val (.int i.toInt32), .val (.int cs.length.toInt32), .val (.ref a3), .val (.int i.toInt32)] [(.int i.toInt32), (.ref a2), (.int i.toInt32), (.ref a3)])) _
  refine X0.caload hx (j := i.toInt32) (v := (.int cs[i])) (by rw [e0]; exact Ar1.1) (State.isArrayOf_alike hZ.alike Ar1.2.1) Ar1.2.2 hin1 hat1 (g := (mkF m 19 #[.val (.ref a2), .val (.int i.toInt32), .val (.int cs.length.toInt32), .val (.ref a3), .val (.int i.toInt32)] [(.int i.toInt32), (.ref a2), (.int i.toInt32), (.ref a3)])) rfl rfl (hb hby d18_19) _ ?_
  show Steps p.tables e below (T0.setTop (mkF m 20 #[.val (.ref a2), .val (.int i.toInt32), .val (.int cs.length.toInt32), .val (.ref a3), .val (.int i.toInt32)] [(.int cs[i]), (.int i.toInt32), (.ref a3)])) _
  refine st2 _ ?_
  show Steps p.tables e below (T2.setTop (mkF m 23 #[.val (.ref a2), .val (.int i.toInt32), .val (.int cs.length.toInt32), .val (.ref a3), .val (.int i.toInt32)] [])) _
  refine XS.iinc X2.here hx rfl (hb hby d18_23) rfl (l' := #[.val (.ref a2), .val (.int (i.toInt32 + (1 : Int32))), .val (.int cs.length.toInt32), .val (.ref a3), .val (.int i.toInt32)]) rfl ?_
  show Steps p.tables e below (T2.setTop (mkF m 26 #[.val (.ref a2), .val (.int (i.toInt32 + (1 : Int32))), .val (.int cs.length.toInt32), .val (.ref a3), .val (.int i.toInt32)] [])) _
  refine XS.iinc X2.here hx rfl (hb hby d18_26) rfl (l' := #[.val (.ref a2), .val (.int (i.toInt32 + (1 : Int32))), .val (.int cs.length.toInt32), .val (.ref a3), .val (.int (i.toInt32 + (1 : Int32)))]) rfl ?_
  show Steps p.tables e below (T2.setTop (mkF m 29 #[.val (.ref a2), .val (.int (i.toInt32 + (1 : Int32))), .val (.int cs.length.toInt32), .val (.ref a3), .val (.int (i.toInt32 + (1 : Int32)))] [])) _
  refine XS.goto X2.here hx rfl (pc0 := 29) (pc' := 8) rfl (hb hby d18_29) (by decide) (by decide) ?_
  exact kt
theorem t_tbe {p : Program} {l : Launch} {e : Env} {R : Room} {s : State} {m : MethodId} {args : Array Value} {below : List Frame} {meth : Method} {c : Code} {T0 : State} {locs : List Loc} {cells slots : Nat} {Z : State} {a0 : Array Value} {h0 : Heap} {n0 : Nat} (cs1 : Int32) (fv : Value) (a2 a3 : Addr) (i1 z1 : Int32)
    (X0 : Stand p l e R s m args below meth c T0 locs cells slots) (hx : p.tables.exec = Jvm.exec) (hZ : Z.Warmed39 s.vm) (hw : own_HW a0 Z) (hby : c.code = jdk_52_method_14_code) (hml : c.maxLocals = 5) (hown : s.vm.findClass "java/lang/StringUTF16" = some m.cls) (e0 : T0.heap = h0) (O0 : Old Z n0 h0) (G : own_Ctx Z Z.heap cs1 fv) (hi2 : ¬ (i1 < z1)) :
    ∃ T' : State, Stand p l e R s m args below meth c T' locs cells slots ∧ T'.heap = h0 ∧ ∀ target, Steps p.tables e below (T'.setTop (mkF m 32 #[.val (.ref a2), .val (.int i1), .val (.int z1), .val (.ref a3), .val (.int i1)] [])) target → Steps p.tables e below (T0.setTop (mkF m 8 #[.val (.ref a2), .val (.int i1), .val (.int z1), .val (.ref a3), .val (.int i1)] [])) target := by
  have G0 := G
  obtain ⟨S_CS, N_CS, S_F, R_F, S_AD, S_HI, S_LO⟩ := G
  refine ⟨T0, X0, e0, fun target kt => ?_⟩
  show Steps p.tables e below (T0.setTop (mkF m 8 #[.val (.ref a2), .val (.int i1), .val (.int z1), .val (.ref a3), .val (.int i1)] [])) _
  refine XS.iload X0.here hx rfl (hb hby d18_8) rfl ?_
  refine XS.iloadN X0.here hx rfl (hb hby d18_10) rfl ?_
  refine XS.icmpYes X0.here hx rfl (pc0 := 11) (pc' := 32) rfl (hb hby d18_11) rfl (flt (hi2 : ¬ (i1 < z1))).2.1 (by decide) (by decide) ?_
  exact kt
theorem own_tb {p : Program} {l : Launch} {e : Env} {s : State} {m : MethodId} {args : Array Value} {below : List Frame} {meth : Method} {c : Code} {Z : State} {a0 : Array Value} {n0 : Nat} (cs1 : Int32) (fv : Value) (a2 a3 : Addr) (k2 k3 : ClassId) (cs : List Int32)
    (hx : p.tables.exec = Jvm.exec) (hZ : Z.Warmed39 s.vm) (hw : own_HW a0 Z) (hby : c.code = jdk_52_method_14_code) (hml : c.maxLocals = 5) (hown : s.vm.findClass "java/lang/StringUTF16" = some m.cls) (G : own_Ctx Z Z.heap cs1 fv) (ga : n0 ≤ a3) (hne : a2 ≠ a3) (hn : cs.length ≤ 4) :
    ∀ (k i : Nat) (T0 : State) (h0 : Heap) (locs : List Loc), i + k = cs.length → Stand p l e (own_rm_ 2 1 8 24) s m args below meth c T0 locs 1 8 → T0.heap = h0 → Fr n0 locs → Old Z n0 h0 → Arv Z h0 a2 k2 .char cs.length.toInt32 (cs.map Value.int) (.int (0 : Int32)) → Arv Z h0 a3 k3 .byte (2 * cs.length).toInt32 (own_fill2 cs i) (.int (0 : Int32)) →
    ∃ (T' : State) (h' : Heap) (L' : List Loc), Stand p l e (own_rm_ 2 1 8 24) s m args below meth c T' L' 1 8 ∧ T'.heap = h' ∧ Fr n0 L' ∧ Old Z n0 h' ∧ Keep h0 h' [a3] ∧ Arv Z h' a3 k3 .byte (2 * cs.length).toInt32 (own_fill2 cs cs.length) (.int (0 : Int32)) ∧
      ∀ target, Steps p.tables e below (T'.setTop (mkF m 32 #[.val (.ref a2), .val (.int cs.length.toInt32), .val (.int cs.length.toInt32), .val (.ref a3), .val (.int cs.length.toInt32)] [])) target → Steps p.tables e below (T0.setTop (mkF m 8 #[.val (.ref a2), .val (.int i.toInt32), .val (.int cs.length.toInt32), .val (.ref a3), .val (.int i.toInt32)] [])) target := by
  intro k
  induction k with
  | zero =>
    intro i T0 h0 locs hi X0 e0 N0 O0 Va Vb
    obtain rfl : i = cs.length := by omega
    obtain ⟨T1, X1, e1, st⟩ := t_tbe cs1 fv a2 a3 cs.length.toInt32 cs.length.toInt32 X0 hx hZ hw hby hml hown e0 O0 G (by rw [Int32.lt_iff_toInt_lt]; omega)
    exact ⟨T1, h0, locs, X1, e1, N0, O0, Keep.refl _ _, Vb, st⟩
  | succ k ih =>
    intro i T0 h0 locs hi X0 e0 N0 O0 Va Vb
    have hlt : i < cs.length := by omega
    obtain ⟨T1, h1, L1, X1, e1, N1, O1, K1, V2, V3, st1⟩ := t_tb cs1 fv a2 a3 k2 k3 cs i X0 hx hZ hw hby hml hown e0 N0 O0 G Va Vb ga hne hlt hn
    rw [own_ts (by omega)] at st1
    obtain ⟨T', h', L', X', e', N', O', K', V', st'⟩ := ih (i + 1) T1 h1 L1 (by omega) X1 e1 N1 O1 V2 V3
    exact ⟨T', h', L', X', e', N', O', K1.trans K' (allS (Or.inl (List.mem_singleton.mpr rfl)) all0), V', fun target kt => st1 _ (st' _ kt)⟩

theorem d18_0 : decode jdk_52_method_14_code 0 = .ok (.iload_n 2, 1) := by decide +kernel
theorem d18_1 : decode jdk_52_method_14_code 1 = .ok (.invokestatic 107, 3) := by decide +kernel
theorem pd_2 : parseMethodDescriptor "(I)[B" = some ⟨[.int], some (.array .byte)⟩ := by decide +kernel
theorem d18_4 : decode jdk_52_method_14_code 4 = .ok (.astore_n 3, 1) := by decide +kernel
theorem d18_5 : decode jdk_52_method_14_code 5 = .ok (.iconst 0, 1) := by decide +kernel
theorem d18_6 : decode jdk_52_method_14_code 6 = .ok (.istore 4, 2) := by decide +kernel
theorem d18_32 : decode jdk_52_method_14_code 32 = .ok (.aload_n 3, 1) := by decide +kernel
theorem d18_33 : decode jdk_52_method_14_code 33 = .ok (.areturn, 1) := by decide +kernel
theorem ef_18_4 (m : MethodId) (x0 : Addr) (x1 : Int32) (x2 : Int32) : entryFrame m #[(.ref x0), (.int x1), (.int x2)] 5 = mkF m 0 #[.val (.ref x0), .val (.int x1), .val (.int x2), .unset, .unset] [] := by first | (simp [entryFrame, mkF, argsToLocals, Value.category]; done) | rfl
theorem r_tb (l : Launch) (Z : State) (a0 : Array Value) (hw : own_HW a0 Z) (ws : List Jvm.Cond) (cs1 : Int32) (fv : Value) (h0 : Heap) (n0 : Nat) (O0 : Old Z n0 h0) (G : own_Ctx Z Z.heap cs1 fv) (a2 : Addr) (k2 : ClassId) (cs : List Int32) (Va : Arv Z h0 a2 k2 .char cs.length.toInt32 (cs.map Value.int) (.int (0 : Int32))) (hn : cs.length ≤ 4) :
    own_M l Y4_ (head1 (Jvm.Cond.code Y4_ jdk_52_method_14_code 5 (some (.array .byte)) :: ws) (own_rm_ 2 1 8 24)) #[(.ref a2), (.int (0 : Int32)), (.int cs.length.toInt32)] Z h0 n0 (own_QA Z .byte (2 * cs.length).toInt32 (cs.flatMap own_two)) (own_rm_ 2 1 8 24).cells (own_rm_ 2 1 8 24).slots := by
  have G0 := G
  obtain ⟨S_CS, N_CS, S_F, R_F, S_AD, S_HI, S_LO⟩ := G
  refine MetFree.of_bodySF (plainFor_of_name pn_0) hisR ?_
  intro p e s m args below meth c s₁ Bd hml0 hP hK
  obtain ⟨rfl, hZ, hh⟩ := hP
  have hx := Bd.exec
  have hby := Bd.bytes
  have hml : c.maxLocals = 5 := hml0
  have hown : s.vm.findClass "java/lang/StringUTF16" = some m.cls := findClass_of_methodNamed Bd.named
  have hnm := (name_of_methodNamed Bd.named Bd.method).1
  have X0 : Stand p l e (own_rm_ 2 1 8 24) s m #[(.ref a2), (.int (0 : Int32)), (.int cs.length.toInt32)] below meth c s₁ [] 0 0 := Stand.of_body Bd
  have e0 : s₁.heap = h0 := by rw [← hh, Bd.state]; rfl
  have N0 := Fr.nil n0
  have pre0 := own_pre (tb := p.tables) (e := e) (below := below) (T := s₁) (ef_18_4 m a2 (0 : Int32) cs.length.toInt32)
  obtain ⟨_, _, ⟨T1, L1, k1, n1⟩, -, X1, ⟨Lc1, hQ1, l1, y1, z1⟩, st1⟩ := Jvm.LawKit.callS X0 hx (y := Y3_) hown (mvT hZ (own_w hw 84 rfl)) (mvT hZ (own_w hw 85 rfl)) (mvT hZ (own_w hw 40 rfl)) (mvT hZ (own_w hw 86 rfl)) (by decide) (backOf (W := 0) (r_nbf l Z a0 hw [] cs1 fv h0 n0 O0 G0 cs hn) hZ (own_w hw 86 rfl) (own_w hw 40 rfl) (by decide) (by decide)) (g := (mkF m 1 #[.val (.ref a2), .val (.int (0 : Int32)), .val (.int cs.length.toInt32), .unset, .unset] [(.int cs.length.toInt32)])) rfl (by rw [hml]; rfl) (argsL := [(.int cs.length.toInt32)]) (rest := []) (lenOf pd_2 rfl) rfl (by show 2 * 0 + _ ≤ _; exact Nat.le_of_eq rfl) (hb hby d18_1) (fun _ _ => ⟨rfl, e0, (by decide : 0 + 1 ≤ _), (by decide : 0 + 8 ≤ _)⟩)
  dsimp only [Pt.U, Pt.locs, Pt.cells, Pt.slots] at X1 l1 y1 z1 st1 hQ1
  subst l1 y1 z1
  obtain ⟨t1, kt1, rfl, N1q, Kq1, gt1, Vt1⟩ := hQ1
  have N1 := Fr.app N0 N1q
  have ne_a2_t1 : a2 ≠ t1 := Nat.ne_of_lt (Nat.lt_of_lt_of_le Va.lt gt1)
  have g_t1 : n0 ≤ t1 := Nat.le_trans (O0.1 ▸ O0.2.1) gt1
  have sz_t1 : h0.size ≤ t1 := Nat.le_trans (Keep.refl h0 []).1 gt1
  have f2 := Va.keep Kq1 (fun q => nomatch q)
  have O1 := O0.keep Kq1 all0
  have K1 : Keep h0 T1.heap [] := (Keep.refl h0 []).trans Kq1 all0
  have vb0 : Arv Z T1.heap t1 kt1 .byte (2 * cs.length).toInt32 (own_fill2 cs 0) (.int (0 : Int32)) := by simpa [own_fill2] using Vt1
  obtain ⟨T9, h9, L9, X9, e9, N9, O9, K9, V9, st9⟩ := own_tb cs1 fv a2 t1 k2 kt1 cs hx hZ hw hby hml hown G0 g_t1 ne_a2_t1 hn cs.length 0 _ _ _ (by omega) X1 rfl N1 O1 f2 vb0
  rw [own_fill2_all] at V9
  obtain ⟨fs, hr, hrun, hended, hW, hsame⟩ := X9.leave (v := some (.ref t1)) (fun h => by rw [Bd.returns] at h; cases h)
  refine ⟨_, _, pre0 _ ?_, hrun, hended, _, _, rfl, ?_, ⟨_, rfl⟩, hW, hsame.mono (by decide) (by decide)⟩
  · show Steps p.tables e below (s₁.setTop (mkF m 0 #[.val (.ref a2), .val (.int (0 : Int32)), .val (.int cs.length.toInt32), .unset, .unset] [])) _
    refine XS.iloadN X0.here hx rfl (hb hby d18_0) rfl ?_
    show Steps p.tables e below (s₁.setTop (mkF m 1 #[.val (.ref a2), .val (.int (0 : Int32)), .val (.int cs.length.toInt32), .unset, .unset] [(.int cs.length.toInt32)])) _
    refine st1 _ ?_
    show Steps p.tables e below (T1.setTop (mkF m 4 #[.val (.ref a2), .val (.int (0 : Int32)), .val (.int cs.length.toInt32), .unset, .unset] [(.ref t1)])) _
    refine XS.astoreN X1.here hx rfl (hb hby d18_4) rfl rfl (l' := #[.val (.ref a2), .val (.int (0 : Int32)), .val (.int cs.length.toInt32), .val (.ref t1), .unset]) rfl ?_
    refine XS.iconst X1.here hx rfl (hb hby d18_5) ?_
    refine XS.istore X1.here hx rfl (hb hby d18_6) rfl (l' := #[.val (.ref a2), .val (.int (0 : Int32)), .val (.int cs.length.toInt32), .val (.ref t1), .val (.int (0 : Int32))]) rfl ?_
    show Steps p.tables e below (T1.setTop (mkF m 8 #[.val (.ref a2), .val (.int (0 : Nat).toInt32), .val (.int cs.length.toInt32), .val (.ref t1), .val (.int (0 : Nat).toInt32)] [])) _
    refine st9 _ ?_
    refine XS.aloadN X9.here hx rfl (hb hby d18_32) rfl rfl ?_
    show Steps p.tables e below (T9.setTop (mkF m 33 #[.val (.ref a2), .val (.int cs.length.toInt32), .val (.int cs.length.toInt32), .val (.ref t1), .val (.int cs.length.toInt32)] [(.ref t1)])) _
    exact retOut X9 hx Bd.returns rfl (Or.inr (Or.inr (Or.inr (Or.inr ⟨rfl, rfl, rfl⟩)))) (hb hby d18_33) hr
  · show own_QA Z .byte (2 * cs.length).toInt32 (cs.flatMap own_two) h0 n0 _ T9.heap _
    rw [e9]
    exact ⟨t1, kt1, rfl, N9, (K1.trans K9 (allS (Or.inr sz_t1) all0)), sz_t1, V9⟩
theorem d14_0 : decode jdk_41_method_11_code 0 = .ok (.iload_n 0, 1) := by decide +kernel
theorem d14_1 : decode jdk_41_method_11_code 1 = .ok (.ifCond .lt 8, 3) := by decide +kernel
theorem d14_4 : decode jdk_41_method_11_code 4 = .ok (.iload_n 0, 1) := by decide +kernel
theorem d14_5 : decode jdk_41_method_11_code 5 = .ok (.iload_n 1, 1) := by decide +kernel
theorem d14_6 : decode jdk_41_method_11_code 6 = .ok (.if_icmp .lt 10, 3) := by decide +kernel
theorem d14_16 : decode jdk_41_method_11_code 16 = .ok (.iload_n 0, 1) := by decide +kernel
theorem d14_17 : decode jdk_41_method_11_code 17 = .ok (.ireturn, 1) := by decide +kernel
theorem ef_14_5 (m : MethodId) (x0 : Int32) (x1 : Int32) : entryFrame m #[(.int x0), (.int x1), .null] 3 = mkF m 0 #[.val (.int x0), .val (.int x1), .val .null] [] := by first | (simp [entryFrame, mkF, argsToLocals, Value.category]; done) | rfl
theorem pn_1 : plainName "jdk/internal/util/Preconditions" = true := by first | (simp [plainName, overriddenIn]; done) | decide +kernel
theorem r_chk0 (l : Launch) (Z : State) (a0 : Array Value) (hw : own_HW a0 Z) (ws : List Jvm.Cond) (cs1 : Int32) (fv : Value) (h0 : Heap) (n0 : Nat) (O0 : Old Z n0 h0) (G : own_Ctx Z Z.heap cs1 fv) (i j : Int32) (h1 : ¬ (i < (0 : Int32))) (h2 : i < j) :
    own_M l Y5_ (head1 (Jvm.Cond.code Y5_ jdk_41_method_11_code 3 (some .int) :: ws) (own_rm_ 0 0 0 0)) #[(.int i), (.int j), .null] Z h0 n0 (own_Q (some (.int i))) (own_rm_ 0 0 0 0).cells (own_rm_ 0 0 0 0).slots := by
  have G0 := G
  obtain ⟨S_CS, N_CS, S_F, R_F, S_AD, S_HI, S_LO⟩ := G
  refine MetFree.of_bodySF (plainFor_of_name pn_1) hisR ?_
  intro p e s m args below meth c s₁ Bd hml0 hP hK
  obtain ⟨rfl, hZ, hh⟩ := hP
  have hx := Bd.exec
  have hby := Bd.bytes
  have hml : c.maxLocals = 3 := hml0
  have hown : s.vm.findClass "jdk/internal/util/Preconditions" = some m.cls := findClass_of_methodNamed Bd.named
  have hnm := (name_of_methodNamed Bd.named Bd.method).1
  have X0 : Stand p l e (own_rm_ 0 0 0 0) s m #[(.int i), (.int j), .null] below meth c s₁ [] 0 0 := Stand.of_body Bd
  have e0 : s₁.heap = h0 := by rw [← hh, Bd.state]; rfl
  have N0 := Fr.nil n0
  have pre0 := own_pre (tb := p.tables) (e := e) (below := below) (T := s₁) (ef_14_5 m i j)
  obtain ⟨fs, hr, hrun, hended, hW, hsame⟩ := X0.leave (v := some (.int i)) (fun h => by rw [Bd.returns] at h; cases h)
  refine ⟨_, _, pre0 _ ?_, hrun, hended, _, _, rfl, ?_, ⟨_, rfl⟩, hW, hsame.mono (by decide) (by decide)⟩
  · show Steps p.tables e below (s₁.setTop (mkF m 0 #[.val (.int i), .val (.int j), .val .null] [])) _
    refine XS.iloadN X0.here hx rfl (hb hby d14_0) rfl ?_
    refine XS.ifNo X0.here hx rfl (hb hby d14_1) rfl ((if0 _ _).trans (flt (h1 : ¬ (i < (0 : Int32)))).1) ?_
    refine XS.iloadN X0.here hx rfl (hb hby d14_4) rfl ?_
    refine XS.iloadN X0.here hx rfl (hb hby d14_5) rfl ?_
    refine XS.icmpYes X0.here hx rfl (pc0 := 6) (pc' := 16) rfl (hb hby d14_6) rfl (tlt (h2 : i < j)).1 (by decide) (by decide) ?_
    refine XS.iloadN X0.here hx rfl (hb hby d14_16) rfl ?_
    show Steps p.tables e below (s₁.setTop (mkF m 17 #[.val (.int i), .val (.int j), .val .null] [(.int i)])) _
    exact retI X0 hx Bd.returns (hb hby d14_17) hr
  · show own_Q (some (.int i)) h0 n0 _ s₁.heap _
    rw [e0]
    exact ⟨rfl, N0, rfl⟩
theorem ef_14_6 (m : MethodId) (x0 : Int32) (x1 : Int32) (x2 : Addr) : entryFrame m #[(.int x0), (.int x1), (.ref x2)] 3 = mkF m 0 #[.val (.int x0), .val (.int x1), .val (.ref x2)] [] := by first | (simp [entryFrame, mkF, argsToLocals, Value.category]; done) | rfl
theorem r_chk1 (l : Launch) (Z : State) (a0 : Array Value) (hw : own_HW a0 Z) (ws : List Jvm.Cond) (cs1 : Int32) (fv : Value) (h0 : Heap) (n0 : Nat) (O0 : Old Z n0 h0) (G : own_Ctx Z Z.heap cs1 fv) (i j : Int32) (fa : Addr) (h1 : ¬ (i < (0 : Int32))) (h2 : i < j) :
    own_M l Y5_ (head1 (Jvm.Cond.code Y5_ jdk_41_method_11_code 3 (some .int) :: ws) (own_rm_ 0 0 0 0)) #[(.int i), (.int j), (.ref fa)] Z h0 n0 (own_Q (some (.int i))) (own_rm_ 0 0 0 0).cells (own_rm_ 0 0 0 0).slots := by
  have G0 := G
  obtain ⟨S_CS, N_CS, S_F, R_F, S_AD, S_HI, S_LO⟩ := G
  refine MetFree.of_bodySF (plainFor_of_name pn_1) hisR ?_
  intro p e s m args below meth c s₁ Bd hml0 hP hK
  obtain ⟨rfl, hZ, hh⟩ := hP
  have hx := Bd.exec
  have hby := Bd.bytes
  have hml : c.maxLocals = 3 := hml0
  have hown : s.vm.findClass "jdk/internal/util/Preconditions" = some m.cls := findClass_of_methodNamed Bd.named
  have hnm := (name_of_methodNamed Bd.named Bd.method).1
  have X0 : Stand p l e (own_rm_ 0 0 0 0) s m #[(.int i), (.int j), (.ref fa)] below meth c s₁ [] 0 0 := Stand.of_body Bd
  have e0 : s₁.heap = h0 := by rw [← hh, Bd.state]; rfl
  have N0 := Fr.nil n0
  have pre0 := own_pre (tb := p.tables) (e := e) (below := below) (T := s₁) (ef_14_6 m i j fa)
  obtain ⟨fs, hr, hrun, hended, hW, hsame⟩ := X0.leave (v := some (.int i)) (fun h => by rw [Bd.returns] at h; cases h)
  refine ⟨_, _, pre0 _ ?_, hrun, hended, _, _, rfl, ?_, ⟨_, rfl⟩, hW, hsame.mono (by decide) (by decide)⟩
  · show Steps p.tables e below (s₁.setTop (mkF m 0 #[.val (.int i), .val (.int j), .val (.ref fa)] [])) _
    refine XS.iloadN X0.here hx rfl (hb hby d14_0) rfl ?_
    refine XS.ifNo X0.here hx rfl (hb hby d14_1) rfl ((if0 _ _).trans (flt (h1 : ¬ (i < (0 : Int32)))).1) ?_
    refine XS.iloadN X0.here hx rfl (hb hby d14_4) rfl ?_
    refine XS.iloadN X0.here hx rfl (hb hby d14_5) rfl ?_
    refine XS.icmpYes X0.here hx rfl (pc0 := 6) (pc' := 16) rfl (hb hby d14_6) rfl (tlt (h2 : i < j)).1 (by decide) (by decide) ?_
    refine XS.iloadN X0.here hx rfl (hb hby d14_16) rfl ?_
    show Steps p.tables e below (s₁.setTop (mkF m 17 #[.val (.int i), .val (.int j), .val (.ref fa)] [(.int i)])) _
    exact retI X0 hx Bd.returns (hb hby d14_17) hr
  · show own_Q (some (.int i)) h0 n0 _ s₁.heap _
    rw [e0]
    exact ⟨rfl, N0, rfl⟩
theorem r_chk (l : Launch) (Z : State) (a0 : Array Value) (hw : own_HW a0 Z) (ws : List Jvm.Cond) (cs1 : Int32) (fv : Value) (h0 : Heap) (n0 : Nat) (O0 : Old Z n0 h0) (G : own_Ctx Z Z.heap cs1 fv) (i j : Int32) (fv_ : Value) (hfv : fv_.isRef = true) (h1 : ¬ (i < (0 : Int32))) (h2 : i < j) :
    own_M l Y5_ (head1 (Jvm.Cond.code Y5_ jdk_41_method_11_code 3 (some .int) :: ws) (own_rm_ 0 0 0 0)) #[(.int i), (.int j), fv_] Z h0 n0 (own_Q (some (.int i))) (own_rm_ 0 0 0 0).cells (own_rm_ 0 0 0 0).slots := by
  rcases ref_cases hfv with rfl | ⟨fa, rfl⟩
  · exact r_chk0 l Z a0 hw ws cs1 fv h0 n0 O0 G i j h1 h2
  · exact r_chk1 l Z a0 hw ws cs1 fv h0 n0 O0 G i j fa h1 h2
theorem d13_0 : decode jdk_42_method_155_code 0 = .ok (.iload_n 0, 1) := by decide +kernel
theorem d13_1 : decode jdk_42_method_155_code 1 = .ok (.iload_n 1, 1) := by decide +kernel
theorem d13_2 : decode jdk_42_method_155_code 2 = .ok (.getstatic 1053, 3) := by decide +kernel
theorem d13_5 : decode jdk_42_method_155_code 5 = .ok (.invokestatic 1059, 3) := by decide +kernel
theorem pd_3 : parseMethodDescriptor "(IILjava/util/function/BiFunction;)I" = some ⟨[.int, .int, (.object "java/util/function/BiFunction")], some .int⟩ := by decide +kernel
theorem d13_8 : decode jdk_42_method_155_code 8 = .ok (.pop, 1) := by decide +kernel
theorem d13_9 : decode jdk_42_method_155_code 9 = .ok (.return_, 1) := by decide +kernel
theorem ef_13_7 (m : MethodId) (x0 : Int32) (x1 : Int32) : entryFrame m #[(.int x0), (.int x1)] 2 = mkF m 0 #[.val (.int x0), .val (.int x1)] [] := by first | (simp [entryFrame, mkF, argsToLocals, Value.category]; done) | rfl
theorem pn_2 : plainName "java/lang/String" = true := by first | (simp [plainName, overriddenIn]; done) | decide +kernel
theorem r_ci (l : Launch) (Z : State) (a0 : Array Value) (hw : own_HW a0 Z) (ws : List Jvm.Cond) (cs1 : Int32) (fv : Value) (h0 : Heap) (n0 : Nat) (O0 : Old Z n0 h0) (G : own_Ctx Z Z.heap cs1 fv) (i j : Int32) (h1 : ¬ (i < (0 : Int32))) (h2 : i < j) :
    own_M l Y6_ (head1 (Jvm.Cond.code Y6_ jdk_42_method_155_code 2 none :: ws) (own_rm_ 1 0 0 14)) #[(.int i), (.int j)] Z h0 n0 (own_Q (none)) (own_rm_ 1 0 0 14).cells (own_rm_ 1 0 0 14).slots := by
  have G0 := G
  obtain ⟨S_CS, N_CS, S_F, R_F, S_AD, S_HI, S_LO⟩ := G
  refine MetFree.of_bodySF (plainFor_of_name pn_2) hisR ?_
  intro p e s m args below meth c s₁ Bd hml0 hP hK
  obtain ⟨rfl, hZ, hh⟩ := hP
  have hx := Bd.exec
  have hby := Bd.bytes
  have hml : c.maxLocals = 2 := hml0
  have hown : s.vm.findClass "java/lang/String" = some m.cls := findClass_of_methodNamed Bd.named
  have hnm := (name_of_methodNamed Bd.named Bd.method).1
  have X0 : Stand p l e (own_rm_ 1 0 0 14) s m #[(.int i), (.int j)] below meth c s₁ [] 0 0 := Stand.of_body Bd
  have e0 : s₁.heap = h0 := by rw [← hh, Bd.state]; rfl
  have N0 := Fr.nil n0
  have pre0 := own_pre (tb := p.tables) (e := e) (below := below) (T := s₁) (ef_13_7 m i j)
  obtain ⟨T1, X1, e1, st1⟩ := getS2 X0 hx hZ hown (host := "") (Or.inl (own_w hw 65 rfl)) Via.refl e0 (S_F.ext O0.2) (g := (mkF m 2 #[.val (.int i), .val (.int j)] [(.int j), (.int i)])) rfl (hb hby d13_2)
  obtain ⟨_, _, ⟨T2, L2, k2, n2⟩, -, X2, ⟨Lc2, hQ2, l2, y2, z2⟩, st2⟩ := Jvm.LawKit.callS X1 hx (y := Y5_) hown (mvT hZ (own_w hw 67 rfl)) (mvT hZ (own_w hw 68 rfl)) (mvT hZ (own_w hw 66 rfl)) (mvT hZ (own_w hw 69 rfl)) (by decide) (backOf (W := 0) (r_chk l Z a0 hw [] cs1 fv h0 n0 O0 G0 i j fv R_F h1 h2) hZ (own_w hw 69 rfl) (own_w hw 66 rfl) (by decide) (by decide)) (g := (mkF m 5 #[.val (.int i), .val (.int j)] [fv, (.int j), (.int i)])) rfl (by rw [hml]; rfl) (argsL := [(.int i), (.int j), fv]) (rest := []) (lenOf pd_3 rfl) rfl (by show 2 * 0 + _ ≤ _; exact Nat.le_of_eq rfl) (hb hby d13_5) (fun _ _ => ⟨rfl, e1, (by decide : 0 + 0 ≤ _), (by decide : 0 + 0 ≤ _)⟩)
  dsimp only [Pt.U, Pt.locs, Pt.cells, Pt.slots] at X2 l2 y2 z2 st2 hQ2
  subst l2 y2 z2
  obtain ⟨rfl, N2q, e2⟩ := hQ2
  have N2 := Fr.app N0 N2q
  obtain ⟨fs, hr, hrun, hended, hW, hsame⟩ := X2.leave (v := none) (fun _ => rfl)
  refine ⟨_, _, pre0 _ ?_, hrun, hended, _, _, rfl, ?_, ⟨_, rfl⟩, hW, hsame.mono (by decide) (by decide)⟩
  · show Steps p.tables e below (s₁.setTop (mkF m 0 #[.val (.int i), .val (.int j)] [])) _
    refine XS.iloadN X0.here hx rfl (hb hby d13_0) rfl ?_
    refine XS.iloadN X0.here hx rfl (hb hby d13_1) rfl ?_
    show Steps p.tables e below (s₁.setTop (mkF m 2 #[.val (.int i), .val (.int j)] [(.int j), (.int i)])) _
    refine st1 _ ?_
    show Steps p.tables e below (T1.setTop (mkF m 5 #[.val (.int i), .val (.int j)] [fv, (.int j), (.int i)])) _
    refine st2 _ ?_
    show Steps p.tables e below (T2.setTop (mkF m 8 #[.val (.int i), .val (.int j)] [(.int i)])) _
    refine XS.pop X2.here hx rfl (hb hby d13_8) rfl rfl ?_
    show Steps p.tables e below (T2.setTop (mkF m 9 #[.val (.int i), .val (.int j)] [])) _
    exact X2.returnOut hx Bd.returns (hb hby d13_9) hr
  · show own_Q (none) h0 n0 _ T2.heap _
    rw [e2]
    exact ⟨rfl, N2, rfl⟩
theorem d22_0 : decode jdk_52_method_5_code 0 = .ok (.getstatic 44, 3) := by decide +kernel
theorem d22_3 : decode jdk_52_method_5_code 3 = .ok (.ifCond .ne 25, 3) := by decide +kernel
theorem d22_28 : decode jdk_52_method_5_code 28 = .ok (.iload_n 1, 1) := by decide +kernel
theorem d22_29 : decode jdk_52_method_5_code 29 = .ok (.iconst 1, 1) := by decide +kernel
theorem d22_30 : decode jdk_52_method_5_code 30 = .ok (.ishl, 1) := by decide +kernel
theorem d22_31 : decode jdk_52_method_5_code 31 = .ok (.istore_n 1, 1) := by decide +kernel
theorem d22_32 : decode jdk_52_method_5_code 32 = .ok (.aload_n 0, 1) := by decide +kernel
theorem d22_33 : decode jdk_52_method_5_code 33 = .ok (.iload_n 1, 1) := by decide +kernel
theorem d22_34 : decode jdk_52_method_5_code 34 = .ok (.iinc 1 1, 3) := by decide +kernel
theorem d22_37 : decode jdk_52_method_5_code 37 = .ok (.baload, 1) := by decide +kernel
theorem d22_38 : decode jdk_52_method_5_code 38 = .ok (.sipush 255, 3) := by decide +kernel
theorem d22_41 : decode jdk_52_method_5_code 41 = .ok (.iand, 1) := by decide +kernel
theorem d22_42 : decode jdk_52_method_5_code 42 = .ok (.getstatic 59, 3) := by decide +kernel
theorem d22_45 : decode jdk_52_method_5_code 45 = .ok (.ishl, 1) := by decide +kernel
theorem d22_46 : decode jdk_52_method_5_code 46 = .ok (.aload_n 0, 1) := by decide +kernel
theorem d22_47 : decode jdk_52_method_5_code 47 = .ok (.iload_n 1, 1) := by decide +kernel
theorem d22_48 : decode jdk_52_method_5_code 48 = .ok (.baload, 1) := by decide +kernel
theorem d22_49 : decode jdk_52_method_5_code 49 = .ok (.sipush 255, 3) := by decide +kernel
theorem d22_52 : decode jdk_52_method_5_code 52 = .ok (.iand, 1) := by decide +kernel
theorem d22_53 : decode jdk_52_method_5_code 53 = .ok (.getstatic 63, 3) := by decide +kernel
theorem d22_56 : decode jdk_52_method_5_code 56 = .ok (.ishl, 1) := by decide +kernel
theorem d22_57 : decode jdk_52_method_5_code 57 = .ok (.ior, 1) := by decide +kernel
theorem d22_58 : decode jdk_52_method_5_code 58 = .ok (.i2c, 1) := by decide +kernel
theorem d22_59 : decode jdk_52_method_5_code 59 = .ok (.ireturn, 1) := by decide +kernel
theorem ef_22_8 (m : MethodId) (x0 : Addr) (x1 : Int32) : entryFrame m #[(.ref x0), (.int x1)] 2 = mkF m 0 #[.val (.ref x0), .val (.int x1)] [] := by first | (simp [entryFrame, mkF, argsToLocals, Value.category]; done) | rfl
theorem r_gc (l : Launch) (Z : State) (a0 : Array Value) (hw : own_HW a0 Z) (ws : List Jvm.Cond) (cs1 : Int32) (fv : Value) (h0 : Heap) (n0 : Nat) (O0 : Old Z n0 h0) (G : own_Ctx Z Z.heap cs1 fv) (a2 : Addr) (k2 : ClassId) (cs : List Int32) (i : Nat) (Va : Arv Z h0 a2 k2 .byte (2 * cs.length).toInt32 (cs.flatMap own_two) (.int (0 : Int32))) (hi : i < cs.length) (hn : cs.length ≤ 4) (hz : ¬ (cs[i] < (0 : Int32))) (hm : ¬ ((65535 : Int32) < cs[i])) :
    own_M l Y7_ (head1 (Jvm.Cond.code Y7_ jdk_52_method_5_code 2 (some .char) :: ws) (own_rm_ 0 0 0 0)) #[(.ref a2), (.int i.toInt32)] Z h0 n0 (own_Q (some (.int cs[i]))) (own_rm_ 0 0 0 0).cells (own_rm_ 0 0 0 0).slots := by
  have G0 := G
  obtain ⟨S_CS, N_CS, S_F, R_F, S_AD, S_HI, S_LO⟩ := G
  refine MetFree.of_bodySF (plainFor_of_name pn_0) hisR ?_
  intro p e s m args below meth c s₁ Bd hml0 hP hK
  obtain ⟨rfl, hZ, hh⟩ := hP
  have hx := Bd.exec
  have hby := Bd.bytes
  have hml : c.maxLocals = 2 := hml0
  have hown : s.vm.findClass "java/lang/StringUTF16" = some m.cls := findClass_of_methodNamed Bd.named
  have hnm := (name_of_methodNamed Bd.named Bd.method).1
  have X0 : Stand p l e (own_rm_ 0 0 0 0) s m #[(.ref a2), (.int i.toInt32)] below meth c s₁ [] 0 0 := Stand.of_body Bd
  have e0 : s₁.heap = h0 := by rw [← hh, Bd.state]; rfl
  have N0 := Fr.nil n0
  have pre0 := own_pre (tb := p.tables) (e := e) (below := below) (T := s₁) (ef_22_8 m a2 i.toInt32)
  obtain ⟨T1, X1, e1, st1⟩ := getS2 X0 hx hZ hown (host := "") (Or.inl (own_w hw 94 rfl)) Via.refl e0 (S_AD.ext O0.2) (g := (mkF m 0 #[.val (.ref a2), .val (.int i.toInt32)] [])) rfl (hb hby d22_0)
  have vc2 := Va
  obtain ⟨cl2, Ar2, qk2, S2, Nn2, Hs2, Gf2⟩ := vc2
  have hin2 : ¬ ((2 * i).toInt32 < 0 ∨ cl2.slots.size ≤ ((2 * i).toInt32).toNatClampNeg) := inb_of S2 ⟨(own_2ti hi hn).2.2.1, (own_two_in hi hn).1⟩
  have hat2 : cl2.slots[((2 * i).toInt32).toNatClampNeg]? = some (.int (nar .byte ((cs[i] >>> ((0 : Int32) &&& 31)).toInt8.toInt32))) := Has.at Hs2 hin2 (by rw [(own_2ti hi hn).1]; exact (own_two_get cs hi).1)
  obtain ⟨T3, X3, e3, st3⟩ := getS2 X1 hx hZ hown (host := "") (Or.inl (own_w hw 95 rfl)) Via.refl e1 (S_HI.ext O0.2) (g := (mkF m 42 #[.val (.ref a2), .val (.int (2 * i + 1).toInt32)] [(.int ((nar .byte ((cs[i] >>> ((0 : Int32) &&& 31)).toInt8.toInt32)) &&& (255 : Int32)))])) rfl (hb hby d22_42)
  have vc4 := Va
  obtain ⟨cl4, Ar4, qk4, S4, Nn4, Hs4, Gf4⟩ := vc4
  have hin4 : ¬ ((2 * i + 1).toInt32 < 0 ∨ cl4.slots.size ≤ ((2 * i + 1).toInt32).toNatClampNeg) := inb_of S4 ⟨(own_2ti hi hn).2.2.2, (own_two_in hi hn).2⟩
  have hat4 : cl4.slots[((2 * i + 1).toInt32).toNatClampNeg]? = some (.int (nar .byte ((cs[i] >>> ((8 : Int32) &&& 31)).toInt8.toInt32))) := Has.at Hs4 hin4 (by rw [(own_2ti hi hn).2.1]; exact (own_two_get cs hi).2)
  obtain ⟨T5, X5, e5, st5⟩ := getS2 X3 hx hZ hown (host := "") (Or.inl (own_w hw 96 rfl)) Via.refl e3 (S_LO.ext O0.2) (g := (mkF m 53 #[.val (.ref a2), .val (.int (2 * i + 1).toInt32)] [(.int ((nar .byte ((cs[i] >>> ((8 : Int32) &&& 31)).toInt8.toInt32)) &&& (255 : Int32))), (.int (((nar .byte ((cs[i] >>> ((0 : Int32) &&& 31)).toInt8.toInt32)) &&& (255 : Int32)) <<< ((0 : Int32) &&& 31)))])) rfl (hb hby d22_53)
  obtain ⟨fs, hr, hrun, hended, hW, hsame⟩ := X5.leave (v := some (.int (nar .char cs[i]))) (fun h => by rw [Bd.returns] at h; cases h)
  refine ⟨_, _, pre0 _ ?_, hrun, hended, _, _, rfl, ?_, ⟨_, rfl⟩, hW, hsame.mono (by decide) (by decide)⟩
  · show Steps p.tables e below (s₁.setTop (mkF m 0 #[.val (.ref a2), .val (.int i.toInt32)] [])) _
    refine st1 _ ?_
    show Steps p.tables e below (T1.setTop (mkF m 3 #[.val (.ref a2), .val (.int i.toInt32)] [(.int (1 : Int32))])) _
    refine XS.ifYes X1.here hx rfl (pc0 := 3) (pc' := 28) rfl (hb hby d22_3) rfl ((if0 _ _).trans (feq (by decide : ¬ ((1 : Int32) = (0 : Int32)))).2) (by decide) (by decide) ?_
    refine XS.iloadN X1.here hx rfl (hb hby d22_28) rfl ?_
    refine XS.iconst X1.here hx rfl (hb hby d22_29) ?_
    show Steps p.tables e below (T1.setTop (mkF m 30 #[.val (.ref a2), .val (.int i.toInt32)] [(.int (1 : Int32)), (.int i.toInt32)])) _
    refine XS.ishl X1.here hx rfl (hb hby d22_30) rfl ?_
    show Steps p.tables e below (T1.setTop (mkF m 31 #[.val (.ref a2), .val (.int i.toInt32)] [(.int (i.toInt32 <<< ((1 : Int32) &&& 31)))])) _
    rw [own_shl1 (i := i) (own_ki hi hn)]
    show Steps p.tables e below (T1.setTop (mkF m 31 #[.val (.ref a2), .val (.int i.toInt32)] [(.int (2 * i).toInt32)])) _
    refine XS.istoreN X1.here hx rfl (hb hby d22_31) rfl (l' := #[.val (.ref a2), .val (.int (2 * i).toInt32)]) rfl ?_
    refine XS.aloadN X1.here hx rfl (hb hby d22_32) rfl rfl ?_
    refine XS.iloadN X1.here hx rfl (hb hby d22_33) rfl ?_
    show Steps p.tables e below (T1.setTop (mkF m 34 #[.val (.ref a2), .val (.int (2 * i).toInt32)] [(.int (2 * i).toInt32), (.ref a2)])) _
    refine XS.iinc X1.here hx rfl (hb hby d22_34) rfl (l' := #[.val (.ref a2), .val (.int ((2 * i).toInt32 + (1 : Int32)))]) rfl ?_
    show Steps p.tables e below (T1.setTop (mkF m 37 #[.val (.ref a2), .val (.int ((2 * i).toInt32 + (1 : Int32)))] [(.int (2 * i).toInt32), (.ref a2)])) _
    rw [own_ts (i := 2 * i) (by omega)]
    show Steps p.tables e below (T1.setTop (mkF m 37 #[.val (.ref a2), .val (.int (2 * i + 1).toInt32)] [(.int (2 * i).toInt32), (.ref a2)])) _
    refine X1.baloadBytes hx (j := (2 * i).toInt32) (v := (.int (nar .byte ((cs[i] >>> ((0 : Int32) &&& 31)).toInt8.toInt32)))) (by rw [e1]; exact Ar2.1) (State.isArrayOf_alike hZ.alike Ar2.2.1) Ar2.2.2 hin2 hat2 (g := (mkF m 37 #[.val (.ref a2), .val (.int (2 * i + 1).toInt32)] [(.int (2 * i).toInt32), (.ref a2)])) rfl rfl (hb hby d22_37) _ ?_
    show Steps p.tables e below (T1.setTop (mkF m 38 #[.val (.ref a2), .val (.int (2 * i + 1).toInt32)] [(.int (nar .byte ((cs[i] >>> ((0 : Int32) &&& 31)).toInt8.toInt32)))])) _
    refine XS.sipush X1.here hx rfl (hb hby d22_38) ?_
    refine XS.iand X1.here hx rfl (hb hby d22_41) rfl ?_
    show Steps p.tables e below (T1.setTop (mkF m 42 #[.val (.ref a2), .val (.int (2 * i + 1).toInt32)] [(.int ((nar .byte ((cs[i] >>> ((0 : Int32) &&& 31)).toInt8.toInt32)) &&& (255 : Int32)))])) _
    refine st3 _ ?_
    show Steps p.tables e below (T3.setTop (mkF m 45 #[.val (.ref a2), .val (.int (2 * i + 1).toInt32)] [(.int (0 : Int32)), (.int ((nar .byte ((cs[i] >>> ((0 : Int32) &&& 31)).toInt8.toInt32)) &&& (255 : Int32)))])) _
    refine XS.ishl X3.here hx rfl (hb hby d22_45) rfl ?_
    show Steps p.tables e below (T3.setTop (mkF m 46 #[.val (.ref a2), .val (.int (2 * i + 1).toInt32)] [(.int (((nar .byte ((cs[i] >>> ((0 : Int32) &&& 31)).toInt8.toInt32)) &&& (255 : Int32)) <<< ((0 : Int32) &&& 31)))])) _
    refine XS.aloadN X3.here hx rfl (hb hby d22_46) rfl rfl ?_
    refine XS.iloadN X3.here hx rfl (hb hby d22_47) rfl ?_
    show Steps p.tables e below (T3.setTop (mkF m 48 #[.val (.ref a2), .val (.int (2 * i + 1).toInt32)] [(.int (2 * i + 1).toInt32), (.ref a2), (.int (((nar .byte ((cs[i] >>> ((0 : Int32) &&& 31)).toInt8.toInt32)) &&& (255 : Int32)) <<< ((0 : Int32) &&& 31)))])) _
    refine X3.baloadBytes hx (j := (2 * i + 1).toInt32) (v := (.int (nar .byte ((cs[i] >>> ((8 : Int32) &&& 31)).toInt8.toInt32)))) (by rw [e3]; exact Ar4.1) (State.isArrayOf_alike hZ.alike Ar4.2.1) Ar4.2.2 hin4 hat4 (g := (mkF m 48 #[.val (.ref a2), .val (.int (2 * i + 1).toInt32)] [(.int (2 * i + 1).toInt32), (.ref a2), (.int (((nar .byte ((cs[i] >>> ((0 : Int32) &&& 31)).toInt8.toInt32)) &&& (255 : Int32)) <<< ((0 : Int32) &&& 31)))])) rfl rfl (hb hby d22_48) _ ?_
    show Steps p.tables e below (T3.setTop (mkF m 49 #[.val (.ref a2), .val (.int (2 * i + 1).toInt32)] [(.int (nar .byte ((cs[i] >>> ((8 : Int32) &&& 31)).toInt8.toInt32))), (.int (((nar .byte ((cs[i] >>> ((0 : Int32) &&& 31)).toInt8.toInt32)) &&& (255 : Int32)) <<< ((0 : Int32) &&& 31)))])) _
    refine XS.sipush X3.here hx rfl (hb hby d22_49) ?_
    refine XS.iand X3.here hx rfl (hb hby d22_52) rfl ?_
    show Steps p.tables e below (T3.setTop (mkF m 53 #[.val (.ref a2), .val (.int (2 * i + 1).toInt32)] [(.int ((nar .byte ((cs[i] >>> ((8 : Int32) &&& 31)).toInt8.toInt32)) &&& (255 : Int32))), (.int (((nar .byte ((cs[i] >>> ((0 : Int32) &&& 31)).toInt8.toInt32)) &&& (255 : Int32)) <<< ((0 : Int32) &&& 31)))])) _
    refine st5 _ ?_
    show Steps p.tables e below (T5.setTop (mkF m 56 #[.val (.ref a2), .val (.int (2 * i + 1).toInt32)] [(.int (8 : Int32)), (.int ((nar .byte ((cs[i] >>> ((8 : Int32) &&& 31)).toInt8.toInt32)) &&& (255 : Int32))), (.int (((nar .byte ((cs[i] >>> ((0 : Int32) &&& 31)).toInt8.toInt32)) &&& (255 : Int32)) <<< ((0 : Int32) &&& 31)))])) _
    refine XS.ishl X5.here hx rfl (hb hby d22_56) rfl ?_
    show Steps p.tables e below (T5.setTop (mkF m 57 #[.val (.ref a2), .val (.int (2 * i + 1).toInt32)] [(.int (((nar .byte ((cs[i] >>> ((8 : Int32) &&& 31)).toInt8.toInt32)) &&& (255 : Int32)) <<< ((8 : Int32) &&& 31))), (.int (((nar .byte ((cs[i] >>> ((0 : Int32) &&& 31)).toInt8.toInt32)) &&& (255 : Int32)) <<< ((0 : Int32) &&& 31)))])) _
    refine XS.ior X5.here hx rfl (hb hby d22_57) rfl ?_
    show Steps p.tables e below (T5.setTop (mkF m 58 #[.val (.ref a2), .val (.int (2 * i + 1).toInt32)] [(.int ((((nar .byte ((cs[i] >>> ((0 : Int32) &&& 31)).toInt8.toInt32)) &&& (255 : Int32)) <<< ((0 : Int32) &&& 31)) ||| (((nar .byte ((cs[i] >>> ((8 : Int32) &&& 31)).toInt8.toInt32)) &&& (255 : Int32)) <<< ((8 : Int32) &&& 31))))])) _
    refine XS.i2c X5.here hx rfl (hb hby d22_58) rfl ?_
    show Steps p.tables e below (T5.setTop (mkF m 59 #[.val (.ref a2), .val (.int (2 * i + 1).toInt32)] [(.int (((((nar .byte ((cs[i] >>> ((0 : Int32) &&& 31)).toInt8.toInt32)) &&& (255 : Int32)) <<< ((0 : Int32) &&& 31)) ||| (((nar .byte ((cs[i] >>> ((8 : Int32) &&& 31)).toInt8.toInt32)) &&& (255 : Int32)) <<< ((8 : Int32) &&& 31))).toUInt32.toUInt16.toUInt32.toInt32))])) _
    rw [own_utf hz hm]
    show Steps p.tables e below (T5.setTop (mkF m 59 #[.val (.ref a2), .val (.int (2 * i + 1).toInt32)] [(.int cs[i])])) _
    exact retN X5 hx (t := .char) Bd.returns (by simp) (hb hby d22_59) hr
  · show own_Q (some (.int cs[i])) h0 n0 _ T5.heap _
    rw [e5]
    exact ⟨own_nch hz hm, N0, rfl⟩
theorem d25_0 : decode jdk_52_method_6_code 0 = .ok (.aload_n 0, 1) := by decide +kernel
theorem d25_1 : decode jdk_52_method_6_code 1 = .ok (.arraylength, 1) := by decide +kernel
theorem d25_2 : decode jdk_52_method_6_code 2 = .ok (.iconst 1, 1) := by decide +kernel
theorem d25_3 : decode jdk_52_method_6_code 3 = .ok (.ishr, 1) := by decide +kernel
theorem d25_4 : decode jdk_52_method_6_code 4 = .ok (.ireturn, 1) := by decide +kernel
theorem ef_25_9 (m : MethodId) (x0 : Addr) : entryFrame m #[(.ref x0)] 1 = mkF m 0 #[.val (.ref x0)] [] := by first | (simp [entryFrame, mkF, argsToLocals, Value.category]; done) | rfl
theorem r_ul (l : Launch) (Z : State) (a0 : Array Value) (hw : own_HW a0 Z) (ws : List Jvm.Cond) (cs1 : Int32) (fv : Value) (h0 : Heap) (n0 : Nat) (O0 : Old Z n0 h0) (G : own_Ctx Z Z.heap cs1 fv) (a2 : Addr) (k2 : ClassId) (n : Nat) (vs : List Value) (Va : Arv Z h0 a2 k2 .byte (2 * n).toInt32 vs (.int (0 : Int32))) (hn : n ≤ 4) :
    own_M l Y8_ (head1 (Jvm.Cond.code Y8_ jdk_52_method_6_code 1 (some .int) :: ws) (own_rm_ 0 0 0 0)) #[(.ref a2)] Z h0 n0 (own_Q (some (.int n.toInt32))) (own_rm_ 0 0 0 0).cells (own_rm_ 0 0 0 0).slots := by
  have G0 := G
  obtain ⟨S_CS, N_CS, S_F, R_F, S_AD, S_HI, S_LO⟩ := G
  refine MetFree.of_bodySF (plainFor_of_name pn_0) hisR ?_
  intro p e s m args below meth c s₁ Bd hml0 hP hK
  obtain ⟨rfl, hZ, hh⟩ := hP
  have hx := Bd.exec
  have hby := Bd.bytes
  have hml : c.maxLocals = 1 := hml0
  have hown : s.vm.findClass "java/lang/StringUTF16" = some m.cls := findClass_of_methodNamed Bd.named
  have hnm := (name_of_methodNamed Bd.named Bd.method).1
  have X0 : Stand p l e (own_rm_ 0 0 0 0) s m #[(.ref a2)] below meth c s₁ [] 0 0 := Stand.of_body Bd
  have e0 : s₁.heap = h0 := by rw [← hh, Bd.state]; rfl
  have N0 := Fr.nil n0
  have pre0 := own_pre (tb := p.tables) (e := e) (below := below) (T := s₁) (ef_25_9 m a2)
  have vc1 := Va
  obtain ⟨cl1, Ar1, qk1, S1, Nn1, Hs1, Gf1⟩ := vc1
  obtain ⟨fs, hr, hrun, hended, hW, hsame⟩ := X0.leave (v := some (.int n.toInt32)) (fun h => by rw [Bd.returns] at h; cases h)
  refine ⟨_, _, pre0 _ ?_, hrun, hended, _, _, rfl, ?_, ⟨_, rfl⟩, hW, hsame.mono (by decide) (by decide)⟩
  · show Steps p.tables e below (s₁.setTop (mkF m 0 #[.val (.ref a2)] [])) _
    refine XS.aloadN X0.here hx rfl (hb hby d25_0) rfl rfl ?_
    show Steps p.tables e below (s₁.setTop (mkF m 1 #[.val (.ref a2)] [(.ref a2)])) _
    refine X0.arraylength hx (by rw [e0]; exact Ar1.1) (State.isArrayOf_alike hZ.alike Ar1.2.1) (g := (mkF m 1 #[.val (.ref a2)] [(.ref a2)])) rfl rfl (hb hby d25_1) _ ?_
    rw [len_of S1 Nn1]
    show Steps p.tables e below (s₁.setTop (mkF m 2 #[.val (.ref a2)] [(.int (2 * n).toInt32)])) _
    refine XS.iconst X0.here hx rfl (hb hby d25_2) ?_
    refine XS.ishr X0.here hx rfl (hb hby d25_3) rfl ?_
    show Steps p.tables e below (s₁.setTop (mkF m 4 #[.val (.ref a2)] [(.int ((2 * n).toInt32 >>> ((1 : Int32) &&& 31)))])) _
    rw [own_shr1 (i := n) (by omega)]
    show Steps p.tables e below (s₁.setTop (mkF m 4 #[.val (.ref a2)] [(.int n.toInt32)])) _
    exact retI X0 hx Bd.returns (hb hby d25_4) hr
  · show own_Q (some (.int n.toInt32)) h0 n0 _ s₁.heap _
    rw [e0]
    exact ⟨rfl, N0, rfl⟩
theorem d24_0 : decode jdk_52_method_91_code 0 = .ok (.iload_n 0, 1) := by decide +kernel
theorem d24_1 : decode jdk_52_method_91_code 1 = .ok (.aload_n 1, 1) := by decide +kernel
theorem d24_2 : decode jdk_52_method_91_code 2 = .ok (.invokestatic 48, 3) := by decide +kernel
theorem pd_4 : parseMethodDescriptor "([B)I" = some ⟨[(.array .byte)], some .int⟩ := by decide +kernel
theorem d24_5 : decode jdk_52_method_91_code 5 = .ok (.invokestatic 414, 3) := by decide +kernel
theorem pd_5 : parseMethodDescriptor "(II)V" = some ⟨[.int, .int], none⟩ := by decide +kernel
theorem d24_8 : decode jdk_52_method_91_code 8 = .ok (.return_, 1) := by decide +kernel
theorem ef_24_10 (m : MethodId) (x0 : Int32) (x1 : Addr) : entryFrame m #[(.int x0), (.ref x1)] 2 = mkF m 0 #[.val (.int x0), .val (.ref x1)] [] := by first | (simp [entryFrame, mkF, argsToLocals, Value.category]; done) | rfl
theorem r_uci (l : Launch) (Z : State) (a0 : Array Value) (hw : own_HW a0 Z) (ws : List Jvm.Cond) (cs1 : Int32) (fv : Value) (h0 : Heap) (n0 : Nat) (O0 : Old Z n0 h0) (G : own_Ctx Z Z.heap cs1 fv) (a2 : Addr) (k2 : ClassId) (cs : List Int32) (i : Nat) (Va : Arv Z h0 a2 k2 .byte (2 * cs.length).toInt32 (cs.flatMap own_two) (.int (0 : Int32))) (hi : i < cs.length) (hn : cs.length ≤ 4) :
    own_M l Y9_ (head1 (Jvm.Cond.code Y9_ jdk_52_method_91_code 2 none :: ws) (own_rm_ 2 0 0 27)) #[(.int i.toInt32), (.ref a2)] Z h0 n0 (own_Q (none)) (own_rm_ 2 0 0 27).cells (own_rm_ 2 0 0 27).slots := by
  have G0 := G
  obtain ⟨S_CS, N_CS, S_F, R_F, S_AD, S_HI, S_LO⟩ := G
  refine MetFree.of_bodySF (plainFor_of_name pn_0) hisR ?_
  intro p e s m args below meth c s₁ Bd hml0 hP hK
  obtain ⟨rfl, hZ, hh⟩ := hP
  have hx := Bd.exec
  have hby := Bd.bytes
  have hml : c.maxLocals = 2 := hml0
  have hown : s.vm.findClass "java/lang/StringUTF16" = some m.cls := findClass_of_methodNamed Bd.named
  have hnm := (name_of_methodNamed Bd.named Bd.method).1
  have X0 : Stand p l e (own_rm_ 2 0 0 27) s m #[(.int i.toInt32), (.ref a2)] below meth c s₁ [] 0 0 := Stand.of_body Bd
  have e0 : s₁.heap = h0 := by rw [← hh, Bd.state]; rfl
  have N0 := Fr.nil n0
  have pre0 := own_pre (tb := p.tables) (e := e) (below := below) (T := s₁) (ef_24_10 m i.toInt32 a2)
  obtain ⟨_, _, ⟨T1, L1, k1, n1⟩, -, X1, ⟨Lc1, hQ1, l1, y1, z1⟩, st1⟩ := Jvm.LawKit.callS X0 hx (y := Y8_) hown (mvT hZ (own_w hw 106 rfl)) (mvT hZ (own_w hw 107 rfl)) (mvT hZ (own_w hw 40 rfl)) (mvT hZ (own_w hw 108 rfl)) (by decide) (backOf (W := 1) (r_ul l Z a0 hw [] cs1 fv h0 n0 O0 G0 a2 k2 cs.length (cs.flatMap own_two) Va hn) hZ (own_w hw 108 rfl) (own_w hw 40 rfl) (by decide) (by decide)) (g := (mkF m 2 #[.val (.int i.toInt32), .val (.ref a2)] [(.ref a2), (.int i.toInt32)])) rfl (by rw [hml]; rfl) (argsL := [(.ref a2)]) (rest := [(.int i.toInt32)]) (lenOf pd_4 rfl) rfl (by show 2 * 0 + _ ≤ _; exact Nat.le_of_eq rfl) (hb hby d24_2) (fun _ _ => ⟨rfl, e0, (by decide : 0 + 0 ≤ _), (by decide : 0 + 0 ≤ _)⟩)
  dsimp only [Pt.U, Pt.locs, Pt.cells, Pt.slots] at X1 l1 y1 z1 st1 hQ1
  subst l1 y1 z1
  obtain ⟨rfl, N1q, e1⟩ := hQ1
  have N1 := Fr.app N0 N1q
  obtain ⟨_, _, ⟨T2, L2, k2, n2⟩, -, X2, ⟨Lc2, hQ2, l2, y2, z2⟩, st2⟩ := Jvm.LawKit.callS X1 hx (y := Y6_) hown (mvT hZ (own_w hw 109 rfl)) (mvT hZ (own_w hw 63 rfl)) (mvT hZ (own_w hw 3 rfl)) (mvT hZ (own_w hw 64 rfl)) (by decide) (backOf (W := 0) (r_ci l Z a0 hw [] cs1 fv h0 n0 O0 G0 i.toInt32 cs.length.toInt32 (own_ti (own_ki hi hn)).2.1 (own_tl hi (own_k hn))) hZ (own_w hw 64 rfl) (own_w hw 3 rfl) (by decide) (by decide)) (g := (mkF m 5 #[.val (.int i.toInt32), .val (.ref a2)] [(.int cs.length.toInt32), (.int i.toInt32)])) rfl (by rw [hml]; rfl) (argsL := [(.int i.toInt32), (.int cs.length.toInt32)]) (rest := []) (lenOf pd_5 rfl) rfl (by show 2 * 0 + _ ≤ _; exact Nat.le_of_eq rfl) (hb hby d24_5) (fun _ _ => ⟨rfl, e1, (by decide : 0 + 0 ≤ _), (by decide : 0 + 0 ≤ _)⟩)
  dsimp only [Pt.U, Pt.locs, Pt.cells, Pt.slots] at X2 l2 y2 z2 st2 hQ2
  subst l2 y2 z2
  obtain ⟨rfl, N2q, e2⟩ := hQ2
  have N2 := Fr.app N1 N2q
  obtain ⟨fs, hr, hrun, hended, hW, hsame⟩ := X2.leave (v := none) (fun _ => rfl)
  refine ⟨_, _, pre0 _ ?_, hrun, hended, _, _, rfl, ?_, ⟨_, rfl⟩, hW, hsame.mono (by decide) (by decide)⟩
  · show Steps p.tables e below (s₁.setTop (mkF m 0 #[.val (.int i.toInt32), .val (.ref a2)] [])) _
    refine XS.iloadN X0.here hx rfl (hb hby d24_0) rfl ?_
    refine XS.aloadN X0.here hx rfl (hb hby d24_1) rfl rfl ?_
    show Steps p.tables e below (s₁.setTop (mkF m 2 #[.val (.int i.toInt32), .val (.ref a2)] [(.ref a2), (.int i.toInt32)])) _
    refine st1 _ ?_
    show Steps p.tables e below (T1.setTop (mkF m 5 #[.val (.int i.toInt32), .val (.ref a2)] [(.int cs.length.toInt32), (.int i.toInt32)])) _
    refine st2 _ ?_
    show Steps p.tables e below (T2.setTop (mkF m 8 #[.val (.int i.toInt32), .val (.ref a2)] [])) _
    exact X2.returnOut hx Bd.returns (hb hby d24_8) hr
  · show own_Q (none) h0 n0 _ T2.heap _
    rw [e2]
    exact ⟨rfl, N2, rfl⟩
theorem d23_0 : decode jdk_52_method_83_code 0 = .ok (.iload_n 1, 1) := by decide +kernel
theorem d23_1 : decode jdk_52_method_83_code 1 = .ok (.aload_n 0, 1) := by decide +kernel
theorem d23_2 : decode jdk_52_method_83_code 2 = .ok (.invokestatic 67, 3) := by decide +kernel
theorem pd_6 : parseMethodDescriptor "(I[B)V" = some ⟨[.int, (.array .byte)], none⟩ := by decide +kernel
theorem d23_5 : decode jdk_52_method_83_code 5 = .ok (.aload_n 0, 1) := by decide +kernel
theorem d23_6 : decode jdk_52_method_83_code 6 = .ok (.iload_n 1, 1) := by decide +kernel
theorem d23_7 : decode jdk_52_method_83_code 7 = .ok (.invokestatic 71, 3) := by decide +kernel
theorem pd_7 : parseMethodDescriptor "([BI)C" = some ⟨[(.array .byte), .int], some .char⟩ := by decide +kernel
theorem d23_10 : decode jdk_52_method_83_code 10 = .ok (.ireturn, 1) := by decide +kernel
theorem ef_23_11 (m : MethodId) (x0 : Addr) (x1 : Int32) : entryFrame m #[(.ref x0), (.int x1)] 2 = mkF m 0 #[.val (.ref x0), .val (.int x1)] [] := by first | (simp [entryFrame, mkF, argsToLocals, Value.category]; done) | rfl
theorem r_uch (l : Launch) (Z : State) (a0 : Array Value) (hw : own_HW a0 Z) (ws : List Jvm.Cond) (cs1 : Int32) (fv : Value) (h0 : Heap) (n0 : Nat) (O0 : Old Z n0 h0) (G : own_Ctx Z Z.heap cs1 fv) (a2 : Addr) (k2 : ClassId) (cs : List Int32) (i : Nat) (Va : Arv Z h0 a2 k2 .byte (2 * cs.length).toInt32 (cs.flatMap own_two) (.int (0 : Int32))) (hi : i < cs.length) (hn : cs.length ≤ 4) (hz : ¬ (cs[i] < (0 : Int32))) (hm : ¬ ((65535 : Int32) < cs[i])) :
    own_M l Y10_ (head1 (Jvm.Cond.code Y10_ jdk_52_method_83_code 2 (some .char) :: ws) (own_rm_ 3 0 0 40)) #[(.ref a2), (.int i.toInt32)] Z h0 n0 (own_Q (some (.int cs[i]))) (own_rm_ 3 0 0 40).cells (own_rm_ 3 0 0 40).slots := by
  have G0 := G
  obtain ⟨S_CS, N_CS, S_F, R_F, S_AD, S_HI, S_LO⟩ := G
  refine MetFree.of_bodySF (plainFor_of_name pn_0) hisR ?_
  intro p e s m args below meth c s₁ Bd hml0 hP hK
  obtain ⟨rfl, hZ, hh⟩ := hP
  have hx := Bd.exec
  have hby := Bd.bytes
  have hml : c.maxLocals = 2 := hml0
  have hown : s.vm.findClass "java/lang/StringUTF16" = some m.cls := findClass_of_methodNamed Bd.named
  have hnm := (name_of_methodNamed Bd.named Bd.method).1
  have X0 : Stand p l e (own_rm_ 3 0 0 40) s m #[(.ref a2), (.int i.toInt32)] below meth c s₁ [] 0 0 := Stand.of_body Bd
  have e0 : s₁.heap = h0 := by rw [← hh, Bd.state]; rfl
  have N0 := Fr.nil n0
  have pre0 := own_pre (tb := p.tables) (e := e) (below := below) (T := s₁) (ef_23_11 m a2 i.toInt32)
  obtain ⟨_, _, ⟨T1, L1, k1, n1⟩, -, X1, ⟨Lc1, hQ1, l1, y1, z1⟩, st1⟩ := Jvm.LawKit.callS X0 hx (y := Y9_) hown (mvT hZ (own_w hw 103 rfl)) (mvT hZ (own_w hw 104 rfl)) (mvT hZ (own_w hw 40 rfl)) (mvT hZ (own_w hw 105 rfl)) (by decide) (backOf (W := 0) (r_uci l Z a0 hw [] cs1 fv h0 n0 O0 G0 a2 k2 cs i Va hi hn) hZ (own_w hw 105 rfl) (own_w hw 40 rfl) (by decide) (by decide)) (g := (mkF m 2 #[.val (.ref a2), .val (.int i.toInt32)] [(.ref a2), (.int i.toInt32)])) rfl (by rw [hml]; rfl) (argsL := [(.int i.toInt32), (.ref a2)]) (rest := []) (lenOf pd_6 rfl) rfl (by show 2 * 0 + _ ≤ _; exact Nat.le_of_eq rfl) (hb hby d23_2) (fun _ _ => ⟨rfl, e0, (by decide : 0 + 0 ≤ _), (by decide : 0 + 0 ≤ _)⟩)
  dsimp only [Pt.U, Pt.locs, Pt.cells, Pt.slots] at X1 l1 y1 z1 st1 hQ1
  subst l1 y1 z1
  obtain ⟨rfl, N1q, e1⟩ := hQ1
  have N1 := Fr.app N0 N1q
  obtain ⟨_, _, ⟨T2, L2, k2, n2⟩, -, X2, ⟨Lc2, hQ2, l2, y2, z2⟩, st2⟩ := Jvm.LawKit.callS X1 hx (y := Y7_) hown (mvT hZ (own_w hw 97 rfl)) (mvT hZ (own_w hw 98 rfl)) (mvT hZ (own_w hw 40 rfl)) (mvT hZ (own_w hw 99 rfl)) (by decide) (backOf (W := 0) (r_gc l Z a0 hw [] cs1 fv h0 n0 O0 G0 a2 k2 cs i Va hi hn hz hm) hZ (own_w hw 99 rfl) (own_w hw 40 rfl) (by decide) (by decide)) (g := (mkF m 7 #[.val (.ref a2), .val (.int i.toInt32)] [(.int i.toInt32), (.ref a2)])) rfl (by rw [hml]; rfl) (argsL := [(.ref a2), (.int i.toInt32)]) (rest := []) (lenOf pd_7 rfl) rfl (by show 2 * 0 + _ ≤ _; exact Nat.le_of_eq rfl) (hb hby d23_7) (fun _ _ => ⟨rfl, e1, (by decide : 0 + 0 ≤ _), (by decide : 0 + 0 ≤ _)⟩)
  dsimp only [Pt.U, Pt.locs, Pt.cells, Pt.slots] at X2 l2 y2 z2 st2 hQ2
  subst l2 y2 z2
  obtain ⟨rfl, N2q, e2⟩ := hQ2
  have N2 := Fr.app N1 N2q
  obtain ⟨fs, hr, hrun, hended, hW, hsame⟩ := X2.leave (v := some (.int (nar .char cs[i]))) (fun h => by rw [Bd.returns] at h; cases h)
  refine ⟨_, _, pre0 _ ?_, hrun, hended, _, _, rfl, ?_, ⟨_, rfl⟩, hW, hsame.mono (by decide) (by decide)⟩
  · show Steps p.tables e below (s₁.setTop (mkF m 0 #[.val (.ref a2), .val (.int i.toInt32)] [])) _
    refine XS.iloadN X0.here hx rfl (hb hby d23_0) rfl ?_
    refine XS.aloadN X0.here hx rfl (hb hby d23_1) rfl rfl ?_
    show Steps p.tables e below (s₁.setTop (mkF m 2 #[.val (.ref a2), .val (.int i.toInt32)] [(.ref a2), (.int i.toInt32)])) _
    refine st1 _ ?_
    show Steps p.tables e below (T1.setTop (mkF m 5 #[.val (.ref a2), .val (.int i.toInt32)] [])) _
    refine XS.aloadN X1.here hx rfl (hb hby d23_5) rfl rfl ?_
    refine XS.iloadN X1.here hx rfl (hb hby d23_6) rfl ?_
    show Steps p.tables e below (T1.setTop (mkF m 7 #[.val (.ref a2), .val (.int i.toInt32)] [(.int i.toInt32), (.ref a2)])) _
    refine st2 _ ?_
    show Steps p.tables e below (T2.setTop (mkF m 10 #[.val (.ref a2), .val (.int i.toInt32)] [(.int cs[i])])) _
    exact retN X2 hx (t := .char) Bd.returns (by simp) (hb hby d23_10) hr
  · show own_Q (some (.int cs[i])) h0 n0 _ T2.heap _
    rw [e2]
    exact ⟨own_nch hz hm, N2, rfl⟩
theorem d12_0 : decode jdk_43_method_2_code 0 = .ok (.iload_n 1, 1) := by decide +kernel
theorem d12_1 : decode jdk_43_method_2_code 1 = .ok (.aload_n 0, 1) := by decide +kernel
theorem d12_2 : decode jdk_43_method_2_code 2 = .ok (.arraylength, 1) := by decide +kernel
theorem d12_3 : decode jdk_43_method_2_code 3 = .ok (.invokestatic 9, 3) := by decide +kernel
theorem d12_6 : decode jdk_43_method_2_code 6 = .ok (.aload_n 0, 1) := by decide +kernel
theorem d12_7 : decode jdk_43_method_2_code 7 = .ok (.iload_n 1, 1) := by decide +kernel
theorem d12_8 : decode jdk_43_method_2_code 8 = .ok (.baload, 1) := by decide +kernel
theorem d12_9 : decode jdk_43_method_2_code 9 = .ok (.sipush 255, 3) := by decide +kernel
theorem d12_12 : decode jdk_43_method_2_code 12 = .ok (.iand, 1) := by decide +kernel
theorem d12_13 : decode jdk_43_method_2_code 13 = .ok (.i2c, 1) := by decide +kernel
theorem d12_14 : decode jdk_43_method_2_code 14 = .ok (.ireturn, 1) := by decide +kernel
theorem ef_12_12 (m : MethodId) (x0 : Addr) (x1 : Int32) : entryFrame m #[(.ref x0), (.int x1)] 2 = mkF m 0 #[.val (.ref x0), .val (.int x1)] [] := by first | (simp [entryFrame, mkF, argsToLocals, Value.category]; done) | rfl
theorem pn_3 : plainName "java/lang/StringLatin1" = true := by first | (simp [plainName, overriddenIn]; done) | decide +kernel
theorem r_lch (l : Launch) (Z : State) (a0 : Array Value) (hw : own_HW a0 Z) (ws : List Jvm.Cond) (cs1 : Int32) (fv : Value) (h0 : Heap) (n0 : Nat) (O0 : Old Z n0 h0) (G : own_Ctx Z Z.heap cs1 fv) (a2 : Addr) (k2 : ClassId) (cs : List Int32) (i : Nat) (Va : Arv Z h0 a2 k2 .byte cs.length.toInt32 (cs.map (fun c => .int (nar .byte c.toInt8.toInt32))) (.int (0 : Int32))) (hi : i < cs.length) (hn : cs.length ≤ 4) (hz : ¬ (cs[i] < (0 : Int32))) (hl : ¬ ((255 : Int32) < cs[i])) :
    own_M l Y11_ (head1 (Jvm.Cond.code Y11_ jdk_43_method_2_code 2 (some .char) :: ws) (own_rm_ 2 0 0 27)) #[(.ref a2), (.int i.toInt32)] Z h0 n0 (own_Q (some (.int cs[i]))) (own_rm_ 2 0 0 27).cells (own_rm_ 2 0 0 27).slots := by
  have G0 := G
  obtain ⟨S_CS, N_CS, S_F, R_F, S_AD, S_HI, S_LO⟩ := G
  refine MetFree.of_bodySF (plainFor_of_name pn_3) hisR ?_
  intro p e s m args below meth c s₁ Bd hml0 hP hK
  obtain ⟨rfl, hZ, hh⟩ := hP
  have hx := Bd.exec
  have hby := Bd.bytes
  have hml : c.maxLocals = 2 := hml0
  have hown : s.vm.findClass "java/lang/StringLatin1" = some m.cls := findClass_of_methodNamed Bd.named
  have hnm := (name_of_methodNamed Bd.named Bd.method).1
  have X0 : Stand p l e (own_rm_ 2 0 0 27) s m #[(.ref a2), (.int i.toInt32)] below meth c s₁ [] 0 0 := Stand.of_body Bd
  have e0 : s₁.heap = h0 := by rw [← hh, Bd.state]; rfl
  have N0 := Fr.nil n0
  have pre0 := own_pre (tb := p.tables) (e := e) (below := below) (T := s₁) (ef_12_12 m a2 i.toInt32)
  have vc1 := Va
  obtain ⟨cl1, Ar1, qk1, S1, Nn1, Hs1, Gf1⟩ := vc1
  obtain ⟨_, _, ⟨T2, L2, k2, n2⟩, -, X2, ⟨Lc2, hQ2, l2, y2, z2⟩, st2⟩ := Jvm.LawKit.callS X0 hx (y := Y6_) hown (mvT hZ (own_w hw 62 rfl)) (mvT hZ (own_w hw 63 rfl)) (mvT hZ (own_w hw 3 rfl)) (mvT hZ (own_w hw 64 rfl)) (by decide) (backOf (W := 0) (r_ci l Z a0 hw [] cs1 fv h0 n0 O0 G0 i.toInt32 cs.length.toInt32 (own_ti (own_ki hi hn)).2.1 (own_tl hi (own_k hn))) hZ (own_w hw 64 rfl) (own_w hw 3 rfl) (by decide) (by decide)) (g := (mkF m 3 #[.val (.ref a2), .val (.int i.toInt32)] [(.int cs.length.toInt32), (.int i.toInt32)])) rfl (by rw [hml]; rfl) (argsL := [(.int i.toInt32), (.int cs.length.toInt32)]) (rest := []) (lenOf pd_5 rfl) rfl (by show 2 * 0 + _ ≤ _; exact Nat.le_of_eq rfl) (hb hby d12_3) (fun _ _ => ⟨rfl, e0, (by decide : 0 + 0 ≤ _), (by decide : 0 + 0 ≤ _)⟩)
  dsimp only [Pt.U, Pt.locs, Pt.cells, Pt.slots] at X2 l2 y2 z2 st2 hQ2
  subst l2 y2 z2
  obtain ⟨rfl, N2q, e2⟩ := hQ2
  have N2 := Fr.app N0 N2q
  have vc3 := Va
  obtain ⟨cl3, Ar3, qk3, S3, Nn3, Hs3, Gf3⟩ := vc3
  have hin3 : ¬ (i.toInt32 < 0 ∨ cl3.slots.size ≤ (i.toInt32).toNatClampNeg) := inb_of S3 ⟨(own_ti (own_ki hi hn)).2.1, own_tl hi (own_k hn)⟩
  have hat3 : cl3.slots[(i.toInt32).toNatClampNeg]? = some (.int (nar .byte (cs[i].toInt8.toInt32))) := Has.at Hs3 hin3 (by rw [(own_ti (own_ki hi hn)).1]; exact own_atf (fun c => nar .byte c.toInt8.toInt32) hi)
  obtain ⟨fs, hr, hrun, hended, hW, hsame⟩ := X2.leave (v := some (.int (nar .char cs[i]))) (fun h => by rw [Bd.returns] at h; cases h)
  refine ⟨_, _, pre0 _ ?_, hrun, hended, _, _, rfl, ?_, ⟨_, rfl⟩, hW, hsame.mono (by decide) (by decide)⟩
  · show Steps p.tables e below (s₁.setTop (mkF m 0 #[.val (.ref a2), .val (.int i.toInt32)] [])) _
    refine XS.iloadN X0.here hx rfl (hb hby d12_0) rfl ?_
    refine XS.aloadN X0.here hx rfl (hb hby d12_1) rfl rfl ?_
    show Steps p.tables e below (s₁.setTop (mkF m 2 #[.val (.ref a2), .val (.int i.toInt32)] [(.ref a2), (.int i.toInt32)])) _
    refine X0.arraylength hx (by rw [e0]; exact Ar1.1) (State.isArrayOf_alike hZ.alike Ar1.2.1) (g := (mkF m 2 #[.val (.ref a2), .val (.int i.toInt32)] [(.ref a2), (.int i.toInt32)])) rfl rfl (hb hby d12_2) _ ?_
    rw [len_of S1 Nn1]
    show Steps p.tables e below (s₁.setTop (mkF m 3 #[.val (.ref a2), .val (.int i.toInt32)] [(.int cs.length.toInt32), (.int i.toInt32)])) _
    refine st2 _ ?_
    show Steps p.tables e below (T2.setTop (mkF m 6 #[.val (.ref a2), .val (.int i.toInt32)] [])) _
    refine XS.aloadN X2.here hx rfl (hb hby d12_6) rfl rfl ?_
    refine XS.iloadN X2.here hx rfl (hb hby d12_7) rfl ?_
    show Steps p.tables e below (T2.setTop (mkF m 8 #[.val (.ref a2), .val (.int i.toInt32)] [(.int i.toInt32), (.ref a2)])) _
    refine X2.baloadBytes hx (j := i.toInt32) (v := (.int (nar .byte (cs[i].toInt8.toInt32)))) (by rw [e2]; exact Ar3.1) (State.isArrayOf_alike hZ.alike Ar3.2.1) Ar3.2.2 hin3 hat3 (g := (mkF m 8 #[.val (.ref a2), .val (.int i.toInt32)] [(.int i.toInt32), (.ref a2)])) rfl rfl (hb hby d12_8) _ ?_
    show Steps p.tables e below (T2.setTop (mkF m 9 #[.val (.ref a2), .val (.int i.toInt32)] [(.int (nar .byte (cs[i].toInt8.toInt32)))])) _
    refine XS.sipush X2.here hx rfl (hb hby d12_9) ?_
    refine XS.iand X2.here hx rfl (hb hby d12_12) rfl ?_
    refine XS.i2c X2.here hx rfl (hb hby d12_13) rfl ?_
    show Steps p.tables e below (T2.setTop (mkF m 14 #[.val (.ref a2), .val (.int i.toInt32)] [(.int (((nar .byte (cs[i].toInt8.toInt32)) &&& (255 : Int32)).toUInt32.toUInt16.toUInt32.toInt32))])) _
    rw [own_lat hz hl]
    show Steps p.tables e below (T2.setTop (mkF m 14 #[.val (.ref a2), .val (.int i.toInt32)] [(.int cs[i])])) _
    exact retN X2 hx (t := .char) Bd.returns (by simp) (hb hby d12_14) hr
  · show own_Q (some (.int cs[i])) h0 n0 _ T2.heap _
    rw [e2]
    exact ⟨own_nch hz (own_255 hl), N2, rfl⟩
theorem own_notLat {cs : List Int32} (h : ¬ own_Lat cs) : ∃ j, ∃ hj : j < cs.length, (255 : Int32) < cs[j] := Classical.byContradiction fun q => h fun j hj r => q ⟨j, hj, r⟩
theorem own_n0 {n : Nat} (h : 1 ≤ n) (hn : n ≤ 4) : ¬ (n.toInt32 = (0 : Int32)) ∧ (0 : Int32) < n.toInt32 := by
  have h3 : n = 1 ∨ n = 2 ∨ n = 3 ∨ n = 4 := by omega
  rcases h3 with rfl | rfl | rfl | rfl <;> decide
theorem own_shr0 {n : Nat} (hn : n ≤ 4) : n.toInt32 >>> ((0 : Int32) &&& 31) = n.toInt32 := by
  have h3 : n = 0 ∨ n = 1 ∨ n = 2 ∨ n = 3 ∨ n = 4 := by omega
  rcases h3 with rfl | rfl | rfl | rfl | rfl <;> decide
theorem own_cfs {n : Nat} (hn : n ≤ 4) : ¬ (((n.toInt32 ||| (0 : Int32)) ||| n.toInt32) < (0 : Int32)) ∧ ¬ ((n.toInt32 - (0 : Int32)) < n.toInt32) := by
  have h3 : n = 0 ∨ n = 1 ∨ n = 2 ∨ n = 3 ∨ n = 4 := by omega
  rcases h3 with rfl | rfl | rfl | rfl | rfl <;> decide
theorem own_sub0 (x : Int32) : x - (0 : Int32) = x := by simp
theorem own_irr (x : Int32) : ¬ (x < x) := by rw [Int32.lt_iff_toInt_lt]; omega
theorem own_cap {n : Nat} (hn : n ≤ 4) : n.toInt32.toNatClampNeg ≤ 4 := by rw [(own_ti (own_k hn)).1]; exact hn
theorem own_4 {n : Nat} (hn : n ≤ 4) : n ≤ 400 := by omega
theorem own_nc {c : Int32} (h0 : ¬ (c < (0 : Int32))) (h1 : ¬ ((65535 : Int32) < c)) : nar .char c = c := Value.int.inj (Option.some.inj (own_nch h0 h1))
theorem own_mapc {cs : List Int32} (h : own_Bd cs) : cs.map (fun c => Value.int (nar .char c)) = cs.map Value.int := by
  apply List.map_congr_left
  intro c hc
  obtain ⟨j, hj, rfl⟩ := List.getElem_of_mem hc
  rw [own_nc (h j hj).1 (h j hj).2]
theorem own_fillc (cs : List Int32) {i : Nat} (h : i < cs.length) : (own_fill (fun c => nar .char c) cs i).set i (.int (nar .char cs[i])) = own_fill (fun c => nar .char c) cs (i + 1) := own_fill_set (fun c => nar .char c) cs h
def own_Str (Z : State) (h : Heap) (a : Addr) (cs : List Int32) : Prop := ∃ (b : Addr) (k : ClassId), Exa Z h a "java/lang/String" ∧ Fld Z h a "java/lang/String" "value" "[B" (.ref b) ∧ ((Fld Z h a "java/lang/String" "coder" "B" (.int (0 : Int32)) ∧ own_Lat cs ∧ Arv Z h b k .byte cs.length.toInt32 (cs.map (fun c => .int (nar .byte c.toInt8.toInt32))) (.int (0 : Int32))) ∨ (Fld Z h a "java/lang/String" "coder" "B" (.int (1 : Int32)) ∧ Arv Z h b k .byte (2 * cs.length).toInt32 (cs.flatMap own_two) (.int (0 : Int32))))
theorem own_Str_ext {Z : State} {h h' : Heap} {a : Addr} {cs : List Int32} (E : Ext h h') (S : own_Str Z h a cs) : own_Str Z h' a cs := by
  obtain ⟨b, k, E1, F1, ⟨F2, B, V⟩ | ⟨F2, V⟩⟩ := S
  · exact ⟨b, k, E1.ext E, F1.ext E, Or.inl ⟨F2.ext E, B, V.ext E⟩⟩
  · exact ⟨b, k, E1.ext E, F1.ext E, Or.inr ⟨F2.ext E, V.ext E⟩⟩
theorem own_Str_keep {Z : State} {h h' : Heap} {a : Addr} {cs : List Int32} (K : Keep h h' []) (S : own_Str Z h a cs) : own_Str Z h' a cs := by
  obtain ⟨b, k, E1, F1, ⟨F2, B, V⟩ | ⟨F2, V⟩⟩ := S
  · exact ⟨b, k, E1.keep K, F1.keep K (fun q => nomatch q), Or.inl ⟨F2.keep K (fun q => nomatch q), B, V.keep K (fun q => nomatch q)⟩⟩
  · exact ⟨b, k, E1.keep K, F1.keep K (fun q => nomatch q), Or.inr ⟨F2.keep K (fun q => nomatch q), V.keep K (fun q => nomatch q)⟩⟩
theorem own_Str_exa {Z : State} {h : Heap} {a : Addr} {cs : List Int32} (S : own_Str Z h a cs) : Exa Z h a "java/lang/String" := S.elim fun _ q => q.elim fun _ r => r.1
def own_QS (Z : State) (a1 : Addr) (cs : List Int32) (h0 : Heap) (n0 : Nat) (v : Option Value) (h : Heap) (L : List Loc) : Prop := v = none ∧ Fr n0 L ∧ Keep h0 h [a1] ∧ own_Str Z h a1 cs

theorem d7_0 : decode jdk_52_method_16_code 0 = .ok (.iload_n 2, 1) := by decide +kernel
theorem d7_1 : decode jdk_52_method_16_code 1 = .ok (.newarray .byte, 2) := by decide +kernel
theorem d7_3 : decode jdk_52_method_16_code 3 = .ok (.astore_n 3, 1) := by decide +kernel
theorem d7_4 : decode jdk_52_method_16_code 4 = .ok (.aload_n 0, 1) := by decide +kernel
theorem d7_5 : decode jdk_52_method_16_code 5 = .ok (.iload_n 1, 1) := by decide +kernel
theorem d7_6 : decode jdk_52_method_16_code 6 = .ok (.aload_n 3, 1) := by decide +kernel
theorem d7_7 : decode jdk_52_method_16_code 7 = .ok (.iconst 0, 1) := by decide +kernel
theorem d7_8 : decode jdk_52_method_16_code 8 = .ok (.iload_n 2, 1) := by decide +kernel
theorem d7_9 : decode jdk_52_method_16_code 9 = .ok (.invokestatic 115, 3) := by decide +kernel
theorem pd_8 : parseMethodDescriptor "([CI[BII)I" = some ⟨[(.array .char), .int, (.array .byte), .int, .int], some .int⟩ := by decide +kernel
theorem d7_12 : decode jdk_52_method_16_code 12 = .ok (.istore 4, 2) := by decide +kernel
theorem d7_14 : decode jdk_52_method_16_code 14 = .ok (.iload 4, 2) := by decide +kernel
theorem d7_16 : decode jdk_52_method_16_code 16 = .ok (.iload_n 2, 1) := by decide +kernel
theorem d7_17 : decode jdk_52_method_16_code 17 = .ok (.if_icmp .eq 40, 3) := by decide +kernel
theorem d7_57 : decode jdk_52_method_16_code 57 = .ok (.aload_n 3, 1) := by decide +kernel
theorem d7_58 : decode jdk_52_method_16_code 58 = .ok (.areturn, 1) := by decide +kernel
theorem ef_7_13 (m : MethodId) (x0 : Addr) (x1 : Int32) (x2 : Int32) : entryFrame m #[(.ref x0), (.int x1), (.int x2)] 6 = mkF m 0 #[.val (.ref x0), .val (.int x1), .val (.int x2), .unset, .unset, .unset] [] := by first | (simp [entryFrame, mkF, argsToLocals, Value.category]; done) | rfl
theorem r_cmA (l : Launch) (Z : State) (a0 : Array Value) (hw : own_HW a0 Z) (ws : List Jvm.Cond) (cs1 : Int32) (fv : Value) (h0 : Heap) (n0 : Nat) (O0 : Old Z n0 h0) (G : own_Ctx Z Z.heap cs1 fv) (a2 : Addr) (k2 : ClassId) (cs : List Int32) (Va : Arv Z h0 a2 k2 .char cs.length.toInt32 (cs.map Value.int) (.int (0 : Int32))) (hn : cs.length ≤ 4) (hB : own_Bd cs) (hl : own_Lat cs) :
    own_M l Y12_ (head1 (Jvm.Cond.code Y12_ jdk_52_method_16_code 6 (some (.array .byte)) :: ws) (own_rm_ 1 1 4 18)) #[(.ref a2), (.int (0 : Int32)), (.int cs.length.toInt32)] Z h0 n0 (own_QA Z .byte cs.length.toInt32 (cs.map (fun c => .int (nar .byte c.toInt8.toInt32)))) (own_rm_ 1 1 4 18).cells (own_rm_ 1 1 4 18).slots := by
  have G0 := G
  obtain ⟨S_CS, N_CS, S_F, R_F, S_AD, S_HI, S_LO⟩ := G
  refine MetFree.of_bodySF (plainFor_of_name pn_0) hisR ?_
  intro p e s m args below meth c s₁ Bd hml0 hP hK
  obtain ⟨rfl, hZ, hh⟩ := hP
  have hx := Bd.exec
  have hby := Bd.bytes
  have hml : c.maxLocals = 6 := hml0
  have hown : s.vm.findClass "java/lang/StringUTF16" = some m.cls := findClass_of_methodNamed Bd.named
  have hnm := (name_of_methodNamed Bd.named Bd.method).1
  have X0 : Stand p l e (own_rm_ 1 1 4 18) s m #[(.ref a2), (.int (0 : Int32)), (.int cs.length.toInt32)] below meth c s₁ [] 0 0 := Stand.of_body Bd
  have e0 : s₁.heap = h0 := by rw [← hh, Bd.state]; rfl
  have N0 := Fr.nil n0
  have pre0 := own_pre (tb := p.tables) (e := e) (below := below) (T := s₁) (ef_7_13 m a2 (0 : Int32) cs.length.toInt32)
  obtain ⟨T1, h1, ka1, X1, e1, E1, A1, st1⟩ := newP X0 hx hZ (own_w hw 15 rfl) e0 (g := (mkF m 1 #[.val (.ref a2), .val (.int (0 : Int32)), .val (.int cs.length.toInt32), .unset, .unset, .unset] [(.int cs.length.toInt32)])) rfl (hb hby d7_1) rfl (own_ti (own_k hn)).2.1 (cap := 4) (own_cap hn) (by decide) (by decide) (by decide)
  obtain ⟨b1, g1⟩ : ∃ z, z = h0.size := ⟨_, rfl⟩
  have ne_a2_b1 : a2 ≠ b1 := Nat.ne_of_lt (Nat.lt_of_lt_of_le Va.lt (Nat.le_of_eq g1.symm))
  have g_b1 : n0 ≤ b1 := Nat.le_trans (O0.1 ▸ O0.2.1) (Nat.le_of_eq g1.symm)
  have sz_b1 : h0.size ≤ b1 := Nat.le_trans (Keep.refl h0 []).1 (Nat.le_of_eq g1.symm)
  rw [← g1] at A1 st1
  have f2 := Va.ext E1
  have O1 := O0.ext E1
  have K1 : Keep h0 h1 [] := (Keep.refl h0 []).ext E1
  have V1 : Arv Z h1 b1 ka1 .byte cs.length.toInt32 (List.replicate cs.length (.int (0 : Int32))) (.int (0 : Int32)) := (Arv.new A1 (own_ti (own_k hn)).2.1).pad (pad_rep [] (.int (0 : Int32)) cs.length)
  obtain ⟨_, _, ⟨T3, L3, k3, n3⟩, -, X3, ⟨Lc3, hQ3, l3, y3, z3⟩, st3⟩ := Jvm.LawKit.callS X1 hx (y := Y0_) hown (mvT hZ (own_w hw 42 rfl)) (mvT hZ (own_w hw 43 rfl)) (mvT hZ (own_w hw 40 rfl)) (mvT hZ (own_w hw 44 rfl)) (by decide) (backOf (W := 0) (r_clA l Z a0 hw [] cs1 fv h1 n0 O1 G0 a2 b1 k2 ka1 cs (own_k hn) f2 V1 g_b1 ne_a2_b1 hl) hZ (own_w hw 44 rfl) (own_w hw 40 rfl) (by decide) (by decide)) (g := (mkF m 9 #[.val (.ref a2), .val (.int (0 : Int32)), .val (.int cs.length.toInt32), .val (.ref b1), .unset, .unset] [(.int cs.length.toInt32), (.int (0 : Int32)), (.ref b1), (.int (0 : Int32)), (.ref a2)])) rfl (by rw [hml]; rfl) (argsL := [(.ref a2), (.int (0 : Int32)), (.ref b1), (.int (0 : Int32)), (.int cs.length.toInt32)]) (rest := []) (lenOf pd_8 rfl) rfl (by show 2 * 0 + _ ≤ _; exact Nat.le_of_eq rfl) (hb hby d7_9) (fun _ _ => ⟨rfl, e1, (by decide : 1 + 0 ≤ _), (by decide : 4 + 0 ≤ _)⟩)
  dsimp only [Pt.U, Pt.locs, Pt.cells, Pt.slots] at X3 l3 y3 z3 st3 hQ3
  subst l3 y3 z3
  obtain ⟨rfl, N3q, Kq3, Vb3⟩ := hQ3
  have N3 := Fr.app N0 N3q
  have f4 := f2.keep Kq3 (fun q => (List.mem_cons.mp q).elim ne_a2_b1 (fun q => nomatch q))
  have O3 := O1.keep Kq3 (allS g_b1 all0)
  have K3 : Keep h0 T3.heap [] := K1.trans Kq3 (allS (Or.inr sz_b1) all0)
  obtain ⟨fs, hr, hrun, hended, hW, hsame⟩ := X3.leave (v := some (.ref b1)) (fun h => by rw [Bd.returns] at h; cases h)
  refine ⟨_, _, pre0 _ ?_, hrun, hended, _, _, rfl, ?_, ⟨_, rfl⟩, hW, hsame.mono (by decide) (by decide)⟩
  · show Steps p.tables e below (s₁.setTop (mkF m 0 #[.val (.ref a2), .val (.int (0 : Int32)), .val (.int cs.length.toInt32), .unset, .unset, .unset] [])) _
    refine XS.iloadN X0.here hx rfl (hb hby d7_0) rfl ?_
    show Steps p.tables e below (s₁.setTop (mkF m 1 #[.val (.ref a2), .val (.int (0 : Int32)), .val (.int cs.length.toInt32), .unset, .unset, .unset] [(.int cs.length.toInt32)])) _
    refine st1 _ ?_
    show Steps p.tables e below (T1.setTop (mkF m 3 #[.val (.ref a2), .val (.int (0 : Int32)), .val (.int cs.length.toInt32), .unset, .unset, .unset] [(.ref b1)])) _
    refine XS.astoreN X1.here hx rfl (hb hby d7_3) rfl rfl (l' := #[.val (.ref a2), .val (.int (0 : Int32)), .val (.int cs.length.toInt32), .val (.ref b1), .unset, .unset]) rfl ?_
    refine XS.aloadN X1.here hx rfl (hb hby d7_4) rfl rfl ?_
    refine XS.iloadN X1.here hx rfl (hb hby d7_5) rfl ?_
    refine XS.aloadN X1.here hx rfl (hb hby d7_6) rfl rfl ?_
    refine XS.iconst X1.here hx rfl (hb hby d7_7) ?_
    refine XS.iloadN X1.here hx rfl (hb hby d7_8) rfl ?_
    show Steps p.tables e below (T1.setTop (mkF m 9 #[.val (.ref a2), .val (.int (0 : Int32)), .val (.int cs.length.toInt32), .val (.ref b1), .unset, .unset] [(.int cs.length.toInt32), (.int (0 : Int32)), (.ref b1), (.int (0 : Int32)), (.ref a2)])) _
    refine st3 _ ?_
    show Steps p.tables e below (T3.setTop (mkF m 12 #[.val (.ref a2), .val (.int (0 : Int32)), .val (.int cs.length.toInt32), .val (.ref b1), .unset, .unset] [(.int cs.length.toInt32)])) _
    refine XS.istore X3.here hx rfl (hb hby d7_12) rfl (l' := #[.val (.ref a2), .val (.int (0 : Int32)), .val (.int cs.length.toInt32), .val (.ref b1), .val (.int cs.length.toInt32), .unset]) rfl ?_
    refine XS.iload X3.here hx rfl (hb hby d7_14) rfl ?_
    refine XS.iloadN X3.here hx rfl (hb hby d7_16) rfl ?_
    refine XS.icmpYes X3.here hx rfl (pc0 := 17) (pc' := 57) rfl (hb hby d7_17) rfl (teq (rfl : cs.length.toInt32 = cs.length.toInt32)).1 (by decide) (by decide) ?_
    refine XS.aloadN X3.here hx rfl (hb hby d7_57) rfl rfl ?_
    show Steps p.tables e below (T3.setTop (mkF m 58 #[.val (.ref a2), .val (.int (0 : Int32)), .val (.int cs.length.toInt32), .val (.ref b1), .val (.int cs.length.toInt32), .unset] [(.ref b1)])) _
    exact retOut X3 hx Bd.returns rfl (Or.inr (Or.inr (Or.inr (Or.inr ⟨rfl, rfl, rfl⟩)))) (hb hby d7_58) hr
  · exact ⟨b1, ka1, rfl, N3, K3, sz_b1, Vb3⟩
theorem d7_20 : decode jdk_52_method_16_code 20 = .ok (.aload_n 0, 1) := by decide +kernel
theorem d7_21 : decode jdk_52_method_16_code 21 = .ok (.iload_n 1, 1) := by decide +kernel
theorem d7_22 : decode jdk_52_method_16_code 22 = .ok (.iload_n 2, 1) := by decide +kernel
theorem d7_23 : decode jdk_52_method_16_code 23 = .ok (.invokestatic 119, 3) := by decide +kernel
theorem pd_9 : parseMethodDescriptor "([CII)[B" = some ⟨[(.array .char), .int, .int], some (.array .byte)⟩ := by decide +kernel
theorem d7_26 : decode jdk_52_method_16_code 26 = .ok (.astore 5, 2) := by decide +kernel
theorem d7_28 : decode jdk_52_method_16_code 28 = .ok (.aload 5, 2) := by decide +kernel
theorem d7_30 : decode jdk_52_method_16_code 30 = .ok (.iload 4, 2) := by decide +kernel
theorem d7_32 : decode jdk_52_method_16_code 32 = .ok (.invokestatic 71, 3) := by decide +kernel
theorem d7_35 : decode jdk_52_method_16_code 35 = .ok (.sipush 255, 3) := by decide +kernel
theorem d7_38 : decode jdk_52_method_16_code 38 = .ok (.if_icmp .gt 16, 3) := by decide +kernel
theorem d7_54 : decode jdk_52_method_16_code 54 = .ok (.aload 5, 2) := by decide +kernel
theorem d7_56 : decode jdk_52_method_16_code 56 = .ok (.areturn, 1) := by decide +kernel
theorem r_cmB (l : Launch) (Z : State) (a0 : Array Value) (hw : own_HW a0 Z) (ws : List Jvm.Cond) (cs1 : Int32) (fv : Value) (h0 : Heap) (n0 : Nat) (O0 : Old Z n0 h0) (G : own_Ctx Z Z.heap cs1 fv) (a2 : Addr) (k2 : ClassId) (cs : List Int32) (Va : Arv Z h0 a2 k2 .char cs.length.toInt32 (cs.map Value.int) (.int (0 : Int32))) (hn : cs.length ≤ 4) (hB : own_Bd cs) (hl : ∃ j, ∃ hj : j < cs.length, (255 : Int32) < cs[j]) :
    own_M l Y12_ (head1 (Jvm.Cond.code Y12_ jdk_52_method_16_code 6 (some (.array .byte)) :: ws) (own_rm_ 3 2 12 40)) #[(.ref a2), (.int (0 : Int32)), (.int cs.length.toInt32)] Z h0 n0 (own_QA Z .byte (2 * cs.length).toInt32 (cs.flatMap own_two)) (own_rm_ 3 2 12 40).cells (own_rm_ 3 2 12 40).slots := by
  have G0 := G
  obtain ⟨S_CS, N_CS, S_F, R_F, S_AD, S_HI, S_LO⟩ := G
  refine MetFree.of_bodySF (plainFor_of_name pn_0) hisR ?_
  intro p e s m args below meth c s₁ Bd hml0 hP hK
  obtain ⟨rfl, hZ, hh⟩ := hP
  have hx := Bd.exec
  have hby := Bd.bytes
  have hml : c.maxLocals = 6 := hml0
  have hown : s.vm.findClass "java/lang/StringUTF16" = some m.cls := findClass_of_methodNamed Bd.named
  have hnm := (name_of_methodNamed Bd.named Bd.method).1
  have X0 : Stand p l e (own_rm_ 3 2 12 40) s m #[(.ref a2), (.int (0 : Int32)), (.int cs.length.toInt32)] below meth c s₁ [] 0 0 := Stand.of_body Bd
  have e0 : s₁.heap = h0 := by rw [← hh, Bd.state]; rfl
  have N0 := Fr.nil n0
  have pre0 := own_pre (tb := p.tables) (e := e) (below := below) (T := s₁) (ef_7_13 m a2 (0 : Int32) cs.length.toInt32)
  obtain ⟨T1, h1, ka1, X1, e1, E1, A1, st1⟩ := newP X0 hx hZ (own_w hw 15 rfl) e0 (g := (mkF m 1 #[.val (.ref a2), .val (.int (0 : Int32)), .val (.int cs.length.toInt32), .unset, .unset, .unset] [(.int cs.length.toInt32)])) rfl (hb hby d7_1) rfl (own_ti (own_k hn)).2.1 (cap := 4) (own_cap hn) (by decide) (by decide) (by decide)
  obtain ⟨b1, g1⟩ : ∃ z, z = h0.size := ⟨_, rfl⟩
  have ne_a2_b1 : a2 ≠ b1 := Nat.ne_of_lt (Nat.lt_of_lt_of_le Va.lt (Nat.le_of_eq g1.symm))
  have g_b1 : n0 ≤ b1 := Nat.le_trans (O0.1 ▸ O0.2.1) (Nat.le_of_eq g1.symm)
  have sz_b1 : h0.size ≤ b1 := Nat.le_trans (Keep.refl h0 []).1 (Nat.le_of_eq g1.symm)
  rw [← g1] at A1 st1
  have f2 := Va.ext E1
  have O1 := O0.ext E1
  have K1 : Keep h0 h1 [] := (Keep.refl h0 []).ext E1
  have V1 : Arv Z h1 b1 ka1 .byte cs.length.toInt32 (List.replicate cs.length (.int (0 : Int32))) (.int (0 : Int32)) := (Arv.new A1 (own_ti (own_k hn)).2.1).pad (pad_rep [] (.int (0 : Int32)) cs.length)
  obtain ⟨_, _, ⟨T3, L3, k3, n3⟩, -, X3, ⟨Lc3, hQ3, l3, y3, z3⟩, st3⟩ := Jvm.LawKit.callS X1 hx (y := Y0_) hown (mvT hZ (own_w hw 42 rfl)) (mvT hZ (own_w hw 43 rfl)) (mvT hZ (own_w hw 40 rfl)) (mvT hZ (own_w hw 44 rfl)) (by decide) (backOf (W := 0) (r_clB l Z a0 hw [] cs1 fv h1 n0 O1 G0 a2 b1 k2 ka1 cs (own_k hn) f2 V1 g_b1 ne_a2_b1 hl) hZ (own_w hw 44 rfl) (own_w hw 40 rfl) (by decide) (by decide)) (g := (mkF m 9 #[.val (.ref a2), .val (.int (0 : Int32)), .val (.int cs.length.toInt32), .val (.ref b1), .unset, .unset] [(.int cs.length.toInt32), (.int (0 : Int32)), (.ref b1), (.int (0 : Int32)), (.ref a2)])) rfl (by rw [hml]; rfl) (argsL := [(.ref a2), (.int (0 : Int32)), (.ref b1), (.int (0 : Int32)), (.int cs.length.toInt32)]) (rest := []) (lenOf pd_8 rfl) rfl (by show 2 * 0 + _ ≤ _; exact Nat.le_of_eq rfl) (hb hby d7_9) (fun _ _ => ⟨rfl, e1, (by decide : 1 + 0 ≤ _), (by decide : 4 + 0 ≤ _)⟩)
  dsimp only [Pt.U, Pt.locs, Pt.cells, Pt.slots] at X3 l3 y3 z3 st3 hQ3
  subst l3 y3 z3
  obtain ⟨rr3, rfl, N3q, Kq3, hr3, hc3⟩ := hQ3
  have N3 := Fr.app N0 N3q
  have f4 := f2.keep Kq3 (fun q => (List.mem_cons.mp q).elim ne_a2_b1 (fun q => nomatch q))
  have O3 := O1.keep Kq3 (allS g_b1 all0)
  have K3 : Keep h0 T3.heap [] := K1.trans Kq3 (allS (Or.inr sz_b1) all0)
  obtain ⟨_, _, ⟨T5, L5, k5, n5⟩, -, X5, ⟨Lc5, hQ5, l5, y5, z5⟩, st5⟩ := Jvm.LawKit.callS X3 hx (y := Y4_) hown (mvT hZ (own_w hw 81 rfl)) (mvT hZ (own_w hw 82 rfl)) (mvT hZ (own_w hw 40 rfl)) (mvT hZ (own_w hw 83 rfl)) (by decide) (backOf (W := 0) (r_tb l Z a0 hw [] cs1 fv T3.heap n0 O3 G0 a2 k2 cs f4 hn) hZ (own_w hw 83 rfl) (own_w hw 40 rfl) (by decide) (by decide)) (g := (mkF m 23 #[.val (.ref a2), .val (.int (0 : Int32)), .val (.int cs.length.toInt32), .val (.ref b1), .val (.int rr3.toInt32), .unset] [(.int cs.length.toInt32), (.int (0 : Int32)), (.ref a2)])) rfl (by rw [hml]; rfl) (argsL := [(.ref a2), (.int (0 : Int32)), (.int cs.length.toInt32)]) (rest := []) (lenOf pd_9 rfl) rfl (by show 2 * 0 + _ ≤ _; exact Nat.le_of_eq rfl) (hb hby d7_23) (fun _ _ => ⟨rfl, rfl, (by decide : 1 + 1 ≤ _), (by decide : 4 + 8 ≤ _)⟩)
  dsimp only [Pt.U, Pt.locs, Pt.cells, Pt.slots] at X5 l5 y5 z5 st5 hQ5
  subst l5 y5 z5
  obtain ⟨t5, kt5, rfl, N5q, Kq5, gt5, Vt5⟩ := hQ5
  have N5 := Fr.app N3 N5q
  have ne_a2_t5 : a2 ≠ t5 := Nat.ne_of_lt (Nat.lt_of_lt_of_le f4.lt gt5)
  have g_t5 : n0 ≤ t5 := Nat.le_trans (O3.1 ▸ O3.2.1) gt5
  have sz_t5 : h0.size ≤ t5 := Nat.le_trans K3.1 gt5
  have f6 := f4.keep Kq5 (fun q => nomatch q)
  have O5 := O3.keep Kq5 all0
  have K5 : Keep h0 T5.heap [] := K3.trans Kq5 all0
  obtain ⟨_, _, ⟨T7, L7, k7, n7⟩, -, X7, ⟨Lc7, hQ7, l7, y7, z7⟩, st7⟩ := Jvm.LawKit.callS X5 hx (y := Y7_) hown (mvT hZ (own_w hw 97 rfl)) (mvT hZ (own_w hw 98 rfl)) (mvT hZ (own_w hw 40 rfl)) (mvT hZ (own_w hw 99 rfl)) (by decide) (backOf (W := 0) (r_gc l Z a0 hw [] cs1 fv T5.heap n0 O5 G0 t5 kt5 cs rr3 Vt5 hr3 hn (hB _ hr3).1 (hB _ hr3).2) hZ (own_w hw 99 rfl) (own_w hw 40 rfl) (by decide) (by decide)) (g := (mkF m 32 #[.val (.ref a2), .val (.int (0 : Int32)), .val (.int cs.length.toInt32), .val (.ref b1), .val (.int rr3.toInt32), .val (.ref t5)] [(.int rr3.toInt32), (.ref t5)])) rfl (by rw [hml]; rfl) (argsL := [(.ref t5), (.int rr3.toInt32)]) (rest := []) (lenOf pd_7 rfl) rfl (by show 2 * 0 + _ ≤ _; exact Nat.le_of_eq rfl) (hb hby d7_32) (fun _ _ => ⟨rfl, rfl, (by decide : 2 + 0 ≤ _), (by decide : 12 + 0 ≤ _)⟩)
  dsimp only [Pt.U, Pt.locs, Pt.cells, Pt.slots] at X7 l7 y7 z7 st7 hQ7
  subst l7 y7 z7
  obtain ⟨rfl, N7q, e7⟩ := hQ7
  have N7 := Fr.app N5 N7q
  obtain ⟨fs, hr, hrun, hended, hW, hsame⟩ := X7.leave (v := some (.ref t5)) (fun h => by rw [Bd.returns] at h; cases h)
  refine ⟨_, _, pre0 _ ?_, hrun, hended, _, _, rfl, ?_, ⟨_, rfl⟩, hW, hsame.mono (by decide) (by decide)⟩
  · show Steps p.tables e below (s₁.setTop (mkF m 0 #[.val (.ref a2), .val (.int (0 : Int32)), .val (.int cs.length.toInt32), .unset, .unset, .unset] [])) _
    refine XS.iloadN X0.here hx rfl (hb hby d7_0) rfl ?_
    show Steps p.tables e below (s₁.setTop (mkF m 1 #[.val (.ref a2), .val (.int (0 : Int32)), .val (.int cs.length.toInt32), .unset, .unset, .unset] [(.int cs.length.toInt32)])) _
    refine st1 _ ?_
    show Steps p.tables e below (T1.setTop (mkF m 3 #[.val (.ref a2), .val (.int (0 : Int32)), .val (.int cs.length.toInt32), .unset, .unset, .unset] [(.ref b1)])) _
    refine XS.astoreN X1.here hx rfl (hb hby d7_3) rfl rfl (l' := #[.val (.ref a2), .val (.int (0 : Int32)), .val (.int cs.length.toInt32), .val (.ref b1), .unset, .unset]) rfl ?_
    refine XS.aloadN X1.here hx rfl (hb hby d7_4) rfl rfl ?_
    refine XS.iloadN X1.here hx rfl (hb hby d7_5) rfl ?_
    refine XS.aloadN X1.here hx rfl (hb hby d7_6) rfl rfl ?_
    refine XS.iconst X1.here hx rfl (hb hby d7_7) ?_
    refine XS.iloadN X1.here hx rfl (hb hby d7_8) rfl ?_
    show Steps p.tables e below (T1.setTop (mkF m 9 #[.val (.ref a2), .val (.int (0 : Int32)), .val (.int cs.length.toInt32), .val (.ref b1), .unset, .unset] [(.int cs.length.toInt32), (.int (0 : Int32)), (.ref b1), (.int (0 : Int32)), (.ref a2)])) _
    refine st3 _ ?_
    show Steps p.tables e below (T3.setTop (mkF m 12 #[.val (.ref a2), .val (.int (0 : Int32)), .val (.int cs.length.toInt32), .val (.ref b1), .unset, .unset] [(.int rr3.toInt32)])) _
    refine XS.istore X3.here hx rfl (hb hby d7_12) rfl (l' := #[.val (.ref a2), .val (.int (0 : Int32)), .val (.int cs.length.toInt32), .val (.ref b1), .val (.int rr3.toInt32), .unset]) rfl ?_
    refine XS.iload X3.here hx rfl (hb hby d7_14) rfl ?_
    refine XS.iloadN X3.here hx rfl (hb hby d7_16) rfl ?_
    refine XS.icmpNo X3.here hx rfl (hb hby d7_17) rfl (feq (own_fe hr3 hn : ¬ (rr3.toInt32 = cs.length.toInt32))).1 ?_
    refine XS.aloadN X3.here hx rfl (hb hby d7_20) rfl rfl ?_
    refine XS.iloadN X3.here hx rfl (hb hby d7_21) rfl ?_
    refine XS.iloadN X3.here hx rfl (hb hby d7_22) rfl ?_
    show Steps p.tables e below (T3.setTop (mkF m 23 #[.val (.ref a2), .val (.int (0 : Int32)), .val (.int cs.length.toInt32), .val (.ref b1), .val (.int rr3.toInt32), .unset] [(.int cs.length.toInt32), (.int (0 : Int32)), (.ref a2)])) _
    refine st5 _ ?_
    show Steps p.tables e below (T5.setTop (mkF m 26 #[.val (.ref a2), .val (.int (0 : Int32)), .val (.int cs.length.toInt32), .val (.ref b1), .val (.int rr3.toInt32), .unset] [(.ref t5)])) _
    refine XS.astore X5.here hx rfl (hb hby d7_26) rfl rfl (l' := #[.val (.ref a2), .val (.int (0 : Int32)), .val (.int cs.length.toInt32), .val (.ref b1), .val (.int rr3.toInt32), .val (.ref t5)]) rfl ?_
    refine XS.aload X5.here hx rfl (hb hby d7_28) rfl rfl ?_
    refine XS.iload X5.here hx rfl (hb hby d7_30) rfl ?_
    show Steps p.tables e below (T5.setTop (mkF m 32 #[.val (.ref a2), .val (.int (0 : Int32)), .val (.int cs.length.toInt32), .val (.ref b1), .val (.int rr3.toInt32), .val (.ref t5)] [(.int rr3.toInt32), (.ref t5)])) _
    refine st7 _ ?_
    show Steps p.tables e below (T7.setTop (mkF m 35 #[.val (.ref a2), .val (.int (0 : Int32)), .val (.int cs.length.toInt32), .val (.ref b1), .val (.int rr3.toInt32), .val (.ref t5)] [(.int cs[rr3])])) _
    refine XS.sipush X7.here hx rfl (hb hby d7_35) ?_
    refine XS.icmpYes X7.here hx rfl (pc0 := 38) (pc' := 54) rfl (hb hby d7_38) rfl (tlt (hc3 : (255 : Int32) < cs[rr3])).2.2.1 (by decide) (by decide) ?_
    refine XS.aload X7.here hx rfl (hb hby d7_54) rfl rfl ?_
    show Steps p.tables e below (T7.setTop (mkF m 56 #[.val (.ref a2), .val (.int (0 : Int32)), .val (.int cs.length.toInt32), .val (.ref b1), .val (.int rr3.toInt32), .val (.ref t5)] [(.ref t5)])) _
    exact retOut X7 hx Bd.returns rfl (Or.inr (Or.inr (Or.inr (Or.inr ⟨rfl, rfl, rfl⟩)))) (hb hby d7_56) hr
  · show own_QA Z .byte (2 * cs.length).toInt32 (cs.flatMap own_two) h0 n0 _ T7.heap _
    rw [e7]
    exact ⟨t5, kt5, rfl, N7, K5, sz_t5, Vt5⟩
theorem d9_0 : decode jdk_52_method_15_code 0 = .ok (.iload_n 1, 1) := by decide +kernel
theorem d9_1 : decode jdk_52_method_15_code 1 = .ok (.aload_n 0, 1) := by decide +kernel
theorem d9_2 : decode jdk_52_method_15_code 2 = .ok (.arraylength, 1) := by decide +kernel
theorem d9_3 : decode jdk_52_method_15_code 3 = .ok (.isub, 1) := by decide +kernel
theorem d9_4 : decode jdk_52_method_15_code 4 = .ok (.bipush 31, 2) := by decide +kernel
theorem d9_6 : decode jdk_52_method_15_code 6 = .ok (.iushr, 1) := by decide +kernel
theorem d9_7 : decode jdk_52_method_15_code 7 = .ok (.i2b, 1) := by decide +kernel
theorem d9_8 : decode jdk_52_method_15_code 8 = .ok (.ireturn, 1) := by decide +kernel
theorem ef_9_14 (m : MethodId) (x0 : Addr) (x1 : Int32) : entryFrame m #[(.ref x0), (.int x1)] 2 = mkF m 0 #[.val (.ref x0), .val (.int x1)] [] := by first | (simp [entryFrame, mkF, argsToLocals, Value.category]; done) | rfl
theorem r_cdA (l : Launch) (Z : State) (a0 : Array Value) (hw : own_HW a0 Z) (ws : List Jvm.Cond) (cs1 : Int32) (fv : Value) (h0 : Heap) (n0 : Nat) (O0 : Old Z n0 h0) (G : own_Ctx Z Z.heap cs1 fv) (a2 : Addr) (k2 : ClassId) (n : Nat) (vs : List Value) (Va : Arv Z h0 a2 k2 .byte n.toInt32 vs (.int (0 : Int32))) (h1 : 1 ≤ n) (hn : n ≤ 4) :
    own_M l Y13_ (head1 (Jvm.Cond.code Y13_ jdk_52_method_15_code 2 (some .byte) :: ws) (own_rm_ 0 0 0 0)) #[(.ref a2), (.int n.toInt32)] Z h0 n0 (own_Q (some (.int (0 : Int32)))) (own_rm_ 0 0 0 0).cells (own_rm_ 0 0 0 0).slots := by
  have G0 := G
  obtain ⟨S_CS, N_CS, S_F, R_F, S_AD, S_HI, S_LO⟩ := G
  refine MetFree.of_bodySF (plainFor_of_name pn_0) hisR ?_
  intro p e s m args below meth c s₁ Bd hml0 hP hK
  obtain ⟨rfl, hZ, hh⟩ := hP
  have hx := Bd.exec
  have hby := Bd.bytes
  have hml : c.maxLocals = 2 := hml0
  have hown : s.vm.findClass "java/lang/StringUTF16" = some m.cls := findClass_of_methodNamed Bd.named
  have hnm := (name_of_methodNamed Bd.named Bd.method).1
  have X0 : Stand p l e (own_rm_ 0 0 0 0) s m #[(.ref a2), (.int n.toInt32)] below meth c s₁ [] 0 0 := Stand.of_body Bd
  have e0 : s₁.heap = h0 := by rw [← hh, Bd.state]; rfl
  have N0 := Fr.nil n0
  have pre0 := own_pre (tb := p.tables) (e := e) (below := below) (T := s₁) (ef_9_14 m a2 n.toInt32)
  have vc1 := Va
  obtain ⟨cl1, Ar1, qk1, S1, Nn1, Hs1, Gf1⟩ := vc1
  obtain ⟨fs, hr, hrun, hended, hW, hsame⟩ := X0.leave (v := some (.int (0 : Int32))) (fun h => by rw [Bd.returns] at h; cases h)
  refine ⟨_, _, pre0 _ ?_, hrun, hended, _, _, rfl, ?_, ⟨_, rfl⟩, hW, hsame.mono (by decide) (by decide)⟩
  · show Steps p.tables e below (s₁.setTop (mkF m 0 #[.val (.ref a2), .val (.int n.toInt32)] [])) _
    refine XS.iloadN X0.here hx rfl (hb hby d9_0) rfl ?_
    refine XS.aloadN X0.here hx rfl (hb hby d9_1) rfl rfl ?_
    show Steps p.tables e below (s₁.setTop (mkF m 2 #[.val (.ref a2), .val (.int n.toInt32)] [(.ref a2), (.int n.toInt32)])) _
    refine X0.arraylength hx (by rw [e0]; exact Ar1.1) (State.isArrayOf_alike hZ.alike Ar1.2.1) (g := (mkF m 2 #[.val (.ref a2), .val (.int n.toInt32)] [(.ref a2), (.int n.toInt32)])) rfl rfl (hb hby d9_2) _ ?_
    rw [len_of S1 Nn1]
    show Steps p.tables e below (s₁.setTop (mkF m 3 #[.val (.ref a2), .val (.int n.toInt32)] [(.int n.toInt32), (.int n.toInt32)])) _
    refine XS.isub X0.here hx rfl (hb hby d9_3) rfl ?_
    refine XS.bipush X0.here hx rfl (hb hby d9_4) ?_
    show Steps p.tables e below (s₁.setTop (mkF m 6 #[.val (.ref a2), .val (.int n.toInt32)] [(.int (31 : Int32)), (.int (n.toInt32 - n.toInt32))])) _
    refine XS.iushr X0.here hx rfl (hb hby d9_6) rfl ?_
    show Steps p.tables e below (s₁.setTop (mkF m 7 #[.val (.ref a2), .val (.int n.toInt32)] [(.int (((n.toInt32 - n.toInt32).toUInt32 >>> ((31 : Int32) &&& 31).toUInt32).toInt32))])) _
    refine XS.i2b X0.here hx rfl (hb hby d9_7) rfl ?_
    show Steps p.tables e below (s₁.setTop (mkF m 8 #[.val (.ref a2), .val (.int n.toInt32)] [(.int ((((n.toInt32 - n.toInt32).toUInt32 >>> ((31 : Int32) &&& 31).toUInt32).toInt32).toInt8.toInt32))])) _
    rw [(own_cd h1 hn).1]
    show Steps p.tables e below (s₁.setTop (mkF m 8 #[.val (.ref a2), .val (.int n.toInt32)] [(.int (0 : Int32))])) _
    exact retN X0 hx (t := .byte) Bd.returns (by simp) (hb hby d9_8) hr
  · show own_Q (some (.int (0 : Int32))) h0 n0 _ s₁.heap _
    rw [e0]
    exact ⟨rfl, N0, rfl⟩
theorem r_cdB (l : Launch) (Z : State) (a0 : Array Value) (hw : own_HW a0 Z) (ws : List Jvm.Cond) (cs1 : Int32) (fv : Value) (h0 : Heap) (n0 : Nat) (O0 : Old Z n0 h0) (G : own_Ctx Z Z.heap cs1 fv) (a2 : Addr) (k2 : ClassId) (n : Nat) (vs : List Value) (Va : Arv Z h0 a2 k2 .byte (2 * n).toInt32 vs (.int (0 : Int32))) (h1 : 1 ≤ n) (hn : n ≤ 4) :
    own_M l Y13_ (head1 (Jvm.Cond.code Y13_ jdk_52_method_15_code 2 (some .byte) :: ws) (own_rm_ 0 0 0 0)) #[(.ref a2), (.int n.toInt32)] Z h0 n0 (own_Q (some (.int (1 : Int32)))) (own_rm_ 0 0 0 0).cells (own_rm_ 0 0 0 0).slots := by
  have G0 := G
  obtain ⟨S_CS, N_CS, S_F, R_F, S_AD, S_HI, S_LO⟩ := G
  refine MetFree.of_bodySF (plainFor_of_name pn_0) hisR ?_
  intro p e s m args below meth c s₁ Bd hml0 hP hK
  obtain ⟨rfl, hZ, hh⟩ := hP
  have hx := Bd.exec
  have hby := Bd.bytes
  have hml : c.maxLocals = 2 := hml0
  have hown : s.vm.findClass "java/lang/StringUTF16" = some m.cls := findClass_of_methodNamed Bd.named
  have hnm := (name_of_methodNamed Bd.named Bd.method).1
  have X0 : Stand p l e (own_rm_ 0 0 0 0) s m #[(.ref a2), (.int n.toInt32)] below meth c s₁ [] 0 0 := Stand.of_body Bd
  have e0 : s₁.heap = h0 := by rw [← hh, Bd.state]; rfl
  have N0 := Fr.nil n0
  have pre0 := own_pre (tb := p.tables) (e := e) (below := below) (T := s₁) (ef_9_14 m a2 n.toInt32)
  have vc1 := Va
  obtain ⟨cl1, Ar1, qk1, S1, Nn1, Hs1, Gf1⟩ := vc1
  obtain ⟨fs, hr, hrun, hended, hW, hsame⟩ := X0.leave (v := some (.int (1 : Int32))) (fun h => by rw [Bd.returns] at h; cases h)
  refine ⟨_, _, pre0 _ ?_, hrun, hended, _, _, rfl, ?_, ⟨_, rfl⟩, hW, hsame.mono (by decide) (by decide)⟩
  · show Steps p.tables e below (s₁.setTop (mkF m 0 #[.val (.ref a2), .val (.int n.toInt32)] [])) _
    refine XS.iloadN X0.here hx rfl (hb hby d9_0) rfl ?_
    refine XS.aloadN X0.here hx rfl (hb hby d9_1) rfl rfl ?_
    show Steps p.tables e below (s₁.setTop (mkF m 2 #[.val (.ref a2), .val (.int n.toInt32)] [(.ref a2), (.int n.toInt32)])) _
    refine X0.arraylength hx (by rw [e0]; exact Ar1.1) (State.isArrayOf_alike hZ.alike Ar1.2.1) (g := (mkF m 2 #[.val (.ref a2), .val (.int n.toInt32)] [(.ref a2), (.int n.toInt32)])) rfl rfl (hb hby d9_2) _ ?_
    rw [len_of S1 Nn1]
    show Steps p.tables e below (s₁.setTop (mkF m 3 #[.val (.ref a2), .val (.int n.toInt32)] [(.int (2 * n).toInt32), (.int n.toInt32)])) _
    refine XS.isub X0.here hx rfl (hb hby d9_3) rfl ?_
    refine XS.bipush X0.here hx rfl (hb hby d9_4) ?_
    show Steps p.tables e below (s₁.setTop (mkF m 6 #[.val (.ref a2), .val (.int n.toInt32)] [(.int (31 : Int32)), (.int (n.toInt32 - (2 * n).toInt32))])) _
    refine XS.iushr X0.here hx rfl (hb hby d9_6) rfl ?_
    show Steps p.tables e below (s₁.setTop (mkF m 7 #[.val (.ref a2), .val (.int n.toInt32)] [(.int (((n.toInt32 - (2 * n).toInt32).toUInt32 >>> ((31 : Int32) &&& 31).toUInt32).toInt32))])) _
    refine XS.i2b X0.here hx rfl (hb hby d9_7) rfl ?_
    show Steps p.tables e below (s₁.setTop (mkF m 8 #[.val (.ref a2), .val (.int n.toInt32)] [(.int ((((n.toInt32 - (2 * n).toInt32).toUInt32 >>> ((31 : Int32) &&& 31).toUInt32).toInt32).toInt8.toInt32))])) _
    rw [(own_cd h1 hn).2]
    show Steps p.tables e below (s₁.setTop (mkF m 8 #[.val (.ref a2), .val (.int n.toInt32)] [(.int (1 : Int32))])) _
    exact retN X0 hx (t := .byte) Bd.returns (by simp) (hb hby d9_8) hr
  · show own_Q (some (.int (1 : Int32))) h0 n0 _ s₁.heap _
    rw [e0]
    exact ⟨rfl, N0, rfl⟩
theorem d2_0 : decode jdk_42_method_149_code 0 = .ok (.aload_n 0, 1) := by decide +kernel
theorem d2_1 : decode jdk_42_method_149_code 1 = .ok (.invokespecial 1, 3) := by decide +kernel
theorem d2_4 : decode jdk_42_method_149_code 4 = .ok (.iload_n 3, 1) := by decide +kernel
theorem d2_5 : decode jdk_42_method_149_code 5 = .ok (.ifCond .ne 22, 3) := by decide +kernel
theorem d2_27 : decode jdk_42_method_149_code 27 = .ok (.getstatic 38, 3) := by decide +kernel
theorem d2_30 : decode jdk_42_method_149_code 30 = .ok (.ifCond .eq 28, 3) := by decide +kernel
theorem d2_33 : decode jdk_42_method_149_code 33 = .ok (.aload_n 1, 1) := by decide +kernel
theorem d2_34 : decode jdk_42_method_149_code 34 = .ok (.iload_n 2, 1) := by decide +kernel
theorem d2_35 : decode jdk_42_method_149_code 35 = .ok (.iload_n 3, 1) := by decide +kernel
theorem d2_36 : decode jdk_42_method_149_code 36 = .ok (.invokestatic 177, 3) := by decide +kernel
theorem d2_39 : decode jdk_42_method_149_code 39 = .ok (.astore 5, 2) := by decide +kernel
theorem d2_41 : decode jdk_42_method_149_code 41 = .ok (.aload_n 0, 1) := by decide +kernel
theorem d2_42 : decode jdk_42_method_149_code 42 = .ok (.aload 5, 2) := by decide +kernel
theorem d2_44 : decode jdk_42_method_149_code 44 = .ok (.iload_n 3, 1) := by decide +kernel
theorem d2_45 : decode jdk_42_method_149_code 45 = .ok (.invokestatic 47, 3) := by decide +kernel
theorem pd_10 : parseMethodDescriptor "([BI)B" = some ⟨[(.array .byte), .int], some .byte⟩ := by decide +kernel
theorem d2_48 : decode jdk_42_method_149_code 48 = .ok (.putfield 15, 3) := by decide +kernel
theorem d2_51 : decode jdk_42_method_149_code 51 = .ok (.aload_n 0, 1) := by decide +kernel
theorem d2_52 : decode jdk_42_method_149_code 52 = .ok (.aload 5, 2) := by decide +kernel
theorem d2_54 : decode jdk_42_method_149_code 54 = .ok (.putfield 9, 3) := by decide +kernel
theorem d2_57 : decode jdk_42_method_149_code 57 = .ok (.return_, 1) := by decide +kernel
theorem ef_2_15 (m : MethodId) (x0 : Addr) (x1 : Addr) (x2 : Int32) (x3 : Int32) : entryFrame m #[(.ref x0), (.ref x1), (.int x2), (.int x3), .null] 6 = mkF m 0 #[.val (.ref x0), .val (.ref x1), .val (.int x2), .val (.int x3), .val .null, .unset] [] := by first | (simp [entryFrame, mkF, argsToLocals, Value.category]; done) | rfl
theorem r_svA (l : Launch) (Z : State) (a0 : Array Value) (hw : own_HW a0 Z) (ws : List Jvm.Cond) (cs1 : Int32) (fv : Value) (h0 : Heap) (n0 : Nat) (O0 : Old Z n0 h0) (G : own_Ctx Z Z.heap cs1 fv) (a1 a2 : Addr) (k2 : ClassId) (cs : List Int32) (Ea : Exa Z h0 a1 "java/lang/String") (ga : n0 ≤ a1) (Fc : Fld Z h0 a1 "java/lang/String" "coder" "B" (.int (0 : Int32))) (Fv : Fld Z h0 a1 "java/lang/String" "value" "[B" .null) (Va : Arv Z h0 a2 k2 .char cs.length.toInt32 (cs.map Value.int) (.int (0 : Int32))) (hne : a2 ≠ a1) (hn : cs.length ≤ 4) (h1 : 1 ≤ cs.length) (hB : own_Bd cs) (hl : own_Lat cs) :
    own_M l Y14_ (head1 (Jvm.Cond.code Y14_ jdk_42_method_149_code 6 none :: ws) (own_rm_ 2 1 4 35)) #[(.ref a1), (.ref a2), (.int (0 : Int32)), (.int cs.length.toInt32), .null] Z h0 n0 (own_QS Z a1 cs) (own_rm_ 2 1 4 35).cells (own_rm_ 2 1 4 35).slots := by
  have G0 := G
  obtain ⟨S_CS, N_CS, S_F, R_F, S_AD, S_HI, S_LO⟩ := G
  refine MetFree.of_bodySF (plainFor_of_name pn_2) hisR ?_
  intro p e s m args below meth c s₁ Bd hml0 hP hK
  obtain ⟨rfl, hZ, hh⟩ := hP
  have hx := Bd.exec
  have hby := Bd.bytes
  have hml : c.maxLocals = 6 := hml0
  have hown : s.vm.findClass "java/lang/String" = some m.cls := findClass_of_methodNamed Bd.named
  have hnm := (name_of_methodNamed Bd.named Bd.method).1
  have X0 : Stand p l e (own_rm_ 2 1 4 35) s m #[(.ref a1), (.ref a2), (.int (0 : Int32)), (.int cs.length.toInt32), .null] below meth c s₁ [] 0 0 := Stand.of_body Bd
  have e0 : s₁.heap = h0 := by rw [← hh, Bd.state]; rfl
  have N0 := Fr.nil n0
  have pre0 := own_pre (tb := p.tables) (e := e) (below := below) (T := s₁) (ef_2_15 m a1 a2 (0 : Int32) cs.length.toInt32)
  obtain ⟨T1, X1, e1, st1⟩ := initO X0 hx hZ hown (own_w hw 11 rfl) (own_w hw 12 rfl) (own_w hw 13 rfl) e0 (g := (mkF m 1 #[.val (.ref a1), .val (.ref a2), .val (.int (0 : Int32)), .val (.int cs.length.toInt32), .val .null, .unset] [(.ref a1)])) rfl (by rw [hml]; rfl) rfl (hb hby d2_1) (by decide) (W := 0) (by show 2 * 0 + _ ≤ _; exact Nat.le_of_eq rfl) (by decide)
  obtain ⟨T2, X2, e2, st2⟩ := getS2 X1 hx hZ hown (host := "") (Or.inl (own_w hw 36 rfl)) Via.refl e1 (S_CS.ext O0.2) (g := (mkF m 27 #[.val (.ref a1), .val (.ref a2), .val (.int (0 : Int32)), .val (.int cs.length.toInt32), .val .null, .unset] [])) rfl (hb hby d2_27)
  obtain ⟨_, _, ⟨T3, L3, k3, n3⟩, -, X3, ⟨Lc3, hQ3, l3, y3, z3⟩, st3⟩ := Jvm.LawKit.callS X2 hx (y := Y12_) hown (mvT hZ (own_w hw 38 rfl)) (mvT hZ (own_w hw 39 rfl)) (mvT hZ (own_w hw 40 rfl)) (mvT hZ (own_w hw 41 rfl)) (by decide) (backOf (W := 0) (r_cmA l Z a0 hw [] cs1 fv h0 n0 O0 G0 a2 k2 cs Va hn hB hl) hZ (own_w hw 41 rfl) (own_w hw 40 rfl) (by decide) (by decide)) (g := (mkF m 36 #[.val (.ref a1), .val (.ref a2), .val (.int (0 : Int32)), .val (.int cs.length.toInt32), .val .null, .unset] [(.int cs.length.toInt32), (.int (0 : Int32)), (.ref a2)])) rfl (by rw [hml]; rfl) (argsL := [(.ref a2), (.int (0 : Int32)), (.int cs.length.toInt32)]) (rest := []) (lenOf pd_9 rfl) rfl (by show 2 * 0 + _ ≤ _; exact Nat.le_of_eq rfl) (hb hby d2_36) (fun _ _ => ⟨rfl, e2, (by decide : 0 + 1 ≤ _), (by decide : 0 + 4 ≤ _)⟩)
  dsimp only [Pt.U, Pt.locs, Pt.cells, Pt.slots] at X3 l3 y3 z3 st3 hQ3
  subst l3 y3 z3
  obtain ⟨t3, kt3, rfl, N3q, Kq3, gt3, Vt3⟩ := hQ3
  have N3 := Fr.app N0 N3q
  have ne_a1_t3 : a1 ≠ t3 := Nat.ne_of_lt (Nat.lt_of_lt_of_le Ea.lt gt3)
  have ne_a2_t3 : a2 ≠ t3 := Nat.ne_of_lt (Nat.lt_of_lt_of_le Va.lt gt3)
  have g_t3 : n0 ≤ t3 := Nat.le_trans (O0.1 ▸ O0.2.1) gt3
  have sz_t3 : h0.size ≤ t3 := Nat.le_trans (Keep.refl h0 [a1]).1 gt3
  have f4 := Ea.keep Kq3
  have f5 := Fc.keep Kq3 (fun q => nomatch q)
  have f6 := Fv.keep Kq3 (fun q => nomatch q)
  have f7 := Va.keep Kq3 (fun q => nomatch q)
  have O3 := O0.keep Kq3 all0
  have K3 : Keep h0 T3.heap [a1] := (Keep.refl h0 [a1]).trans Kq3 all0
  obtain ⟨_, _, ⟨T8, L8, k8, n8⟩, -, X8, ⟨Lc8, hQ8, l8, y8, z8⟩, st8⟩ := Jvm.LawKit.callS X3 hx (y := Y13_) hown (mvT hZ (own_w hw 45 rfl)) (mvT hZ (own_w hw 46 rfl)) (mvT hZ (own_w hw 40 rfl)) (mvT hZ (own_w hw 47 rfl)) (by decide) (backOf (W := 1) (r_cdA l Z a0 hw [] cs1 fv T3.heap n0 O3 G0 t3 kt3 cs.length _ Vt3 h1 hn) hZ (own_w hw 47 rfl) (own_w hw 40 rfl) (by decide) (by decide)) (g := (mkF m 45 #[.val (.ref a1), .val (.ref a2), .val (.int (0 : Int32)), .val (.int cs.length.toInt32), .val .null, .val (.ref t3)] [(.int cs.length.toInt32), (.ref t3), (.ref a1)])) rfl (by rw [hml]; rfl) (argsL := [(.ref t3), (.int cs.length.toInt32)]) (rest := [(.ref a1)]) (lenOf pd_10 rfl) rfl (by show 2 * 0 + _ ≤ _; exact Nat.le_of_eq rfl) (hb hby d2_45) (fun _ _ => ⟨rfl, rfl, (by decide : 1 + 0 ≤ _), (by decide : 4 + 0 ≤ _)⟩)
  dsimp only [Pt.U, Pt.locs, Pt.cells, Pt.slots] at X8 l8 y8 z8 st8 hQ8
  subst l8 y8 z8
  obtain ⟨rfl, N8q, e8⟩ := hQ8
  have N8 := Fr.app N3 N8q
  obtain ⟨T9, h9, X9, e9, W9, st9⟩ := putFN X8 hx hZ hown (own_w hw 21 rfl) Via.refl e8 f5 f4 (Or.inr ⟨(own_w hw 17 rfl), rfl, hnm⟩) (own_w hw 2 rfl) (ty := .byte) (v' := (.int ((0 : Int32).toInt8.toInt32))) (by decide) rfl (fits_nar_byte _) (g := (mkF m 48 #[.val (.ref a1), .val (.ref a2), .val (.int (0 : Int32)), .val (.int cs.length.toInt32), .val .null, .val (.ref t3)] [(.int (0 : Int32)), (.ref a1)])) rfl rfl (hb hby d2_48)
  have f10 := f4.wr W9
  have f11 := f6.other W9 (Or.inr (slot_ne (Or.inr (own_w hw 16 rfl)) (Or.inr (own_w hw 17 rfl)) (by decide) (t := (.array .byte)) (t' := .byte) (by decide) (by decide)))
  have f12 := f7.other W9 hne
  have f13 := Vt3.other W9 (Ne.symm ne_a1_t3)
  have O9 := O3.wr W9 ga
  have K9 : Keep h0 h9 [a1] := K3.wr W9 (Or.inl (List.mem_of_getElem? (i := 0) rfl))
  have N9 := Fr.snoc X9 N8 ga
  have f14 := f5.same W9
  obtain ⟨T15, h15, X15, e15, W15, st15⟩ := putF X9 hx hZ hown (host := "") (Or.inl (own_w hw 20 rfl)) Via.refl e9 f11 f10 (Or.inr ⟨(own_w hw 16 rfl), rfl, hnm⟩) (own_w hw 2 rfl) (ty := (.array .byte)) (by decide) rfl rfl (g := (mkF m 54 #[.val (.ref a1), .val (.ref a2), .val (.int (0 : Int32)), .val (.int cs.length.toInt32), .val .null, .val (.ref t3)] [(.ref t3), (.ref a1)])) rfl rfl (hb hby d2_54)
  have f16 := f10.wr W15
  have f17 := f14.other W15 (Or.inr (slot_ne (Or.inr (own_w hw 17 rfl)) (Or.inr (own_w hw 16 rfl)) (by decide) (t := .byte) (t' := (.array .byte)) (by decide) (by decide)))
  have f18 := f12.other W15 hne
  have f19 := f13.other W15 (Ne.symm ne_a1_t3)
  have O15 := O9.wr W15 ga
  have K15 : Keep h0 h15 [a1] := K9.wr W15 (Or.inl (List.mem_of_getElem? (i := 0) rfl))
  have N15 := Fr.snoc X15 N9 ga
  have f20 := f11.same W15
  obtain ⟨fs, hr, hrun, hended, hW, hsame⟩ := X15.leave (v := none) (fun _ => rfl)
  refine ⟨_, _, pre0 _ ?_, hrun, hended, _, _, rfl, ?_, ⟨_, rfl⟩, hW, hsame.mono (by decide) (by decide)⟩
  · show Steps p.tables e below (s₁.setTop (mkF m 0 #[.val (.ref a1), .val (.ref a2), .val (.int (0 : Int32)), .val (.int cs.length.toInt32), .val .null, .unset] [])) _
    refine XS.aloadN X0.here hx rfl (hb hby d2_0) rfl rfl ?_
    show Steps p.tables e below (s₁.setTop (mkF m 1 #[.val (.ref a1), .val (.ref a2), .val (.int (0 : Int32)), .val (.int cs.length.toInt32), .val .null, .unset] [(.ref a1)])) _
    refine st1 _ ?_
    show Steps p.tables e below (T1.setTop (mkF m 4 #[.val (.ref a1), .val (.ref a2), .val (.int (0 : Int32)), .val (.int cs.length.toInt32), .val .null, .unset] [])) _
    refine XS.iloadN X1.here hx rfl (hb hby d2_4) rfl ?_
    refine XS.ifYes X1.here hx rfl (pc0 := 5) (pc' := 27) rfl (hb hby d2_5) rfl ((if0 _ _).trans (feq ((own_n0 h1 hn).1 : ¬ (cs.length.toInt32 = (0 : Int32)))).2) (by decide) (by decide) ?_
    show Steps p.tables e below (T1.setTop (mkF m 27 #[.val (.ref a1), .val (.ref a2), .val (.int (0 : Int32)), .val (.int cs.length.toInt32), .val .null, .unset] [])) _
    refine st2 _ ?_
    show Steps p.tables e below (T2.setTop (mkF m 30 #[.val (.ref a1), .val (.ref a2), .val (.int (0 : Int32)), .val (.int cs.length.toInt32), .val .null, .unset] [(.int cs1)])) _
    refine XS.ifNo X2.here hx rfl (hb hby d2_30) rfl ((if0 _ _).trans (feq (N_CS : ¬ (cs1 = (0 : Int32)))).1) ?_
    refine XS.aloadN X2.here hx rfl (hb hby d2_33) rfl rfl ?_
    refine XS.iloadN X2.here hx rfl (hb hby d2_34) rfl ?_
    refine XS.iloadN X2.here hx rfl (hb hby d2_35) rfl ?_
    show Steps p.tables e below (T2.setTop (mkF m 36 #[.val (.ref a1), .val (.ref a2), .val (.int (0 : Int32)), .val (.int cs.length.toInt32), .val .null, .unset] [(.int cs.length.toInt32), (.int (0 : Int32)), (.ref a2)])) _
    refine st3 _ ?_
    show Steps p.tables e below (T3.setTop (mkF m 39 #[.val (.ref a1), .val (.ref a2), .val (.int (0 : Int32)), .val (.int cs.length.toInt32), .val .null, .unset] [(.ref t3)])) _
    refine XS.astore X3.here hx rfl (hb hby d2_39) rfl rfl (l' := #[.val (.ref a1), .val (.ref a2), .val (.int (0 : Int32)), .val (.int cs.length.toInt32), .val .null, .val (.ref t3)]) rfl ?_
    refine XS.aloadN X3.here hx rfl (hb hby d2_41) rfl rfl ?_
    refine XS.aload X3.here hx rfl (hb hby d2_42) rfl rfl ?_
    refine XS.iloadN X3.here hx rfl (hb hby d2_44) rfl ?_
    show Steps p.tables e below (T3.setTop (mkF m 45 #[.val (.ref a1), .val (.ref a2), .val (.int (0 : Int32)), .val (.int cs.length.toInt32), .val .null, .val (.ref t3)] [(.int cs.length.toInt32), (.ref t3), (.ref a1)])) _
    refine st8 _ ?_
    show Steps p.tables e below (T8.setTop (mkF m 48 #[.val (.ref a1), .val (.ref a2), .val (.int (0 : Int32)), .val (.int cs.length.toInt32), .val .null, .val (.ref t3)] [(.int (0 : Int32)), (.ref a1)])) _
    refine st9 _ ?_
    show Steps p.tables e below (T9.setTop (mkF m 51 #[.val (.ref a1), .val (.ref a2), .val (.int (0 : Int32)), .val (.int cs.length.toInt32), .val .null, .val (.ref t3)] [])) _
    refine XS.aloadN X9.here hx rfl (hb hby d2_51) rfl rfl ?_
    refine XS.aload X9.here hx rfl (hb hby d2_52) rfl rfl ?_
    show Steps p.tables e below (T9.setTop (mkF m 54 #[.val (.ref a1), .val (.ref a2), .val (.int (0 : Int32)), .val (.int cs.length.toInt32), .val .null, .val (.ref t3)] [(.ref t3), (.ref a1)])) _
    refine st15 _ ?_
    show Steps p.tables e below (T15.setTop (mkF m 57 #[.val (.ref a1), .val (.ref a2), .val (.int (0 : Int32)), .val (.int cs.length.toInt32), .val .null, .val (.ref t3)] [])) _
    exact X15.returnOut hx Bd.returns (hb hby d2_57) hr
  · show own_QS Z a1 cs h0 n0 _ T15.heap _
    rw [e15]
    exact ⟨rfl, N15, K15, t3, kt3, f16, f20, Or.inl ⟨f17, hl, f19⟩⟩
theorem r_svB (l : Launch) (Z : State) (a0 : Array Value) (hw : own_HW a0 Z) (ws : List Jvm.Cond) (cs1 : Int32) (fv : Value) (h0 : Heap) (n0 : Nat) (O0 : Old Z n0 h0) (G : own_Ctx Z Z.heap cs1 fv) (a1 a2 : Addr) (k2 : ClassId) (cs : List Int32) (Ea : Exa Z h0 a1 "java/lang/String") (ga : n0 ≤ a1) (Fc : Fld Z h0 a1 "java/lang/String" "coder" "B" (.int (0 : Int32))) (Fv : Fld Z h0 a1 "java/lang/String" "value" "[B" .null) (Va : Arv Z h0 a2 k2 .char cs.length.toInt32 (cs.map Value.int) (.int (0 : Int32))) (hne : a2 ≠ a1) (hn : cs.length ≤ 4) (h1 : 1 ≤ cs.length) (hB : own_Bd cs) (hl : ∃ j, ∃ hj : j < cs.length, (255 : Int32) < cs[j]) :
    own_M l Y14_ (head1 (Jvm.Cond.code Y14_ jdk_42_method_149_code 6 none :: ws) (own_rm_ 4 2 12 57)) #[(.ref a1), (.ref a2), (.int (0 : Int32)), (.int cs.length.toInt32), .null] Z h0 n0 (own_QS Z a1 cs) (own_rm_ 4 2 12 57).cells (own_rm_ 4 2 12 57).slots := by
  have G0 := G
  obtain ⟨S_CS, N_CS, S_F, R_F, S_AD, S_HI, S_LO⟩ := G
  refine MetFree.of_bodySF (plainFor_of_name pn_2) hisR ?_
  intro p e s m args below meth c s₁ Bd hml0 hP hK
  obtain ⟨rfl, hZ, hh⟩ := hP
  have hx := Bd.exec
  have hby := Bd.bytes
  have hml : c.maxLocals = 6 := hml0
  have hown : s.vm.findClass "java/lang/String" = some m.cls := findClass_of_methodNamed Bd.named
  have hnm := (name_of_methodNamed Bd.named Bd.method).1
  have X0 : Stand p l e (own_rm_ 4 2 12 57) s m #[(.ref a1), (.ref a2), (.int (0 : Int32)), (.int cs.length.toInt32), .null] below meth c s₁ [] 0 0 := Stand.of_body Bd
  have e0 : s₁.heap = h0 := by rw [← hh, Bd.state]; rfl
  have N0 := Fr.nil n0
  have pre0 := own_pre (tb := p.tables) (e := e) (below := below) (T := s₁) (ef_2_15 m a1 a2 (0 : Int32) cs.length.toInt32)
  obtain ⟨T1, X1, e1, st1⟩ := initO X0 hx hZ hown (own_w hw 11 rfl) (own_w hw 12 rfl) (own_w hw 13 rfl) e0 (g := (mkF m 1 #[.val (.ref a1), .val (.ref a2), .val (.int (0 : Int32)), .val (.int cs.length.toInt32), .val .null, .unset] [(.ref a1)])) rfl (by rw [hml]; rfl) rfl (hb hby d2_1) (by decide) (W := 0) (by show 2 * 0 + _ ≤ _; exact Nat.le_of_eq rfl) (by decide)
  obtain ⟨T2, X2, e2, st2⟩ := getS2 X1 hx hZ hown (host := "") (Or.inl (own_w hw 36 rfl)) Via.refl e1 (S_CS.ext O0.2) (g := (mkF m 27 #[.val (.ref a1), .val (.ref a2), .val (.int (0 : Int32)), .val (.int cs.length.toInt32), .val .null, .unset] [])) rfl (hb hby d2_27)
  obtain ⟨_, _, ⟨T3, L3, k3, n3⟩, -, X3, ⟨Lc3, hQ3, l3, y3, z3⟩, st3⟩ := Jvm.LawKit.callS X2 hx (y := Y12_) hown (mvT hZ (own_w hw 38 rfl)) (mvT hZ (own_w hw 39 rfl)) (mvT hZ (own_w hw 40 rfl)) (mvT hZ (own_w hw 41 rfl)) (by decide) (backOf (W := 0) (r_cmB l Z a0 hw [] cs1 fv h0 n0 O0 G0 a2 k2 cs Va hn hB hl) hZ (own_w hw 41 rfl) (own_w hw 40 rfl) (by decide) (by decide)) (g := (mkF m 36 #[.val (.ref a1), .val (.ref a2), .val (.int (0 : Int32)), .val (.int cs.length.toInt32), .val .null, .unset] [(.int cs.length.toInt32), (.int (0 : Int32)), (.ref a2)])) rfl (by rw [hml]; rfl) (argsL := [(.ref a2), (.int (0 : Int32)), (.int cs.length.toInt32)]) (rest := []) (lenOf pd_9 rfl) rfl (by show 2 * 0 + _ ≤ _; exact Nat.le_of_eq rfl) (hb hby d2_36) (fun _ _ => ⟨rfl, e2, (by decide : 0 + 2 ≤ _), (by decide : 0 + 12 ≤ _)⟩)
  dsimp only [Pt.U, Pt.locs, Pt.cells, Pt.slots] at X3 l3 y3 z3 st3 hQ3
  subst l3 y3 z3
  obtain ⟨t3, kt3, rfl, N3q, Kq3, gt3, Vt3⟩ := hQ3
  have N3 := Fr.app N0 N3q
  have ne_a1_t3 : a1 ≠ t3 := Nat.ne_of_lt (Nat.lt_of_lt_of_le Ea.lt gt3)
  have ne_a2_t3 : a2 ≠ t3 := Nat.ne_of_lt (Nat.lt_of_lt_of_le Va.lt gt3)
  have g_t3 : n0 ≤ t3 := Nat.le_trans (O0.1 ▸ O0.2.1) gt3
  have sz_t3 : h0.size ≤ t3 := Nat.le_trans (Keep.refl h0 [a1]).1 gt3
  have f4 := Ea.keep Kq3
  have f5 := Fc.keep Kq3 (fun q => nomatch q)
  have f6 := Fv.keep Kq3 (fun q => nomatch q)
  have f7 := Va.keep Kq3 (fun q => nomatch q)
  have O3 := O0.keep Kq3 all0
  have K3 : Keep h0 T3.heap [a1] := (Keep.refl h0 [a1]).trans Kq3 all0
  obtain ⟨_, _, ⟨T8, L8, k8, n8⟩, -, X8, ⟨Lc8, hQ8, l8, y8, z8⟩, st8⟩ := Jvm.LawKit.callS X3 hx (y := Y13_) hown (mvT hZ (own_w hw 45 rfl)) (mvT hZ (own_w hw 46 rfl)) (mvT hZ (own_w hw 40 rfl)) (mvT hZ (own_w hw 47 rfl)) (by decide) (backOf (W := 1) (r_cdB l Z a0 hw [] cs1 fv T3.heap n0 O3 G0 t3 kt3 cs.length _ Vt3 h1 hn) hZ (own_w hw 47 rfl) (own_w hw 40 rfl) (by decide) (by decide)) (g := (mkF m 45 #[.val (.ref a1), .val (.ref a2), .val (.int (0 : Int32)), .val (.int cs.length.toInt32), .val .null, .val (.ref t3)] [(.int cs.length.toInt32), (.ref t3), (.ref a1)])) rfl (by rw [hml]; rfl) (argsL := [(.ref t3), (.int cs.length.toInt32)]) (rest := [(.ref a1)]) (lenOf pd_10 rfl) rfl (by show 2 * 0 + _ ≤ _; exact Nat.le_of_eq rfl) (hb hby d2_45) (fun _ _ => ⟨rfl, rfl, (by decide : 2 + 0 ≤ _), (by decide : 12 + 0 ≤ _)⟩)
  dsimp only [Pt.U, Pt.locs, Pt.cells, Pt.slots] at X8 l8 y8 z8 st8 hQ8
  subst l8 y8 z8
  obtain ⟨rfl, N8q, e8⟩ := hQ8
  have N8 := Fr.app N3 N8q
  obtain ⟨T9, h9, X9, e9, W9, st9⟩ := putFN X8 hx hZ hown (own_w hw 21 rfl) Via.refl e8 f5 f4 (Or.inr ⟨(own_w hw 17 rfl), rfl, hnm⟩) (own_w hw 2 rfl) (ty := .byte) (v' := (.int ((1 : Int32).toInt8.toInt32))) (by decide) rfl (fits_nar_byte _) (g := (mkF m 48 #[.val (.ref a1), .val (.ref a2), .val (.int (0 : Int32)), .val (.int cs.length.toInt32), .val .null, .val (.ref t3)] [(.int (1 : Int32)), (.ref a1)])) rfl rfl (hb hby d2_48)
  have f10 := f4.wr W9
  have f11 := f6.other W9 (Or.inr (slot_ne (Or.inr (own_w hw 16 rfl)) (Or.inr (own_w hw 17 rfl)) (by decide) (t := (.array .byte)) (t' := .byte) (by decide) (by decide)))
  have f12 := f7.other W9 hne
  have f13 := Vt3.other W9 (Ne.symm ne_a1_t3)
  have O9 := O3.wr W9 ga
  have K9 : Keep h0 h9 [a1] := K3.wr W9 (Or.inl (List.mem_of_getElem? (i := 0) rfl))
  have N9 := Fr.snoc X9 N8 ga
  have f14 := f5.same W9
  obtain ⟨T15, h15, X15, e15, W15, st15⟩ := putF X9 hx hZ hown (host := "") (Or.inl (own_w hw 20 rfl)) Via.refl e9 f11 f10 (Or.inr ⟨(own_w hw 16 rfl), rfl, hnm⟩) (own_w hw 2 rfl) (ty := (.array .byte)) (by decide) rfl rfl (g := (mkF m 54 #[.val (.ref a1), .val (.ref a2), .val (.int (0 : Int32)), .val (.int cs.length.toInt32), .val .null, .val (.ref t3)] [(.ref t3), (.ref a1)])) rfl rfl (hb hby d2_54)
  have f16 := f10.wr W15
  have f17 := f14.other W15 (Or.inr (slot_ne (Or.inr (own_w hw 17 rfl)) (Or.inr (own_w hw 16 rfl)) (by decide) (t := .byte) (t' := (.array .byte)) (by decide) (by decide)))
  have f18 := f12.other W15 hne
  have f19 := f13.other W15 (Ne.symm ne_a1_t3)
  have O15 := O9.wr W15 ga
  have K15 : Keep h0 h15 [a1] := K9.wr W15 (Or.inl (List.mem_of_getElem? (i := 0) rfl))
  have N15 := Fr.snoc X15 N9 ga
  have f20 := f11.same W15
  obtain ⟨fs, hr, hrun, hended, hW, hsame⟩ := X15.leave (v := none) (fun _ => rfl)
  refine ⟨_, _, pre0 _ ?_, hrun, hended, _, _, rfl, ?_, ⟨_, rfl⟩, hW, hsame.mono (by decide) (by decide)⟩
  · show Steps p.tables e below (s₁.setTop (mkF m 0 #[.val (.ref a1), .val (.ref a2), .val (.int (0 : Int32)), .val (.int cs.length.toInt32), .val .null, .unset] [])) _
    refine XS.aloadN X0.here hx rfl (hb hby d2_0) rfl rfl ?_
    show Steps p.tables e below (s₁.setTop (mkF m 1 #[.val (.ref a1), .val (.ref a2), .val (.int (0 : Int32)), .val (.int cs.length.toInt32), .val .null, .unset] [(.ref a1)])) _
    refine st1 _ ?_
    show Steps p.tables e below (T1.setTop (mkF m 4 #[.val (.ref a1), .val (.ref a2), .val (.int (0 : Int32)), .val (.int cs.length.toInt32), .val .null, .unset] [])) _
    refine XS.iloadN X1.here hx rfl (hb hby d2_4) rfl ?_
    refine XS.ifYes X1.here hx rfl (pc0 := 5) (pc' := 27) rfl (hb hby d2_5) rfl ((if0 _ _).trans (feq ((own_n0 h1 hn).1 : ¬ (cs.length.toInt32 = (0 : Int32)))).2) (by decide) (by decide) ?_
    show Steps p.tables e below (T1.setTop (mkF m 27 #[.val (.ref a1), .val (.ref a2), .val (.int (0 : Int32)), .val (.int cs.length.toInt32), .val .null, .unset] [])) _
    refine st2 _ ?_
    show Steps p.tables e below (T2.setTop (mkF m 30 #[.val (.ref a1), .val (.ref a2), .val (.int (0 : Int32)), .val (.int cs.length.toInt32), .val .null, .unset] [(.int cs1)])) _
    refine XS.ifNo X2.here hx rfl (hb hby d2_30) rfl ((if0 _ _).trans (feq (N_CS : ¬ (cs1 = (0 : Int32)))).1) ?_
    refine XS.aloadN X2.here hx rfl (hb hby d2_33) rfl rfl ?_
    refine XS.iloadN X2.here hx rfl (hb hby d2_34) rfl ?_
    refine XS.iloadN X2.here hx rfl (hb hby d2_35) rfl ?_
    show Steps p.tables e below (T2.setTop (mkF m 36 #[.val (.ref a1), .val (.ref a2), .val (.int (0 : Int32)), .val (.int cs.length.toInt32), .val .null, .unset] [(.int cs.length.toInt32), (.int (0 : Int32)), (.ref a2)])) _
    refine st3 _ ?_
    show Steps p.tables e below (T3.setTop (mkF m 39 #[.val (.ref a1), .val (.ref a2), .val (.int (0 : Int32)), .val (.int cs.length.toInt32), .val .null, .unset] [(.ref t3)])) _
    refine XS.astore X3.here hx rfl (hb hby d2_39) rfl rfl (l' := #[.val (.ref a1), .val (.ref a2), .val (.int (0 : Int32)), .val (.int cs.length.toInt32), .val .null, .val (.ref t3)]) rfl ?_
    refine XS.aloadN X3.here hx rfl (hb hby d2_41) rfl rfl ?_
    refine XS.aload X3.here hx rfl (hb hby d2_42) rfl rfl ?_
    refine XS.iloadN X3.here hx rfl (hb hby d2_44) rfl ?_
    show Steps p.tables e below (T3.setTop (mkF m 45 #[.val (.ref a1), .val (.ref a2), .val (.int (0 : Int32)), .val (.int cs.length.toInt32), .val .null, .val (.ref t3)] [(.int cs.length.toInt32), (.ref t3), (.ref a1)])) _
    refine st8 _ ?_
    show Steps p.tables e below (T8.setTop (mkF m 48 #[.val (.ref a1), .val (.ref a2), .val (.int (0 : Int32)), .val (.int cs.length.toInt32), .val .null, .val (.ref t3)] [(.int (1 : Int32)), (.ref a1)])) _
    refine st9 _ ?_
    show Steps p.tables e below (T9.setTop (mkF m 51 #[.val (.ref a1), .val (.ref a2), .val (.int (0 : Int32)), .val (.int cs.length.toInt32), .val .null, .val (.ref t3)] [])) _
    refine XS.aloadN X9.here hx rfl (hb hby d2_51) rfl rfl ?_
    refine XS.aload X9.here hx rfl (hb hby d2_52) rfl rfl ?_
    show Steps p.tables e below (T9.setTop (mkF m 54 #[.val (.ref a1), .val (.ref a2), .val (.int (0 : Int32)), .val (.int cs.length.toInt32), .val .null, .val (.ref t3)] [(.ref t3), (.ref a1)])) _
    refine st15 _ ?_
    show Steps p.tables e below (T15.setTop (mkF m 57 #[.val (.ref a1), .val (.ref a2), .val (.int (0 : Int32)), .val (.int cs.length.toInt32), .val .null, .val (.ref t3)] [])) _
    exact X15.returnOut hx Bd.returns (hb hby d2_57) hr
  · show own_QS Z a1 cs h0 n0 _ T15.heap _
    rw [e15]
    exact ⟨rfl, N15, K15, t3, kt3, f16, f20, Or.inr ⟨f17, f19⟩⟩
theorem d1_0 : decode jdk_42_method_3_code 0 = .ok (.aload_n 0, 1) := by decide +kernel
theorem d1_1 : decode jdk_42_method_3_code 1 = .ok (.aload_n 1, 1) := by decide +kernel
theorem d1_2 : decode jdk_42_method_3_code 2 = .ok (.iconst 0, 1) := by decide +kernel
theorem d1_3 : decode jdk_42_method_3_code 3 = .ok (.aload_n 1, 1) := by decide +kernel
theorem d1_4 : decode jdk_42_method_3_code 4 = .ok (.arraylength, 1) := by decide +kernel
theorem d1_5 : decode jdk_42_method_3_code 5 = .ok (.aconst_null, 1) := by decide +kernel
theorem d1_6 : decode jdk_42_method_3_code 6 = .ok (.invokespecial 27, 3) := by decide +kernel
theorem pd_11 : parseMethodDescriptor "([CIILjava/lang/Void;)V" = some ⟨[(.array .char), .int, .int, (.object "java/lang/Void")], none⟩ := by decide +kernel
theorem d1_9 : decode jdk_42_method_3_code 9 = .ok (.return_, 1) := by decide +kernel
theorem ef_1_16 (m : MethodId) (x0 : Addr) (x1 : Addr) : entryFrame m #[(.ref x0), (.ref x1)] 2 = mkF m 0 #[.val (.ref x0), .val (.ref x1)] [] := by first | (simp [entryFrame, mkF, argsToLocals, Value.category]; done) | rfl
theorem r_sA (l : Launch) (Z : State) (a0 : Array Value) (hw : own_HW a0 Z) (ws : List Jvm.Cond) (cs1 : Int32) (fv : Value) (h0 : Heap) (n0 : Nat) (O0 : Old Z n0 h0) (G : own_Ctx Z Z.heap cs1 fv) (a1 a2 : Addr) (k2 : ClassId) (cs : List Int32) (Ea : Exa Z h0 a1 "java/lang/String") (ga : n0 ≤ a1) (Fc : Fld Z h0 a1 "java/lang/String" "coder" "B" (.int (0 : Int32))) (Fv : Fld Z h0 a1 "java/lang/String" "value" "[B" .null) (Va : Arv Z h0 a2 k2 .char cs.length.toInt32 (cs.map Value.int) (.int (0 : Int32))) (hne : a2 ≠ a1) (hn : cs.length ≤ 4) (h1 : 1 ≤ cs.length) (hB : own_Bd cs) (hl : own_Lat cs) :
    own_M l Y15_ (head1 (Jvm.Cond.code Y15_ jdk_42_method_3_code 2 none :: ws) (own_rm_ 5 2 12 74)) #[(.ref a1), (.ref a2)] Z h0 n0 (own_QS Z a1 cs) (own_rm_ 5 2 12 74).cells (own_rm_ 5 2 12 74).slots := by
  have G0 := G
  obtain ⟨S_CS, N_CS, S_F, R_F, S_AD, S_HI, S_LO⟩ := G
  refine MetFree.of_bodySF (plainFor_of_name pn_2) hisR ?_
  intro p e s m args below meth c s₁ Bd hml0 hP hK
  obtain ⟨rfl, hZ, hh⟩ := hP
  have hx := Bd.exec
  have hby := Bd.bytes
  have hml : c.maxLocals = 2 := hml0
  have hown : s.vm.findClass "java/lang/String" = some m.cls := findClass_of_methodNamed Bd.named
  have hnm := (name_of_methodNamed Bd.named Bd.method).1
  have X0 : Stand p l e (own_rm_ 5 2 12 74) s m #[(.ref a1), (.ref a2)] below meth c s₁ [] 0 0 := Stand.of_body Bd
  have e0 : s₁.heap = h0 := by rw [← hh, Bd.state]; rfl
  have N0 := Fr.nil n0
  have pre0 := own_pre (tb := p.tables) (e := e) (below := below) (T := s₁) (ef_1_16 m a1 a2)
  have vc1 := Va
  obtain ⟨cl1, Ar1, qk1, S1, Nn1, Hs1, Gf1⟩ := vc1
  obtain ⟨_, _, ⟨T2, L2, k2, n2⟩, -, X2, ⟨Lc2, hQ2, l2, y2, z2⟩, st2⟩ := X0.specialBack hx (y := Y14_) rfl hown (mvT hZ (own_w hw 7 rfl)) (mvT hZ (own_w hw 8 rfl)) (mvT hZ (own_w hw 10 rfl)) (by decide) (backOf (W := 0) (r_svA l Z a0 hw [] cs1 fv h0 n0 O0 G0 a1 a2 k2 cs Ea ga Fc Fv Va hne hn h1 hB hl) hZ (own_w hw 10 rfl) (own_w hw 3 rfl) (by decide) (by decide)) (g := (mkF m 6 #[.val (.ref a1), .val (.ref a2)] [.null, (.int cs.length.toInt32), (.int (0 : Int32)), (.ref a2), (.ref a1)])) rfl (by rw [hml]; rfl) (Steps.refl _) (a := a1) (argsL := [(.ref a2), (.int (0 : Int32)), (.int cs.length.toInt32), .null]) (rest := []) (lenOf pd_11 rfl) rfl (by show 2 * 0 + _ ≤ _; exact Nat.le_of_eq rfl) (hb hby d1_6) (fun _ _ => ⟨rfl, e0, (by decide : 0 + 1 ≤ _), (by decide : 0 + 4 ≤ _)⟩)
  dsimp only [Pt.U, Pt.locs, Pt.cells, Pt.slots] at X2 l2 y2 z2 st2 hQ2
  subst l2 y2 z2
  obtain ⟨rfl, N2q, Kq2, Sq2⟩ := hQ2
  have N2 := Fr.app N0 N2q
  have f3 := Ea.keep Kq2
  have f4 := Va.keep Kq2 (fun q => (List.mem_cons.mp q).elim hne (fun q => nomatch q))
  have O2 := O0.keep Kq2 (allS ga all0)
  have K2 : Keep h0 T2.heap [a1] := (Keep.refl h0 [a1]).trans Kq2 (allS (Or.inl (List.mem_of_getElem? (i := 0) rfl)) all0)
  obtain ⟨fs, hr, hrun, hended, hW, hsame⟩ := X2.leave (v := none) (fun _ => rfl)
  refine ⟨_, _, pre0 _ ?_, hrun, hended, _, _, rfl, ?_, ⟨_, rfl⟩, hW, hsame.mono (by decide) (by decide)⟩
  · show Steps p.tables e below (s₁.setTop (mkF m 0 #[.val (.ref a1), .val (.ref a2)] [])) _
    refine XS.aloadN X0.here hx rfl (hb hby d1_0) rfl rfl ?_
    refine XS.aloadN X0.here hx rfl (hb hby d1_1) rfl rfl ?_
    refine XS.iconst X0.here hx rfl (hb hby d1_2) ?_
    refine XS.aloadN X0.here hx rfl (hb hby d1_3) rfl rfl ?_
    show Steps p.tables e below (s₁.setTop (mkF m 4 #[.val (.ref a1), .val (.ref a2)] [(.ref a2), (.int (0 : Int32)), (.ref a2), (.ref a1)])) _
    refine X0.arraylength hx (by rw [e0]; exact Ar1.1) (State.isArrayOf_alike hZ.alike Ar1.2.1) (g := (mkF m 4 #[.val (.ref a1), .val (.ref a2)] [(.ref a2), (.int (0 : Int32)), (.ref a2), (.ref a1)])) rfl rfl (hb hby d1_4) _ ?_
    rw [len_of S1 Nn1]
    show Steps p.tables e below (s₁.setTop (mkF m 5 #[.val (.ref a1), .val (.ref a2)] [(.int cs.length.toInt32), (.int (0 : Int32)), (.ref a2), (.ref a1)])) _
    refine XS.aconstNull X0.here hx rfl (hb hby d1_5) ?_
    show Steps p.tables e below (s₁.setTop (mkF m 6 #[.val (.ref a1), .val (.ref a2)] [.null, (.int cs.length.toInt32), (.int (0 : Int32)), (.ref a2), (.ref a1)])) _
    refine st2.trans ?_
    show Steps p.tables e below (T2.setTop (mkF m 9 #[.val (.ref a1), .val (.ref a2)] [])) _
    exact X2.returnOut hx Bd.returns (hb hby d1_9) hr
  · show own_QS Z a1 cs h0 n0 _ T2.heap _
    exact ⟨rfl, N2, K2, Sq2⟩
theorem r_sB (l : Launch) (Z : State) (a0 : Array Value) (hw : own_HW a0 Z) (ws : List Jvm.Cond) (cs1 : Int32) (fv : Value) (h0 : Heap) (n0 : Nat) (O0 : Old Z n0 h0) (G : own_Ctx Z Z.heap cs1 fv) (a1 a2 : Addr) (k2 : ClassId) (cs : List Int32) (Ea : Exa Z h0 a1 "java/lang/String") (ga : n0 ≤ a1) (Fc : Fld Z h0 a1 "java/lang/String" "coder" "B" (.int (0 : Int32))) (Fv : Fld Z h0 a1 "java/lang/String" "value" "[B" .null) (Va : Arv Z h0 a2 k2 .char cs.length.toInt32 (cs.map Value.int) (.int (0 : Int32))) (hne : a2 ≠ a1) (hn : cs.length ≤ 4) (h1 : 1 ≤ cs.length) (hB : own_Bd cs) (hl : ∃ j, ∃ hj : j < cs.length, (255 : Int32) < cs[j]) :
    own_M l Y15_ (head1 (Jvm.Cond.code Y15_ jdk_42_method_3_code 2 none :: ws) (own_rm_ 5 2 12 74)) #[(.ref a1), (.ref a2)] Z h0 n0 (own_QS Z a1 cs) (own_rm_ 5 2 12 74).cells (own_rm_ 5 2 12 74).slots := by
  have G0 := G
  obtain ⟨S_CS, N_CS, S_F, R_F, S_AD, S_HI, S_LO⟩ := G
  refine MetFree.of_bodySF (plainFor_of_name pn_2) hisR ?_
  intro p e s m args below meth c s₁ Bd hml0 hP hK
  obtain ⟨rfl, hZ, hh⟩ := hP
  have hx := Bd.exec
  have hby := Bd.bytes
  have hml : c.maxLocals = 2 := hml0
  have hown : s.vm.findClass "java/lang/String" = some m.cls := findClass_of_methodNamed Bd.named
  have hnm := (name_of_methodNamed Bd.named Bd.method).1
  have X0 : Stand p l e (own_rm_ 5 2 12 74) s m #[(.ref a1), (.ref a2)] below meth c s₁ [] 0 0 := Stand.of_body Bd
  have e0 : s₁.heap = h0 := by rw [← hh, Bd.state]; rfl
  have N0 := Fr.nil n0
  have pre0 := own_pre (tb := p.tables) (e := e) (below := below) (T := s₁) (ef_1_16 m a1 a2)
  have vc1 := Va
  obtain ⟨cl1, Ar1, qk1, S1, Nn1, Hs1, Gf1⟩ := vc1
  obtain ⟨_, _, ⟨T2, L2, k2, n2⟩, -, X2, ⟨Lc2, hQ2, l2, y2, z2⟩, st2⟩ := X0.specialBack hx (y := Y14_) rfl hown (mvT hZ (own_w hw 7 rfl)) (mvT hZ (own_w hw 8 rfl)) (mvT hZ (own_w hw 10 rfl)) (by decide) (backOf (W := 0) (r_svB l Z a0 hw [] cs1 fv h0 n0 O0 G0 a1 a2 k2 cs Ea ga Fc Fv Va hne hn h1 hB hl) hZ (own_w hw 10 rfl) (own_w hw 3 rfl) (by decide) (by decide)) (g := (mkF m 6 #[.val (.ref a1), .val (.ref a2)] [.null, (.int cs.length.toInt32), (.int (0 : Int32)), (.ref a2), (.ref a1)])) rfl (by rw [hml]; rfl) (Steps.refl _) (a := a1) (argsL := [(.ref a2), (.int (0 : Int32)), (.int cs.length.toInt32), .null]) (rest := []) (lenOf pd_11 rfl) rfl (by show 2 * 0 + _ ≤ _; exact Nat.le_of_eq rfl) (hb hby d1_6) (fun _ _ => ⟨rfl, e0, (by decide : 0 + 2 ≤ _), (by decide : 0 + 12 ≤ _)⟩)
  dsimp only [Pt.U, Pt.locs, Pt.cells, Pt.slots] at X2 l2 y2 z2 st2 hQ2
  subst l2 y2 z2
  obtain ⟨rfl, N2q, Kq2, Sq2⟩ := hQ2
  have N2 := Fr.app N0 N2q
  have f3 := Ea.keep Kq2
  have f4 := Va.keep Kq2 (fun q => (List.mem_cons.mp q).elim hne (fun q => nomatch q))
  have O2 := O0.keep Kq2 (allS ga all0)
  have K2 : Keep h0 T2.heap [a1] := (Keep.refl h0 [a1]).trans Kq2 (allS (Or.inl (List.mem_of_getElem? (i := 0) rfl)) all0)
  obtain ⟨fs, hr, hrun, hended, hW, hsame⟩ := X2.leave (v := none) (fun _ => rfl)
  refine ⟨_, _, pre0 _ ?_, hrun, hended, _, _, rfl, ?_, ⟨_, rfl⟩, hW, hsame.mono (by decide) (by decide)⟩
  · show Steps p.tables e below (s₁.setTop (mkF m 0 #[.val (.ref a1), .val (.ref a2)] [])) _
    refine XS.aloadN X0.here hx rfl (hb hby d1_0) rfl rfl ?_
    refine XS.aloadN X0.here hx rfl (hb hby d1_1) rfl rfl ?_
    refine XS.iconst X0.here hx rfl (hb hby d1_2) ?_
    refine XS.aloadN X0.here hx rfl (hb hby d1_3) rfl rfl ?_
    show Steps p.tables e below (s₁.setTop (mkF m 4 #[.val (.ref a1), .val (.ref a2)] [(.ref a2), (.int (0 : Int32)), (.ref a2), (.ref a1)])) _
    refine X0.arraylength hx (by rw [e0]; exact Ar1.1) (State.isArrayOf_alike hZ.alike Ar1.2.1) (g := (mkF m 4 #[.val (.ref a1), .val (.ref a2)] [(.ref a2), (.int (0 : Int32)), (.ref a2), (.ref a1)])) rfl rfl (hb hby d1_4) _ ?_
    rw [len_of S1 Nn1]
    show Steps p.tables e below (s₁.setTop (mkF m 5 #[.val (.ref a1), .val (.ref a2)] [(.int cs.length.toInt32), (.int (0 : Int32)), (.ref a2), (.ref a1)])) _
    refine XS.aconstNull X0.here hx rfl (hb hby d1_5) ?_
    show Steps p.tables e below (s₁.setTop (mkF m 6 #[.val (.ref a1), .val (.ref a2)] [.null, (.int cs.length.toInt32), (.int (0 : Int32)), (.ref a2), (.ref a1)])) _
    refine st2.trans ?_
    show Steps p.tables e below (T2.setTop (mkF m 9 #[.val (.ref a1), .val (.ref a2)] [])) _
    exact X2.returnOut hx Bd.returns (hb hby d1_9) hr
  · show own_QS Z a1 cs h0 n0 _ T2.heap _
    exact ⟨rfl, N2, K2, Sq2⟩
theorem r_new (l : Launch) (Z : State) (a0 : Array Value) (hw : own_HW a0 Z) (ws : List Jvm.Cond) (cs1 : Int32) (fv : Value) (h0 : Heap) (n0 : Nat) (O0 : Old Z n0 h0) (G : own_Ctx Z Z.heap cs1 fv) (a1 a2 : Addr) (k2 : ClassId) (cs : List Int32) (Ea : Exa Z h0 a1 "java/lang/String") (ga : n0 ≤ a1) (Fc : Fld Z h0 a1 "java/lang/String" "coder" "B" (.int (0 : Int32))) (Fv : Fld Z h0 a1 "java/lang/String" "value" "[B" .null) (Va : Arv Z h0 a2 k2 .char cs.length.toInt32 (cs.map Value.int) (.int (0 : Int32))) (hne : a2 ≠ a1) (hn : cs.length ≤ 4) (h1 : 1 ≤ cs.length) (hB : own_Bd cs) :
    own_M l Y15_ (head1 (Jvm.Cond.code Y15_ jdk_42_method_3_code 2 none :: ws) (own_rm_ 5 2 12 74)) #[(.ref a1), (.ref a2)] Z h0 n0 (own_QS Z a1 cs) (own_rm_ 5 2 12 74).cells (own_rm_ 5 2 12 74).slots := by
  rcases Classical.em (own_Lat cs) with hl | hl
  · exact r_sA l Z a0 hw ws cs1 fv h0 n0 O0 G a1 a2 k2 cs Ea ga Fc Fv Va hne hn h1 hB hl
  · exact r_sB l Z a0 hw ws cs1 fv h0 n0 O0 G a1 a2 k2 cs Ea ga Fc Fv Va hne hn h1 hB (own_notLat hl)
theorem d6_0 : decode jdk_42_method_152_code 0 = .ok (.getstatic 38, 3) := by decide +kernel
theorem d6_3 : decode jdk_42_method_152_code 3 = .ok (.ifCond .eq 10, 3) := by decide +kernel
theorem d6_6 : decode jdk_42_method_152_code 6 = .ok (.aload_n 0, 1) := by decide +kernel
theorem d6_7 : decode jdk_42_method_152_code 7 = .ok (.getfield 15, 3) := by decide +kernel
theorem d6_10 : decode jdk_42_method_152_code 10 = .ok (.goto 4, 3) := by decide +kernel
theorem d6_14 : decode jdk_42_method_152_code 14 = .ok (.ireturn, 1) := by decide +kernel
theorem ef_6_17 (m : MethodId) (x0 : Addr) : entryFrame m #[(.ref x0)] 1 = mkF m 0 #[.val (.ref x0)] [] := by first | (simp [entryFrame, mkF, argsToLocals, Value.category]; done) | rfl
theorem r_codL (l : Launch) (Z : State) (a0 : Array Value) (hw : own_HW a0 Z) (ws : List Jvm.Cond) (cs1 : Int32) (fv : Value) (h0 : Heap) (n0 : Nat) (O0 : Old Z n0 h0) (G : own_Ctx Z Z.heap cs1 fv) (a1 a2 : Addr) (k2 : ClassId) (cs : List Int32) (E1 : Exa Z h0 a1 "java/lang/String") (F1 : Fld Z h0 a1 "java/lang/String" "value" "[B" (.ref a2)) (F2 : Fld Z h0 a1 "java/lang/String" "coder" "B" (.int (0 : Int32))) (Va : Arv Z h0 a2 k2 .byte cs.length.toInt32 (cs.map (fun c => .int (nar .byte c.toInt8.toInt32))) (.int (0 : Int32))) :
    own_M l Y16_ (head1 (Jvm.Cond.code Y16_ jdk_42_method_152_code 1 (some .byte) :: ws) (own_rm_ 0 0 0 0)) #[(.ref a1)] Z h0 n0 (own_Q (some (.int (0 : Int32)))) (own_rm_ 0 0 0 0).cells (own_rm_ 0 0 0 0).slots := by
  have G0 := G
  obtain ⟨S_CS, N_CS, S_F, R_F, S_AD, S_HI, S_LO⟩ := G
  refine MetFree.of_bodySF (plainFor_of_name pn_2) hisR ?_
  intro p e s m args below meth c s₁ Bd hml0 hP hK
  obtain ⟨rfl, hZ, hh⟩ := hP
  have hx := Bd.exec
  have hby := Bd.bytes
  have hml : c.maxLocals = 1 := hml0
  have hown : s.vm.findClass "java/lang/String" = some m.cls := findClass_of_methodNamed Bd.named
  have hnm := (name_of_methodNamed Bd.named Bd.method).1
  have X0 : Stand p l e (own_rm_ 0 0 0 0) s m #[(.ref a1)] below meth c s₁ [] 0 0 := Stand.of_body Bd
  have e0 : s₁.heap = h0 := by rw [← hh, Bd.state]; rfl
  have N0 := Fr.nil n0
  have pre0 := own_pre (tb := p.tables) (e := e) (below := below) (T := s₁) (ef_6_17 m a1)
  obtain ⟨T1, X1, e1, st1⟩ := getS2 X0 hx hZ hown (host := "") (Or.inl (own_w hw 36 rfl)) Via.refl e0 (S_CS.ext O0.2) (g := (mkF m 0 #[.val (.ref a1)] [])) rfl (hb hby d6_0)
  obtain ⟨T2, X2, e2, st2⟩ := getF X1 hx hZ hown (host := "") (Or.inl (own_w hw 21 rfl)) Via.refl e1 F2 (g := (mkF m 7 #[.val (.ref a1)] [(.ref a1)])) rfl rfl (hb hby d6_7)
  obtain ⟨fs, hr, hrun, hended, hW, hsame⟩ := X2.leave (v := some (.int (0 : Int32))) (fun h => by rw [Bd.returns] at h; cases h)
  refine ⟨_, _, pre0 _ ?_, hrun, hended, _, _, rfl, ?_, ⟨_, rfl⟩, hW, hsame.mono (by decide) (by decide)⟩
  · show Steps p.tables e below (s₁.setTop (mkF m 0 #[.val (.ref a1)] [])) _
    refine st1 _ ?_
    show Steps p.tables e below (T1.setTop (mkF m 3 #[.val (.ref a1)] [(.int cs1)])) _
    refine XS.ifNo X1.here hx rfl (hb hby d6_3) rfl ((if0 _ _).trans (feq (N_CS : ¬ (cs1 = (0 : Int32)))).1) ?_
    refine XS.aloadN X1.here hx rfl (hb hby d6_6) rfl rfl ?_
    show Steps p.tables e below (T1.setTop (mkF m 7 #[.val (.ref a1)] [(.ref a1)])) _
    refine st2 _ ?_
    show Steps p.tables e below (T2.setTop (mkF m 10 #[.val (.ref a1)] [(.int (0 : Int32))])) _
    refine XS.goto X2.here hx rfl (pc0 := 10) (pc' := 14) rfl (hb hby d6_10) (by decide) (by decide) ?_
    show Steps p.tables e below (T2.setTop (mkF m 14 #[.val (.ref a1)] [(.int (0 : Int32))])) _
    exact retN X2 hx (t := .byte) Bd.returns (by simp) (hb hby d6_14) hr
  · show own_Q (some (.int (0 : Int32))) h0 n0 _ T2.heap _
    rw [e2]
    exact ⟨rfl, N0, rfl⟩
theorem d11_0 : decode jdk_42_method_154_code 0 = .ok (.getstatic 38, 3) := by decide +kernel
theorem d11_3 : decode jdk_42_method_154_code 3 = .ok (.ifCond .eq 14, 3) := by decide +kernel
theorem d11_6 : decode jdk_42_method_154_code 6 = .ok (.aload_n 0, 1) := by decide +kernel
theorem d11_7 : decode jdk_42_method_154_code 7 = .ok (.getfield 15, 3) := by decide +kernel
theorem d11_10 : decode jdk_42_method_154_code 10 = .ok (.ifCond .ne 7, 3) := by decide +kernel
theorem d11_13 : decode jdk_42_method_154_code 13 = .ok (.iconst 1, 1) := by decide +kernel
theorem d11_14 : decode jdk_42_method_154_code 14 = .ok (.goto 4, 3) := by decide +kernel
theorem d11_18 : decode jdk_42_method_154_code 18 = .ok (.ireturn, 1) := by decide +kernel
theorem ef_11_18 (m : MethodId) (x0 : Addr) : entryFrame m #[(.ref x0)] 1 = mkF m 0 #[.val (.ref x0)] [] := by first | (simp [entryFrame, mkF, argsToLocals, Value.category]; done) | rfl
theorem r_islL (l : Launch) (Z : State) (a0 : Array Value) (hw : own_HW a0 Z) (ws : List Jvm.Cond) (cs1 : Int32) (fv : Value) (h0 : Heap) (n0 : Nat) (O0 : Old Z n0 h0) (G : own_Ctx Z Z.heap cs1 fv) (a1 a2 : Addr) (k2 : ClassId) (cs : List Int32) (E1 : Exa Z h0 a1 "java/lang/String") (F1 : Fld Z h0 a1 "java/lang/String" "value" "[B" (.ref a2)) (F2 : Fld Z h0 a1 "java/lang/String" "coder" "B" (.int (0 : Int32))) (Va : Arv Z h0 a2 k2 .byte cs.length.toInt32 (cs.map (fun c => .int (nar .byte c.toInt8.toInt32))) (.int (0 : Int32))) :
    own_M l Y17_ (head1 (Jvm.Cond.code Y17_ jdk_42_method_154_code 1 (some .boolean) :: ws) (own_rm_ 0 0 0 0)) #[(.ref a1)] Z h0 n0 (own_Q (some (.int (1 : Int32)))) (own_rm_ 0 0 0 0).cells (own_rm_ 0 0 0 0).slots := by
  have G0 := G
  obtain ⟨S_CS, N_CS, S_F, R_F, S_AD, S_HI, S_LO⟩ := G
  refine MetFree.of_bodySF (plainFor_of_name pn_2) hisR ?_
  intro p e s m args below meth c s₁ Bd hml0 hP hK
  obtain ⟨rfl, hZ, hh⟩ := hP
  have hx := Bd.exec
  have hby := Bd.bytes
  have hml : c.maxLocals = 1 := hml0
  have hown : s.vm.findClass "java/lang/String" = some m.cls := findClass_of_methodNamed Bd.named
  have hnm := (name_of_methodNamed Bd.named Bd.method).1
  have X0 : Stand p l e (own_rm_ 0 0 0 0) s m #[(.ref a1)] below meth c s₁ [] 0 0 := Stand.of_body Bd
  have e0 : s₁.heap = h0 := by rw [← hh, Bd.state]; rfl
  have N0 := Fr.nil n0
  have pre0 := own_pre (tb := p.tables) (e := e) (below := below) (T := s₁) (ef_11_18 m a1)
  obtain ⟨T1, X1, e1, st1⟩ := getS2 X0 hx hZ hown (host := "") (Or.inl (own_w hw 36 rfl)) Via.refl e0 (S_CS.ext O0.2) (g := (mkF m 0 #[.val (.ref a1)] [])) rfl (hb hby d11_0)
  obtain ⟨T2, X2, e2, st2⟩ := getF X1 hx hZ hown (host := "") (Or.inl (own_w hw 21 rfl)) Via.refl e1 F2 (g := (mkF m 7 #[.val (.ref a1)] [(.ref a1)])) rfl rfl (hb hby d11_7)
  obtain ⟨fs, hr, hrun, hended, hW, hsame⟩ := X2.leave (v := some (.int (1 : Int32))) (fun h => by rw [Bd.returns] at h; cases h)
  refine ⟨_, _, pre0 _ ?_, hrun, hended, _, _, rfl, ?_, ⟨_, rfl⟩, hW, hsame.mono (by decide) (by decide)⟩
  · show Steps p.tables e below (s₁.setTop (mkF m 0 #[.val (.ref a1)] [])) _
    refine st1 _ ?_
    show Steps p.tables e below (T1.setTop (mkF m 3 #[.val (.ref a1)] [(.int cs1)])) _
    refine XS.ifNo X1.here hx rfl (hb hby d11_3) rfl ((if0 _ _).trans (feq (N_CS : ¬ (cs1 = (0 : Int32)))).1) ?_
    refine XS.aloadN X1.here hx rfl (hb hby d11_6) rfl rfl ?_
    show Steps p.tables e below (T1.setTop (mkF m 7 #[.val (.ref a1)] [(.ref a1)])) _
    refine st2 _ ?_
    show Steps p.tables e below (T2.setTop (mkF m 10 #[.val (.ref a1)] [(.int (0 : Int32))])) _
    refine XS.ifNo X2.here hx rfl (hb hby d11_10) rfl ((if0 _ _).trans (teq (by decide : (0 : Int32) = (0 : Int32))).2) ?_
    refine XS.iconst X2.here hx rfl (hb hby d11_13) ?_
    refine XS.goto X2.here hx rfl (pc0 := 14) (pc' := 18) rfl (hb hby d11_14) (by decide) (by decide) ?_
    show Steps p.tables e below (T2.setTop (mkF m 18 #[.val (.ref a1)] [(.int (1 : Int32))])) _
    exact retN X2 hx (t := .boolean) Bd.returns (by simp) (hb hby d11_18) hr
  · show own_Q (some (.int (1 : Int32))) h0 n0 _ T2.heap _
    rw [e2]
    exact ⟨rfl, N0, rfl⟩
theorem r_codU (l : Launch) (Z : State) (a0 : Array Value) (hw : own_HW a0 Z) (ws : List Jvm.Cond) (cs1 : Int32) (fv : Value) (h0 : Heap) (n0 : Nat) (O0 : Old Z n0 h0) (G : own_Ctx Z Z.heap cs1 fv) (a1 a2 : Addr) (k2 : ClassId) (cs : List Int32) (E1 : Exa Z h0 a1 "java/lang/String") (F1 : Fld Z h0 a1 "java/lang/String" "value" "[B" (.ref a2)) (F2 : Fld Z h0 a1 "java/lang/String" "coder" "B" (.int (1 : Int32))) (Va : Arv Z h0 a2 k2 .byte (2 * cs.length).toInt32 (cs.flatMap own_two) (.int (0 : Int32))) :
    own_M l Y16_ (head1 (Jvm.Cond.code Y16_ jdk_42_method_152_code 1 (some .byte) :: ws) (own_rm_ 0 0 0 0)) #[(.ref a1)] Z h0 n0 (own_Q (some (.int (1 : Int32)))) (own_rm_ 0 0 0 0).cells (own_rm_ 0 0 0 0).slots := by
  have G0 := G
  obtain ⟨S_CS, N_CS, S_F, R_F, S_AD, S_HI, S_LO⟩ := G
  refine MetFree.of_bodySF (plainFor_of_name pn_2) hisR ?_
  intro p e s m args below meth c s₁ Bd hml0 hP hK
  obtain ⟨rfl, hZ, hh⟩ := hP
  have hx := Bd.exec
  have hby := Bd.bytes
  have hml : c.maxLocals = 1 := hml0
  have hown : s.vm.findClass "java/lang/String" = some m.cls := findClass_of_methodNamed Bd.named
  have hnm := (name_of_methodNamed Bd.named Bd.method).1
  have X0 : Stand p l e (own_rm_ 0 0 0 0) s m #[(.ref a1)] below meth c s₁ [] 0 0 := Stand.of_body Bd
  have e0 : s₁.heap = h0 := by rw [← hh, Bd.state]; rfl
  have N0 := Fr.nil n0
  have pre0 := own_pre (tb := p.tables) (e := e) (below := below) (T := s₁) (ef_6_17 m a1)
  obtain ⟨T1, X1, e1, st1⟩ := getS2 X0 hx hZ hown (host := "") (Or.inl (own_w hw 36 rfl)) Via.refl e0 (S_CS.ext O0.2) (g := (mkF m 0 #[.val (.ref a1)] [])) rfl (hb hby d6_0)
  obtain ⟨T2, X2, e2, st2⟩ := getF X1 hx hZ hown (host := "") (Or.inl (own_w hw 21 rfl)) Via.refl e1 F2 (g := (mkF m 7 #[.val (.ref a1)] [(.ref a1)])) rfl rfl (hb hby d6_7)
  obtain ⟨fs, hr, hrun, hended, hW, hsame⟩ := X2.leave (v := some (.int (1 : Int32))) (fun h => by rw [Bd.returns] at h; cases h)
  refine ⟨_, _, pre0 _ ?_, hrun, hended, _, _, rfl, ?_, ⟨_, rfl⟩, hW, hsame.mono (by decide) (by decide)⟩
  · show Steps p.tables e below (s₁.setTop (mkF m 0 #[.val (.ref a1)] [])) _
    refine st1 _ ?_
    show Steps p.tables e below (T1.setTop (mkF m 3 #[.val (.ref a1)] [(.int cs1)])) _
    refine XS.ifNo X1.here hx rfl (hb hby d6_3) rfl ((if0 _ _).trans (feq (N_CS : ¬ (cs1 = (0 : Int32)))).1) ?_
    refine XS.aloadN X1.here hx rfl (hb hby d6_6) rfl rfl ?_
    show Steps p.tables e below (T1.setTop (mkF m 7 #[.val (.ref a1)] [(.ref a1)])) _
    refine st2 _ ?_
    show Steps p.tables e below (T2.setTop (mkF m 10 #[.val (.ref a1)] [(.int (1 : Int32))])) _
    refine XS.goto X2.here hx rfl (pc0 := 10) (pc' := 14) rfl (hb hby d6_10) (by decide) (by decide) ?_
    show Steps p.tables e below (T2.setTop (mkF m 14 #[.val (.ref a1)] [(.int (1 : Int32))])) _
    exact retN X2 hx (t := .byte) Bd.returns (by simp) (hb hby d6_14) hr
  · show own_Q (some (.int (1 : Int32))) h0 n0 _ T2.heap _
    rw [e2]
    exact ⟨rfl, N0, rfl⟩
theorem d11_17 : decode jdk_42_method_154_code 17 = .ok (.iconst 0, 1) := by decide +kernel
theorem r_islU (l : Launch) (Z : State) (a0 : Array Value) (hw : own_HW a0 Z) (ws : List Jvm.Cond) (cs1 : Int32) (fv : Value) (h0 : Heap) (n0 : Nat) (O0 : Old Z n0 h0) (G : own_Ctx Z Z.heap cs1 fv) (a1 a2 : Addr) (k2 : ClassId) (cs : List Int32) (E1 : Exa Z h0 a1 "java/lang/String") (F1 : Fld Z h0 a1 "java/lang/String" "value" "[B" (.ref a2)) (F2 : Fld Z h0 a1 "java/lang/String" "coder" "B" (.int (1 : Int32))) (Va : Arv Z h0 a2 k2 .byte (2 * cs.length).toInt32 (cs.flatMap own_two) (.int (0 : Int32))) :
    own_M l Y17_ (head1 (Jvm.Cond.code Y17_ jdk_42_method_154_code 1 (some .boolean) :: ws) (own_rm_ 0 0 0 0)) #[(.ref a1)] Z h0 n0 (own_Q (some (.int (0 : Int32)))) (own_rm_ 0 0 0 0).cells (own_rm_ 0 0 0 0).slots := by
  have G0 := G
  obtain ⟨S_CS, N_CS, S_F, R_F, S_AD, S_HI, S_LO⟩ := G
  refine MetFree.of_bodySF (plainFor_of_name pn_2) hisR ?_
  intro p e s m args below meth c s₁ Bd hml0 hP hK
  obtain ⟨rfl, hZ, hh⟩ := hP
  have hx := Bd.exec
  have hby := Bd.bytes
  have hml : c.maxLocals = 1 := hml0
  have hown : s.vm.findClass "java/lang/String" = some m.cls := findClass_of_methodNamed Bd.named
  have hnm := (name_of_methodNamed Bd.named Bd.method).1
  have X0 : Stand p l e (own_rm_ 0 0 0 0) s m #[(.ref a1)] below meth c s₁ [] 0 0 := Stand.of_body Bd
  have e0 : s₁.heap = h0 := by rw [← hh, Bd.state]; rfl
  have N0 := Fr.nil n0
  have pre0 := own_pre (tb := p.tables) (e := e) (below := below) (T := s₁) (ef_11_18 m a1)
  obtain ⟨T1, X1, e1, st1⟩ := getS2 X0 hx hZ hown (host := "") (Or.inl (own_w hw 36 rfl)) Via.refl e0 (S_CS.ext O0.2) (g := (mkF m 0 #[.val (.ref a1)] [])) rfl (hb hby d11_0)
  obtain ⟨T2, X2, e2, st2⟩ := getF X1 hx hZ hown (host := "") (Or.inl (own_w hw 21 rfl)) Via.refl e1 F2 (g := (mkF m 7 #[.val (.ref a1)] [(.ref a1)])) rfl rfl (hb hby d11_7)
  obtain ⟨fs, hr, hrun, hended, hW, hsame⟩ := X2.leave (v := some (.int (0 : Int32))) (fun h => by rw [Bd.returns] at h; cases h)
  refine ⟨_, _, pre0 _ ?_, hrun, hended, _, _, rfl, ?_, ⟨_, rfl⟩, hW, hsame.mono (by decide) (by decide)⟩
  · show Steps p.tables e below (s₁.setTop (mkF m 0 #[.val (.ref a1)] [])) _
    refine st1 _ ?_
    show Steps p.tables e below (T1.setTop (mkF m 3 #[.val (.ref a1)] [(.int cs1)])) _
    refine XS.ifNo X1.here hx rfl (hb hby d11_3) rfl ((if0 _ _).trans (feq (N_CS : ¬ (cs1 = (0 : Int32)))).1) ?_
    refine XS.aloadN X1.here hx rfl (hb hby d11_6) rfl rfl ?_
    show Steps p.tables e below (T1.setTop (mkF m 7 #[.val (.ref a1)] [(.ref a1)])) _
    refine st2 _ ?_
    show Steps p.tables e below (T2.setTop (mkF m 10 #[.val (.ref a1)] [(.int (1 : Int32))])) _
    refine XS.ifYes X2.here hx rfl (pc0 := 10) (pc' := 17) rfl (hb hby d11_10) rfl ((if0 _ _).trans (feq (by decide : ¬ ((1 : Int32) = (0 : Int32)))).2) (by decide) (by decide) ?_
    refine XS.iconst X2.here hx rfl (hb hby d11_17) ?_
    show Steps p.tables e below (T2.setTop (mkF m 18 #[.val (.ref a1)] [(.int (0 : Int32))])) _
    exact retN X2 hx (t := .boolean) Bd.returns (by simp) (hb hby d11_18) hr
  · show own_Q (some (.int (0 : Int32))) h0 n0 _ T2.heap _
    rw [e2]
    exact ⟨rfl, N0, rfl⟩
theorem d5_0 : decode jdk_42_method_54_code 0 = .ok (.aload_n 0, 1) := by decide +kernel
theorem d5_1 : decode jdk_42_method_54_code 1 = .ok (.getfield 9, 3) := by decide +kernel
theorem d5_4 : decode jdk_42_method_54_code 4 = .ok (.arraylength, 1) := by decide +kernel
theorem d5_5 : decode jdk_42_method_54_code 5 = .ok (.aload_n 0, 1) := by decide +kernel
theorem d5_6 : decode jdk_42_method_54_code 6 = .ok (.invokevirtual 335, 3) := by decide +kernel
theorem pd_12 : parseMethodDescriptor "()B" = some ⟨[], some .byte⟩ := by decide +kernel
theorem d5_9 : decode jdk_42_method_54_code 9 = .ok (.ishr, 1) := by decide +kernel
theorem d5_10 : decode jdk_42_method_54_code 10 = .ok (.ireturn, 1) := by decide +kernel
theorem ef_5_19 (m : MethodId) (x0 : Addr) : entryFrame m #[(.ref x0)] 1 = mkF m 0 #[.val (.ref x0)] [] := by first | (simp [entryFrame, mkF, argsToLocals, Value.category]; done) | rfl
theorem r_lenL (l : Launch) (Z : State) (a0 : Array Value) (hw : own_HW a0 Z) (ws : List Jvm.Cond) (cs1 : Int32) (fv : Value) (h0 : Heap) (n0 : Nat) (O0 : Old Z n0 h0) (G : own_Ctx Z Z.heap cs1 fv) (a1 a2 : Addr) (k2 : ClassId) (cs : List Int32) (E1 : Exa Z h0 a1 "java/lang/String") (F1 : Fld Z h0 a1 "java/lang/String" "value" "[B" (.ref a2)) (F2 : Fld Z h0 a1 "java/lang/String" "coder" "B" (.int (0 : Int32))) (Va : Arv Z h0 a2 k2 .byte cs.length.toInt32 (cs.map (fun c => .int (nar .byte c.toInt8.toInt32))) (.int (0 : Int32))) (hn : cs.length ≤ 4) :
    own_M l Y18_ (head1 (Jvm.Cond.code Y18_ jdk_42_method_54_code 1 (some .int) :: ws) (own_rm_ 1 0 0 13)) #[(.ref a1)] Z h0 n0 (own_Q (some (.int cs.length.toInt32))) (own_rm_ 1 0 0 13).cells (own_rm_ 1 0 0 13).slots := by
  have G0 := G
  obtain ⟨S_CS, N_CS, S_F, R_F, S_AD, S_HI, S_LO⟩ := G
  refine MetFree.of_bodySF (plainFor_of_name pn_2) hisR ?_
  intro p e s m args below meth c s₁ Bd hml0 hP hK
  obtain ⟨rfl, hZ, hh⟩ := hP
  have hx := Bd.exec
  have hby := Bd.bytes
  have hml : c.maxLocals = 1 := hml0
  have hown : s.vm.findClass "java/lang/String" = some m.cls := findClass_of_methodNamed Bd.named
  have hnm := (name_of_methodNamed Bd.named Bd.method).1
  have X0 : Stand p l e (own_rm_ 1 0 0 13) s m #[(.ref a1)] below meth c s₁ [] 0 0 := Stand.of_body Bd
  have e0 : s₁.heap = h0 := by rw [← hh, Bd.state]; rfl
  have N0 := Fr.nil n0
  have pre0 := own_pre (tb := p.tables) (e := e) (below := below) (T := s₁) (ef_5_19 m a1)
  obtain ⟨T1, X1, e1, st1⟩ := getF X0 hx hZ hown (host := "") (Or.inl (own_w hw 20 rfl)) Via.refl e0 F1 (g := (mkF m 1 #[.val (.ref a1)] [(.ref a1)])) rfl rfl (hb hby d5_1)
  have vc2 := Va
  obtain ⟨cl2, Ar2, qk2, S2, Nn2, Hs2, Gf2⟩ := vc2
  obtain ⟨cq3, kq3, q3a, q3b, q3c⟩ := isOf hZ e1 E1
  obtain ⟨_, _, ⟨T3, L3, k3, n3⟩, -, X3, ⟨Lc3, hQ3, l3, y3, z3⟩, st3⟩ := X1.virtualBack hx (y := Y16_) (z := Y16_) hown (mvT hZ (own_w hw 31 rfl)) (mvT hZ (own_w hw 32 rfl)) (notFace_of_selects (args := #[]) (mvT hZ (own_w hw 34 rfl))) (mvT hZ (own_w hw 34 rfl)) (mvT hZ (own_w hw 33 rfl)) (by decide) (backOf (W := 1) (r_codL l Z a0 hw [] cs1 fv h0 n0 O0 G0 a1 a2 k2 cs E1 F1 F2 Va) hZ (own_w hw 35 rfl) (own_w hw 3 rfl) (by decide) (by decide)) q3a q3c (g := (mkF m 6 #[.val (.ref a1)] [(.ref a1), (.int cs.length.toInt32)])) rfl (by rw [hml]; rfl) (Steps.refl _) (argsL := []) (rest := [(.int cs.length.toInt32)]) (lenOf pd_12 rfl) rfl (by show 2 * 0 + _ ≤ _; exact Nat.le_of_eq rfl) (hb hby d5_6) (fun _ _ => ⟨rfl, e1, (by decide : 0 + 0 ≤ _), (by decide : 0 + 0 ≤ _)⟩)
  dsimp only [Pt.U, Pt.locs, Pt.cells, Pt.slots] at X3 l3 y3 z3 st3 hQ3
  subst l3 y3 z3
  obtain ⟨rfl, N3q, e3⟩ := hQ3
  have N3 := Fr.app N0 N3q
  obtain ⟨fs, hr, hrun, hended, hW, hsame⟩ := X3.leave (v := some (.int cs.length.toInt32)) (fun h => by rw [Bd.returns] at h; cases h)
  refine ⟨_, _, pre0 _ ?_, hrun, hended, _, _, rfl, ?_, ⟨_, rfl⟩, hW, hsame.mono (by decide) (by decide)⟩
  · show Steps p.tables e below (s₁.setTop (mkF m 0 #[.val (.ref a1)] [])) _
    refine XS.aloadN X0.here hx rfl (hb hby d5_0) rfl rfl ?_
    show Steps p.tables e below (s₁.setTop (mkF m 1 #[.val (.ref a1)] [(.ref a1)])) _
    refine st1 _ ?_
    show Steps p.tables e below (T1.setTop (mkF m 4 #[.val (.ref a1)] [(.ref a2)])) _
    refine X1.arraylength hx (by rw [e1]; exact Ar2.1) (State.isArrayOf_alike hZ.alike Ar2.2.1) (g := (mkF m 4 #[.val (.ref a1)] [(.ref a2)])) rfl rfl (hb hby d5_4) _ ?_
    rw [len_of S2 Nn2]
    show Steps p.tables e below (T1.setTop (mkF m 5 #[.val (.ref a1)] [(.int cs.length.toInt32)])) _
    refine XS.aloadN X1.here hx rfl (hb hby d5_5) rfl rfl ?_
    show Steps p.tables e below (T1.setTop (mkF m 6 #[.val (.ref a1)] [(.ref a1), (.int cs.length.toInt32)])) _
    refine st3.trans ?_
    show Steps p.tables e below (T3.setTop (mkF m 9 #[.val (.ref a1)] [(.int (0 : Int32)), (.int cs.length.toInt32)])) _
    refine XS.ishr X3.here hx rfl (hb hby d5_9) rfl ?_
    show Steps p.tables e below (T3.setTop (mkF m 10 #[.val (.ref a1)] [(.int (cs.length.toInt32 >>> ((0 : Int32) &&& 31)))])) _
    rw [own_shr0 hn]
    show Steps p.tables e below (T3.setTop (mkF m 10 #[.val (.ref a1)] [(.int cs.length.toInt32)])) _
    exact retI X3 hx Bd.returns (hb hby d5_10) hr
  · show own_Q (some (.int cs.length.toInt32)) h0 n0 _ T3.heap _
    rw [e3]
    exact ⟨rfl, N3, rfl⟩
theorem r_lenU (l : Launch) (Z : State) (a0 : Array Value) (hw : own_HW a0 Z) (ws : List Jvm.Cond) (cs1 : Int32) (fv : Value) (h0 : Heap) (n0 : Nat) (O0 : Old Z n0 h0) (G : own_Ctx Z Z.heap cs1 fv) (a1 a2 : Addr) (k2 : ClassId) (cs : List Int32) (E1 : Exa Z h0 a1 "java/lang/String") (F1 : Fld Z h0 a1 "java/lang/String" "value" "[B" (.ref a2)) (F2 : Fld Z h0 a1 "java/lang/String" "coder" "B" (.int (1 : Int32))) (Va : Arv Z h0 a2 k2 .byte (2 * cs.length).toInt32 (cs.flatMap own_two) (.int (0 : Int32))) (hn : cs.length ≤ 4) :
    own_M l Y18_ (head1 (Jvm.Cond.code Y18_ jdk_42_method_54_code 1 (some .int) :: ws) (own_rm_ 1 0 0 13)) #[(.ref a1)] Z h0 n0 (own_Q (some (.int cs.length.toInt32))) (own_rm_ 1 0 0 13).cells (own_rm_ 1 0 0 13).slots := by
  have G0 := G
  obtain ⟨S_CS, N_CS, S_F, R_F, S_AD, S_HI, S_LO⟩ := G
  refine MetFree.of_bodySF (plainFor_of_name pn_2) hisR ?_
  intro p e s m args below meth c s₁ Bd hml0 hP hK
  obtain ⟨rfl, hZ, hh⟩ := hP
  have hx := Bd.exec
  have hby := Bd.bytes
  have hml : c.maxLocals = 1 := hml0
  have hown : s.vm.findClass "java/lang/String" = some m.cls := findClass_of_methodNamed Bd.named
  have hnm := (name_of_methodNamed Bd.named Bd.method).1
  have X0 : Stand p l e (own_rm_ 1 0 0 13) s m #[(.ref a1)] below meth c s₁ [] 0 0 := Stand.of_body Bd
  have e0 : s₁.heap = h0 := by rw [← hh, Bd.state]; rfl
  have N0 := Fr.nil n0
  have pre0 := own_pre (tb := p.tables) (e := e) (below := below) (T := s₁) (ef_5_19 m a1)
  obtain ⟨T1, X1, e1, st1⟩ := getF X0 hx hZ hown (host := "") (Or.inl (own_w hw 20 rfl)) Via.refl e0 F1 (g := (mkF m 1 #[.val (.ref a1)] [(.ref a1)])) rfl rfl (hb hby d5_1)
  have vc2 := Va
  obtain ⟨cl2, Ar2, qk2, S2, Nn2, Hs2, Gf2⟩ := vc2
  obtain ⟨cq3, kq3, q3a, q3b, q3c⟩ := isOf hZ e1 E1
  obtain ⟨_, _, ⟨T3, L3, k3, n3⟩, -, X3, ⟨Lc3, hQ3, l3, y3, z3⟩, st3⟩ := X1.virtualBack hx (y := Y16_) (z := Y16_) hown (mvT hZ (own_w hw 31 rfl)) (mvT hZ (own_w hw 32 rfl)) (notFace_of_selects (args := #[]) (mvT hZ (own_w hw 34 rfl))) (mvT hZ (own_w hw 34 rfl)) (mvT hZ (own_w hw 33 rfl)) (by decide) (backOf (W := 1) (r_codU l Z a0 hw [] cs1 fv h0 n0 O0 G0 a1 a2 k2 cs E1 F1 F2 Va) hZ (own_w hw 35 rfl) (own_w hw 3 rfl) (by decide) (by decide)) q3a q3c (g := (mkF m 6 #[.val (.ref a1)] [(.ref a1), (.int (2 * cs.length).toInt32)])) rfl (by rw [hml]; rfl) (Steps.refl _) (argsL := []) (rest := [(.int (2 * cs.length).toInt32)]) (lenOf pd_12 rfl) rfl (by show 2 * 0 + _ ≤ _; exact Nat.le_of_eq rfl) (hb hby d5_6) (fun _ _ => ⟨rfl, e1, (by decide : 0 + 0 ≤ _), (by decide : 0 + 0 ≤ _)⟩)
  dsimp only [Pt.U, Pt.locs, Pt.cells, Pt.slots] at X3 l3 y3 z3 st3 hQ3
  subst l3 y3 z3
  obtain ⟨rfl, N3q, e3⟩ := hQ3
  have N3 := Fr.app N0 N3q
  obtain ⟨fs, hr, hrun, hended, hW, hsame⟩ := X3.leave (v := some (.int cs.length.toInt32)) (fun h => by rw [Bd.returns] at h; cases h)
  refine ⟨_, _, pre0 _ ?_, hrun, hended, _, _, rfl, ?_, ⟨_, rfl⟩, hW, hsame.mono (by decide) (by decide)⟩
  · show Steps p.tables e below (s₁.setTop (mkF m 0 #[.val (.ref a1)] [])) _
    refine XS.aloadN X0.here hx rfl (hb hby d5_0) rfl rfl ?_
    show Steps p.tables e below (s₁.setTop (mkF m 1 #[.val (.ref a1)] [(.ref a1)])) _
    refine st1 _ ?_
    show Steps p.tables e below (T1.setTop (mkF m 4 #[.val (.ref a1)] [(.ref a2)])) _
    refine X1.arraylength hx (by rw [e1]; exact Ar2.1) (State.isArrayOf_alike hZ.alike Ar2.2.1) (g := (mkF m 4 #[.val (.ref a1)] [(.ref a2)])) rfl rfl (hb hby d5_4) _ ?_
    rw [len_of S2 Nn2]
    show Steps p.tables e below (T1.setTop (mkF m 5 #[.val (.ref a1)] [(.int (2 * cs.length).toInt32)])) _
    refine XS.aloadN X1.here hx rfl (hb hby d5_5) rfl rfl ?_
    show Steps p.tables e below (T1.setTop (mkF m 6 #[.val (.ref a1)] [(.ref a1), (.int (2 * cs.length).toInt32)])) _
    refine st3.trans ?_
    show Steps p.tables e below (T3.setTop (mkF m 9 #[.val (.ref a1)] [(.int (1 : Int32)), (.int (2 * cs.length).toInt32)])) _
    refine XS.ishr X3.here hx rfl (hb hby d5_9) rfl ?_
    show Steps p.tables e below (T3.setTop (mkF m 10 #[.val (.ref a1)] [(.int ((2 * cs.length).toInt32 >>> ((1 : Int32) &&& 31)))])) _
    rw [own_shr1 (i := cs.length) (own_4 hn)]
    show Steps p.tables e below (T3.setTop (mkF m 10 #[.val (.ref a1)] [(.int cs.length.toInt32)])) _
    exact retI X3 hx Bd.returns (hb hby d5_10) hr
  · show own_Q (some (.int cs.length.toInt32)) h0 n0 _ T3.heap _
    rw [e3]
    exact ⟨rfl, N3, rfl⟩
theorem r_len (l : Launch) (Z : State) (a0 : Array Value) (hw : own_HW a0 Z) (ws : List Jvm.Cond) (cs1 : Int32) (fv : Value) (h0 : Heap) (n0 : Nat) (O0 : Old Z n0 h0) (G : own_Ctx Z Z.heap cs1 fv) (a1 : Addr) (cs : List Int32) (S : own_Str Z h0 a1 cs) (hn : cs.length ≤ 4) :
    own_M l Y18_ (head1 (Jvm.Cond.code Y18_ jdk_42_method_54_code 1 (some .int) :: ws) (own_rm_ 1 0 0 13)) #[(.ref a1)] Z h0 n0 (own_Q (some (.int cs.length.toInt32))) (own_rm_ 1 0 0 13).cells (own_rm_ 1 0 0 13).slots := by
  obtain ⟨b, k, E1, F1, ⟨F2, B, V⟩ | ⟨F2, V⟩⟩ := S
  · exact r_lenL l Z a0 hw ws cs1 fv h0 n0 O0 G a1 b k cs E1 F1 F2 V hn
  · exact r_lenU l Z a0 hw ws cs1 fv h0 n0 O0 G a1 b k cs E1 F1 F2 V hn
theorem d10_0 : decode jdk_42_method_56_code 0 = .ok (.aload_n 0, 1) := by decide +kernel
theorem d10_1 : decode jdk_42_method_56_code 1 = .ok (.invokevirtual 492, 3) := by decide +kernel
theorem pd_13 : parseMethodDescriptor "()Z" = some ⟨[], some .boolean⟩ := by decide +kernel
theorem d10_4 : decode jdk_42_method_56_code 4 = .ok (.ifCond .eq 12, 3) := by decide +kernel
theorem d10_7 : decode jdk_42_method_56_code 7 = .ok (.aload_n 0, 1) := by decide +kernel
theorem d10_8 : decode jdk_42_method_56_code 8 = .ok (.getfield 9, 3) := by decide +kernel
theorem d10_11 : decode jdk_42_method_56_code 11 = .ok (.iload_n 1, 1) := by decide +kernel
theorem d10_12 : decode jdk_42_method_56_code 12 = .ok (.invokestatic 495, 3) := by decide +kernel
theorem d10_15 : decode jdk_42_method_56_code 15 = .ok (.ireturn, 1) := by decide +kernel
theorem ef_10_20 (m : MethodId) (x0 : Addr) (x1 : Int32) : entryFrame m #[(.ref x0), (.int x1)] 2 = mkF m 0 #[.val (.ref x0), .val (.int x1)] [] := by first | (simp [entryFrame, mkF, argsToLocals, Value.category]; done) | rfl
theorem r_chL (l : Launch) (Z : State) (a0 : Array Value) (hw : own_HW a0 Z) (ws : List Jvm.Cond) (cs1 : Int32) (fv : Value) (h0 : Heap) (n0 : Nat) (O0 : Old Z n0 h0) (G : own_Ctx Z Z.heap cs1 fv) (a1 a2 : Addr) (k2 : ClassId) (cs : List Int32) (E1 : Exa Z h0 a1 "java/lang/String") (F1 : Fld Z h0 a1 "java/lang/String" "value" "[B" (.ref a2)) (F2 : Fld Z h0 a1 "java/lang/String" "coder" "B" (.int (0 : Int32))) (Va : Arv Z h0 a2 k2 .byte cs.length.toInt32 (cs.map (fun c => .int (nar .byte c.toInt8.toInt32))) (.int (0 : Int32))) (i : Nat) (hi : i < cs.length) (hn : cs.length ≤ 4) (hz : ¬ (cs[i] < (0 : Int32))) (hm : ¬ ((65535 : Int32) < cs[i])) (hl : ¬ ((255 : Int32) < cs[i])) :
    own_M l Y19_ (head1 (Jvm.Cond.code Y19_ jdk_42_method_56_code 2 (some .char) :: ws) (own_rm_ 4 0 0 53)) #[(.ref a1), (.int i.toInt32)] Z h0 n0 (own_Q (some (.int cs[i]))) (own_rm_ 4 0 0 53).cells (own_rm_ 4 0 0 53).slots := by
  have G0 := G
  obtain ⟨S_CS, N_CS, S_F, R_F, S_AD, S_HI, S_LO⟩ := G
  refine MetFree.of_bodySF (plainFor_of_name pn_2) hisR ?_
  intro p e s m args below meth c s₁ Bd hml0 hP hK
  obtain ⟨rfl, hZ, hh⟩ := hP
  have hx := Bd.exec
  have hby := Bd.bytes
  have hml : c.maxLocals = 2 := hml0
  have hown : s.vm.findClass "java/lang/String" = some m.cls := findClass_of_methodNamed Bd.named
  have hnm := (name_of_methodNamed Bd.named Bd.method).1
  have X0 : Stand p l e (own_rm_ 4 0 0 53) s m #[(.ref a1), (.int i.toInt32)] below meth c s₁ [] 0 0 := Stand.of_body Bd
  have e0 : s₁.heap = h0 := by rw [← hh, Bd.state]; rfl
  have N0 := Fr.nil n0
  have pre0 := own_pre (tb := p.tables) (e := e) (below := below) (T := s₁) (ef_10_20 m a1 i.toInt32)
  obtain ⟨cq1, kq1, q1a, q1b, q1c⟩ := isOf hZ e0 E1
  obtain ⟨_, _, ⟨T1, L1, k1, n1⟩, -, X1, ⟨Lc1, hQ1, l1, y1, z1⟩, st1⟩ := X0.virtualBack hx (y := Y17_) (z := Y17_) hown (mvT hZ (own_w hw 53 rfl)) (mvT hZ (own_w hw 54 rfl)) (notFace_of_selects (args := #[]) (mvT hZ (own_w hw 56 rfl))) (mvT hZ (own_w hw 56 rfl)) (mvT hZ (own_w hw 55 rfl)) (by decide) (backOf (W := 0) (r_islL l Z a0 hw [] cs1 fv h0 n0 O0 G0 a1 a2 k2 cs E1 F1 F2 Va) hZ (own_w hw 57 rfl) (own_w hw 3 rfl) (by decide) (by decide)) q1a q1c (g := (mkF m 1 #[.val (.ref a1), .val (.int i.toInt32)] [(.ref a1)])) rfl (by rw [hml]; rfl) (Steps.refl _) (argsL := []) (rest := []) (lenOf pd_13 rfl) rfl (by show 2 * 0 + _ ≤ _; exact Nat.le_of_eq rfl) (hb hby d10_1) (fun _ _ => ⟨rfl, e0, (by decide : 0 + 0 ≤ _), (by decide : 0 + 0 ≤ _)⟩)
  dsimp only [Pt.U, Pt.locs, Pt.cells, Pt.slots] at X1 l1 y1 z1 st1 hQ1
  subst l1 y1 z1
  obtain ⟨rfl, N1q, e1⟩ := hQ1
  have N1 := Fr.app N0 N1q
  obtain ⟨T2, X2, e2, st2⟩ := getF X1 hx hZ hown (host := "") (Or.inl (own_w hw 20 rfl)) Via.refl e1 F1 (g := (mkF m 8 #[.val (.ref a1), .val (.int i.toInt32)] [(.ref a1)])) rfl rfl (hb hby d10_8)
  obtain ⟨_, _, ⟨T3, L3, k3, n3⟩, -, X3, ⟨Lc3, hQ3, l3, y3, z3⟩, st3⟩ := Jvm.LawKit.callS X2 hx (y := Y11_) hown (mvT hZ (own_w hw 58 rfl)) (mvT hZ (own_w hw 59 rfl)) (mvT hZ (own_w hw 60 rfl)) (mvT hZ (own_w hw 61 rfl)) (by decide) (backOf (W := 0) (r_lch l Z a0 hw [] cs1 fv h0 n0 O0 G0 a2 k2 cs i Va hi hn hz hl) hZ (own_w hw 61 rfl) (own_w hw 60 rfl) (by decide) (by decide)) (g := (mkF m 12 #[.val (.ref a1), .val (.int i.toInt32)] [(.int i.toInt32), (.ref a2)])) rfl (by rw [hml]; rfl) (argsL := [(.ref a2), (.int i.toInt32)]) (rest := []) (lenOf pd_7 rfl) rfl (by show 2 * 0 + _ ≤ _; exact Nat.le_of_eq rfl) (hb hby d10_12) (fun _ _ => ⟨rfl, e2, (by decide : 0 + 0 ≤ _), (by decide : 0 + 0 ≤ _)⟩)
  dsimp only [Pt.U, Pt.locs, Pt.cells, Pt.slots] at X3 l3 y3 z3 st3 hQ3
  subst l3 y3 z3
  obtain ⟨rfl, N3q, e3⟩ := hQ3
  have N3 := Fr.app N1 N3q
  obtain ⟨fs, hr, hrun, hended, hW, hsame⟩ := X3.leave (v := some (.int (nar .char cs[i]))) (fun h => by rw [Bd.returns] at h; cases h)
  refine ⟨_, _, pre0 _ ?_, hrun, hended, _, _, rfl, ?_, ⟨_, rfl⟩, hW, hsame.mono (by decide) (by decide)⟩
  · show Steps p.tables e below (s₁.setTop (mkF m 0 #[.val (.ref a1), .val (.int i.toInt32)] [])) _
    refine XS.aloadN X0.here hx rfl (hb hby d10_0) rfl rfl ?_
    show Steps p.tables e below (s₁.setTop (mkF m 1 #[.val (.ref a1), .val (.int i.toInt32)] [(.ref a1)])) _
    refine st1.trans ?_
    show Steps p.tables e below (T1.setTop (mkF m 4 #[.val (.ref a1), .val (.int i.toInt32)] [(.int (1 : Int32))])) _
    refine XS.ifNo X1.here hx rfl (hb hby d10_4) rfl ((if0 _ _).trans (feq (by decide : ¬ ((1 : Int32) = (0 : Int32)))).1) ?_
    refine XS.aloadN X1.here hx rfl (hb hby d10_7) rfl rfl ?_
    show Steps p.tables e below (T1.setTop (mkF m 8 #[.val (.ref a1), .val (.int i.toInt32)] [(.ref a1)])) _
    refine st2 _ ?_
    show Steps p.tables e below (T2.setTop (mkF m 11 #[.val (.ref a1), .val (.int i.toInt32)] [(.ref a2)])) _
    refine XS.iloadN X2.here hx rfl (hb hby d10_11) rfl ?_
    show Steps p.tables e below (T2.setTop (mkF m 12 #[.val (.ref a1), .val (.int i.toInt32)] [(.int i.toInt32), (.ref a2)])) _
    refine st3 _ ?_
    show Steps p.tables e below (T3.setTop (mkF m 15 #[.val (.ref a1), .val (.int i.toInt32)] [(.int cs[i])])) _
    exact retN X3 hx (t := .char) Bd.returns (by simp) (hb hby d10_15) hr
  · show own_Q (some (.int cs[i])) h0 n0 _ T3.heap _
    rw [e3]
    exact ⟨own_nch hz hm, N3, rfl⟩
theorem d10_16 : decode jdk_42_method_56_code 16 = .ok (.aload_n 0, 1) := by decide +kernel
theorem d10_17 : decode jdk_42_method_56_code 17 = .ok (.getfield 9, 3) := by decide +kernel
theorem d10_20 : decode jdk_42_method_56_code 20 = .ok (.iload_n 1, 1) := by decide +kernel
theorem d10_21 : decode jdk_42_method_56_code 21 = .ok (.invokestatic 498, 3) := by decide +kernel
theorem d10_24 : decode jdk_42_method_56_code 24 = .ok (.ireturn, 1) := by decide +kernel
theorem r_chU (l : Launch) (Z : State) (a0 : Array Value) (hw : own_HW a0 Z) (ws : List Jvm.Cond) (cs1 : Int32) (fv : Value) (h0 : Heap) (n0 : Nat) (O0 : Old Z n0 h0) (G : own_Ctx Z Z.heap cs1 fv) (a1 a2 : Addr) (k2 : ClassId) (cs : List Int32) (E1 : Exa Z h0 a1 "java/lang/String") (F1 : Fld Z h0 a1 "java/lang/String" "value" "[B" (.ref a2)) (F2 : Fld Z h0 a1 "java/lang/String" "coder" "B" (.int (1 : Int32))) (Va : Arv Z h0 a2 k2 .byte (2 * cs.length).toInt32 (cs.flatMap own_two) (.int (0 : Int32))) (i : Nat) (hi : i < cs.length) (hn : cs.length ≤ 4) (hz : ¬ (cs[i] < (0 : Int32))) (hm : ¬ ((65535 : Int32) < cs[i])) :
    own_M l Y19_ (head1 (Jvm.Cond.code Y19_ jdk_42_method_56_code 2 (some .char) :: ws) (own_rm_ 4 0 0 53)) #[(.ref a1), (.int i.toInt32)] Z h0 n0 (own_Q (some (.int cs[i]))) (own_rm_ 4 0 0 53).cells (own_rm_ 4 0 0 53).slots := by
  have G0 := G
  obtain ⟨S_CS, N_CS, S_F, R_F, S_AD, S_HI, S_LO⟩ := G
  refine MetFree.of_bodySF (plainFor_of_name pn_2) hisR ?_
  intro p e s m args below meth c s₁ Bd hml0 hP hK
  obtain ⟨rfl, hZ, hh⟩ := hP
  have hx := Bd.exec
  have hby := Bd.bytes
  have hml : c.maxLocals = 2 := hml0
  have hown : s.vm.findClass "java/lang/String" = some m.cls := findClass_of_methodNamed Bd.named
  have hnm := (name_of_methodNamed Bd.named Bd.method).1
  have X0 : Stand p l e (own_rm_ 4 0 0 53) s m #[(.ref a1), (.int i.toInt32)] below meth c s₁ [] 0 0 := Stand.of_body Bd
  have e0 : s₁.heap = h0 := by rw [← hh, Bd.state]; rfl
  have N0 := Fr.nil n0
  have pre0 := own_pre (tb := p.tables) (e := e) (below := below) (T := s₁) (ef_10_20 m a1 i.toInt32)
  obtain ⟨cq1, kq1, q1a, q1b, q1c⟩ := isOf hZ e0 E1
  obtain ⟨_, _, ⟨T1, L1, k1, n1⟩, -, X1, ⟨Lc1, hQ1, l1, y1, z1⟩, st1⟩ := X0.virtualBack hx (y := Y17_) (z := Y17_) hown (mvT hZ (own_w hw 53 rfl)) (mvT hZ (own_w hw 54 rfl)) (notFace_of_selects (args := #[]) (mvT hZ (own_w hw 56 rfl))) (mvT hZ (own_w hw 56 rfl)) (mvT hZ (own_w hw 55 rfl)) (by decide) (backOf (W := 0) (r_islU l Z a0 hw [] cs1 fv h0 n0 O0 G0 a1 a2 k2 cs E1 F1 F2 Va) hZ (own_w hw 57 rfl) (own_w hw 3 rfl) (by decide) (by decide)) q1a q1c (g := (mkF m 1 #[.val (.ref a1), .val (.int i.toInt32)] [(.ref a1)])) rfl (by rw [hml]; rfl) (Steps.refl _) (argsL := []) (rest := []) (lenOf pd_13 rfl) rfl (by show 2 * 0 + _ ≤ _; exact Nat.le_of_eq rfl) (hb hby d10_1) (fun _ _ => ⟨rfl, e0, (by decide : 0 + 0 ≤ _), (by decide : 0 + 0 ≤ _)⟩)
  dsimp only [Pt.U, Pt.locs, Pt.cells, Pt.slots] at X1 l1 y1 z1 st1 hQ1
  subst l1 y1 z1
  obtain ⟨rfl, N1q, e1⟩ := hQ1
  have N1 := Fr.app N0 N1q
  obtain ⟨T2, X2, e2, st2⟩ := getF X1 hx hZ hown (host := "") (Or.inl (own_w hw 20 rfl)) Via.refl e1 F1 (g := (mkF m 17 #[.val (.ref a1), .val (.int i.toInt32)] [(.ref a1)])) rfl rfl (hb hby d10_17)
  obtain ⟨_, _, ⟨T3, L3, k3, n3⟩, -, X3, ⟨Lc3, hQ3, l3, y3, z3⟩, st3⟩ := Jvm.LawKit.callS X2 hx (y := Y10_) hown (mvT hZ (own_w hw 100 rfl)) (mvT hZ (own_w hw 101 rfl)) (mvT hZ (own_w hw 40 rfl)) (mvT hZ (own_w hw 102 rfl)) (by decide) (backOf (W := 0) (r_uch l Z a0 hw [] cs1 fv h0 n0 O0 G0 a2 k2 cs i Va hi hn hz hm) hZ (own_w hw 102 rfl) (own_w hw 40 rfl) (by decide) (by decide)) (g := (mkF m 21 #[.val (.ref a1), .val (.int i.toInt32)] [(.int i.toInt32), (.ref a2)])) rfl (by rw [hml]; rfl) (argsL := [(.ref a2), (.int i.toInt32)]) (rest := []) (lenOf pd_7 rfl) rfl (by show 2 * 0 + _ ≤ _; exact Nat.le_of_eq rfl) (hb hby d10_21) (fun _ _ => ⟨rfl, e2, (by decide : 0 + 0 ≤ _), (by decide : 0 + 0 ≤ _)⟩)
  dsimp only [Pt.U, Pt.locs, Pt.cells, Pt.slots] at X3 l3 y3 z3 st3 hQ3
  subst l3 y3 z3
  obtain ⟨rfl, N3q, e3⟩ := hQ3
  have N3 := Fr.app N1 N3q
  obtain ⟨fs, hr, hrun, hended, hW, hsame⟩ := X3.leave (v := some (.int (nar .char cs[i]))) (fun h => by rw [Bd.returns] at h; cases h)
  refine ⟨_, _, pre0 _ ?_, hrun, hended, _, _, rfl, ?_, ⟨_, rfl⟩, hW, hsame.mono (by decide) (by decide)⟩
  · show Steps p.tables e below (s₁.setTop (mkF m 0 #[.val (.ref a1), .val (.int i.toInt32)] [])) _
    refine XS.aloadN X0.here hx rfl (hb hby d10_0) rfl rfl ?_
    show Steps p.tables e below (s₁.setTop (mkF m 1 #[.val (.ref a1), .val (.int i.toInt32)] [(.ref a1)])) _
    refine st1.trans ?_
    show Steps p.tables e below (T1.setTop (mkF m 4 #[.val (.ref a1), .val (.int i.toInt32)] [(.int (0 : Int32))])) _
    refine XS.ifYes X1.here hx rfl (pc0 := 4) (pc' := 16) rfl (hb hby d10_4) rfl ((if0 _ _).trans (teq (by decide : (0 : Int32) = (0 : Int32))).1) (by decide) (by decide) ?_
    refine XS.aloadN X1.here hx rfl (hb hby d10_16) rfl rfl ?_
    show Steps p.tables e below (T1.setTop (mkF m 17 #[.val (.ref a1), .val (.int i.toInt32)] [(.ref a1)])) _
    refine st2 _ ?_
    show Steps p.tables e below (T2.setTop (mkF m 20 #[.val (.ref a1), .val (.int i.toInt32)] [(.ref a2)])) _
    refine XS.iloadN X2.here hx rfl (hb hby d10_20) rfl ?_
    show Steps p.tables e below (T2.setTop (mkF m 21 #[.val (.ref a1), .val (.int i.toInt32)] [(.int i.toInt32), (.ref a2)])) _
    refine st3 _ ?_
    show Steps p.tables e below (T3.setTop (mkF m 24 #[.val (.ref a1), .val (.int i.toInt32)] [(.int cs[i])])) _
    exact retN X3 hx (t := .char) Bd.returns (by simp) (hb hby d10_24) hr
  · show own_Q (some (.int cs[i])) h0 n0 _ T3.heap _
    rw [e3]
    exact ⟨own_nch hz hm, N3, rfl⟩
theorem r_ch (l : Launch) (Z : State) (a0 : Array Value) (hw : own_HW a0 Z) (ws : List Jvm.Cond) (cs1 : Int32) (fv : Value) (h0 : Heap) (n0 : Nat) (O0 : Old Z n0 h0) (G : own_Ctx Z Z.heap cs1 fv) (a1 : Addr) (cs : List Int32) (S : own_Str Z h0 a1 cs) (i : Nat) (hi : i < cs.length) (hn : cs.length ≤ 4) (hB : own_Bd cs) :
    own_M l Y19_ (head1 (Jvm.Cond.code Y19_ jdk_42_method_56_code 2 (some .char) :: ws) (own_rm_ 4 0 0 53)) #[(.ref a1), (.int i.toInt32)] Z h0 n0 (own_Q (some (.int cs[i]))) (own_rm_ 4 0 0 53).cells (own_rm_ 4 0 0 53).slots := by
  obtain ⟨b, k, E1, F1, ⟨F2, B, V⟩ | ⟨F2, V⟩⟩ := S
  · exact r_chL l Z a0 hw ws cs1 fv h0 n0 O0 G a1 b k cs E1 F1 F2 V i hi hn (hB i hi).1 (hB i hi).2 (B i hi)
  · exact r_chU l Z a0 hw ws cs1 fv h0 n0 O0 G a1 b k cs E1 F1 F2 V i hi hn (hB i hi).1 (hB i hi).2
theorem d28_3 : decode jdk_43_method_49_code 3 = .ok (.iload 5, 2) := by decide +kernel
theorem d28_5 : decode jdk_43_method_49_code 5 = .ok (.iload 4, 2) := by decide +kernel
theorem d28_7 : decode jdk_43_method_49_code 7 = .ok (.if_icmp .ge 26, 3) := by decide +kernel
theorem d28_10 : decode jdk_43_method_49_code 10 = .ok (.aload_n 2, 1) := by decide +kernel
theorem d28_11 : decode jdk_43_method_49_code 11 = .ok (.iload_n 3, 1) := by decide +kernel
theorem d28_12 : decode jdk_43_method_49_code 12 = .ok (.iinc 3 1, 3) := by decide +kernel
theorem d28_15 : decode jdk_43_method_49_code 15 = .ok (.aload_n 0, 1) := by decide +kernel
theorem d28_16 : decode jdk_43_method_49_code 16 = .ok (.iload_n 1, 1) := by decide +kernel
theorem d28_17 : decode jdk_43_method_49_code 17 = .ok (.iinc 1 1, 3) := by decide +kernel
theorem d28_20 : decode jdk_43_method_49_code 20 = .ok (.baload, 1) := by decide +kernel
theorem d28_21 : decode jdk_43_method_49_code 21 = .ok (.sipush 255, 3) := by decide +kernel
theorem d28_24 : decode jdk_43_method_49_code 24 = .ok (.iand, 1) := by decide +kernel
theorem d28_25 : decode jdk_43_method_49_code 25 = .ok (.i2c, 1) := by decide +kernel
theorem d28_26 : decode jdk_43_method_49_code 26 = .ok (.castore, 1) := by decide +kernel
theorem d28_27 : decode jdk_43_method_49_code 27 = .ok (.iinc 5 1, 3) := by decide +kernel
theorem d28_30 : decode jdk_43_method_49_code 30 = .ok (.goto (-27), 3) := by decide +kernel
theorem t_if {p : Program} {l : Launch} {e : Env} {R : Room} {s : State} {m : MethodId} {args : Array Value} {below : List Frame} {meth : Method} {c : Code} {T0 : State} {locs : List Loc} {cells slots : Nat} {Z : State} {a0 : Array Value} {h0 : Heap} {n0 : Nat} (cs1 : Int32) (fv : Value) (a2 a3 : Addr) (k2 k3 : ClassId) (cs : List Int32) (i : Nat)
    (X0 : Stand p l e R s m args below meth c T0 locs cells slots) (hx : p.tables.exec = Jvm.exec) (hZ : Z.Warmed39 s.vm) (hw : own_HW a0 Z) (hby : c.code = jdk_43_method_49_code) (hml : c.maxLocals = 6) (hown : s.vm.findClass "java/lang/StringLatin1" = some m.cls) (e0 : T0.heap = h0) (N0 : Fr n0 locs) (O0 : Old Z n0 h0) (G : own_Ctx Z Z.heap cs1 fv) (Va : Arv Z h0 a2 k2 .byte cs.length.toInt32 (cs.map (fun c => .int (nar .byte c.toInt8.toInt32))) (.int (0 : Int32))) (Vb : Arv Z h0 a3 k3 .char cs.length.toInt32 (own_fill (fun c => nar .char c) cs i) (.int (0 : Int32))) (ga : n0 ≤ a3) (hne : a2 ≠ a3) (hi : i < cs.length) (hn : cs.length ≤ 4) (hB : own_Bd cs) (hl : own_Lat cs) :
    ∃ (T' : State) (h' : Heap) (L' : List Loc), Stand p l e R s m args below meth c T' L' cells slots ∧ T'.heap = h' ∧ Fr n0 L' ∧ Old Z n0 h' ∧ Keep h0 h' [a3] ∧ (Arv Z h' a2 k2 .byte cs.length.toInt32 (cs.map (fun c => .int (nar .byte c.toInt8.toInt32))) (.int (0 : Int32))) ∧ (Arv Z h' a3 k3 .char cs.length.toInt32 (own_fill (fun c => nar .char c) cs (i + 1)) (.int (0 : Int32))) ∧ ∀ target, Steps p.tables e below (T'.setTop (mkF m 3 #[.val (.ref a2), .val (.int (i.toInt32 + (1 : Int32))), .val (.ref a3), .val (.int (i.toInt32 + (1 : Int32))), .val (.int cs.length.toInt32), .val (.int (i.toInt32 + (1 : Int32)))] [])) target → Steps p.tables e below (T0.setTop (mkF m 3 #[.val (.ref a2), .val (.int i.toInt32), .val (.ref a3), .val (.int i.toInt32), .val (.int cs.length.toInt32), .val (.int i.toInt32)] [])) target := by
  have G0 := G
  obtain ⟨S_CS, N_CS, S_F, R_F, S_AD, S_HI, S_LO⟩ := G
  have vc1 := Va
  obtain ⟨cl1, Ar1, qk1, S1, Nn1, Hs1, Gf1⟩ := vc1
  have hin1 : ¬ (i.toInt32 < 0 ∨ cl1.slots.size ≤ (i.toInt32).toNatClampNeg) := inb_of S1 ⟨(own_ti (own_ki hi hn)).2.1, own_tl hi (own_k hn)⟩
  have hat1 : cl1.slots[(i.toInt32).toNatClampNeg]? = some (.int (nar .byte (cs[i].toInt8.toInt32))) := Has.at Hs1 hin1 (by rw [(own_ti (own_ki hi hn)).1]; exact own_atf (fun c => nar .byte c.toInt8.toInt32) hi)
  have vc2 := Vb
  obtain ⟨cl2, Ar2, qk2, S2, Nn2, Hs2, Gf2⟩ := vc2
  have hin2 : ¬ (i.toInt32 < 0 ∨ cl2.slots.size ≤ (i.toInt32).toNatClampNeg) := inb_of S2 ⟨(own_ti (own_ki hi hn)).2.1, own_tl hi (own_k hn)⟩
  obtain ⟨T3, h3, X3, e3, W3, st3⟩ := stC X0 hx hZ e0 Ar2 (j := i.toInt32) hin2 (g := (mkF m 26 #[.val (.ref a2), .val (.int (i.toInt32 + (1 : Int32))), .val (.ref a3), .val (.int (i.toInt32 + (1 : Int32))), .val (.int cs.length.toInt32), .val (.int i.toInt32)] [(.int cs[i]), (.int i.toInt32), (.ref a3)])) rfl rfl (hb hby d28_26)
  have f4 := Va.other W3 hne
  have O3 := O0.wr W3 ga
  have K3 : Keep h0 h3 [a3] := (Keep.refl h0 [a3]).wr W3 (Or.inl (List.mem_of_getElem? (i := 0) rfl))
  have N3 := Fr.snoc X3 N0 ga
  have f5 : Arv Z h3 a3 k3 .char cs.length.toInt32 (List.set (own_fill (fun c => nar .char c) cs i) (i.toInt32).toNatClampNeg (.int (nar .char cs[i]))) (.int (0 : Int32)) := Arv.set Ar2 qk2 S2 Nn2 Hs2 Gf2 (fits_nar_char _) W3 (i.toInt32).toNatClampNeg rfl (by rw [(own_ti (own_ki hi hn)).1, own_fill_len _ cs (Nat.le_of_lt hi)]; exact hi)
  refine ⟨T3, h3, _, X3, e3, N3, O3, K3, f4, (by have q := f5; rw [(own_ti (own_ki hi hn)).1, own_fillc cs hi] at q; exact q), fun target kt => ?_⟩
  show Steps p.tables e below (T0.setTop (mkF m 3 #[.val (.ref a2), .val (.int i.toInt32), .val (.ref a3), .val (.int i.toInt32), .val (.int cs.length.toInt32), .val (.int i.toInt32)] [])) _
  refine XS.iload X0.here hx rfl (hb hby d28_3) rfl ?_
  refine XS.iload X0.here hx rfl (hb hby d28_5) rfl ?_
  refine XS.icmpNo X0.here hx rfl (hb hby d28_7) rfl (tlt ((own_tl hi (own_k hn)) : i.toInt32 < cs.length.toInt32)).2.1 ?_
  refine XS.aloadN X0.here hx rfl (hb hby d28_10) rfl rfl ?_
  refine XS.iloadN X0.here hx rfl (hb hby d28_11) rfl ?_
  show Steps p.tables e below (T0.setTop (mkF m 12 #[.val (.ref a2), .val (.int i.toInt32), .val (.ref a3), .val (.int i.toInt32), .val (.int cs.length.toInt32), .val (.int i.toInt32)] [(.int i.toInt32), (.ref a3)])) _
  refine XS.iinc X0.here hx rfl (hb hby d28_12) rfl (l' := #[.val (.ref a2), .val (.int i.toInt32), .val (.ref a3), .val (.int (i.toInt32 + (1 : Int32))), .val (.int cs.length.toInt32), .val (.int i.toInt32)]) rfl ?_
  show Steps p.tables e below (T0.setTop (mkF m 15 #[.val (.ref a2), .val (.int i.toInt32), .val (.ref a3), .val (.int (i.toInt32 + (1 : Int32))), .val (.int cs.length.toInt32), .val (.int i.toInt32)] [(.int i.toInt32), (.ref a3)])) _
  refine XS.aloadN X0.here hx rfl (hb hby d28_15) rfl rfl ?_
  refine XS.iloadN X0.here hx rfl (hb hby d28_16) rfl ?_
  show Steps p.tables e below (T0.setTop (mkF m 17 #[.val (.ref a2), .val (.int i.toInt32), .val (.ref a3), .val (.int (i.toInt32 + (1 : Int32))), .val (.int cs.length.toInt32), .val (.int i.toInt32)] [(.int i.toInt32), (.ref a2), (.int i.toInt32), (.ref a3)])) _
  refine XS.iinc X0.here hx rfl (hb hby d28_17) rfl (l' := #[.val (.ref a2), .val (.int (i.toInt32 + (1 : Int32))), .val (.ref a3), .val (.int (i.toInt32 + (1 : Int32))), .val (.int cs.length.toInt32), .val (.int i.toInt32)]) rfl ?_
  show Steps p.tables e below (T0.setTop (mkF m 20 #[.val (.ref a2), .val (.int (i.toInt32 + (1 : Int32))), .val (.ref a3), .val (.int (i.toInt32 + (1 : Int32))), .val (.int cs.length.toInt32), .val (.int i.toInt32)] [(.int i.toInt32), (.ref a2), (.int i.toInt32), (.ref a3)])) _
  refine X0.baloadBytes hx (j := i.toInt32) (v := (.int (nar .byte (cs[i].toInt8.toInt32)))) (by rw [e0]; exact Ar1.1) (State.isArrayOf_alike hZ.alike Ar1.2.1) Ar1.2.2 hin1 hat1 (g := (mkF m 20 #[.val (.ref a2), .val (.int (i.toInt32 + (1 : Int32))), .val (.ref a3), .val (.int (i.toInt32 + (1 : Int32))), .val (.int cs.length.toInt32), .val (.int i.toInt32)] [(.int i.toInt32), (.ref a2), (.int i.toInt32), (.ref a3)])) rfl rfl (hb hby d28_20) _ ?_
  show Steps p.tables e below (T0.setTop (mkF m 21 #[.val (.ref a2), .val (.int (i.toInt32 + (1 : Int32))), .val (.ref a3), .val (.int (i.toInt32 + (1 : Int32))), .val (.int cs.length.toInt32), .val (.int i.toInt32)] [(.int (nar .byte (cs[i].toInt8.toInt32))), (.int i.toInt32), (.ref a3)])) _
  refine XS.sipush X0.here hx rfl (hb hby d28_21) ?_
  refine XS.iand X0.here hx rfl (hb hby d28_24) rfl ?_
  refine XS.i2c X0.here hx rfl (hb hby d28_25) rfl ?_
  show Steps p.tables e below (T0.setTop (mkF m 26 #[.val (.ref a2), .val (.int (i.toInt32 + (1 : Int32))), .val (.ref a3), .val (.int (i.toInt32 + (1 : Int32))), .val (.int cs.length.toInt32), .val (.int i.toInt32)] [(.int (((nar .byte (cs[i].toInt8.toInt32)) &&& (255 : Int32)).toUInt32.toUInt16.toUInt32.toInt32)), (.int i.toInt32), (.ref a3)])) _
  rw [own_lat (hB i hi).1 (hl i hi)]
  show Steps p.tables e below (T0.setTop (mkF m 26 #[.val (.ref a2), .val (.int (i.toInt32 + (1 : Int32))), .val (.ref a3), .val (.int (i.toInt32 + (1 : Int32))), .val (.int cs.length.toInt32), .val (.int i.toInt32)] [(.int cs[i]), (.int i.toInt32), (.ref a3)])) _
  refine st3 _ ?_
  show Steps p.tables e below (T3.setTop (mkF m 27 #[.val (.ref a2), .val (.int (i.toInt32 + (1 : Int32))), .val (.ref a3), .val (.int (i.toInt32 + (1 : Int32))), .val (.int cs.length.toInt32), .val (.int i.toInt32)] [])) _
  refine XS.iinc X3.here hx rfl (hb hby d28_27) rfl (l' := #[.val (.ref a2), .val (.int (i.toInt32 + (1 : Int32))), .val (.ref a3), .val (.int (i.toInt32 + (1 : Int32))), .val (.int cs.length.toInt32), .val (.int (i.toInt32 + (1 : Int32)))]) rfl ?_
  show Steps p.tables e below (T3.setTop (mkF m 30 #[.val (.ref a2), .val (.int (i.toInt32 + (1 : Int32))), .val (.ref a3), .val (.int (i.toInt32 + (1 : Int32))), .val (.int cs.length.toInt32), .val (.int (i.toInt32 + (1 : Int32)))] [])) _
  refine XS.goto X3.here hx rfl (pc0 := 30) (pc' := 3) rfl (hb hby d28_30) (by decide) (by decide) ?_
  exact kt
theorem t_ife {p : Program} {l : Launch} {e : Env} {R : Room} {s : State} {m : MethodId} {args : Array Value} {below : List Frame} {meth : Method} {c : Code} {T0 : State} {locs : List Loc} {cells slots : Nat} {Z : State} {a0 : Array Value} {h0 : Heap} {n0 : Nat} (cs1 : Int32) (fv : Value) (a2 a3 : Addr) (i1 z1 : Int32)
    (X0 : Stand p l e R s m args below meth c T0 locs cells slots) (hx : p.tables.exec = Jvm.exec) (hZ : Z.Warmed39 s.vm) (hw : own_HW a0 Z) (hby : c.code = jdk_43_method_49_code) (hml : c.maxLocals = 6) (hown : s.vm.findClass "java/lang/StringLatin1" = some m.cls) (e0 : T0.heap = h0) (O0 : Old Z n0 h0) (G : own_Ctx Z Z.heap cs1 fv) (hi2 : ¬ (i1 < z1)) :
    ∃ T' : State, Stand p l e R s m args below meth c T' locs cells slots ∧ T'.heap = h0 ∧ ∀ target, Steps p.tables e below (T'.setTop (mkF m 33 #[.val (.ref a2), .val (.int i1), .val (.ref a3), .val (.int i1), .val (.int z1), .val (.int i1)] [])) target → Steps p.tables e below (T0.setTop (mkF m 3 #[.val (.ref a2), .val (.int i1), .val (.ref a3), .val (.int i1), .val (.int z1), .val (.int i1)] [])) target := by
  have G0 := G
  obtain ⟨S_CS, N_CS, S_F, R_F, S_AD, S_HI, S_LO⟩ := G
  refine ⟨T0, X0, e0, fun target kt => ?_⟩
  show Steps p.tables e below (T0.setTop (mkF m 3 #[.val (.ref a2), .val (.int i1), .val (.ref a3), .val (.int i1), .val (.int z1), .val (.int i1)] [])) _
  refine XS.iload X0.here hx rfl (hb hby d28_3) rfl ?_
  refine XS.iload X0.here hx rfl (hb hby d28_5) rfl ?_
  refine XS.icmpYes X0.here hx rfl (pc0 := 7) (pc' := 33) rfl (hb hby d28_7) rfl (flt (hi2 : ¬ (i1 < z1))).2.1 (by decide) (by decide) ?_
  exact kt
theorem own_if {p : Program} {l : Launch} {e : Env} {R : Room} {s : State} {m : MethodId} {args : Array Value} {below : List Frame} {meth : Method} {c : Code} {cells slots : Nat} {Z : State} {a0 : Array Value} {n0 : Nat} (cs1 : Int32) (fv : Value) (a2 a3 : Addr) (k2 k3 : ClassId) (cs : List Int32)
    (hx : p.tables.exec = Jvm.exec) (hZ : Z.Warmed39 s.vm) (hw : own_HW a0 Z) (hby : c.code = jdk_43_method_49_code) (hml : c.maxLocals = 6) (hown : s.vm.findClass "java/lang/StringLatin1" = some m.cls) (G : own_Ctx Z Z.heap cs1 fv) (ga : n0 ≤ a3) (hne : a2 ≠ a3) (hn : cs.length ≤ 4) (hB : own_Bd cs) (hl : own_Lat cs) :
    ∀ (k i : Nat) (T0 : State) (h0 : Heap) (locs : List Loc), i + k = cs.length → Stand p l e R s m args below meth c T0 locs cells slots → T0.heap = h0 → Fr n0 locs → Old Z n0 h0 → Arv Z h0 a2 k2 .byte cs.length.toInt32 (cs.map (fun c => .int (nar .byte c.toInt8.toInt32))) (.int (0 : Int32)) → Arv Z h0 a3 k3 .char cs.length.toInt32 (own_fill (fun c => nar .char c) cs i) (.int (0 : Int32)) →
    ∃ (T' : State) (h' : Heap) (L' : List Loc), Stand p l e R s m args below meth c T' L' cells slots ∧ T'.heap = h' ∧ Fr n0 L' ∧ Old Z n0 h' ∧ Keep h0 h' [a3] ∧ Arv Z h' a3 k3 .char cs.length.toInt32 (own_fill (fun c => nar .char c) cs cs.length) (.int (0 : Int32)) ∧
      ∀ target, Steps p.tables e below (T'.setTop (mkF m 33 #[.val (.ref a2), .val (.int cs.length.toInt32), .val (.ref a3), .val (.int cs.length.toInt32), .val (.int cs.length.toInt32), .val (.int cs.length.toInt32)] [])) target → Steps p.tables e below (T0.setTop (mkF m 3 #[.val (.ref a2), .val (.int i.toInt32), .val (.ref a3), .val (.int i.toInt32), .val (.int cs.length.toInt32), .val (.int i.toInt32)] [])) target := by
  intro k
  induction k with
  | zero =>
    intro i T0 h0 locs hi X0 e0 N0 O0 Va Vb
    obtain rfl : i = cs.length := by omega
    obtain ⟨T1, X1, e1, st⟩ := t_ife cs1 fv a2 a3 cs.length.toInt32 cs.length.toInt32 X0 hx hZ hw hby hml hown e0 O0 G (by rw [Int32.lt_iff_toInt_lt]; omega)
    exact ⟨T1, h0, locs, X1, e1, N0, O0, Keep.refl _ _, Vb, st⟩
  | succ k ih =>
    intro i T0 h0 locs hi X0 e0 N0 O0 Va Vb
    have hlt : i < cs.length := by omega
    obtain ⟨T1, h1, L1, X1, e1, N1, O1, K1, V2, V3, st1⟩ := t_if cs1 fv a2 a3 k2 k3 cs i X0 hx hZ hw hby hml hown e0 N0 O0 G Va Vb ga hne hlt hn hB hl
    rw [own_ts (by omega)] at st1
    obtain ⟨T', h', L', X', e', N', O', K', V', st'⟩ := ih (i + 1) T1 h1 L1 (by omega) X1 e1 N1 O1 V2 V3
    exact ⟨T', h', L', X', e', N', O', K1.trans K' (allS (Or.inl (List.mem_singleton.mpr rfl)) all0), V', fun target kt => st1 _ (st' _ kt)⟩

theorem d28_0 : decode jdk_43_method_49_code 0 = .ok (.iconst 0, 1) := by decide +kernel
theorem d28_1 : decode jdk_43_method_49_code 1 = .ok (.istore 5, 2) := by decide +kernel
theorem d28_33 : decode jdk_43_method_49_code 33 = .ok (.return_, 1) := by decide +kernel
theorem ef_28_21 (m : MethodId) (x0 : Addr) (x1 : Int32) (x2 : Addr) (x3 : Int32) (x4 : Int32) : entryFrame m #[(.ref x0), (.int x1), (.ref x2), (.int x3), (.int x4)] 6 = mkF m 0 #[.val (.ref x0), .val (.int x1), .val (.ref x2), .val (.int x3), .val (.int x4), .unset] [] := by first | (simp [entryFrame, mkF, argsToLocals, Value.category]; done) | rfl
theorem r_if (l : Launch) (Z : State) (a0 : Array Value) (hw : own_HW a0 Z) (ws : List Jvm.Cond) (cs1 : Int32) (fv : Value) (h0 : Heap) (n0 : Nat) (O0 : Old Z n0 h0) (G : own_Ctx Z Z.heap cs1 fv) (a2 a3 : Addr) (k2 k3 : ClassId) (cs : List Int32) (Va : Arv Z h0 a2 k2 .byte cs.length.toInt32 (cs.map (fun c => .int (nar .byte c.toInt8.toInt32))) (.int (0 : Int32))) (Vb : Arv Z h0 a3 k3 .char cs.length.toInt32 (List.replicate cs.length (.int (0 : Int32))) (.int (0 : Int32))) (ga : n0 ≤ a3) (hne : a2 ≠ a3) (hn : cs.length ≤ 4) (hB : own_Bd cs) (hl : own_Lat cs) :
    own_M l Y20_ (head1 (Jvm.Cond.code Y20_ jdk_43_method_49_code 6 none :: ws) (own_rm_ 0 0 0 0)) #[(.ref a2), (.int (0 : Int32)), (.ref a3), (.int (0 : Int32)), (.int cs.length.toInt32)] Z h0 n0 (own_QW Z none a3 k3 .char cs.length.toInt32 (cs.map Value.int)) (own_rm_ 0 0 0 0).cells (own_rm_ 0 0 0 0).slots := by
  have G0 := G
  obtain ⟨S_CS, N_CS, S_F, R_F, S_AD, S_HI, S_LO⟩ := G
  refine MetFree.of_bodySF (plainFor_of_name pn_3) hisR ?_
  intro p e s m args below meth c s₁ Bd hml0 hP hK
  obtain ⟨rfl, hZ, hh⟩ := hP
  have hx := Bd.exec
  have hby := Bd.bytes
  have hml : c.maxLocals = 6 := hml0
  have hown : s.vm.findClass "java/lang/StringLatin1" = some m.cls := findClass_of_methodNamed Bd.named
  have hnm := (name_of_methodNamed Bd.named Bd.method).1
  have X0 : Stand p l e (own_rm_ 0 0 0 0) s m #[(.ref a2), (.int (0 : Int32)), (.ref a3), (.int (0 : Int32)), (.int cs.length.toInt32)] below meth c s₁ [] 0 0 := Stand.of_body Bd
  have e0 : s₁.heap = h0 := by rw [← hh, Bd.state]; rfl
  have N0 := Fr.nil n0
  have pre0 := own_pre (tb := p.tables) (e := e) (below := below) (T := s₁) (ef_28_21 m a2 (0 : Int32) a3 (0 : Int32) cs.length.toInt32)
  have vb0 : Arv Z h0 a3 k3 .char cs.length.toInt32 (own_fill (fun c => nar .char c) cs 0) (.int (0 : Int32)) := by simpa [own_fill] using Vb
  obtain ⟨T9, h9, L9, X9, e9, N9, O9, K9, V9, st9⟩ := own_if cs1 fv a2 a3 k2 k3 cs hx hZ hw hby hml hown G0 ga hne hn hB hl cs.length 0 _ _ _ (Nat.zero_add _) X0 e0 N0 O0 Va vb0
  rw [own_fill_all, own_mapc hB] at V9
  subst e9
  obtain ⟨fs, hr, hrun, hended, hW, hsame⟩ := X9.leave (v := none) (fun _ => rfl)
  refine ⟨_, _, pre0 _ ?_, hrun, hended, _, _, rfl, ?_, ⟨_, rfl⟩, hW, hsame.mono (by decide) (by decide)⟩
  · show Steps p.tables e below (s₁.setTop (mkF m 0 #[.val (.ref a2), .val (.int (0 : Int32)), .val (.ref a3), .val (.int (0 : Int32)), .val (.int cs.length.toInt32), .unset] [])) _
    refine XS.iconst X0.here hx rfl (hb hby d28_0) ?_
    refine XS.istore X0.here hx rfl (hb hby d28_1) rfl (l' := #[.val (.ref a2), .val (.int (0 : Int32)), .val (.ref a3), .val (.int (0 : Int32)), .val (.int cs.length.toInt32), .val (.int (0 : Int32))]) rfl ?_
    show Steps p.tables e below (s₁.setTop (mkF m 3 #[.val (.ref a2), .val (.int (0 : Nat).toInt32), .val (.ref a3), .val (.int (0 : Nat).toInt32), .val (.int cs.length.toInt32), .val (.int (0 : Nat).toInt32)] [])) _
    refine st9 _ ?_
    show Steps p.tables e below (T9.setTop (mkF m 33 #[.val (.ref a2), .val (.int cs.length.toInt32), .val (.ref a3), .val (.int cs.length.toInt32), .val (.int cs.length.toInt32), .val (.int cs.length.toInt32)] [])) _
    exact X9.returnOut hx Bd.returns (hb hby d28_33) hr
  · exact ⟨rfl, N9, ((Keep.refl h0 [a3]).trans K9 (allS (Or.inl (List.mem_of_getElem? (i := 0) rfl)) all0)), V9⟩
theorem d27_0 : decode jdk_43_method_9_code 0 = .ok (.aload_n 0, 1) := by decide +kernel
theorem d27_1 : decode jdk_43_method_9_code 1 = .ok (.arraylength, 1) := by decide +kernel
theorem d27_2 : decode jdk_43_method_9_code 2 = .ok (.newarray .char, 2) := by decide +kernel
theorem d27_4 : decode jdk_43_method_9_code 4 = .ok (.astore_n 1, 1) := by decide +kernel
theorem d27_5 : decode jdk_43_method_9_code 5 = .ok (.aload_n 0, 1) := by decide +kernel
theorem d27_6 : decode jdk_43_method_9_code 6 = .ok (.iconst 0, 1) := by decide +kernel
theorem d27_7 : decode jdk_43_method_9_code 7 = .ok (.aload_n 1, 1) := by decide +kernel
theorem d27_8 : decode jdk_43_method_9_code 8 = .ok (.iconst 0, 1) := by decide +kernel
theorem d27_9 : decode jdk_43_method_9_code 9 = .ok (.aload_n 0, 1) := by decide +kernel
theorem d27_10 : decode jdk_43_method_9_code 10 = .ok (.arraylength, 1) := by decide +kernel
theorem d27_11 : decode jdk_43_method_9_code 11 = .ok (.invokestatic 13, 3) := by decide +kernel
theorem pd_14 : parseMethodDescriptor "([BI[CII)V" = some ⟨[(.array .byte), .int, (.array .char), .int, .int], none⟩ := by decide +kernel
theorem d27_14 : decode jdk_43_method_9_code 14 = .ok (.aload_n 1, 1) := by decide +kernel
theorem d27_15 : decode jdk_43_method_9_code 15 = .ok (.areturn, 1) := by decide +kernel
theorem ef_27_22 (m : MethodId) (x0 : Addr) : entryFrame m #[(.ref x0)] 2 = mkF m 0 #[.val (.ref x0), .unset] [] := by first | (simp [entryFrame, mkF, argsToLocals, Value.category]; done) | rfl
theorem r_tcL (l : Launch) (Z : State) (a0 : Array Value) (hw : own_HW a0 Z) (ws : List Jvm.Cond) (cs1 : Int32) (fv : Value) (h0 : Heap) (n0 : Nat) (O0 : Old Z n0 h0) (G : own_Ctx Z Z.heap cs1 fv) (a2 : Addr) (k2 : ClassId) (cs : List Int32) (Va : Arv Z h0 a2 k2 .byte cs.length.toInt32 (cs.map (fun c => .int (nar .byte c.toInt8.toInt32))) (.int (0 : Int32))) (hn : cs.length ≤ 4) (hB : own_Bd cs) (hl : own_Lat cs) :
    own_M l Y21_ (head1 (Jvm.Cond.code Y21_ jdk_43_method_9_code 2 (some (.array .char)) :: ws) (own_rm_ 1 1 4 17)) #[(.ref a2)] Z h0 n0 (own_QA Z .char cs.length.toInt32 (cs.map Value.int)) (own_rm_ 1 1 4 17).cells (own_rm_ 1 1 4 17).slots := by
  have G0 := G
  obtain ⟨S_CS, N_CS, S_F, R_F, S_AD, S_HI, S_LO⟩ := G
  refine MetFree.of_bodySF (plainFor_of_name pn_3) hisR ?_
  intro p e s m args below meth c s₁ Bd hml0 hP hK
  obtain ⟨rfl, hZ, hh⟩ := hP
  have hx := Bd.exec
  have hby := Bd.bytes
  have hml : c.maxLocals = 2 := hml0
  have hown : s.vm.findClass "java/lang/StringLatin1" = some m.cls := findClass_of_methodNamed Bd.named
  have hnm := (name_of_methodNamed Bd.named Bd.method).1
  have X0 : Stand p l e (own_rm_ 1 1 4 17) s m #[(.ref a2)] below meth c s₁ [] 0 0 := Stand.of_body Bd
  have e0 : s₁.heap = h0 := by rw [← hh, Bd.state]; rfl
  have N0 := Fr.nil n0
  have pre0 := own_pre (tb := p.tables) (e := e) (below := below) (T := s₁) (ef_27_22 m a2)
  have vc1 := Va
  obtain ⟨cl1, Ar1, qk1, S1, Nn1, Hs1, Gf1⟩ := vc1
  obtain ⟨T2, h2, ka2, X2, e2, E2, A2, st2⟩ := newP X0 hx hZ (own_w hw 0 rfl) e0 (g := (mkF m 2 #[.val (.ref a2), .unset] [(.int cs.length.toInt32)])) rfl (hb hby d27_2) rfl (own_ti (own_k hn)).2.1 (cap := 4) (own_cap hn) (by decide) (by decide) (by decide)
  obtain ⟨b2, g2⟩ : ∃ z, z = h0.size := ⟨_, rfl⟩
  have ne_a2_b2 : a2 ≠ b2 := Nat.ne_of_lt (Nat.lt_of_lt_of_le Va.lt (Nat.le_of_eq g2.symm))
  have g_b2 : n0 ≤ b2 := Nat.le_trans (O0.1 ▸ O0.2.1) (Nat.le_of_eq g2.symm)
  have sz_b2 : h0.size ≤ b2 := Nat.le_trans (Keep.refl h0 []).1 (Nat.le_of_eq g2.symm)
  rw [← g2] at A2 st2
  have f3 := Va.ext E2
  have O2 := O0.ext E2
  have K2 : Keep h0 h2 [] := (Keep.refl h0 []).ext E2
  have V2 : Arv Z h2 b2 ka2 .char cs.length.toInt32 (List.replicate cs.length (.int (0 : Int32))) (.int (0 : Int32)) := (Arv.new A2 (own_ti (own_k hn)).2.1).pad (pad_rep [] (.int (0 : Int32)) cs.length)
  have vc4 := f3
  obtain ⟨cl4, Ar4, qk4, S4, Nn4, Hs4, Gf4⟩ := vc4
  obtain ⟨_, _, ⟨T5, L5, k5, n5⟩, -, X5, ⟨Lc5, hQ5, l5, y5, z5⟩, st5⟩ := Jvm.LawKit.callS X2 hx (y := Y20_) hown (mvT hZ (own_w hw 118 rfl)) (mvT hZ (own_w hw 119 rfl)) (mvT hZ (own_w hw 60 rfl)) (mvT hZ (own_w hw 120 rfl)) (by decide) (backOf (W := 0) (r_if l Z a0 hw [] cs1 fv h2 n0 O2 G0 a2 b2 k2 ka2 cs f3 V2 g_b2 ne_a2_b2 hn hB hl) hZ (own_w hw 120 rfl) (own_w hw 60 rfl) (by decide) (by decide)) (g := (mkF m 11 #[.val (.ref a2), .val (.ref b2)] [(.int cs.length.toInt32), (.int (0 : Int32)), (.ref b2), (.int (0 : Int32)), (.ref a2)])) rfl (by rw [hml]; rfl) (argsL := [(.ref a2), (.int (0 : Int32)), (.ref b2), (.int (0 : Int32)), (.int cs.length.toInt32)]) (rest := []) (lenOf pd_14 rfl) rfl (by show 2 * 0 + _ ≤ _; exact Nat.le_of_eq rfl) (hb hby d27_11) (fun _ _ => ⟨rfl, e2, (by decide : 1 + 0 ≤ _), (by decide : 4 + 0 ≤ _)⟩)
  dsimp only [Pt.U, Pt.locs, Pt.cells, Pt.slots] at X5 l5 y5 z5 st5 hQ5
  subst l5 y5 z5
  obtain ⟨rfl, N5q, Kq5, Vb5⟩ := hQ5
  have N5 := Fr.app N0 N5q
  have f6 := f3.keep Kq5 (fun q => (List.mem_cons.mp q).elim ne_a2_b2 (fun q => nomatch q))
  have O5 := O2.keep Kq5 (allS g_b2 all0)
  have K5 : Keep h0 T5.heap [] := K2.trans Kq5 (allS (Or.inr sz_b2) all0)
  obtain ⟨fs, hr, hrun, hended, hW, hsame⟩ := X5.leave (v := some (.ref b2)) (fun h => by rw [Bd.returns] at h; cases h)
  refine ⟨_, _, pre0 _ ?_, hrun, hended, _, _, rfl, ?_, ⟨_, rfl⟩, hW, hsame.mono (by decide) (by decide)⟩
  · show Steps p.tables e below (s₁.setTop (mkF m 0 #[.val (.ref a2), .unset] [])) _
    refine XS.aloadN X0.here hx rfl (hb hby d27_0) rfl rfl ?_
    show Steps p.tables e below (s₁.setTop (mkF m 1 #[.val (.ref a2), .unset] [(.ref a2)])) _
    refine X0.arraylength hx (by rw [e0]; exact Ar1.1) (State.isArrayOf_alike hZ.alike Ar1.2.1) (g := (mkF m 1 #[.val (.ref a2), .unset] [(.ref a2)])) rfl rfl (hb hby d27_1) _ ?_
    rw [len_of S1 Nn1]
    show Steps p.tables e below (s₁.setTop (mkF m 2 #[.val (.ref a2), .unset] [(.int cs.length.toInt32)])) _
    refine st2 _ ?_
    show Steps p.tables e below (T2.setTop (mkF m 4 #[.val (.ref a2), .unset] [(.ref b2)])) _
    refine XS.astoreN X2.here hx rfl (hb hby d27_4) rfl rfl (l' := #[.val (.ref a2), .val (.ref b2)]) rfl ?_
    refine XS.aloadN X2.here hx rfl (hb hby d27_5) rfl rfl ?_
    refine XS.iconst X2.here hx rfl (hb hby d27_6) ?_
    refine XS.aloadN X2.here hx rfl (hb hby d27_7) rfl rfl ?_
    refine XS.iconst X2.here hx rfl (hb hby d27_8) ?_
    refine XS.aloadN X2.here hx rfl (hb hby d27_9) rfl rfl ?_
    show Steps p.tables e below (T2.setTop (mkF m 10 #[.val (.ref a2), .val (.ref b2)] [(.ref a2), (.int (0 : Int32)), (.ref b2), (.int (0 : Int32)), (.ref a2)])) _
    refine X2.arraylength hx (by rw [e2]; exact Ar4.1) (State.isArrayOf_alike hZ.alike Ar4.2.1) (g := (mkF m 10 #[.val (.ref a2), .val (.ref b2)] [(.ref a2), (.int (0 : Int32)), (.ref b2), (.int (0 : Int32)), (.ref a2)])) rfl rfl (hb hby d27_10) _ ?_
    rw [len_of S4 Nn4]
    show Steps p.tables e below (T2.setTop (mkF m 11 #[.val (.ref a2), .val (.ref b2)] [(.int cs.length.toInt32), (.int (0 : Int32)), (.ref b2), (.int (0 : Int32)), (.ref a2)])) _
    refine st5 _ ?_
    show Steps p.tables e below (T5.setTop (mkF m 14 #[.val (.ref a2), .val (.ref b2)] [])) _
    refine XS.aloadN X5.here hx rfl (hb hby d27_14) rfl rfl ?_
    show Steps p.tables e below (T5.setTop (mkF m 15 #[.val (.ref a2), .val (.ref b2)] [(.ref b2)])) _
    exact retOut X5 hx Bd.returns rfl (Or.inr (Or.inr (Or.inr (Or.inr ⟨rfl, rfl, rfl⟩)))) (hb hby d27_15) hr
  · exact ⟨b2, ka2, rfl, N5, K5, sz_b2, Vb5⟩
theorem d33_0 : decode jdk_41_method_13_code 0 = .ok (.iload_n 2, 1) := by decide +kernel
theorem d33_1 : decode jdk_41_method_13_code 1 = .ok (.iload_n 0, 1) := by decide +kernel
theorem d33_2 : decode jdk_41_method_13_code 2 = .ok (.ior, 1) := by decide +kernel
theorem d33_3 : decode jdk_41_method_13_code 3 = .ok (.iload_n 1, 1) := by decide +kernel
theorem d33_4 : decode jdk_41_method_13_code 4 = .ok (.ior, 1) := by decide +kernel
theorem d33_5 : decode jdk_41_method_13_code 5 = .ok (.ifCond .lt 10, 3) := by decide +kernel
theorem d33_8 : decode jdk_41_method_13_code 8 = .ok (.iload_n 1, 1) := by decide +kernel
theorem d33_9 : decode jdk_41_method_13_code 9 = .ok (.iload_n 2, 1) := by decide +kernel
theorem d33_10 : decode jdk_41_method_13_code 10 = .ok (.iload_n 0, 1) := by decide +kernel
theorem d33_11 : decode jdk_41_method_13_code 11 = .ok (.isub, 1) := by decide +kernel
theorem d33_12 : decode jdk_41_method_13_code 12 = .ok (.if_icmp .le 11, 3) := by decide +kernel
theorem d33_23 : decode jdk_41_method_13_code 23 = .ok (.iload_n 0, 1) := by decide +kernel
theorem d33_24 : decode jdk_41_method_13_code 24 = .ok (.ireturn, 1) := by decide +kernel
theorem ef_33_23 (m : MethodId) (x0 : Int32) (x1 : Int32) (x2 : Int32) : entryFrame m #[(.int x0), (.int x1), (.int x2), .null] 4 = mkF m 0 #[.val (.int x0), .val (.int x1), .val (.int x2), .val .null] [] := by first | (simp [entryFrame, mkF, argsToLocals, Value.category]; done) | rfl
theorem r_cfs0 (l : Launch) (Z : State) (a0 : Array Value) (hw : own_HW a0 Z) (ws : List Jvm.Cond) (cs1 : Int32) (fv : Value) (h0 : Heap) (n0 : Nat) (O0 : Old Z n0 h0) (G : own_Ctx Z Z.heap cs1 fv) (n : Nat) (hn : n ≤ 4) :
    own_M l Y22_ (head1 (Jvm.Cond.code Y22_ jdk_41_method_13_code 4 (some .int) :: ws) (own_rm_ 0 0 0 0)) #[(.int (0 : Int32)), (.int n.toInt32), (.int n.toInt32), .null] Z h0 n0 (own_Q (some (.int (0 : Int32)))) (own_rm_ 0 0 0 0).cells (own_rm_ 0 0 0 0).slots := by
  have G0 := G
  obtain ⟨S_CS, N_CS, S_F, R_F, S_AD, S_HI, S_LO⟩ := G
  refine MetFree.of_bodySF (plainFor_of_name pn_1) hisR ?_
  intro p e s m args below meth c s₁ Bd hml0 hP hK
  obtain ⟨rfl, hZ, hh⟩ := hP
  have hx := Bd.exec
  have hby := Bd.bytes
  have hml : c.maxLocals = 4 := hml0
  have hown : s.vm.findClass "jdk/internal/util/Preconditions" = some m.cls := findClass_of_methodNamed Bd.named
  have hnm := (name_of_methodNamed Bd.named Bd.method).1
  have X0 : Stand p l e (own_rm_ 0 0 0 0) s m #[(.int (0 : Int32)), (.int n.toInt32), (.int n.toInt32), .null] below meth c s₁ [] 0 0 := Stand.of_body Bd
  have e0 : s₁.heap = h0 := by rw [← hh, Bd.state]; rfl
  have N0 := Fr.nil n0
  have pre0 := own_pre (tb := p.tables) (e := e) (below := below) (T := s₁) (ef_33_23 m (0 : Int32) n.toInt32 n.toInt32)
  obtain ⟨fs, hr, hrun, hended, hW, hsame⟩ := X0.leave (v := some (.int (0 : Int32))) (fun h => by rw [Bd.returns] at h; cases h)
  refine ⟨_, _, pre0 _ ?_, hrun, hended, _, _, rfl, ?_, ⟨_, rfl⟩, hW, hsame.mono (by decide) (by decide)⟩
  · show Steps p.tables e below (s₁.setTop (mkF m 0 #[.val (.int (0 : Int32)), .val (.int n.toInt32), .val (.int n.toInt32), .val .null] [])) _
    refine XS.iloadN X0.here hx rfl (hb hby d33_0) rfl ?_
    refine XS.iloadN X0.here hx rfl (hb hby d33_1) rfl ?_
    show Steps p.tables e below (s₁.setTop (mkF m 2 #[.val (.int (0 : Int32)), .val (.int n.toInt32), .val (.int n.toInt32), .val .null] [(.int (0 : Int32)), (.int n.toInt32)])) _
    refine XS.ior X0.here hx rfl (hb hby d33_2) rfl ?_
    show Steps p.tables e below (s₁.setTop (mkF m 3 #[.val (.int (0 : Int32)), .val (.int n.toInt32), .val (.int n.toInt32), .val .null] [(.int (n.toInt32 ||| (0 : Int32)))])) _
    refine XS.iloadN X0.here hx rfl (hb hby d33_3) rfl ?_
    show Steps p.tables e below (s₁.setTop (mkF m 4 #[.val (.int (0 : Int32)), .val (.int n.toInt32), .val (.int n.toInt32), .val .null] [(.int n.toInt32), (.int (n.toInt32 ||| (0 : Int32)))])) _
    refine XS.ior X0.here hx rfl (hb hby d33_4) rfl ?_
    show Steps p.tables e below (s₁.setTop (mkF m 5 #[.val (.int (0 : Int32)), .val (.int n.toInt32), .val (.int n.toInt32), .val .null] [(.int ((n.toInt32 ||| (0 : Int32)) ||| n.toInt32))])) _
    refine XS.ifNo X0.here hx rfl (hb hby d33_5) rfl ((if0 _ _).trans (flt ((own_cfs hn).1 : ¬ (((n.toInt32 ||| (0 : Int32)) ||| n.toInt32) < (0 : Int32)))).1) ?_
    refine XS.iloadN X0.here hx rfl (hb hby d33_8) rfl ?_
    refine XS.iloadN X0.here hx rfl (hb hby d33_9) rfl ?_
    refine XS.iloadN X0.here hx rfl (hb hby d33_10) rfl ?_
    refine XS.isub X0.here hx rfl (hb hby d33_11) rfl ?_
    refine XS.icmpYes X0.here hx rfl (pc0 := 12) (pc' := 23) rfl (hb hby d33_12) rfl (flt ((own_cfs hn).2 : ¬ ((n.toInt32 - (0 : Int32)) < n.toInt32))).2.2.2 (by decide) (by decide) ?_
    refine XS.iloadN X0.here hx rfl (hb hby d33_23) rfl ?_
    show Steps p.tables e below (s₁.setTop (mkF m 24 #[.val (.int (0 : Int32)), .val (.int n.toInt32), .val (.int n.toInt32), .val .null] [(.int (0 : Int32))])) _
    exact retI X0 hx Bd.returns (hb hby d33_24) hr
  · show own_Q (some (.int (0 : Int32))) h0 n0 _ s₁.heap _
    rw [e0]
    exact ⟨rfl, N0, rfl⟩
theorem ef_33_24 (m : MethodId) (x0 : Int32) (x1 : Int32) (x2 : Int32) (x3 : Addr) : entryFrame m #[(.int x0), (.int x1), (.int x2), (.ref x3)] 4 = mkF m 0 #[.val (.int x0), .val (.int x1), .val (.int x2), .val (.ref x3)] [] := by first | (simp [entryFrame, mkF, argsToLocals, Value.category]; done) | rfl
theorem r_cfs1 (l : Launch) (Z : State) (a0 : Array Value) (hw : own_HW a0 Z) (ws : List Jvm.Cond) (cs1 : Int32) (fv : Value) (h0 : Heap) (n0 : Nat) (O0 : Old Z n0 h0) (G : own_Ctx Z Z.heap cs1 fv) (n : Nat) (fa : Addr) (hn : n ≤ 4) :
    own_M l Y22_ (head1 (Jvm.Cond.code Y22_ jdk_41_method_13_code 4 (some .int) :: ws) (own_rm_ 0 0 0 0)) #[(.int (0 : Int32)), (.int n.toInt32), (.int n.toInt32), (.ref fa)] Z h0 n0 (own_Q (some (.int (0 : Int32)))) (own_rm_ 0 0 0 0).cells (own_rm_ 0 0 0 0).slots := by
  have G0 := G
  obtain ⟨S_CS, N_CS, S_F, R_F, S_AD, S_HI, S_LO⟩ := G
  refine MetFree.of_bodySF (plainFor_of_name pn_1) hisR ?_
  intro p e s m args below meth c s₁ Bd hml0 hP hK
  obtain ⟨rfl, hZ, hh⟩ := hP
  have hx := Bd.exec
  have hby := Bd.bytes
  have hml : c.maxLocals = 4 := hml0
  have hown : s.vm.findClass "jdk/internal/util/Preconditions" = some m.cls := findClass_of_methodNamed Bd.named
  have hnm := (name_of_methodNamed Bd.named Bd.method).1
  have X0 : Stand p l e (own_rm_ 0 0 0 0) s m #[(.int (0 : Int32)), (.int n.toInt32), (.int n.toInt32), (.ref fa)] below meth c s₁ [] 0 0 := Stand.of_body Bd
  have e0 : s₁.heap = h0 := by rw [← hh, Bd.state]; rfl
  have N0 := Fr.nil n0
  have pre0 := own_pre (tb := p.tables) (e := e) (below := below) (T := s₁) (ef_33_24 m (0 : Int32) n.toInt32 n.toInt32 fa)
  obtain ⟨fs, hr, hrun, hended, hW, hsame⟩ := X0.leave (v := some (.int (0 : Int32))) (fun h => by rw [Bd.returns] at h; cases h)
  refine ⟨_, _, pre0 _ ?_, hrun, hended, _, _, rfl, ?_, ⟨_, rfl⟩, hW, hsame.mono (by decide) (by decide)⟩
  · show Steps p.tables e below (s₁.setTop (mkF m 0 #[.val (.int (0 : Int32)), .val (.int n.toInt32), .val (.int n.toInt32), .val (.ref fa)] [])) _
    refine XS.iloadN X0.here hx rfl (hb hby d33_0) rfl ?_
    refine XS.iloadN X0.here hx rfl (hb hby d33_1) rfl ?_
    show Steps p.tables e below (s₁.setTop (mkF m 2 #[.val (.int (0 : Int32)), .val (.int n.toInt32), .val (.int n.toInt32), .val (.ref fa)] [(.int (0 : Int32)), (.int n.toInt32)])) _
    refine XS.ior X0.here hx rfl (hb hby d33_2) rfl ?_
    show Steps p.tables e below (s₁.setTop (mkF m 3 #[.val (.int (0 : Int32)), .val (.int n.toInt32), .val (.int n.toInt32), .val (.ref fa)] [(.int (n.toInt32 ||| (0 : Int32)))])) _
    refine XS.iloadN X0.here hx rfl (hb hby d33_3) rfl ?_
    show Steps p.tables e below (s₁.setTop (mkF m 4 #[.val (.int (0 : Int32)), .val (.int n.toInt32), .val (.int n.toInt32), .val (.ref fa)] [(.int n.toInt32), (.int (n.toInt32 ||| (0 : Int32)))])) _
    refine XS.ior X0.here hx rfl (hb hby d33_4) rfl ?_
    show Steps p.tables e below (s₁.setTop (mkF m 5 #[.val (.int (0 : Int32)), .val (.int n.toInt32), .val (.int n.toInt32), .val (.ref fa)] [(.int ((n.toInt32 ||| (0 : Int32)) ||| n.toInt32))])) _
    refine XS.ifNo X0.here hx rfl (hb hby d33_5) rfl ((if0 _ _).trans (flt ((own_cfs hn).1 : ¬ (((n.toInt32 ||| (0 : Int32)) ||| n.toInt32) < (0 : Int32)))).1) ?_
    refine XS.iloadN X0.here hx rfl (hb hby d33_8) rfl ?_
    refine XS.iloadN X0.here hx rfl (hb hby d33_9) rfl ?_
    refine XS.iloadN X0.here hx rfl (hb hby d33_10) rfl ?_
    refine XS.isub X0.here hx rfl (hb hby d33_11) rfl ?_
    refine XS.icmpYes X0.here hx rfl (pc0 := 12) (pc' := 23) rfl (hb hby d33_12) rfl (flt ((own_cfs hn).2 : ¬ ((n.toInt32 - (0 : Int32)) < n.toInt32))).2.2.2 (by decide) (by decide) ?_
    refine XS.iloadN X0.here hx rfl (hb hby d33_23) rfl ?_
    show Steps p.tables e below (s₁.setTop (mkF m 24 #[.val (.int (0 : Int32)), .val (.int n.toInt32), .val (.int n.toInt32), .val (.ref fa)] [(.int (0 : Int32))])) _
    exact retI X0 hx Bd.returns (hb hby d33_24) hr
  · show own_Q (some (.int (0 : Int32))) h0 n0 _ s₁.heap _
    rw [e0]
    exact ⟨rfl, N0, rfl⟩
theorem r_cfs (l : Launch) (Z : State) (a0 : Array Value) (hw : own_HW a0 Z) (ws : List Jvm.Cond) (cs1 : Int32) (fv : Value) (h0 : Heap) (n0 : Nat) (O0 : Old Z n0 h0) (G : own_Ctx Z Z.heap cs1 fv) (n : Nat) (fv_ : Value) (hfv : fv_.isRef = true) (hn : n ≤ 4) :
    own_M l Y22_ (head1 (Jvm.Cond.code Y22_ jdk_41_method_13_code 4 (some .int) :: ws) (own_rm_ 0 0 0 0)) #[(.int (0 : Int32)), (.int n.toInt32), (.int n.toInt32), fv_] Z h0 n0 (own_Q (some (.int (0 : Int32)))) (own_rm_ 0 0 0 0).cells (own_rm_ 0 0 0 0).slots := by
  rcases ref_cases hfv with rfl | ⟨fa, rfl⟩
  · exact r_cfs0 l Z a0 hw ws cs1 fv h0 n0 O0 G n hn
  · exact r_cfs1 l Z a0 hw ws cs1 fv h0 n0 O0 G n fa hn
theorem d32_0 : decode jdk_42_method_157_code 0 = .ok (.iload_n 0, 1) := by decide +kernel
theorem d32_1 : decode jdk_42_method_157_code 1 = .ok (.iload_n 1, 1) := by decide +kernel
theorem d32_2 : decode jdk_42_method_157_code 2 = .ok (.iload_n 2, 1) := by decide +kernel
theorem d32_3 : decode jdk_42_method_157_code 3 = .ok (.getstatic 1053, 3) := by decide +kernel
theorem d32_6 : decode jdk_42_method_157_code 6 = .ok (.invokestatic 1065, 3) := by decide +kernel
theorem pd_15 : parseMethodDescriptor "(IIILjava/util/function/BiFunction;)I" = some ⟨[.int, .int, .int, (.object "java/util/function/BiFunction")], some .int⟩ := by decide +kernel
theorem d32_9 : decode jdk_42_method_157_code 9 = .ok (.ireturn, 1) := by decide +kernel
theorem ef_32_25 (m : MethodId) (x0 : Int32) (x1 : Int32) (x2 : Int32) : entryFrame m #[(.int x0), (.int x1), (.int x2)] 3 = mkF m 0 #[.val (.int x0), .val (.int x1), .val (.int x2)] [] := by first | (simp [entryFrame, mkF, argsToLocals, Value.category]; done) | rfl
theorem r_cbs (l : Launch) (Z : State) (a0 : Array Value) (hw : own_HW a0 Z) (ws : List Jvm.Cond) (cs1 : Int32) (fv : Value) (h0 : Heap) (n0 : Nat) (O0 : Old Z n0 h0) (G : own_Ctx Z Z.heap cs1 fv) (n : Nat) (hn : n ≤ 4) :
    own_M l Y23_ (head1 (Jvm.Cond.code Y23_ jdk_42_method_157_code 3 (some .int) :: ws) (own_rm_ 1 0 0 15)) #[(.int (0 : Int32)), (.int n.toInt32), (.int n.toInt32)] Z h0 n0 (own_Q (some (.int (0 : Int32)))) (own_rm_ 1 0 0 15).cells (own_rm_ 1 0 0 15).slots := by
  have G0 := G
  obtain ⟨S_CS, N_CS, S_F, R_F, S_AD, S_HI, S_LO⟩ := G
  refine MetFree.of_bodySF (plainFor_of_name pn_2) hisR ?_
  intro p e s m args below meth c s₁ Bd hml0 hP hK
  obtain ⟨rfl, hZ, hh⟩ := hP
  have hx := Bd.exec
  have hby := Bd.bytes
  have hml : c.maxLocals = 3 := hml0
  have hown : s.vm.findClass "java/lang/String" = some m.cls := findClass_of_methodNamed Bd.named
  have hnm := (name_of_methodNamed Bd.named Bd.method).1
  have X0 : Stand p l e (own_rm_ 1 0 0 15) s m #[(.int (0 : Int32)), (.int n.toInt32), (.int n.toInt32)] below meth c s₁ [] 0 0 := Stand.of_body Bd
  have e0 : s₁.heap = h0 := by rw [← hh, Bd.state]; rfl
  have N0 := Fr.nil n0
  have pre0 := own_pre (tb := p.tables) (e := e) (below := below) (T := s₁) (ef_32_25 m (0 : Int32) n.toInt32 n.toInt32)
  obtain ⟨T1, X1, e1, st1⟩ := getS2 X0 hx hZ hown (host := "") (Or.inl (own_w hw 65 rfl)) Via.refl e0 (S_F.ext O0.2) (g := (mkF m 3 #[.val (.int (0 : Int32)), .val (.int n.toInt32), .val (.int n.toInt32)] [(.int n.toInt32), (.int n.toInt32), (.int (0 : Int32))])) rfl (hb hby d32_3)
  obtain ⟨_, _, ⟨T2, L2, k2, n2⟩, -, X2, ⟨Lc2, hQ2, l2, y2, z2⟩, st2⟩ := Jvm.LawKit.callS X1 hx (y := Y22_) hown (mvT hZ (own_w hw 135 rfl)) (mvT hZ (own_w hw 136 rfl)) (mvT hZ (own_w hw 66 rfl)) (mvT hZ (own_w hw 137 rfl)) (by decide) (backOf (W := 0) (r_cfs l Z a0 hw [] cs1 fv h0 n0 O0 G0 n fv R_F hn) hZ (own_w hw 137 rfl) (own_w hw 66 rfl) (by decide) (by decide)) (g := (mkF m 6 #[.val (.int (0 : Int32)), .val (.int n.toInt32), .val (.int n.toInt32)] [fv, (.int n.toInt32), (.int n.toInt32), (.int (0 : Int32))])) rfl (by rw [hml]; rfl) (argsL := [(.int (0 : Int32)), (.int n.toInt32), (.int n.toInt32), fv]) (rest := []) (lenOf pd_15 rfl) rfl (by show 2 * 0 + _ ≤ _; exact Nat.le_of_eq rfl) (hb hby d32_6) (fun _ _ => ⟨rfl, e1, (by decide : 0 + 0 ≤ _), (by decide : 0 + 0 ≤ _)⟩)
  dsimp only [Pt.U, Pt.locs, Pt.cells, Pt.slots] at X2 l2 y2 z2 st2 hQ2
  subst l2 y2 z2
  obtain ⟨rfl, N2q, e2⟩ := hQ2
  have N2 := Fr.app N0 N2q
  obtain ⟨fs, hr, hrun, hended, hW, hsame⟩ := X2.leave (v := some (.int (0 : Int32))) (fun h => by rw [Bd.returns] at h; cases h)
  refine ⟨_, _, pre0 _ ?_, hrun, hended, _, _, rfl, ?_, ⟨_, rfl⟩, hW, hsame.mono (by decide) (by decide)⟩
  · show Steps p.tables e below (s₁.setTop (mkF m 0 #[.val (.int (0 : Int32)), .val (.int n.toInt32), .val (.int n.toInt32)] [])) _
    refine XS.iloadN X0.here hx rfl (hb hby d32_0) rfl ?_
    refine XS.iloadN X0.here hx rfl (hb hby d32_1) rfl ?_
    refine XS.iloadN X0.here hx rfl (hb hby d32_2) rfl ?_
    show Steps p.tables e below (s₁.setTop (mkF m 3 #[.val (.int (0 : Int32)), .val (.int n.toInt32), .val (.int n.toInt32)] [(.int n.toInt32), (.int n.toInt32), (.int (0 : Int32))])) _
    refine st1 _ ?_
    show Steps p.tables e below (T1.setTop (mkF m 6 #[.val (.int (0 : Int32)), .val (.int n.toInt32), .val (.int n.toInt32)] [fv, (.int n.toInt32), (.int n.toInt32), (.int (0 : Int32))])) _
    refine st2 _ ?_
    show Steps p.tables e below (T2.setTop (mkF m 9 #[.val (.int (0 : Int32)), .val (.int n.toInt32), .val (.int n.toInt32)] [(.int (0 : Int32))])) _
    exact retI X2 hx Bd.returns (hb hby d32_9) hr
  · show own_Q (some (.int (0 : Int32))) h0 n0 _ T2.heap _
    rw [e2]
    exact ⟨rfl, N2, rfl⟩
theorem d31_0 : decode jdk_52_method_94_code 0 = .ok (.iload_n 0, 1) := by decide +kernel
theorem d31_1 : decode jdk_52_method_94_code 1 = .ok (.iload_n 1, 1) := by decide +kernel
theorem d31_2 : decode jdk_52_method_94_code 2 = .ok (.aload_n 2, 1) := by decide +kernel
theorem d31_3 : decode jdk_52_method_94_code 3 = .ok (.invokestatic 48, 3) := by decide +kernel
theorem d31_6 : decode jdk_52_method_94_code 6 = .ok (.invokestatic 419, 3) := by decide +kernel
theorem pd_16 : parseMethodDescriptor "(III)I" = some ⟨[.int, .int, .int], some .int⟩ := by decide +kernel
theorem d31_9 : decode jdk_52_method_94_code 9 = .ok (.pop, 1) := by decide +kernel
theorem d31_10 : decode jdk_52_method_94_code 10 = .ok (.return_, 1) := by decide +kernel
theorem ef_31_26 (m : MethodId) (x0 : Int32) (x1 : Int32) (x2 : Addr) : entryFrame m #[(.int x0), (.int x1), (.ref x2)] 3 = mkF m 0 #[.val (.int x0), .val (.int x1), .val (.ref x2)] [] := by first | (simp [entryFrame, mkF, argsToLocals, Value.category]; done) | rfl
theorem r_cbu (l : Launch) (Z : State) (a0 : Array Value) (hw : own_HW a0 Z) (ws : List Jvm.Cond) (cs1 : Int32) (fv : Value) (h0 : Heap) (n0 : Nat) (O0 : Old Z n0 h0) (G : own_Ctx Z Z.heap cs1 fv) (a2 : Addr) (k2 : ClassId) (cs : List Int32) (Va : Arv Z h0 a2 k2 .byte (2 * cs.length).toInt32 (cs.flatMap own_two) (.int (0 : Int32))) (hn : cs.length ≤ 4) :
    own_M l Y24_ (head1 (Jvm.Cond.code Y24_ jdk_52_method_94_code 3 none :: ws) (own_rm_ 2 0 0 29)) #[(.int (0 : Int32)), (.int cs.length.toInt32), (.ref a2)] Z h0 n0 (own_Q (none)) (own_rm_ 2 0 0 29).cells (own_rm_ 2 0 0 29).slots := by
  have G0 := G
  obtain ⟨S_CS, N_CS, S_F, R_F, S_AD, S_HI, S_LO⟩ := G
  refine MetFree.of_bodySF (plainFor_of_name pn_0) hisR ?_
  intro p e s m args below meth c s₁ Bd hml0 hP hK
  obtain ⟨rfl, hZ, hh⟩ := hP
  have hx := Bd.exec
  have hby := Bd.bytes
  have hml : c.maxLocals = 3 := hml0
  have hown : s.vm.findClass "java/lang/StringUTF16" = some m.cls := findClass_of_methodNamed Bd.named
  have hnm := (name_of_methodNamed Bd.named Bd.method).1
  have X0 : Stand p l e (own_rm_ 2 0 0 29) s m #[(.int (0 : Int32)), (.int cs.length.toInt32), (.ref a2)] below meth c s₁ [] 0 0 := Stand.of_body Bd
  have e0 : s₁.heap = h0 := by rw [← hh, Bd.state]; rfl
  have N0 := Fr.nil n0
  have pre0 := own_pre (tb := p.tables) (e := e) (below := below) (T := s₁) (ef_31_26 m (0 : Int32) cs.length.toInt32 a2)
  obtain ⟨_, _, ⟨T1, L1, k1, n1⟩, -, X1, ⟨Lc1, hQ1, l1, y1, z1⟩, st1⟩ := Jvm.LawKit.callS X0 hx (y := Y8_) hown (mvT hZ (own_w hw 106 rfl)) (mvT hZ (own_w hw 107 rfl)) (mvT hZ (own_w hw 40 rfl)) (mvT hZ (own_w hw 108 rfl)) (by decide) (backOf (W := 2) (r_ul l Z a0 hw [] cs1 fv h0 n0 O0 G0 a2 k2 cs.length (cs.flatMap own_two) Va hn) hZ (own_w hw 108 rfl) (own_w hw 40 rfl) (by decide) (by decide)) (g := (mkF m 3 #[.val (.int (0 : Int32)), .val (.int cs.length.toInt32), .val (.ref a2)] [(.ref a2), (.int cs.length.toInt32), (.int (0 : Int32))])) rfl (by rw [hml]; rfl) (argsL := [(.ref a2)]) (rest := [(.int cs.length.toInt32), (.int (0 : Int32))]) (lenOf pd_4 rfl) rfl (by show 2 * 0 + _ ≤ _; exact Nat.le_of_eq rfl) (hb hby d31_3) (fun _ _ => ⟨rfl, e0, (by decide : 0 + 0 ≤ _), (by decide : 0 + 0 ≤ _)⟩)
  dsimp only [Pt.U, Pt.locs, Pt.cells, Pt.slots] at X1 l1 y1 z1 st1 hQ1
  subst l1 y1 z1
  obtain ⟨rfl, N1q, e1⟩ := hQ1
  have N1 := Fr.app N0 N1q
  obtain ⟨_, _, ⟨T2, L2, k2, n2⟩, -, X2, ⟨Lc2, hQ2, l2, y2, z2⟩, st2⟩ := Jvm.LawKit.callS X1 hx (y := Y23_) hown (mvT hZ (own_w hw 132 rfl)) (mvT hZ (own_w hw 133 rfl)) (mvT hZ (own_w hw 3 rfl)) (mvT hZ (own_w hw 134 rfl)) (by decide) (backOf (W := 0) (r_cbs l Z a0 hw [] cs1 fv h0 n0 O0 G0 cs.length hn) hZ (own_w hw 134 rfl) (own_w hw 3 rfl) (by decide) (by decide)) (g := (mkF m 6 #[.val (.int (0 : Int32)), .val (.int cs.length.toInt32), .val (.ref a2)] [(.int cs.length.toInt32), (.int cs.length.toInt32), (.int (0 : Int32))])) rfl (by rw [hml]; rfl) (argsL := [(.int (0 : Int32)), (.int cs.length.toInt32), (.int cs.length.toInt32)]) (rest := []) (lenOf pd_16 rfl) rfl (by show 2 * 0 + _ ≤ _; exact Nat.le_of_eq rfl) (hb hby d31_6) (fun _ _ => ⟨rfl, e1, (by decide : 0 + 0 ≤ _), (by decide : 0 + 0 ≤ _)⟩)
  dsimp only [Pt.U, Pt.locs, Pt.cells, Pt.slots] at X2 l2 y2 z2 st2 hQ2
  subst l2 y2 z2
  obtain ⟨rfl, N2q, e2⟩ := hQ2
  have N2 := Fr.app N1 N2q
  obtain ⟨fs, hr, hrun, hended, hW, hsame⟩ := X2.leave (v := none) (fun _ => rfl)
  refine ⟨_, _, pre0 _ ?_, hrun, hended, _, _, rfl, ?_, ⟨_, rfl⟩, hW, hsame.mono (by decide) (by decide)⟩
  · show Steps p.tables e below (s₁.setTop (mkF m 0 #[.val (.int (0 : Int32)), .val (.int cs.length.toInt32), .val (.ref a2)] [])) _
    refine XS.iloadN X0.here hx rfl (hb hby d31_0) rfl ?_
    refine XS.iloadN X0.here hx rfl (hb hby d31_1) rfl ?_
    refine XS.aloadN X0.here hx rfl (hb hby d31_2) rfl rfl ?_
    show Steps p.tables e below (s₁.setTop (mkF m 3 #[.val (.int (0 : Int32)), .val (.int cs.length.toInt32), .val (.ref a2)] [(.ref a2), (.int cs.length.toInt32), (.int (0 : Int32))])) _
    refine st1 _ ?_
    show Steps p.tables e below (T1.setTop (mkF m 6 #[.val (.int (0 : Int32)), .val (.int cs.length.toInt32), .val (.ref a2)] [(.int cs.length.toInt32), (.int cs.length.toInt32), (.int (0 : Int32))])) _
    refine st2 _ ?_
    show Steps p.tables e below (T2.setTop (mkF m 9 #[.val (.int (0 : Int32)), .val (.int cs.length.toInt32), .val (.ref a2)] [(.int (0 : Int32))])) _
    refine XS.pop X2.here hx rfl (hb hby d31_9) rfl rfl ?_
    show Steps p.tables e below (T2.setTop (mkF m 10 #[.val (.int (0 : Int32)), .val (.int cs.length.toInt32), .val (.ref a2)] [])) _
    exact X2.returnOut hx Bd.returns (hb hby d31_10) hr
  · show own_Q (none) h0 n0 _ T2.heap _
    rw [e2]
    exact ⟨rfl, N2, rfl⟩
theorem d30_16 : decode jdk_52_method_26_code 16 = .ok (.iload 5, 2) := by decide +kernel
theorem d30_18 : decode jdk_52_method_26_code 18 = .ok (.iload_n 2, 1) := by decide +kernel
theorem d30_19 : decode jdk_52_method_26_code 19 = .ok (.if_icmp .ge 22, 3) := by decide +kernel
theorem d30_22 : decode jdk_52_method_26_code 22 = .ok (.aload_n 3, 1) := by decide +kernel
theorem d30_23 : decode jdk_52_method_26_code 23 = .ok (.iload 4, 2) := by decide +kernel
theorem d30_25 : decode jdk_52_method_26_code 25 = .ok (.iinc 4 1, 3) := by decide +kernel
theorem d30_28 : decode jdk_52_method_26_code 28 = .ok (.aload_n 0, 1) := by decide +kernel
theorem d30_29 : decode jdk_52_method_26_code 29 = .ok (.iload 5, 2) := by decide +kernel
theorem d30_31 : decode jdk_52_method_26_code 31 = .ok (.invokestatic 71, 3) := by decide +kernel
theorem d30_34 : decode jdk_52_method_26_code 34 = .ok (.castore, 1) := by decide +kernel
theorem d30_35 : decode jdk_52_method_26_code 35 = .ok (.iinc 5 1, 3) := by decide +kernel
theorem d30_38 : decode jdk_52_method_26_code 38 = .ok (.goto (-22), 3) := by decide +kernel
theorem t_gs {p : Program} {l : Launch} {e : Env} {s : State} {m : MethodId} {args : Array Value} {below : List Frame} {meth : Method} {c : Code} {T0 : State} {locs : List Loc} {Z : State} {a0 : Array Value} {h0 : Heap} {n0 : Nat} (cs1 : Int32) (fv : Value) (a2 a3 : Addr) (k2 k3 : ClassId) (cs : List Int32) (i : Nat)
    (X0 : Stand p l e (own_rm_ 3 0 0 43) s m args below meth c T0 locs 0 0) (hx : p.tables.exec = Jvm.exec) (hZ : Z.Warmed39 s.vm) (hw : own_HW a0 Z) (hby : c.code = jdk_52_method_26_code) (hml : c.maxLocals = 6) (hown : s.vm.findClass "java/lang/StringUTF16" = some m.cls) (e0 : T0.heap = h0) (N0 : Fr n0 locs) (O0 : Old Z n0 h0) (G : own_Ctx Z Z.heap cs1 fv) (Va : Arv Z h0 a2 k2 .byte (2 * cs.length).toInt32 (cs.flatMap own_two) (.int (0 : Int32))) (Vb : Arv Z h0 a3 k3 .char cs.length.toInt32 (own_fill (fun c => nar .char c) cs i) (.int (0 : Int32))) (ga : n0 ≤ a3) (hne : a2 ≠ a3) (hi : i < cs.length) (hn : cs.length ≤ 4) (hB : own_Bd cs) :
    ∃ (T' : State) (h' : Heap) (L' : List Loc), Stand p l e (own_rm_ 3 0 0 43) s m args below meth c T' L' 0 0 ∧ T'.heap = h' ∧ Fr n0 L' ∧ Old Z n0 h' ∧ Keep h0 h' [a3] ∧ (Arv Z h' a2 k2 .byte (2 * cs.length).toInt32 (cs.flatMap own_two) (.int (0 : Int32))) ∧ (Arv Z h' a3 k3 .char cs.length.toInt32 (own_fill (fun c => nar .char c) cs (i + 1)) (.int (0 : Int32))) ∧ ∀ target, Steps p.tables e below (T'.setTop (mkF m 16 #[.val (.ref a2), .val (.int (0 : Int32)), .val (.int cs.length.toInt32), .val (.ref a3), .val (.int (i.toInt32 + (1 : Int32))), .val (.int (i.toInt32 + (1 : Int32)))] [])) target → Steps p.tables e below (T0.setTop (mkF m 16 #[.val (.ref a2), .val (.int (0 : Int32)), .val (.int cs.length.toInt32), .val (.ref a3), .val (.int i.toInt32), .val (.int i.toInt32)] [])) target := by
  have G0 := G
  obtain ⟨S_CS, N_CS, S_F, R_F, S_AD, S_HI, S_LO⟩ := G
  obtain ⟨_, _, ⟨T1, L1, k1, n1⟩, -, X1, ⟨Lc1, hQ1, l1, y1, z1⟩, st1⟩ := Jvm.LawKit.callS X0 hx (y := Y7_) hown (mvT hZ (own_w hw 97 rfl)) (mvT hZ (own_w hw 98 rfl)) (mvT hZ (own_w hw 40 rfl)) (mvT hZ (own_w hw 99 rfl)) (by decide) (backOf (W := 2) (r_gc l Z a0 hw [] cs1 fv h0 n0 O0 G0 a2 k2 cs i Va hi hn (hB i hi).1 (hB i hi).2) hZ (own_w hw 99 rfl) (own_w hw 40 rfl) (by decide) (by decide)) (g := (mkF m 31 #[.val (.ref a2), .val (.int (0 : Int32)), .val (.int cs.length.toInt32), .val (.ref a3), .val (.int (i.toInt32 + (1 : Int32))), .val (.int i.toInt32)] [(.int i.toInt32), (.ref a2), (.int i.toInt32), (.ref a3)])) rfl (by rw [hml]; rfl) (argsL := [(.ref a2), (.int i.toInt32)]) (rest := [(.int i.toInt32), (.ref a3)]) (lenOf pd_7 rfl) rfl (by show 2 * 0 + _ ≤ _; exact Nat.le_of_eq rfl) (hb hby d30_31) (fun _ _ => ⟨rfl, e0, (by decide : 0 + 0 ≤ _), (by decide : 0 + 0 ≤ _)⟩)
  dsimp only [Pt.U, Pt.locs, Pt.cells, Pt.slots] at X1 l1 y1 z1 st1 hQ1
  subst l1 y1 z1
  obtain ⟨rfl, N1q, e1⟩ := hQ1
  have N1 := Fr.app N0 N1q
  have vc2 := Vb
  obtain ⟨cl2, Ar2, qk2, S2, Nn2, Hs2, Gf2⟩ := vc2
  have hin2 : ¬ (i.toInt32 < 0 ∨ cl2.slots.size ≤ (i.toInt32).toNatClampNeg) := inb_of S2 ⟨(own_ti (own_ki hi hn)).2.1, own_tl hi (own_k hn)⟩
  obtain ⟨T3, h3, X3, e3, W3, st3⟩ := stC X1 hx hZ e1 Ar2 (j := i.toInt32) hin2 (g := (mkF m 34 #[.val (.ref a2), .val (.int (0 : Int32)), .val (.int cs.length.toInt32), .val (.ref a3), .val (.int (i.toInt32 + (1 : Int32))), .val (.int i.toInt32)] [(.int cs[i]), (.int i.toInt32), (.ref a3)])) rfl rfl (hb hby d30_34)
  have f4 := Va.other W3 hne
  have O3 := O0.wr W3 ga
  have K3 : Keep h0 h3 [a3] := (Keep.refl h0 [a3]).wr W3 (Or.inl (List.mem_of_getElem? (i := 0) rfl))
  have N3 := Fr.snoc X3 N1 ga
  have f5 : Arv Z h3 a3 k3 .char cs.length.toInt32 (List.set (own_fill (fun c => nar .char c) cs i) (i.toInt32).toNatClampNeg (.int (nar .char cs[i]))) (.int (0 : Int32)) := Arv.set Ar2 qk2 S2 Nn2 Hs2 Gf2 (fits_nar_char _) W3 (i.toInt32).toNatClampNeg rfl (by rw [(own_ti (own_ki hi hn)).1, own_fill_len _ cs (Nat.le_of_lt hi)]; exact hi)
  refine ⟨T3, h3, _, X3, e3, N3, O3, K3, f4, (by have q := f5; rw [(own_ti (own_ki hi hn)).1, own_fillc cs hi] at q; exact q), fun target kt => ?_⟩
  show Steps p.tables e below (T0.setTop (mkF m 16 #[.val (.ref a2), .val (.int (0 : Int32)), .val (.int cs.length.toInt32), .val (.ref a3), .val (.int i.toInt32), .val (.int i.toInt32)] [])) _
  refine XS.iload X0.here hx rfl (hb hby d30_16) rfl ?_
  refine XS.iloadN X0.here hx rfl (hb hby d30_18) rfl ?_
  refine XS.icmpNo X0.here hx rfl (hb hby d30_19) rfl (tlt ((own_tl hi (own_k hn)) : i.toInt32 < cs.length.toInt32)).2.1 ?_
  refine XS.aloadN X0.here hx rfl (hb hby d30_22) rfl rfl ?_
  refine XS.iload X0.here hx rfl (hb hby d30_23) rfl ?_
  show Steps p.tables e below (T0.setTop (mkF m 25 #[.val (.ref a2), .val (.int (0 : Int32)), .val (.int cs.length.toInt32), .val (.ref a3), .val (.int i.toInt32), .val (.int i.toInt32)] [(.int i.toInt32), (.ref a3)])) _
  refine XS.iinc X0.here hx rfl (hb hby d30_25) rfl (l' := #[.val (.ref a2), .val (.int (0 : Int32)), .val (.int cs.length.toInt32), .val (.ref a3), .val (.int (i.toInt32 + (1 : Int32))), .val (.int i.toInt32)]) rfl ?_
  show Steps p.tables e below (T0.setTop (mkF m 28 #[.val (.ref a2), .val (.int (0 : Int32)), .val (.int cs.length.toInt32), .val (.ref a3), .val (.int (i.toInt32 + (1 : Int32))), .val (.int i.toInt32)] [(.int i.toInt32), (.ref a3)])) _
  refine XS.aloadN X0.here hx rfl (hb hby d30_28) rfl rfl ?_
  refine XS.iload X0.here hx rfl (hb hby d30_29) rfl ?_
  show Steps p.tables e below (T0.setTop (mkF m 31 #[.val (.ref a2), .val (.int (0 : Int32)), .val (.int cs.length.toInt32), .val (.ref a3), .val (.int (i.toInt32 + (1 : Int32))), .val (.int i.toInt32)] [(.int i.toInt32), (.ref a2), (.int i.toInt32), (.ref a3)])) _
  refine st1 _ ?_
  show Steps p.tables e below (T1.setTop (mkF m 34 #[.val (.ref a2), .val (.int (0 : Int32)), .val (.int cs.length.toInt32), .val (.ref a3), .val (.int (i.toInt32 + (1 : Int32))), .val (.int i.toInt32)] [(.int cs[i]), (.int i.toInt32), (.ref a3)])) _
  refine st3 _ ?_
  show Steps p.tables e below (T3.setTop (mkF m 35 #[.val (.ref a2), .val (.int (0 : Int32)), .val (.int cs.length.toInt32), .val (.ref a3), .val (.int (i.toInt32 + (1 : Int32))), .val (.int i.toInt32)] [])) _
  refine XS.iinc X3.here hx rfl (hb hby d30_35) rfl (l' := #[.val (.ref a2), .val (.int (0 : Int32)), .val (.int cs.length.toInt32), .val (.ref a3), .val (.int (i.toInt32 + (1 : Int32))), .val (.int (i.toInt32 + (1 : Int32)))]) rfl ?_
  show Steps p.tables e below (T3.setTop (mkF m 38 #[.val (.ref a2), .val (.int (0 : Int32)), .val (.int cs.length.toInt32), .val (.ref a3), .val (.int (i.toInt32 + (1 : Int32))), .val (.int (i.toInt32 + (1 : Int32)))] [])) _
  refine XS.goto X3.here hx rfl (pc0 := 38) (pc' := 16) rfl (hb hby d30_38) (by decide) (by decide) ?_
  exact kt
theorem t_gse {p : Program} {l : Launch} {e : Env} {R : Room} {s : State} {m : MethodId} {args : Array Value} {below : List Frame} {meth : Method} {c : Code} {T0 : State} {locs : List Loc} {cells slots : Nat} {Z : State} {a0 : Array Value} {h0 : Heap} {n0 : Nat} (cs1 : Int32) (fv : Value) (a2 a3 : Addr) (i1 z1 : Int32)
    (X0 : Stand p l e R s m args below meth c T0 locs cells slots) (hx : p.tables.exec = Jvm.exec) (hZ : Z.Warmed39 s.vm) (hw : own_HW a0 Z) (hby : c.code = jdk_52_method_26_code) (hml : c.maxLocals = 6) (hown : s.vm.findClass "java/lang/StringUTF16" = some m.cls) (e0 : T0.heap = h0) (O0 : Old Z n0 h0) (G : own_Ctx Z Z.heap cs1 fv) (hi2 : ¬ (i1 < z1)) :
    ∃ T' : State, Stand p l e R s m args below meth c T' locs cells slots ∧ T'.heap = h0 ∧ ∀ target, Steps p.tables e below (T'.setTop (mkF m 41 #[.val (.ref a2), .val (.int (0 : Int32)), .val (.int z1), .val (.ref a3), .val (.int i1), .val (.int i1)] [])) target → Steps p.tables e below (T0.setTop (mkF m 16 #[.val (.ref a2), .val (.int (0 : Int32)), .val (.int z1), .val (.ref a3), .val (.int i1), .val (.int i1)] [])) target := by
  have G0 := G
  obtain ⟨S_CS, N_CS, S_F, R_F, S_AD, S_HI, S_LO⟩ := G
  refine ⟨T0, X0, e0, fun target kt => ?_⟩
  show Steps p.tables e below (T0.setTop (mkF m 16 #[.val (.ref a2), .val (.int (0 : Int32)), .val (.int z1), .val (.ref a3), .val (.int i1), .val (.int i1)] [])) _
  refine XS.iload X0.here hx rfl (hb hby d30_16) rfl ?_
  refine XS.iloadN X0.here hx rfl (hb hby d30_18) rfl ?_
  refine XS.icmpYes X0.here hx rfl (pc0 := 19) (pc' := 41) rfl (hb hby d30_19) rfl (flt (hi2 : ¬ (i1 < z1))).2.1 (by decide) (by decide) ?_
  exact kt
theorem own_gs {p : Program} {l : Launch} {e : Env} {s : State} {m : MethodId} {args : Array Value} {below : List Frame} {meth : Method} {c : Code} {Z : State} {a0 : Array Value} {n0 : Nat} (cs1 : Int32) (fv : Value) (a2 a3 : Addr) (k2 k3 : ClassId) (cs : List Int32)
    (hx : p.tables.exec = Jvm.exec) (hZ : Z.Warmed39 s.vm) (hw : own_HW a0 Z) (hby : c.code = jdk_52_method_26_code) (hml : c.maxLocals = 6) (hown : s.vm.findClass "java/lang/StringUTF16" = some m.cls) (G : own_Ctx Z Z.heap cs1 fv) (ga : n0 ≤ a3) (hne : a2 ≠ a3) (hn : cs.length ≤ 4) (hB : own_Bd cs) :
    ∀ (k i : Nat) (T0 : State) (h0 : Heap) (locs : List Loc), i + k = cs.length → Stand p l e (own_rm_ 3 0 0 43) s m args below meth c T0 locs 0 0 → T0.heap = h0 → Fr n0 locs → Old Z n0 h0 → Arv Z h0 a2 k2 .byte (2 * cs.length).toInt32 (cs.flatMap own_two) (.int (0 : Int32)) → Arv Z h0 a3 k3 .char cs.length.toInt32 (own_fill (fun c => nar .char c) cs i) (.int (0 : Int32)) →
    ∃ (T' : State) (h' : Heap) (L' : List Loc), Stand p l e (own_rm_ 3 0 0 43) s m args below meth c T' L' 0 0 ∧ T'.heap = h' ∧ Fr n0 L' ∧ Old Z n0 h' ∧ Keep h0 h' [a3] ∧ Arv Z h' a3 k3 .char cs.length.toInt32 (own_fill (fun c => nar .char c) cs cs.length) (.int (0 : Int32)) ∧
      ∀ target, Steps p.tables e below (T'.setTop (mkF m 41 #[.val (.ref a2), .val (.int (0 : Int32)), .val (.int cs.length.toInt32), .val (.ref a3), .val (.int cs.length.toInt32), .val (.int cs.length.toInt32)] [])) target → Steps p.tables e below (T0.setTop (mkF m 16 #[.val (.ref a2), .val (.int (0 : Int32)), .val (.int cs.length.toInt32), .val (.ref a3), .val (.int i.toInt32), .val (.int i.toInt32)] [])) target := by
  intro k
  induction k with
  | zero =>
    intro i T0 h0 locs hi X0 e0 N0 O0 Va Vb
    obtain rfl : i = cs.length := by omega
    obtain ⟨T1, X1, e1, st⟩ := t_gse cs1 fv a2 a3 cs.length.toInt32 cs.length.toInt32 X0 hx hZ hw hby hml hown e0 O0 G (by rw [Int32.lt_iff_toInt_lt]; omega)
    exact ⟨T1, h0, locs, X1, e1, N0, O0, Keep.refl _ _, Vb, st⟩
  | succ k ih =>
    intro i T0 h0 locs hi X0 e0 N0 O0 Va Vb
    have hlt : i < cs.length := by omega
    obtain ⟨T1, h1, L1, X1, e1, N1, O1, K1, V2, V3, st1⟩ := t_gs cs1 fv a2 a3 k2 k3 cs i X0 hx hZ hw hby hml hown e0 N0 O0 G Va Vb ga hne hlt hn hB
    rw [own_ts (by omega)] at st1
    obtain ⟨T', h', L', X', e', N', O', K', V', st'⟩ := ih (i + 1) T1 h1 L1 (by omega) X1 e1 N1 O1 V2 V3
    exact ⟨T', h', L', X', e', N', O', K1.trans K' (allS (Or.inl (List.mem_singleton.mpr rfl)) all0), V', fun target kt => st1 _ (st' _ kt)⟩

theorem d30_0 : decode jdk_52_method_26_code 0 = .ok (.iload_n 1, 1) := by decide +kernel
theorem d30_1 : decode jdk_52_method_26_code 1 = .ok (.iload_n 2, 1) := by decide +kernel
theorem d30_2 : decode jdk_52_method_26_code 2 = .ok (.if_icmp .ge 11, 3) := by decide +kernel
theorem d30_5 : decode jdk_52_method_26_code 5 = .ok (.iload_n 1, 1) := by decide +kernel
theorem d30_6 : decode jdk_52_method_26_code 6 = .ok (.iload_n 2, 1) := by decide +kernel
theorem d30_7 : decode jdk_52_method_26_code 7 = .ok (.iload_n 1, 1) := by decide +kernel
theorem d30_8 : decode jdk_52_method_26_code 8 = .ok (.isub, 1) := by decide +kernel
theorem d30_9 : decode jdk_52_method_26_code 9 = .ok (.aload_n 0, 1) := by decide +kernel
theorem d30_10 : decode jdk_52_method_26_code 10 = .ok (.invokestatic 173, 3) := by decide +kernel
theorem pd_17 : parseMethodDescriptor "(II[B)V" = some ⟨[.int, .int, (.array .byte)], none⟩ := by decide +kernel
theorem d30_13 : decode jdk_52_method_26_code 13 = .ok (.iload_n 1, 1) := by decide +kernel
theorem d30_14 : decode jdk_52_method_26_code 14 = .ok (.istore 5, 2) := by decide +kernel
theorem d30_41 : decode jdk_52_method_26_code 41 = .ok (.return_, 1) := by decide +kernel
theorem ef_30_27 (m : MethodId) (x0 : Addr) (x1 : Int32) (x2 : Int32) (x3 : Addr) (x4 : Int32) : entryFrame m #[(.ref x0), (.int x1), (.int x2), (.ref x3), (.int x4)] 6 = mkF m 0 #[.val (.ref x0), .val (.int x1), .val (.int x2), .val (.ref x3), .val (.int x4), .unset] [] := by first | (simp [entryFrame, mkF, argsToLocals, Value.category]; done) | rfl
theorem r_gs (l : Launch) (Z : State) (a0 : Array Value) (hw : own_HW a0 Z) (ws : List Jvm.Cond) (cs1 : Int32) (fv : Value) (h0 : Heap) (n0 : Nat) (O0 : Old Z n0 h0) (G : own_Ctx Z Z.heap cs1 fv) (a2 a3 : Addr) (k2 k3 : ClassId) (cs : List Int32) (Va : Arv Z h0 a2 k2 .byte (2 * cs.length).toInt32 (cs.flatMap own_two) (.int (0 : Int32))) (Vb : Arv Z h0 a3 k3 .char cs.length.toInt32 (List.replicate cs.length (.int (0 : Int32))) (.int (0 : Int32))) (ga : n0 ≤ a3) (hne : a2 ≠ a3) (hn : cs.length ≤ 4) (hB : own_Bd cs) (h1 : 1 ≤ cs.length) :
    own_M l Y25_ (head1 (Jvm.Cond.code Y25_ jdk_52_method_26_code 6 none :: ws) (own_rm_ 3 0 0 43)) #[(.ref a2), (.int (0 : Int32)), (.int cs.length.toInt32), (.ref a3), (.int (0 : Int32))] Z h0 n0 (own_QW Z none a3 k3 .char cs.length.toInt32 (cs.map Value.int)) (own_rm_ 3 0 0 43).cells (own_rm_ 3 0 0 43).slots := by
  have G0 := G
  obtain ⟨S_CS, N_CS, S_F, R_F, S_AD, S_HI, S_LO⟩ := G
  refine MetFree.of_bodySF (plainFor_of_name pn_0) hisR ?_
  intro p e s m args below meth c s₁ Bd hml0 hP hK
  obtain ⟨rfl, hZ, hh⟩ := hP
  have hx := Bd.exec
  have hby := Bd.bytes
  have hml : c.maxLocals = 6 := hml0
  have hown : s.vm.findClass "java/lang/StringUTF16" = some m.cls := findClass_of_methodNamed Bd.named
  have hnm := (name_of_methodNamed Bd.named Bd.method).1
  have X0 : Stand p l e (own_rm_ 3 0 0 43) s m #[(.ref a2), (.int (0 : Int32)), (.int cs.length.toInt32), (.ref a3), (.int (0 : Int32))] below meth c s₁ [] 0 0 := Stand.of_body Bd
  have e0 : s₁.heap = h0 := by rw [← hh, Bd.state]; rfl
  have N0 := Fr.nil n0
  have pre0 := own_pre (tb := p.tables) (e := e) (below := below) (T := s₁) (ef_30_27 m a2 (0 : Int32) cs.length.toInt32 a3 (0 : Int32))
  obtain ⟨_, _, ⟨T1, L1, k1, n1⟩, -, X1, ⟨Lc1, hQ1, l1, y1, z1⟩, st1⟩ := Jvm.LawKit.callS X0 hx (y := Y24_) hown (mvT hZ (own_w hw 129 rfl)) (mvT hZ (own_w hw 130 rfl)) (mvT hZ (own_w hw 40 rfl)) (mvT hZ (own_w hw 131 rfl)) (by decide) (backOf (W := 0) (r_cbu l Z a0 hw [] cs1 fv h0 n0 O0 G0 a2 k2 cs Va hn) hZ (own_w hw 131 rfl) (own_w hw 40 rfl) (by decide) (by decide)) (g := (mkF m 10 #[.val (.ref a2), .val (.int (0 : Int32)), .val (.int cs.length.toInt32), .val (.ref a3), .val (.int (0 : Int32)), .unset] [(.ref a2), (.int cs.length.toInt32), (.int (0 : Int32))])) rfl (by rw [hml]; rfl) (argsL := [(.int (0 : Int32)), (.int cs.length.toInt32), (.ref a2)]) (rest := []) (lenOf pd_17 rfl) rfl (by show 2 * 0 + _ ≤ _; exact Nat.le_of_eq rfl) (hb hby d30_10) (fun _ _ => ⟨rfl, e0, (by decide : 0 + 0 ≤ _), (by decide : 0 + 0 ≤ _)⟩)
  dsimp only [Pt.U, Pt.locs, Pt.cells, Pt.slots] at X1 l1 y1 z1 st1 hQ1
  subst l1 y1 z1
  obtain ⟨rfl, N1q, e1⟩ := hQ1
  have N1 := Fr.app N0 N1q
  have vb0 : Arv Z h0 a3 k3 .char cs.length.toInt32 (own_fill (fun c => nar .char c) cs 0) (.int (0 : Int32)) := by simpa [own_fill] using Vb
  obtain ⟨T9, h9, L9, X9, e9, N9, O9, K9, V9, st9⟩ := own_gs cs1 fv a2 a3 k2 k3 cs hx hZ hw hby hml hown G0 ga hne hn hB cs.length 0 _ _ _ (Nat.zero_add _) X1 e1 N1 O0 Va vb0
  rw [own_fill_all, own_mapc hB] at V9
  subst e9
  obtain ⟨fs, hr, hrun, hended, hW, hsame⟩ := X9.leave (v := none) (fun _ => rfl)
  refine ⟨_, _, pre0 _ ?_, hrun, hended, _, _, rfl, ?_, ⟨_, rfl⟩, hW, hsame.mono (by decide) (by decide)⟩
  · show Steps p.tables e below (s₁.setTop (mkF m 0 #[.val (.ref a2), .val (.int (0 : Int32)), .val (.int cs.length.toInt32), .val (.ref a3), .val (.int (0 : Int32)), .unset] [])) _
    refine XS.iloadN X0.here hx rfl (hb hby d30_0) rfl ?_
    refine XS.iloadN X0.here hx rfl (hb hby d30_1) rfl ?_
    refine XS.icmpNo X0.here hx rfl (hb hby d30_2) rfl (tlt ((own_n0 h1 hn).2 : (0 : Int32) < cs.length.toInt32)).2.1 ?_
    refine XS.iloadN X0.here hx rfl (hb hby d30_5) rfl ?_
    refine XS.iloadN X0.here hx rfl (hb hby d30_6) rfl ?_
    refine XS.iloadN X0.here hx rfl (hb hby d30_7) rfl ?_
    refine XS.isub X0.here hx rfl (hb hby d30_8) rfl ?_
    show Steps p.tables e below (s₁.setTop (mkF m 9 #[.val (.ref a2), .val (.int (0 : Int32)), .val (.int cs.length.toInt32), .val (.ref a3), .val (.int (0 : Int32)), .unset] [(.int (cs.length.toInt32 - (0 : Int32))), (.int (0 : Int32))])) _
    rw [own_sub0]
    refine XS.aloadN X0.here hx rfl (hb hby d30_9) rfl rfl ?_
    show Steps p.tables e below (s₁.setTop (mkF m 10 #[.val (.ref a2), .val (.int (0 : Int32)), .val (.int cs.length.toInt32), .val (.ref a3), .val (.int (0 : Int32)), .unset] [(.ref a2), (.int cs.length.toInt32), (.int (0 : Int32))])) _
    refine st1 _ ?_
    show Steps p.tables e below (T1.setTop (mkF m 13 #[.val (.ref a2), .val (.int (0 : Int32)), .val (.int cs.length.toInt32), .val (.ref a3), .val (.int (0 : Int32)), .unset] [])) _
    refine XS.iloadN X1.here hx rfl (hb hby d30_13) rfl ?_
    refine XS.istore X1.here hx rfl (hb hby d30_14) rfl (l' := #[.val (.ref a2), .val (.int (0 : Int32)), .val (.int cs.length.toInt32), .val (.ref a3), .val (.int (0 : Int32)), .val (.int (0 : Int32))]) rfl ?_
    show Steps p.tables e below (T1.setTop (mkF m 16 #[.val (.ref a2), .val (.int (0 : Int32)), .val (.int cs.length.toInt32), .val (.ref a3), .val (.int (0 : Nat).toInt32), .val (.int (0 : Nat).toInt32)] [])) _
    refine st9 _ ?_
    show Steps p.tables e below (T9.setTop (mkF m 41 #[.val (.ref a2), .val (.int (0 : Int32)), .val (.int cs.length.toInt32), .val (.ref a3), .val (.int cs.length.toInt32), .val (.int cs.length.toInt32)] [])) _
    exact X9.returnOut hx Bd.returns (hb hby d30_41) hr
  · exact ⟨rfl, N9, ((Keep.refl h0 [a3]).trans K9 (allS (Or.inl (List.mem_of_getElem? (i := 0) rfl)) all0)), V9⟩
theorem d29_0 : decode jdk_52_method_13_code 0 = .ok (.aload_n 0, 1) := by decide +kernel
theorem d29_1 : decode jdk_52_method_13_code 1 = .ok (.arraylength, 1) := by decide +kernel
theorem d29_2 : decode jdk_52_method_13_code 2 = .ok (.iconst 1, 1) := by decide +kernel
theorem d29_3 : decode jdk_52_method_13_code 3 = .ok (.ishr, 1) := by decide +kernel
theorem d29_4 : decode jdk_52_method_13_code 4 = .ok (.newarray .char, 2) := by decide +kernel
theorem d29_6 : decode jdk_52_method_13_code 6 = .ok (.astore_n 1, 1) := by decide +kernel
theorem d29_7 : decode jdk_52_method_13_code 7 = .ok (.aload_n 0, 1) := by decide +kernel
theorem d29_8 : decode jdk_52_method_13_code 8 = .ok (.iconst 0, 1) := by decide +kernel
theorem d29_9 : decode jdk_52_method_13_code 9 = .ok (.aload_n 1, 1) := by decide +kernel
theorem d29_10 : decode jdk_52_method_13_code 10 = .ok (.arraylength, 1) := by decide +kernel
theorem d29_11 : decode jdk_52_method_13_code 11 = .ok (.aload_n 1, 1) := by decide +kernel
theorem d29_12 : decode jdk_52_method_13_code 12 = .ok (.iconst 0, 1) := by decide +kernel
theorem d29_13 : decode jdk_52_method_13_code 13 = .ok (.invokestatic 103, 3) := by decide +kernel
theorem pd_18 : parseMethodDescriptor "([BII[CI)V" = some ⟨[(.array .byte), .int, .int, (.array .char), .int], none⟩ := by decide +kernel
theorem d29_16 : decode jdk_52_method_13_code 16 = .ok (.aload_n 1, 1) := by decide +kernel
theorem d29_17 : decode jdk_52_method_13_code 17 = .ok (.areturn, 1) := by decide +kernel
theorem ef_29_28 (m : MethodId) (x0 : Addr) : entryFrame m #[(.ref x0)] 2 = mkF m 0 #[.val (.ref x0), .unset] [] := by first | (simp [entryFrame, mkF, argsToLocals, Value.category]; done) | rfl
theorem r_tcU (l : Launch) (Z : State) (a0 : Array Value) (hw : own_HW a0 Z) (ws : List Jvm.Cond) (cs1 : Int32) (fv : Value) (h0 : Heap) (n0 : Nat) (O0 : Old Z n0 h0) (G : own_Ctx Z Z.heap cs1 fv) (a2 : Addr) (k2 : ClassId) (cs : List Int32) (Va : Arv Z h0 a2 k2 .byte (2 * cs.length).toInt32 (cs.flatMap own_two) (.int (0 : Int32))) (hn : cs.length ≤ 4) (hB : own_Bd cs) (h1 : 1 ≤ cs.length) :
    own_M l Y26_ (head1 (Jvm.Cond.code Y26_ jdk_52_method_13_code 2 (some (.array .char)) :: ws) (own_rm_ 4 1 4 60)) #[(.ref a2)] Z h0 n0 (own_QA Z .char cs.length.toInt32 (cs.map Value.int)) (own_rm_ 4 1 4 60).cells (own_rm_ 4 1 4 60).slots := by
  have G0 := G
  obtain ⟨S_CS, N_CS, S_F, R_F, S_AD, S_HI, S_LO⟩ := G
  refine MetFree.of_bodySF (plainFor_of_name pn_0) hisR ?_
  intro p e s m args below meth c s₁ Bd hml0 hP hK
  obtain ⟨rfl, hZ, hh⟩ := hP
  have hx := Bd.exec
  have hby := Bd.bytes
  have hml : c.maxLocals = 2 := hml0
  have hown : s.vm.findClass "java/lang/StringUTF16" = some m.cls := findClass_of_methodNamed Bd.named
  have hnm := (name_of_methodNamed Bd.named Bd.method).1
  have X0 : Stand p l e (own_rm_ 4 1 4 60) s m #[(.ref a2)] below meth c s₁ [] 0 0 := Stand.of_body Bd
  have e0 : s₁.heap = h0 := by rw [← hh, Bd.state]; rfl
  have N0 := Fr.nil n0
  have pre0 := own_pre (tb := p.tables) (e := e) (below := below) (T := s₁) (ef_29_28 m a2)
  have vc1 := Va
  obtain ⟨cl1, Ar1, qk1, S1, Nn1, Hs1, Gf1⟩ := vc1
  obtain ⟨T2, h2, ka2, X2, e2, E2, A2, st2⟩ := newP X0 hx hZ (own_w hw 0 rfl) e0 (g := (mkF m 4 #[.val (.ref a2), .unset] [(.int cs.length.toInt32)])) rfl (hb hby d29_4) rfl (own_ti (own_k hn)).2.1 (cap := 4) (own_cap hn) (by decide) (by decide) (by decide)
  obtain ⟨b2, g2⟩ : ∃ z, z = h0.size := ⟨_, rfl⟩
  have ne_a2_b2 : a2 ≠ b2 := Nat.ne_of_lt (Nat.lt_of_lt_of_le Va.lt (Nat.le_of_eq g2.symm))
  have g_b2 : n0 ≤ b2 := Nat.le_trans (O0.1 ▸ O0.2.1) (Nat.le_of_eq g2.symm)
  have sz_b2 : h0.size ≤ b2 := Nat.le_trans (Keep.refl h0 []).1 (Nat.le_of_eq g2.symm)
  rw [← g2] at A2 st2
  have f3 := Va.ext E2
  have O2 := O0.ext E2
  have K2 : Keep h0 h2 [] := (Keep.refl h0 []).ext E2
  have V2 : Arv Z h2 b2 ka2 .char cs.length.toInt32 (List.replicate cs.length (.int (0 : Int32))) (.int (0 : Int32)) := (Arv.new A2 (own_ti (own_k hn)).2.1).pad (pad_rep [] (.int (0 : Int32)) cs.length)
  have vc4 := V2
  obtain ⟨cl4, Ar4, qk4, S4, Nn4, Hs4, Gf4⟩ := vc4
  obtain ⟨_, _, ⟨T5, L5, k5, n5⟩, -, X5, ⟨Lc5, hQ5, l5, y5, z5⟩, st5⟩ := Jvm.LawKit.callS X2 hx (y := Y25_) hown (mvT hZ (own_w hw 126 rfl)) (mvT hZ (own_w hw 127 rfl)) (mvT hZ (own_w hw 40 rfl)) (mvT hZ (own_w hw 128 rfl)) (by decide) (backOf (W := 0) (r_gs l Z a0 hw [] cs1 fv h2 n0 O2 G0 a2 b2 k2 ka2 cs f3 V2 g_b2 ne_a2_b2 hn hB h1) hZ (own_w hw 128 rfl) (own_w hw 40 rfl) (by decide) (by decide)) (g := (mkF m 13 #[.val (.ref a2), .val (.ref b2)] [(.int (0 : Int32)), (.ref b2), (.int cs.length.toInt32), (.int (0 : Int32)), (.ref a2)])) rfl (by rw [hml]; rfl) (argsL := [(.ref a2), (.int (0 : Int32)), (.int cs.length.toInt32), (.ref b2), (.int (0 : Int32))]) (rest := []) (lenOf pd_18 rfl) rfl (by show 2 * 0 + _ ≤ _; exact Nat.le_of_eq rfl) (hb hby d29_13) (fun _ _ => ⟨rfl, e2, (by decide : 1 + 0 ≤ _), (by decide : 4 + 0 ≤ _)⟩)
  dsimp only [Pt.U, Pt.locs, Pt.cells, Pt.slots] at X5 l5 y5 z5 st5 hQ5
  subst l5 y5 z5
  obtain ⟨rfl, N5q, Kq5, Vb5⟩ := hQ5
  have N5 := Fr.app N0 N5q
  have f6 := f3.keep Kq5 (fun q => (List.mem_cons.mp q).elim ne_a2_b2 (fun q => nomatch q))
  have O5 := O2.keep Kq5 (allS g_b2 all0)
  have K5 : Keep h0 T5.heap [] := K2.trans Kq5 (allS (Or.inr sz_b2) all0)
  obtain ⟨fs, hr, hrun, hended, hW, hsame⟩ := X5.leave (v := some (.ref b2)) (fun h => by rw [Bd.returns] at h; cases h)
  refine ⟨_, _, pre0 _ ?_, hrun, hended, _, _, rfl, ?_, ⟨_, rfl⟩, hW, hsame.mono (by decide) (by decide)⟩
  · show Steps p.tables e below (s₁.setTop (mkF m 0 #[.val (.ref a2), .unset] [])) _
    refine XS.aloadN X0.here hx rfl (hb hby d29_0) rfl rfl ?_
    show Steps p.tables e below (s₁.setTop (mkF m 1 #[.val (.ref a2), .unset] [(.ref a2)])) _
    refine X0.arraylength hx (by rw [e0]; exact Ar1.1) (State.isArrayOf_alike hZ.alike Ar1.2.1) (g := (mkF m 1 #[.val (.ref a2), .unset] [(.ref a2)])) rfl rfl (hb hby d29_1) _ ?_
    rw [len_of S1 Nn1]
    show Steps p.tables e below (s₁.setTop (mkF m 2 #[.val (.ref a2), .unset] [(.int (2 * cs.length).toInt32)])) _
    refine XS.iconst X0.here hx rfl (hb hby d29_2) ?_
    refine XS.ishr X0.here hx rfl (hb hby d29_3) rfl ?_
    show Steps p.tables e below (s₁.setTop (mkF m 4 #[.val (.ref a2), .unset] [(.int ((2 * cs.length).toInt32 >>> ((1 : Int32) &&& 31)))])) _
    rw [own_shr1 (i := cs.length) (own_4 hn)]
    show Steps p.tables e below (s₁.setTop (mkF m 4 #[.val (.ref a2), .unset] [(.int cs.length.toInt32)])) _
    refine st2 _ ?_
    show Steps p.tables e below (T2.setTop (mkF m 6 #[.val (.ref a2), .unset] [(.ref b2)])) _
    refine XS.astoreN X2.here hx rfl (hb hby d29_6) rfl rfl (l' := #[.val (.ref a2), .val (.ref b2)]) rfl ?_
    refine XS.aloadN X2.here hx rfl (hb hby d29_7) rfl rfl ?_
    refine XS.iconst X2.here hx rfl (hb hby d29_8) ?_
    refine XS.aloadN X2.here hx rfl (hb hby d29_9) rfl rfl ?_
    show Steps p.tables e below (T2.setTop (mkF m 10 #[.val (.ref a2), .val (.ref b2)] [(.ref b2), (.int (0 : Int32)), (.ref a2)])) _
    refine X2.arraylength hx (by rw [e2]; exact Ar4.1) (State.isArrayOf_alike hZ.alike Ar4.2.1) (g := (mkF m 10 #[.val (.ref a2), .val (.ref b2)] [(.ref b2), (.int (0 : Int32)), (.ref a2)])) rfl rfl (hb hby d29_10) _ ?_
    rw [len_of S4 Nn4]
    show Steps p.tables e below (T2.setTop (mkF m 11 #[.val (.ref a2), .val (.ref b2)] [(.int cs.length.toInt32), (.int (0 : Int32)), (.ref a2)])) _
    refine XS.aloadN X2.here hx rfl (hb hby d29_11) rfl rfl ?_
    refine XS.iconst X2.here hx rfl (hb hby d29_12) ?_
    show Steps p.tables e below (T2.setTop (mkF m 13 #[.val (.ref a2), .val (.ref b2)] [(.int (0 : Int32)), (.ref b2), (.int cs.length.toInt32), (.int (0 : Int32)), (.ref a2)])) _
    refine st5 _ ?_
    show Steps p.tables e below (T5.setTop (mkF m 16 #[.val (.ref a2), .val (.ref b2)] [])) _
    refine XS.aloadN X5.here hx rfl (hb hby d29_16) rfl rfl ?_
    show Steps p.tables e below (T5.setTop (mkF m 17 #[.val (.ref a2), .val (.ref b2)] [(.ref b2)])) _
    exact retOut X5 hx Bd.returns rfl (Or.inr (Or.inr (Or.inr (Or.inr ⟨rfl, rfl, rfl⟩)))) (hb hby d29_17) hr
  · exact ⟨b2, ka2, rfl, N5, K5, sz_b2, Vb5⟩
theorem d26_0 : decode jdk_42_method_129_code 0 = .ok (.aload_n 0, 1) := by decide +kernel
theorem d26_1 : decode jdk_42_method_129_code 1 = .ok (.invokevirtual 492, 3) := by decide +kernel
theorem d26_4 : decode jdk_42_method_129_code 4 = .ok (.ifCond .eq 13, 3) := by decide +kernel
theorem d26_7 : decode jdk_42_method_129_code 7 = .ok (.aload_n 0, 1) := by decide +kernel
theorem d26_8 : decode jdk_42_method_129_code 8 = .ok (.getfield 9, 3) := by decide +kernel
theorem d26_11 : decode jdk_42_method_129_code 11 = .ok (.invokestatic 299, 3) := by decide +kernel
theorem pd_19 : parseMethodDescriptor "([B)[C" = some ⟨[(.array .byte)], some (.array .char)⟩ := by decide +kernel
theorem d26_14 : decode jdk_42_method_129_code 14 = .ok (.goto 10, 3) := by decide +kernel
theorem d26_24 : decode jdk_42_method_129_code 24 = .ok (.areturn, 1) := by decide +kernel
theorem ef_26_29 (m : MethodId) (x0 : Addr) : entryFrame m #[(.ref x0)] 1 = mkF m 0 #[.val (.ref x0)] [] := by first | (simp [entryFrame, mkF, argsToLocals, Value.category]; done) | rfl
theorem r_tcaL (l : Launch) (Z : State) (a0 : Array Value) (hw : own_HW a0 Z) (ws : List Jvm.Cond) (cs1 : Int32) (fv : Value) (h0 : Heap) (n0 : Nat) (O0 : Old Z n0 h0) (G : own_Ctx Z Z.heap cs1 fv) (a1 a2 : Addr) (k2 : ClassId) (cs : List Int32) (E1 : Exa Z h0 a1 "java/lang/String") (F1 : Fld Z h0 a1 "java/lang/String" "value" "[B" (.ref a2)) (F2 : Fld Z h0 a1 "java/lang/String" "coder" "B" (.int (0 : Int32))) (Va : Arv Z h0 a2 k2 .byte cs.length.toInt32 (cs.map (fun c => .int (nar .byte c.toInt8.toInt32))) (.int (0 : Int32))) (hn : cs.length ≤ 4) (hB : own_Bd cs) (hl : own_Lat cs) :
    own_M l Y27_ (head1 (Jvm.Cond.code Y27_ jdk_42_method_129_code 1 (some (.array .char)) :: ws) (own_rm_ 5 1 4 73)) #[(.ref a1)] Z h0 n0 (own_QA Z .char cs.length.toInt32 (cs.map Value.int)) (own_rm_ 5 1 4 73).cells (own_rm_ 5 1 4 73).slots := by
  have G0 := G
  obtain ⟨S_CS, N_CS, S_F, R_F, S_AD, S_HI, S_LO⟩ := G
  refine MetFree.of_bodySF (plainFor_of_name pn_2) hisR ?_
  intro p e s m args below meth c s₁ Bd hml0 hP hK
  obtain ⟨rfl, hZ, hh⟩ := hP
  have hx := Bd.exec
  have hby := Bd.bytes
  have hml : c.maxLocals = 1 := hml0
  have hown : s.vm.findClass "java/lang/String" = some m.cls := findClass_of_methodNamed Bd.named
  have hnm := (name_of_methodNamed Bd.named Bd.method).1
  have X0 : Stand p l e (own_rm_ 5 1 4 73) s m #[(.ref a1)] below meth c s₁ [] 0 0 := Stand.of_body Bd
  have e0 : s₁.heap = h0 := by rw [← hh, Bd.state]; rfl
  have N0 := Fr.nil n0
  have pre0 := own_pre (tb := p.tables) (e := e) (below := below) (T := s₁) (ef_26_29 m a1)
  obtain ⟨cq1, kq1, q1a, q1b, q1c⟩ := isOf hZ e0 E1
  obtain ⟨_, _, ⟨T1, L1, k1, n1⟩, -, X1, ⟨Lc1, hQ1, l1, y1, z1⟩, st1⟩ := X0.virtualBack hx (y := Y17_) (z := Y17_) hown (mvT hZ (own_w hw 53 rfl)) (mvT hZ (own_w hw 54 rfl)) (notFace_of_selects (args := #[]) (mvT hZ (own_w hw 56 rfl))) (mvT hZ (own_w hw 56 rfl)) (mvT hZ (own_w hw 55 rfl)) (by decide) (backOf (W := 0) (r_islL l Z a0 hw [] cs1 fv h0 n0 O0 G0 a1 a2 k2 cs E1 F1 F2 Va) hZ (own_w hw 57 rfl) (own_w hw 3 rfl) (by decide) (by decide)) q1a q1c (g := (mkF m 1 #[.val (.ref a1)] [(.ref a1)])) rfl (by rw [hml]; rfl) (Steps.refl _) (argsL := []) (rest := []) (lenOf pd_13 rfl) rfl (by show 2 * 0 + _ ≤ _; exact Nat.le_of_eq rfl) (hb hby d26_1) (fun _ _ => ⟨rfl, e0, (by decide : 0 + 0 ≤ _), (by decide : 0 + 0 ≤ _)⟩)
  dsimp only [Pt.U, Pt.locs, Pt.cells, Pt.slots] at X1 l1 y1 z1 st1 hQ1
  subst l1 y1 z1
  obtain ⟨rfl, N1q, e1⟩ := hQ1
  have N1 := Fr.app N0 N1q
  obtain ⟨T2, X2, e2, st2⟩ := getF X1 hx hZ hown (host := "") (Or.inl (own_w hw 20 rfl)) Via.refl e1 F1 (g := (mkF m 8 #[.val (.ref a1)] [(.ref a1)])) rfl rfl (hb hby d26_8)
  obtain ⟨_, _, ⟨T3, L3, k3, n3⟩, -, X3, ⟨Lc3, hQ3, l3, y3, z3⟩, st3⟩ := Jvm.LawKit.callS X2 hx (y := Y21_) hown (mvT hZ (own_w hw 115 rfl)) (mvT hZ (own_w hw 116 rfl)) (mvT hZ (own_w hw 60 rfl)) (mvT hZ (own_w hw 117 rfl)) (by decide) (backOf (W := 0) (r_tcL l Z a0 hw [] cs1 fv h0 n0 O0 G0 a2 k2 cs Va hn hB hl) hZ (own_w hw 117 rfl) (own_w hw 60 rfl) (by decide) (by decide)) (g := (mkF m 11 #[.val (.ref a1)] [(.ref a2)])) rfl (by rw [hml]; rfl) (argsL := [(.ref a2)]) (rest := []) (lenOf pd_19 rfl) rfl (by show 2 * 0 + _ ≤ _; exact Nat.le_of_eq rfl) (hb hby d26_11) (fun _ _ => ⟨rfl, e2, (by decide : 0 + 1 ≤ _), (by decide : 0 + 4 ≤ _)⟩)
  dsimp only [Pt.U, Pt.locs, Pt.cells, Pt.slots] at X3 l3 y3 z3 st3 hQ3
  subst l3 y3 z3
  obtain ⟨t3, kt3, rfl, N3q, Kq3, gt3, Vt3⟩ := hQ3
  have N3 := Fr.app N1 N3q
  have ne_a1_t3 : a1 ≠ t3 := Nat.ne_of_lt (Nat.lt_of_lt_of_le E1.lt gt3)
  have ne_a2_t3 : a2 ≠ t3 := Nat.ne_of_lt (Nat.lt_of_lt_of_le Va.lt gt3)
  have g_t3 : n0 ≤ t3 := Nat.le_trans (O0.1 ▸ O0.2.1) gt3
  have sz_t3 : h0.size ≤ t3 := Nat.le_trans (Keep.refl h0 []).1 gt3
  have f4 := E1.keep Kq3
  have f5 := F1.keep Kq3 (fun q => nomatch q)
  have f6 := F2.keep Kq3 (fun q => nomatch q)
  have f7 := Va.keep Kq3 (fun q => nomatch q)
  have O3 := O0.keep Kq3 all0
  have K3 : Keep h0 T3.heap [] := (Keep.refl h0 []).trans Kq3 all0
  obtain ⟨fs, hr, hrun, hended, hW, hsame⟩ := X3.leave (v := some (.ref t3)) (fun h => by rw [Bd.returns] at h; cases h)
  refine ⟨_, _, pre0 _ ?_, hrun, hended, _, _, rfl, ?_, ⟨_, rfl⟩, hW, hsame.mono (by decide) (by decide)⟩
  · show Steps p.tables e below (s₁.setTop (mkF m 0 #[.val (.ref a1)] [])) _
    refine XS.aloadN X0.here hx rfl (hb hby d26_0) rfl rfl ?_
    show Steps p.tables e below (s₁.setTop (mkF m 1 #[.val (.ref a1)] [(.ref a1)])) _
    refine st1.trans ?_
    show Steps p.tables e below (T1.setTop (mkF m 4 #[.val (.ref a1)] [(.int (1 : Int32))])) _
    refine XS.ifNo X1.here hx rfl (hb hby d26_4) rfl ((if0 _ _).trans (feq (by decide : ¬ ((1 : Int32) = (0 : Int32)))).1) ?_
    refine XS.aloadN X1.here hx rfl (hb hby d26_7) rfl rfl ?_
    show Steps p.tables e below (T1.setTop (mkF m 8 #[.val (.ref a1)] [(.ref a1)])) _
    refine st2 _ ?_
    show Steps p.tables e below (T2.setTop (mkF m 11 #[.val (.ref a1)] [(.ref a2)])) _
    refine st3 _ ?_
    show Steps p.tables e below (T3.setTop (mkF m 14 #[.val (.ref a1)] [(.ref t3)])) _
    refine XS.goto X3.here hx rfl (pc0 := 14) (pc' := 24) rfl (hb hby d26_14) (by decide) (by decide) ?_
    show Steps p.tables e below (T3.setTop (mkF m 24 #[.val (.ref a1)] [(.ref t3)])) _
    exact retOut X3 hx Bd.returns rfl (Or.inr (Or.inr (Or.inr (Or.inr ⟨rfl, rfl, rfl⟩)))) (hb hby d26_24) hr
  · exact ⟨t3, kt3, rfl, N3, K3, sz_t3, Vt3⟩
theorem d26_17 : decode jdk_42_method_129_code 17 = .ok (.aload_n 0, 1) := by decide +kernel
theorem d26_18 : decode jdk_42_method_129_code 18 = .ok (.getfield 9, 3) := by decide +kernel
theorem d26_21 : decode jdk_42_method_129_code 21 = .ok (.invokestatic 303, 3) := by decide +kernel
theorem r_tcaU (l : Launch) (Z : State) (a0 : Array Value) (hw : own_HW a0 Z) (ws : List Jvm.Cond) (cs1 : Int32) (fv : Value) (h0 : Heap) (n0 : Nat) (O0 : Old Z n0 h0) (G : own_Ctx Z Z.heap cs1 fv) (a1 a2 : Addr) (k2 : ClassId) (cs : List Int32) (E1 : Exa Z h0 a1 "java/lang/String") (F1 : Fld Z h0 a1 "java/lang/String" "value" "[B" (.ref a2)) (F2 : Fld Z h0 a1 "java/lang/String" "coder" "B" (.int (1 : Int32))) (Va : Arv Z h0 a2 k2 .byte (2 * cs.length).toInt32 (cs.flatMap own_two) (.int (0 : Int32))) (hn : cs.length ≤ 4) (hB : own_Bd cs) (h1 : 1 ≤ cs.length) :
    own_M l Y27_ (head1 (Jvm.Cond.code Y27_ jdk_42_method_129_code 1 (some (.array .char)) :: ws) (own_rm_ 5 1 4 73)) #[(.ref a1)] Z h0 n0 (own_QA Z .char cs.length.toInt32 (cs.map Value.int)) (own_rm_ 5 1 4 73).cells (own_rm_ 5 1 4 73).slots := by
  have G0 := G
  obtain ⟨S_CS, N_CS, S_F, R_F, S_AD, S_HI, S_LO⟩ := G
  refine MetFree.of_bodySF (plainFor_of_name pn_2) hisR ?_
  intro p e s m args below meth c s₁ Bd hml0 hP hK
  obtain ⟨rfl, hZ, hh⟩ := hP
  have hx := Bd.exec
  have hby := Bd.bytes
  have hml : c.maxLocals = 1 := hml0
  have hown : s.vm.findClass "java/lang/String" = some m.cls := findClass_of_methodNamed Bd.named
  have hnm := (name_of_methodNamed Bd.named Bd.method).1
  have X0 : Stand p l e (own_rm_ 5 1 4 73) s m #[(.ref a1)] below meth c s₁ [] 0 0 := Stand.of_body Bd
  have e0 : s₁.heap = h0 := by rw [← hh, Bd.state]; rfl
  have N0 := Fr.nil n0
  have pre0 := own_pre (tb := p.tables) (e := e) (below := below) (T := s₁) (ef_26_29 m a1)
  obtain ⟨cq1, kq1, q1a, q1b, q1c⟩ := isOf hZ e0 E1
  obtain ⟨_, _, ⟨T1, L1, k1, n1⟩, -, X1, ⟨Lc1, hQ1, l1, y1, z1⟩, st1⟩ := X0.virtualBack hx (y := Y17_) (z := Y17_) hown (mvT hZ (own_w hw 53 rfl)) (mvT hZ (own_w hw 54 rfl)) (notFace_of_selects (args := #[]) (mvT hZ (own_w hw 56 rfl))) (mvT hZ (own_w hw 56 rfl)) (mvT hZ (own_w hw 55 rfl)) (by decide) (backOf (W := 0) (r_islU l Z a0 hw [] cs1 fv h0 n0 O0 G0 a1 a2 k2 cs E1 F1 F2 Va) hZ (own_w hw 57 rfl) (own_w hw 3 rfl) (by decide) (by decide)) q1a q1c (g := (mkF m 1 #[.val (.ref a1)] [(.ref a1)])) rfl (by rw [hml]; rfl) (Steps.refl _) (argsL := []) (rest := []) (lenOf pd_13 rfl) rfl (by show 2 * 0 + _ ≤ _; exact Nat.le_of_eq rfl) (hb hby d26_1) (fun _ _ => ⟨rfl, e0, (by decide : 0 + 0 ≤ _), (by decide : 0 + 0 ≤ _)⟩)
  dsimp only [Pt.U, Pt.locs, Pt.cells, Pt.slots] at X1 l1 y1 z1 st1 hQ1
  subst l1 y1 z1
  obtain ⟨rfl, N1q, e1⟩ := hQ1
  have N1 := Fr.app N0 N1q
  obtain ⟨T2, X2, e2, st2⟩ := getF X1 hx hZ hown (host := "") (Or.inl (own_w hw 20 rfl)) Via.refl e1 F1 (g := (mkF m 18 #[.val (.ref a1)] [(.ref a1)])) rfl rfl (hb hby d26_18)
  obtain ⟨_, _, ⟨T3, L3, k3, n3⟩, -, X3, ⟨Lc3, hQ3, l3, y3, z3⟩, st3⟩ := Jvm.LawKit.callS X2 hx (y := Y26_) hown (mvT hZ (own_w hw 123 rfl)) (mvT hZ (own_w hw 124 rfl)) (mvT hZ (own_w hw 40 rfl)) (mvT hZ (own_w hw 125 rfl)) (by decide) (backOf (W := 0) (r_tcU l Z a0 hw [] cs1 fv h0 n0 O0 G0 a2 k2 cs Va hn hB h1) hZ (own_w hw 125 rfl) (own_w hw 40 rfl) (by decide) (by decide)) (g := (mkF m 21 #[.val (.ref a1)] [(.ref a2)])) rfl (by rw [hml]; rfl) (argsL := [(.ref a2)]) (rest := []) (lenOf pd_19 rfl) rfl (by show 2 * 0 + _ ≤ _; exact Nat.le_of_eq rfl) (hb hby d26_21) (fun _ _ => ⟨rfl, e2, (by decide : 0 + 1 ≤ _), (by decide : 0 + 4 ≤ _)⟩)
  dsimp only [Pt.U, Pt.locs, Pt.cells, Pt.slots] at X3 l3 y3 z3 st3 hQ3
  subst l3 y3 z3
  obtain ⟨t3, kt3, rfl, N3q, Kq3, gt3, Vt3⟩ := hQ3
  have N3 := Fr.app N1 N3q
  have ne_a1_t3 : a1 ≠ t3 := Nat.ne_of_lt (Nat.lt_of_lt_of_le E1.lt gt3)
  have ne_a2_t3 : a2 ≠ t3 := Nat.ne_of_lt (Nat.lt_of_lt_of_le Va.lt gt3)
  have g_t3 : n0 ≤ t3 := Nat.le_trans (O0.1 ▸ O0.2.1) gt3
  have sz_t3 : h0.size ≤ t3 := Nat.le_trans (Keep.refl h0 []).1 gt3
  have f4 := E1.keep Kq3
  have f5 := F1.keep Kq3 (fun q => nomatch q)
  have f6 := F2.keep Kq3 (fun q => nomatch q)
  have f7 := Va.keep Kq3 (fun q => nomatch q)
  have O3 := O0.keep Kq3 all0
  have K3 : Keep h0 T3.heap [] := (Keep.refl h0 []).trans Kq3 all0
  obtain ⟨fs, hr, hrun, hended, hW, hsame⟩ := X3.leave (v := some (.ref t3)) (fun h => by rw [Bd.returns] at h; cases h)
  refine ⟨_, _, pre0 _ ?_, hrun, hended, _, _, rfl, ?_, ⟨_, rfl⟩, hW, hsame.mono (by decide) (by decide)⟩
  · show Steps p.tables e below (s₁.setTop (mkF m 0 #[.val (.ref a1)] [])) _
    refine XS.aloadN X0.here hx rfl (hb hby d26_0) rfl rfl ?_
    show Steps p.tables e below (s₁.setTop (mkF m 1 #[.val (.ref a1)] [(.ref a1)])) _
    refine st1.trans ?_
    show Steps p.tables e below (T1.setTop (mkF m 4 #[.val (.ref a1)] [(.int (0 : Int32))])) _
    refine XS.ifYes X1.here hx rfl (pc0 := 4) (pc' := 17) rfl (hb hby d26_4) rfl ((if0 _ _).trans (teq (by decide : (0 : Int32) = (0 : Int32))).1) (by decide) (by decide) ?_
    refine XS.aloadN X1.here hx rfl (hb hby d26_17) rfl rfl ?_
    show Steps p.tables e below (T1.setTop (mkF m 18 #[.val (.ref a1)] [(.ref a1)])) _
    refine st2 _ ?_
    show Steps p.tables e below (T2.setTop (mkF m 21 #[.val (.ref a1)] [(.ref a2)])) _
    refine st3 _ ?_
    show Steps p.tables e below (T3.setTop (mkF m 24 #[.val (.ref a1)] [(.ref t3)])) _
    exact retOut X3 hx Bd.returns rfl (Or.inr (Or.inr (Or.inr (Or.inr ⟨rfl, rfl, rfl⟩)))) (hb hby d26_24) hr
  · exact ⟨t3, kt3, rfl, N3, K3, sz_t3, Vt3⟩
theorem r_tca (l : Launch) (Z : State) (a0 : Array Value) (hw : own_HW a0 Z) (ws : List Jvm.Cond) (cs1 : Int32) (fv : Value) (h0 : Heap) (n0 : Nat) (O0 : Old Z n0 h0) (G : own_Ctx Z Z.heap cs1 fv) (a1 : Addr) (cs : List Int32) (S : own_Str Z h0 a1 cs) (hn : cs.length ≤ 4) (hB : own_Bd cs) (h1 : 1 ≤ cs.length) :
    own_M l Y27_ (head1 (Jvm.Cond.code Y27_ jdk_42_method_129_code 1 (some (.array .char)) :: ws) (own_rm_ 5 1 4 73)) #[(.ref a1)] Z h0 n0 (own_QA Z .char cs.length.toInt32 (cs.map Value.int)) (own_rm_ 5 1 4 73).cells (own_rm_ 5 1 4 73).slots := by
  obtain ⟨b, k, E1, F1, ⟨F2, B, V⟩ | ⟨F2, V⟩⟩ := S
  · exact r_tcaL l Z a0 hw ws cs1 fv h0 n0 O0 G a1 b k cs E1 F1 F2 V hn hB B
  · exact r_tcaU l Z a0 hw ws cs1 fv h0 n0 O0 G a1 b k cs E1 F1 F2 V hn hB h1
def own_brk (c : Int32) : Prop := c < (32 : Int32) ∨ c = (133 : Int32) ∨ c = (8232 : Int32) ∨ c = (8233 : Int32)
def own_exp (c : Int32) : Int32 := if (c < (32 : Int32) ∨ c = (133 : Int32) ∨ c = (8232 : Int32) ∨ c = (8233 : Int32)) then (32 : Int32) else c
theorem own_expT {c : Int32} (h : own_brk c) : own_exp c = (32 : Int32) := if_pos h
theorem own_expF {c : Int32} (h : ¬ own_brk c) : own_exp c = c := if_neg h
theorem own_31 {c : Int32} : c < (32 : Int32) ↔ ¬ ((31 : Int32) < c) := by
  rw [Int32.lt_iff_toInt_lt, Int32.lt_iff_toInt_lt]
  have z0 : (32 : Int32).toInt = 32 := rfl
  have z1 : (31 : Int32).toInt = 31 := rfl
  omega
def own_ex (cs : List Int32) (i : Nat) : List Value := (cs.take i).map (fun c => .int (own_exp c)) ++ (cs.drop i).map Value.int
theorem own_ex_len (cs : List Int32) (i : Nat) : (own_ex cs i).length = cs.length := by
  simp [own_ex]; omega
theorem own_ex_get (cs : List Int32) {i : Nat} (h : i ≤ cs.length) (j : Nat) : (own_ex cs i)[j]? = if j < i then (cs[j]?).map (fun c => Value.int (own_exp c)) else (cs[j]?).map Value.int := by
  have m1 : min i cs.length = i := Nat.min_eq_left h
  by_cases a : j < i
  · have b : j < cs.length := by omega
    simp [own_ex, List.getElem?_append, a, m1, b]
  · simp only [own_ex, List.getElem?_append, List.length_map, List.length_take, m1, a, if_false, List.getElem?_map, List.getElem?_drop]
    rw [show i + (j - i) = j by omega]
theorem own_ex_at (cs : List Int32) {i : Nat} (h : i < cs.length) : (own_ex cs i).getD i (.int (0 : Int32)) = .int cs[i] := by
  rw [List.getD_eq_getElem?_getD, own_ex_get cs (Nat.le_of_lt h) i]
  simp [h]
theorem own_ex_skip (cs : List Int32) {i : Nat} (h : i < cs.length) (hq : ¬ own_brk cs[i]) : own_ex cs i = own_ex cs (i + 1) := by
  apply List.ext_getElem?
  intro j
  rw [own_ex_get cs (Nat.le_of_lt h) j, own_ex_get cs h j]
  by_cases u : j = i
  · subst u
    simp [h, own_expF hq]
  · by_cases a : j < i
    · have b : j < i + 1 := by omega
      simp [a, b]
    · have b : ¬ j < i + 1 := by omega
      simp [a, b]
theorem own_ex_set (cs : List Int32) {i : Nat} (h : i < cs.length) (hq : own_brk cs[i]) : (own_ex cs i).set i (.int (nar .char (32 : Int32))) = own_ex cs (i + 1) := by
  apply List.ext_getElem?
  intro j
  have hl := own_ex_len cs i
  have z : nar .char (32 : Int32) = (32 : Int32) := by decide
  rw [own_ex_get cs h j, z]
  by_cases u : i = j
  · subst u
    rw [List.getElem?_set_self (by omega)]
    simp [h, own_expT hq]
  · rw [List.getElem?_set_ne u, own_ex_get cs (Nat.le_of_lt h) j]
    by_cases a : j < i
    · have b : j < i + 1 := by omega
      simp [a, b]
    · have b : ¬ j < i + 1 := by omega
      simp [a, b]
theorem own_ex_start (cs : List Int32) {r : Nat} (hr : r ≤ cs.length) (h : ∀ j (hj : j < cs.length), j < r → ¬ own_brk cs[j]) : own_ex cs r = cs.map Value.int := by
  apply List.ext_getElem?
  intro j
  rw [own_ex_get cs hr j, List.getElem?_map]
  by_cases a : j < r
  · have b : j < cs.length := by omega
    simp [a, b, own_expF (h j b a)]
  · simp [a]
theorem own_ex_all (cs : List Int32) : own_ex cs cs.length = (cs.map own_exp).map Value.int := by simp [own_ex]
theorem own_expB {c : Int32} (h : ¬ (c < (0 : Int32)) ∧ ¬ ((65535 : Int32) < c)) : ¬ (own_exp c < (0 : Int32)) ∧ ¬ ((65535 : Int32) < own_exp c) := by
  rcases Classical.em (own_brk c) with q | q
  · rw [own_expT q]; decide
  · rw [own_expF q]; exact h
theorem own_Bd_exp {cs : List Int32} (h : own_Bd cs) : own_Bd (cs.map own_exp) := by
  intro j hj
  have hj' : j < cs.length := by simpa using hj
  rw [List.getElem_map]
  exact own_expB (h j hj')
theorem own_map_same {cs : List Int32} (h : ∀ j (hj : j < cs.length), ¬ own_brk cs[j]) : cs.map own_exp = cs := by
  apply List.ext_getElem
  · simp
  · intro j h1 h2
    rw [List.getElem_map, own_expF (h j h2)]
theorem own_lenm {cs : List Int32} {f : Int32 → Int32} {n : Nat} (h : cs.length ≤ n) : (cs.map f).length ≤ n := by rw [List.length_map]; exact h
theorem own_lenm1 {cs : List Int32} {f : Int32 → Int32} (h : 1 ≤ cs.length) : 1 ≤ (cs.map f).length := by rw [List.length_map]; exact h
def own_Qof (Z : State) (a1 : Addr) (cs : List Int32) (h0 : Heap) (n0 : Nat) (v : Option Value) (h : Heap) (L : List Loc) : Prop := ∃ b : Addr, v = some (.ref b) ∧ Fr n0 L ∧ Keep h0 h [] ∧ own_Str Z h b (cs.map own_exp) ∧ ((∀ j (hj : j < cs.length), ¬ own_brk cs[j]) → b = a1)
theorem own_all0 {P : Int32 → Prop} : ∀ j (hj : j < ([] : List Int32).length), P ([] : List Int32)[j] := fun j hj => absurd hj (Nat.not_lt_zero _)
theorem own_all1 {P : Int32 → Prop} {x : Int32} (hx : P x) : ∀ j (hj : j < [x].length), P [x][j]
  | 0, _ => hx
  | _ + 1, h => absurd h (by simp)
theorem own_all2 {P : Int32 → Prop} {x y : Int32} (hx : P x) (hy : P y) : ∀ j (hj : j < [x, y].length), P [x, y][j]
  | 0, _ => hx
  | 1, _ => hy
  | _ + 2, h => absurd h (by simp)
theorem own_all3 {P : Int32 → Prop} {x y z : Int32} (hx : P x) (hy : P y) (hz : P z) : ∀ j (hj : j < [x, y, z].length), P [x, y, z][j]
  | 0, _ => hx
  | 1, _ => hy
  | 2, _ => hz
  | _ + 3, h => absurd h (by simp)
theorem own_c16 (x : Int32) : ¬ ((x.toUInt32.toUInt16.toUInt32.toInt32) < (0 : Int32)) ∧ ¬ ((65535 : Int32) < (x.toUInt32.toUInt16.toUInt32.toInt32)) := by
  have q := c_i2c x
  have z0 : (0 : Int32).toInt = 0 := rfl
  have z1 : (65535 : Int32).toInt = 65535 := rfl
  rw [Int32.lt_iff_toInt_lt, Int32.lt_iff_toInt_lt]
  omega

theorem d15_0 : decode prog_16_method_3_code 0 = .ok (.iload_n 0, 1) := by decide +kernel
theorem d15_1 : decode prog_16_method_3_code 1 = .ok (.bipush 32, 2) := by decide +kernel
theorem d15_3 : decode prog_16_method_3_code 3 = .ok (.if_icmp .lt 24, 3) := by decide +kernel
theorem d15_27 : decode prog_16_method_3_code 27 = .ok (.iconst 1, 1) := by decide +kernel
theorem d15_28 : decode prog_16_method_3_code 28 = .ok (.goto 4, 3) := by decide +kernel
theorem d15_32 : decode prog_16_method_3_code 32 = .ok (.ireturn, 1) := by decide +kernel
theorem ef_15_30 (m : MethodId) (x0 : Int32) : entryFrame m #[(.int x0)] 1 = mkF m 0 #[.val (.int x0)] [] := by first | (simp [entryFrame, mkF, argsToLocals, Value.category]; done) | rfl
theorem pn_4 : plainName "com/example/rubrique/rubrique/cli/OneLine" = true := by first | (simp [plainName, overriddenIn]; done) | decide +kernel
theorem r_bl0 (l : Launch) (Z : State) (a0 : Array Value) (hw : own_HW a0 Z) (ws : List Jvm.Cond) (cs1 : Int32) (fv : Value) (h0 : Heap) (n0 : Nat) (O0 : Old Z n0 h0) (G : own_Ctx Z Z.heap cs1 fv) (cc : Int32) (hb0 : cc < (32 : Int32)) :
    own_M l Y28_ (head1 (Jvm.Cond.code Y28_ prog_16_method_3_code 1 (some .boolean) :: ws) (own_rm_ 0 0 0 0)) #[(.int cc)] Z h0 n0 (own_Q (some (.int (1 : Int32)))) (own_rm_ 0 0 0 0).cells (own_rm_ 0 0 0 0).slots := by
  have G0 := G
  obtain ⟨S_CS, N_CS, S_F, R_F, S_AD, S_HI, S_LO⟩ := G
  refine MetFree.of_bodySF (plainFor_of_name pn_4) hisR ?_
  intro p e s m args below meth c s₁ Bd hml0 hP hK
  obtain ⟨rfl, hZ, hh⟩ := hP
  have hx := Bd.exec
  have hby := Bd.bytes
  have hml : c.maxLocals = 1 := hml0
  have hown : s.vm.findClass "com/example/rubrique/rubrique/cli/OneLine" = some m.cls := findClass_of_methodNamed Bd.named
  have hnm := (name_of_methodNamed Bd.named Bd.method).1
  have X0 : Stand p l e (own_rm_ 0 0 0 0) s m #[(.int cc)] below meth c s₁ [] 0 0 := Stand.of_body Bd
  have e0 : s₁.heap = h0 := by rw [← hh, Bd.state]; rfl
  have N0 := Fr.nil n0
  have pre0 := own_pre (tb := p.tables) (e := e) (below := below) (T := s₁) (ef_15_30 m cc)
  obtain ⟨fs, hr, hrun, hended, hW, hsame⟩ := X0.leave (v := some (.int (1 : Int32))) (fun h => by rw [Bd.returns] at h; cases h)
  refine ⟨_, _, pre0 _ ?_, hrun, hended, _, _, rfl, ?_, ⟨_, rfl⟩, hW, hsame.mono (by decide) (by decide)⟩
  · show Steps p.tables e below (s₁.setTop (mkF m 0 #[.val (.int cc)] [])) _
    refine XS.iloadN X0.here hx rfl (hb hby d15_0) rfl ?_
    refine XS.bipush X0.here hx rfl (hb hby d15_1) ?_
    refine XS.icmpYes X0.here hx rfl (pc0 := 3) (pc' := 27) rfl (hb hby d15_3) rfl (tlt (hb0 : cc < (32 : Int32))).1 (by decide) (by decide) ?_
    refine XS.iconst X0.here hx rfl (hb hby d15_27) ?_
    refine XS.goto X0.here hx rfl (pc0 := 28) (pc' := 32) rfl (hb hby d15_28) (by decide) (by decide) ?_
    show Steps p.tables e below (s₁.setTop (mkF m 32 #[.val (.int cc)] [(.int (1 : Int32))])) _
    exact retN X0 hx (t := .boolean) Bd.returns (by simp) (hb hby d15_32) hr
  · show own_Q (some (.int (1 : Int32))) h0 n0 _ s₁.heap _
    rw [e0]
    exact ⟨rfl, N0, rfl⟩
theorem d15_6 : decode prog_16_method_3_code 6 = .ok (.iload_n 0, 1) := by decide +kernel
theorem d15_7 : decode prog_16_method_3_code 7 = .ok (.sipush 133, 3) := by decide +kernel
theorem d15_10 : decode prog_16_method_3_code 10 = .ok (.if_icmp .eq 17, 3) := by decide +kernel
theorem r_bl1 (l : Launch) (Z : State) (a0 : Array Value) (hw : own_HW a0 Z) (ws : List Jvm.Cond) (cs1 : Int32) (fv : Value) (h0 : Heap) (n0 : Nat) (O0 : Old Z n0 h0) (G : own_Ctx Z Z.heap cs1 fv) (cc : Int32) (hb0 : ¬ (cc < (32 : Int32))) (hb1 : cc = (133 : Int32)) :
    own_M l Y28_ (head1 (Jvm.Cond.code Y28_ prog_16_method_3_code 1 (some .boolean) :: ws) (own_rm_ 0 0 0 0)) #[(.int cc)] Z h0 n0 (own_Q (some (.int (1 : Int32)))) (own_rm_ 0 0 0 0).cells (own_rm_ 0 0 0 0).slots := by
  have G0 := G
  obtain ⟨S_CS, N_CS, S_F, R_F, S_AD, S_HI, S_LO⟩ := G
  refine MetFree.of_bodySF (plainFor_of_name pn_4) hisR ?_
  intro p e s m args below meth c s₁ Bd hml0 hP hK
  obtain ⟨rfl, hZ, hh⟩ := hP
  have hx := Bd.exec
  have hby := Bd.bytes
  have hml : c.maxLocals = 1 := hml0
  have hown : s.vm.findClass "com/example/rubrique/rubrique/cli/OneLine" = some m.cls := findClass_of_methodNamed Bd.named
  have hnm := (name_of_methodNamed Bd.named Bd.method).1
  have X0 : Stand p l e (own_rm_ 0 0 0 0) s m #[(.int cc)] below meth c s₁ [] 0 0 := Stand.of_body Bd
  have e0 : s₁.heap = h0 := by rw [← hh, Bd.state]; rfl
  have N0 := Fr.nil n0
  have pre0 := own_pre (tb := p.tables) (e := e) (below := below) (T := s₁) (ef_15_30 m cc)
  obtain ⟨fs, hr, hrun, hended, hW, hsame⟩ := X0.leave (v := some (.int (1 : Int32))) (fun h => by rw [Bd.returns] at h; cases h)
  refine ⟨_, _, pre0 _ ?_, hrun, hended, _, _, rfl, ?_, ⟨_, rfl⟩, hW, hsame.mono (by decide) (by decide)⟩
  · show Steps p.tables e below (s₁.setTop (mkF m 0 #[.val (.int cc)] [])) _
    refine XS.iloadN X0.here hx rfl (hb hby d15_0) rfl ?_
    refine XS.bipush X0.here hx rfl (hb hby d15_1) ?_
    refine XS.icmpNo X0.here hx rfl (hb hby d15_3) rfl (flt (hb0 : ¬ (cc < (32 : Int32)))).1 ?_
    refine XS.iloadN X0.here hx rfl (hb hby d15_6) rfl ?_
    refine XS.sipush X0.here hx rfl (hb hby d15_7) ?_
    refine XS.icmpYes X0.here hx rfl (pc0 := 10) (pc' := 27) rfl (hb hby d15_10) rfl (teq (hb1 : cc = (133 : Int32))).1 (by decide) (by decide) ?_
    refine XS.iconst X0.here hx rfl (hb hby d15_27) ?_
    refine XS.goto X0.here hx rfl (pc0 := 28) (pc' := 32) rfl (hb hby d15_28) (by decide) (by decide) ?_
    show Steps p.tables e below (s₁.setTop (mkF m 32 #[.val (.int cc)] [(.int (1 : Int32))])) _
    exact retN X0 hx (t := .boolean) Bd.returns (by simp) (hb hby d15_32) hr
  · show own_Q (some (.int (1 : Int32))) h0 n0 _ s₁.heap _
    rw [e0]
    exact ⟨rfl, N0, rfl⟩
theorem d15_13 : decode prog_16_method_3_code 13 = .ok (.iload_n 0, 1) := by decide +kernel
theorem d15_14 : decode prog_16_method_3_code 14 = .ok (.sipush 8232, 3) := by decide +kernel
theorem d15_17 : decode prog_16_method_3_code 17 = .ok (.if_icmp .eq 10, 3) := by decide +kernel
theorem r_bl2 (l : Launch) (Z : State) (a0 : Array Value) (hw : own_HW a0 Z) (ws : List Jvm.Cond) (cs1 : Int32) (fv : Value) (h0 : Heap) (n0 : Nat) (O0 : Old Z n0 h0) (G : own_Ctx Z Z.heap cs1 fv) (cc : Int32) (hb0 : ¬ (cc < (32 : Int32))) (hb1 : ¬ (cc = (133 : Int32))) (hb2 : cc = (8232 : Int32)) :
    own_M l Y28_ (head1 (Jvm.Cond.code Y28_ prog_16_method_3_code 1 (some .boolean) :: ws) (own_rm_ 0 0 0 0)) #[(.int cc)] Z h0 n0 (own_Q (some (.int (1 : Int32)))) (own_rm_ 0 0 0 0).cells (own_rm_ 0 0 0 0).slots := by
  have G0 := G
  obtain ⟨S_CS, N_CS, S_F, R_F, S_AD, S_HI, S_LO⟩ := G
  refine MetFree.of_bodySF (plainFor_of_name pn_4) hisR ?_
  intro p e s m args below meth c s₁ Bd hml0 hP hK
  obtain ⟨rfl, hZ, hh⟩ := hP
  have hx := Bd.exec
  have hby := Bd.bytes
  have hml : c.maxLocals = 1 := hml0
  have hown : s.vm.findClass "com/example/rubrique/rubrique/cli/OneLine" = some m.cls := findClass_of_methodNamed Bd.named
  have hnm := (name_of_methodNamed Bd.named Bd.method).1
  have X0 : Stand p l e (own_rm_ 0 0 0 0) s m #[(.int cc)] below meth c s₁ [] 0 0 := Stand.of_body Bd
  have e0 : s₁.heap = h0 := by rw [← hh, Bd.state]; rfl
  have N0 := Fr.nil n0
  have pre0 := own_pre (tb := p.tables) (e := e) (below := below) (T := s₁) (ef_15_30 m cc)
  obtain ⟨fs, hr, hrun, hended, hW, hsame⟩ := X0.leave (v := some (.int (1 : Int32))) (fun h => by rw [Bd.returns] at h; cases h)
  refine ⟨_, _, pre0 _ ?_, hrun, hended, _, _, rfl, ?_, ⟨_, rfl⟩, hW, hsame.mono (by decide) (by decide)⟩
  · show Steps p.tables e below (s₁.setTop (mkF m 0 #[.val (.int cc)] [])) _
    refine XS.iloadN X0.here hx rfl (hb hby d15_0) rfl ?_
    refine XS.bipush X0.here hx rfl (hb hby d15_1) ?_
    refine XS.icmpNo X0.here hx rfl (hb hby d15_3) rfl (flt (hb0 : ¬ (cc < (32 : Int32)))).1 ?_
    refine XS.iloadN X0.here hx rfl (hb hby d15_6) rfl ?_
    refine XS.sipush X0.here hx rfl (hb hby d15_7) ?_
    refine XS.icmpNo X0.here hx rfl (hb hby d15_10) rfl (feq (hb1 : ¬ (cc = (133 : Int32)))).1 ?_
    refine XS.iloadN X0.here hx rfl (hb hby d15_13) rfl ?_
    refine XS.sipush X0.here hx rfl (hb hby d15_14) ?_
    refine XS.icmpYes X0.here hx rfl (pc0 := 17) (pc' := 27) rfl (hb hby d15_17) rfl (teq (hb2 : cc = (8232 : Int32))).1 (by decide) (by decide) ?_
    refine XS.iconst X0.here hx rfl (hb hby d15_27) ?_
    show Steps p.tables e below (s₁.setTop (mkF m 28 #[.val (.int cc)] [(.int (1 : Int32))])) _
    refine XS.goto X0.here hx rfl (pc0 := 28) (pc' := 32) rfl (hb hby d15_28) (by decide) (by decide) ?_
    show Steps p.tables e below (s₁.setTop (mkF m 32 #[.val (.int cc)] [(.int (1 : Int32))])) _
    exact retN X0 hx (t := .boolean) Bd.returns (by simp) (hb hby d15_32) hr
  · show own_Q (some (.int (1 : Int32))) h0 n0 _ s₁.heap _
    rw [e0]
    exact ⟨rfl, N0, rfl⟩
theorem d15_20 : decode prog_16_method_3_code 20 = .ok (.iload_n 0, 1) := by decide +kernel
theorem d15_21 : decode prog_16_method_3_code 21 = .ok (.sipush 8233, 3) := by decide +kernel
theorem d15_24 : decode prog_16_method_3_code 24 = .ok (.if_icmp .ne 7, 3) := by decide +kernel
theorem r_bl3 (l : Launch) (Z : State) (a0 : Array Value) (hw : own_HW a0 Z) (ws : List Jvm.Cond) (cs1 : Int32) (fv : Value) (h0 : Heap) (n0 : Nat) (O0 : Old Z n0 h0) (G : own_Ctx Z Z.heap cs1 fv) (cc : Int32) (hb0 : ¬ (cc < (32 : Int32))) (hb1 : ¬ (cc = (133 : Int32))) (hb2 : ¬ (cc = (8232 : Int32))) (hb3 : cc = (8233 : Int32)) :
    own_M l Y28_ (head1 (Jvm.Cond.code Y28_ prog_16_method_3_code 1 (some .boolean) :: ws) (own_rm_ 0 0 0 0)) #[(.int cc)] Z h0 n0 (own_Q (some (.int (1 : Int32)))) (own_rm_ 0 0 0 0).cells (own_rm_ 0 0 0 0).slots := by
  have G0 := G
  obtain ⟨S_CS, N_CS, S_F, R_F, S_AD, S_HI, S_LO⟩ := G
  refine MetFree.of_bodySF (plainFor_of_name pn_4) hisR ?_
  intro p e s m args below meth c s₁ Bd hml0 hP hK
  obtain ⟨rfl, hZ, hh⟩ := hP
  have hx := Bd.exec
  have hby := Bd.bytes
  have hml : c.maxLocals = 1 := hml0
  have hown : s.vm.findClass "com/example/rubrique/rubrique/cli/OneLine" = some m.cls := findClass_of_methodNamed Bd.named
  have hnm := (name_of_methodNamed Bd.named Bd.method).1
  have X0 : Stand p l e (own_rm_ 0 0 0 0) s m #[(.int cc)] below meth c s₁ [] 0 0 := Stand.of_body Bd
  have e0 : s₁.heap = h0 := by rw [← hh, Bd.state]; rfl
  have N0 := Fr.nil n0
  have pre0 := own_pre (tb := p.tables) (e := e) (below := below) (T := s₁) (ef_15_30 m cc)
  obtain ⟨fs, hr, hrun, hended, hW, hsame⟩ := X0.leave (v := some (.int (1 : Int32))) (fun h => by rw [Bd.returns] at h; cases h)
  refine ⟨_, _, pre0 _ ?_, hrun, hended, _, _, rfl, ?_, ⟨_, rfl⟩, hW, hsame.mono (by decide) (by decide)⟩
  · show Steps p.tables e below (s₁.setTop (mkF m 0 #[.val (.int cc)] [])) _
    refine XS.iloadN X0.here hx rfl (hb hby d15_0) rfl ?_
    refine XS.bipush X0.here hx rfl (hb hby d15_1) ?_
    refine XS.icmpNo X0.here hx rfl (hb hby d15_3) rfl (flt (hb0 : ¬ (cc < (32 : Int32)))).1 ?_
    refine XS.iloadN X0.here hx rfl (hb hby d15_6) rfl ?_
    refine XS.sipush X0.here hx rfl (hb hby d15_7) ?_
    refine XS.icmpNo X0.here hx rfl (hb hby d15_10) rfl (feq (hb1 : ¬ (cc = (133 : Int32)))).1 ?_
    refine XS.iloadN X0.here hx rfl (hb hby d15_13) rfl ?_
    refine XS.sipush X0.here hx rfl (hb hby d15_14) ?_
    refine XS.icmpNo X0.here hx rfl (hb hby d15_17) rfl (feq (hb2 : ¬ (cc = (8232 : Int32)))).1 ?_
    refine XS.iloadN X0.here hx rfl (hb hby d15_20) rfl ?_
    show Steps p.tables e below (s₁.setTop (mkF m 21 #[.val (.int cc)] [(.int cc)])) _
    refine XS.sipush X0.here hx rfl (hb hby d15_21) ?_
    refine XS.icmpNo X0.here hx rfl (hb hby d15_24) rfl (teq (hb3 : cc = (8233 : Int32))).2 ?_
    refine XS.iconst X0.here hx rfl (hb hby d15_27) ?_
    refine XS.goto X0.here hx rfl (pc0 := 28) (pc' := 32) rfl (hb hby d15_28) (by decide) (by decide) ?_
    show Steps p.tables e below (s₁.setTop (mkF m 32 #[.val (.int cc)] [(.int (1 : Int32))])) _
    exact retN X0 hx (t := .boolean) Bd.returns (by simp) (hb hby d15_32) hr
  · show own_Q (some (.int (1 : Int32))) h0 n0 _ s₁.heap _
    rw [e0]
    exact ⟨rfl, N0, rfl⟩
theorem d15_31 : decode prog_16_method_3_code 31 = .ok (.iconst 0, 1) := by decide +kernel
theorem r_bl4 (l : Launch) (Z : State) (a0 : Array Value) (hw : own_HW a0 Z) (ws : List Jvm.Cond) (cs1 : Int32) (fv : Value) (h0 : Heap) (n0 : Nat) (O0 : Old Z n0 h0) (G : own_Ctx Z Z.heap cs1 fv) (cc : Int32) (hb0 : ¬ (cc < (32 : Int32))) (hb1 : ¬ (cc = (133 : Int32))) (hb2 : ¬ (cc = (8232 : Int32))) (hb3 : ¬ (cc = (8233 : Int32))) :
    own_M l Y28_ (head1 (Jvm.Cond.code Y28_ prog_16_method_3_code 1 (some .boolean) :: ws) (own_rm_ 0 0 0 0)) #[(.int cc)] Z h0 n0 (own_Q (some (.int (0 : Int32)))) (own_rm_ 0 0 0 0).cells (own_rm_ 0 0 0 0).slots := by
  have G0 := G
  obtain ⟨S_CS, N_CS, S_F, R_F, S_AD, S_HI, S_LO⟩ := G
  refine MetFree.of_bodySF (plainFor_of_name pn_4) hisR ?_
  intro p e s m args below meth c s₁ Bd hml0 hP hK
  obtain ⟨rfl, hZ, hh⟩ := hP
  have hx := Bd.exec
  have hby := Bd.bytes
  have hml : c.maxLocals = 1 := hml0
  have hown : s.vm.findClass "com/example/rubrique/rubrique/cli/OneLine" = some m.cls := findClass_of_methodNamed Bd.named
  have hnm := (name_of_methodNamed Bd.named Bd.method).1
  have X0 : Stand p l e (own_rm_ 0 0 0 0) s m #[(.int cc)] below meth c s₁ [] 0 0 := Stand.of_body Bd
  have e0 : s₁.heap = h0 := by rw [← hh, Bd.state]; rfl
  have N0 := Fr.nil n0
  have pre0 := own_pre (tb := p.tables) (e := e) (below := below) (T := s₁) (ef_15_30 m cc)
  obtain ⟨fs, hr, hrun, hended, hW, hsame⟩ := X0.leave (v := some (.int (0 : Int32))) (fun h => by rw [Bd.returns] at h; cases h)
  refine ⟨_, _, pre0 _ ?_, hrun, hended, _, _, rfl, ?_, ⟨_, rfl⟩, hW, hsame.mono (by decide) (by decide)⟩
  · show Steps p.tables e below (s₁.setTop (mkF m 0 #[.val (.int cc)] [])) _
    refine XS.iloadN X0.here hx rfl (hb hby d15_0) rfl ?_
    refine XS.bipush X0.here hx rfl (hb hby d15_1) ?_
    refine XS.icmpNo X0.here hx rfl (hb hby d15_3) rfl (flt (hb0 : ¬ (cc < (32 : Int32)))).1 ?_
    refine XS.iloadN X0.here hx rfl (hb hby d15_6) rfl ?_
    refine XS.sipush X0.here hx rfl (hb hby d15_7) ?_
    refine XS.icmpNo X0.here hx rfl (hb hby d15_10) rfl (feq (hb1 : ¬ (cc = (133 : Int32)))).1 ?_
    refine XS.iloadN X0.here hx rfl (hb hby d15_13) rfl ?_
    refine XS.sipush X0.here hx rfl (hb hby d15_14) ?_
    refine XS.icmpNo X0.here hx rfl (hb hby d15_17) rfl (feq (hb2 : ¬ (cc = (8232 : Int32)))).1 ?_
    refine XS.iloadN X0.here hx rfl (hb hby d15_20) rfl ?_
    show Steps p.tables e below (s₁.setTop (mkF m 21 #[.val (.int cc)] [(.int cc)])) _
    refine XS.sipush X0.here hx rfl (hb hby d15_21) ?_
    refine XS.icmpYes X0.here hx rfl (pc0 := 24) (pc' := 31) rfl (hb hby d15_24) rfl (feq (hb3 : ¬ (cc = (8233 : Int32)))).2 (by decide) (by decide) ?_
    refine XS.iconst X0.here hx rfl (hb hby d15_31) ?_
    show Steps p.tables e below (s₁.setTop (mkF m 32 #[.val (.int cc)] [(.int (0 : Int32))])) _
    exact retN X0 hx (t := .boolean) Bd.returns (by simp) (hb hby d15_32) hr
  · show own_Q (some (.int (0 : Int32))) h0 n0 _ s₁.heap _
    rw [e0]
    exact ⟨rfl, N0, rfl⟩
theorem r_blT (l : Launch) (Z : State) (a0 : Array Value) (hw : own_HW a0 Z) (ws : List Jvm.Cond) (cs1 : Int32) (fv : Value) (h0 : Heap) (n0 : Nat) (O0 : Old Z n0 h0) (G : own_Ctx Z Z.heap cs1 fv) (cc : Int32) (hb : own_brk cc) :
    own_M l Y28_ (head1 (Jvm.Cond.code Y28_ prog_16_method_3_code 1 (some .boolean) :: ws) (own_rm_ 0 0 0 0)) #[(.int cc)] Z h0 n0 (own_Q (some (.int (1 : Int32)))) (own_rm_ 0 0 0 0).cells (own_rm_ 0 0 0 0).slots := by
  rcases Classical.em (cc < (32 : Int32)) with hb0 | hb0
  · exact r_bl0 l Z a0 hw ws cs1 fv h0 n0 O0 G cc hb0
  rcases Classical.em (cc = (133 : Int32)) with hb1 | hb1
  · exact r_bl1 l Z a0 hw ws cs1 fv h0 n0 O0 G cc hb0 hb1
  rcases Classical.em (cc = (8232 : Int32)) with hb2 | hb2
  · exact r_bl2 l Z a0 hw ws cs1 fv h0 n0 O0 G cc hb0 hb1 hb2
  rcases Classical.em (cc = (8233 : Int32)) with hb3 | hb3
  · exact r_bl3 l Z a0 hw ws cs1 fv h0 n0 O0 G cc hb0 hb1 hb2 hb3
  exact absurd hb (fun q => q.elim hb0 (fun q => q.elim hb1 (fun q => q.elim hb2 hb3)))
theorem r_blF (l : Launch) (Z : State) (a0 : Array Value) (hw : own_HW a0 Z) (ws : List Jvm.Cond) (cs1 : Int32) (fv : Value) (h0 : Heap) (n0 : Nat) (O0 : Old Z n0 h0) (G : own_Ctx Z Z.heap cs1 fv) (cc : Int32) (hb : ¬ own_brk cc) :
    own_M l Y28_ (head1 (Jvm.Cond.code Y28_ prog_16_method_3_code 1 (some .boolean) :: ws) (own_rm_ 0 0 0 0)) #[(.int cc)] Z h0 n0 (own_Q (some (.int (0 : Int32)))) (own_rm_ 0 0 0 0).cells (own_rm_ 0 0 0 0).slots := by
  exact r_bl4 l Z a0 hw ws cs1 fv h0 n0 O0 G cc (fun q => hb (Or.inl q)) (fun q => hb (Or.inr (Or.inl q))) (fun q => hb (Or.inr (Or.inr (Or.inl q)))) (fun q => hb (Or.inr (Or.inr (Or.inr q))))
theorem d17_0 : decode method_3_code 0 = .ok (.iload_n 0, 1) := by decide +kernel
theorem d17_1 : decode method_3_code 1 = .ok (.istore_n 1, 1) := by decide +kernel
theorem d17_2 : decode method_3_code 2 = .ok (.iload_n 1, 1) := by decide +kernel
theorem d17_3 : decode method_3_code 3 = .ok (.bipush 31, 2) := by decide +kernel
theorem d17_5 : decode method_3_code 5 = .ok (.if_icmp .gt 5, 3) := by decide +kernel
theorem d17_8 : decode method_3_code 8 = .ok (.iconst 1, 1) := by decide +kernel
theorem d17_9 : decode method_3_code 9 = .ok (.ireturn, 1) := by decide +kernel
theorem ef_17_31 (m : MethodId) (x0 : Int32) : entryFrame m #[(.int x0)] 2 = mkF m 0 #[.val (.int x0), .unset] [] := by first | (simp [entryFrame, mkF, argsToLocals, Value.category]; done) | rfl
theorem pn_5 : plainName "com/example/rubrique/rubrique/cli/OneLineOfPinLaw" = true := by first | (simp [plainName, overriddenIn]; done) | decide +kernel
theorem r_ib0 (l : Launch) (Z : State) (a0 : Array Value) (hw : own_HW a0 Z) (ws : List Jvm.Cond) (cs1 : Int32) (fv : Value) (h0 : Heap) (n0 : Nat) (O0 : Old Z n0 h0) (G : own_Ctx Z Z.heap cs1 fv) (cc : Int32) (hb0 : cc < (32 : Int32)) :
    own_M l Y29_ (head1 (Jvm.Cond.code Y29_ method_3_code 2 (some .boolean) :: ws) (own_rm_ 0 0 0 0)) #[(.int cc)] Z h0 n0 (own_Q (some (.int (1 : Int32)))) (own_rm_ 0 0 0 0).cells (own_rm_ 0 0 0 0).slots := by
  have G0 := G
  obtain ⟨S_CS, N_CS, S_F, R_F, S_AD, S_HI, S_LO⟩ := G
  refine MetFree.of_bodySF (plainFor_of_name pn_5) hisR ?_
  intro p e s m args below meth c s₁ Bd hml0 hP hK
  obtain ⟨rfl, hZ, hh⟩ := hP
  have hx := Bd.exec
  have hby := Bd.bytes
  have hml : c.maxLocals = 2 := hml0
  have hown : s.vm.findClass "com/example/rubrique/rubrique/cli/OneLineOfPinLaw" = some m.cls := findClass_of_methodNamed Bd.named
  have hnm := (name_of_methodNamed Bd.named Bd.method).1
  have X0 : Stand p l e (own_rm_ 0 0 0 0) s m #[(.int cc)] below meth c s₁ [] 0 0 := Stand.of_body Bd
  have e0 : s₁.heap = h0 := by rw [← hh, Bd.state]; rfl
  have N0 := Fr.nil n0
  have pre0 := own_pre (tb := p.tables) (e := e) (below := below) (T := s₁) (ef_17_31 m cc)
  obtain ⟨fs, hr, hrun, hended, hW, hsame⟩ := X0.leave (v := some (.int (1 : Int32))) (fun h => by rw [Bd.returns] at h; cases h)
  refine ⟨_, _, pre0 _ ?_, hrun, hended, _, _, rfl, ?_, ⟨_, rfl⟩, hW, hsame.mono (by decide) (by decide)⟩
  · show Steps p.tables e below (s₁.setTop (mkF m 0 #[.val (.int cc), .unset] [])) _
    refine XS.iloadN X0.here hx rfl (hb hby d17_0) rfl ?_
    refine XS.istoreN X0.here hx rfl (hb hby d17_1) rfl (l' := #[.val (.int cc), .val (.int cc)]) rfl ?_
    refine XS.iloadN X0.here hx rfl (hb hby d17_2) rfl ?_
    refine XS.bipush X0.here hx rfl (hb hby d17_3) ?_
    refine XS.icmpNo X0.here hx rfl (hb hby d17_5) rfl (flt ((own_31.mp hb0) : ¬ ((31 : Int32) < cc))).2.2.1 ?_
    refine XS.iconst X0.here hx rfl (hb hby d17_8) ?_
    show Steps p.tables e below (s₁.setTop (mkF m 9 #[.val (.int cc), .val (.int cc)] [(.int (1 : Int32))])) _
    exact retN X0 hx (t := .boolean) Bd.returns (by simp) (hb hby d17_9) hr
  · show own_Q (some (.int (1 : Int32))) h0 n0 _ s₁.heap _
    rw [e0]
    exact ⟨rfl, N0, rfl⟩
theorem d17_10 : decode method_3_code 10 = .ok (.iload_n 1, 1) := by decide +kernel
theorem d17_11 : decode method_3_code 11 = .ok (.sipush 133, 3) := by decide +kernel
theorem d17_14 : decode method_3_code 14 = .ok (.if_icmp .ne 5, 3) := by decide +kernel
theorem d17_17 : decode method_3_code 17 = .ok (.iconst 1, 1) := by decide +kernel
theorem d17_18 : decode method_3_code 18 = .ok (.ireturn, 1) := by decide +kernel
theorem r_ib1 (l : Launch) (Z : State) (a0 : Array Value) (hw : own_HW a0 Z) (ws : List Jvm.Cond) (cs1 : Int32) (fv : Value) (h0 : Heap) (n0 : Nat) (O0 : Old Z n0 h0) (G : own_Ctx Z Z.heap cs1 fv) (cc : Int32) (hb0 : ¬ (cc < (32 : Int32))) (hb1 : cc = (133 : Int32)) :
    own_M l Y29_ (head1 (Jvm.Cond.code Y29_ method_3_code 2 (some .boolean) :: ws) (own_rm_ 0 0 0 0)) #[(.int cc)] Z h0 n0 (own_Q (some (.int (1 : Int32)))) (own_rm_ 0 0 0 0).cells (own_rm_ 0 0 0 0).slots := by
  have G0 := G
  obtain ⟨S_CS, N_CS, S_F, R_F, S_AD, S_HI, S_LO⟩ := G
  refine MetFree.of_bodySF (plainFor_of_name pn_5) hisR ?_
  intro p e s m args below meth c s₁ Bd hml0 hP hK
  obtain ⟨rfl, hZ, hh⟩ := hP
  have hx := Bd.exec
  have hby := Bd.bytes
  have hml : c.maxLocals = 2 := hml0
  have hown : s.vm.findClass "com/example/rubrique/rubrique/cli/OneLineOfPinLaw" = some m.cls := findClass_of_methodNamed Bd.named
  have hnm := (name_of_methodNamed Bd.named Bd.method).1
  have X0 : Stand p l e (own_rm_ 0 0 0 0) s m #[(.int cc)] below meth c s₁ [] 0 0 := Stand.of_body Bd
  have e0 : s₁.heap = h0 := by rw [← hh, Bd.state]; rfl
  have N0 := Fr.nil n0
  have pre0 := own_pre (tb := p.tables) (e := e) (below := below) (T := s₁) (ef_17_31 m cc)
  obtain ⟨fs, hr, hrun, hended, hW, hsame⟩ := X0.leave (v := some (.int (1 : Int32))) (fun h => by rw [Bd.returns] at h; cases h)
  refine ⟨_, _, pre0 _ ?_, hrun, hended, _, _, rfl, ?_, ⟨_, rfl⟩, hW, hsame.mono (by decide) (by decide)⟩
  · show Steps p.tables e below (s₁.setTop (mkF m 0 #[.val (.int cc), .unset] [])) _
    refine XS.iloadN X0.here hx rfl (hb hby d17_0) rfl ?_
    refine XS.istoreN X0.here hx rfl (hb hby d17_1) rfl (l' := #[.val (.int cc), .val (.int cc)]) rfl ?_
    refine XS.iloadN X0.here hx rfl (hb hby d17_2) rfl ?_
    refine XS.bipush X0.here hx rfl (hb hby d17_3) ?_
    refine XS.icmpYes X0.here hx rfl (pc0 := 5) (pc' := 10) rfl (hb hby d17_5) rfl (tlt ((Classical.byContradiction fun q => hb0 (own_31.mpr q)) : (31 : Int32) < cc)).2.2.1 (by decide) (by decide) ?_
    refine XS.iloadN X0.here hx rfl (hb hby d17_10) rfl ?_
    refine XS.sipush X0.here hx rfl (hb hby d17_11) ?_
    refine XS.icmpNo X0.here hx rfl (hb hby d17_14) rfl (teq (hb1 : cc = (133 : Int32))).2 ?_
    refine XS.iconst X0.here hx rfl (hb hby d17_17) ?_
    show Steps p.tables e below (s₁.setTop (mkF m 18 #[.val (.int cc), .val (.int cc)] [(.int (1 : Int32))])) _
    exact retN X0 hx (t := .boolean) Bd.returns (by simp) (hb hby d17_18) hr
  · show own_Q (some (.int (1 : Int32))) h0 n0 _ s₁.heap _
    rw [e0]
    exact ⟨rfl, N0, rfl⟩
theorem d17_19 : decode method_3_code 19 = .ok (.iload_n 1, 1) := by decide +kernel
theorem d17_20 : decode method_3_code 20 = .ok (.sipush 8232, 3) := by decide +kernel
theorem d17_23 : decode method_3_code 23 = .ok (.if_icmp .ne 5, 3) := by decide +kernel
theorem d17_26 : decode method_3_code 26 = .ok (.iconst 1, 1) := by decide +kernel
theorem d17_27 : decode method_3_code 27 = .ok (.ireturn, 1) := by decide +kernel
theorem r_ib2 (l : Launch) (Z : State) (a0 : Array Value) (hw : own_HW a0 Z) (ws : List Jvm.Cond) (cs1 : Int32) (fv : Value) (h0 : Heap) (n0 : Nat) (O0 : Old Z n0 h0) (G : own_Ctx Z Z.heap cs1 fv) (cc : Int32) (hb0 : ¬ (cc < (32 : Int32))) (hb1 : ¬ (cc = (133 : Int32))) (hb2 : cc = (8232 : Int32)) :
    own_M l Y29_ (head1 (Jvm.Cond.code Y29_ method_3_code 2 (some .boolean) :: ws) (own_rm_ 0 0 0 0)) #[(.int cc)] Z h0 n0 (own_Q (some (.int (1 : Int32)))) (own_rm_ 0 0 0 0).cells (own_rm_ 0 0 0 0).slots := by
  have G0 := G
  obtain ⟨S_CS, N_CS, S_F, R_F, S_AD, S_HI, S_LO⟩ := G
  refine MetFree.of_bodySF (plainFor_of_name pn_5) hisR ?_
  intro p e s m args below meth c s₁ Bd hml0 hP hK
  obtain ⟨rfl, hZ, hh⟩ := hP
  have hx := Bd.exec
  have hby := Bd.bytes
  have hml : c.maxLocals = 2 := hml0
  have hown : s.vm.findClass "com/example/rubrique/rubrique/cli/OneLineOfPinLaw" = some m.cls := findClass_of_methodNamed Bd.named
  have hnm := (name_of_methodNamed Bd.named Bd.method).1
  have X0 : Stand p l e (own_rm_ 0 0 0 0) s m #[(.int cc)] below meth c s₁ [] 0 0 := Stand.of_body Bd
  have e0 : s₁.heap = h0 := by rw [← hh, Bd.state]; rfl
  have N0 := Fr.nil n0
  have pre0 := own_pre (tb := p.tables) (e := e) (below := below) (T := s₁) (ef_17_31 m cc)
  obtain ⟨fs, hr, hrun, hended, hW, hsame⟩ := X0.leave (v := some (.int (1 : Int32))) (fun h => by rw [Bd.returns] at h; cases h)
  refine ⟨_, _, pre0 _ ?_, hrun, hended, _, _, rfl, ?_, ⟨_, rfl⟩, hW, hsame.mono (by decide) (by decide)⟩
  · show Steps p.tables e below (s₁.setTop (mkF m 0 #[.val (.int cc), .unset] [])) _
    refine XS.iloadN X0.here hx rfl (hb hby d17_0) rfl ?_
    refine XS.istoreN X0.here hx rfl (hb hby d17_1) rfl (l' := #[.val (.int cc), .val (.int cc)]) rfl ?_
    refine XS.iloadN X0.here hx rfl (hb hby d17_2) rfl ?_
    refine XS.bipush X0.here hx rfl (hb hby d17_3) ?_
    refine XS.icmpYes X0.here hx rfl (pc0 := 5) (pc' := 10) rfl (hb hby d17_5) rfl (tlt ((Classical.byContradiction fun q => hb0 (own_31.mpr q)) : (31 : Int32) < cc)).2.2.1 (by decide) (by decide) ?_
    refine XS.iloadN X0.here hx rfl (hb hby d17_10) rfl ?_
    refine XS.sipush X0.here hx rfl (hb hby d17_11) ?_
    refine XS.icmpYes X0.here hx rfl (pc0 := 14) (pc' := 19) rfl (hb hby d17_14) rfl (feq (hb1 : ¬ (cc = (133 : Int32)))).2 (by decide) (by decide) ?_
    refine XS.iloadN X0.here hx rfl (hb hby d17_19) rfl ?_
    refine XS.sipush X0.here hx rfl (hb hby d17_20) ?_
    show Steps p.tables e below (s₁.setTop (mkF m 23 #[.val (.int cc), .val (.int cc)] [(.int (8232 : Int32)), (.int cc)])) _
    refine XS.icmpNo X0.here hx rfl (hb hby d17_23) rfl (teq (hb2 : cc = (8232 : Int32))).2 ?_
    refine XS.iconst X0.here hx rfl (hb hby d17_26) ?_
    show Steps p.tables e below (s₁.setTop (mkF m 27 #[.val (.int cc), .val (.int cc)] [(.int (1 : Int32))])) _
    exact retN X0 hx (t := .boolean) Bd.returns (by simp) (hb hby d17_27) hr
  · show own_Q (some (.int (1 : Int32))) h0 n0 _ s₁.heap _
    rw [e0]
    exact ⟨rfl, N0, rfl⟩
theorem d17_28 : decode method_3_code 28 = .ok (.iload_n 1, 1) := by decide +kernel
theorem d17_29 : decode method_3_code 29 = .ok (.sipush 8233, 3) := by decide +kernel
theorem d17_32 : decode method_3_code 32 = .ok (.if_icmp .ne 7, 3) := by decide +kernel
theorem d17_35 : decode method_3_code 35 = .ok (.iconst 1, 1) := by decide +kernel
theorem d17_36 : decode method_3_code 36 = .ok (.goto 4, 3) := by decide +kernel
theorem d17_40 : decode method_3_code 40 = .ok (.ireturn, 1) := by decide +kernel
theorem r_ib3 (l : Launch) (Z : State) (a0 : Array Value) (hw : own_HW a0 Z) (ws : List Jvm.Cond) (cs1 : Int32) (fv : Value) (h0 : Heap) (n0 : Nat) (O0 : Old Z n0 h0) (G : own_Ctx Z Z.heap cs1 fv) (cc : Int32) (hb0 : ¬ (cc < (32 : Int32))) (hb1 : ¬ (cc = (133 : Int32))) (hb2 : ¬ (cc = (8232 : Int32))) (hb3 : cc = (8233 : Int32)) :
    own_M l Y29_ (head1 (Jvm.Cond.code Y29_ method_3_code 2 (some .boolean) :: ws) (own_rm_ 0 0 0 0)) #[(.int cc)] Z h0 n0 (own_Q (some (.int (1 : Int32)))) (own_rm_ 0 0 0 0).cells (own_rm_ 0 0 0 0).slots := by
  have G0 := G
  obtain ⟨S_CS, N_CS, S_F, R_F, S_AD, S_HI, S_LO⟩ := G
  refine MetFree.of_bodySF (plainFor_of_name pn_5) hisR ?_
  intro p e s m args below meth c s₁ Bd hml0 hP hK
  obtain ⟨rfl, hZ, hh⟩ := hP
  have hx := Bd.exec
  have hby := Bd.bytes
  have hml : c.maxLocals = 2 := hml0
  have hown : s.vm.findClass "com/example/rubrique/rubrique/cli/OneLineOfPinLaw" = some m.cls := findClass_of_methodNamed Bd.named
  have hnm := (name_of_methodNamed Bd.named Bd.method).1
  have X0 : Stand p l e (own_rm_ 0 0 0 0) s m #[(.int cc)] below meth c s₁ [] 0 0 := Stand.of_body Bd
  have e0 : s₁.heap = h0 := by rw [← hh, Bd.state]; rfl
  have N0 := Fr.nil n0
  have pre0 := own_pre (tb := p.tables) (e := e) (below := below) (T := s₁) (ef_17_31 m cc)
  obtain ⟨fs, hr, hrun, hended, hW, hsame⟩ := X0.leave (v := some (.int (1 : Int32))) (fun h => by rw [Bd.returns] at h; cases h)
  refine ⟨_, _, pre0 _ ?_, hrun, hended, _, _, rfl, ?_, ⟨_, rfl⟩, hW, hsame.mono (by decide) (by decide)⟩
  · show Steps p.tables e below (s₁.setTop (mkF m 0 #[.val (.int cc), .unset] [])) _
    refine XS.iloadN X0.here hx rfl (hb hby d17_0) rfl ?_
    refine XS.istoreN X0.here hx rfl (hb hby d17_1) rfl (l' := #[.val (.int cc), .val (.int cc)]) rfl ?_
    refine XS.iloadN X0.here hx rfl (hb hby d17_2) rfl ?_
    refine XS.bipush X0.here hx rfl (hb hby d17_3) ?_
    refine XS.icmpYes X0.here hx rfl (pc0 := 5) (pc' := 10) rfl (hb hby d17_5) rfl (tlt ((Classical.byContradiction fun q => hb0 (own_31.mpr q)) : (31 : Int32) < cc)).2.2.1 (by decide) (by decide) ?_
    refine XS.iloadN X0.here hx rfl (hb hby d17_10) rfl ?_
    refine XS.sipush X0.here hx rfl (hb hby d17_11) ?_
    refine XS.icmpYes X0.here hx rfl (pc0 := 14) (pc' := 19) rfl (hb hby d17_14) rfl (feq (hb1 : ¬ (cc = (133 : Int32)))).2 (by decide) (by decide) ?_
    refine XS.iloadN X0.here hx rfl (hb hby d17_19) rfl ?_
    refine XS.sipush X0.here hx rfl (hb hby d17_20) ?_
    show Steps p.tables e below (s₁.setTop (mkF m 23 #[.val (.int cc), .val (.int cc)] [(.int (8232 : Int32)), (.int cc)])) _
    refine XS.icmpYes X0.here hx rfl (pc0 := 23) (pc' := 28) rfl (hb hby d17_23) rfl (feq (hb2 : ¬ (cc = (8232 : Int32)))).2 (by decide) (by decide) ?_
    refine XS.iloadN X0.here hx rfl (hb hby d17_28) rfl ?_
    refine XS.sipush X0.here hx rfl (hb hby d17_29) ?_
    refine XS.icmpNo X0.here hx rfl (hb hby d17_32) rfl (teq (hb3 : cc = (8233 : Int32))).2 ?_
    refine XS.iconst X0.here hx rfl (hb hby d17_35) ?_
    refine XS.goto X0.here hx rfl (pc0 := 36) (pc' := 40) rfl (hb hby d17_36) (by decide) (by decide) ?_
    show Steps p.tables e below (s₁.setTop (mkF m 40 #[.val (.int cc), .val (.int cc)] [(.int (1 : Int32))])) _
    exact retN X0 hx (t := .boolean) Bd.returns (by simp) (hb hby d17_40) hr
  · show own_Q (some (.int (1 : Int32))) h0 n0 _ s₁.heap _
    rw [e0]
    exact ⟨rfl, N0, rfl⟩
theorem d17_39 : decode method_3_code 39 = .ok (.iconst 0, 1) := by decide +kernel
theorem r_ib4 (l : Launch) (Z : State) (a0 : Array Value) (hw : own_HW a0 Z) (ws : List Jvm.Cond) (cs1 : Int32) (fv : Value) (h0 : Heap) (n0 : Nat) (O0 : Old Z n0 h0) (G : own_Ctx Z Z.heap cs1 fv) (cc : Int32) (hb0 : ¬ (cc < (32 : Int32))) (hb1 : ¬ (cc = (133 : Int32))) (hb2 : ¬ (cc = (8232 : Int32))) (hb3 : ¬ (cc = (8233 : Int32))) :
    own_M l Y29_ (head1 (Jvm.Cond.code Y29_ method_3_code 2 (some .boolean) :: ws) (own_rm_ 0 0 0 0)) #[(.int cc)] Z h0 n0 (own_Q (some (.int (0 : Int32)))) (own_rm_ 0 0 0 0).cells (own_rm_ 0 0 0 0).slots := by
  have G0 := G
  obtain ⟨S_CS, N_CS, S_F, R_F, S_AD, S_HI, S_LO⟩ := G
  refine MetFree.of_bodySF (plainFor_of_name pn_5) hisR ?_
  intro p e s m args below meth c s₁ Bd hml0 hP hK
  obtain ⟨rfl, hZ, hh⟩ := hP
  have hx := Bd.exec
  have hby := Bd.bytes
  have hml : c.maxLocals = 2 := hml0
  have hown : s.vm.findClass "com/example/rubrique/rubrique/cli/OneLineOfPinLaw" = some m.cls := findClass_of_methodNamed Bd.named
  have hnm := (name_of_methodNamed Bd.named Bd.method).1
  have X0 : Stand p l e (own_rm_ 0 0 0 0) s m #[(.int cc)] below meth c s₁ [] 0 0 := Stand.of_body Bd
  have e0 : s₁.heap = h0 := by rw [← hh, Bd.state]; rfl
  have N0 := Fr.nil n0
  have pre0 := own_pre (tb := p.tables) (e := e) (below := below) (T := s₁) (ef_17_31 m cc)
  obtain ⟨fs, hr, hrun, hended, hW, hsame⟩ := X0.leave (v := some (.int (0 : Int32))) (fun h => by rw [Bd.returns] at h; cases h)
  refine ⟨_, _, pre0 _ ?_, hrun, hended, _, _, rfl, ?_, ⟨_, rfl⟩, hW, hsame.mono (by decide) (by decide)⟩
  · show Steps p.tables e below (s₁.setTop (mkF m 0 #[.val (.int cc), .unset] [])) _
    refine XS.iloadN X0.here hx rfl (hb hby d17_0) rfl ?_
    refine XS.istoreN X0.here hx rfl (hb hby d17_1) rfl (l' := #[.val (.int cc), .val (.int cc)]) rfl ?_
    refine XS.iloadN X0.here hx rfl (hb hby d17_2) rfl ?_
    refine XS.bipush X0.here hx rfl (hb hby d17_3) ?_
    refine XS.icmpYes X0.here hx rfl (pc0 := 5) (pc' := 10) rfl (hb hby d17_5) rfl (tlt ((Classical.byContradiction fun q => hb0 (own_31.mpr q)) : (31 : Int32) < cc)).2.2.1 (by decide) (by decide) ?_
    refine XS.iloadN X0.here hx rfl (hb hby d17_10) rfl ?_
    refine XS.sipush X0.here hx rfl (hb hby d17_11) ?_
    refine XS.icmpYes X0.here hx rfl (pc0 := 14) (pc' := 19) rfl (hb hby d17_14) rfl (feq (hb1 : ¬ (cc = (133 : Int32)))).2 (by decide) (by decide) ?_
    refine XS.iloadN X0.here hx rfl (hb hby d17_19) rfl ?_
    refine XS.sipush X0.here hx rfl (hb hby d17_20) ?_
    show Steps p.tables e below (s₁.setTop (mkF m 23 #[.val (.int cc), .val (.int cc)] [(.int (8232 : Int32)), (.int cc)])) _
    refine XS.icmpYes X0.here hx rfl (pc0 := 23) (pc' := 28) rfl (hb hby d17_23) rfl (feq (hb2 : ¬ (cc = (8232 : Int32)))).2 (by decide) (by decide) ?_
    refine XS.iloadN X0.here hx rfl (hb hby d17_28) rfl ?_
    refine XS.sipush X0.here hx rfl (hb hby d17_29) ?_
    refine XS.icmpYes X0.here hx rfl (pc0 := 32) (pc' := 39) rfl (hb hby d17_32) rfl (feq (hb3 : ¬ (cc = (8233 : Int32)))).2 (by decide) (by decide) ?_
    refine XS.iconst X0.here hx rfl (hb hby d17_39) ?_
    show Steps p.tables e below (s₁.setTop (mkF m 40 #[.val (.int cc), .val (.int cc)] [(.int (0 : Int32))])) _
    exact retN X0 hx (t := .boolean) Bd.returns (by simp) (hb hby d17_40) hr
  · show own_Q (some (.int (0 : Int32))) h0 n0 _ s₁.heap _
    rw [e0]
    exact ⟨rfl, N0, rfl⟩
theorem r_ibT (l : Launch) (Z : State) (a0 : Array Value) (hw : own_HW a0 Z) (ws : List Jvm.Cond) (cs1 : Int32) (fv : Value) (h0 : Heap) (n0 : Nat) (O0 : Old Z n0 h0) (G : own_Ctx Z Z.heap cs1 fv) (cc : Int32) (hb : own_brk cc) :
    own_M l Y29_ (head1 (Jvm.Cond.code Y29_ method_3_code 2 (some .boolean) :: ws) (own_rm_ 0 0 0 0)) #[(.int cc)] Z h0 n0 (own_Q (some (.int (1 : Int32)))) (own_rm_ 0 0 0 0).cells (own_rm_ 0 0 0 0).slots := by
  rcases Classical.em (cc < (32 : Int32)) with hb0 | hb0
  · exact r_ib0 l Z a0 hw ws cs1 fv h0 n0 O0 G cc hb0
  rcases Classical.em (cc = (133 : Int32)) with hb1 | hb1
  · exact r_ib1 l Z a0 hw ws cs1 fv h0 n0 O0 G cc hb0 hb1
  rcases Classical.em (cc = (8232 : Int32)) with hb2 | hb2
  · exact r_ib2 l Z a0 hw ws cs1 fv h0 n0 O0 G cc hb0 hb1 hb2
  rcases Classical.em (cc = (8233 : Int32)) with hb3 | hb3
  · exact r_ib3 l Z a0 hw ws cs1 fv h0 n0 O0 G cc hb0 hb1 hb2 hb3
  exact absurd hb (fun q => q.elim hb0 (fun q => q.elim hb1 (fun q => q.elim hb2 hb3)))
theorem r_ibF (l : Launch) (Z : State) (a0 : Array Value) (hw : own_HW a0 Z) (ws : List Jvm.Cond) (cs1 : Int32) (fv : Value) (h0 : Heap) (n0 : Nat) (O0 : Old Z n0 h0) (G : own_Ctx Z Z.heap cs1 fv) (cc : Int32) (hb : ¬ own_brk cc) :
    own_M l Y29_ (head1 (Jvm.Cond.code Y29_ method_3_code 2 (some .boolean) :: ws) (own_rm_ 0 0 0 0)) #[(.int cc)] Z h0 n0 (own_Q (some (.int (0 : Int32)))) (own_rm_ 0 0 0 0).cells (own_rm_ 0 0 0 0).slots := by
  exact r_ib4 l Z a0 hw ws cs1 fv h0 n0 O0 G cc (fun q => hb (Or.inl q)) (fun q => hb (Or.inr (Or.inl q))) (fun q => hb (Or.inr (Or.inr (Or.inl q)))) (fun q => hb (Or.inr (Or.inr (Or.inr q))))
theorem d16_0 : decode method_4_code 0 = .ok (.iload_n 0, 1) := by decide +kernel
theorem d16_1 : decode method_4_code 1 = .ok (.invokestatic 32, 3) := by decide +kernel
theorem pd_20 : parseMethodDescriptor "(C)Z" = some ⟨[.char], some .boolean⟩ := by decide +kernel
theorem d16_4 : decode method_4_code 4 = .ok (.ifCond .eq 6, 3) := by decide +kernel
theorem d16_10 : decode method_4_code 10 = .ok (.iload_n 0, 1) := by decide +kernel
theorem d16_11 : decode method_4_code 11 = .ok (.ireturn, 1) := by decide +kernel
theorem ef_16_32 (m : MethodId) (x0 : Int32) : entryFrame m #[(.int x0)] 1 = mkF m 0 #[.val (.int x0)] [] := by first | (simp [entryFrame, mkF, argsToLocals, Value.category]; done) | rfl
theorem r_exF (l : Launch) (Z : State) (a0 : Array Value) (hw : own_HW a0 Z) (ws : List Jvm.Cond) (cs1 : Int32) (fv : Value) (h0 : Heap) (n0 : Nat) (O0 : Old Z n0 h0) (G : own_Ctx Z Z.heap cs1 fv) (cc : Int32) (hz : ¬ (cc < (0 : Int32))) (hm : ¬ ((65535 : Int32) < cc)) (hbk : ¬ own_brk cc) :
    own_M l Y30_ (head1 (Jvm.Cond.code Y30_ method_4_code 1 (some .char) :: ws) (own_rm_ 1 0 0 13)) #[(.int cc)] Z h0 n0 (own_Q (some (.int (own_exp cc)))) (own_rm_ 1 0 0 13).cells (own_rm_ 1 0 0 13).slots := by
  have G0 := G
  obtain ⟨S_CS, N_CS, S_F, R_F, S_AD, S_HI, S_LO⟩ := G
  refine MetFree.of_bodySF (plainFor_of_name pn_5) hisR ?_
  intro p e s m args below meth c s₁ Bd hml0 hP hK
  obtain ⟨rfl, hZ, hh⟩ := hP
  have hx := Bd.exec
  have hby := Bd.bytes
  have hml : c.maxLocals = 1 := hml0
  have hown : s.vm.findClass "com/example/rubrique/rubrique/cli/OneLineOfPinLaw" = some m.cls := findClass_of_methodNamed Bd.named
  have hnm := (name_of_methodNamed Bd.named Bd.method).1
  have X0 : Stand p l e (own_rm_ 1 0 0 13) s m #[(.int cc)] below meth c s₁ [] 0 0 := Stand.of_body Bd
  have e0 : s₁.heap = h0 := by rw [← hh, Bd.state]; rfl
  have N0 := Fr.nil n0
  have pre0 := own_pre (tb := p.tables) (e := e) (below := below) (T := s₁) (ef_16_32 m cc)
  obtain ⟨_, _, ⟨T1, L1, k1, n1⟩, -, X1, ⟨Lc1, hQ1, l1, y1, z1⟩, st1⟩ := Jvm.LawKit.callS X0 hx (y := Y29_) hown (mvT hZ (own_w hw 78 rfl)) (mvT hZ (own_w hw 79 rfl)) (mvT hZ (own_w hw 76 rfl)) (mvT hZ (own_w hw 80 rfl)) (by decide) (backOf (W := 0) (r_ibF l Z a0 hw [] cs1 fv h0 n0 O0 G0 cc hbk) hZ (own_w hw 80 rfl) (own_w hw 76 rfl) (by decide) (by decide)) (g := (mkF m 1 #[.val (.int cc)] [(.int cc)])) rfl (by rw [hml]; rfl) (argsL := [(.int cc)]) (rest := []) (lenOf pd_20 rfl) rfl (by show 2 * 0 + _ ≤ _; exact Nat.le_of_eq rfl) (hb hby d16_1) (fun _ _ => ⟨rfl, e0, (by decide : 0 + 0 ≤ _), (by decide : 0 + 0 ≤ _)⟩)
  dsimp only [Pt.U, Pt.locs, Pt.cells, Pt.slots] at X1 l1 y1 z1 st1 hQ1
  subst l1 y1 z1
  obtain ⟨rfl, N1q, e1⟩ := hQ1
  have N1 := Fr.app N0 N1q
  obtain ⟨fs, hr, hrun, hended, hW, hsame⟩ := X1.leave (v := some (.int (nar .char cc))) (fun h => by rw [Bd.returns] at h; cases h)
  refine ⟨_, _, pre0 _ ?_, hrun, hended, _, _, rfl, ?_, ⟨_, rfl⟩, hW, hsame.mono (by decide) (by decide)⟩
  · show Steps p.tables e below (s₁.setTop (mkF m 0 #[.val (.int cc)] [])) _
    refine XS.iloadN X0.here hx rfl (hb hby d16_0) rfl ?_
    show Steps p.tables e below (s₁.setTop (mkF m 1 #[.val (.int cc)] [(.int cc)])) _
    refine st1 _ ?_
    show Steps p.tables e below (T1.setTop (mkF m 4 #[.val (.int cc)] [(.int (0 : Int32))])) _
    refine XS.ifYes X1.here hx rfl (pc0 := 4) (pc' := 10) rfl (hb hby d16_4) rfl ((if0 _ _).trans (teq (by decide : (0 : Int32) = (0 : Int32))).1) (by decide) (by decide) ?_
    refine XS.iloadN X1.here hx rfl (hb hby d16_10) rfl ?_
    show Steps p.tables e below (T1.setTop (mkF m 11 #[.val (.int cc)] [(.int cc)])) _
    exact retN X1 hx (t := .char) Bd.returns (by simp) (hb hby d16_11) hr
  · show own_Q (some (.int (own_exp cc))) h0 n0 _ T1.heap _
    rw [e1]
    exact ⟨by rw [own_expF hbk]; exact own_nch hz hm, N1, rfl⟩
theorem d16_7 : decode method_4_code 7 = .ok (.bipush 32, 2) := by decide +kernel
theorem d16_9 : decode method_4_code 9 = .ok (.ireturn, 1) := by decide +kernel
theorem r_exT (l : Launch) (Z : State) (a0 : Array Value) (hw : own_HW a0 Z) (ws : List Jvm.Cond) (cs1 : Int32) (fv : Value) (h0 : Heap) (n0 : Nat) (O0 : Old Z n0 h0) (G : own_Ctx Z Z.heap cs1 fv) (cc : Int32) (hz : ¬ (cc < (0 : Int32))) (hm : ¬ ((65535 : Int32) < cc)) (hbk : own_brk cc) :
    own_M l Y30_ (head1 (Jvm.Cond.code Y30_ method_4_code 1 (some .char) :: ws) (own_rm_ 1 0 0 13)) #[(.int cc)] Z h0 n0 (own_Q (some (.int (own_exp cc)))) (own_rm_ 1 0 0 13).cells (own_rm_ 1 0 0 13).slots := by
  have G0 := G
  obtain ⟨S_CS, N_CS, S_F, R_F, S_AD, S_HI, S_LO⟩ := G
  refine MetFree.of_bodySF (plainFor_of_name pn_5) hisR ?_
  intro p e s m args below meth c s₁ Bd hml0 hP hK
  obtain ⟨rfl, hZ, hh⟩ := hP
  have hx := Bd.exec
  have hby := Bd.bytes
  have hml : c.maxLocals = 1 := hml0
  have hown : s.vm.findClass "com/example/rubrique/rubrique/cli/OneLineOfPinLaw" = some m.cls := findClass_of_methodNamed Bd.named
  have hnm := (name_of_methodNamed Bd.named Bd.method).1
  have X0 : Stand p l e (own_rm_ 1 0 0 13) s m #[(.int cc)] below meth c s₁ [] 0 0 := Stand.of_body Bd
  have e0 : s₁.heap = h0 := by rw [← hh, Bd.state]; rfl
  have N0 := Fr.nil n0
  have pre0 := own_pre (tb := p.tables) (e := e) (below := below) (T := s₁) (ef_16_32 m cc)
  obtain ⟨_, _, ⟨T1, L1, k1, n1⟩, -, X1, ⟨Lc1, hQ1, l1, y1, z1⟩, st1⟩ := Jvm.LawKit.callS X0 hx (y := Y29_) hown (mvT hZ (own_w hw 78 rfl)) (mvT hZ (own_w hw 79 rfl)) (mvT hZ (own_w hw 76 rfl)) (mvT hZ (own_w hw 80 rfl)) (by decide) (backOf (W := 0) (r_ibT l Z a0 hw [] cs1 fv h0 n0 O0 G0 cc hbk) hZ (own_w hw 80 rfl) (own_w hw 76 rfl) (by decide) (by decide)) (g := (mkF m 1 #[.val (.int cc)] [(.int cc)])) rfl (by rw [hml]; rfl) (argsL := [(.int cc)]) (rest := []) (lenOf pd_20 rfl) rfl (by show 2 * 0 + _ ≤ _; exact Nat.le_of_eq rfl) (hb hby d16_1) (fun _ _ => ⟨rfl, e0, (by decide : 0 + 0 ≤ _), (by decide : 0 + 0 ≤ _)⟩)
  dsimp only [Pt.U, Pt.locs, Pt.cells, Pt.slots] at X1 l1 y1 z1 st1 hQ1
  subst l1 y1 z1
  obtain ⟨rfl, N1q, e1⟩ := hQ1
  have N1 := Fr.app N0 N1q
  obtain ⟨fs, hr, hrun, hended, hW, hsame⟩ := X1.leave (v := some (.int (32 : Int32))) (fun h => by rw [Bd.returns] at h; cases h)
  refine ⟨_, _, pre0 _ ?_, hrun, hended, _, _, rfl, ?_, ⟨_, rfl⟩, hW, hsame.mono (by decide) (by decide)⟩
  · show Steps p.tables e below (s₁.setTop (mkF m 0 #[.val (.int cc)] [])) _
    refine XS.iloadN X0.here hx rfl (hb hby d16_0) rfl ?_
    show Steps p.tables e below (s₁.setTop (mkF m 1 #[.val (.int cc)] [(.int cc)])) _
    refine st1 _ ?_
    show Steps p.tables e below (T1.setTop (mkF m 4 #[.val (.int cc)] [(.int (1 : Int32))])) _
    refine XS.ifNo X1.here hx rfl (hb hby d16_4) rfl ((if0 _ _).trans (feq (by decide : ¬ ((1 : Int32) = (0 : Int32)))).1) ?_
    refine XS.bipush X1.here hx rfl (hb hby d16_7) ?_
    show Steps p.tables e below (T1.setTop (mkF m 9 #[.val (.int cc)] [(.int (32 : Int32))])) _
    exact retN X1 hx (t := .char) Bd.returns (by simp) (hb hby d16_9) hr
  · show own_Q (some (.int (own_exp cc))) h0 n0 _ T1.heap _
    rw [e1]
    exact ⟨by rw [own_expT hbk], N1, rfl⟩
theorem r_ex (l : Launch) (Z : State) (a0 : Array Value) (hw : own_HW a0 Z) (ws : List Jvm.Cond) (cs1 : Int32) (fv : Value) (h0 : Heap) (n0 : Nat) (O0 : Old Z n0 h0) (G : own_Ctx Z Z.heap cs1 fv) (cc : Int32) (hz : ¬ (cc < (0 : Int32))) (hm : ¬ ((65535 : Int32) < cc)) :
    own_M l Y30_ (head1 (Jvm.Cond.code Y30_ method_4_code 1 (some .char) :: ws) (own_rm_ 1 0 0 13)) #[(.int cc)] Z h0 n0 (own_Q (some (.int (own_exp cc)))) (own_rm_ 1 0 0 13).cells (own_rm_ 1 0 0 13).slots := by
  rcases Classical.em (own_brk cc) with hb | hb
  · exact r_exT l Z a0 hw ws cs1 fv h0 n0 O0 G cc hz hm hb
  · exact r_exF l Z a0 hw ws cs1 fv h0 n0 O0 G cc hz hm hb
theorem d4_2 : decode prog_16_method_2_code 2 = .ok (.iload_n 1, 1) := by decide +kernel
theorem d4_3 : decode prog_16_method_2_code 3 = .ok (.aload_n 0, 1) := by decide +kernel
theorem d4_4 : decode prog_16_method_2_code 4 = .ok (.invokevirtual 7, 3) := by decide +kernel
theorem pd_21 : parseMethodDescriptor "()I" = some ⟨[], some .int⟩ := by decide +kernel
theorem d4_7 : decode prog_16_method_2_code 7 = .ok (.if_icmp .ge 20, 3) := by decide +kernel
theorem d4_10 : decode prog_16_method_2_code 10 = .ok (.aload_n 0, 1) := by decide +kernel
theorem d4_11 : decode prog_16_method_2_code 11 = .ok (.iload_n 1, 1) := by decide +kernel
theorem d4_12 : decode prog_16_method_2_code 12 = .ok (.invokevirtual 13, 3) := by decide +kernel
theorem pd_22 : parseMethodDescriptor "(I)C" = some ⟨[.int], some .char⟩ := by decide +kernel
theorem d4_15 : decode prog_16_method_2_code 15 = .ok (.invokestatic 17, 3) := by decide +kernel
theorem d4_18 : decode prog_16_method_2_code 18 = .ok (.ifCond .ne 9, 3) := by decide +kernel
theorem d4_21 : decode prog_16_method_2_code 21 = .ok (.iinc 1 1, 3) := by decide +kernel
theorem d4_24 : decode prog_16_method_2_code 24 = .ok (.goto (-22), 3) := by decide +kernel
theorem t_o1n {p : Program} {l : Launch} {e : Env} {s : State} {m : MethodId} {args : Array Value} {below : List Frame} {meth : Method} {c : Code} {T0 : State} {locs : List Loc} {Z : State} {a0 : Array Value} {h0 : Heap} {n0 : Nat} (cs1 : Int32) (fv : Value) (a1 : Addr) (cs : List Int32) (i : Nat)
    (X0 : Stand p l e (own_rm_ 6 4 20 88) s m args below meth c T0 locs 0 0) (hx : p.tables.exec = Jvm.exec) (hZ : Z.Warmed39 s.vm) (hw : own_HW a0 Z) (hby : c.code = prog_16_method_2_code) (hml : c.maxLocals = 4) (hown : s.vm.findClass "com/example/rubrique/rubrique/cli/OneLine" = some m.cls) (e0 : T0.heap = h0) (N0 : Fr n0 locs) (O0 : Old Z n0 h0) (G : own_Ctx Z Z.heap cs1 fv) (S : own_Str Z h0 a1 cs) (hi : i < cs.length) (hn : cs.length ≤ 4) (hB : own_Bd cs) (hq : ¬ own_brk cs[i]) :
    ∃ (T' : State) (h' : Heap) (L' : List Loc), Stand p l e (own_rm_ 6 4 20 88) s m args below meth c T' L' 0 0 ∧ T'.heap = h' ∧ Fr n0 L' ∧ Old Z n0 h' ∧ Keep h0 h' [] ∧ (h' = h0) ∧ ∀ target, Steps p.tables e below (T'.setTop (mkF m 2 #[.val (.ref a1), .val (.int (i.toInt32 + (1 : Int32))), .unset, .unset] [])) target → Steps p.tables e below (T0.setTop (mkF m 2 #[.val (.ref a1), .val (.int i.toInt32), .unset, .unset] [])) target := by
  have G0 := G
  obtain ⟨S_CS, N_CS, S_F, R_F, S_AD, S_HI, S_LO⟩ := G
  obtain ⟨cq1, kq1, q1a, q1b, q1c⟩ := isOf hZ e0 (own_Str_exa S)
  obtain ⟨_, _, ⟨T1, L1, k1, n1⟩, -, X1, ⟨Lc1, hQ1, l1, y1, z1⟩, st1⟩ := X0.virtualBack hx (y := Y18_) (z := Y18_) hown (mvT hZ (own_w hw 26 rfl)) (mvT hZ (own_w hw 27 rfl)) (notFace_of_selects (args := #[]) (mvT hZ (own_w hw 29 rfl))) (mvT hZ (own_w hw 29 rfl)) (mvT hZ (own_w hw 28 rfl)) (by decide) (backOf (W := 1) (r_len l Z a0 hw [] cs1 fv h0 n0 O0 G0 a1 cs S hn) hZ (own_w hw 30 rfl) (own_w hw 3 rfl) (by decide) (by decide)) q1a q1c (g := (mkF m 4 #[.val (.ref a1), .val (.int i.toInt32), .unset, .unset] [(.ref a1), (.int i.toInt32)])) rfl (by rw [hml]; rfl) (Steps.refl _) (argsL := []) (rest := [(.int i.toInt32)]) (lenOf pd_21 rfl) rfl (by show 2 * 0 + _ ≤ _; exact Nat.le_of_eq rfl) (hb hby d4_4) (fun _ _ => ⟨rfl, e0, (by decide : 0 + 0 ≤ _), (by decide : 0 + 0 ≤ _)⟩)
  dsimp only [Pt.U, Pt.locs, Pt.cells, Pt.slots] at X1 l1 y1 z1 st1 hQ1
  subst l1 y1 z1
  obtain ⟨rfl, N1q, e1⟩ := hQ1
  have N1 := Fr.app N0 N1q
  obtain ⟨cq2, kq2, q2a, q2b, q2c⟩ := isOf hZ e1 (own_Str_exa S)
  obtain ⟨_, _, ⟨T2, L2, k2, n2⟩, -, X2, ⟨Lc2, hQ2, l2, y2, z2⟩, st2⟩ := X1.virtualBack hx (y := Y19_) (z := Y19_) hown (mvT hZ (own_w hw 48 rfl)) (mvT hZ (own_w hw 49 rfl)) (notFace_of_selects (args := #[]) (mvT hZ (own_w hw 51 rfl))) (mvT hZ (own_w hw 51 rfl)) (mvT hZ (own_w hw 50 rfl)) (by decide) (backOf (W := 0) (r_ch l Z a0 hw [] cs1 fv h0 n0 O0 G0 a1 cs S i hi hn hB) hZ (own_w hw 52 rfl) (own_w hw 3 rfl) (by decide) (by decide)) q2a q2c (g := (mkF m 12 #[.val (.ref a1), .val (.int i.toInt32), .unset, .unset] [(.int i.toInt32), (.ref a1)])) rfl (by rw [hml]; rfl) (Steps.refl _) (argsL := [(.int i.toInt32)]) (rest := []) (lenOf pd_22 rfl) rfl (by show 2 * 0 + _ ≤ _; exact Nat.le_of_eq rfl) (hb hby d4_12) (fun _ _ => ⟨rfl, e1, (by decide : 0 + 0 ≤ _), (by decide : 0 + 0 ≤ _)⟩)
  dsimp only [Pt.U, Pt.locs, Pt.cells, Pt.slots] at X2 l2 y2 z2 st2 hQ2
  subst l2 y2 z2
  obtain ⟨rfl, N2q, e2⟩ := hQ2
  have N2 := Fr.app N1 N2q
  obtain ⟨_, _, ⟨T3, L3, k3, n3⟩, -, X3, ⟨Lc3, hQ3, l3, y3, z3⟩, st3⟩ := Jvm.LawKit.callS X2 hx (y := Y28_) hown (mvT hZ (own_w hw 70 rfl)) (mvT hZ (own_w hw 71 rfl)) (mvT hZ (own_w hw 24 rfl)) (mvT hZ (own_w hw 72 rfl)) (by decide) (backOf (W := 0) (r_blF l Z a0 hw [] cs1 fv h0 n0 O0 G0 cs[i] hq) hZ (own_w hw 72 rfl) (own_w hw 24 rfl) (by decide) (by decide)) (g := (mkF m 15 #[.val (.ref a1), .val (.int i.toInt32), .unset, .unset] [(.int cs[i])])) rfl (by rw [hml]; rfl) (argsL := [(.int cs[i])]) (rest := []) (lenOf pd_20 rfl) rfl (by show 2 * 0 + _ ≤ _; exact Nat.le_of_eq rfl) (hb hby d4_15) (fun _ _ => ⟨rfl, e2, (by decide : 0 + 0 ≤ _), (by decide : 0 + 0 ≤ _)⟩)
  dsimp only [Pt.U, Pt.locs, Pt.cells, Pt.slots] at X3 l3 y3 z3 st3 hQ3
  subst l3 y3 z3
  obtain ⟨rfl, N3q, e3⟩ := hQ3
  have N3 := Fr.app N2 N3q
  refine ⟨T3, h0, _, X3, e3, N3, O0, (Keep.refl h0 []), rfl, fun target kt => ?_⟩
  show Steps p.tables e below (T0.setTop (mkF m 2 #[.val (.ref a1), .val (.int i.toInt32), .unset, .unset] [])) _
  refine XS.iloadN X0.here hx rfl (hb hby d4_2) rfl ?_
  refine XS.aloadN X0.here hx rfl (hb hby d4_3) rfl rfl ?_
  show Steps p.tables e below (T0.setTop (mkF m 4 #[.val (.ref a1), .val (.int i.toInt32), .unset, .unset] [(.ref a1), (.int i.toInt32)])) _
  refine st1.trans ?_
  show Steps p.tables e below (T1.setTop (mkF m 7 #[.val (.ref a1), .val (.int i.toInt32), .unset, .unset] [(.int cs.length.toInt32), (.int i.toInt32)])) _
  refine XS.icmpNo X1.here hx rfl (hb hby d4_7) rfl (tlt ((own_tl hi (own_k hn)) : i.toInt32 < cs.length.toInt32)).2.1 ?_
  refine XS.aloadN X1.here hx rfl (hb hby d4_10) rfl rfl ?_
  refine XS.iloadN X1.here hx rfl (hb hby d4_11) rfl ?_
  show Steps p.tables e below (T1.setTop (mkF m 12 #[.val (.ref a1), .val (.int i.toInt32), .unset, .unset] [(.int i.toInt32), (.ref a1)])) _
  refine st2.trans ?_
  show Steps p.tables e below (T2.setTop (mkF m 15 #[.val (.ref a1), .val (.int i.toInt32), .unset, .unset] [(.int cs[i])])) _
  refine st3 _ ?_
  show Steps p.tables e below (T3.setTop (mkF m 18 #[.val (.ref a1), .val (.int i.toInt32), .unset, .unset] [(.int (0 : Int32))])) _
  refine XS.ifNo X3.here hx rfl (hb hby d4_18) rfl ((if0 _ _).trans (teq (by decide : (0 : Int32) = (0 : Int32))).2) ?_
  show Steps p.tables e below (T3.setTop (mkF m 21 #[.val (.ref a1), .val (.int i.toInt32), .unset, .unset] [])) _
  refine XS.iinc X3.here hx rfl (hb hby d4_21) rfl (l' := #[.val (.ref a1), .val (.int (i.toInt32 + (1 : Int32))), .unset, .unset]) rfl ?_
  show Steps p.tables e below (T3.setTop (mkF m 24 #[.val (.ref a1), .val (.int (i.toInt32 + (1 : Int32))), .unset, .unset] [])) _
  refine XS.goto X3.here hx rfl (pc0 := 24) (pc' := 2) rfl (hb hby d4_24) (by decide) (by decide) ?_
  exact kt
theorem t_o1b {p : Program} {l : Launch} {e : Env} {s : State} {m : MethodId} {args : Array Value} {below : List Frame} {meth : Method} {c : Code} {T0 : State} {locs : List Loc} {Z : State} {a0 : Array Value} {h0 : Heap} {n0 : Nat} (cs1 : Int32) (fv : Value) (a1 : Addr) (cs : List Int32) (i : Nat)
    (X0 : Stand p l e (own_rm_ 6 4 20 88) s m args below meth c T0 locs 0 0) (hx : p.tables.exec = Jvm.exec) (hZ : Z.Warmed39 s.vm) (hw : own_HW a0 Z) (hby : c.code = prog_16_method_2_code) (hml : c.maxLocals = 4) (hown : s.vm.findClass "com/example/rubrique/rubrique/cli/OneLine" = some m.cls) (e0 : T0.heap = h0) (N0 : Fr n0 locs) (O0 : Old Z n0 h0) (G : own_Ctx Z Z.heap cs1 fv) (S : own_Str Z h0 a1 cs) (hi : i < cs.length) (hn : cs.length ≤ 4) (hB : own_Bd cs) (hq : own_brk cs[i]) :
    ∃ (T' : State) (h' : Heap) (L' : List Loc), Stand p l e (own_rm_ 6 4 20 88) s m args below meth c T' L' 0 0 ∧ T'.heap = h' ∧ Fr n0 L' ∧ Old Z n0 h' ∧ Keep h0 h' [] ∧ (h' = h0) ∧ ∀ target, Steps p.tables e below (T'.setTop (mkF m 27 #[.val (.ref a1), .val (.int i.toInt32), .unset, .unset] [])) target → Steps p.tables e below (T0.setTop (mkF m 2 #[.val (.ref a1), .val (.int i.toInt32), .unset, .unset] [])) target := by
  have G0 := G
  obtain ⟨S_CS, N_CS, S_F, R_F, S_AD, S_HI, S_LO⟩ := G
  obtain ⟨cq1, kq1, q1a, q1b, q1c⟩ := isOf hZ e0 (own_Str_exa S)
  obtain ⟨_, _, ⟨T1, L1, k1, n1⟩, -, X1, ⟨Lc1, hQ1, l1, y1, z1⟩, st1⟩ := X0.virtualBack hx (y := Y18_) (z := Y18_) hown (mvT hZ (own_w hw 26 rfl)) (mvT hZ (own_w hw 27 rfl)) (notFace_of_selects (args := #[]) (mvT hZ (own_w hw 29 rfl))) (mvT hZ (own_w hw 29 rfl)) (mvT hZ (own_w hw 28 rfl)) (by decide) (backOf (W := 1) (r_len l Z a0 hw [] cs1 fv h0 n0 O0 G0 a1 cs S hn) hZ (own_w hw 30 rfl) (own_w hw 3 rfl) (by decide) (by decide)) q1a q1c (g := (mkF m 4 #[.val (.ref a1), .val (.int i.toInt32), .unset, .unset] [(.ref a1), (.int i.toInt32)])) rfl (by rw [hml]; rfl) (Steps.refl _) (argsL := []) (rest := [(.int i.toInt32)]) (lenOf pd_21 rfl) rfl (by show 2 * 0 + _ ≤ _; exact Nat.le_of_eq rfl) (hb hby d4_4) (fun _ _ => ⟨rfl, e0, (by decide : 0 + 0 ≤ _), (by decide : 0 + 0 ≤ _)⟩)
  dsimp only [Pt.U, Pt.locs, Pt.cells, Pt.slots] at X1 l1 y1 z1 st1 hQ1
  subst l1 y1 z1
  obtain ⟨rfl, N1q, e1⟩ := hQ1
  have N1 := Fr.app N0 N1q
  obtain ⟨cq2, kq2, q2a, q2b, q2c⟩ := isOf hZ e1 (own_Str_exa S)
  obtain ⟨_, _, ⟨T2, L2, k2, n2⟩, -, X2, ⟨Lc2, hQ2, l2, y2, z2⟩, st2⟩ := X1.virtualBack hx (y := Y19_) (z := Y19_) hown (mvT hZ (own_w hw 48 rfl)) (mvT hZ (own_w hw 49 rfl)) (notFace_of_selects (args := #[]) (mvT hZ (own_w hw 51 rfl))) (mvT hZ (own_w hw 51 rfl)) (mvT hZ (own_w hw 50 rfl)) (by decide) (backOf (W := 0) (r_ch l Z a0 hw [] cs1 fv h0 n0 O0 G0 a1 cs S i hi hn hB) hZ (own_w hw 52 rfl) (own_w hw 3 rfl) (by decide) (by decide)) q2a q2c (g := (mkF m 12 #[.val (.ref a1), .val (.int i.toInt32), .unset, .unset] [(.int i.toInt32), (.ref a1)])) rfl (by rw [hml]; rfl) (Steps.refl _) (argsL := [(.int i.toInt32)]) (rest := []) (lenOf pd_22 rfl) rfl (by show 2 * 0 + _ ≤ _; exact Nat.le_of_eq rfl) (hb hby d4_12) (fun _ _ => ⟨rfl, e1, (by decide : 0 + 0 ≤ _), (by decide : 0 + 0 ≤ _)⟩)
  dsimp only [Pt.U, Pt.locs, Pt.cells, Pt.slots] at X2 l2 y2 z2 st2 hQ2
  subst l2 y2 z2
  obtain ⟨rfl, N2q, e2⟩ := hQ2
  have N2 := Fr.app N1 N2q
  obtain ⟨_, _, ⟨T3, L3, k3, n3⟩, -, X3, ⟨Lc3, hQ3, l3, y3, z3⟩, st3⟩ := Jvm.LawKit.callS X2 hx (y := Y28_) hown (mvT hZ (own_w hw 70 rfl)) (mvT hZ (own_w hw 71 rfl)) (mvT hZ (own_w hw 24 rfl)) (mvT hZ (own_w hw 72 rfl)) (by decide) (backOf (W := 0) (r_blT l Z a0 hw [] cs1 fv h0 n0 O0 G0 cs[i] hq) hZ (own_w hw 72 rfl) (own_w hw 24 rfl) (by decide) (by decide)) (g := (mkF m 15 #[.val (.ref a1), .val (.int i.toInt32), .unset, .unset] [(.int cs[i])])) rfl (by rw [hml]; rfl) (argsL := [(.int cs[i])]) (rest := []) (lenOf pd_20 rfl) rfl (by show 2 * 0 + _ ≤ _; exact Nat.le_of_eq rfl) (hb hby d4_15) (fun _ _ => ⟨rfl, e2, (by decide : 0 + 0 ≤ _), (by decide : 0 + 0 ≤ _)⟩)
  dsimp only [Pt.U, Pt.locs, Pt.cells, Pt.slots] at X3 l3 y3 z3 st3 hQ3
  subst l3 y3 z3
  obtain ⟨rfl, N3q, e3⟩ := hQ3
  have N3 := Fr.app N2 N3q
  refine ⟨T3, h0, _, X3, e3, N3, O0, (Keep.refl h0 []), rfl, fun target kt => ?_⟩
  show Steps p.tables e below (T0.setTop (mkF m 2 #[.val (.ref a1), .val (.int i.toInt32), .unset, .unset] [])) _
  refine XS.iloadN X0.here hx rfl (hb hby d4_2) rfl ?_
  refine XS.aloadN X0.here hx rfl (hb hby d4_3) rfl rfl ?_
  show Steps p.tables e below (T0.setTop (mkF m 4 #[.val (.ref a1), .val (.int i.toInt32), .unset, .unset] [(.ref a1), (.int i.toInt32)])) _
  refine st1.trans ?_
  show Steps p.tables e below (T1.setTop (mkF m 7 #[.val (.ref a1), .val (.int i.toInt32), .unset, .unset] [(.int cs.length.toInt32), (.int i.toInt32)])) _
  refine XS.icmpNo X1.here hx rfl (hb hby d4_7) rfl (tlt ((own_tl hi (own_k hn)) : i.toInt32 < cs.length.toInt32)).2.1 ?_
  refine XS.aloadN X1.here hx rfl (hb hby d4_10) rfl rfl ?_
  refine XS.iloadN X1.here hx rfl (hb hby d4_11) rfl ?_
  show Steps p.tables e below (T1.setTop (mkF m 12 #[.val (.ref a1), .val (.int i.toInt32), .unset, .unset] [(.int i.toInt32), (.ref a1)])) _
  refine st2.trans ?_
  show Steps p.tables e below (T2.setTop (mkF m 15 #[.val (.ref a1), .val (.int i.toInt32), .unset, .unset] [(.int cs[i])])) _
  refine st3 _ ?_
  show Steps p.tables e below (T3.setTop (mkF m 18 #[.val (.ref a1), .val (.int i.toInt32), .unset, .unset] [(.int (1 : Int32))])) _
  refine XS.ifYes X3.here hx rfl (pc0 := 18) (pc' := 27) rfl (hb hby d4_18) rfl ((if0 _ _).trans (feq (by decide : ¬ ((1 : Int32) = (0 : Int32)))).2) (by decide) (by decide) ?_
  exact kt
theorem t_o1e {p : Program} {l : Launch} {e : Env} {s : State} {m : MethodId} {args : Array Value} {below : List Frame} {meth : Method} {c : Code} {T0 : State} {locs : List Loc} {Z : State} {a0 : Array Value} {h0 : Heap} {n0 : Nat} (cs1 : Int32) (fv : Value) (a1 : Addr) (cs : List Int32)
    (X0 : Stand p l e (own_rm_ 6 4 20 88) s m args below meth c T0 locs 0 0) (hx : p.tables.exec = Jvm.exec) (hZ : Z.Warmed39 s.vm) (hw : own_HW a0 Z) (hby : c.code = prog_16_method_2_code) (hml : c.maxLocals = 4) (hown : s.vm.findClass "com/example/rubrique/rubrique/cli/OneLine" = some m.cls) (e0 : T0.heap = h0) (N0 : Fr n0 locs) (O0 : Old Z n0 h0) (G : own_Ctx Z Z.heap cs1 fv) (S : own_Str Z h0 a1 cs) (hn : cs.length ≤ 4) :
    ∃ (T' : State) (h' : Heap) (L' : List Loc), Stand p l e (own_rm_ 6 4 20 88) s m args below meth c T' L' 0 0 ∧ T'.heap = h' ∧ Fr n0 L' ∧ Old Z n0 h' ∧ Keep h0 h' [] ∧ (h' = h0) ∧ ∀ target, Steps p.tables e below (T'.setTop (mkF m 27 #[.val (.ref a1), .val (.int cs.length.toInt32), .unset, .unset] [])) target → Steps p.tables e below (T0.setTop (mkF m 2 #[.val (.ref a1), .val (.int cs.length.toInt32), .unset, .unset] [])) target := by
  have G0 := G
  obtain ⟨S_CS, N_CS, S_F, R_F, S_AD, S_HI, S_LO⟩ := G
  obtain ⟨cq1, kq1, q1a, q1b, q1c⟩ := isOf hZ e0 (own_Str_exa S)
  obtain ⟨_, _, ⟨T1, L1, k1, n1⟩, -, X1, ⟨Lc1, hQ1, l1, y1, z1⟩, st1⟩ := X0.virtualBack hx (y := Y18_) (z := Y18_) hown (mvT hZ (own_w hw 26 rfl)) (mvT hZ (own_w hw 27 rfl)) (notFace_of_selects (args := #[]) (mvT hZ (own_w hw 29 rfl))) (mvT hZ (own_w hw 29 rfl)) (mvT hZ (own_w hw 28 rfl)) (by decide) (backOf (W := 1) (r_len l Z a0 hw [] cs1 fv h0 n0 O0 G0 a1 cs S hn) hZ (own_w hw 30 rfl) (own_w hw 3 rfl) (by decide) (by decide)) q1a q1c (g := (mkF m 4 #[.val (.ref a1), .val (.int cs.length.toInt32), .unset, .unset] [(.ref a1), (.int cs.length.toInt32)])) rfl (by rw [hml]; rfl) (Steps.refl _) (argsL := []) (rest := [(.int cs.length.toInt32)]) (lenOf pd_21 rfl) rfl (by show 2 * 0 + _ ≤ _; exact Nat.le_of_eq rfl) (hb hby d4_4) (fun _ _ => ⟨rfl, e0, (by decide : 0 + 0 ≤ _), (by decide : 0 + 0 ≤ _)⟩)
  dsimp only [Pt.U, Pt.locs, Pt.cells, Pt.slots] at X1 l1 y1 z1 st1 hQ1
  subst l1 y1 z1
  obtain ⟨rfl, N1q, e1⟩ := hQ1
  have N1 := Fr.app N0 N1q
  refine ⟨T1, h0, _, X1, e1, N1, O0, (Keep.refl h0 []), rfl, fun target kt => ?_⟩
  show Steps p.tables e below (T0.setTop (mkF m 2 #[.val (.ref a1), .val (.int cs.length.toInt32), .unset, .unset] [])) _
  refine XS.iloadN X0.here hx rfl (hb hby d4_2) rfl ?_
  refine XS.aloadN X0.here hx rfl (hb hby d4_3) rfl rfl ?_
  show Steps p.tables e below (T0.setTop (mkF m 4 #[.val (.ref a1), .val (.int cs.length.toInt32), .unset, .unset] [(.ref a1), (.int cs.length.toInt32)])) _
  refine st1.trans ?_
  show Steps p.tables e below (T1.setTop (mkF m 7 #[.val (.ref a1), .val (.int cs.length.toInt32), .unset, .unset] [(.int cs.length.toInt32), (.int cs.length.toInt32)])) _
  refine XS.icmpYes X1.here hx rfl (pc0 := 7) (pc' := 27) rfl (hb hby d4_7) rfl (flt (own_irr _ : ¬ (cs.length.toInt32 < cs.length.toInt32))).2.1 (by decide) (by decide) ?_
  exact kt
theorem own_o1 {p : Program} {l : Launch} {e : Env} {s : State} {m : MethodId} {args : Array Value} {below : List Frame} {meth : Method} {c : Code} {Z : State} {a0 : Array Value} {n0 : Nat} (cs1 : Int32) (fv : Value) (a1 : Addr) (cs : List Int32)
    (hx : p.tables.exec = Jvm.exec) (hZ : Z.Warmed39 s.vm) (hw : own_HW a0 Z) (hby : c.code = prog_16_method_2_code) (hml : c.maxLocals = 4) (hown : s.vm.findClass "com/example/rubrique/rubrique/cli/OneLine" = some m.cls) (G : own_Ctx Z Z.heap cs1 fv) (hn : cs.length ≤ 4) (hB : own_Bd cs) :
    ∀ (k i : Nat) (T0 : State) (h0 : Heap) (locs : List Loc), i + k = cs.length → Stand p l e (own_rm_ 6 4 20 88) s m args below meth c T0 locs 0 0 → T0.heap = h0 → Fr n0 locs → Old Z n0 h0 → own_Str Z h0 a1 cs → (∀ j (hj : j < cs.length), j < i → ¬ own_brk cs[j]) →
    ∃ (T' : State) (L' : List Loc) (r : Nat), Stand p l e (own_rm_ 6 4 20 88) s m args below meth c T' L' 0 0 ∧ T'.heap = h0 ∧ Fr n0 L' ∧ r ≤ cs.length ∧ (∀ j (hj : j < cs.length), j < r → ¬ own_brk cs[j]) ∧ (∀ hr : r < cs.length, own_brk cs[r]) ∧
      ∀ target, Steps p.tables e below (T'.setTop (mkF m 27 #[.val (.ref a1), .val (.int r.toInt32), .unset, .unset] [])) target → Steps p.tables e below (T0.setTop (mkF m 2 #[.val (.ref a1), .val (.int i.toInt32), .unset, .unset] [])) target := by
  intro k
  induction k with
  | zero =>
    intro i T0 h0 locs hi X0 e0 N0 O0 S hno
    obtain rfl : i = cs.length := by omega
    obtain ⟨T1, h1, L1, X1, e1, N1, O1, K1, q1, st⟩ := t_o1e cs1 fv a1 cs X0 hx hZ hw hby hml hown e0 N0 O0 G S hn
    subst q1
    exact ⟨T1, L1, cs.length, X1, e1, N1, Nat.le_refl _, hno, fun q => absurd q (Nat.lt_irrefl _), st⟩
  | succ k ih =>
    intro i T0 h0 locs hi X0 e0 N0 O0 S hno
    have hlt : i < cs.length := by omega
    rcases Classical.em (own_brk cs[i]) with hq | hq
    · obtain ⟨T1, h1, L1, X1, e1, N1, O1, K1, q1, st⟩ := t_o1b cs1 fv a1 cs i X0 hx hZ hw hby hml hown e0 N0 O0 G S hlt hn hB hq
      subst q1
      exact ⟨T1, L1, i, X1, e1, N1, Nat.le_of_lt hlt, hno, fun _ => hq, st⟩
    · obtain ⟨T1, h1, L1, X1, e1, N1, O1, K1, q1, st1⟩ := t_o1n cs1 fv a1 cs i X0 hx hZ hw hby hml hown e0 N0 O0 G S hlt hn hB hq
      subst q1
      rw [own_ts (by omega)] at st1
      obtain ⟨T', L', r, X', e', N', hr, hno', hb, st'⟩ := ih (i + 1) T1 _ L1 (by omega) X1 e1 N1 O1 S (fun j hj hji => by
        by_cases u : j = i
        · subst u; exact hq
        · exact hno j hj (by omega))
      exact ⟨T', L', r, X', e', N', hr, hno', hb, fun target kt => st1 _ (st' _ kt)⟩

theorem d4_44 : decode prog_16_method_2_code 44 = .ok (.iload_n 3, 1) := by decide +kernel
theorem d4_45 : decode prog_16_method_2_code 45 = .ok (.aload_n 2, 1) := by decide +kernel
theorem d4_46 : decode prog_16_method_2_code 46 = .ok (.arraylength, 1) := by decide +kernel
theorem d4_47 : decode prog_16_method_2_code 47 = .ok (.if_icmp .ge 23, 3) := by decide +kernel
theorem d4_50 : decode prog_16_method_2_code 50 = .ok (.aload_n 2, 1) := by decide +kernel
theorem d4_51 : decode prog_16_method_2_code 51 = .ok (.iload_n 3, 1) := by decide +kernel
theorem d4_52 : decode prog_16_method_2_code 52 = .ok (.caload, 1) := by decide +kernel
theorem d4_53 : decode prog_16_method_2_code 53 = .ok (.invokestatic 17, 3) := by decide +kernel
theorem d4_56 : decode prog_16_method_2_code 56 = .ok (.ifCond .eq 8, 3) := by decide +kernel
theorem d4_59 : decode prog_16_method_2_code 59 = .ok (.aload_n 2, 1) := by decide +kernel
theorem d4_60 : decode prog_16_method_2_code 60 = .ok (.iload_n 3, 1) := by decide +kernel
theorem d4_61 : decode prog_16_method_2_code 61 = .ok (.bipush 32, 2) := by decide +kernel
theorem d4_63 : decode prog_16_method_2_code 63 = .ok (.castore, 1) := by decide +kernel
theorem d4_64 : decode prog_16_method_2_code 64 = .ok (.iinc 3 1, 3) := by decide +kernel
theorem d4_67 : decode prog_16_method_2_code 67 = .ok (.goto (-23), 3) := by decide +kernel
theorem t_o2b {p : Program} {l : Launch} {e : Env} {s : State} {m : MethodId} {args : Array Value} {below : List Frame} {meth : Method} {c : Code} {T0 : State} {locs : List Loc} {Z : State} {a0 : Array Value} {h0 : Heap} {n0 : Nat} (cs1 : Int32) (fv : Value) (a1 a3 : Addr) (k3 : ClassId) (cs : List Int32) (r1 : Int32) (i : Nat)
    (X0 : Stand p l e (own_rm_ 6 4 20 88) s m args below meth c T0 locs 1 4) (hx : p.tables.exec = Jvm.exec) (hZ : Z.Warmed39 s.vm) (hw : own_HW a0 Z) (hby : c.code = prog_16_method_2_code) (hml : c.maxLocals = 4) (hown : s.vm.findClass "com/example/rubrique/rubrique/cli/OneLine" = some m.cls) (e0 : T0.heap = h0) (N0 : Fr n0 locs) (O0 : Old Z n0 h0) (G : own_Ctx Z Z.heap cs1 fv) (V : Arv Z h0 a3 k3 .char cs.length.toInt32 (own_ex cs i) (.int (0 : Int32))) (ga : n0 ≤ a3) (hi : i < cs.length) (hn : cs.length ≤ 4) (hq : own_brk cs[i]) :
    ∃ (T' : State) (h' : Heap) (L' : List Loc), Stand p l e (own_rm_ 6 4 20 88) s m args below meth c T' L' 1 4 ∧ T'.heap = h' ∧ Fr n0 L' ∧ Old Z n0 h' ∧ Keep h0 h' [a3] ∧ (Arv Z h' a3 k3 .char cs.length.toInt32 (own_ex cs (i + 1)) (.int (0 : Int32))) ∧ ∀ target, Steps p.tables e below (T'.setTop (mkF m 44 #[.val (.ref a1), .val (.int r1), .val (.ref a3), .val (.int (i.toInt32 + (1 : Int32)))] [])) target → Steps p.tables e below (T0.setTop (mkF m 44 #[.val (.ref a1), .val (.int r1), .val (.ref a3), .val (.int i.toInt32)] [])) target := by
  have G0 := G
  obtain ⟨S_CS, N_CS, S_F, R_F, S_AD, S_HI, S_LO⟩ := G
  have vc1 := V
  obtain ⟨cl1, Ar1, qk1, S1, Nn1, Hs1, Gf1⟩ := vc1
  have vc2 := V
  obtain ⟨cl2, Ar2, qk2, S2, Nn2, Hs2, Gf2⟩ := vc2
  have hin2 : ¬ (i.toInt32 < 0 ∨ cl2.slots.size ≤ (i.toInt32).toNatClampNeg) := inb_of S2 ⟨(own_ti (own_ki hi hn)).2.1, own_tl hi (own_k hn)⟩
  have hat2 : cl2.slots[(i.toInt32).toNatClampNeg]? = some (.int cs[i]) := Has.at Hs2 hin2 (by rw [(own_ti (own_ki hi hn)).1]; exact own_ex_at cs hi)
  obtain ⟨_, _, ⟨T3, L3, k3, n3⟩, -, X3, ⟨Lc3, hQ3, l3, y3, z3⟩, st3⟩ := Jvm.LawKit.callS X0 hx (y := Y28_) hown (mvT hZ (own_w hw 70 rfl)) (mvT hZ (own_w hw 71 rfl)) (mvT hZ (own_w hw 24 rfl)) (mvT hZ (own_w hw 72 rfl)) (by decide) (backOf (W := 0) (r_blT l Z a0 hw [] cs1 fv h0 n0 O0 G0 cs[i] hq) hZ (own_w hw 72 rfl) (own_w hw 24 rfl) (by decide) (by decide)) (g := (mkF m 53 #[.val (.ref a1), .val (.int r1), .val (.ref a3), .val (.int i.toInt32)] [(.int cs[i])])) rfl (by rw [hml]; rfl) (argsL := [(.int cs[i])]) (rest := []) (lenOf pd_20 rfl) rfl (by show 2 * 0 + _ ≤ _; exact Nat.le_of_eq rfl) (hb hby d4_53) (fun _ _ => ⟨rfl, e0, (by decide : 1 + 0 ≤ _), (by decide : 4 + 0 ≤ _)⟩)
  dsimp only [Pt.U, Pt.locs, Pt.cells, Pt.slots] at X3 l3 y3 z3 st3 hQ3
  subst l3 y3 z3
  obtain ⟨rfl, N3q, e3⟩ := hQ3
  have N3 := Fr.app N0 N3q
  have vc4 := V
  obtain ⟨cl4, Ar4, qk4, S4, Nn4, Hs4, Gf4⟩ := vc4
  have hin4 : ¬ (i.toInt32 < 0 ∨ cl4.slots.size ≤ (i.toInt32).toNatClampNeg) := inb_of S4 ⟨(own_ti (own_ki hi hn)).2.1, own_tl hi (own_k hn)⟩
  obtain ⟨T5, h5, X5, e5, W5, st5⟩ := stC X3 hx hZ e3 Ar4 (j := i.toInt32) hin4 (g := (mkF m 63 #[.val (.ref a1), .val (.int r1), .val (.ref a3), .val (.int i.toInt32)] [(.int (32 : Int32)), (.int i.toInt32), (.ref a3)])) rfl rfl (hb hby d4_63)
  have O5 := O0.wr W5 ga
  have K5 : Keep h0 h5 [a3] := (Keep.refl h0 [a3]).wr W5 (Or.inl (List.mem_of_getElem? (i := 0) rfl))
  have N5 := Fr.snoc X5 N3 ga
  have f6 : Arv Z h5 a3 k3 .char cs.length.toInt32 (List.set (own_ex cs i) (i.toInt32).toNatClampNeg (.int (nar .char (32 : Int32)))) (.int (0 : Int32)) := Arv.set Ar4 qk4 S4 Nn4 Hs4 Gf4 (fits_nar_char _) W5 (i.toInt32).toNatClampNeg rfl (by rw [(own_ti (own_ki hi hn)).1, own_ex_len]; exact hi)
  refine ⟨T5, h5, _, X5, e5, N5, O5, K5, (by have q := f6; rw [(own_ti (own_ki hi hn)).1, own_ex_set cs hi hq] at q; exact q), fun target kt => ?_⟩
  show Steps p.tables e below (T0.setTop (mkF m 44 #[.val (.ref a1), .val (.int r1), .val (.ref a3), .val (.int i.toInt32)] [])) _
  refine XS.iloadN X0.here hx rfl (hb hby d4_44) rfl ?_
  refine XS.aloadN X0.here hx rfl (hb hby d4_45) rfl rfl ?_
  show Steps p.tables e below (T0.setTop (mkF m 46 #[.val (.ref a1), .val (.int r1), .val (.ref a3), .val (.int i.toInt32)] [(.ref a3), (.int i.toInt32)])) _
  refine X0.arraylength hx (by rw [e0]; exact Ar1.1) (State.isArrayOf_alike hZ.alike Ar1.2.1) (g := (mkF m 46 #[.val (.ref a1), .val (.int r1), .val (.ref a3), .val (.int i.toInt32)] [(.ref a3), (.int i.toInt32)])) rfl rfl (hb hby d4_46) _ ?_
  rw [len_of S1 Nn1]
  show Steps p.tables e below (T0.setTop (mkF m 47 #[.val (.ref a1), .val (.int r1), .val (.ref a3), .val (.int i.toInt32)] [(.int cs.length.toInt32), (.int i.toInt32)])) _
  refine XS.icmpNo X0.here hx rfl (hb hby d4_47) rfl (tlt ((own_tl hi (own_k hn)) : i.toInt32 < cs.length.toInt32)).2.1 ?_
  refine XS.aloadN X0.here hx rfl (hb hby d4_50) rfl rfl ?_
  refine XS.iloadN X0.here hx rfl (hb hby d4_51) rfl ?_
  show Steps p.tables e below (T0.setTop (mkF m 52 #[.val (.ref a1), .val (.int r1), .val (.ref a3), .val (.int i.toInt32)] [(.int i.toInt32), (.ref a3)])) _
  refine X0.caload hx (j := i.toInt32) (v := (.int cs[i])) (by rw [e0]; exact Ar2.1) (State.isArrayOf_alike hZ.alike Ar2.2.1) Ar2.2.2 hin2 hat2 (g := (mkF m 52 #[.val (.ref a1), .val (.int r1), .val (.ref a3), .val (.int i.toInt32)] [(.int i.toInt32), (.ref a3)])) rfl rfl (hb hby d4_52) _ ?_
  show Steps p.tables e below (T0.setTop (mkF m 53 #[.val (.ref a1), .val (.int r1), .val (.ref a3), .val (.int i.toInt32)] [(.int cs[i])])) _
  refine st3 _ ?_
  show Steps p.tables e below (T3.setTop (mkF m 56 #[.val (.ref a1), .val (.int r1), .val (.ref a3), .val (.int i.toInt32)] [(.int (1 : Int32))])) _
  refine XS.ifNo X3.here hx rfl (hb hby d4_56) rfl ((if0 _ _).trans (feq (by decide : ¬ ((1 : Int32) = (0 : Int32)))).1) ?_
  refine XS.aloadN X3.here hx rfl (hb hby d4_59) rfl rfl ?_
  refine XS.iloadN X3.here hx rfl (hb hby d4_60) rfl ?_
  refine XS.bipush X3.here hx rfl (hb hby d4_61) ?_
  show Steps p.tables e below (T3.setTop (mkF m 63 #[.val (.ref a1), .val (.int r1), .val (.ref a3), .val (.int i.toInt32)] [(.int (32 : Int32)), (.int i.toInt32), (.ref a3)])) _
  refine st5 _ ?_
  show Steps p.tables e below (T5.setTop (mkF m 64 #[.val (.ref a1), .val (.int r1), .val (.ref a3), .val (.int i.toInt32)] [])) _
  refine XS.iinc X5.here hx rfl (hb hby d4_64) rfl (l' := #[.val (.ref a1), .val (.int r1), .val (.ref a3), .val (.int (i.toInt32 + (1 : Int32)))]) rfl ?_
  show Steps p.tables e below (T5.setTop (mkF m 67 #[.val (.ref a1), .val (.int r1), .val (.ref a3), .val (.int (i.toInt32 + (1 : Int32)))] [])) _
  refine XS.goto X5.here hx rfl (pc0 := 67) (pc' := 44) rfl (hb hby d4_67) (by decide) (by decide) ?_
  exact kt
theorem t_o2n {p : Program} {l : Launch} {e : Env} {s : State} {m : MethodId} {args : Array Value} {below : List Frame} {meth : Method} {c : Code} {T0 : State} {locs : List Loc} {Z : State} {a0 : Array Value} {h0 : Heap} {n0 : Nat} (cs1 : Int32) (fv : Value) (a1 a3 : Addr) (k3 : ClassId) (cs : List Int32) (r1 : Int32) (i : Nat)
    (X0 : Stand p l e (own_rm_ 6 4 20 88) s m args below meth c T0 locs 1 4) (hx : p.tables.exec = Jvm.exec) (hZ : Z.Warmed39 s.vm) (hw : own_HW a0 Z) (hby : c.code = prog_16_method_2_code) (hml : c.maxLocals = 4) (hown : s.vm.findClass "com/example/rubrique/rubrique/cli/OneLine" = some m.cls) (e0 : T0.heap = h0) (N0 : Fr n0 locs) (O0 : Old Z n0 h0) (G : own_Ctx Z Z.heap cs1 fv) (V : Arv Z h0 a3 k3 .char cs.length.toInt32 (own_ex cs i) (.int (0 : Int32))) (ga : n0 ≤ a3) (hi : i < cs.length) (hn : cs.length ≤ 4) (hq : ¬ own_brk cs[i]) :
    ∃ (T' : State) (h' : Heap) (L' : List Loc), Stand p l e (own_rm_ 6 4 20 88) s m args below meth c T' L' 1 4 ∧ T'.heap = h' ∧ Fr n0 L' ∧ Old Z n0 h' ∧ Keep h0 h' [a3] ∧ (Arv Z h' a3 k3 .char cs.length.toInt32 (own_ex cs (i + 1)) (.int (0 : Int32))) ∧ ∀ target, Steps p.tables e below (T'.setTop (mkF m 44 #[.val (.ref a1), .val (.int r1), .val (.ref a3), .val (.int (i.toInt32 + (1 : Int32)))] [])) target → Steps p.tables e below (T0.setTop (mkF m 44 #[.val (.ref a1), .val (.int r1), .val (.ref a3), .val (.int i.toInt32)] [])) target := by
  have G0 := G
  obtain ⟨S_CS, N_CS, S_F, R_F, S_AD, S_HI, S_LO⟩ := G
  have vc1 := V
  obtain ⟨cl1, Ar1, qk1, S1, Nn1, Hs1, Gf1⟩ := vc1
  have vc2 := V
  obtain ⟨cl2, Ar2, qk2, S2, Nn2, Hs2, Gf2⟩ := vc2
  have hin2 : ¬ (i.toInt32 < 0 ∨ cl2.slots.size ≤ (i.toInt32).toNatClampNeg) := inb_of S2 ⟨(own_ti (own_ki hi hn)).2.1, own_tl hi (own_k hn)⟩
  have hat2 : cl2.slots[(i.toInt32).toNatClampNeg]? = some (.int cs[i]) := Has.at Hs2 hin2 (by rw [(own_ti (own_ki hi hn)).1]; exact own_ex_at cs hi)
  obtain ⟨_, _, ⟨T3, L3, k3, n3⟩, -, X3, ⟨Lc3, hQ3, l3, y3, z3⟩, st3⟩ := Jvm.LawKit.callS X0 hx (y := Y28_) hown (mvT hZ (own_w hw 70 rfl)) (mvT hZ (own_w hw 71 rfl)) (mvT hZ (own_w hw 24 rfl)) (mvT hZ (own_w hw 72 rfl)) (by decide) (backOf (W := 0) (r_blF l Z a0 hw [] cs1 fv h0 n0 O0 G0 cs[i] hq) hZ (own_w hw 72 rfl) (own_w hw 24 rfl) (by decide) (by decide)) (g := (mkF m 53 #[.val (.ref a1), .val (.int r1), .val (.ref a3), .val (.int i.toInt32)] [(.int cs[i])])) rfl (by rw [hml]; rfl) (argsL := [(.int cs[i])]) (rest := []) (lenOf pd_20 rfl) rfl (by show 2 * 0 + _ ≤ _; exact Nat.le_of_eq rfl) (hb hby d4_53) (fun _ _ => ⟨rfl, e0, (by decide : 1 + 0 ≤ _), (by decide : 4 + 0 ≤ _)⟩)
  dsimp only [Pt.U, Pt.locs, Pt.cells, Pt.slots] at X3 l3 y3 z3 st3 hQ3
  subst l3 y3 z3
  obtain ⟨rfl, N3q, e3⟩ := hQ3
  have N3 := Fr.app N0 N3q
  refine ⟨T3, h0, _, X3, e3, N3, O0, (Keep.refl h0 [a3]), (own_ex_skip cs hi hq ▸ V), fun target kt => ?_⟩
  show Steps p.tables e below (T0.setTop (mkF m 44 #[.val (.ref a1), .val (.int r1), .val (.ref a3), .val (.int i.toInt32)] [])) _
  refine XS.iloadN X0.here hx rfl (hb hby d4_44) rfl ?_
  refine XS.aloadN X0.here hx rfl (hb hby d4_45) rfl rfl ?_
  show Steps p.tables e below (T0.setTop (mkF m 46 #[.val (.ref a1), .val (.int r1), .val (.ref a3), .val (.int i.toInt32)] [(.ref a3), (.int i.toInt32)])) _
  refine X0.arraylength hx (by rw [e0]; exact Ar1.1) (State.isArrayOf_alike hZ.alike Ar1.2.1) (g := (mkF m 46 #[.val (.ref a1), .val (.int r1), .val (.ref a3), .val (.int i.toInt32)] [(.ref a3), (.int i.toInt32)])) rfl rfl (hb hby d4_46) _ ?_
  rw [len_of S1 Nn1]
  show Steps p.tables e below (T0.setTop (mkF m 47 #[.val (.ref a1), .val (.int r1), .val (.ref a3), .val (.int i.toInt32)] [(.int cs.length.toInt32), (.int i.toInt32)])) _
  refine XS.icmpNo X0.here hx rfl (hb hby d4_47) rfl (tlt ((own_tl hi (own_k hn)) : i.toInt32 < cs.length.toInt32)).2.1 ?_
  refine XS.aloadN X0.here hx rfl (hb hby d4_50) rfl rfl ?_
  refine XS.iloadN X0.here hx rfl (hb hby d4_51) rfl ?_
  show Steps p.tables e below (T0.setTop (mkF m 52 #[.val (.ref a1), .val (.int r1), .val (.ref a3), .val (.int i.toInt32)] [(.int i.toInt32), (.ref a3)])) _
  refine X0.caload hx (j := i.toInt32) (v := (.int cs[i])) (by rw [e0]; exact Ar2.1) (State.isArrayOf_alike hZ.alike Ar2.2.1) Ar2.2.2 hin2 hat2 (g := (mkF m 52 #[.val (.ref a1), .val (.int r1), .val (.ref a3), .val (.int i.toInt32)] [(.int i.toInt32), (.ref a3)])) rfl rfl (hb hby d4_52) _ ?_
  show Steps p.tables e below (T0.setTop (mkF m 53 #[.val (.ref a1), .val (.int r1), .val (.ref a3), .val (.int i.toInt32)] [(.int cs[i])])) _
  refine st3 _ ?_
  show Steps p.tables e below (T3.setTop (mkF m 56 #[.val (.ref a1), .val (.int r1), .val (.ref a3), .val (.int i.toInt32)] [(.int (0 : Int32))])) _
  refine XS.ifYes X3.here hx rfl (pc0 := 56) (pc' := 64) rfl (hb hby d4_56) rfl ((if0 _ _).trans (teq (by decide : (0 : Int32) = (0 : Int32))).1) (by decide) (by decide) ?_
  show Steps p.tables e below (T3.setTop (mkF m 64 #[.val (.ref a1), .val (.int r1), .val (.ref a3), .val (.int i.toInt32)] [])) _
  refine XS.iinc X3.here hx rfl (hb hby d4_64) rfl (l' := #[.val (.ref a1), .val (.int r1), .val (.ref a3), .val (.int (i.toInt32 + (1 : Int32)))]) rfl ?_
  show Steps p.tables e below (T3.setTop (mkF m 67 #[.val (.ref a1), .val (.int r1), .val (.ref a3), .val (.int (i.toInt32 + (1 : Int32)))] [])) _
  refine XS.goto X3.here hx rfl (pc0 := 67) (pc' := 44) rfl (hb hby d4_67) (by decide) (by decide) ?_
  exact kt
theorem t_o2e {p : Program} {l : Launch} {e : Env} {s : State} {m : MethodId} {args : Array Value} {below : List Frame} {meth : Method} {c : Code} {T0 : State} {locs : List Loc} {Z : State} {a0 : Array Value} {h0 : Heap} {n0 : Nat} (cs1 : Int32) (fv : Value) (a1 a3 : Addr) (k3 : ClassId) (cs : List Int32) (r1 : Int32)
    (X0 : Stand p l e (own_rm_ 6 4 20 88) s m args below meth c T0 locs 1 4) (hx : p.tables.exec = Jvm.exec) (hZ : Z.Warmed39 s.vm) (hw : own_HW a0 Z) (hby : c.code = prog_16_method_2_code) (hml : c.maxLocals = 4) (hown : s.vm.findClass "com/example/rubrique/rubrique/cli/OneLine" = some m.cls) (e0 : T0.heap = h0) (N0 : Fr n0 locs) (O0 : Old Z n0 h0) (G : own_Ctx Z Z.heap cs1 fv) (V : Arv Z h0 a3 k3 .char cs.length.toInt32 (own_ex cs cs.length) (.int (0 : Int32))) :
    ∃ (T' : State) (h' : Heap) (L' : List Loc), Stand p l e (own_rm_ 6 4 20 88) s m args below meth c T' L' 1 4 ∧ T'.heap = h' ∧ Fr n0 L' ∧ Old Z n0 h' ∧ Keep h0 h' [a3] ∧ (Arv Z h' a3 k3 .char cs.length.toInt32 (own_ex cs cs.length) (.int (0 : Int32))) ∧ ∀ target, Steps p.tables e below (T'.setTop (mkF m 70 #[.val (.ref a1), .val (.int r1), .val (.ref a3), .val (.int cs.length.toInt32)] [])) target → Steps p.tables e below (T0.setTop (mkF m 44 #[.val (.ref a1), .val (.int r1), .val (.ref a3), .val (.int cs.length.toInt32)] [])) target := by
  have G0 := G
  obtain ⟨S_CS, N_CS, S_F, R_F, S_AD, S_HI, S_LO⟩ := G
  have vc1 := V
  obtain ⟨cl1, Ar1, qk1, S1, Nn1, Hs1, Gf1⟩ := vc1
  refine ⟨T0, h0, _, X0, e0, N0, O0, (Keep.refl h0 [a3]), V, fun target kt => ?_⟩
  show Steps p.tables e below (T0.setTop (mkF m 44 #[.val (.ref a1), .val (.int r1), .val (.ref a3), .val (.int cs.length.toInt32)] [])) _
  refine XS.iloadN X0.here hx rfl (hb hby d4_44) rfl ?_
  refine XS.aloadN X0.here hx rfl (hb hby d4_45) rfl rfl ?_
  show Steps p.tables e below (T0.setTop (mkF m 46 #[.val (.ref a1), .val (.int r1), .val (.ref a3), .val (.int cs.length.toInt32)] [(.ref a3), (.int cs.length.toInt32)])) _
  refine X0.arraylength hx (by rw [e0]; exact Ar1.1) (State.isArrayOf_alike hZ.alike Ar1.2.1) (g := (mkF m 46 #[.val (.ref a1), .val (.int r1), .val (.ref a3), .val (.int cs.length.toInt32)] [(.ref a3), (.int cs.length.toInt32)])) rfl rfl (hb hby d4_46) _ ?_
  rw [len_of S1 Nn1]
  show Steps p.tables e below (T0.setTop (mkF m 47 #[.val (.ref a1), .val (.int r1), .val (.ref a3), .val (.int cs.length.toInt32)] [(.int cs.length.toInt32), (.int cs.length.toInt32)])) _
  refine XS.icmpYes X0.here hx rfl (pc0 := 47) (pc' := 70) rfl (hb hby d4_47) rfl (flt (own_irr _ : ¬ (cs.length.toInt32 < cs.length.toInt32))).2.1 (by decide) (by decide) ?_
  exact kt
theorem own_o2 {p : Program} {l : Launch} {e : Env} {s : State} {m : MethodId} {args : Array Value} {below : List Frame} {meth : Method} {c : Code} {Z : State} {a0 : Array Value} {n0 : Nat} (cs1 : Int32) (fv : Value) (a1 a3 : Addr) (k3 : ClassId) (cs : List Int32) (r1 : Int32)
    (hx : p.tables.exec = Jvm.exec) (hZ : Z.Warmed39 s.vm) (hw : own_HW a0 Z) (hby : c.code = prog_16_method_2_code) (hml : c.maxLocals = 4) (hown : s.vm.findClass "com/example/rubrique/rubrique/cli/OneLine" = some m.cls) (G : own_Ctx Z Z.heap cs1 fv) (ga : n0 ≤ a3) (hn : cs.length ≤ 4) :
    ∀ (k i : Nat) (T0 : State) (h0 : Heap) (locs : List Loc), i + k = cs.length → Stand p l e (own_rm_ 6 4 20 88) s m args below meth c T0 locs 1 4 → T0.heap = h0 → Fr n0 locs → Old Z n0 h0 → Arv Z h0 a3 k3 .char cs.length.toInt32 (own_ex cs i) (.int (0 : Int32)) →
    ∃ (T' : State) (h' : Heap) (L' : List Loc), Stand p l e (own_rm_ 6 4 20 88) s m args below meth c T' L' 1 4 ∧ T'.heap = h' ∧ Fr n0 L' ∧ Old Z n0 h' ∧ Keep h0 h' [a3] ∧ Arv Z h' a3 k3 .char cs.length.toInt32 (own_ex cs cs.length) (.int (0 : Int32)) ∧
      ∀ target, Steps p.tables e below (T'.setTop (mkF m 70 #[.val (.ref a1), .val (.int r1), .val (.ref a3), .val (.int cs.length.toInt32)] [])) target → Steps p.tables e below (T0.setTop (mkF m 44 #[.val (.ref a1), .val (.int r1), .val (.ref a3), .val (.int i.toInt32)] [])) target := by
  intro k
  induction k with
  | zero =>
    intro i T0 h0 locs hi X0 e0 N0 O0 V
    obtain rfl : i = cs.length := by omega
    obtain ⟨T1, h1, L1, X1, e1, N1, O1, K1, V1, st⟩ := t_o2e cs1 fv a1 a3 k3 cs r1 X0 hx hZ hw hby hml hown e0 N0 O0 G V
    exact ⟨T1, h1, L1, X1, e1, N1, O1, K1, V1, st⟩
  | succ k ih =>
    intro i T0 h0 locs hi X0 e0 N0 O0 V
    have hlt : i < cs.length := by omega
    obtain ⟨T1, h1, L1, X1, e1, N1, O1, K1, V1, st1⟩ : ∃ (T1 : State) (h1 : Heap) (L1 : List Loc), Stand p l e (own_rm_ 6 4 20 88) s m args below meth c T1 L1 1 4 ∧ T1.heap = h1 ∧ Fr n0 L1 ∧ Old Z n0 h1 ∧ Keep h0 h1 [a3] ∧ Arv Z h1 a3 k3 .char cs.length.toInt32 (own_ex cs (i + 1)) (.int (0 : Int32)) ∧ ∀ target, Steps p.tables e below (T1.setTop (mkF m 44 #[.val (.ref a1), .val (.int r1), .val (.ref a3), .val (.int (i.toInt32 + (1 : Int32)))] [])) target → Steps p.tables e below (T0.setTop (mkF m 44 #[.val (.ref a1), .val (.int r1), .val (.ref a3), .val (.int i.toInt32)] [])) target := by
      rcases Classical.em (own_brk cs[i]) with hq | hq
      · exact t_o2b cs1 fv a1 a3 k3 cs r1 i X0 hx hZ hw hby hml hown e0 N0 O0 G V ga hlt hn hq
      · exact t_o2n cs1 fv a1 a3 k3 cs r1 i X0 hx hZ hw hby hml hown e0 N0 O0 G V ga hlt hn hq
    rw [own_ts (by omega)] at st1
    obtain ⟨T', h', L', X', e', N', O', K', V', st'⟩ := ih (i + 1) T1 h1 L1 (by omega) X1 e1 N1 O1 V1
    exact ⟨T', h', L', X', e', N', O', K1.trans K' (allS (Or.inl (List.mem_singleton.mpr rfl)) all0), V', fun target kt => st1 _ (st' _ kt)⟩

theorem d4_0 : decode prog_16_method_2_code 0 = .ok (.iconst 0, 1) := by decide +kernel
theorem d4_1 : decode prog_16_method_2_code 1 = .ok (.istore_n 1, 1) := by decide +kernel
theorem d4_27 : decode prog_16_method_2_code 27 = .ok (.iload_n 1, 1) := by decide +kernel
theorem d4_28 : decode prog_16_method_2_code 28 = .ok (.aload_n 0, 1) := by decide +kernel
theorem d4_29 : decode prog_16_method_2_code 29 = .ok (.invokevirtual 7, 3) := by decide +kernel
theorem d4_32 : decode prog_16_method_2_code 32 = .ok (.if_icmp .ne 5, 3) := by decide +kernel
theorem d4_35 : decode prog_16_method_2_code 35 = .ok (.aload_n 0, 1) := by decide +kernel
theorem d4_36 : decode prog_16_method_2_code 36 = .ok (.areturn, 1) := by decide +kernel
theorem ef_4_33 (m : MethodId) (x0 : Addr) : entryFrame m #[(.ref x0)] 4 = mkF m 0 #[.val (.ref x0), .unset, .unset, .unset] [] := by first | (simp [entryFrame, mkF, argsToLocals, Value.category]; done) | rfl
theorem r_ofN (l : Launch) (Z : State) (a0 : Array Value) (hw : own_HW a0 Z) (ws : List Jvm.Cond) (cs1 : Int32) (fv : Value) (h0 : Heap) (n0 : Nat) (O0 : Old Z n0 h0) (G : own_Ctx Z Z.heap cs1 fv) (a1 : Addr) (cs : List Int32) (S : own_Str Z h0 a1 cs) (hn : cs.length ≤ 4) (hB : own_Bd cs) (hno : ∀ j (hj : j < cs.length), ¬ own_brk cs[j]) :
    own_M l Y31_ (head1 (Jvm.Cond.code Y31_ prog_16_method_2_code 4 (some (.object "java/lang/String")) :: ws) (own_rm_ 6 4 20 88)) #[(.ref a1)] Z h0 n0 (own_Qof Z a1 cs) (own_rm_ 6 4 20 88).cells (own_rm_ 6 4 20 88).slots := by
  have G0 := G
  obtain ⟨S_CS, N_CS, S_F, R_F, S_AD, S_HI, S_LO⟩ := G
  refine MetFree.of_bodySF (plainFor_of_name pn_4) hisR ?_
  intro p e s m args below meth c s₁ Bd hml0 hP hK
  obtain ⟨rfl, hZ, hh⟩ := hP
  have hx := Bd.exec
  have hby := Bd.bytes
  have hml : c.maxLocals = 4 := hml0
  have hown : s.vm.findClass "com/example/rubrique/rubrique/cli/OneLine" = some m.cls := findClass_of_methodNamed Bd.named
  have hnm := (name_of_methodNamed Bd.named Bd.method).1
  have X0 : Stand p l e (own_rm_ 6 4 20 88) s m #[(.ref a1)] below meth c s₁ [] 0 0 := Stand.of_body Bd
  have e0 : s₁.heap = h0 := by rw [← hh, Bd.state]; rfl
  have N0 := Fr.nil n0
  have pre0 := own_pre (tb := p.tables) (e := e) (below := below) (T := s₁) (ef_4_33 m a1)
  obtain ⟨T9, L9, r9, X9, e9, N9, hr9, hno9, hb9, st9⟩ := own_o1 cs1 fv a1 cs hx hZ hw hby hml hown G0 hn hB cs.length 0 _ _ _ (Nat.zero_add _) X0 e0 N0 O0 S (fun j hj q => absurd q (Nat.not_lt_zero _))
  obtain rfl : r9 = cs.length := Nat.le_antisymm hr9 (Nat.le_of_not_lt fun q => hno _ q (hb9 q))
  obtain ⟨cq1, kq1, q1a, q1b, q1c⟩ := isOf hZ e9 (own_Str_exa S)
  obtain ⟨_, _, ⟨T1, L1, k1, n1⟩, -, X1, ⟨Lc1, hQ1, l1, y1, z1⟩, st1⟩ := X9.virtualBack hx (y := Y18_) (z := Y18_) hown (mvT hZ (own_w hw 26 rfl)) (mvT hZ (own_w hw 27 rfl)) (notFace_of_selects (args := #[]) (mvT hZ (own_w hw 29 rfl))) (mvT hZ (own_w hw 29 rfl)) (mvT hZ (own_w hw 28 rfl)) (by decide) (backOf (W := 1) (r_len l Z a0 hw [] cs1 fv h0 n0 O0 G0 a1 cs S hn) hZ (own_w hw 30 rfl) (own_w hw 3 rfl) (by decide) (by decide)) q1a q1c (g := (mkF m 29 #[.val (.ref a1), .val (.int cs.length.toInt32), .unset, .unset] [(.ref a1), (.int cs.length.toInt32)])) rfl (by rw [hml]; rfl) (Steps.refl _) (argsL := []) (rest := [(.int cs.length.toInt32)]) (lenOf pd_21 rfl) rfl (by show 2 * 0 + _ ≤ _; exact Nat.le_of_eq rfl) (hb hby d4_29) (fun _ _ => ⟨rfl, e9, (by decide : 0 + 0 ≤ _), (by decide : 0 + 0 ≤ _)⟩)
  dsimp only [Pt.U, Pt.locs, Pt.cells, Pt.slots] at X1 l1 y1 z1 st1 hQ1
  subst l1 y1 z1
  obtain ⟨rfl, N1q, e1⟩ := hQ1
  have N1 := Fr.app N9 N1q
  obtain ⟨fs, hr, hrun, hended, hW, hsame⟩ := X1.leave (v := some (.ref a1)) (fun h => by rw [Bd.returns] at h; cases h)
  refine ⟨_, _, pre0 _ ?_, hrun, hended, _, _, rfl, ?_, ⟨_, rfl⟩, hW, hsame.mono (by decide) (by decide)⟩
  · show Steps p.tables e below (s₁.setTop (mkF m 0 #[.val (.ref a1), .unset, .unset, .unset] [])) _
    refine XS.iconst X0.here hx rfl (hb hby d4_0) ?_
    refine XS.istoreN X0.here hx rfl (hb hby d4_1) rfl (l' := #[.val (.ref a1), .val (.int (0 : Int32)), .unset, .unset]) rfl ?_
    show Steps p.tables e below (s₁.setTop (mkF m 2 #[.val (.ref a1), .val (.int (0 : Nat).toInt32), .unset, .unset] [])) _
    refine st9 _ ?_
    refine XS.iloadN X9.here hx rfl (hb hby d4_27) rfl ?_
    refine XS.aloadN X9.here hx rfl (hb hby d4_28) rfl rfl ?_
    show Steps p.tables e below (T9.setTop (mkF m 29 #[.val (.ref a1), .val (.int cs.length.toInt32), .unset, .unset] [(.ref a1), (.int cs.length.toInt32)])) _
    refine st1.trans ?_
    show Steps p.tables e below (T1.setTop (mkF m 32 #[.val (.ref a1), .val (.int cs.length.toInt32), .unset, .unset] [(.int cs.length.toInt32), (.int cs.length.toInt32)])) _
    refine XS.icmpNo X1.here hx rfl (hb hby d4_32) rfl (teq (rfl : cs.length.toInt32 = cs.length.toInt32)).2 ?_
    refine XS.aloadN X1.here hx rfl (hb hby d4_35) rfl rfl ?_
    show Steps p.tables e below (T1.setTop (mkF m 36 #[.val (.ref a1), .val (.int cs.length.toInt32), .unset, .unset] [(.ref a1)])) _
    exact retOut X1 hx Bd.returns rfl (Or.inr (Or.inr (Or.inr (Or.inr ⟨rfl, rfl, rfl⟩)))) (hb hby d4_36) hr
  · show own_Qof Z a1 cs h0 n0 _ T1.heap _
    rw [e1]
    exact ⟨a1, rfl, N1, (Keep.refl h0 []), by rw [own_map_same hno]; exact S, fun _ => rfl⟩
theorem d4_37 : decode prog_16_method_2_code 37 = .ok (.aload_n 0, 1) := by decide +kernel
theorem d4_38 : decode prog_16_method_2_code 38 = .ok (.invokevirtual 23, 3) := by decide +kernel
theorem pd_23 : parseMethodDescriptor "()[C" = some ⟨[], some (.array .char)⟩ := by decide +kernel
theorem d4_41 : decode prog_16_method_2_code 41 = .ok (.astore_n 2, 1) := by decide +kernel
theorem d4_42 : decode prog_16_method_2_code 42 = .ok (.iload_n 1, 1) := by decide +kernel
theorem d4_43 : decode prog_16_method_2_code 43 = .ok (.istore_n 3, 1) := by decide +kernel
theorem d4_70 : decode prog_16_method_2_code 70 = .ok (.new 8, 3) := by decide +kernel
theorem d4_73 : decode prog_16_method_2_code 73 = .ok (.dup, 1) := by decide +kernel
theorem d4_74 : decode prog_16_method_2_code 74 = .ok (.aload_n 2, 1) := by decide +kernel
theorem d4_75 : decode prog_16_method_2_code 75 = .ok (.invokespecial 27, 3) := by decide +kernel
theorem pd_24 : parseMethodDescriptor "([C)V" = some ⟨[(.array .char)], none⟩ := by decide +kernel
theorem d4_78 : decode prog_16_method_2_code 78 = .ok (.areturn, 1) := by decide +kernel
theorem r_ofB (l : Launch) (Z : State) (a0 : Array Value) (hw : own_HW a0 Z) (ws : List Jvm.Cond) (cs1 : Int32) (fv : Value) (h0 : Heap) (n0 : Nat) (O0 : Old Z n0 h0) (G : own_Ctx Z Z.heap cs1 fv) (a1 : Addr) (cs : List Int32) (S : own_Str Z h0 a1 cs) (hn : cs.length ≤ 4) (hB : own_Bd cs) (hex : ∃ j, ∃ hj : j < cs.length, own_brk cs[j]) :
    own_M l Y31_ (head1 (Jvm.Cond.code Y31_ prog_16_method_2_code 4 (some (.object "java/lang/String")) :: ws) (own_rm_ 6 4 20 88)) #[(.ref a1)] Z h0 n0 (own_Qof Z a1 cs) (own_rm_ 6 4 20 88).cells (own_rm_ 6 4 20 88).slots := by
  have G0 := G
  obtain ⟨S_CS, N_CS, S_F, R_F, S_AD, S_HI, S_LO⟩ := G
  refine MetFree.of_bodySF (plainFor_of_name pn_4) hisR ?_
  intro p e s m args below meth c s₁ Bd hml0 hP hK
  obtain ⟨rfl, hZ, hh⟩ := hP
  have hx := Bd.exec
  have hby := Bd.bytes
  have hml : c.maxLocals = 4 := hml0
  have hown : s.vm.findClass "com/example/rubrique/rubrique/cli/OneLine" = some m.cls := findClass_of_methodNamed Bd.named
  have hnm := (name_of_methodNamed Bd.named Bd.method).1
  have X0 : Stand p l e (own_rm_ 6 4 20 88) s m #[(.ref a1)] below meth c s₁ [] 0 0 := Stand.of_body Bd
  have e0 : s₁.heap = h0 := by rw [← hh, Bd.state]; rfl
  have N0 := Fr.nil n0
  have pre0 := own_pre (tb := p.tables) (e := e) (below := below) (T := s₁) (ef_4_33 m a1)
  obtain ⟨T9, L9, r9, X9, e9, N9, hr9, hno9, hb9, st9⟩ := own_o1 cs1 fv a1 cs hx hZ hw hby hml hown G0 hn hB cs.length 0 _ _ _ (Nat.zero_add _) X0 e0 N0 O0 S (fun j hj q => absurd q (Nat.not_lt_zero _))
  have r8 : r9 < cs.length := Nat.lt_of_not_le fun q => by
    obtain ⟨j, hj, hc⟩ := hex
    exact hno9 j hj (Nat.lt_of_lt_of_le hj q) hc
  have h1 : 1 ≤ cs.length := Nat.lt_of_le_of_lt (Nat.zero_le _) r8
  obtain ⟨cq1, kq1, q1a, q1b, q1c⟩ := isOf hZ e9 (own_Str_exa S)
  obtain ⟨_, _, ⟨T1, L1, k1, n1⟩, -, X1, ⟨Lc1, hQ1, l1, y1, z1⟩, st1⟩ := X9.virtualBack hx (y := Y18_) (z := Y18_) hown (mvT hZ (own_w hw 26 rfl)) (mvT hZ (own_w hw 27 rfl)) (notFace_of_selects (args := #[]) (mvT hZ (own_w hw 29 rfl))) (mvT hZ (own_w hw 29 rfl)) (mvT hZ (own_w hw 28 rfl)) (by decide) (backOf (W := 1) (r_len l Z a0 hw [] cs1 fv h0 n0 O0 G0 a1 cs S hn) hZ (own_w hw 30 rfl) (own_w hw 3 rfl) (by decide) (by decide)) q1a q1c (g := (mkF m 29 #[.val (.ref a1), .val (.int r9.toInt32), .unset, .unset] [(.ref a1), (.int r9.toInt32)])) rfl (by rw [hml]; rfl) (Steps.refl _) (argsL := []) (rest := [(.int r9.toInt32)]) (lenOf pd_21 rfl) rfl (by show 2 * 0 + _ ≤ _; exact Nat.le_of_eq rfl) (hb hby d4_29) (fun _ _ => ⟨rfl, e9, (by decide : 0 + 0 ≤ _), (by decide : 0 + 0 ≤ _)⟩)
  dsimp only [Pt.U, Pt.locs, Pt.cells, Pt.slots] at X1 l1 y1 z1 st1 hQ1
  subst l1 y1 z1
  obtain ⟨rfl, N1q, e1⟩ := hQ1
  have N1 := Fr.app N9 N1q
  obtain ⟨cq2, kq2, q2a, q2b, q2c⟩ := isOf hZ e1 (own_Str_exa S)
  obtain ⟨_, _, ⟨T2, L2, k2, n2⟩, -, X2, ⟨Lc2, hQ2, l2, y2, z2⟩, st2⟩ := X1.virtualBack hx (y := Y27_) (z := Y27_) hown (mvT hZ (own_w hw 110 rfl)) (mvT hZ (own_w hw 111 rfl)) (notFace_of_selects (args := #[]) (mvT hZ (own_w hw 113 rfl))) (mvT hZ (own_w hw 113 rfl)) (mvT hZ (own_w hw 112 rfl)) (by decide) (backOf (W := 0) (r_tca l Z a0 hw [] cs1 fv h0 n0 O0 G0 a1 cs S hn hB h1) hZ (own_w hw 114 rfl) (own_w hw 3 rfl) (by decide) (by decide)) q2a q2c (g := (mkF m 38 #[.val (.ref a1), .val (.int r9.toInt32), .unset, .unset] [(.ref a1)])) rfl (by rw [hml]; rfl) (Steps.refl _) (argsL := []) (rest := []) (lenOf pd_23 rfl) rfl (by show 2 * 0 + _ ≤ _; exact Nat.le_of_eq rfl) (hb hby d4_38) (fun _ _ => ⟨rfl, e1, (by decide : 0 + 1 ≤ _), (by decide : 0 + 4 ≤ _)⟩)
  dsimp only [Pt.U, Pt.locs, Pt.cells, Pt.slots] at X2 l2 y2 z2 st2 hQ2
  subst l2 y2 z2
  obtain ⟨t2, kt2, rfl, N2q, Kq2, gt2, Vt2⟩ := hQ2
  have N2 := Fr.app N1 N2q
  have g_t2 : n0 ≤ t2 := Nat.le_trans (O0.1 ▸ O0.2.1) gt2
  have sz_t2 : h0.size ≤ t2 := Nat.le_trans (Keep.refl h0 []).1 gt2
  have O2 := O0.keep Kq2 all0
  have K2 : Keep h0 T2.heap [] := (Keep.refl h0 []).trans Kq2 all0
  have f3 := own_Str_keep Kq2 S
  have vx : Arv Z T2.heap t2 kt2 .char cs.length.toInt32 (own_ex cs r9) (.int (0 : Int32)) := by rw [own_ex_start cs (Nat.le_of_lt r8) hno9]; exact Vt2
  obtain ⟨T7, h7, L7, X7, e7, N7, O7, K7, V7, st7⟩ := own_o2 cs1 fv a1 t2 kt2 cs r9.toInt32 hx hZ hw hby hml hown G0 g_t2 hn (cs.length - r9) r9 _ _ _ (Nat.add_sub_cancel' hr9) X2 rfl N2 O2 vx
  have V8 : Arv Z h7 t2 kt2 .char (cs.map own_exp).length.toInt32 ((cs.map own_exp).map Value.int) (.int (0 : Int32)) := by rw [List.length_map, ← own_ex_all]; exact V7
  have K7' : Keep h0 h7 [] := K2.trans K7 (allS (Or.inr sz_t2) all0)
  obtain ⟨T4, h4, X4, e4, E4, A4, D4, -, st4⟩ := newO X7 hx hZ hown (own_w hw 121 rfl) (own_w hw 2 rfl) (own_w hw 3 rfl) e7 (g := (mkF m 70 #[.val (.ref a1), .val (.int r9.toInt32), .val (.ref t2), .val (.int cs.length.toInt32)] [])) rfl (hb hby d4_70) (by decide) (by decide)
  obtain ⟨b4, g4⟩ : ∃ z, z = h7.size := ⟨_, rfl⟩
  have ne_t2_b4 : t2 ≠ b4 := Nat.ne_of_lt (Nat.lt_of_lt_of_le V8.lt (Nat.le_of_eq g4.symm))
  have g_b4 : n0 ≤ b4 := Nat.le_trans (O7.1 ▸ O7.2.1) (Nat.le_of_eq g4.symm)
  have sz_b4 : h0.size ≤ b4 := Nat.le_trans K7'.1 (Nat.le_of_eq g4.symm)
  rw [← g4] at A4 D4 st4
  have f5 := V8.ext E4
  have O4 := O7.ext E4
  have K4 : Keep h0 h4 [] := K7'.ext E4
  have F4_16 : Fld Z h4 b4 "java/lang/String" "value" "[B" .null := D4 (Or.inr (own_w hw 16 rfl)) (ty := (.array .byte)) (by decide)
  have F4_17 : Fld Z h4 b4 "java/lang/String" "coder" "B" (.int (0 : Int32)) := D4 (Or.inr (own_w hw 17 rfl)) (ty := .byte) (by decide)
  obtain ⟨_, _, ⟨T6, L6, k6, n6⟩, -, X6, ⟨Lc6, hQ6, l6, y6, z6⟩, st6⟩ := X4.specialBack hx (y := Y15_) rfl hown (mvT hZ (own_w hw 122 rfl)) (mvT hZ (own_w hw 5 rfl)) (mvT hZ (own_w hw 6 rfl)) (by decide) (backOf (W := 1) (r_new l Z a0 hw [] cs1 fv h4 n0 O4 G0 b4 t2 kt2 (cs.map own_exp) A4 g_b4 F4_17 F4_16 f5 ne_t2_b4 (own_lenm hn) (own_lenm1 h1) (own_Bd_exp hB)) hZ (own_w hw 6 rfl) (own_w hw 3 rfl) (by decide) (by decide)) (g := (mkF m 75 #[.val (.ref a1), .val (.int r9.toInt32), .val (.ref t2), .val (.int cs.length.toInt32)] [(.ref t2), (.ref b4), (.ref b4)])) rfl (by rw [hml]; rfl) (Steps.refl _) (a := b4) (argsL := [(.ref t2)]) (rest := [(.ref b4)]) (lenOf pd_24 rfl) rfl (by show 2 * 0 + _ ≤ _; exact Nat.le_of_eq rfl) (hb hby d4_75) (fun _ _ => ⟨rfl, e4, (by decide : 2 + 2 ≤ _), (by decide : 8 + 12 ≤ _)⟩)
  dsimp only [Pt.U, Pt.locs, Pt.cells, Pt.slots] at X6 l6 y6 z6 st6 hQ6
  subst l6 y6 z6
  obtain ⟨rfl, N6q, Kq6, Sq6⟩ := hQ6
  have N6 := Fr.app N7 N6q
  have f7 := f5.keep Kq6 (fun q => (List.mem_cons.mp q).elim ne_t2_b4 (fun q => nomatch q))
  have f8 := A4.keep Kq6
  have O6 := O4.keep Kq6 (allS g_b4 all0)
  have K6 : Keep h0 T6.heap [] := K4.trans Kq6 (allS (Or.inr sz_b4) all0)
  obtain ⟨fs, hr, hrun, hended, hW, hsame⟩ := X6.leave (v := some (.ref b4)) (fun h => by rw [Bd.returns] at h; cases h)
  refine ⟨_, _, pre0 _ ?_, hrun, hended, _, _, rfl, ?_, ⟨_, rfl⟩, hW, hsame.mono (by decide) (by decide)⟩
  · show Steps p.tables e below (s₁.setTop (mkF m 0 #[.val (.ref a1), .unset, .unset, .unset] [])) _
    refine XS.iconst X0.here hx rfl (hb hby d4_0) ?_
    refine XS.istoreN X0.here hx rfl (hb hby d4_1) rfl (l' := #[.val (.ref a1), .val (.int (0 : Int32)), .unset, .unset]) rfl ?_
    show Steps p.tables e below (s₁.setTop (mkF m 2 #[.val (.ref a1), .val (.int (0 : Nat).toInt32), .unset, .unset] [])) _
    refine st9 _ ?_
    refine XS.iloadN X9.here hx rfl (hb hby d4_27) rfl ?_
    refine XS.aloadN X9.here hx rfl (hb hby d4_28) rfl rfl ?_
    show Steps p.tables e below (T9.setTop (mkF m 29 #[.val (.ref a1), .val (.int r9.toInt32), .unset, .unset] [(.ref a1), (.int r9.toInt32)])) _
    refine st1.trans ?_
    show Steps p.tables e below (T1.setTop (mkF m 32 #[.val (.ref a1), .val (.int r9.toInt32), .unset, .unset] [(.int cs.length.toInt32), (.int r9.toInt32)])) _
    refine XS.icmpYes X1.here hx rfl (pc0 := 32) (pc' := 37) rfl (hb hby d4_32) rfl (feq (own_fe r8 hn : ¬ (r9.toInt32 = cs.length.toInt32))).2 (by decide) (by decide) ?_
    refine XS.aloadN X1.here hx rfl (hb hby d4_37) rfl rfl ?_
    show Steps p.tables e below (T1.setTop (mkF m 38 #[.val (.ref a1), .val (.int r9.toInt32), .unset, .unset] [(.ref a1)])) _
    refine st2.trans ?_
    show Steps p.tables e below (T2.setTop (mkF m 41 #[.val (.ref a1), .val (.int r9.toInt32), .unset, .unset] [(.ref t2)])) _
    refine XS.astoreN X2.here hx rfl (hb hby d4_41) rfl rfl (l' := #[.val (.ref a1), .val (.int r9.toInt32), .val (.ref t2), .unset]) rfl ?_
    refine XS.iloadN X2.here hx rfl (hb hby d4_42) rfl ?_
    refine XS.istoreN X2.here hx rfl (hb hby d4_43) rfl (l' := #[.val (.ref a1), .val (.int r9.toInt32), .val (.ref t2), .val (.int r9.toInt32)]) rfl ?_
    refine st7 _ ?_
    show Steps p.tables e below (T7.setTop (mkF m 70 #[.val (.ref a1), .val (.int r9.toInt32), .val (.ref t2), .val (.int cs.length.toInt32)] [])) _
    refine st4 _ ?_
    show Steps p.tables e below (T4.setTop (mkF m 73 #[.val (.ref a1), .val (.int r9.toInt32), .val (.ref t2), .val (.int cs.length.toInt32)] [(.ref b4)])) _
    refine XS.dup X4.here hx rfl (hb hby d4_73) rfl rfl ?_
    refine XS.aloadN X4.here hx rfl (hb hby d4_74) rfl rfl ?_
    show Steps p.tables e below (T4.setTop (mkF m 75 #[.val (.ref a1), .val (.int r9.toInt32), .val (.ref t2), .val (.int cs.length.toInt32)] [(.ref t2), (.ref b4), (.ref b4)])) _
    refine st6.trans ?_
    show Steps p.tables e below (T6.setTop (mkF m 78 #[.val (.ref a1), .val (.int r9.toInt32), .val (.ref t2), .val (.int cs.length.toInt32)] [(.ref b4)])) _
    exact retOut X6 hx Bd.returns rfl (Or.inr (Or.inr (Or.inr (Or.inr ⟨rfl, rfl, rfl⟩)))) (hb hby d4_78) hr
  · show own_Qof Z a1 cs h0 n0 _ T6.heap _
    exact ⟨b4, rfl, N6, K6, Sq6, fun q => absurd (hb9 r8) (q r9 r8)⟩
theorem r_of (l : Launch) (Z : State) (a0 : Array Value) (hw : own_HW a0 Z) (ws : List Jvm.Cond) (cs1 : Int32) (fv : Value) (h0 : Heap) (n0 : Nat) (O0 : Old Z n0 h0) (G : own_Ctx Z Z.heap cs1 fv) (a1 : Addr) (cs : List Int32) (S : own_Str Z h0 a1 cs) (hn : cs.length ≤ 4) (hB : own_Bd cs) :
    own_M l Y31_ (head1 (Jvm.Cond.code Y31_ prog_16_method_2_code 4 (some (.object "java/lang/String")) :: ws) (own_rm_ 6 4 20 88)) #[(.ref a1)] Z h0 n0 (own_Qof Z a1 cs) (own_rm_ 6 4 20 88).cells (own_rm_ 6 4 20 88).slots := by
  rcases Classical.em (∃ j, ∃ hj : j < cs.length, own_brk cs[j]) with q | q
  · exact r_ofB l Z a0 hw ws cs1 fv h0 n0 O0 G a1 cs S hn hB q
  · exact r_ofN l Z a0 hw ws cs1 fv h0 n0 O0 G a1 cs S hn hB (fun j hj r => q ⟨j, hj, r⟩)
theorem d2_8 : decode jdk_42_method_149_code 8 = .ok (.aload_n 0, 1) := by decide +kernel
theorem d2_9 : decode jdk_42_method_149_code 9 = .ok (.ldc 7, 2) := by decide +kernel
theorem d2_11 : decode jdk_42_method_149_code 11 = .ok (.getfield 9, 3) := by decide +kernel
theorem d2_14 : decode jdk_42_method_149_code 14 = .ok (.putfield 9, 3) := by decide +kernel
theorem d2_17 : decode jdk_42_method_149_code 17 = .ok (.aload_n 0, 1) := by decide +kernel
theorem d2_18 : decode jdk_42_method_149_code 18 = .ok (.ldc 7, 2) := by decide +kernel
theorem d2_20 : decode jdk_42_method_149_code 20 = .ok (.getfield 15, 3) := by decide +kernel
theorem d2_23 : decode jdk_42_method_149_code 23 = .ok (.putfield 15, 3) := by decide +kernel
theorem d2_26 : decode jdk_42_method_149_code 26 = .ok (.return_, 1) := by decide +kernel
theorem r_sv0 (l : Launch) (Z : State) (a0 : Array Value) (hw : own_HW a0 Z) (ws : List Jvm.Cond) (cs1 : Int32) (fv : Value) (h0 : Heap) (n0 : Nat) (O0 : Old Z n0 h0) (G : own_Ctx Z Z.heap cs1 fv) (hEL : EW Z a0 own_EL) (wS : ∀ a ∈ Bundle.stringAtoms, a.before a0 Z = true) (a1 a2 : Addr) (Ea : Exa Z h0 a1 "java/lang/String") (ga : n0 ≤ a1) (Fc : Fld Z h0 a1 "java/lang/String" "coder" "B" (.int (0 : Int32))) (Fv : Fld Z h0 a1 "java/lang/String" "value" "[B" .null) :
    MetFree l Y14_ (head1 (Jvm.Cond.code Y14_ jdk_42_method_149_code 6 none :: ws) (own_rm_ 1 2 4 12)) (fun a U => a = #[(.ref a1), (.ref a2), (.int (0 : Int32)), (.int (0 : Int32)), .null] ∧ Z.Warmed39 U.vm ∧ U.heap = h0 ∧ CHv Z own_EL U.vm h0) (fun _ _ _ _ _ => True) (fun _ U o U' => ∃ v L, o = .returned v ∧ own_QS Z a1 ([] : List Int32) h0 n0 v U'.heap L ∧ CHr Z own_EL U.vm U.heap U'.vm U'.heap ∧ ReturnedEndW U o U' L (own_rm_ 1 2 4 12).cells (own_rm_ 1 2 4 12).slots) := by
  have G0 := G
  obtain ⟨S_CS, N_CS, S_F, R_F, S_AD, S_HI, S_LO⟩ := G
  refine MetFree.of_bodySF (plainFor_of_name pn_2) hisR ?_
  intro p e s m args below meth c s₁ Bd hml0 hP hK
  obtain ⟨rfl, hZ, hh, hC⟩ := hP
  have hx := Bd.exec
  have hby := Bd.bytes
  have hml : c.maxLocals = 6 := hml0
  have hown : s.vm.findClass "java/lang/String" = some m.cls := findClass_of_methodNamed Bd.named
  have hnm := (name_of_methodNamed Bd.named Bd.method).1
  have X0 : Stand p l e (own_rm_ 1 2 4 12) (s.setVm s.vm) m #[(.ref a1), (.ref a2), (.int (0 : Int32)), (.int (0 : Int32)), .null] below meth c s₁ [] 0 0 := Stand.of_body Bd
  have e0 : s₁.heap = h0 := by rw [← hh, Bd.state]; rfl
  have N0 := Fr.nil n0
  have hS0 : s.Since s.vm h0.size := State.WarmedH.since (State.WarmedH.refl s) _
  have hk0 : h0.size ≤ h0.size := Nat.le_refl _
  have pre0 := own_pre (tb := p.tables) (e := e) (below := below) (T := s₁) (ef_2_15 m a1 a2 (0 : Int32) (0 : Int32))
  obtain ⟨T1, X1, e1, st1⟩ := initO X0 hx hZ hown (own_w hw 11 rfl) (own_w hw 12 rfl) (own_w hw 13 rfl) e0 (g := (mkF m 1 #[.val (.ref a1), .val (.ref a2), .val (.int (0 : Int32)), .val (.int (0 : Int32)), .val .null, .unset] [(.ref a1)])) rfl (by rw [hml]; rfl) rfl (hb hby d2_1) (by decide) (W := 0) (by show 2 * 0 + _ ≤ _; exact Nat.le_of_eq rfl) (by decide)
  have sf2 : Safe Z own_EL s.vm h0 a1 := own_safeS hZ.alike Ea Fv
  obtain ⟨la3, T3, h3, k3, lb3, kk3, X3, e3, E3, S3, hk3, hZ3, hown3, A3, Fc3, Fv3, V3, -, -, R3q, L3, ne3, st3⟩ := ldcCH (s := s) (vm0 := s.vm) (EL := own_EL) X1 hx hZ hown (own_w hw 14 rfl) wS e1 hS0 hk0 hEL (List.mem_of_getElem? (i := 0) rfl) hC (vs := []) (z := (0 : Int32)) ⟨fun c h => by simp at h, rfl⟩ (by decide) rfl (g := (mkF m 9 #[.val (.ref a1), .val (.ref a2), .val (.int (0 : Int32)), .val (.int (0 : Int32)), .val .null, .unset] [(.ref a1)])) rfl (hb hby d2_9) (n := 0) (by decide) (by decide) (by decide) (by decide)
  have f4 := Ea.ext E3
  have f5 := Fc.ext E3
  have f6 := Fv.ext E3
  have O3 := O0.ext E3
  have K3 : Keep h0 h3 [a1] := (Keep.refl h0 [a1]).ext E3
  have sf7 := R3q.safe Ea.lt sf2
  have R3 : CHr Z own_EL s.vm h0 T3.vm h3 := (CHr.refl hC).trans R3q
  have C3 := R3q.1
  obtain ⟨T8, X8, e8, st8⟩ := getF X3 hx hZ3 hown3 (host := "") (Or.inl (own_w hw 20 rfl)) Via.refl e3 Fv3 (g := (mkF m 11 #[.val (.ref a1), .val (.ref a2), .val (.int (0 : Int32)), .val (.int (0 : Int32)), .val .null, .unset] [(.ref la3), (.ref a1)])) rfl rfl (hb hby d2_11)
  obtain ⟨T9, h9, X9, e9, W9, st9⟩ := putF X8 hx hZ3 hown3 (host := "") (Or.inl (own_w hw 20 rfl)) Via.refl e8 f6 f4 (Or.inr ⟨(own_w hw 16 rfl), rfl, hnm⟩) (own_w hw 2 rfl) (ty := (.array .byte)) (by decide) rfl rfl (g := (mkF m 14 #[.val (.ref a1), .val (.ref a2), .val (.int (0 : Int32)), .val (.int (0 : Int32)), .val .null, .unset] [(.ref lb3), (.ref a1)])) rfl rfl (hb hby d2_14)
  have f10 := f4.wr W9
  have f11 := f5.other W9 (Or.inr (slot_ne (Or.inr (own_w hw 17 rfl)) (Or.inr (own_w hw 16 rfl)) (by decide) (t := .byte) (t' := (.array .byte)) (by decide) (by decide)))
  have f12 := A3.wr W9
  have f13 := Fc3.other W9 (Or.inl (Ne.symm (ne3 a1 sf7).1))
  have f14 := Fv3.other W9 (Or.inl (Ne.symm (ne3 a1 sf7).1))
  have f15 := V3.other W9 (Ne.symm (ne3 a1 sf7).2)
  have O9 := O3.wr W9 ga
  have K9 : Keep h0 h9 [a1] := K3.wr W9 (Or.inl (List.mem_of_getElem? (i := 0) rfl))
  have N9 := Fr.snoc X9 N0 ga
  have sf16 := Safe.wr W9 sf7 C3 sf7
  have C9 : CHv Z own_EL T3.vm h9 := C3.wr W9 sf7
  have R9 : CHr Z own_EL s.vm h0 T3.vm h9 := R3.trans (CHr.wr W9 sf7 C3)
  have hk9 := Nat.le_trans hk3 (Keep.of_wr W9).1
  have f17 := f6.same W9
  obtain ⟨T18, X18, e18, st18⟩ := getF X9 hx hZ3 hown3 (host := "") (Or.inl (own_w hw 21 rfl)) Via.refl e9 f13 (g := (mkF m 20 #[.val (.ref a1), .val (.ref a2), .val (.int (0 : Int32)), .val (.int (0 : Int32)), .val .null, .unset] [(.ref la3), (.ref a1)])) rfl rfl (hb hby d2_20)
  obtain ⟨T19, h19, X19, e19, W19, st19⟩ := putFN X18 hx hZ3 hown3 (own_w hw 21 rfl) Via.refl e18 f11 f10 (Or.inr ⟨(own_w hw 17 rfl), rfl, hnm⟩) (own_w hw 2 rfl) (ty := .byte) (v' := (.int ((0 : Int32).toInt8.toInt32))) (by decide) rfl (fits_nar_byte _) (g := (mkF m 23 #[.val (.ref a1), .val (.ref a2), .val (.int (0 : Int32)), .val (.int (0 : Int32)), .val .null, .unset] [(.int (0 : Int32)), (.ref a1)])) rfl rfl (hb hby d2_23)
  have f20 := f10.wr W19
  have f21 := f17.other W19 (Or.inr (slot_ne (Or.inr (own_w hw 16 rfl)) (Or.inr (own_w hw 17 rfl)) (by decide) (t := (.array .byte)) (t' := .byte) (by decide) (by decide)))
  have f22 := f12.wr W19
  have f23 := f13.other W19 (Or.inl (Ne.symm (ne3 a1 sf7).1))
  have f24 := f14.other W19 (Or.inl (Ne.symm (ne3 a1 sf7).1))
  have f25 := f15.other W19 (Ne.symm (ne3 a1 sf7).2)
  have O19 := O9.wr W19 ga
  have K19 : Keep h0 h19 [a1] := K9.wr W19 (Or.inl (List.mem_of_getElem? (i := 0) rfl))
  have N19 := Fr.snoc X19 N9 ga
  have sf26 := Safe.wr W19 sf16 C9 sf16
  have C19 : CHv Z own_EL T3.vm h19 := C9.wr W19 sf16
  have R19 : CHr Z own_EL s.vm h0 T3.vm h19 := R9.trans (CHr.wr W19 sf16 C9)
  have hk19 := Nat.le_trans hk9 (Keep.of_wr W19).1
  have f27 := f11.same W19
  obtain ⟨fs, hr, hrun, hended, hRW⟩ := X19.leaveW S3 (by rw [e19]; exact hk19) (v := none) (fun _ => rfl)
  refine ⟨_, _, pre0 _ ?_, hrun, hended, _, _, rfl, ?_, ?_, hRW.1, hRW.2.1, hRW.2.2.1, hRW.2.2.2.mono (by decide) (by decide)⟩
  · show Steps p.tables e below (s₁.setTop (mkF m 0 #[.val (.ref a1), .val (.ref a2), .val (.int (0 : Int32)), .val (.int (0 : Int32)), .val .null, .unset] [])) _
    refine XS.aloadN X0.here hx rfl (hb hby d2_0) rfl rfl ?_
    show Steps p.tables e below (s₁.setTop (mkF m 1 #[.val (.ref a1), .val (.ref a2), .val (.int (0 : Int32)), .val (.int (0 : Int32)), .val .null, .unset] [(.ref a1)])) _
    refine st1 _ ?_
    show Steps p.tables e below (T1.setTop (mkF m 4 #[.val (.ref a1), .val (.ref a2), .val (.int (0 : Int32)), .val (.int (0 : Int32)), .val .null, .unset] [])) _
    refine XS.iloadN X1.here hx rfl (hb hby d2_4) rfl ?_
    refine XS.ifNo X1.here hx rfl (hb hby d2_5) rfl ((if0 _ _).trans (teq (by decide : (0 : Int32) = (0 : Int32))).2) ?_
    refine XS.aloadN X1.here hx rfl (hb hby d2_8) rfl rfl ?_
    show Steps p.tables e below (T1.setTop (mkF m 9 #[.val (.ref a1), .val (.ref a2), .val (.int (0 : Int32)), .val (.int (0 : Int32)), .val .null, .unset] [(.ref a1)])) _
    refine st3 _ ?_
    show Steps p.tables e below (T3.setTop (mkF m 11 #[.val (.ref a1), .val (.ref a2), .val (.int (0 : Int32)), .val (.int (0 : Int32)), .val .null, .unset] [(.ref la3), (.ref a1)])) _
    refine st8 _ ?_
    show Steps p.tables e below (T8.setTop (mkF m 14 #[.val (.ref a1), .val (.ref a2), .val (.int (0 : Int32)), .val (.int (0 : Int32)), .val .null, .unset] [(.ref lb3), (.ref a1)])) _
    refine st9 _ ?_
    show Steps p.tables e below (T9.setTop (mkF m 17 #[.val (.ref a1), .val (.ref a2), .val (.int (0 : Int32)), .val (.int (0 : Int32)), .val .null, .unset] [])) _
    refine XS.aloadN X9.here hx rfl (hb hby d2_17) rfl rfl ?_
    show Steps p.tables e below (T9.setTop (mkF m 18 #[.val (.ref a1), .val (.ref a2), .val (.int (0 : Int32)), .val (.int (0 : Int32)), .val .null, .unset] [(.ref a1)])) _
    refine (ldcAgain (s := s) (vm0 := T3.vm) X9 hx hZ3 hown3 (own_w hw 14 rfl) L3 (g := (mkF m 18 #[.val (.ref a1), .val (.ref a2), .val (.int (0 : Int32)), .val (.int (0 : Int32)), .val .null, .unset] [(.ref a1)])) rfl (hb hby d2_18)) _ ?_
    show Steps p.tables e below (T9.setTop (mkF m 20 #[.val (.ref a1), .val (.ref a2), .val (.int (0 : Int32)), .val (.int (0 : Int32)), .val .null, .unset] [(.ref la3), (.ref a1)])) _
    refine st18 _ ?_
    show Steps p.tables e below (T18.setTop (mkF m 23 #[.val (.ref a1), .val (.ref a2), .val (.int (0 : Int32)), .val (.int (0 : Int32)), .val .null, .unset] [(.int (0 : Int32)), (.ref a1)])) _
    refine st19 _ ?_
    show Steps p.tables e below (T19.setTop (mkF m 26 #[.val (.ref a1), .val (.ref a2), .val (.int (0 : Int32)), .val (.int (0 : Int32)), .val .null, .unset] [])) _
    exact X19.returnOut hx Bd.returns (hb hby d2_26) hr
  · show own_QS Z a1 ([] : List Int32) h0 n0 _ T19.heap _
    rw [e19]
    exact ⟨rfl, N19, K19, lb3, kk3, f20, f21, Or.inl ⟨f27, own_all0 (P := fun z => ¬ ((255 : Int32) < z)), f25⟩⟩
  · show CHr Z own_EL s.vm s.heap T19.vm T19.heap
    rw [hh, e19]
    exact R19.trans (CHv.at (s := s) (vm0 := T3.vm) X19 hZ3 hEL C19)
theorem r_s0 (l : Launch) (Z : State) (a0 : Array Value) (hw : own_HW a0 Z) (ws : List Jvm.Cond) (cs1 : Int32) (fv : Value) (h0 : Heap) (n0 : Nat) (O0 : Old Z n0 h0) (G : own_Ctx Z Z.heap cs1 fv) (hEL : EW Z a0 own_EL) (wS : ∀ a ∈ Bundle.stringAtoms, a.before a0 Z = true) (a1 a2 : Addr) (k2 : ClassId) (Ea : Exa Z h0 a1 "java/lang/String") (ga : n0 ≤ a1) (Fc : Fld Z h0 a1 "java/lang/String" "coder" "B" (.int (0 : Int32))) (Fv : Fld Z h0 a1 "java/lang/String" "value" "[B" .null) (Va : Arv Z h0 a2 k2 .char (0 : Int32) [] (.int (0 : Int32))) (hne : a2 ≠ a1) :
    MetFree l Y15_ (head1 (Jvm.Cond.code Y15_ jdk_42_method_3_code 2 none :: ws) (own_rm_ 2 2 4 29)) (fun a U => a = #[(.ref a1), (.ref a2)] ∧ Z.Warmed39 U.vm ∧ U.heap = h0 ∧ CHv Z own_EL U.vm h0) (fun _ _ _ _ _ => True) (fun _ U o U' => ∃ v L, o = .returned v ∧ own_QS Z a1 ([] : List Int32) h0 n0 v U'.heap L ∧ CHr Z own_EL U.vm U.heap U'.vm U'.heap ∧ ReturnedEndW U o U' L (own_rm_ 2 2 4 29).cells (own_rm_ 2 2 4 29).slots) := by
  have G0 := G
  obtain ⟨S_CS, N_CS, S_F, R_F, S_AD, S_HI, S_LO⟩ := G
  refine MetFree.of_bodySF (plainFor_of_name pn_2) hisR ?_
  intro p e s m args below meth c s₁ Bd hml0 hP hK
  obtain ⟨rfl, hZ, hh, hC⟩ := hP
  have hx := Bd.exec
  have hby := Bd.bytes
  have hml : c.maxLocals = 2 := hml0
  have hown : s.vm.findClass "java/lang/String" = some m.cls := findClass_of_methodNamed Bd.named
  have hnm := (name_of_methodNamed Bd.named Bd.method).1
  have X0 : Stand p l e (own_rm_ 2 2 4 29) (s.setVm s.vm) m #[(.ref a1), (.ref a2)] below meth c s₁ [] 0 0 := Stand.of_body Bd
  have e0 : s₁.heap = h0 := by rw [← hh, Bd.state]; rfl
  have N0 := Fr.nil n0
  have hS0 : s.Since s.vm h0.size := State.WarmedH.since (State.WarmedH.refl s) _
  have hk0 : h0.size ≤ h0.size := Nat.le_refl _
  have pre0 := own_pre (tb := p.tables) (e := e) (below := below) (T := s₁) (ef_1_16 m a1 a2)
  have vc1 := Va
  obtain ⟨cl1, Ar1, qk1, S1, Nn1, Hs1, Gf1⟩ := vc1
  obtain ⟨_, _, ⟨T2, L2, k2, n2⟩, -, X2, S2a, z2a, ⟨Lc2, hQ2, l2, y2, z2, R2q⟩, st2⟩ := X0.specialBackS hx (y := Y14_) rfl hown (mvT hZ (own_w hw 7 rfl)) (mvT hZ (own_w hw 8 rfl)) (mvT hZ (own_w hw 10 rfl)) (by decide) (backOfSH (s := s) (vm0 := s.vm) (EL := own_EL) (W := 0) (r_sv0 l Z a0 hw [] cs1 fv h0 n0 O0 G0 hEL wS a1 a2 Ea ga Fc Fv) hZ (own_w hw 10 rfl) (own_w hw 3 rfl) (by decide) (by decide) hEL hC) (g := (mkF m 6 #[.val (.ref a1), .val (.ref a2)] [.null, (.int (0 : Int32)), (.int (0 : Int32)), (.ref a2), (.ref a1)])) rfl (by rw [hml]; rfl) (Steps.refl _) (a := a1) (argsL := [(.ref a2), (.int (0 : Int32)), (.int (0 : Int32)), .null]) (rest := []) (lenOf pd_11 rfl) rfl (by show 2 * 0 + _ ≤ _; exact Nat.le_of_eq rfl) (hb hby d1_6) (fun _ _ => ⟨rfl, e0, (by decide : 0 + 2 ≤ _), (by decide : 0 + 4 ≤ _)⟩)
  dsimp only [Pt.U, Pt.locs, Pt.cells, Pt.slots] at X2 S2a z2a l2 y2 z2 st2 hQ2 R2q
  subst l2 y2 z2
  have X2 : Stand p l e (own_rm_ 2 2 4 29) (s.setVm T2.vm) m #[(.ref a1), (.ref a2)] below meth c T2 _ _ _ := X2
  have S2f : s.Since T2.vm T2.heap.size := foldS (T := s₁) hS0 (by rw [e0]; exact hk0) S2a z2a
  have hZ2 : Z.Warmed39 T2.vm := State.Warmed39.trans (t := s.setVm s.vm) hZ S2a.1
  have hown2 : (s.setVm T2.vm).vm.findClass "java/lang/String" = some m.cls := by rw [show (s.setVm T2.vm).vm = T2.vm from rfl, S2a.1.alike.findClass]; exact hown
  obtain ⟨rfl, N2q, Kq2, Sq2⟩ := hQ2
  have N2 := Fr.app N0 N2q
  have f3 := Ea.keep Kq2
  have f4 := Va.keep Kq2 (fun q => (List.mem_cons.mp q).elim hne (fun q => nomatch q))
  have O2 := O0.keep Kq2 (allS ga all0)
  have K2 : Keep h0 T2.heap [a1] := (Keep.refl h0 [a1]).trans Kq2 (allS (Or.inl (List.mem_of_getElem? (i := 0) rfl)) all0)
  have R2 : CHr Z own_EL s.vm h0 T2.vm T2.heap := (CHr.refl hC).trans R2q
  have C2 := R2q.1
  obtain ⟨fs, hr, hrun, hended, hRW⟩ := X2.leaveW S2f (Nat.le_refl _) (v := none) (fun _ => rfl)
  refine ⟨_, _, pre0 _ ?_, hrun, hended, _, _, rfl, ?_, ?_, hRW.1, hRW.2.1, hRW.2.2.1, hRW.2.2.2.mono (by decide) (by decide)⟩
  · show Steps p.tables e below (s₁.setTop (mkF m 0 #[.val (.ref a1), .val (.ref a2)] [])) _
    refine XS.aloadN X0.here hx rfl (hb hby d1_0) rfl rfl ?_
    refine XS.aloadN X0.here hx rfl (hb hby d1_1) rfl rfl ?_
    refine XS.iconst X0.here hx rfl (hb hby d1_2) ?_
    refine XS.aloadN X0.here hx rfl (hb hby d1_3) rfl rfl ?_
    show Steps p.tables e below (s₁.setTop (mkF m 4 #[.val (.ref a1), .val (.ref a2)] [(.ref a2), (.int (0 : Int32)), (.ref a2), (.ref a1)])) _
    refine X0.arraylength hx (by rw [e0]; exact Ar1.1) (State.isArrayOf_alike hZ.alike Ar1.2.1) (g := (mkF m 4 #[.val (.ref a1), .val (.ref a2)] [(.ref a2), (.int (0 : Int32)), (.ref a2), (.ref a1)])) rfl rfl (hb hby d1_4) _ ?_
    rw [len_of S1 Nn1]
    show Steps p.tables e below (s₁.setTop (mkF m 5 #[.val (.ref a1), .val (.ref a2)] [(.int (0 : Int32)), (.int (0 : Int32)), (.ref a2), (.ref a1)])) _
    refine XS.aconstNull X0.here hx rfl (hb hby d1_5) ?_
    show Steps p.tables e below (s₁.setTop (mkF m 6 #[.val (.ref a1), .val (.ref a2)] [.null, (.int (0 : Int32)), (.int (0 : Int32)), (.ref a2), (.ref a1)])) _
    refine st2.trans ?_
    show Steps p.tables e below (T2.setTop (mkF m 9 #[.val (.ref a1), .val (.ref a2)] [])) _
    exact X2.returnOut hx Bd.returns (hb hby d1_9) hr
  · show own_QS Z a1 ([] : List Int32) h0 n0 _ T2.heap _
    exact ⟨rfl, N2, K2, Sq2⟩
  · show CHr Z own_EL s.vm s.heap T2.vm T2.heap
    rw [hh]
    exact R2.trans (CHv.at (s := s) (vm0 := T2.vm) X2 hZ2 hEL C2)
theorem own_and4 (p : Int32) : p &&& (3 : Int32) = (0 : Int32) ∨ p &&& (3 : Int32) = (1 : Int32) ∨ p &&& (3 : Int32) = (2 : Int32) ∨ p &&& (3 : Int32) = (3 : Int32) := by
  have h1 := c_and p (3 : Int32) (by decide)
  have h2 : ((3 : Int32)).toInt = 3 := rfl
  have h3 : (p &&& (3 : Int32)).toInt = 0 ∨ (p &&& (3 : Int32)).toInt = 1 ∨ (p &&& (3 : Int32)).toInt = 2 ∨ (p &&& (3 : Int32)).toInt = 3 := by omega
  rcases h3 with h | h | h | h
  · exact Or.inl (Int32.toInt_inj.mp (h.trans rfl))
  · exact Or.inr (Or.inl (Int32.toInt_inj.mp (h.trans rfl)))
  · exact Or.inr (Or.inr (Or.inl (Int32.toInt_inj.mp (h.trans rfl))))
  · exact Or.inr (Or.inr (Or.inr ((Int32.toInt_inj.mp (h.trans rfl)))))
theorem pd_25 : parseMethodDescriptor "(Ljava/lang/String;)Ljava/lang/String;" = some ⟨[(.object "java/lang/String")], some (.object "java/lang/String")⟩ := by decide +kernel
theorem ef_0_34 (m : MethodId) (x0 : Int32) (x1 : Int32) (x2 : Int32) (x3 : Int32) : entryFrame m #[(.int x0), (.int x1), (.int x2), (.int x3)] maxLocals = mkF m 0 #[.val (.int x0), .val (.int x1), .val (.int x2), .val (.int x3), .unset, .unset, .unset, .unset, .unset, .unset, .unset, .unset] [] := by first | (simp [entryFrame, mkF, argsToLocals, Value.category, maxLocals]; done) | rfl
theorem r_law0_0 (l : Launch) (Z : State) (a0 : Array Value) (hw : own_HW a0 Z) (ws : List Jvm.Cond) (cs1 : Int32) (fv : Value) (h0 : Heap) (n0 : Nat) (O0 : Old Z n0 h0) (G : own_Ctx Z Z.heap cs1 fv) (hEL : EW Z a0 own_EL) (wS : ∀ a ∈ Bundle.stringAtoms, a.before a0 Z = true) (p1 p2 p3 p4 : Int32) (hl : p1 &&& (3 : Int32) = (0 : Int32))   :
    MetFree l x (head1 (Jvm.Cond.code x code maxLocals ret :: ws) room_1) (fun a U => a = #[(.int p1), (.int p2), (.int p3), (.int p4)] ∧ Z.Warmed39 U.vm ∧ U.heap = h0 ∧ CHv Z own_EL U.vm h0) (fun _ _ _ _ _ => True) (fun _ U o U' => ∃ v L, o = .returned v ∧ own_Qk (some (.int (1 : Int32))) [] h0 n0 v U'.heap L ∧ CHr Z own_EL U.vm U.heap U'.vm U'.heap ∧ ReturnedEndW U o U' L 32 1216) := by
  have G0 := G
  obtain ⟨S_CS, N_CS, S_F, R_F, S_AD, S_HI, S_LO⟩ := G
  refine MetFree.of_bodySF (plainFor_of_name pn_5) hisR ?_
  intro p e s m args below meth c s₁ Bd hml0 hP hK
  obtain ⟨rfl, hZ, hh, hC⟩ := hP
  have hx := Bd.exec
  have hby := Bd.bytes
  have hml : c.maxLocals = 12 := hml0
  have hown : s.vm.findClass "com/example/rubrique/rubrique/cli/OneLineOfPinLaw" = some m.cls := findClass_of_methodNamed Bd.named
  have hnm := (name_of_methodNamed Bd.named Bd.method).1
  have X0 : Stand p l e room_1 (s.setVm s.vm) m #[(.int p1), (.int p2), (.int p3), (.int p4)] below meth c s₁ [] 0 0 := Stand.of_body Bd
  have e0 : s₁.heap = h0 := by rw [← hh, Bd.state]; rfl
  have N0 := Fr.nil n0
  have hS0 : s.Since s.vm h0.size := State.WarmedH.since (State.WarmedH.refl s) _
  have hk0 : h0.size ≤ h0.size := Nat.le_refl _
  have pre0 := own_pre (tb := p.tables) (e := e) (below := below) (T := s₁) (ef_0_34 m p1 p2 p3 p4)
  obtain ⟨T1, h1, ka1, X1, e1, E1, A1, st1⟩ := newP X0 hx hZ (own_w hw 0 rfl) e0 (g := (mkF m 19 #[.val (.int p1), .val (.int p2), .val (.int p3), .val (.int p4), .val (.int (0 : Int32)), .val (.int (p2.toUInt32.toUInt16.toUInt32.toInt32)), .val (.int (p3.toUInt32.toUInt16.toUInt32.toInt32)), .val (.int (p4.toUInt32.toUInt16.toUInt32.toInt32)), .unset, .unset, .unset, .unset] [(.int (0 : Int32))])) rfl (hb hby at_19) rfl (by decide) (cap := 0) (by decide) (by decide) (by decide) (by decide)
  obtain ⟨b1, g1⟩ : ∃ z, z = h0.size := ⟨_, rfl⟩
  have g_b1 : n0 ≤ b1 := Nat.le_trans (O0.1 ▸ O0.2.1) (Nat.le_of_eq g1.symm)
  have sz_b1 : h0.size ≤ b1 := Nat.le_trans (Keep.refl h0 []).1 (Nat.le_of_eq g1.symm)
  have sn1 : Safe Z own_EL s.vm h0 b1 := Safe.new (Nat.le_of_eq g1.symm)
  rw [← g1] at A1 st1
  have O1 := O0.ext E1
  have K1 : Keep h0 h1 [] := (Keep.refl h0 []).ext E1
  have sf2 := Safe.ext E1 hC sn1
  have C1 : CHv Z own_EL s.vm h1 := hC.ext E1
  have R1 : CHr Z own_EL s.vm h0 s.vm h1 := (CHr.refl hC).trans (CHr.ext E1 hC)
  have hk1 := Nat.le_trans hk0 E1.1
  have V1 : Arv Z h1 b1 ka1 .char (0 : Int32) [] (.int (0 : Int32)) := Arv.new A1 (by decide)
  have hn_ : ([] : List Int32).length ≤ 4 := Nat.le_of_ble_eq_true rfl
  have hB_ : own_Bd ([] : List Int32) := own_all0 (P := fun z => ¬ (z < (0 : Int32)) ∧ ¬ ((65535 : Int32) < z)) 
  obtain ⟨T3, h3, X3, e3, E3, A3, D3, -, st3⟩ := newO X1 hx hZ hown (own_w hw 1 rfl) (own_w hw 2 rfl) (own_w hw 3 rfl) e1 (g := (mkF m 58 #[.val (.int p1), .val (.int p2), .val (.int p3), .val (.int p4), .val (.int (0 : Int32)), .val (.int (p2.toUInt32.toUInt16.toUInt32.toInt32)), .val (.int (p3.toUInt32.toUInt16.toUInt32.toInt32)), .val (.int (p4.toUInt32.toUInt16.toUInt32.toInt32)), .val (.ref b1), .unset, .unset, .unset] [])) rfl (hb hby at_58) (by decide) (by decide)
  obtain ⟨b3, g3⟩ : ∃ z, z = h1.size := ⟨_, rfl⟩
  have ne_b1_b3 : b1 ≠ b3 := Nat.ne_of_lt (Nat.lt_of_lt_of_le V1.lt (Nat.le_of_eq g3.symm))
  have g_b3 : n0 ≤ b3 := Nat.le_trans (O1.1 ▸ O1.2.1) (Nat.le_of_eq g3.symm)
  have sz_b3 : h0.size ≤ b3 := Nat.le_trans K1.1 (Nat.le_of_eq g3.symm)
  have sn3 : Safe Z own_EL s.vm h1 b3 := Safe.new (Nat.le_of_eq g3.symm)
  rw [← g3] at A3 D3 st3
  have f4 := V1.ext E3
  have O3 := O1.ext E3
  have K3 : Keep h0 h3 [] := K1.ext E3
  have sf5 := Safe.ext E3 C1 sf2
  have sf6 := Safe.ext E3 C1 sn3
  have C3 : CHv Z own_EL s.vm h3 := C1.ext E3
  have R3 : CHr Z own_EL s.vm h0 s.vm h3 := R1.trans (CHr.ext E3 C1)
  have hk3 := Nat.le_trans hk1 E3.1
  have F3_16 : Fld Z h3 b3 "java/lang/String" "value" "[B" .null := D3 (Or.inr (own_w hw 16 rfl)) (ty := (.array .byte)) (by decide)
  have F3_17 : Fld Z h3 b3 "java/lang/String" "coder" "B" (.int (0 : Int32)) := D3 (Or.inr (own_w hw 17 rfl)) (ty := .byte) (by decide)
  obtain ⟨_, _, ⟨T7, L7, k7, n7⟩, -, X7, S7a, z7a, ⟨Lc7, hQ7, l7, y7, z7, R7q⟩, st7⟩ := X3.specialBackS hx (y := Y15_) rfl hown (mvT hZ (own_w hw 4 rfl)) (mvT hZ (own_w hw 5 rfl)) (mvT hZ (own_w hw 6 rfl)) (by decide) (backOfSH (s := s) (vm0 := s.vm) (EL := own_EL) (W := 1) (r_s0 l Z a0 hw [] cs1 fv h3 n0 O3 G0 hEL wS b3 b1 ka1 A3 g_b3 F3_17 F3_16 f4 ne_b1_b3) hZ (own_w hw 6 rfl) (own_w hw 3 rfl) (by decide) (by decide) hEL C3) (g := (mkF m 64 #[.val (.int p1), .val (.int p2), .val (.int p3), .val (.int p4), .val (.int (0 : Int32)), .val (.int (p2.toUInt32.toUInt16.toUInt32.toInt32)), .val (.int (p3.toUInt32.toUInt16.toUInt32.toInt32)), .val (.int (p4.toUInt32.toUInt16.toUInt32.toInt32)), .val (.ref b1), .unset, .unset, .unset] [(.ref b1), (.ref b3), (.ref b3)])) rfl (by rw [hml]; rfl) (Steps.refl _) (a := b3) (argsL := [(.ref b1)]) (rest := [(.ref b3)]) (lenOf pd_24 rfl) rfl (by show 2 * 0 + _ ≤ _; exact Nat.le_of_eq rfl) (hb hby at_64) (fun _ _ => ⟨rfl, e3, (by decide : 2 + 2 ≤ _), (by decide : 4 + 4 ≤ _)⟩)
  dsimp only [Pt.U, Pt.locs, Pt.cells, Pt.slots] at X7 S7a z7a l7 y7 z7 st7 hQ7 R7q
  subst l7 y7 z7
  have X7 : Stand p l e room_1 (s.setVm T7.vm) m #[(.int p1), (.int p2), (.int p3), (.int p4)] below meth c T7 _ _ _ := X7
  have S7f : s.Since T7.vm T7.heap.size := foldS (T := T3) hS0 (by rw [e3]; exact hk3) S7a z7a
  have hZ7 : Z.Warmed39 T7.vm := State.Warmed39.trans (t := s.setVm s.vm) hZ S7a.1
  have hown7 : (s.setVm T7.vm).vm.findClass "com/example/rubrique/rubrique/cli/OneLineOfPinLaw" = some m.cls := by rw [show (s.setVm T7.vm).vm = T7.vm from rfl, S7a.1.alike.findClass]; exact hown
  obtain ⟨rfl, N7q, Kq7, Sq7⟩ := hQ7
  have N7 := Fr.app N0 N7q
  have f8 := f4.keep Kq7 (fun q => (List.mem_cons.mp q).elim ne_b1_b3 (fun q => nomatch q))
  have f9 := A3.keep Kq7
  have O7 := O3.keep Kq7 (allS g_b3 all0)
  have K7 : Keep h0 T7.heap [] := K3.trans Kq7 (allS (Or.inr sz_b3) all0)
  have sf10 := R7q.safe f4.lt sf5
  have sf11 := R7q.safe A3.lt sf6
  have R7 : CHr Z own_EL s.vm h0 T7.vm T7.heap := R3.trans R7q
  have C7 := R7q.1
  obtain ⟨_, _, ⟨T12, L12, k12, n12⟩, -, X12, ⟨Lc12, hQ12, l12, y12, z12⟩, st12⟩ := Jvm.LawKit.callS X7 hx (y := Y31_) hown7 (mvT hZ7 (own_w hw 22 rfl)) (mvT hZ7 (own_w hw 23 rfl)) (mvT hZ7 (own_w hw 24 rfl)) (mvT hZ7 (own_w hw 25 rfl)) (by decide) (backOf (W := 0) (r_of l Z a0 hw [] cs1 fv T7.heap n0 O7 G0 b3 ([] : List Int32) Sq7 hn_ hB_) hZ7 (own_w hw 25 rfl) (own_w hw 24 rfl) (by decide) (by decide)) (g := (mkF m 71 #[.val (.int p1), .val (.int p2), .val (.int p3), .val (.int p4), .val (.int (0 : Int32)), .val (.int (p2.toUInt32.toUInt16.toUInt32.toInt32)), .val (.int (p3.toUInt32.toUInt16.toUInt32.toInt32)), .val (.int (p4.toUInt32.toUInt16.toUInt32.toInt32)), .val (.ref b1), .val (.ref b3), .unset, .unset] [(.ref b3)])) rfl (by rw [hml]; rfl) (argsL := [(.ref b3)]) (rest := []) (lenOf pd_25 rfl) rfl (by show 2 * 0 + _ ≤ _; exact Nat.le_of_eq rfl) (hb hby at_71) (fun _ _ => ⟨rfl, rfl, (by decide : 4 + 4 ≤ _), (by decide : 8 + 20 ≤ _)⟩)
  dsimp only [Pt.U, Pt.locs, Pt.cells, Pt.slots] at X12 l12 y12 z12 st12 hQ12
  subst l12 y12 z12
  obtain ⟨t12, rfl, N12q, Kq12, So12, hs12⟩ := hQ12
  have N12 := Fr.app N7 N12q
  have f13 := f8.keep Kq12 (fun q => nomatch q)
  have f14 := f9.keep Kq12
  have O12 := O7.keep Kq12 all0
  have K12 : Keep h0 T12.heap [] := K7.trans Kq12 all0
  have f15 := own_Str_keep Kq12 Sq7
  have sf16 := Safe.keep Kq12 sf0 C7 sf10
  have sf17 := Safe.keep Kq12 sf0 C7 sf11
  have C12 : CHv Z own_EL T7.vm T12.heap := C7.keep Kq12 sf0
  have R12 : CHr Z own_EL s.vm h0 T7.vm T12.heap := R7.trans (CHr.keep Kq12 sf0 C7)
  have hk12 := Nat.le_trans (Nat.le_refl _) Kq12.1
  obtain rfl : b3 = t12 := (hs12 (own_all0 (P := fun z => ¬ own_brk z) )).symm
  obtain ⟨cq18, kq18, q18a, q18b, q18c⟩ := isOf hZ7 rfl f14
  obtain ⟨_, _, ⟨T18, L18, k18, n18⟩, -, X18, ⟨Lc18, hQ18, l18, y18, z18⟩, st18⟩ := X12.virtualBack hx (y := Y18_) (z := Y18_) hown7 (mvT hZ7 (own_w hw 37 rfl)) (mvT hZ7 (own_w hw 27 rfl)) (notFace_of_selects (args := #[]) (mvT hZ7 (own_w hw 29 rfl))) (mvT hZ7 (own_w hw 29 rfl)) (mvT hZ7 (own_w hw 28 rfl)) (by decide) (backOf (W := 0) (r_len l Z a0 hw [] cs1 fv T12.heap n0 O12 G0 b3 (([] : List Int32).map own_exp) So12 (own_lenm hn_)) hZ7 (own_w hw 30 rfl) (own_w hw 3 rfl) (by decide) (by decide)) q18a q18c (g := (mkF m 78 #[.val (.int p1), .val (.int p2), .val (.int p3), .val (.int p4), .val (.int (0 : Int32)), .val (.int (p2.toUInt32.toUInt16.toUInt32.toInt32)), .val (.int (p3.toUInt32.toUInt16.toUInt32.toInt32)), .val (.int (p4.toUInt32.toUInt16.toUInt32.toInt32)), .val (.ref b1), .val (.ref b3), .val (.ref b3), .unset] [(.ref b3)])) rfl (by rw [hml]; rfl) (Steps.refl _) (argsL := []) (rest := []) (lenOf pd_21 rfl) rfl (by show 2 * 0 + _ ≤ _; exact Nat.le_of_eq rfl) (hb hby at_78) (fun _ _ => ⟨rfl, rfl, (by decide : 8 + 0 ≤ _), (by decide : 28 + 0 ≤ _)⟩)
  dsimp only [Pt.U, Pt.locs, Pt.cells, Pt.slots] at X18 l18 y18 z18 st18 hQ18
  subst l18 y18 z18
  obtain ⟨rfl, N18q, e18⟩ := hQ18
  have N18 := Fr.app N12 N18q
  obtain ⟨fs, hr, hrun, hended, hRW⟩ := X18.leaveW S7f (by rw [e18]; exact hk12) (v := some (.int (1 : Int32))) (fun h => by rw [Bd.returns] at h; cases h)
  refine ⟨_, _, pre0 _ ?_, hrun, hended, _, _, rfl, ?_, ?_, hRW.1, hRW.2.1, hRW.2.2.1, hRW.2.2.2.mono (by decide) (by decide)⟩
  · show Steps p.tables e below (s₁.setTop (mkF m 0 #[.val (.int p1), .val (.int p2), .val (.int p3), .val (.int p4), .unset, .unset, .unset, .unset, .unset, .unset, .unset, .unset] [])) _
    refine XS.iloadN X0.here hx rfl (hb hby at_0) rfl ?_
    refine XS.iconst X0.here hx rfl (hb hby at_1) ?_
    refine XS.iand X0.here hx rfl (hb hby at_2) rfl ?_
    show Steps p.tables e below (s₁.setTop (mkF m 3 #[.val (.int p1), .val (.int p2), .val (.int p3), .val (.int p4), .unset, .unset, .unset, .unset, .unset, .unset, .unset, .unset] [(.int (p1 &&& (3 : Int32)))])) _
    rw [hl]
    refine XS.istore X0.here hx rfl (hb hby at_3) rfl (l' := #[.val (.int p1), .val (.int p2), .val (.int p3), .val (.int p4), .val (.int (0 : Int32)), .unset, .unset, .unset, .unset, .unset, .unset, .unset]) rfl ?_
    refine XS.iloadN X0.here hx rfl (hb hby at_5) rfl ?_
    refine XS.i2c X0.here hx rfl (hb hby at_6) rfl ?_
    refine XS.istore X0.here hx rfl (hb hby at_7) rfl (l' := #[.val (.int p1), .val (.int p2), .val (.int p3), .val (.int p4), .val (.int (0 : Int32)), .val (.int (p2.toUInt32.toUInt16.toUInt32.toInt32)), .unset, .unset, .unset, .unset, .unset, .unset]) rfl ?_
    refine XS.iloadN X0.here hx rfl (hb hby at_9) rfl ?_
    refine XS.i2c X0.here hx rfl (hb hby at_10) rfl ?_
    refine XS.istore X0.here hx rfl (hb hby at_11) rfl (l' := #[.val (.int p1), .val (.int p2), .val (.int p3), .val (.int p4), .val (.int (0 : Int32)), .val (.int (p2.toUInt32.toUInt16.toUInt32.toInt32)), .val (.int (p3.toUInt32.toUInt16.toUInt32.toInt32)), .unset, .unset, .unset, .unset, .unset]) rfl ?_
    show Steps p.tables e below (s₁.setTop (mkF m 13 #[.val (.int p1), .val (.int p2), .val (.int p3), .val (.int p4), .val (.int (0 : Int32)), .val (.int (p2.toUInt32.toUInt16.toUInt32.toInt32)), .val (.int (p3.toUInt32.toUInt16.toUInt32.toInt32)), .unset, .unset, .unset, .unset, .unset] [])) _
    refine XS.iloadN X0.here hx rfl (hb hby at_13) rfl ?_
    refine XS.i2c X0.here hx rfl (hb hby at_14) rfl ?_
    refine XS.istore X0.here hx rfl (hb hby at_15) rfl (l' := #[.val (.int p1), .val (.int p2), .val (.int p3), .val (.int p4), .val (.int (0 : Int32)), .val (.int (p2.toUInt32.toUInt16.toUInt32.toInt32)), .val (.int (p3.toUInt32.toUInt16.toUInt32.toInt32)), .val (.int (p4.toUInt32.toUInt16.toUInt32.toInt32)), .unset, .unset, .unset, .unset]) rfl ?_
    refine XS.iload X0.here hx rfl (hb hby at_17) rfl ?_
    show Steps p.tables e below (s₁.setTop (mkF m 19 #[.val (.int p1), .val (.int p2), .val (.int p3), .val (.int p4), .val (.int (0 : Int32)), .val (.int (p2.toUInt32.toUInt16.toUInt32.toInt32)), .val (.int (p3.toUInt32.toUInt16.toUInt32.toInt32)), .val (.int (p4.toUInt32.toUInt16.toUInt32.toInt32)), .unset, .unset, .unset, .unset] [(.int (0 : Int32))])) _
    refine st1 _ ?_
    show Steps p.tables e below (T1.setTop (mkF m 21 #[.val (.int p1), .val (.int p2), .val (.int p3), .val (.int p4), .val (.int (0 : Int32)), .val (.int (p2.toUInt32.toUInt16.toUInt32.toInt32)), .val (.int (p3.toUInt32.toUInt16.toUInt32.toInt32)), .val (.int (p4.toUInt32.toUInt16.toUInt32.toInt32)), .unset, .unset, .unset, .unset] [(.ref b1)])) _
    refine XS.astore X1.here hx rfl (hb hby at_21) rfl rfl (l' := #[.val (.int p1), .val (.int p2), .val (.int p3), .val (.int p4), .val (.int (0 : Int32)), .val (.int (p2.toUInt32.toUInt16.toUInt32.toInt32)), .val (.int (p3.toUInt32.toUInt16.toUInt32.toInt32)), .val (.int (p4.toUInt32.toUInt16.toUInt32.toInt32)), .val (.ref b1), .unset, .unset, .unset]) rfl ?_
    refine XS.iload X1.here hx rfl (hb hby at_23) rfl ?_
    refine XS.ifYes X1.here hx rfl (pc0 := 25) (pc' := 34) rfl (hb hby at_25) rfl ((if0 _ _).trans (flt (by decide : ¬ ((0 : Int32) < (0 : Int32)))).2.2.2) (by decide) (by decide) ?_
    refine XS.iload X1.here hx rfl (hb hby at_34) rfl ?_
    refine XS.iconst X1.here hx rfl (hb hby at_36) ?_
    refine XS.icmpYes X1.here hx rfl (pc0 := 37) (pc' := 46) rfl (hb hby at_37) rfl (flt (by decide : ¬ ((1 : Int32) < (0 : Int32)))).2.2.2 (by decide) (by decide) ?_
    refine XS.iload X1.here hx rfl (hb hby at_46) rfl ?_
    refine XS.iconst X1.here hx rfl (hb hby at_48) ?_
    refine XS.icmpYes X1.here hx rfl (pc0 := 49) (pc' := 58) rfl (hb hby at_49) rfl (flt (by decide : ¬ ((2 : Int32) < (0 : Int32)))).2.2.2 (by decide) (by decide) ?_
    show Steps p.tables e below (T1.setTop (mkF m 58 #[.val (.int p1), .val (.int p2), .val (.int p3), .val (.int p4), .val (.int (0 : Int32)), .val (.int (p2.toUInt32.toUInt16.toUInt32.toInt32)), .val (.int (p3.toUInt32.toUInt16.toUInt32.toInt32)), .val (.int (p4.toUInt32.toUInt16.toUInt32.toInt32)), .val (.ref b1), .unset, .unset, .unset] [])) _
    refine st3 _ ?_
    show Steps p.tables e below (T3.setTop (mkF m 61 #[.val (.int p1), .val (.int p2), .val (.int p3), .val (.int p4), .val (.int (0 : Int32)), .val (.int (p2.toUInt32.toUInt16.toUInt32.toInt32)), .val (.int (p3.toUInt32.toUInt16.toUInt32.toInt32)), .val (.int (p4.toUInt32.toUInt16.toUInt32.toInt32)), .val (.ref b1), .unset, .unset, .unset] [(.ref b3)])) _
    refine XS.dup X3.here hx rfl (hb hby at_61) rfl rfl ?_
    refine XS.aload X3.here hx rfl (hb hby at_62) rfl rfl ?_
    show Steps p.tables e below (T3.setTop (mkF m 64 #[.val (.int p1), .val (.int p2), .val (.int p3), .val (.int p4), .val (.int (0 : Int32)), .val (.int (p2.toUInt32.toUInt16.toUInt32.toInt32)), .val (.int (p3.toUInt32.toUInt16.toUInt32.toInt32)), .val (.int (p4.toUInt32.toUInt16.toUInt32.toInt32)), .val (.ref b1), .unset, .unset, .unset] [(.ref b1), (.ref b3), (.ref b3)])) _
    refine st7.trans ?_
    show Steps p.tables e below (T7.setTop (mkF m 67 #[.val (.int p1), .val (.int p2), .val (.int p3), .val (.int p4), .val (.int (0 : Int32)), .val (.int (p2.toUInt32.toUInt16.toUInt32.toInt32)), .val (.int (p3.toUInt32.toUInt16.toUInt32.toInt32)), .val (.int (p4.toUInt32.toUInt16.toUInt32.toInt32)), .val (.ref b1), .unset, .unset, .unset] [(.ref b3)])) _
    refine XS.astore X7.here hx rfl (hb hby at_67) rfl rfl (l' := #[.val (.int p1), .val (.int p2), .val (.int p3), .val (.int p4), .val (.int (0 : Int32)), .val (.int (p2.toUInt32.toUInt16.toUInt32.toInt32)), .val (.int (p3.toUInt32.toUInt16.toUInt32.toInt32)), .val (.int (p4.toUInt32.toUInt16.toUInt32.toInt32)), .val (.ref b1), .val (.ref b3), .unset, .unset]) rfl ?_
    refine XS.aload X7.here hx rfl (hb hby at_69) rfl rfl ?_
    show Steps p.tables e below (T7.setTop (mkF m 71 #[.val (.int p1), .val (.int p2), .val (.int p3), .val (.int p4), .val (.int (0 : Int32)), .val (.int (p2.toUInt32.toUInt16.toUInt32.toInt32)), .val (.int (p3.toUInt32.toUInt16.toUInt32.toInt32)), .val (.int (p4.toUInt32.toUInt16.toUInt32.toInt32)), .val (.ref b1), .val (.ref b3), .unset, .unset] [(.ref b3)])) _
    refine st12 _ ?_
    show Steps p.tables e below (T12.setTop (mkF m 74 #[.val (.int p1), .val (.int p2), .val (.int p3), .val (.int p4), .val (.int (0 : Int32)), .val (.int (p2.toUInt32.toUInt16.toUInt32.toInt32)), .val (.int (p3.toUInt32.toUInt16.toUInt32.toInt32)), .val (.int (p4.toUInt32.toUInt16.toUInt32.toInt32)), .val (.ref b1), .val (.ref b3), .unset, .unset] [(.ref b3)])) _
    refine XS.astore X12.here hx rfl (hb hby at_74) rfl rfl (l' := #[.val (.int p1), .val (.int p2), .val (.int p3), .val (.int p4), .val (.int (0 : Int32)), .val (.int (p2.toUInt32.toUInt16.toUInt32.toInt32)), .val (.int (p3.toUInt32.toUInt16.toUInt32.toInt32)), .val (.int (p4.toUInt32.toUInt16.toUInt32.toInt32)), .val (.ref b1), .val (.ref b3), .val (.ref b3), .unset]) rfl ?_
    refine XS.aload X12.here hx rfl (hb hby at_76) rfl rfl ?_
    show Steps p.tables e below (T12.setTop (mkF m 78 #[.val (.int p1), .val (.int p2), .val (.int p3), .val (.int p4), .val (.int (0 : Int32)), .val (.int (p2.toUInt32.toUInt16.toUInt32.toInt32)), .val (.int (p3.toUInt32.toUInt16.toUInt32.toInt32)), .val (.int (p4.toUInt32.toUInt16.toUInt32.toInt32)), .val (.ref b1), .val (.ref b3), .val (.ref b3), .unset] [(.ref b3)])) _
    refine st18.trans ?_
    show Steps p.tables e below (T18.setTop (mkF m 81 #[.val (.int p1), .val (.int p2), .val (.int p3), .val (.int p4), .val (.int (0 : Int32)), .val (.int (p2.toUInt32.toUInt16.toUInt32.toInt32)), .val (.int (p3.toUInt32.toUInt16.toUInt32.toInt32)), .val (.int (p4.toUInt32.toUInt16.toUInt32.toInt32)), .val (.ref b1), .val (.ref b3), .val (.ref b3), .unset] [(.int (0 : Int32))])) _
    refine XS.iload X18.here hx rfl (hb hby at_81) rfl ?_
    refine XS.icmpYes X18.here hx rfl (pc0 := 83) (pc' := 88) rfl (hb hby at_83) rfl (teq (by decide : (0 : Int32) = (0 : Int32))).1 (by decide) (by decide) ?_
    refine XS.iconst X18.here hx rfl (hb hby at_88) ?_
    refine XS.istore X18.here hx rfl (hb hby at_89) rfl (l' := #[.val (.int p1), .val (.int p2), .val (.int p3), .val (.int p4), .val (.int (0 : Int32)), .val (.int (p2.toUInt32.toUInt16.toUInt32.toInt32)), .val (.int (p3.toUInt32.toUInt16.toUInt32.toInt32)), .val (.int (p4.toUInt32.toUInt16.toUInt32.toInt32)), .val (.ref b1), .val (.ref b3), .val (.ref b3), .val (.int (0 : Int32))]) rfl ?_
    refine XS.iload X18.here hx rfl (hb hby at_91) rfl ?_
    refine XS.ifYes X18.here hx rfl (pc0 := 93) (pc' := 132) rfl (hb hby at_93) rfl ((if0 _ _).trans (flt (by decide : ¬ ((0 : Int32) < (0 : Int32)))).2.2.2) (by decide) (by decide) ?_
    refine XS.iload X18.here hx rfl (hb hby at_132) rfl ?_
    refine XS.iconst X18.here hx rfl (hb hby at_134) ?_
    refine XS.icmpYes X18.here hx rfl (pc0 := 135) (pc' := 174) rfl (hb hby at_135) rfl (flt (by decide : ¬ ((1 : Int32) < (0 : Int32)))).2.2.2 (by decide) (by decide) ?_
    refine XS.iload X18.here hx rfl (hb hby at_174) rfl ?_
    show Steps p.tables e below (T18.setTop (mkF m 176 #[.val (.int p1), .val (.int p2), .val (.int p3), .val (.int p4), .val (.int (0 : Int32)), .val (.int (p2.toUInt32.toUInt16.toUInt32.toInt32)), .val (.int (p3.toUInt32.toUInt16.toUInt32.toInt32)), .val (.int (p4.toUInt32.toUInt16.toUInt32.toInt32)), .val (.ref b1), .val (.ref b3), .val (.ref b3), .val (.int (0 : Int32))] [(.int (0 : Int32))])) _
    refine XS.iconst X18.here hx rfl (hb hby at_176) ?_
    refine XS.icmpYes X18.here hx rfl (pc0 := 177) (pc' := 216) rfl (hb hby at_177) rfl (flt (by decide : ¬ ((2 : Int32) < (0 : Int32)))).2.2.2 (by decide) (by decide) ?_
    refine XS.iload X18.here hx rfl (hb hby at_216) rfl ?_
    refine XS.ifNo X18.here hx rfl (hb hby at_218) rfl ((if0 _ _).trans (teq (by decide : (0 : Int32) = (0 : Int32))).2) ?_
    refine XS.aload X18.here hx rfl (hb hby at_221) rfl rfl ?_
    refine XS.aload X18.here hx rfl (hb hby at_223) rfl rfl ?_
    show Steps p.tables e below (T18.setTop (mkF m 225 #[.val (.int p1), .val (.int p2), .val (.int p3), .val (.int p4), .val (.int (0 : Int32)), .val (.int (p2.toUInt32.toUInt16.toUInt32.toInt32)), .val (.int (p3.toUInt32.toUInt16.toUInt32.toInt32)), .val (.int (p4.toUInt32.toUInt16.toUInt32.toInt32)), .val (.ref b1), .val (.ref b3), .val (.ref b3), .val (.int (0 : Int32))] [(.ref b3), (.ref b3)])) _
    refine Jvm.RoadKit.acmp (g := (mkF m 225 #[.val (.int p1), .val (.int p2), .val (.int p3), .val (.int p4), .val (.int (0 : Int32)), .val (.int (p2.toUInt32.toUInt16.toUInt32.toInt32)), .val (.int (p3.toUInt32.toUInt16.toUInt32.toInt32)), .val (.int (p4.toUInt32.toUInt16.toUInt32.toInt32)), .val (.ref b1), .val (.ref b3), .val (.ref b3), .val (.int (0 : Int32))] [(.ref b3), (.ref b3)])) X18 hx rfl rfl rfl (pc0 := 225) (pc' := 230) (same := true) rfl (hb hby at_225) rfl (decide_eq_true rfl) (by decide) (by decide) ?_
    show Steps p.tables e below (T18.setTop (mkF m 230 #[.val (.int p1), .val (.int p2), .val (.int p3), .val (.int p4), .val (.int (0 : Int32)), .val (.int (p2.toUInt32.toUInt16.toUInt32.toInt32)), .val (.int (p3.toUInt32.toUInt16.toUInt32.toInt32)), .val (.int (p4.toUInt32.toUInt16.toUInt32.toInt32)), .val (.ref b1), .val (.ref b3), .val (.ref b3), .val (.int (0 : Int32))] [])) _
    refine XS.iconst X18.here hx rfl (hb hby at_230) ?_
    show Steps p.tables e below (T18.setTop (mkF m 231 #[.val (.int p1), .val (.int p2), .val (.int p3), .val (.int p4), .val (.int (0 : Int32)), .val (.int (p2.toUInt32.toUInt16.toUInt32.toInt32)), .val (.int (p3.toUInt32.toUInt16.toUInt32.toInt32)), .val (.int (p4.toUInt32.toUInt16.toUInt32.toInt32)), .val (.ref b1), .val (.ref b3), .val (.ref b3), .val (.int (0 : Int32))] [(.int (1 : Int32))])) _
    exact retN X18 hx (t := .boolean) Bd.returns (by simp) (hb hby at_231) hr
  · show own_Qk (some (.int (1 : Int32))) [] h0 n0 _ T18.heap _
    rw [e18]
    exact ⟨rfl, N18, K12⟩
  · show CHr Z own_EL s.vm s.heap T18.vm T18.heap
    rw [hh, e18]
    exact R12.trans (CHv.at (s := s) (vm0 := T7.vm) X18 hZ7 hEL C12)
theorem pd_26 : parseMethodDescriptor "(C)C" = some ⟨[.char], some .char⟩ := by decide +kernel
theorem r_law1_0 (l : Launch) (Z : State) (a0 : Array Value) (hw : own_HW a0 Z) (ws : List Jvm.Cond) (cs1 : Int32) (fv : Value) (h0 : Heap) (n0 : Nat) (O0 : Old Z n0 h0) (G : own_Ctx Z Z.heap cs1 fv) (p1 p2 p3 p4 c0_ : Int32) (hl : p1 &&& (3 : Int32) = (1 : Int32)) (he0 : (p2.toUInt32.toUInt16.toUInt32.toInt32) = c0_) (hz0_ : ¬ (c0_ < (0 : Int32))) (hm0_ : ¬ ((65535 : Int32) < c0_)) (hq0_ : own_brk c0_) :
    own_M l x (head1 (Jvm.Cond.code x code maxLocals ret :: ws) room_1) #[(.int p1), (.int p2), (.int p3), (.int p4)] Z h0 n0 (own_Qk (some (.int (1 : Int32))) []) 32 1216 := by
  have G0 := G
  obtain ⟨S_CS, N_CS, S_F, R_F, S_AD, S_HI, S_LO⟩ := G
  refine MetFree.of_bodySF (plainFor_of_name pn_5) hisR ?_
  intro p e s m args below meth c s₁ Bd hml0 hP hK
  obtain ⟨rfl, hZ, hh⟩ := hP
  have hx := Bd.exec
  have hby := Bd.bytes
  have hml : c.maxLocals = 12 := hml0
  have hown : s.vm.findClass "com/example/rubrique/rubrique/cli/OneLineOfPinLaw" = some m.cls := findClass_of_methodNamed Bd.named
  have hnm := (name_of_methodNamed Bd.named Bd.method).1
  have X0 : Stand p l e room_1 s m #[(.int p1), (.int p2), (.int p3), (.int p4)] below meth c s₁ [] 0 0 := Stand.of_body Bd
  have e0 : s₁.heap = h0 := by rw [← hh, Bd.state]; rfl
  have N0 := Fr.nil n0
  have pre0 := own_pre (tb := p.tables) (e := e) (below := below) (T := s₁) (ef_0_34 m p1 p2 p3 p4)
  obtain ⟨T1, h1, ka1, X1, e1, E1, A1, st1⟩ := newP X0 hx hZ (own_w hw 0 rfl) e0 (g := (mkF m 19 #[.val (.int p1), .val (.int p2), .val (.int p3), .val (.int p4), .val (.int (1 : Int32)), .val (.int c0_), .val (.int (p3.toUInt32.toUInt16.toUInt32.toInt32)), .val (.int (p4.toUInt32.toUInt16.toUInt32.toInt32)), .unset, .unset, .unset, .unset] [(.int (1 : Int32))])) rfl (hb hby at_19) rfl (by decide) (cap := 1) (by decide) (by decide) (by decide) (by decide)
  obtain ⟨b1, g1⟩ : ∃ z, z = h0.size := ⟨_, rfl⟩
  have g_b1 : n0 ≤ b1 := Nat.le_trans (O0.1 ▸ O0.2.1) (Nat.le_of_eq g1.symm)
  have sz_b1 : h0.size ≤ b1 := Nat.le_trans (Keep.refl h0 []).1 (Nat.le_of_eq g1.symm)
  rw [← g1] at A1 st1
  have O1 := O0.ext E1
  have K1 : Keep h0 h1 [] := (Keep.refl h0 []).ext E1
  have V1 : Arv Z h1 b1 ka1 .char (1 : Int32) [(.int (0 : Int32))] (.int (0 : Int32)) := (Arv.new A1 (by decide)).pad (pad_rep [] (.int (0 : Int32)) 1)
  have vc2 := V1
  obtain ⟨cl2, Ar2, qk2, S2, Nn2, Hs2, Gf2⟩ := vc2
  have hin2 : ¬ ((0 : Int32) < 0 ∨ cl2.slots.size ≤ ((0 : Int32)).toNatClampNeg) := inb_of S2 ⟨by decide, by decide⟩
  obtain ⟨T3, h3, X3, e3, W3, st3⟩ := stC X1 hx hZ e1 Ar2 (j := (0 : Int32)) hin2 (g := (mkF m 33 #[.val (.int p1), .val (.int p2), .val (.int p3), .val (.int p4), .val (.int (1 : Int32)), .val (.int c0_), .val (.int (p3.toUInt32.toUInt16.toUInt32.toInt32)), .val (.int (p4.toUInt32.toUInt16.toUInt32.toInt32)), .val (.ref b1), .unset, .unset, .unset] [(.int c0_), (.int (0 : Int32)), (.ref b1)])) rfl rfl (hb hby at_33)
  have O3 := O1.wr W3 g_b1
  have K3 : Keep h0 h3 [] := K1.wr W3 (Or.inr sz_b1)
  have N3 := Fr.snoc X3 N0 g_b1
  have f4 : Arv Z h3 b1 ka1 .char (1 : Int32) [(.int (nar .char c0_))] (.int (0 : Int32)) := Arv.set Ar2 qk2 S2 Nn2 Hs2 Gf2 (fits_nar_char _) W3 0 rfl (Nat.le_of_ble_eq_true rfl)
  have hn_ : [c0_].length ≤ 4 := Nat.le_of_ble_eq_true rfl
  have hB_ : own_Bd [c0_] := own_all1 (P := fun z => ¬ (z < (0 : Int32)) ∧ ¬ ((65535 : Int32) < z)) ⟨hz0_, hm0_⟩
  have h1_ : 1 ≤ [c0_].length := Nat.le_of_ble_eq_true rfl
  have V58 : Arv Z h3 b1 ka1 .char [c0_].length.toInt32 ([c0_].map Value.int) (.int (0 : Int32)) := by
    have q := f4
    rw [own_nc hz0_ hm0_] at q
    exact q
  obtain ⟨T5, h5, X5, e5, E5, A5, D5, -, st5⟩ := newO X3 hx hZ hown (own_w hw 1 rfl) (own_w hw 2 rfl) (own_w hw 3 rfl) e3 (g := (mkF m 58 #[.val (.int p1), .val (.int p2), .val (.int p3), .val (.int p4), .val (.int (1 : Int32)), .val (.int c0_), .val (.int (p3.toUInt32.toUInt16.toUInt32.toInt32)), .val (.int (p4.toUInt32.toUInt16.toUInt32.toInt32)), .val (.ref b1), .unset, .unset, .unset] [])) rfl (hb hby at_58) (by decide) (by decide)
  obtain ⟨b5, g5⟩ : ∃ z, z = h3.size := ⟨_, rfl⟩
  have ne_b1_b5 : b1 ≠ b5 := Nat.ne_of_lt (Nat.lt_of_lt_of_le V58.lt (Nat.le_of_eq g5.symm))
  have g_b5 : n0 ≤ b5 := Nat.le_trans (O3.1 ▸ O3.2.1) (Nat.le_of_eq g5.symm)
  have sz_b5 : h0.size ≤ b5 := Nat.le_trans K3.1 (Nat.le_of_eq g5.symm)
  rw [← g5] at A5 D5 st5
  have f6 := V58.ext E5
  have O5 := O3.ext E5
  have K5 : Keep h0 h5 [] := K3.ext E5
  have F5_16 : Fld Z h5 b5 "java/lang/String" "value" "[B" .null := D5 (Or.inr (own_w hw 16 rfl)) (ty := (.array .byte)) (by decide)
  have F5_17 : Fld Z h5 b5 "java/lang/String" "coder" "B" (.int (0 : Int32)) := D5 (Or.inr (own_w hw 17 rfl)) (ty := .byte) (by decide)
  obtain ⟨LL7, X7, N7⟩ : ∃ LL, Stand p l e room_1 s m #[(.int p1), (.int p2), (.int p3), (.int p4)] below meth c T5 LL 2 5 ∧ Fr n0 LL := ⟨_, X5, N3⟩
  obtain ⟨_, _, ⟨T8, L8, k8, n8⟩, -, X8, ⟨Lc8, hQ8, l8, y8, z8⟩, st8⟩ := X7.specialBack hx (y := Y15_) rfl hown (mvT hZ (own_w hw 4 rfl)) (mvT hZ (own_w hw 5 rfl)) (mvT hZ (own_w hw 6 rfl)) (by decide) (backOf (W := 1) (r_new l Z a0 hw [] cs1 fv h5 n0 O5 G0 b5 b1 ka1 [c0_] A5 g_b5 F5_17 F5_16 f6 ne_b1_b5 hn_ h1_ hB_) hZ (own_w hw 6 rfl) (own_w hw 3 rfl) (by decide) (by decide)) (g := (mkF m 64 #[.val (.int p1), .val (.int p2), .val (.int p3), .val (.int p4), .val (.int (1 : Int32)), .val (.int c0_), .val (.int (p3.toUInt32.toUInt16.toUInt32.toInt32)), .val (.int (p4.toUInt32.toUInt16.toUInt32.toInt32)), .val (.ref b1), .unset, .unset, .unset] [(.ref b1), (.ref b5), (.ref b5)])) rfl (by rw [hml]; rfl) (Steps.refl _) (a := b5) (argsL := [(.ref b1)]) (rest := [(.ref b5)]) (lenOf pd_24 rfl) rfl (by show 2 * 0 + _ ≤ _; exact Nat.le_of_eq rfl) (hb hby at_64) (fun _ _ => ⟨rfl, e5, (by decide : 2 + 2 ≤ _), (by decide : 5 + 12 ≤ _)⟩)
  dsimp only [Pt.U, Pt.locs, Pt.cells, Pt.slots] at X8 l8 y8 z8 st8 hQ8
  subst l8 y8 z8
  obtain ⟨rfl, N8q, Kq8, Sq8⟩ := hQ8
  have N8 := Fr.app N7 N8q
  have f9 := f6.keep Kq8 (fun q => (List.mem_cons.mp q).elim ne_b1_b5 (fun q => nomatch q))
  have f10 := A5.keep Kq8
  have O8 := O5.keep Kq8 (allS g_b5 all0)
  have K8 : Keep h0 T8.heap [] := K5.trans Kq8 (allS (Or.inr sz_b5) all0)
  obtain ⟨_, _, ⟨T11, L11, k11, n11⟩, -, X11, ⟨Lc11, hQ11, l11, y11, z11⟩, st11⟩ := Jvm.LawKit.callS X8 hx (y := Y31_) hown (mvT hZ (own_w hw 22 rfl)) (mvT hZ (own_w hw 23 rfl)) (mvT hZ (own_w hw 24 rfl)) (mvT hZ (own_w hw 25 rfl)) (by decide) (backOf (W := 0) (r_of l Z a0 hw [] cs1 fv T8.heap n0 O8 G0 b5 [c0_] Sq8 hn_ hB_) hZ (own_w hw 25 rfl) (own_w hw 24 rfl) (by decide) (by decide)) (g := (mkF m 71 #[.val (.int p1), .val (.int p2), .val (.int p3), .val (.int p4), .val (.int (1 : Int32)), .val (.int c0_), .val (.int (p3.toUInt32.toUInt16.toUInt32.toInt32)), .val (.int (p4.toUInt32.toUInt16.toUInt32.toInt32)), .val (.ref b1), .val (.ref b5), .unset, .unset] [(.ref b5)])) rfl (by rw [hml]; rfl) (argsL := [(.ref b5)]) (rest := []) (lenOf pd_25 rfl) rfl (by show 2 * 0 + _ ≤ _; exact Nat.le_of_eq rfl) (hb hby at_71) (fun _ _ => ⟨rfl, rfl, (by decide : 4 + 4 ≤ _), (by decide : 17 + 20 ≤ _)⟩)
  dsimp only [Pt.U, Pt.locs, Pt.cells, Pt.slots] at X11 l11 y11 z11 st11 hQ11
  subst l11 y11 z11
  obtain ⟨t11, rfl, N11q, Kq11, So11, hs11⟩ := hQ11
  have N11 := Fr.app N8 N11q
  have f12 := f9.keep Kq11 (fun q => nomatch q)
  have f13 := f10.keep Kq11
  have O11 := O8.keep Kq11 all0
  have K11 : Keep h0 T11.heap [] := K8.trans Kq11 all0
  have f14 := own_Str_keep Kq11 Sq8
  obtain ⟨cq15, kq15, q15a, q15b, q15c⟩ := isOf hZ rfl (own_Str_exa So11)
  obtain ⟨_, _, ⟨T15, L15, k15, n15⟩, -, X15, ⟨Lc15, hQ15, l15, y15, z15⟩, st15⟩ := X11.virtualBack hx (y := Y18_) (z := Y18_) hown (mvT hZ (own_w hw 37 rfl)) (mvT hZ (own_w hw 27 rfl)) (notFace_of_selects (args := #[]) (mvT hZ (own_w hw 29 rfl))) (mvT hZ (own_w hw 29 rfl)) (mvT hZ (own_w hw 28 rfl)) (by decide) (backOf (W := 0) (r_len l Z a0 hw [] cs1 fv T11.heap n0 O11 G0 t11 ([c0_].map own_exp) So11 (own_lenm hn_)) hZ (own_w hw 30 rfl) (own_w hw 3 rfl) (by decide) (by decide)) q15a q15c (g := (mkF m 78 #[.val (.int p1), .val (.int p2), .val (.int p3), .val (.int p4), .val (.int (1 : Int32)), .val (.int c0_), .val (.int (p3.toUInt32.toUInt16.toUInt32.toInt32)), .val (.int (p4.toUInt32.toUInt16.toUInt32.toInt32)), .val (.ref b1), .val (.ref b5), .val (.ref t11), .unset] [(.ref t11)])) rfl (by rw [hml]; rfl) (Steps.refl _) (argsL := []) (rest := []) (lenOf pd_21 rfl) rfl (by show 2 * 0 + _ ≤ _; exact Nat.le_of_eq rfl) (hb hby at_78) (fun _ _ => ⟨rfl, rfl, (by decide : 8 + 0 ≤ _), (by decide : 37 + 0 ≤ _)⟩)
  dsimp only [Pt.U, Pt.locs, Pt.cells, Pt.slots] at X15 l15 y15 z15 st15 hQ15
  subst l15 y15 z15
  obtain ⟨rfl, N15q, e15⟩ := hQ15
  have N15 := Fr.app N11 N15q
  obtain ⟨cq16, kq16, q16a, q16b, q16c⟩ := isOf hZ e15 (own_Str_exa So11)
  obtain ⟨_, _, ⟨T16, L16, k16, n16⟩, -, X16, ⟨Lc16, hQ16, l16, y16, z16⟩, st16⟩ := X15.virtualBack hx (y := Y19_) (z := Y19_) hown (mvT hZ (own_w hw 73 rfl)) (mvT hZ (own_w hw 49 rfl)) (notFace_of_selects (args := #[]) (mvT hZ (own_w hw 51 rfl))) (mvT hZ (own_w hw 51 rfl)) (mvT hZ (own_w hw 50 rfl)) (by decide) (backOf (W := 0) (r_ch l Z a0 hw [] cs1 fv T11.heap n0 O11 G0 t11 ([c0_].map own_exp) So11 0 (Nat.le_of_ble_eq_true rfl) (own_lenm hn_) (own_Bd_exp hB_)) hZ (own_w hw 52 rfl) (own_w hw 3 rfl) (by decide) (by decide)) q16a q16c (g := (mkF m 99 #[.val (.int p1), .val (.int p2), .val (.int p3), .val (.int p4), .val (.int (1 : Int32)), .val (.int c0_), .val (.int (p3.toUInt32.toUInt16.toUInt32.toInt32)), .val (.int (p4.toUInt32.toUInt16.toUInt32.toInt32)), .val (.ref b1), .val (.ref b5), .val (.ref t11), .val (.int (0 : Int32))] [(.int (0 : Int32)), (.ref t11)])) rfl (by rw [hml]; rfl) (Steps.refl _) (argsL := [(.int (0 : Int32))]) (rest := []) (lenOf pd_22 rfl) rfl (by show 2 * 0 + _ ≤ _; exact Nat.le_of_eq rfl) (hb hby at_99) (fun _ _ => ⟨rfl, e15, (by decide : 8 + 0 ≤ _), (by decide : 37 + 0 ≤ _)⟩)
  dsimp only [Pt.U, Pt.locs, Pt.cells, Pt.slots] at X16 l16 y16 z16 st16 hQ16
  subst l16 y16 z16
  obtain ⟨rfl, N16q, e16⟩ := hQ16
  have N16 := Fr.app N15 N16q
  obtain ⟨_, _, ⟨T17, L17, k17, n17⟩, -, X17, ⟨Lc17, hQ17, l17, y17, z17⟩, st17⟩ := Jvm.LawKit.callS X16 hx (y := Y30_) hown (mvT hZ (own_w hw 74 rfl)) (mvT hZ (own_w hw 75 rfl)) (mvT hZ (own_w hw 76 rfl)) (mvT hZ (own_w hw 77 rfl)) (by decide) (backOf (W := 1) (r_ex l Z a0 hw [] cs1 fv T11.heap n0 O11 G0 c0_ hz0_ hm0_) hZ (own_w hw 77 rfl) (own_w hw 76 rfl) (by decide) (by decide)) (g := (mkF m 104 #[.val (.int p1), .val (.int p2), .val (.int p3), .val (.int p4), .val (.int (1 : Int32)), .val (.int c0_), .val (.int (p3.toUInt32.toUInt16.toUInt32.toInt32)), .val (.int (p4.toUInt32.toUInt16.toUInt32.toInt32)), .val (.ref b1), .val (.ref b5), .val (.ref t11), .val (.int (0 : Int32))] [(.int c0_), (.int (own_exp c0_))])) rfl (by rw [hml]; rfl) (argsL := [(.int c0_)]) (rest := [(.int (own_exp c0_))]) (lenOf pd_26 rfl) rfl (by show 2 * 0 + _ ≤ _; exact Nat.le_of_eq rfl) (hb hby at_104) (fun _ _ => ⟨rfl, e16, (by decide : 8 + 0 ≤ _), (by decide : 37 + 0 ≤ _)⟩)
  dsimp only [Pt.U, Pt.locs, Pt.cells, Pt.slots] at X17 l17 y17 z17 st17 hQ17
  subst l17 y17 z17
  obtain ⟨rfl, N17q, e17⟩ := hQ17
  have N17 := Fr.app N16 N17q
  obtain ⟨_, _, ⟨T18, L18, k18, n18⟩, -, X18, ⟨Lc18, hQ18, l18, y18, z18⟩, st18⟩ := Jvm.LawKit.callS X17 hx (y := Y29_) hown (mvT hZ (own_w hw 78 rfl)) (mvT hZ (own_w hw 79 rfl)) (mvT hZ (own_w hw 76 rfl)) (mvT hZ (own_w hw 80 rfl)) (by decide) (backOf (W := 0) (r_ibT l Z a0 hw [] cs1 fv T11.heap n0 O11 G0 c0_ hq0_) hZ (own_w hw 80 rfl) (own_w hw 76 rfl) (by decide) (by decide)) (g := (mkF m 119 #[.val (.int p1), .val (.int p2), .val (.int p3), .val (.int p4), .val (.int (1 : Int32)), .val (.int c0_), .val (.int (p3.toUInt32.toUInt16.toUInt32.toInt32)), .val (.int (p4.toUInt32.toUInt16.toUInt32.toInt32)), .val (.ref b1), .val (.ref b5), .val (.ref t11), .val (.int (0 : Int32))] [(.int c0_)])) rfl (by rw [hml]; rfl) (argsL := [(.int c0_)]) (rest := []) (lenOf pd_20 rfl) rfl (by show 2 * 0 + _ ≤ _; exact Nat.le_of_eq rfl) (hb hby at_119) (fun _ _ => ⟨rfl, e17, (by decide : 8 + 0 ≤ _), (by decide : 37 + 0 ≤ _)⟩)
  dsimp only [Pt.U, Pt.locs, Pt.cells, Pt.slots] at X18 l18 y18 z18 st18 hQ18
  subst l18 y18 z18
  obtain ⟨rfl, N18q, e18⟩ := hQ18
  have N18 := Fr.app N17 N18q
  obtain ⟨fs, hr, hrun, hended, hW, hsame⟩ := X18.leave (v := some (.int (1 : Int32))) (fun h => by rw [Bd.returns] at h; cases h)
  refine ⟨_, _, pre0 _ ?_, hrun, hended, _, _, rfl, ?_, ⟨_, rfl⟩, hW, hsame.mono (by decide) (by decide)⟩
  · show Steps p.tables e below (s₁.setTop (mkF m 0 #[.val (.int p1), .val (.int p2), .val (.int p3), .val (.int p4), .unset, .unset, .unset, .unset, .unset, .unset, .unset, .unset] [])) _
    refine XS.iloadN X0.here hx rfl (hb hby at_0) rfl ?_
    refine XS.iconst X0.here hx rfl (hb hby at_1) ?_
    refine XS.iand X0.here hx rfl (hb hby at_2) rfl ?_
    show Steps p.tables e below (s₁.setTop (mkF m 3 #[.val (.int p1), .val (.int p2), .val (.int p3), .val (.int p4), .unset, .unset, .unset, .unset, .unset, .unset, .unset, .unset] [(.int (p1 &&& (3 : Int32)))])) _
    rw [hl]
    refine XS.istore X0.here hx rfl (hb hby at_3) rfl (l' := #[.val (.int p1), .val (.int p2), .val (.int p3), .val (.int p4), .val (.int (1 : Int32)), .unset, .unset, .unset, .unset, .unset, .unset, .unset]) rfl ?_
    refine XS.iloadN X0.here hx rfl (hb hby at_5) rfl ?_
    refine XS.i2c X0.here hx rfl (hb hby at_6) rfl ?_
    show Steps p.tables e below (s₁.setTop (mkF m 7 #[.val (.int p1), .val (.int p2), .val (.int p3), .val (.int p4), .val (.int (1 : Int32)), .unset, .unset, .unset, .unset, .unset, .unset, .unset] [(.int (p2.toUInt32.toUInt16.toUInt32.toInt32))])) _
    rw [he0]
    refine XS.istore X0.here hx rfl (hb hby at_7) rfl (l' := #[.val (.int p1), .val (.int p2), .val (.int p3), .val (.int p4), .val (.int (1 : Int32)), .val (.int c0_), .unset, .unset, .unset, .unset, .unset, .unset]) rfl ?_
    refine XS.iloadN X0.here hx rfl (hb hby at_9) rfl ?_
    refine XS.i2c X0.here hx rfl (hb hby at_10) rfl ?_
    refine XS.istore X0.here hx rfl (hb hby at_11) rfl (l' := #[.val (.int p1), .val (.int p2), .val (.int p3), .val (.int p4), .val (.int (1 : Int32)), .val (.int c0_), .val (.int (p3.toUInt32.toUInt16.toUInt32.toInt32)), .unset, .unset, .unset, .unset, .unset]) rfl ?_
    show Steps p.tables e below (s₁.setTop (mkF m 13 #[.val (.int p1), .val (.int p2), .val (.int p3), .val (.int p4), .val (.int (1 : Int32)), .val (.int c0_), .val (.int (p3.toUInt32.toUInt16.toUInt32.toInt32)), .unset, .unset, .unset, .unset, .unset] [])) _
    refine XS.iloadN X0.here hx rfl (hb hby at_13) rfl ?_
    refine XS.i2c X0.here hx rfl (hb hby at_14) rfl ?_
    refine XS.istore X0.here hx rfl (hb hby at_15) rfl (l' := #[.val (.int p1), .val (.int p2), .val (.int p3), .val (.int p4), .val (.int (1 : Int32)), .val (.int c0_), .val (.int (p3.toUInt32.toUInt16.toUInt32.toInt32)), .val (.int (p4.toUInt32.toUInt16.toUInt32.toInt32)), .unset, .unset, .unset, .unset]) rfl ?_
    refine XS.iload X0.here hx rfl (hb hby at_17) rfl ?_
    show Steps p.tables e below (s₁.setTop (mkF m 19 #[.val (.int p1), .val (.int p2), .val (.int p3), .val (.int p4), .val (.int (1 : Int32)), .val (.int c0_), .val (.int (p3.toUInt32.toUInt16.toUInt32.toInt32)), .val (.int (p4.toUInt32.toUInt16.toUInt32.toInt32)), .unset, .unset, .unset, .unset] [(.int (1 : Int32))])) _
    refine st1 _ ?_
    show Steps p.tables e below (T1.setTop (mkF m 21 #[.val (.int p1), .val (.int p2), .val (.int p3), .val (.int p4), .val (.int (1 : Int32)), .val (.int c0_), .val (.int (p3.toUInt32.toUInt16.toUInt32.toInt32)), .val (.int (p4.toUInt32.toUInt16.toUInt32.toInt32)), .unset, .unset, .unset, .unset] [(.ref b1)])) _
    refine XS.astore X1.here hx rfl (hb hby at_21) rfl rfl (l' := #[.val (.int p1), .val (.int p2), .val (.int p3), .val (.int p4), .val (.int (1 : Int32)), .val (.int c0_), .val (.int (p3.toUInt32.toUInt16.toUInt32.toInt32)), .val (.int (p4.toUInt32.toUInt16.toUInt32.toInt32)), .val (.ref b1), .unset, .unset, .unset]) rfl ?_
    refine XS.iload X1.here hx rfl (hb hby at_23) rfl ?_
    refine XS.ifNo X1.here hx rfl (hb hby at_25) rfl ((if0 _ _).trans (tlt (by decide : (0 : Int32) < (1 : Int32))).2.2.2) ?_
    refine XS.aload X1.here hx rfl (hb hby at_28) rfl rfl ?_
    refine XS.iconst X1.here hx rfl (hb hby at_30) ?_
    refine XS.iload X1.here hx rfl (hb hby at_31) rfl ?_
    show Steps p.tables e below (T1.setTop (mkF m 33 #[.val (.int p1), .val (.int p2), .val (.int p3), .val (.int p4), .val (.int (1 : Int32)), .val (.int c0_), .val (.int (p3.toUInt32.toUInt16.toUInt32.toInt32)), .val (.int (p4.toUInt32.toUInt16.toUInt32.toInt32)), .val (.ref b1), .unset, .unset, .unset] [(.int c0_), (.int (0 : Int32)), (.ref b1)])) _
    refine st3 _ ?_
    show Steps p.tables e below (T3.setTop (mkF m 34 #[.val (.int p1), .val (.int p2), .val (.int p3), .val (.int p4), .val (.int (1 : Int32)), .val (.int c0_), .val (.int (p3.toUInt32.toUInt16.toUInt32.toInt32)), .val (.int (p4.toUInt32.toUInt16.toUInt32.toInt32)), .val (.ref b1), .unset, .unset, .unset] [])) _
    refine XS.iload X3.here hx rfl (hb hby at_34) rfl ?_
    refine XS.iconst X3.here hx rfl (hb hby at_36) ?_
    refine XS.icmpYes X3.here hx rfl (pc0 := 37) (pc' := 46) rfl (hb hby at_37) rfl (flt (by decide : ¬ ((1 : Int32) < (1 : Int32)))).2.2.2 (by decide) (by decide) ?_
    refine XS.iload X3.here hx rfl (hb hby at_46) rfl ?_
    refine XS.iconst X3.here hx rfl (hb hby at_48) ?_
    refine XS.icmpYes X3.here hx rfl (pc0 := 49) (pc' := 58) rfl (hb hby at_49) rfl (flt (by decide : ¬ ((2 : Int32) < (1 : Int32)))).2.2.2 (by decide) (by decide) ?_
    show Steps p.tables e below (T3.setTop (mkF m 58 #[.val (.int p1), .val (.int p2), .val (.int p3), .val (.int p4), .val (.int (1 : Int32)), .val (.int c0_), .val (.int (p3.toUInt32.toUInt16.toUInt32.toInt32)), .val (.int (p4.toUInt32.toUInt16.toUInt32.toInt32)), .val (.ref b1), .unset, .unset, .unset] [])) _
    refine st5 _ ?_
    show Steps p.tables e below (T5.setTop (mkF m 61 #[.val (.int p1), .val (.int p2), .val (.int p3), .val (.int p4), .val (.int (1 : Int32)), .val (.int c0_), .val (.int (p3.toUInt32.toUInt16.toUInt32.toInt32)), .val (.int (p4.toUInt32.toUInt16.toUInt32.toInt32)), .val (.ref b1), .unset, .unset, .unset] [(.ref b5)])) _
    refine XS.dup X5.here hx rfl (hb hby at_61) rfl rfl ?_
    refine XS.aload X5.here hx rfl (hb hby at_62) rfl rfl ?_
    show Steps p.tables e below (T5.setTop (mkF m 64 #[.val (.int p1), .val (.int p2), .val (.int p3), .val (.int p4), .val (.int (1 : Int32)), .val (.int c0_), .val (.int (p3.toUInt32.toUInt16.toUInt32.toInt32)), .val (.int (p4.toUInt32.toUInt16.toUInt32.toInt32)), .val (.ref b1), .unset, .unset, .unset] [(.ref b1), (.ref b5), (.ref b5)])) _
    refine st8.trans ?_
    show Steps p.tables e below (T8.setTop (mkF m 67 #[.val (.int p1), .val (.int p2), .val (.int p3), .val (.int p4), .val (.int (1 : Int32)), .val (.int c0_), .val (.int (p3.toUInt32.toUInt16.toUInt32.toInt32)), .val (.int (p4.toUInt32.toUInt16.toUInt32.toInt32)), .val (.ref b1), .unset, .unset, .unset] [(.ref b5)])) _
    refine XS.astore X8.here hx rfl (hb hby at_67) rfl rfl (l' := #[.val (.int p1), .val (.int p2), .val (.int p3), .val (.int p4), .val (.int (1 : Int32)), .val (.int c0_), .val (.int (p3.toUInt32.toUInt16.toUInt32.toInt32)), .val (.int (p4.toUInt32.toUInt16.toUInt32.toInt32)), .val (.ref b1), .val (.ref b5), .unset, .unset]) rfl ?_
    refine XS.aload X8.here hx rfl (hb hby at_69) rfl rfl ?_
    show Steps p.tables e below (T8.setTop (mkF m 71 #[.val (.int p1), .val (.int p2), .val (.int p3), .val (.int p4), .val (.int (1 : Int32)), .val (.int c0_), .val (.int (p3.toUInt32.toUInt16.toUInt32.toInt32)), .val (.int (p4.toUInt32.toUInt16.toUInt32.toInt32)), .val (.ref b1), .val (.ref b5), .unset, .unset] [(.ref b5)])) _
    refine st11 _ ?_
    show Steps p.tables e below (T11.setTop (mkF m 74 #[.val (.int p1), .val (.int p2), .val (.int p3), .val (.int p4), .val (.int (1 : Int32)), .val (.int c0_), .val (.int (p3.toUInt32.toUInt16.toUInt32.toInt32)), .val (.int (p4.toUInt32.toUInt16.toUInt32.toInt32)), .val (.ref b1), .val (.ref b5), .unset, .unset] [(.ref t11)])) _
    refine XS.astore X11.here hx rfl (hb hby at_74) rfl rfl (l' := #[.val (.int p1), .val (.int p2), .val (.int p3), .val (.int p4), .val (.int (1 : Int32)), .val (.int c0_), .val (.int (p3.toUInt32.toUInt16.toUInt32.toInt32)), .val (.int (p4.toUInt32.toUInt16.toUInt32.toInt32)), .val (.ref b1), .val (.ref b5), .val (.ref t11), .unset]) rfl ?_
    refine XS.aload X11.here hx rfl (hb hby at_76) rfl rfl ?_
    show Steps p.tables e below (T11.setTop (mkF m 78 #[.val (.int p1), .val (.int p2), .val (.int p3), .val (.int p4), .val (.int (1 : Int32)), .val (.int c0_), .val (.int (p3.toUInt32.toUInt16.toUInt32.toInt32)), .val (.int (p4.toUInt32.toUInt16.toUInt32.toInt32)), .val (.ref b1), .val (.ref b5), .val (.ref t11), .unset] [(.ref t11)])) _
    refine st15.trans ?_
    show Steps p.tables e below (T15.setTop (mkF m 81 #[.val (.int p1), .val (.int p2), .val (.int p3), .val (.int p4), .val (.int (1 : Int32)), .val (.int c0_), .val (.int (p3.toUInt32.toUInt16.toUInt32.toInt32)), .val (.int (p4.toUInt32.toUInt16.toUInt32.toInt32)), .val (.ref b1), .val (.ref b5), .val (.ref t11), .unset] [(.int (1 : Int32))])) _
    refine XS.iload X15.here hx rfl (hb hby at_81) rfl ?_
    refine XS.icmpYes X15.here hx rfl (pc0 := 83) (pc' := 88) rfl (hb hby at_83) rfl (teq (by decide : (1 : Int32) = (1 : Int32))).1 (by decide) (by decide) ?_
    refine XS.iconst X15.here hx rfl (hb hby at_88) ?_
    refine XS.istore X15.here hx rfl (hb hby at_89) rfl (l' := #[.val (.int p1), .val (.int p2), .val (.int p3), .val (.int p4), .val (.int (1 : Int32)), .val (.int c0_), .val (.int (p3.toUInt32.toUInt16.toUInt32.toInt32)), .val (.int (p4.toUInt32.toUInt16.toUInt32.toInt32)), .val (.ref b1), .val (.ref b5), .val (.ref t11), .val (.int (0 : Int32))]) rfl ?_
    refine XS.iload X15.here hx rfl (hb hby at_91) rfl ?_
    refine XS.ifNo X15.here hx rfl (hb hby at_93) rfl ((if0 _ _).trans (tlt (by decide : (0 : Int32) < (1 : Int32))).2.2.2) ?_
    refine XS.aload X15.here hx rfl (hb hby at_96) rfl rfl ?_
    refine XS.iconst X15.here hx rfl (hb hby at_98) ?_
    show Steps p.tables e below (T15.setTop (mkF m 99 #[.val (.int p1), .val (.int p2), .val (.int p3), .val (.int p4), .val (.int (1 : Int32)), .val (.int c0_), .val (.int (p3.toUInt32.toUInt16.toUInt32.toInt32)), .val (.int (p4.toUInt32.toUInt16.toUInt32.toInt32)), .val (.ref b1), .val (.ref b5), .val (.ref t11), .val (.int (0 : Int32))] [(.int (0 : Int32)), (.ref t11)])) _
    refine st16.trans ?_
    show Steps p.tables e below (T16.setTop (mkF m 102 #[.val (.int p1), .val (.int p2), .val (.int p3), .val (.int p4), .val (.int (1 : Int32)), .val (.int c0_), .val (.int (p3.toUInt32.toUInt16.toUInt32.toInt32)), .val (.int (p4.toUInt32.toUInt16.toUInt32.toInt32)), .val (.ref b1), .val (.ref b5), .val (.ref t11), .val (.int (0 : Int32))] [(.int (own_exp c0_))])) _
    refine XS.iload X16.here hx rfl (hb hby at_102) rfl ?_
    show Steps p.tables e below (T16.setTop (mkF m 104 #[.val (.int p1), .val (.int p2), .val (.int p3), .val (.int p4), .val (.int (1 : Int32)), .val (.int c0_), .val (.int (p3.toUInt32.toUInt16.toUInt32.toInt32)), .val (.int (p4.toUInt32.toUInt16.toUInt32.toInt32)), .val (.ref b1), .val (.ref b5), .val (.ref t11), .val (.int (0 : Int32))] [(.int c0_), (.int (own_exp c0_))])) _
    refine st17 _ ?_
    show Steps p.tables e below (T17.setTop (mkF m 107 #[.val (.int p1), .val (.int p2), .val (.int p3), .val (.int p4), .val (.int (1 : Int32)), .val (.int c0_), .val (.int (p3.toUInt32.toUInt16.toUInt32.toInt32)), .val (.int (p4.toUInt32.toUInt16.toUInt32.toInt32)), .val (.ref b1), .val (.ref b5), .val (.ref t11), .val (.int (0 : Int32))] [(.int (own_exp c0_)), (.int (own_exp c0_))])) _
    refine XS.icmpYes X17.here hx rfl (pc0 := 107) (pc' := 112) rfl (hb hby at_107) rfl (teq (rfl : (own_exp c0_) = (own_exp c0_))).1 (by decide) (by decide) ?_
    refine XS.iload X17.here hx rfl (hb hby at_112) rfl ?_
    refine XS.ifNo X17.here hx rfl (hb hby at_114) rfl ((if0 _ _).trans (teq (by decide : (0 : Int32) = (0 : Int32))).2) ?_
    refine XS.iload X17.here hx rfl (hb hby at_117) rfl ?_
    show Steps p.tables e below (T17.setTop (mkF m 119 #[.val (.int p1), .val (.int p2), .val (.int p3), .val (.int p4), .val (.int (1 : Int32)), .val (.int c0_), .val (.int (p3.toUInt32.toUInt16.toUInt32.toInt32)), .val (.int (p4.toUInt32.toUInt16.toUInt32.toInt32)), .val (.ref b1), .val (.ref b5), .val (.ref t11), .val (.int (0 : Int32))] [(.int c0_)])) _
    refine st18 _ ?_
    show Steps p.tables e below (T18.setTop (mkF m 122 #[.val (.int p1), .val (.int p2), .val (.int p3), .val (.int p4), .val (.int (1 : Int32)), .val (.int c0_), .val (.int (p3.toUInt32.toUInt16.toUInt32.toInt32)), .val (.int (p4.toUInt32.toUInt16.toUInt32.toInt32)), .val (.ref b1), .val (.ref b5), .val (.ref t11), .val (.int (0 : Int32))] [(.int (1 : Int32))])) _
    refine XS.ifNo X18.here hx rfl (hb hby at_122) rfl ((if0 _ _).trans (feq (by decide : ¬ ((1 : Int32) = (0 : Int32)))).1) ?_
    refine XS.iconst X18.here hx rfl (hb hby at_125) ?_
    refine XS.goto X18.here hx rfl (pc0 := 126) (pc' := 130) rfl (hb hby at_126) (by decide) (by decide) ?_
    refine XS.istore X18.here hx rfl (hb hby at_130) rfl (l' := #[.val (.int p1), .val (.int p2), .val (.int p3), .val (.int p4), .val (.int (1 : Int32)), .val (.int c0_), .val (.int (p3.toUInt32.toUInt16.toUInt32.toInt32)), .val (.int (p4.toUInt32.toUInt16.toUInt32.toInt32)), .val (.ref b1), .val (.ref b5), .val (.ref t11), .val (.int (1 : Int32))]) rfl ?_
    refine XS.iload X18.here hx rfl (hb hby at_132) rfl ?_
    refine XS.iconst X18.here hx rfl (hb hby at_134) ?_
    refine XS.icmpYes X18.here hx rfl (pc0 := 135) (pc' := 174) rfl (hb hby at_135) rfl (flt (by decide : ¬ ((1 : Int32) < (1 : Int32)))).2.2.2 (by decide) (by decide) ?_
    refine XS.iload X18.here hx rfl (hb hby at_174) rfl ?_
    refine XS.iconst X18.here hx rfl (hb hby at_176) ?_
    refine XS.icmpYes X18.here hx rfl (pc0 := 177) (pc' := 216) rfl (hb hby at_177) rfl (flt (by decide : ¬ ((2 : Int32) < (1 : Int32)))).2.2.2 (by decide) (by decide) ?_
    show Steps p.tables e below (T18.setTop (mkF m 216 #[.val (.int p1), .val (.int p2), .val (.int p3), .val (.int p4), .val (.int (1 : Int32)), .val (.int c0_), .val (.int (p3.toUInt32.toUInt16.toUInt32.toInt32)), .val (.int (p4.toUInt32.toUInt16.toUInt32.toInt32)), .val (.ref b1), .val (.ref b5), .val (.ref t11), .val (.int (1 : Int32))] [])) _
    refine XS.iload X18.here hx rfl (hb hby at_216) rfl ?_
    refine XS.ifYes X18.here hx rfl (pc0 := 218) (pc' := 230) rfl (hb hby at_218) rfl ((if0 _ _).trans (feq (by decide : ¬ ((1 : Int32) = (0 : Int32)))).2) (by decide) (by decide) ?_
    refine XS.iconst X18.here hx rfl (hb hby at_230) ?_
    show Steps p.tables e below (T18.setTop (mkF m 231 #[.val (.int p1), .val (.int p2), .val (.int p3), .val (.int p4), .val (.int (1 : Int32)), .val (.int c0_), .val (.int (p3.toUInt32.toUInt16.toUInt32.toInt32)), .val (.int (p4.toUInt32.toUInt16.toUInt32.toInt32)), .val (.ref b1), .val (.ref b5), .val (.ref t11), .val (.int (1 : Int32))] [(.int (1 : Int32))])) _
    exact retN X18 hx (t := .boolean) Bd.returns (by simp) (hb hby at_231) hr
  · show own_Qk (some (.int (1 : Int32))) [] h0 n0 _ T18.heap _
    rw [e18]
    exact ⟨rfl, N18, K11⟩
theorem r_law1_1 (l : Launch) (Z : State) (a0 : Array Value) (hw : own_HW a0 Z) (ws : List Jvm.Cond) (cs1 : Int32) (fv : Value) (h0 : Heap) (n0 : Nat) (O0 : Old Z n0 h0) (G : own_Ctx Z Z.heap cs1 fv) (p1 p2 p3 p4 c0_ : Int32) (hl : p1 &&& (3 : Int32) = (1 : Int32)) (he0 : (p2.toUInt32.toUInt16.toUInt32.toInt32) = c0_) (hz0_ : ¬ (c0_ < (0 : Int32))) (hm0_ : ¬ ((65535 : Int32) < c0_)) (hq0_ : ¬ own_brk c0_) :
    own_M l x (head1 (Jvm.Cond.code x code maxLocals ret :: ws) room_1) #[(.int p1), (.int p2), (.int p3), (.int p4)] Z h0 n0 (own_Qk (some (.int (1 : Int32))) []) 32 1216 := by
  have G0 := G
  obtain ⟨S_CS, N_CS, S_F, R_F, S_AD, S_HI, S_LO⟩ := G
  refine MetFree.of_bodySF (plainFor_of_name pn_5) hisR ?_
  intro p e s m args below meth c s₁ Bd hml0 hP hK
  obtain ⟨rfl, hZ, hh⟩ := hP
  have hx := Bd.exec
  have hby := Bd.bytes
  have hml : c.maxLocals = 12 := hml0
  have hown : s.vm.findClass "com/example/rubrique/rubrique/cli/OneLineOfPinLaw" = some m.cls := findClass_of_methodNamed Bd.named
  have hnm := (name_of_methodNamed Bd.named Bd.method).1
  have X0 : Stand p l e room_1 s m #[(.int p1), (.int p2), (.int p3), (.int p4)] below meth c s₁ [] 0 0 := Stand.of_body Bd
  have e0 : s₁.heap = h0 := by rw [← hh, Bd.state]; rfl
  have N0 := Fr.nil n0
  have pre0 := own_pre (tb := p.tables) (e := e) (below := below) (T := s₁) (ef_0_34 m p1 p2 p3 p4)
  obtain ⟨T1, h1, ka1, X1, e1, E1, A1, st1⟩ := newP X0 hx hZ (own_w hw 0 rfl) e0 (g := (mkF m 19 #[.val (.int p1), .val (.int p2), .val (.int p3), .val (.int p4), .val (.int (1 : Int32)), .val (.int c0_), .val (.int (p3.toUInt32.toUInt16.toUInt32.toInt32)), .val (.int (p4.toUInt32.toUInt16.toUInt32.toInt32)), .unset, .unset, .unset, .unset] [(.int (1 : Int32))])) rfl (hb hby at_19) rfl (by decide) (cap := 1) (by decide) (by decide) (by decide) (by decide)
  obtain ⟨b1, g1⟩ : ∃ z, z = h0.size := ⟨_, rfl⟩
  have g_b1 : n0 ≤ b1 := Nat.le_trans (O0.1 ▸ O0.2.1) (Nat.le_of_eq g1.symm)
  have sz_b1 : h0.size ≤ b1 := Nat.le_trans (Keep.refl h0 []).1 (Nat.le_of_eq g1.symm)
  rw [← g1] at A1 st1
  have O1 := O0.ext E1
  have K1 : Keep h0 h1 [] := (Keep.refl h0 []).ext E1
  have V1 : Arv Z h1 b1 ka1 .char (1 : Int32) [(.int (0 : Int32))] (.int (0 : Int32)) := (Arv.new A1 (by decide)).pad (pad_rep [] (.int (0 : Int32)) 1)
  have vc2 := V1
  obtain ⟨cl2, Ar2, qk2, S2, Nn2, Hs2, Gf2⟩ := vc2
  have hin2 : ¬ ((0 : Int32) < 0 ∨ cl2.slots.size ≤ ((0 : Int32)).toNatClampNeg) := inb_of S2 ⟨by decide, by decide⟩
  obtain ⟨T3, h3, X3, e3, W3, st3⟩ := stC X1 hx hZ e1 Ar2 (j := (0 : Int32)) hin2 (g := (mkF m 33 #[.val (.int p1), .val (.int p2), .val (.int p3), .val (.int p4), .val (.int (1 : Int32)), .val (.int c0_), .val (.int (p3.toUInt32.toUInt16.toUInt32.toInt32)), .val (.int (p4.toUInt32.toUInt16.toUInt32.toInt32)), .val (.ref b1), .unset, .unset, .unset] [(.int c0_), (.int (0 : Int32)), (.ref b1)])) rfl rfl (hb hby at_33)
  have O3 := O1.wr W3 g_b1
  have K3 : Keep h0 h3 [] := K1.wr W3 (Or.inr sz_b1)
  have N3 := Fr.snoc X3 N0 g_b1
  have f4 : Arv Z h3 b1 ka1 .char (1 : Int32) [(.int (nar .char c0_))] (.int (0 : Int32)) := Arv.set Ar2 qk2 S2 Nn2 Hs2 Gf2 (fits_nar_char _) W3 0 rfl (Nat.le_of_ble_eq_true rfl)
  have hn_ : [c0_].length ≤ 4 := Nat.le_of_ble_eq_true rfl
  have hB_ : own_Bd [c0_] := own_all1 (P := fun z => ¬ (z < (0 : Int32)) ∧ ¬ ((65535 : Int32) < z)) ⟨hz0_, hm0_⟩
  have h1_ : 1 ≤ [c0_].length := Nat.le_of_ble_eq_true rfl
  have V58 : Arv Z h3 b1 ka1 .char [c0_].length.toInt32 ([c0_].map Value.int) (.int (0 : Int32)) := by
    have q := f4
    rw [own_nc hz0_ hm0_] at q
    exact q
  obtain ⟨T5, h5, X5, e5, E5, A5, D5, -, st5⟩ := newO X3 hx hZ hown (own_w hw 1 rfl) (own_w hw 2 rfl) (own_w hw 3 rfl) e3 (g := (mkF m 58 #[.val (.int p1), .val (.int p2), .val (.int p3), .val (.int p4), .val (.int (1 : Int32)), .val (.int c0_), .val (.int (p3.toUInt32.toUInt16.toUInt32.toInt32)), .val (.int (p4.toUInt32.toUInt16.toUInt32.toInt32)), .val (.ref b1), .unset, .unset, .unset] [])) rfl (hb hby at_58) (by decide) (by decide)
  obtain ⟨b5, g5⟩ : ∃ z, z = h3.size := ⟨_, rfl⟩
  have ne_b1_b5 : b1 ≠ b5 := Nat.ne_of_lt (Nat.lt_of_lt_of_le V58.lt (Nat.le_of_eq g5.symm))
  have g_b5 : n0 ≤ b5 := Nat.le_trans (O3.1 ▸ O3.2.1) (Nat.le_of_eq g5.symm)
  have sz_b5 : h0.size ≤ b5 := Nat.le_trans K3.1 (Nat.le_of_eq g5.symm)
  rw [← g5] at A5 D5 st5
  have f6 := V58.ext E5
  have O5 := O3.ext E5
  have K5 : Keep h0 h5 [] := K3.ext E5
  have F5_16 : Fld Z h5 b5 "java/lang/String" "value" "[B" .null := D5 (Or.inr (own_w hw 16 rfl)) (ty := (.array .byte)) (by decide)
  have F5_17 : Fld Z h5 b5 "java/lang/String" "coder" "B" (.int (0 : Int32)) := D5 (Or.inr (own_w hw 17 rfl)) (ty := .byte) (by decide)
  obtain ⟨LL7, X7, N7⟩ : ∃ LL, Stand p l e room_1 s m #[(.int p1), (.int p2), (.int p3), (.int p4)] below meth c T5 LL 2 5 ∧ Fr n0 LL := ⟨_, X5, N3⟩
  obtain ⟨_, _, ⟨T8, L8, k8, n8⟩, -, X8, ⟨Lc8, hQ8, l8, y8, z8⟩, st8⟩ := X7.specialBack hx (y := Y15_) rfl hown (mvT hZ (own_w hw 4 rfl)) (mvT hZ (own_w hw 5 rfl)) (mvT hZ (own_w hw 6 rfl)) (by decide) (backOf (W := 1) (r_new l Z a0 hw [] cs1 fv h5 n0 O5 G0 b5 b1 ka1 [c0_] A5 g_b5 F5_17 F5_16 f6 ne_b1_b5 hn_ h1_ hB_) hZ (own_w hw 6 rfl) (own_w hw 3 rfl) (by decide) (by decide)) (g := (mkF m 64 #[.val (.int p1), .val (.int p2), .val (.int p3), .val (.int p4), .val (.int (1 : Int32)), .val (.int c0_), .val (.int (p3.toUInt32.toUInt16.toUInt32.toInt32)), .val (.int (p4.toUInt32.toUInt16.toUInt32.toInt32)), .val (.ref b1), .unset, .unset, .unset] [(.ref b1), (.ref b5), (.ref b5)])) rfl (by rw [hml]; rfl) (Steps.refl _) (a := b5) (argsL := [(.ref b1)]) (rest := [(.ref b5)]) (lenOf pd_24 rfl) rfl (by show 2 * 0 + _ ≤ _; exact Nat.le_of_eq rfl) (hb hby at_64) (fun _ _ => ⟨rfl, e5, (by decide : 2 + 2 ≤ _), (by decide : 5 + 12 ≤ _)⟩)
  dsimp only [Pt.U, Pt.locs, Pt.cells, Pt.slots] at X8 l8 y8 z8 st8 hQ8
  subst l8 y8 z8
  obtain ⟨rfl, N8q, Kq8, Sq8⟩ := hQ8
  have N8 := Fr.app N7 N8q
  have f9 := f6.keep Kq8 (fun q => (List.mem_cons.mp q).elim ne_b1_b5 (fun q => nomatch q))
  have f10 := A5.keep Kq8
  have O8 := O5.keep Kq8 (allS g_b5 all0)
  have K8 : Keep h0 T8.heap [] := K5.trans Kq8 (allS (Or.inr sz_b5) all0)
  obtain ⟨_, _, ⟨T11, L11, k11, n11⟩, -, X11, ⟨Lc11, hQ11, l11, y11, z11⟩, st11⟩ := Jvm.LawKit.callS X8 hx (y := Y31_) hown (mvT hZ (own_w hw 22 rfl)) (mvT hZ (own_w hw 23 rfl)) (mvT hZ (own_w hw 24 rfl)) (mvT hZ (own_w hw 25 rfl)) (by decide) (backOf (W := 0) (r_of l Z a0 hw [] cs1 fv T8.heap n0 O8 G0 b5 [c0_] Sq8 hn_ hB_) hZ (own_w hw 25 rfl) (own_w hw 24 rfl) (by decide) (by decide)) (g := (mkF m 71 #[.val (.int p1), .val (.int p2), .val (.int p3), .val (.int p4), .val (.int (1 : Int32)), .val (.int c0_), .val (.int (p3.toUInt32.toUInt16.toUInt32.toInt32)), .val (.int (p4.toUInt32.toUInt16.toUInt32.toInt32)), .val (.ref b1), .val (.ref b5), .unset, .unset] [(.ref b5)])) rfl (by rw [hml]; rfl) (argsL := [(.ref b5)]) (rest := []) (lenOf pd_25 rfl) rfl (by show 2 * 0 + _ ≤ _; exact Nat.le_of_eq rfl) (hb hby at_71) (fun _ _ => ⟨rfl, rfl, (by decide : 4 + 4 ≤ _), (by decide : 17 + 20 ≤ _)⟩)
  dsimp only [Pt.U, Pt.locs, Pt.cells, Pt.slots] at X11 l11 y11 z11 st11 hQ11
  subst l11 y11 z11
  obtain ⟨t11, rfl, N11q, Kq11, So11, hs11⟩ := hQ11
  have N11 := Fr.app N8 N11q
  have f12 := f9.keep Kq11 (fun q => nomatch q)
  have f13 := f10.keep Kq11
  have O11 := O8.keep Kq11 all0
  have K11 : Keep h0 T11.heap [] := K8.trans Kq11 all0
  have f14 := own_Str_keep Kq11 Sq8
  obtain rfl : b5 = t11 := (hs11 (own_all1 (P := fun z => ¬ own_brk z) hq0_)).symm
  obtain ⟨cq15, kq15, q15a, q15b, q15c⟩ := isOf hZ rfl f13
  obtain ⟨_, _, ⟨T15, L15, k15, n15⟩, -, X15, ⟨Lc15, hQ15, l15, y15, z15⟩, st15⟩ := X11.virtualBack hx (y := Y18_) (z := Y18_) hown (mvT hZ (own_w hw 37 rfl)) (mvT hZ (own_w hw 27 rfl)) (notFace_of_selects (args := #[]) (mvT hZ (own_w hw 29 rfl))) (mvT hZ (own_w hw 29 rfl)) (mvT hZ (own_w hw 28 rfl)) (by decide) (backOf (W := 0) (r_len l Z a0 hw [] cs1 fv T11.heap n0 O11 G0 b5 ([c0_].map own_exp) So11 (own_lenm hn_)) hZ (own_w hw 30 rfl) (own_w hw 3 rfl) (by decide) (by decide)) q15a q15c (g := (mkF m 78 #[.val (.int p1), .val (.int p2), .val (.int p3), .val (.int p4), .val (.int (1 : Int32)), .val (.int c0_), .val (.int (p3.toUInt32.toUInt16.toUInt32.toInt32)), .val (.int (p4.toUInt32.toUInt16.toUInt32.toInt32)), .val (.ref b1), .val (.ref b5), .val (.ref b5), .unset] [(.ref b5)])) rfl (by rw [hml]; rfl) (Steps.refl _) (argsL := []) (rest := []) (lenOf pd_21 rfl) rfl (by show 2 * 0 + _ ≤ _; exact Nat.le_of_eq rfl) (hb hby at_78) (fun _ _ => ⟨rfl, rfl, (by decide : 8 + 0 ≤ _), (by decide : 37 + 0 ≤ _)⟩)
  dsimp only [Pt.U, Pt.locs, Pt.cells, Pt.slots] at X15 l15 y15 z15 st15 hQ15
  subst l15 y15 z15
  obtain ⟨rfl, N15q, e15⟩ := hQ15
  have N15 := Fr.app N11 N15q
  obtain ⟨cq16, kq16, q16a, q16b, q16c⟩ := isOf hZ e15 f13
  obtain ⟨_, _, ⟨T16, L16, k16, n16⟩, -, X16, ⟨Lc16, hQ16, l16, y16, z16⟩, st16⟩ := X15.virtualBack hx (y := Y19_) (z := Y19_) hown (mvT hZ (own_w hw 73 rfl)) (mvT hZ (own_w hw 49 rfl)) (notFace_of_selects (args := #[]) (mvT hZ (own_w hw 51 rfl))) (mvT hZ (own_w hw 51 rfl)) (mvT hZ (own_w hw 50 rfl)) (by decide) (backOf (W := 0) (r_ch l Z a0 hw [] cs1 fv T11.heap n0 O11 G0 b5 ([c0_].map own_exp) So11 0 (Nat.le_of_ble_eq_true rfl) (own_lenm hn_) (own_Bd_exp hB_)) hZ (own_w hw 52 rfl) (own_w hw 3 rfl) (by decide) (by decide)) q16a q16c (g := (mkF m 99 #[.val (.int p1), .val (.int p2), .val (.int p3), .val (.int p4), .val (.int (1 : Int32)), .val (.int c0_), .val (.int (p3.toUInt32.toUInt16.toUInt32.toInt32)), .val (.int (p4.toUInt32.toUInt16.toUInt32.toInt32)), .val (.ref b1), .val (.ref b5), .val (.ref b5), .val (.int (0 : Int32))] [(.int (0 : Int32)), (.ref b5)])) rfl (by rw [hml]; rfl) (Steps.refl _) (argsL := [(.int (0 : Int32))]) (rest := []) (lenOf pd_22 rfl) rfl (by show 2 * 0 + _ ≤ _; exact Nat.le_of_eq rfl) (hb hby at_99) (fun _ _ => ⟨rfl, e15, (by decide : 8 + 0 ≤ _), (by decide : 37 + 0 ≤ _)⟩)
  dsimp only [Pt.U, Pt.locs, Pt.cells, Pt.slots] at X16 l16 y16 z16 st16 hQ16
  subst l16 y16 z16
  obtain ⟨rfl, N16q, e16⟩ := hQ16
  have N16 := Fr.app N15 N16q
  obtain ⟨_, _, ⟨T17, L17, k17, n17⟩, -, X17, ⟨Lc17, hQ17, l17, y17, z17⟩, st17⟩ := Jvm.LawKit.callS X16 hx (y := Y30_) hown (mvT hZ (own_w hw 74 rfl)) (mvT hZ (own_w hw 75 rfl)) (mvT hZ (own_w hw 76 rfl)) (mvT hZ (own_w hw 77 rfl)) (by decide) (backOf (W := 1) (r_ex l Z a0 hw [] cs1 fv T11.heap n0 O11 G0 c0_ hz0_ hm0_) hZ (own_w hw 77 rfl) (own_w hw 76 rfl) (by decide) (by decide)) (g := (mkF m 104 #[.val (.int p1), .val (.int p2), .val (.int p3), .val (.int p4), .val (.int (1 : Int32)), .val (.int c0_), .val (.int (p3.toUInt32.toUInt16.toUInt32.toInt32)), .val (.int (p4.toUInt32.toUInt16.toUInt32.toInt32)), .val (.ref b1), .val (.ref b5), .val (.ref b5), .val (.int (0 : Int32))] [(.int c0_), (.int (own_exp c0_))])) rfl (by rw [hml]; rfl) (argsL := [(.int c0_)]) (rest := [(.int (own_exp c0_))]) (lenOf pd_26 rfl) rfl (by show 2 * 0 + _ ≤ _; exact Nat.le_of_eq rfl) (hb hby at_104) (fun _ _ => ⟨rfl, e16, (by decide : 8 + 0 ≤ _), (by decide : 37 + 0 ≤ _)⟩)
  dsimp only [Pt.U, Pt.locs, Pt.cells, Pt.slots] at X17 l17 y17 z17 st17 hQ17
  subst l17 y17 z17
  obtain ⟨rfl, N17q, e17⟩ := hQ17
  have N17 := Fr.app N16 N17q
  obtain ⟨_, _, ⟨T18, L18, k18, n18⟩, -, X18, ⟨Lc18, hQ18, l18, y18, z18⟩, st18⟩ := Jvm.LawKit.callS X17 hx (y := Y29_) hown (mvT hZ (own_w hw 78 rfl)) (mvT hZ (own_w hw 79 rfl)) (mvT hZ (own_w hw 76 rfl)) (mvT hZ (own_w hw 80 rfl)) (by decide) (backOf (W := 0) (r_ibF l Z a0 hw [] cs1 fv T11.heap n0 O11 G0 c0_ hq0_) hZ (own_w hw 80 rfl) (own_w hw 76 rfl) (by decide) (by decide)) (g := (mkF m 119 #[.val (.int p1), .val (.int p2), .val (.int p3), .val (.int p4), .val (.int (1 : Int32)), .val (.int c0_), .val (.int (p3.toUInt32.toUInt16.toUInt32.toInt32)), .val (.int (p4.toUInt32.toUInt16.toUInt32.toInt32)), .val (.ref b1), .val (.ref b5), .val (.ref b5), .val (.int (0 : Int32))] [(.int c0_)])) rfl (by rw [hml]; rfl) (argsL := [(.int c0_)]) (rest := []) (lenOf pd_20 rfl) rfl (by show 2 * 0 + _ ≤ _; exact Nat.le_of_eq rfl) (hb hby at_119) (fun _ _ => ⟨rfl, e17, (by decide : 8 + 0 ≤ _), (by decide : 37 + 0 ≤ _)⟩)
  dsimp only [Pt.U, Pt.locs, Pt.cells, Pt.slots] at X18 l18 y18 z18 st18 hQ18
  subst l18 y18 z18
  obtain ⟨rfl, N18q, e18⟩ := hQ18
  have N18 := Fr.app N17 N18q
  obtain ⟨fs, hr, hrun, hended, hW, hsame⟩ := X18.leave (v := some (.int (1 : Int32))) (fun h => by rw [Bd.returns] at h; cases h)
  refine ⟨_, _, pre0 _ ?_, hrun, hended, _, _, rfl, ?_, ⟨_, rfl⟩, hW, hsame.mono (by decide) (by decide)⟩
  · show Steps p.tables e below (s₁.setTop (mkF m 0 #[.val (.int p1), .val (.int p2), .val (.int p3), .val (.int p4), .unset, .unset, .unset, .unset, .unset, .unset, .unset, .unset] [])) _
    refine XS.iloadN X0.here hx rfl (hb hby at_0) rfl ?_
    refine XS.iconst X0.here hx rfl (hb hby at_1) ?_
    refine XS.iand X0.here hx rfl (hb hby at_2) rfl ?_
    show Steps p.tables e below (s₁.setTop (mkF m 3 #[.val (.int p1), .val (.int p2), .val (.int p3), .val (.int p4), .unset, .unset, .unset, .unset, .unset, .unset, .unset, .unset] [(.int (p1 &&& (3 : Int32)))])) _
    rw [hl]
    refine XS.istore X0.here hx rfl (hb hby at_3) rfl (l' := #[.val (.int p1), .val (.int p2), .val (.int p3), .val (.int p4), .val (.int (1 : Int32)), .unset, .unset, .unset, .unset, .unset, .unset, .unset]) rfl ?_
    refine XS.iloadN X0.here hx rfl (hb hby at_5) rfl ?_
    refine XS.i2c X0.here hx rfl (hb hby at_6) rfl ?_
    show Steps p.tables e below (s₁.setTop (mkF m 7 #[.val (.int p1), .val (.int p2), .val (.int p3), .val (.int p4), .val (.int (1 : Int32)), .unset, .unset, .unset, .unset, .unset, .unset, .unset] [(.int (p2.toUInt32.toUInt16.toUInt32.toInt32))])) _
    rw [he0]
    refine XS.istore X0.here hx rfl (hb hby at_7) rfl (l' := #[.val (.int p1), .val (.int p2), .val (.int p3), .val (.int p4), .val (.int (1 : Int32)), .val (.int c0_), .unset, .unset, .unset, .unset, .unset, .unset]) rfl ?_
    refine XS.iloadN X0.here hx rfl (hb hby at_9) rfl ?_
    refine XS.i2c X0.here hx rfl (hb hby at_10) rfl ?_
    refine XS.istore X0.here hx rfl (hb hby at_11) rfl (l' := #[.val (.int p1), .val (.int p2), .val (.int p3), .val (.int p4), .val (.int (1 : Int32)), .val (.int c0_), .val (.int (p3.toUInt32.toUInt16.toUInt32.toInt32)), .unset, .unset, .unset, .unset, .unset]) rfl ?_
    show Steps p.tables e below (s₁.setTop (mkF m 13 #[.val (.int p1), .val (.int p2), .val (.int p3), .val (.int p4), .val (.int (1 : Int32)), .val (.int c0_), .val (.int (p3.toUInt32.toUInt16.toUInt32.toInt32)), .unset, .unset, .unset, .unset, .unset] [])) _
    refine XS.iloadN X0.here hx rfl (hb hby at_13) rfl ?_
    refine XS.i2c X0.here hx rfl (hb hby at_14) rfl ?_
    refine XS.istore X0.here hx rfl (hb hby at_15) rfl (l' := #[.val (.int p1), .val (.int p2), .val (.int p3), .val (.int p4), .val (.int (1 : Int32)), .val (.int c0_), .val (.int (p3.toUInt32.toUInt16.toUInt32.toInt32)), .val (.int (p4.toUInt32.toUInt16.toUInt32.toInt32)), .unset, .unset, .unset, .unset]) rfl ?_
    refine XS.iload X0.here hx rfl (hb hby at_17) rfl ?_
    show Steps p.tables e below (s₁.setTop (mkF m 19 #[.val (.int p1), .val (.int p2), .val (.int p3), .val (.int p4), .val (.int (1 : Int32)), .val (.int c0_), .val (.int (p3.toUInt32.toUInt16.toUInt32.toInt32)), .val (.int (p4.toUInt32.toUInt16.toUInt32.toInt32)), .unset, .unset, .unset, .unset] [(.int (1 : Int32))])) _
    refine st1 _ ?_
    show Steps p.tables e below (T1.setTop (mkF m 21 #[.val (.int p1), .val (.int p2), .val (.int p3), .val (.int p4), .val (.int (1 : Int32)), .val (.int c0_), .val (.int (p3.toUInt32.toUInt16.toUInt32.toInt32)), .val (.int (p4.toUInt32.toUInt16.toUInt32.toInt32)), .unset, .unset, .unset, .unset] [(.ref b1)])) _
    refine XS.astore X1.here hx rfl (hb hby at_21) rfl rfl (l' := #[.val (.int p1), .val (.int p2), .val (.int p3), .val (.int p4), .val (.int (1 : Int32)), .val (.int c0_), .val (.int (p3.toUInt32.toUInt16.toUInt32.toInt32)), .val (.int (p4.toUInt32.toUInt16.toUInt32.toInt32)), .val (.ref b1), .unset, .unset, .unset]) rfl ?_
    refine XS.iload X1.here hx rfl (hb hby at_23) rfl ?_
    refine XS.ifNo X1.here hx rfl (hb hby at_25) rfl ((if0 _ _).trans (tlt (by decide : (0 : Int32) < (1 : Int32))).2.2.2) ?_
    refine XS.aload X1.here hx rfl (hb hby at_28) rfl rfl ?_
    refine XS.iconst X1.here hx rfl (hb hby at_30) ?_
    refine XS.iload X1.here hx rfl (hb hby at_31) rfl ?_
    show Steps p.tables e below (T1.setTop (mkF m 33 #[.val (.int p1), .val (.int p2), .val (.int p3), .val (.int p4), .val (.int (1 : Int32)), .val (.int c0_), .val (.int (p3.toUInt32.toUInt16.toUInt32.toInt32)), .val (.int (p4.toUInt32.toUInt16.toUInt32.toInt32)), .val (.ref b1), .unset, .unset, .unset] [(.int c0_), (.int (0 : Int32)), (.ref b1)])) _
    refine st3 _ ?_
    show Steps p.tables e below (T3.setTop (mkF m 34 #[.val (.int p1), .val (.int p2), .val (.int p3), .val (.int p4), .val (.int (1 : Int32)), .val (.int c0_), .val (.int (p3.toUInt32.toUInt16.toUInt32.toInt32)), .val (.int (p4.toUInt32.toUInt16.toUInt32.toInt32)), .val (.ref b1), .unset, .unset, .unset] [])) _
    refine XS.iload X3.here hx rfl (hb hby at_34) rfl ?_
    refine XS.iconst X3.here hx rfl (hb hby at_36) ?_
    refine XS.icmpYes X3.here hx rfl (pc0 := 37) (pc' := 46) rfl (hb hby at_37) rfl (flt (by decide : ¬ ((1 : Int32) < (1 : Int32)))).2.2.2 (by decide) (by decide) ?_
    refine XS.iload X3.here hx rfl (hb hby at_46) rfl ?_
    refine XS.iconst X3.here hx rfl (hb hby at_48) ?_
    refine XS.icmpYes X3.here hx rfl (pc0 := 49) (pc' := 58) rfl (hb hby at_49) rfl (flt (by decide : ¬ ((2 : Int32) < (1 : Int32)))).2.2.2 (by decide) (by decide) ?_
    show Steps p.tables e below (T3.setTop (mkF m 58 #[.val (.int p1), .val (.int p2), .val (.int p3), .val (.int p4), .val (.int (1 : Int32)), .val (.int c0_), .val (.int (p3.toUInt32.toUInt16.toUInt32.toInt32)), .val (.int (p4.toUInt32.toUInt16.toUInt32.toInt32)), .val (.ref b1), .unset, .unset, .unset] [])) _
    refine st5 _ ?_
    show Steps p.tables e below (T5.setTop (mkF m 61 #[.val (.int p1), .val (.int p2), .val (.int p3), .val (.int p4), .val (.int (1 : Int32)), .val (.int c0_), .val (.int (p3.toUInt32.toUInt16.toUInt32.toInt32)), .val (.int (p4.toUInt32.toUInt16.toUInt32.toInt32)), .val (.ref b1), .unset, .unset, .unset] [(.ref b5)])) _
    refine XS.dup X5.here hx rfl (hb hby at_61) rfl rfl ?_
    refine XS.aload X5.here hx rfl (hb hby at_62) rfl rfl ?_
    show Steps p.tables e below (T5.setTop (mkF m 64 #[.val (.int p1), .val (.int p2), .val (.int p3), .val (.int p4), .val (.int (1 : Int32)), .val (.int c0_), .val (.int (p3.toUInt32.toUInt16.toUInt32.toInt32)), .val (.int (p4.toUInt32.toUInt16.toUInt32.toInt32)), .val (.ref b1), .unset, .unset, .unset] [(.ref b1), (.ref b5), (.ref b5)])) _
    refine st8.trans ?_
    show Steps p.tables e below (T8.setTop (mkF m 67 #[.val (.int p1), .val (.int p2), .val (.int p3), .val (.int p4), .val (.int (1 : Int32)), .val (.int c0_), .val (.int (p3.toUInt32.toUInt16.toUInt32.toInt32)), .val (.int (p4.toUInt32.toUInt16.toUInt32.toInt32)), .val (.ref b1), .unset, .unset, .unset] [(.ref b5)])) _
    refine XS.astore X8.here hx rfl (hb hby at_67) rfl rfl (l' := #[.val (.int p1), .val (.int p2), .val (.int p3), .val (.int p4), .val (.int (1 : Int32)), .val (.int c0_), .val (.int (p3.toUInt32.toUInt16.toUInt32.toInt32)), .val (.int (p4.toUInt32.toUInt16.toUInt32.toInt32)), .val (.ref b1), .val (.ref b5), .unset, .unset]) rfl ?_
    refine XS.aload X8.here hx rfl (hb hby at_69) rfl rfl ?_
    show Steps p.tables e below (T8.setTop (mkF m 71 #[.val (.int p1), .val (.int p2), .val (.int p3), .val (.int p4), .val (.int (1 : Int32)), .val (.int c0_), .val (.int (p3.toUInt32.toUInt16.toUInt32.toInt32)), .val (.int (p4.toUInt32.toUInt16.toUInt32.toInt32)), .val (.ref b1), .val (.ref b5), .unset, .unset] [(.ref b5)])) _
    refine st11 _ ?_
    show Steps p.tables e below (T11.setTop (mkF m 74 #[.val (.int p1), .val (.int p2), .val (.int p3), .val (.int p4), .val (.int (1 : Int32)), .val (.int c0_), .val (.int (p3.toUInt32.toUInt16.toUInt32.toInt32)), .val (.int (p4.toUInt32.toUInt16.toUInt32.toInt32)), .val (.ref b1), .val (.ref b5), .unset, .unset] [(.ref b5)])) _
    refine XS.astore X11.here hx rfl (hb hby at_74) rfl rfl (l' := #[.val (.int p1), .val (.int p2), .val (.int p3), .val (.int p4), .val (.int (1 : Int32)), .val (.int c0_), .val (.int (p3.toUInt32.toUInt16.toUInt32.toInt32)), .val (.int (p4.toUInt32.toUInt16.toUInt32.toInt32)), .val (.ref b1), .val (.ref b5), .val (.ref b5), .unset]) rfl ?_
    refine XS.aload X11.here hx rfl (hb hby at_76) rfl rfl ?_
    show Steps p.tables e below (T11.setTop (mkF m 78 #[.val (.int p1), .val (.int p2), .val (.int p3), .val (.int p4), .val (.int (1 : Int32)), .val (.int c0_), .val (.int (p3.toUInt32.toUInt16.toUInt32.toInt32)), .val (.int (p4.toUInt32.toUInt16.toUInt32.toInt32)), .val (.ref b1), .val (.ref b5), .val (.ref b5), .unset] [(.ref b5)])) _
    refine st15.trans ?_
    show Steps p.tables e below (T15.setTop (mkF m 81 #[.val (.int p1), .val (.int p2), .val (.int p3), .val (.int p4), .val (.int (1 : Int32)), .val (.int c0_), .val (.int (p3.toUInt32.toUInt16.toUInt32.toInt32)), .val (.int (p4.toUInt32.toUInt16.toUInt32.toInt32)), .val (.ref b1), .val (.ref b5), .val (.ref b5), .unset] [(.int (1 : Int32))])) _
    refine XS.iload X15.here hx rfl (hb hby at_81) rfl ?_
    refine XS.icmpYes X15.here hx rfl (pc0 := 83) (pc' := 88) rfl (hb hby at_83) rfl (teq (by decide : (1 : Int32) = (1 : Int32))).1 (by decide) (by decide) ?_
    refine XS.iconst X15.here hx rfl (hb hby at_88) ?_
    refine XS.istore X15.here hx rfl (hb hby at_89) rfl (l' := #[.val (.int p1), .val (.int p2), .val (.int p3), .val (.int p4), .val (.int (1 : Int32)), .val (.int c0_), .val (.int (p3.toUInt32.toUInt16.toUInt32.toInt32)), .val (.int (p4.toUInt32.toUInt16.toUInt32.toInt32)), .val (.ref b1), .val (.ref b5), .val (.ref b5), .val (.int (0 : Int32))]) rfl ?_
    refine XS.iload X15.here hx rfl (hb hby at_91) rfl ?_
    refine XS.ifNo X15.here hx rfl (hb hby at_93) rfl ((if0 _ _).trans (tlt (by decide : (0 : Int32) < (1 : Int32))).2.2.2) ?_
    refine XS.aload X15.here hx rfl (hb hby at_96) rfl rfl ?_
    refine XS.iconst X15.here hx rfl (hb hby at_98) ?_
    show Steps p.tables e below (T15.setTop (mkF m 99 #[.val (.int p1), .val (.int p2), .val (.int p3), .val (.int p4), .val (.int (1 : Int32)), .val (.int c0_), .val (.int (p3.toUInt32.toUInt16.toUInt32.toInt32)), .val (.int (p4.toUInt32.toUInt16.toUInt32.toInt32)), .val (.ref b1), .val (.ref b5), .val (.ref b5), .val (.int (0 : Int32))] [(.int (0 : Int32)), (.ref b5)])) _
    refine st16.trans ?_
    show Steps p.tables e below (T16.setTop (mkF m 102 #[.val (.int p1), .val (.int p2), .val (.int p3), .val (.int p4), .val (.int (1 : Int32)), .val (.int c0_), .val (.int (p3.toUInt32.toUInt16.toUInt32.toInt32)), .val (.int (p4.toUInt32.toUInt16.toUInt32.toInt32)), .val (.ref b1), .val (.ref b5), .val (.ref b5), .val (.int (0 : Int32))] [(.int (own_exp c0_))])) _
    refine XS.iload X16.here hx rfl (hb hby at_102) rfl ?_
    show Steps p.tables e below (T16.setTop (mkF m 104 #[.val (.int p1), .val (.int p2), .val (.int p3), .val (.int p4), .val (.int (1 : Int32)), .val (.int c0_), .val (.int (p3.toUInt32.toUInt16.toUInt32.toInt32)), .val (.int (p4.toUInt32.toUInt16.toUInt32.toInt32)), .val (.ref b1), .val (.ref b5), .val (.ref b5), .val (.int (0 : Int32))] [(.int c0_), (.int (own_exp c0_))])) _
    refine st17 _ ?_
    show Steps p.tables e below (T17.setTop (mkF m 107 #[.val (.int p1), .val (.int p2), .val (.int p3), .val (.int p4), .val (.int (1 : Int32)), .val (.int c0_), .val (.int (p3.toUInt32.toUInt16.toUInt32.toInt32)), .val (.int (p4.toUInt32.toUInt16.toUInt32.toInt32)), .val (.ref b1), .val (.ref b5), .val (.ref b5), .val (.int (0 : Int32))] [(.int (own_exp c0_)), (.int (own_exp c0_))])) _
    refine XS.icmpYes X17.here hx rfl (pc0 := 107) (pc' := 112) rfl (hb hby at_107) rfl (teq (rfl : (own_exp c0_) = (own_exp c0_))).1 (by decide) (by decide) ?_
    refine XS.iload X17.here hx rfl (hb hby at_112) rfl ?_
    refine XS.ifNo X17.here hx rfl (hb hby at_114) rfl ((if0 _ _).trans (teq (by decide : (0 : Int32) = (0 : Int32))).2) ?_
    refine XS.iload X17.here hx rfl (hb hby at_117) rfl ?_
    show Steps p.tables e below (T17.setTop (mkF m 119 #[.val (.int p1), .val (.int p2), .val (.int p3), .val (.int p4), .val (.int (1 : Int32)), .val (.int c0_), .val (.int (p3.toUInt32.toUInt16.toUInt32.toInt32)), .val (.int (p4.toUInt32.toUInt16.toUInt32.toInt32)), .val (.ref b1), .val (.ref b5), .val (.ref b5), .val (.int (0 : Int32))] [(.int c0_)])) _
    refine st18 _ ?_
    show Steps p.tables e below (T18.setTop (mkF m 122 #[.val (.int p1), .val (.int p2), .val (.int p3), .val (.int p4), .val (.int (1 : Int32)), .val (.int c0_), .val (.int (p3.toUInt32.toUInt16.toUInt32.toInt32)), .val (.int (p4.toUInt32.toUInt16.toUInt32.toInt32)), .val (.ref b1), .val (.ref b5), .val (.ref b5), .val (.int (0 : Int32))] [(.int (0 : Int32))])) _
    refine XS.ifYes X18.here hx rfl (pc0 := 122) (pc' := 129) rfl (hb hby at_122) rfl ((if0 _ _).trans (teq (by decide : (0 : Int32) = (0 : Int32))).1) (by decide) (by decide) ?_
    refine XS.iconst X18.here hx rfl (hb hby at_129) ?_
    refine XS.istore X18.here hx rfl (hb hby at_130) rfl (l' := #[.val (.int p1), .val (.int p2), .val (.int p3), .val (.int p4), .val (.int (1 : Int32)), .val (.int c0_), .val (.int (p3.toUInt32.toUInt16.toUInt32.toInt32)), .val (.int (p4.toUInt32.toUInt16.toUInt32.toInt32)), .val (.ref b1), .val (.ref b5), .val (.ref b5), .val (.int (0 : Int32))]) rfl ?_
    refine XS.iload X18.here hx rfl (hb hby at_132) rfl ?_
    refine XS.iconst X18.here hx rfl (hb hby at_134) ?_
    refine XS.icmpYes X18.here hx rfl (pc0 := 135) (pc' := 174) rfl (hb hby at_135) rfl (flt (by decide : ¬ ((1 : Int32) < (1 : Int32)))).2.2.2 (by decide) (by decide) ?_
    refine XS.iload X18.here hx rfl (hb hby at_174) rfl ?_
    refine XS.iconst X18.here hx rfl (hb hby at_176) ?_
    refine XS.icmpYes X18.here hx rfl (pc0 := 177) (pc' := 216) rfl (hb hby at_177) rfl (flt (by decide : ¬ ((2 : Int32) < (1 : Int32)))).2.2.2 (by decide) (by decide) ?_
    refine XS.iload X18.here hx rfl (hb hby at_216) rfl ?_
    show Steps p.tables e below (T18.setTop (mkF m 218 #[.val (.int p1), .val (.int p2), .val (.int p3), .val (.int p4), .val (.int (1 : Int32)), .val (.int c0_), .val (.int (p3.toUInt32.toUInt16.toUInt32.toInt32)), .val (.int (p4.toUInt32.toUInt16.toUInt32.toInt32)), .val (.ref b1), .val (.ref b5), .val (.ref b5), .val (.int (0 : Int32))] [(.int (0 : Int32))])) _
    refine XS.ifNo X18.here hx rfl (hb hby at_218) rfl ((if0 _ _).trans (teq (by decide : (0 : Int32) = (0 : Int32))).2) ?_
    refine XS.aload X18.here hx rfl (hb hby at_221) rfl rfl ?_
    refine XS.aload X18.here hx rfl (hb hby at_223) rfl rfl ?_
    show Steps p.tables e below (T18.setTop (mkF m 225 #[.val (.int p1), .val (.int p2), .val (.int p3), .val (.int p4), .val (.int (1 : Int32)), .val (.int c0_), .val (.int (p3.toUInt32.toUInt16.toUInt32.toInt32)), .val (.int (p4.toUInt32.toUInt16.toUInt32.toInt32)), .val (.ref b1), .val (.ref b5), .val (.ref b5), .val (.int (0 : Int32))] [(.ref b5), (.ref b5)])) _
    refine Jvm.RoadKit.acmp (g := (mkF m 225 #[.val (.int p1), .val (.int p2), .val (.int p3), .val (.int p4), .val (.int (1 : Int32)), .val (.int c0_), .val (.int (p3.toUInt32.toUInt16.toUInt32.toInt32)), .val (.int (p4.toUInt32.toUInt16.toUInt32.toInt32)), .val (.ref b1), .val (.ref b5), .val (.ref b5), .val (.int (0 : Int32))] [(.ref b5), (.ref b5)])) X18 hx rfl rfl rfl (pc0 := 225) (pc' := 230) (same := true) rfl (hb hby at_225) rfl (decide_eq_true rfl) (by decide) (by decide) ?_
    show Steps p.tables e below (T18.setTop (mkF m 230 #[.val (.int p1), .val (.int p2), .val (.int p3), .val (.int p4), .val (.int (1 : Int32)), .val (.int c0_), .val (.int (p3.toUInt32.toUInt16.toUInt32.toInt32)), .val (.int (p4.toUInt32.toUInt16.toUInt32.toInt32)), .val (.ref b1), .val (.ref b5), .val (.ref b5), .val (.int (0 : Int32))] [])) _
    refine XS.iconst X18.here hx rfl (hb hby at_230) ?_
    show Steps p.tables e below (T18.setTop (mkF m 231 #[.val (.int p1), .val (.int p2), .val (.int p3), .val (.int p4), .val (.int (1 : Int32)), .val (.int c0_), .val (.int (p3.toUInt32.toUInt16.toUInt32.toInt32)), .val (.int (p4.toUInt32.toUInt16.toUInt32.toInt32)), .val (.ref b1), .val (.ref b5), .val (.ref b5), .val (.int (0 : Int32))] [(.int (1 : Int32))])) _
    exact retN X18 hx (t := .boolean) Bd.returns (by simp) (hb hby at_231) hr
  · show own_Qk (some (.int (1 : Int32))) [] h0 n0 _ T18.heap _
    rw [e18]
    exact ⟨rfl, N18, K11⟩
theorem r_law2_0 (l : Launch) (Z : State) (a0 : Array Value) (hw : own_HW a0 Z) (ws : List Jvm.Cond) (cs1 : Int32) (fv : Value) (h0 : Heap) (n0 : Nat) (O0 : Old Z n0 h0) (G : own_Ctx Z Z.heap cs1 fv) (p1 p2 p3 p4 c0_ c1_ : Int32) (hl : p1 &&& (3 : Int32) = (2 : Int32)) (he0 : (p2.toUInt32.toUInt16.toUInt32.toInt32) = c0_) (hz0_ : ¬ (c0_ < (0 : Int32))) (hm0_ : ¬ ((65535 : Int32) < c0_)) (he1 : (p3.toUInt32.toUInt16.toUInt32.toInt32) = c1_) (hz1_ : ¬ (c1_ < (0 : Int32))) (hm1_ : ¬ ((65535 : Int32) < c1_)) (hq0_ : own_brk c0_) :
    own_M l x (head1 (Jvm.Cond.code x code maxLocals ret :: ws) room_1) #[(.int p1), (.int p2), (.int p3), (.int p4)] Z h0 n0 (own_Qk (some (.int (1 : Int32))) []) 32 1216 := by
  have G0 := G
  obtain ⟨S_CS, N_CS, S_F, R_F, S_AD, S_HI, S_LO⟩ := G
  refine MetFree.of_bodySF (plainFor_of_name pn_5) hisR ?_
  intro p e s m args below meth c s₁ Bd hml0 hP hK
  obtain ⟨rfl, hZ, hh⟩ := hP
  have hx := Bd.exec
  have hby := Bd.bytes
  have hml : c.maxLocals = 12 := hml0
  have hown : s.vm.findClass "com/example/rubrique/rubrique/cli/OneLineOfPinLaw" = some m.cls := findClass_of_methodNamed Bd.named
  have hnm := (name_of_methodNamed Bd.named Bd.method).1
  have X0 : Stand p l e room_1 s m #[(.int p1), (.int p2), (.int p3), (.int p4)] below meth c s₁ [] 0 0 := Stand.of_body Bd
  have e0 : s₁.heap = h0 := by rw [← hh, Bd.state]; rfl
  have N0 := Fr.nil n0
  have pre0 := own_pre (tb := p.tables) (e := e) (below := below) (T := s₁) (ef_0_34 m p1 p2 p3 p4)
  obtain ⟨T1, h1, ka1, X1, e1, E1, A1, st1⟩ := newP X0 hx hZ (own_w hw 0 rfl) e0 (g := (mkF m 19 #[.val (.int p1), .val (.int p2), .val (.int p3), .val (.int p4), .val (.int (2 : Int32)), .val (.int c0_), .val (.int c1_), .val (.int (p4.toUInt32.toUInt16.toUInt32.toInt32)), .unset, .unset, .unset, .unset] [(.int (2 : Int32))])) rfl (hb hby at_19) rfl (by decide) (cap := 2) (by decide) (by decide) (by decide) (by decide)
  obtain ⟨b1, g1⟩ : ∃ z, z = h0.size := ⟨_, rfl⟩
  have g_b1 : n0 ≤ b1 := Nat.le_trans (O0.1 ▸ O0.2.1) (Nat.le_of_eq g1.symm)
  have sz_b1 : h0.size ≤ b1 := Nat.le_trans (Keep.refl h0 []).1 (Nat.le_of_eq g1.symm)
  rw [← g1] at A1 st1
  have O1 := O0.ext E1
  have K1 : Keep h0 h1 [] := (Keep.refl h0 []).ext E1
  have V1 : Arv Z h1 b1 ka1 .char (2 : Int32) [(.int (0 : Int32)), (.int (0 : Int32))] (.int (0 : Int32)) := (Arv.new A1 (by decide)).pad (pad_rep [] (.int (0 : Int32)) 2)
  have vc2 := V1
  obtain ⟨cl2, Ar2, qk2, S2, Nn2, Hs2, Gf2⟩ := vc2
  have hin2 : ¬ ((0 : Int32) < 0 ∨ cl2.slots.size ≤ ((0 : Int32)).toNatClampNeg) := inb_of S2 ⟨by decide, by decide⟩
  obtain ⟨T3, h3, X3, e3, W3, st3⟩ := stC X1 hx hZ e1 Ar2 (j := (0 : Int32)) hin2 (g := (mkF m 33 #[.val (.int p1), .val (.int p2), .val (.int p3), .val (.int p4), .val (.int (2 : Int32)), .val (.int c0_), .val (.int c1_), .val (.int (p4.toUInt32.toUInt16.toUInt32.toInt32)), .val (.ref b1), .unset, .unset, .unset] [(.int c0_), (.int (0 : Int32)), (.ref b1)])) rfl rfl (hb hby at_33)
  have O3 := O1.wr W3 g_b1
  have K3 : Keep h0 h3 [] := K1.wr W3 (Or.inr sz_b1)
  have N3 := Fr.snoc X3 N0 g_b1
  have f4 : Arv Z h3 b1 ka1 .char (2 : Int32) [(.int (nar .char c0_)), (.int (0 : Int32))] (.int (0 : Int32)) := Arv.set Ar2 qk2 S2 Nn2 Hs2 Gf2 (fits_nar_char _) W3 0 rfl (Nat.le_of_ble_eq_true rfl)
  have vc5 := f4
  obtain ⟨cl5, Ar5, qk5, S5, Nn5, Hs5, Gf5⟩ := vc5
  have hin5 : ¬ ((1 : Int32) < 0 ∨ cl5.slots.size ≤ ((1 : Int32)).toNatClampNeg) := inb_of S5 ⟨by decide, by decide⟩
  obtain ⟨T6, h6, X6, e6, W6, st6⟩ := stC X3 hx hZ e3 Ar5 (j := (1 : Int32)) hin5 (g := (mkF m 45 #[.val (.int p1), .val (.int p2), .val (.int p3), .val (.int p4), .val (.int (2 : Int32)), .val (.int c0_), .val (.int c1_), .val (.int (p4.toUInt32.toUInt16.toUInt32.toInt32)), .val (.ref b1), .unset, .unset, .unset] [(.int c1_), (.int (1 : Int32)), (.ref b1)])) rfl rfl (hb hby at_45)
  have O6 := O3.wr W6 g_b1
  have K6 : Keep h0 h6 [] := K3.wr W6 (Or.inr sz_b1)
  have N6 := Fr.snoc X6 N3 g_b1
  have f7 : Arv Z h6 b1 ka1 .char (2 : Int32) [(.int (nar .char c0_)), (.int (nar .char c1_))] (.int (0 : Int32)) := Arv.set Ar5 qk5 S5 Nn5 Hs5 Gf5 (fits_nar_char _) W6 1 rfl (Nat.le_of_ble_eq_true rfl)
  have hn_ : [c0_, c1_].length ≤ 4 := Nat.le_of_ble_eq_true rfl
  have hB_ : own_Bd [c0_, c1_] := own_all2 (P := fun z => ¬ (z < (0 : Int32)) ∧ ¬ ((65535 : Int32) < z)) ⟨hz0_, hm0_⟩ ⟨hz1_, hm1_⟩
  have h1_ : 1 ≤ [c0_, c1_].length := Nat.le_of_ble_eq_true rfl
  have V58 : Arv Z h6 b1 ka1 .char [c0_, c1_].length.toInt32 ([c0_, c1_].map Value.int) (.int (0 : Int32)) := by
    have q := f7
    rw [own_nc hz0_ hm0_, own_nc hz1_ hm1_] at q
    exact q
  obtain ⟨T8, h8, X8, e8, E8, A8, D8, -, st8⟩ := newO X6 hx hZ hown (own_w hw 1 rfl) (own_w hw 2 rfl) (own_w hw 3 rfl) e6 (g := (mkF m 58 #[.val (.int p1), .val (.int p2), .val (.int p3), .val (.int p4), .val (.int (2 : Int32)), .val (.int c0_), .val (.int c1_), .val (.int (p4.toUInt32.toUInt16.toUInt32.toInt32)), .val (.ref b1), .unset, .unset, .unset] [])) rfl (hb hby at_58) (by decide) (by decide)
  obtain ⟨b8, g8⟩ : ∃ z, z = h6.size := ⟨_, rfl⟩
  have ne_b1_b8 : b1 ≠ b8 := Nat.ne_of_lt (Nat.lt_of_lt_of_le V58.lt (Nat.le_of_eq g8.symm))
  have g_b8 : n0 ≤ b8 := Nat.le_trans (O6.1 ▸ O6.2.1) (Nat.le_of_eq g8.symm)
  have sz_b8 : h0.size ≤ b8 := Nat.le_trans K6.1 (Nat.le_of_eq g8.symm)
  rw [← g8] at A8 D8 st8
  have f9 := V58.ext E8
  have O8 := O6.ext E8
  have K8 : Keep h0 h8 [] := K6.ext E8
  have F8_16 : Fld Z h8 b8 "java/lang/String" "value" "[B" .null := D8 (Or.inr (own_w hw 16 rfl)) (ty := (.array .byte)) (by decide)
  have F8_17 : Fld Z h8 b8 "java/lang/String" "coder" "B" (.int (0 : Int32)) := D8 (Or.inr (own_w hw 17 rfl)) (ty := .byte) (by decide)
  obtain ⟨LL10, X10, N10⟩ : ∃ LL, Stand p l e room_1 s m #[(.int p1), (.int p2), (.int p3), (.int p4)] below meth c T8 LL 2 6 ∧ Fr n0 LL := ⟨_, X8, N6⟩
  obtain ⟨_, _, ⟨T11, L11, k11, n11⟩, -, X11, ⟨Lc11, hQ11, l11, y11, z11⟩, st11⟩ := X10.specialBack hx (y := Y15_) rfl hown (mvT hZ (own_w hw 4 rfl)) (mvT hZ (own_w hw 5 rfl)) (mvT hZ (own_w hw 6 rfl)) (by decide) (backOf (W := 1) (r_new l Z a0 hw [] cs1 fv h8 n0 O8 G0 b8 b1 ka1 [c0_, c1_] A8 g_b8 F8_17 F8_16 f9 ne_b1_b8 hn_ h1_ hB_) hZ (own_w hw 6 rfl) (own_w hw 3 rfl) (by decide) (by decide)) (g := (mkF m 64 #[.val (.int p1), .val (.int p2), .val (.int p3), .val (.int p4), .val (.int (2 : Int32)), .val (.int c0_), .val (.int c1_), .val (.int (p4.toUInt32.toUInt16.toUInt32.toInt32)), .val (.ref b1), .unset, .unset, .unset] [(.ref b1), (.ref b8), (.ref b8)])) rfl (by rw [hml]; rfl) (Steps.refl _) (a := b8) (argsL := [(.ref b1)]) (rest := [(.ref b8)]) (lenOf pd_24 rfl) rfl (by show 2 * 0 + _ ≤ _; exact Nat.le_of_eq rfl) (hb hby at_64) (fun _ _ => ⟨rfl, e8, (by decide : 2 + 2 ≤ _), (by decide : 6 + 12 ≤ _)⟩)
  dsimp only [Pt.U, Pt.locs, Pt.cells, Pt.slots] at X11 l11 y11 z11 st11 hQ11
  subst l11 y11 z11
  obtain ⟨rfl, N11q, Kq11, Sq11⟩ := hQ11
  have N11 := Fr.app N10 N11q
  have f12 := f9.keep Kq11 (fun q => (List.mem_cons.mp q).elim ne_b1_b8 (fun q => nomatch q))
  have f13 := A8.keep Kq11
  have O11 := O8.keep Kq11 (allS g_b8 all0)
  have K11 : Keep h0 T11.heap [] := K8.trans Kq11 (allS (Or.inr sz_b8) all0)
  obtain ⟨_, _, ⟨T14, L14, k14, n14⟩, -, X14, ⟨Lc14, hQ14, l14, y14, z14⟩, st14⟩ := Jvm.LawKit.callS X11 hx (y := Y31_) hown (mvT hZ (own_w hw 22 rfl)) (mvT hZ (own_w hw 23 rfl)) (mvT hZ (own_w hw 24 rfl)) (mvT hZ (own_w hw 25 rfl)) (by decide) (backOf (W := 0) (r_of l Z a0 hw [] cs1 fv T11.heap n0 O11 G0 b8 [c0_, c1_] Sq11 hn_ hB_) hZ (own_w hw 25 rfl) (own_w hw 24 rfl) (by decide) (by decide)) (g := (mkF m 71 #[.val (.int p1), .val (.int p2), .val (.int p3), .val (.int p4), .val (.int (2 : Int32)), .val (.int c0_), .val (.int c1_), .val (.int (p4.toUInt32.toUInt16.toUInt32.toInt32)), .val (.ref b1), .val (.ref b8), .unset, .unset] [(.ref b8)])) rfl (by rw [hml]; rfl) (argsL := [(.ref b8)]) (rest := []) (lenOf pd_25 rfl) rfl (by show 2 * 0 + _ ≤ _; exact Nat.le_of_eq rfl) (hb hby at_71) (fun _ _ => ⟨rfl, rfl, (by decide : 4 + 4 ≤ _), (by decide : 18 + 20 ≤ _)⟩)
  dsimp only [Pt.U, Pt.locs, Pt.cells, Pt.slots] at X14 l14 y14 z14 st14 hQ14
  subst l14 y14 z14
  obtain ⟨t14, rfl, N14q, Kq14, So14, hs14⟩ := hQ14
  have N14 := Fr.app N11 N14q
  have f15 := f12.keep Kq14 (fun q => nomatch q)
  have f16 := f13.keep Kq14
  have O14 := O11.keep Kq14 all0
  have K14 : Keep h0 T14.heap [] := K11.trans Kq14 all0
  have f17 := own_Str_keep Kq14 Sq11
  obtain ⟨cq18, kq18, q18a, q18b, q18c⟩ := isOf hZ rfl (own_Str_exa So14)
  obtain ⟨_, _, ⟨T18, L18, k18, n18⟩, -, X18, ⟨Lc18, hQ18, l18, y18, z18⟩, st18⟩ := X14.virtualBack hx (y := Y18_) (z := Y18_) hown (mvT hZ (own_w hw 37 rfl)) (mvT hZ (own_w hw 27 rfl)) (notFace_of_selects (args := #[]) (mvT hZ (own_w hw 29 rfl))) (mvT hZ (own_w hw 29 rfl)) (mvT hZ (own_w hw 28 rfl)) (by decide) (backOf (W := 0) (r_len l Z a0 hw [] cs1 fv T14.heap n0 O14 G0 t14 ([c0_, c1_].map own_exp) So14 (own_lenm hn_)) hZ (own_w hw 30 rfl) (own_w hw 3 rfl) (by decide) (by decide)) q18a q18c (g := (mkF m 78 #[.val (.int p1), .val (.int p2), .val (.int p3), .val (.int p4), .val (.int (2 : Int32)), .val (.int c0_), .val (.int c1_), .val (.int (p4.toUInt32.toUInt16.toUInt32.toInt32)), .val (.ref b1), .val (.ref b8), .val (.ref t14), .unset] [(.ref t14)])) rfl (by rw [hml]; rfl) (Steps.refl _) (argsL := []) (rest := []) (lenOf pd_21 rfl) rfl (by show 2 * 0 + _ ≤ _; exact Nat.le_of_eq rfl) (hb hby at_78) (fun _ _ => ⟨rfl, rfl, (by decide : 8 + 0 ≤ _), (by decide : 38 + 0 ≤ _)⟩)
  dsimp only [Pt.U, Pt.locs, Pt.cells, Pt.slots] at X18 l18 y18 z18 st18 hQ18
  subst l18 y18 z18
  obtain ⟨rfl, N18q, e18⟩ := hQ18
  have N18 := Fr.app N14 N18q
  obtain ⟨cq19, kq19, q19a, q19b, q19c⟩ := isOf hZ e18 (own_Str_exa So14)
  obtain ⟨_, _, ⟨T19, L19, k19, n19⟩, -, X19, ⟨Lc19, hQ19, l19, y19, z19⟩, st19⟩ := X18.virtualBack hx (y := Y19_) (z := Y19_) hown (mvT hZ (own_w hw 73 rfl)) (mvT hZ (own_w hw 49 rfl)) (notFace_of_selects (args := #[]) (mvT hZ (own_w hw 51 rfl))) (mvT hZ (own_w hw 51 rfl)) (mvT hZ (own_w hw 50 rfl)) (by decide) (backOf (W := 0) (r_ch l Z a0 hw [] cs1 fv T14.heap n0 O14 G0 t14 ([c0_, c1_].map own_exp) So14 0 (Nat.le_of_ble_eq_true rfl) (own_lenm hn_) (own_Bd_exp hB_)) hZ (own_w hw 52 rfl) (own_w hw 3 rfl) (by decide) (by decide)) q19a q19c (g := (mkF m 99 #[.val (.int p1), .val (.int p2), .val (.int p3), .val (.int p4), .val (.int (2 : Int32)), .val (.int c0_), .val (.int c1_), .val (.int (p4.toUInt32.toUInt16.toUInt32.toInt32)), .val (.ref b1), .val (.ref b8), .val (.ref t14), .val (.int (0 : Int32))] [(.int (0 : Int32)), (.ref t14)])) rfl (by rw [hml]; rfl) (Steps.refl _) (argsL := [(.int (0 : Int32))]) (rest := []) (lenOf pd_22 rfl) rfl (by show 2 * 0 + _ ≤ _; exact Nat.le_of_eq rfl) (hb hby at_99) (fun _ _ => ⟨rfl, e18, (by decide : 8 + 0 ≤ _), (by decide : 38 + 0 ≤ _)⟩)
  dsimp only [Pt.U, Pt.locs, Pt.cells, Pt.slots] at X19 l19 y19 z19 st19 hQ19
  subst l19 y19 z19
  obtain ⟨rfl, N19q, e19⟩ := hQ19
  have N19 := Fr.app N18 N19q
  obtain ⟨_, _, ⟨T20, L20, k20, n20⟩, -, X20, ⟨Lc20, hQ20, l20, y20, z20⟩, st20⟩ := Jvm.LawKit.callS X19 hx (y := Y30_) hown (mvT hZ (own_w hw 74 rfl)) (mvT hZ (own_w hw 75 rfl)) (mvT hZ (own_w hw 76 rfl)) (mvT hZ (own_w hw 77 rfl)) (by decide) (backOf (W := 1) (r_ex l Z a0 hw [] cs1 fv T14.heap n0 O14 G0 c0_ hz0_ hm0_) hZ (own_w hw 77 rfl) (own_w hw 76 rfl) (by decide) (by decide)) (g := (mkF m 104 #[.val (.int p1), .val (.int p2), .val (.int p3), .val (.int p4), .val (.int (2 : Int32)), .val (.int c0_), .val (.int c1_), .val (.int (p4.toUInt32.toUInt16.toUInt32.toInt32)), .val (.ref b1), .val (.ref b8), .val (.ref t14), .val (.int (0 : Int32))] [(.int c0_), (.int (own_exp c0_))])) rfl (by rw [hml]; rfl) (argsL := [(.int c0_)]) (rest := [(.int (own_exp c0_))]) (lenOf pd_26 rfl) rfl (by show 2 * 0 + _ ≤ _; exact Nat.le_of_eq rfl) (hb hby at_104) (fun _ _ => ⟨rfl, e19, (by decide : 8 + 0 ≤ _), (by decide : 38 + 0 ≤ _)⟩)
  dsimp only [Pt.U, Pt.locs, Pt.cells, Pt.slots] at X20 l20 y20 z20 st20 hQ20
  subst l20 y20 z20
  obtain ⟨rfl, N20q, e20⟩ := hQ20
  have N20 := Fr.app N19 N20q
  obtain ⟨_, _, ⟨T21, L21, k21, n21⟩, -, X21, ⟨Lc21, hQ21, l21, y21, z21⟩, st21⟩ := Jvm.LawKit.callS X20 hx (y := Y29_) hown (mvT hZ (own_w hw 78 rfl)) (mvT hZ (own_w hw 79 rfl)) (mvT hZ (own_w hw 76 rfl)) (mvT hZ (own_w hw 80 rfl)) (by decide) (backOf (W := 0) (r_ibT l Z a0 hw [] cs1 fv T14.heap n0 O14 G0 c0_ hq0_) hZ (own_w hw 80 rfl) (own_w hw 76 rfl) (by decide) (by decide)) (g := (mkF m 119 #[.val (.int p1), .val (.int p2), .val (.int p3), .val (.int p4), .val (.int (2 : Int32)), .val (.int c0_), .val (.int c1_), .val (.int (p4.toUInt32.toUInt16.toUInt32.toInt32)), .val (.ref b1), .val (.ref b8), .val (.ref t14), .val (.int (0 : Int32))] [(.int c0_)])) rfl (by rw [hml]; rfl) (argsL := [(.int c0_)]) (rest := []) (lenOf pd_20 rfl) rfl (by show 2 * 0 + _ ≤ _; exact Nat.le_of_eq rfl) (hb hby at_119) (fun _ _ => ⟨rfl, e20, (by decide : 8 + 0 ≤ _), (by decide : 38 + 0 ≤ _)⟩)
  dsimp only [Pt.U, Pt.locs, Pt.cells, Pt.slots] at X21 l21 y21 z21 st21 hQ21
  subst l21 y21 z21
  obtain ⟨rfl, N21q, e21⟩ := hQ21
  have N21 := Fr.app N20 N21q
  obtain ⟨cq22, kq22, q22a, q22b, q22c⟩ := isOf hZ e21 (own_Str_exa So14)
  obtain ⟨_, _, ⟨T22, L22, k22, n22⟩, -, X22, ⟨Lc22, hQ22, l22, y22, z22⟩, st22⟩ := X21.virtualBack hx (y := Y19_) (z := Y19_) hown (mvT hZ (own_w hw 73 rfl)) (mvT hZ (own_w hw 49 rfl)) (notFace_of_selects (args := #[]) (mvT hZ (own_w hw 51 rfl))) (mvT hZ (own_w hw 51 rfl)) (mvT hZ (own_w hw 50 rfl)) (by decide) (backOf (W := 0) (r_ch l Z a0 hw [] cs1 fv T14.heap n0 O14 G0 t14 ([c0_, c1_].map own_exp) So14 1 (Nat.le_of_ble_eq_true rfl) (own_lenm hn_) (own_Bd_exp hB_)) hZ (own_w hw 52 rfl) (own_w hw 3 rfl) (by decide) (by decide)) q22a q22c (g := (mkF m 141 #[.val (.int p1), .val (.int p2), .val (.int p3), .val (.int p4), .val (.int (2 : Int32)), .val (.int c0_), .val (.int c1_), .val (.int (p4.toUInt32.toUInt16.toUInt32.toInt32)), .val (.ref b1), .val (.ref b8), .val (.ref t14), .val (.int (1 : Int32))] [(.int (1 : Int32)), (.ref t14)])) rfl (by rw [hml]; rfl) (Steps.refl _) (argsL := [(.int (1 : Int32))]) (rest := []) (lenOf pd_22 rfl) rfl (by show 2 * 0 + _ ≤ _; exact Nat.le_of_eq rfl) (hb hby at_141) (fun _ _ => ⟨rfl, e21, (by decide : 8 + 0 ≤ _), (by decide : 38 + 0 ≤ _)⟩)
  dsimp only [Pt.U, Pt.locs, Pt.cells, Pt.slots] at X22 l22 y22 z22 st22 hQ22
  subst l22 y22 z22
  obtain ⟨rfl, N22q, e22⟩ := hQ22
  have N22 := Fr.app N21 N22q
  obtain ⟨_, _, ⟨T23, L23, k23, n23⟩, -, X23, ⟨Lc23, hQ23, l23, y23, z23⟩, st23⟩ := Jvm.LawKit.callS X22 hx (y := Y30_) hown (mvT hZ (own_w hw 74 rfl)) (mvT hZ (own_w hw 75 rfl)) (mvT hZ (own_w hw 76 rfl)) (mvT hZ (own_w hw 77 rfl)) (by decide) (backOf (W := 1) (r_ex l Z a0 hw [] cs1 fv T14.heap n0 O14 G0 c1_ hz1_ hm1_) hZ (own_w hw 77 rfl) (own_w hw 76 rfl) (by decide) (by decide)) (g := (mkF m 146 #[.val (.int p1), .val (.int p2), .val (.int p3), .val (.int p4), .val (.int (2 : Int32)), .val (.int c0_), .val (.int c1_), .val (.int (p4.toUInt32.toUInt16.toUInt32.toInt32)), .val (.ref b1), .val (.ref b8), .val (.ref t14), .val (.int (1 : Int32))] [(.int c1_), (.int (own_exp c1_))])) rfl (by rw [hml]; rfl) (argsL := [(.int c1_)]) (rest := [(.int (own_exp c1_))]) (lenOf pd_26 rfl) rfl (by show 2 * 0 + _ ≤ _; exact Nat.le_of_eq rfl) (hb hby at_146) (fun _ _ => ⟨rfl, e22, (by decide : 8 + 0 ≤ _), (by decide : 38 + 0 ≤ _)⟩)
  dsimp only [Pt.U, Pt.locs, Pt.cells, Pt.slots] at X23 l23 y23 z23 st23 hQ23
  subst l23 y23 z23
  obtain ⟨rfl, N23q, e23⟩ := hQ23
  have N23 := Fr.app N22 N23q
  obtain ⟨fs, hr, hrun, hended, hW, hsame⟩ := X23.leave (v := some (.int (1 : Int32))) (fun h => by rw [Bd.returns] at h; cases h)
  refine ⟨_, _, pre0 _ ?_, hrun, hended, _, _, rfl, ?_, ⟨_, rfl⟩, hW, hsame.mono (by decide) (by decide)⟩
  · show Steps p.tables e below (s₁.setTop (mkF m 0 #[.val (.int p1), .val (.int p2), .val (.int p3), .val (.int p4), .unset, .unset, .unset, .unset, .unset, .unset, .unset, .unset] [])) _
    refine XS.iloadN X0.here hx rfl (hb hby at_0) rfl ?_
    refine XS.iconst X0.here hx rfl (hb hby at_1) ?_
    refine XS.iand X0.here hx rfl (hb hby at_2) rfl ?_
    show Steps p.tables e below (s₁.setTop (mkF m 3 #[.val (.int p1), .val (.int p2), .val (.int p3), .val (.int p4), .unset, .unset, .unset, .unset, .unset, .unset, .unset, .unset] [(.int (p1 &&& (3 : Int32)))])) _
    rw [hl]
    refine XS.istore X0.here hx rfl (hb hby at_3) rfl (l' := #[.val (.int p1), .val (.int p2), .val (.int p3), .val (.int p4), .val (.int (2 : Int32)), .unset, .unset, .unset, .unset, .unset, .unset, .unset]) rfl ?_
    refine XS.iloadN X0.here hx rfl (hb hby at_5) rfl ?_
    refine XS.i2c X0.here hx rfl (hb hby at_6) rfl ?_
    show Steps p.tables e below (s₁.setTop (mkF m 7 #[.val (.int p1), .val (.int p2), .val (.int p3), .val (.int p4), .val (.int (2 : Int32)), .unset, .unset, .unset, .unset, .unset, .unset, .unset] [(.int (p2.toUInt32.toUInt16.toUInt32.toInt32))])) _
    rw [he0]
    refine XS.istore X0.here hx rfl (hb hby at_7) rfl (l' := #[.val (.int p1), .val (.int p2), .val (.int p3), .val (.int p4), .val (.int (2 : Int32)), .val (.int c0_), .unset, .unset, .unset, .unset, .unset, .unset]) rfl ?_
    refine XS.iloadN X0.here hx rfl (hb hby at_9) rfl ?_
    refine XS.i2c X0.here hx rfl (hb hby at_10) rfl ?_
    show Steps p.tables e below (s₁.setTop (mkF m 11 #[.val (.int p1), .val (.int p2), .val (.int p3), .val (.int p4), .val (.int (2 : Int32)), .val (.int c0_), .unset, .unset, .unset, .unset, .unset, .unset] [(.int (p3.toUInt32.toUInt16.toUInt32.toInt32))])) _
    rw [he1]
    refine XS.istore X0.here hx rfl (hb hby at_11) rfl (l' := #[.val (.int p1), .val (.int p2), .val (.int p3), .val (.int p4), .val (.int (2 : Int32)), .val (.int c0_), .val (.int c1_), .unset, .unset, .unset, .unset, .unset]) rfl ?_
    show Steps p.tables e below (s₁.setTop (mkF m 13 #[.val (.int p1), .val (.int p2), .val (.int p3), .val (.int p4), .val (.int (2 : Int32)), .val (.int c0_), .val (.int c1_), .unset, .unset, .unset, .unset, .unset] [])) _
    refine XS.iloadN X0.here hx rfl (hb hby at_13) rfl ?_
    refine XS.i2c X0.here hx rfl (hb hby at_14) rfl ?_
    refine XS.istore X0.here hx rfl (hb hby at_15) rfl (l' := #[.val (.int p1), .val (.int p2), .val (.int p3), .val (.int p4), .val (.int (2 : Int32)), .val (.int c0_), .val (.int c1_), .val (.int (p4.toUInt32.toUInt16.toUInt32.toInt32)), .unset, .unset, .unset, .unset]) rfl ?_
    refine XS.iload X0.here hx rfl (hb hby at_17) rfl ?_
    show Steps p.tables e below (s₁.setTop (mkF m 19 #[.val (.int p1), .val (.int p2), .val (.int p3), .val (.int p4), .val (.int (2 : Int32)), .val (.int c0_), .val (.int c1_), .val (.int (p4.toUInt32.toUInt16.toUInt32.toInt32)), .unset, .unset, .unset, .unset] [(.int (2 : Int32))])) _
    refine st1 _ ?_
    show Steps p.tables e below (T1.setTop (mkF m 21 #[.val (.int p1), .val (.int p2), .val (.int p3), .val (.int p4), .val (.int (2 : Int32)), .val (.int c0_), .val (.int c1_), .val (.int (p4.toUInt32.toUInt16.toUInt32.toInt32)), .unset, .unset, .unset, .unset] [(.ref b1)])) _
    refine XS.astore X1.here hx rfl (hb hby at_21) rfl rfl (l' := #[.val (.int p1), .val (.int p2), .val (.int p3), .val (.int p4), .val (.int (2 : Int32)), .val (.int c0_), .val (.int c1_), .val (.int (p4.toUInt32.toUInt16.toUInt32.toInt32)), .val (.ref b1), .unset, .unset, .unset]) rfl ?_
    refine XS.iload X1.here hx rfl (hb hby at_23) rfl ?_
    refine XS.ifNo X1.here hx rfl (hb hby at_25) rfl ((if0 _ _).trans (tlt (by decide : (0 : Int32) < (2 : Int32))).2.2.2) ?_
    refine XS.aload X1.here hx rfl (hb hby at_28) rfl rfl ?_
    refine XS.iconst X1.here hx rfl (hb hby at_30) ?_
    refine XS.iload X1.here hx rfl (hb hby at_31) rfl ?_
    show Steps p.tables e below (T1.setTop (mkF m 33 #[.val (.int p1), .val (.int p2), .val (.int p3), .val (.int p4), .val (.int (2 : Int32)), .val (.int c0_), .val (.int c1_), .val (.int (p4.toUInt32.toUInt16.toUInt32.toInt32)), .val (.ref b1), .unset, .unset, .unset] [(.int c0_), (.int (0 : Int32)), (.ref b1)])) _
    refine st3 _ ?_
    show Steps p.tables e below (T3.setTop (mkF m 34 #[.val (.int p1), .val (.int p2), .val (.int p3), .val (.int p4), .val (.int (2 : Int32)), .val (.int c0_), .val (.int c1_), .val (.int (p4.toUInt32.toUInt16.toUInt32.toInt32)), .val (.ref b1), .unset, .unset, .unset] [])) _
    refine XS.iload X3.here hx rfl (hb hby at_34) rfl ?_
    refine XS.iconst X3.here hx rfl (hb hby at_36) ?_
    refine XS.icmpNo X3.here hx rfl (hb hby at_37) rfl (tlt (by decide : (1 : Int32) < (2 : Int32))).2.2.2 ?_
    refine XS.aload X3.here hx rfl (hb hby at_40) rfl rfl ?_
    refine XS.iconst X3.here hx rfl (hb hby at_42) ?_
    refine XS.iload X3.here hx rfl (hb hby at_43) rfl ?_
    show Steps p.tables e below (T3.setTop (mkF m 45 #[.val (.int p1), .val (.int p2), .val (.int p3), .val (.int p4), .val (.int (2 : Int32)), .val (.int c0_), .val (.int c1_), .val (.int (p4.toUInt32.toUInt16.toUInt32.toInt32)), .val (.ref b1), .unset, .unset, .unset] [(.int c1_), (.int (1 : Int32)), (.ref b1)])) _
    refine st6 _ ?_
    show Steps p.tables e below (T6.setTop (mkF m 46 #[.val (.int p1), .val (.int p2), .val (.int p3), .val (.int p4), .val (.int (2 : Int32)), .val (.int c0_), .val (.int c1_), .val (.int (p4.toUInt32.toUInt16.toUInt32.toInt32)), .val (.ref b1), .unset, .unset, .unset] [])) _
    refine XS.iload X6.here hx rfl (hb hby at_46) rfl ?_
    refine XS.iconst X6.here hx rfl (hb hby at_48) ?_
    refine XS.icmpYes X6.here hx rfl (pc0 := 49) (pc' := 58) rfl (hb hby at_49) rfl (flt (by decide : ¬ ((2 : Int32) < (2 : Int32)))).2.2.2 (by decide) (by decide) ?_
    show Steps p.tables e below (T6.setTop (mkF m 58 #[.val (.int p1), .val (.int p2), .val (.int p3), .val (.int p4), .val (.int (2 : Int32)), .val (.int c0_), .val (.int c1_), .val (.int (p4.toUInt32.toUInt16.toUInt32.toInt32)), .val (.ref b1), .unset, .unset, .unset] [])) _
    refine st8 _ ?_
    show Steps p.tables e below (T8.setTop (mkF m 61 #[.val (.int p1), .val (.int p2), .val (.int p3), .val (.int p4), .val (.int (2 : Int32)), .val (.int c0_), .val (.int c1_), .val (.int (p4.toUInt32.toUInt16.toUInt32.toInt32)), .val (.ref b1), .unset, .unset, .unset] [(.ref b8)])) _
    refine XS.dup X8.here hx rfl (hb hby at_61) rfl rfl ?_
    refine XS.aload X8.here hx rfl (hb hby at_62) rfl rfl ?_
    show Steps p.tables e below (T8.setTop (mkF m 64 #[.val (.int p1), .val (.int p2), .val (.int p3), .val (.int p4), .val (.int (2 : Int32)), .val (.int c0_), .val (.int c1_), .val (.int (p4.toUInt32.toUInt16.toUInt32.toInt32)), .val (.ref b1), .unset, .unset, .unset] [(.ref b1), (.ref b8), (.ref b8)])) _
    refine st11.trans ?_
    show Steps p.tables e below (T11.setTop (mkF m 67 #[.val (.int p1), .val (.int p2), .val (.int p3), .val (.int p4), .val (.int (2 : Int32)), .val (.int c0_), .val (.int c1_), .val (.int (p4.toUInt32.toUInt16.toUInt32.toInt32)), .val (.ref b1), .unset, .unset, .unset] [(.ref b8)])) _
    refine XS.astore X11.here hx rfl (hb hby at_67) rfl rfl (l' := #[.val (.int p1), .val (.int p2), .val (.int p3), .val (.int p4), .val (.int (2 : Int32)), .val (.int c0_), .val (.int c1_), .val (.int (p4.toUInt32.toUInt16.toUInt32.toInt32)), .val (.ref b1), .val (.ref b8), .unset, .unset]) rfl ?_
    refine XS.aload X11.here hx rfl (hb hby at_69) rfl rfl ?_
    show Steps p.tables e below (T11.setTop (mkF m 71 #[.val (.int p1), .val (.int p2), .val (.int p3), .val (.int p4), .val (.int (2 : Int32)), .val (.int c0_), .val (.int c1_), .val (.int (p4.toUInt32.toUInt16.toUInt32.toInt32)), .val (.ref b1), .val (.ref b8), .unset, .unset] [(.ref b8)])) _
    refine st14 _ ?_
    show Steps p.tables e below (T14.setTop (mkF m 74 #[.val (.int p1), .val (.int p2), .val (.int p3), .val (.int p4), .val (.int (2 : Int32)), .val (.int c0_), .val (.int c1_), .val (.int (p4.toUInt32.toUInt16.toUInt32.toInt32)), .val (.ref b1), .val (.ref b8), .unset, .unset] [(.ref t14)])) _
    refine XS.astore X14.here hx rfl (hb hby at_74) rfl rfl (l' := #[.val (.int p1), .val (.int p2), .val (.int p3), .val (.int p4), .val (.int (2 : Int32)), .val (.int c0_), .val (.int c1_), .val (.int (p4.toUInt32.toUInt16.toUInt32.toInt32)), .val (.ref b1), .val (.ref b8), .val (.ref t14), .unset]) rfl ?_
    refine XS.aload X14.here hx rfl (hb hby at_76) rfl rfl ?_
    show Steps p.tables e below (T14.setTop (mkF m 78 #[.val (.int p1), .val (.int p2), .val (.int p3), .val (.int p4), .val (.int (2 : Int32)), .val (.int c0_), .val (.int c1_), .val (.int (p4.toUInt32.toUInt16.toUInt32.toInt32)), .val (.ref b1), .val (.ref b8), .val (.ref t14), .unset] [(.ref t14)])) _
    refine st18.trans ?_
    show Steps p.tables e below (T18.setTop (mkF m 81 #[.val (.int p1), .val (.int p2), .val (.int p3), .val (.int p4), .val (.int (2 : Int32)), .val (.int c0_), .val (.int c1_), .val (.int (p4.toUInt32.toUInt16.toUInt32.toInt32)), .val (.ref b1), .val (.ref b8), .val (.ref t14), .unset] [(.int (2 : Int32))])) _
    refine XS.iload X18.here hx rfl (hb hby at_81) rfl ?_
    refine XS.icmpYes X18.here hx rfl (pc0 := 83) (pc' := 88) rfl (hb hby at_83) rfl (teq (by decide : (2 : Int32) = (2 : Int32))).1 (by decide) (by decide) ?_
    refine XS.iconst X18.here hx rfl (hb hby at_88) ?_
    refine XS.istore X18.here hx rfl (hb hby at_89) rfl (l' := #[.val (.int p1), .val (.int p2), .val (.int p3), .val (.int p4), .val (.int (2 : Int32)), .val (.int c0_), .val (.int c1_), .val (.int (p4.toUInt32.toUInt16.toUInt32.toInt32)), .val (.ref b1), .val (.ref b8), .val (.ref t14), .val (.int (0 : Int32))]) rfl ?_
    refine XS.iload X18.here hx rfl (hb hby at_91) rfl ?_
    refine XS.ifNo X18.here hx rfl (hb hby at_93) rfl ((if0 _ _).trans (tlt (by decide : (0 : Int32) < (2 : Int32))).2.2.2) ?_
    refine XS.aload X18.here hx rfl (hb hby at_96) rfl rfl ?_
    refine XS.iconst X18.here hx rfl (hb hby at_98) ?_
    show Steps p.tables e below (T18.setTop (mkF m 99 #[.val (.int p1), .val (.int p2), .val (.int p3), .val (.int p4), .val (.int (2 : Int32)), .val (.int c0_), .val (.int c1_), .val (.int (p4.toUInt32.toUInt16.toUInt32.toInt32)), .val (.ref b1), .val (.ref b8), .val (.ref t14), .val (.int (0 : Int32))] [(.int (0 : Int32)), (.ref t14)])) _
    refine st19.trans ?_
    show Steps p.tables e below (T19.setTop (mkF m 102 #[.val (.int p1), .val (.int p2), .val (.int p3), .val (.int p4), .val (.int (2 : Int32)), .val (.int c0_), .val (.int c1_), .val (.int (p4.toUInt32.toUInt16.toUInt32.toInt32)), .val (.ref b1), .val (.ref b8), .val (.ref t14), .val (.int (0 : Int32))] [(.int (own_exp c0_))])) _
    refine XS.iload X19.here hx rfl (hb hby at_102) rfl ?_
    show Steps p.tables e below (T19.setTop (mkF m 104 #[.val (.int p1), .val (.int p2), .val (.int p3), .val (.int p4), .val (.int (2 : Int32)), .val (.int c0_), .val (.int c1_), .val (.int (p4.toUInt32.toUInt16.toUInt32.toInt32)), .val (.ref b1), .val (.ref b8), .val (.ref t14), .val (.int (0 : Int32))] [(.int c0_), (.int (own_exp c0_))])) _
    refine st20 _ ?_
    show Steps p.tables e below (T20.setTop (mkF m 107 #[.val (.int p1), .val (.int p2), .val (.int p3), .val (.int p4), .val (.int (2 : Int32)), .val (.int c0_), .val (.int c1_), .val (.int (p4.toUInt32.toUInt16.toUInt32.toInt32)), .val (.ref b1), .val (.ref b8), .val (.ref t14), .val (.int (0 : Int32))] [(.int (own_exp c0_)), (.int (own_exp c0_))])) _
    refine XS.icmpYes X20.here hx rfl (pc0 := 107) (pc' := 112) rfl (hb hby at_107) rfl (teq (rfl : (own_exp c0_) = (own_exp c0_))).1 (by decide) (by decide) ?_
    refine XS.iload X20.here hx rfl (hb hby at_112) rfl ?_
    refine XS.ifNo X20.here hx rfl (hb hby at_114) rfl ((if0 _ _).trans (teq (by decide : (0 : Int32) = (0 : Int32))).2) ?_
    refine XS.iload X20.here hx rfl (hb hby at_117) rfl ?_
    show Steps p.tables e below (T20.setTop (mkF m 119 #[.val (.int p1), .val (.int p2), .val (.int p3), .val (.int p4), .val (.int (2 : Int32)), .val (.int c0_), .val (.int c1_), .val (.int (p4.toUInt32.toUInt16.toUInt32.toInt32)), .val (.ref b1), .val (.ref b8), .val (.ref t14), .val (.int (0 : Int32))] [(.int c0_)])) _
    refine st21 _ ?_
    show Steps p.tables e below (T21.setTop (mkF m 122 #[.val (.int p1), .val (.int p2), .val (.int p3), .val (.int p4), .val (.int (2 : Int32)), .val (.int c0_), .val (.int c1_), .val (.int (p4.toUInt32.toUInt16.toUInt32.toInt32)), .val (.ref b1), .val (.ref b8), .val (.ref t14), .val (.int (0 : Int32))] [(.int (1 : Int32))])) _
    refine XS.ifNo X21.here hx rfl (hb hby at_122) rfl ((if0 _ _).trans (feq (by decide : ¬ ((1 : Int32) = (0 : Int32)))).1) ?_
    refine XS.iconst X21.here hx rfl (hb hby at_125) ?_
    refine XS.goto X21.here hx rfl (pc0 := 126) (pc' := 130) rfl (hb hby at_126) (by decide) (by decide) ?_
    refine XS.istore X21.here hx rfl (hb hby at_130) rfl (l' := #[.val (.int p1), .val (.int p2), .val (.int p3), .val (.int p4), .val (.int (2 : Int32)), .val (.int c0_), .val (.int c1_), .val (.int (p4.toUInt32.toUInt16.toUInt32.toInt32)), .val (.ref b1), .val (.ref b8), .val (.ref t14), .val (.int (1 : Int32))]) rfl ?_
    refine XS.iload X21.here hx rfl (hb hby at_132) rfl ?_
    refine XS.iconst X21.here hx rfl (hb hby at_134) ?_
    refine XS.icmpNo X21.here hx rfl (hb hby at_135) rfl (tlt (by decide : (1 : Int32) < (2 : Int32))).2.2.2 ?_
    refine XS.aload X21.here hx rfl (hb hby at_138) rfl rfl ?_
    refine XS.iconst X21.here hx rfl (hb hby at_140) ?_
    show Steps p.tables e below (T21.setTop (mkF m 141 #[.val (.int p1), .val (.int p2), .val (.int p3), .val (.int p4), .val (.int (2 : Int32)), .val (.int c0_), .val (.int c1_), .val (.int (p4.toUInt32.toUInt16.toUInt32.toInt32)), .val (.ref b1), .val (.ref b8), .val (.ref t14), .val (.int (1 : Int32))] [(.int (1 : Int32)), (.ref t14)])) _
    refine st22.trans ?_
    show Steps p.tables e below (T22.setTop (mkF m 144 #[.val (.int p1), .val (.int p2), .val (.int p3), .val (.int p4), .val (.int (2 : Int32)), .val (.int c0_), .val (.int c1_), .val (.int (p4.toUInt32.toUInt16.toUInt32.toInt32)), .val (.ref b1), .val (.ref b8), .val (.ref t14), .val (.int (1 : Int32))] [(.int (own_exp c1_))])) _
    refine XS.iload X22.here hx rfl (hb hby at_144) rfl ?_
    show Steps p.tables e below (T22.setTop (mkF m 146 #[.val (.int p1), .val (.int p2), .val (.int p3), .val (.int p4), .val (.int (2 : Int32)), .val (.int c0_), .val (.int c1_), .val (.int (p4.toUInt32.toUInt16.toUInt32.toInt32)), .val (.ref b1), .val (.ref b8), .val (.ref t14), .val (.int (1 : Int32))] [(.int c1_), (.int (own_exp c1_))])) _
    refine st23 _ ?_
    show Steps p.tables e below (T23.setTop (mkF m 149 #[.val (.int p1), .val (.int p2), .val (.int p3), .val (.int p4), .val (.int (2 : Int32)), .val (.int c0_), .val (.int c1_), .val (.int (p4.toUInt32.toUInt16.toUInt32.toInt32)), .val (.ref b1), .val (.ref b8), .val (.ref t14), .val (.int (1 : Int32))] [(.int (own_exp c1_)), (.int (own_exp c1_))])) _
    refine XS.icmpYes X23.here hx rfl (pc0 := 149) (pc' := 154) rfl (hb hby at_149) rfl (teq (rfl : (own_exp c1_) = (own_exp c1_))).1 (by decide) (by decide) ?_
    refine XS.iload X23.here hx rfl (hb hby at_154) rfl ?_
    refine XS.ifYes X23.here hx rfl (pc0 := 156) (pc' := 167) rfl (hb hby at_156) rfl ((if0 _ _).trans (feq (by decide : ¬ ((1 : Int32) = (0 : Int32)))).2) (by decide) (by decide) ?_
    refine XS.iconst X23.here hx rfl (hb hby at_167) ?_
    refine XS.goto X23.here hx rfl (pc0 := 168) (pc' := 172) rfl (hb hby at_168) (by decide) (by decide) ?_
    refine XS.istore X23.here hx rfl (hb hby at_172) rfl (l' := #[.val (.int p1), .val (.int p2), .val (.int p3), .val (.int p4), .val (.int (2 : Int32)), .val (.int c0_), .val (.int c1_), .val (.int (p4.toUInt32.toUInt16.toUInt32.toInt32)), .val (.ref b1), .val (.ref b8), .val (.ref t14), .val (.int (1 : Int32))]) rfl ?_
    refine XS.iload X23.here hx rfl (hb hby at_174) rfl ?_
    refine XS.iconst X23.here hx rfl (hb hby at_176) ?_
    refine XS.icmpYes X23.here hx rfl (pc0 := 177) (pc' := 216) rfl (hb hby at_177) rfl (flt (by decide : ¬ ((2 : Int32) < (2 : Int32)))).2.2.2 (by decide) (by decide) ?_
    refine XS.iload X23.here hx rfl (hb hby at_216) rfl ?_
    show Steps p.tables e below (T23.setTop (mkF m 218 #[.val (.int p1), .val (.int p2), .val (.int p3), .val (.int p4), .val (.int (2 : Int32)), .val (.int c0_), .val (.int c1_), .val (.int (p4.toUInt32.toUInt16.toUInt32.toInt32)), .val (.ref b1), .val (.ref b8), .val (.ref t14), .val (.int (1 : Int32))] [(.int (1 : Int32))])) _
    refine XS.ifYes X23.here hx rfl (pc0 := 218) (pc' := 230) rfl (hb hby at_218) rfl ((if0 _ _).trans (feq (by decide : ¬ ((1 : Int32) = (0 : Int32)))).2) (by decide) (by decide) ?_
    refine XS.iconst X23.here hx rfl (hb hby at_230) ?_
    show Steps p.tables e below (T23.setTop (mkF m 231 #[.val (.int p1), .val (.int p2), .val (.int p3), .val (.int p4), .val (.int (2 : Int32)), .val (.int c0_), .val (.int c1_), .val (.int (p4.toUInt32.toUInt16.toUInt32.toInt32)), .val (.ref b1), .val (.ref b8), .val (.ref t14), .val (.int (1 : Int32))] [(.int (1 : Int32))])) _
    exact retN X23 hx (t := .boolean) Bd.returns (by simp) (hb hby at_231) hr
  · show own_Qk (some (.int (1 : Int32))) [] h0 n0 _ T23.heap _
    rw [e23]
    exact ⟨rfl, N23, K14⟩
theorem r_law2_1 (l : Launch) (Z : State) (a0 : Array Value) (hw : own_HW a0 Z) (ws : List Jvm.Cond) (cs1 : Int32) (fv : Value) (h0 : Heap) (n0 : Nat) (O0 : Old Z n0 h0) (G : own_Ctx Z Z.heap cs1 fv) (p1 p2 p3 p4 c0_ c1_ : Int32) (hl : p1 &&& (3 : Int32) = (2 : Int32)) (he0 : (p2.toUInt32.toUInt16.toUInt32.toInt32) = c0_) (hz0_ : ¬ (c0_ < (0 : Int32))) (hm0_ : ¬ ((65535 : Int32) < c0_)) (he1 : (p3.toUInt32.toUInt16.toUInt32.toInt32) = c1_) (hz1_ : ¬ (c1_ < (0 : Int32))) (hm1_ : ¬ ((65535 : Int32) < c1_)) (hq0_ : ¬ own_brk c0_) (hq1_ : own_brk c1_) :
    own_M l x (head1 (Jvm.Cond.code x code maxLocals ret :: ws) room_1) #[(.int p1), (.int p2), (.int p3), (.int p4)] Z h0 n0 (own_Qk (some (.int (1 : Int32))) []) 32 1216 := by
  have G0 := G
  obtain ⟨S_CS, N_CS, S_F, R_F, S_AD, S_HI, S_LO⟩ := G
  refine MetFree.of_bodySF (plainFor_of_name pn_5) hisR ?_
  intro p e s m args below meth c s₁ Bd hml0 hP hK
  obtain ⟨rfl, hZ, hh⟩ := hP
  have hx := Bd.exec
  have hby := Bd.bytes
  have hml : c.maxLocals = 12 := hml0
  have hown : s.vm.findClass "com/example/rubrique/rubrique/cli/OneLineOfPinLaw" = some m.cls := findClass_of_methodNamed Bd.named
  have hnm := (name_of_methodNamed Bd.named Bd.method).1
  have X0 : Stand p l e room_1 s m #[(.int p1), (.int p2), (.int p3), (.int p4)] below meth c s₁ [] 0 0 := Stand.of_body Bd
  have e0 : s₁.heap = h0 := by rw [← hh, Bd.state]; rfl
  have N0 := Fr.nil n0
  have pre0 := own_pre (tb := p.tables) (e := e) (below := below) (T := s₁) (ef_0_34 m p1 p2 p3 p4)
  obtain ⟨T1, h1, ka1, X1, e1, E1, A1, st1⟩ := newP X0 hx hZ (own_w hw 0 rfl) e0 (g := (mkF m 19 #[.val (.int p1), .val (.int p2), .val (.int p3), .val (.int p4), .val (.int (2 : Int32)), .val (.int c0_), .val (.int c1_), .val (.int (p4.toUInt32.toUInt16.toUInt32.toInt32)), .unset, .unset, .unset, .unset] [(.int (2 : Int32))])) rfl (hb hby at_19) rfl (by decide) (cap := 2) (by decide) (by decide) (by decide) (by decide)
  obtain ⟨b1, g1⟩ : ∃ z, z = h0.size := ⟨_, rfl⟩
  have g_b1 : n0 ≤ b1 := Nat.le_trans (O0.1 ▸ O0.2.1) (Nat.le_of_eq g1.symm)
  have sz_b1 : h0.size ≤ b1 := Nat.le_trans (Keep.refl h0 []).1 (Nat.le_of_eq g1.symm)
  rw [← g1] at A1 st1
  have O1 := O0.ext E1
  have K1 : Keep h0 h1 [] := (Keep.refl h0 []).ext E1
  have V1 : Arv Z h1 b1 ka1 .char (2 : Int32) [(.int (0 : Int32)), (.int (0 : Int32))] (.int (0 : Int32)) := (Arv.new A1 (by decide)).pad (pad_rep [] (.int (0 : Int32)) 2)
  have vc2 := V1
  obtain ⟨cl2, Ar2, qk2, S2, Nn2, Hs2, Gf2⟩ := vc2
  have hin2 : ¬ ((0 : Int32) < 0 ∨ cl2.slots.size ≤ ((0 : Int32)).toNatClampNeg) := inb_of S2 ⟨by decide, by decide⟩
  obtain ⟨T3, h3, X3, e3, W3, st3⟩ := stC X1 hx hZ e1 Ar2 (j := (0 : Int32)) hin2 (g := (mkF m 33 #[.val (.int p1), .val (.int p2), .val (.int p3), .val (.int p4), .val (.int (2 : Int32)), .val (.int c0_), .val (.int c1_), .val (.int (p4.toUInt32.toUInt16.toUInt32.toInt32)), .val (.ref b1), .unset, .unset, .unset] [(.int c0_), (.int (0 : Int32)), (.ref b1)])) rfl rfl (hb hby at_33)
  have O3 := O1.wr W3 g_b1
  have K3 : Keep h0 h3 [] := K1.wr W3 (Or.inr sz_b1)
  have N3 := Fr.snoc X3 N0 g_b1
  have f4 : Arv Z h3 b1 ka1 .char (2 : Int32) [(.int (nar .char c0_)), (.int (0 : Int32))] (.int (0 : Int32)) := Arv.set Ar2 qk2 S2 Nn2 Hs2 Gf2 (fits_nar_char _) W3 0 rfl (Nat.le_of_ble_eq_true rfl)
  have vc5 := f4
  obtain ⟨cl5, Ar5, qk5, S5, Nn5, Hs5, Gf5⟩ := vc5
  have hin5 : ¬ ((1 : Int32) < 0 ∨ cl5.slots.size ≤ ((1 : Int32)).toNatClampNeg) := inb_of S5 ⟨by decide, by decide⟩
  obtain ⟨T6, h6, X6, e6, W6, st6⟩ := stC X3 hx hZ e3 Ar5 (j := (1 : Int32)) hin5 (g := (mkF m 45 #[.val (.int p1), .val (.int p2), .val (.int p3), .val (.int p4), .val (.int (2 : Int32)), .val (.int c0_), .val (.int c1_), .val (.int (p4.toUInt32.toUInt16.toUInt32.toInt32)), .val (.ref b1), .unset, .unset, .unset] [(.int c1_), (.int (1 : Int32)), (.ref b1)])) rfl rfl (hb hby at_45)
  have O6 := O3.wr W6 g_b1
  have K6 : Keep h0 h6 [] := K3.wr W6 (Or.inr sz_b1)
  have N6 := Fr.snoc X6 N3 g_b1
  have f7 : Arv Z h6 b1 ka1 .char (2 : Int32) [(.int (nar .char c0_)), (.int (nar .char c1_))] (.int (0 : Int32)) := Arv.set Ar5 qk5 S5 Nn5 Hs5 Gf5 (fits_nar_char _) W6 1 rfl (Nat.le_of_ble_eq_true rfl)
  have hn_ : [c0_, c1_].length ≤ 4 := Nat.le_of_ble_eq_true rfl
  have hB_ : own_Bd [c0_, c1_] := own_all2 (P := fun z => ¬ (z < (0 : Int32)) ∧ ¬ ((65535 : Int32) < z)) ⟨hz0_, hm0_⟩ ⟨hz1_, hm1_⟩
  have h1_ : 1 ≤ [c0_, c1_].length := Nat.le_of_ble_eq_true rfl
  have V58 : Arv Z h6 b1 ka1 .char [c0_, c1_].length.toInt32 ([c0_, c1_].map Value.int) (.int (0 : Int32)) := by
    have q := f7
    rw [own_nc hz0_ hm0_, own_nc hz1_ hm1_] at q
    exact q
  obtain ⟨T8, h8, X8, e8, E8, A8, D8, -, st8⟩ := newO X6 hx hZ hown (own_w hw 1 rfl) (own_w hw 2 rfl) (own_w hw 3 rfl) e6 (g := (mkF m 58 #[.val (.int p1), .val (.int p2), .val (.int p3), .val (.int p4), .val (.int (2 : Int32)), .val (.int c0_), .val (.int c1_), .val (.int (p4.toUInt32.toUInt16.toUInt32.toInt32)), .val (.ref b1), .unset, .unset, .unset] [])) rfl (hb hby at_58) (by decide) (by decide)
  obtain ⟨b8, g8⟩ : ∃ z, z = h6.size := ⟨_, rfl⟩
  have ne_b1_b8 : b1 ≠ b8 := Nat.ne_of_lt (Nat.lt_of_lt_of_le V58.lt (Nat.le_of_eq g8.symm))
  have g_b8 : n0 ≤ b8 := Nat.le_trans (O6.1 ▸ O6.2.1) (Nat.le_of_eq g8.symm)
  have sz_b8 : h0.size ≤ b8 := Nat.le_trans K6.1 (Nat.le_of_eq g8.symm)
  rw [← g8] at A8 D8 st8
  have f9 := V58.ext E8
  have O8 := O6.ext E8
  have K8 : Keep h0 h8 [] := K6.ext E8
  have F8_16 : Fld Z h8 b8 "java/lang/String" "value" "[B" .null := D8 (Or.inr (own_w hw 16 rfl)) (ty := (.array .byte)) (by decide)
  have F8_17 : Fld Z h8 b8 "java/lang/String" "coder" "B" (.int (0 : Int32)) := D8 (Or.inr (own_w hw 17 rfl)) (ty := .byte) (by decide)
  obtain ⟨LL10, X10, N10⟩ : ∃ LL, Stand p l e room_1 s m #[(.int p1), (.int p2), (.int p3), (.int p4)] below meth c T8 LL 2 6 ∧ Fr n0 LL := ⟨_, X8, N6⟩
  obtain ⟨_, _, ⟨T11, L11, k11, n11⟩, -, X11, ⟨Lc11, hQ11, l11, y11, z11⟩, st11⟩ := X10.specialBack hx (y := Y15_) rfl hown (mvT hZ (own_w hw 4 rfl)) (mvT hZ (own_w hw 5 rfl)) (mvT hZ (own_w hw 6 rfl)) (by decide) (backOf (W := 1) (r_new l Z a0 hw [] cs1 fv h8 n0 O8 G0 b8 b1 ka1 [c0_, c1_] A8 g_b8 F8_17 F8_16 f9 ne_b1_b8 hn_ h1_ hB_) hZ (own_w hw 6 rfl) (own_w hw 3 rfl) (by decide) (by decide)) (g := (mkF m 64 #[.val (.int p1), .val (.int p2), .val (.int p3), .val (.int p4), .val (.int (2 : Int32)), .val (.int c0_), .val (.int c1_), .val (.int (p4.toUInt32.toUInt16.toUInt32.toInt32)), .val (.ref b1), .unset, .unset, .unset] [(.ref b1), (.ref b8), (.ref b8)])) rfl (by rw [hml]; rfl) (Steps.refl _) (a := b8) (argsL := [(.ref b1)]) (rest := [(.ref b8)]) (lenOf pd_24 rfl) rfl (by show 2 * 0 + _ ≤ _; exact Nat.le_of_eq rfl) (hb hby at_64) (fun _ _ => ⟨rfl, e8, (by decide : 2 + 2 ≤ _), (by decide : 6 + 12 ≤ _)⟩)
  dsimp only [Pt.U, Pt.locs, Pt.cells, Pt.slots] at X11 l11 y11 z11 st11 hQ11
  subst l11 y11 z11
  obtain ⟨rfl, N11q, Kq11, Sq11⟩ := hQ11
  have N11 := Fr.app N10 N11q
  have f12 := f9.keep Kq11 (fun q => (List.mem_cons.mp q).elim ne_b1_b8 (fun q => nomatch q))
  have f13 := A8.keep Kq11
  have O11 := O8.keep Kq11 (allS g_b8 all0)
  have K11 : Keep h0 T11.heap [] := K8.trans Kq11 (allS (Or.inr sz_b8) all0)
  obtain ⟨_, _, ⟨T14, L14, k14, n14⟩, -, X14, ⟨Lc14, hQ14, l14, y14, z14⟩, st14⟩ := Jvm.LawKit.callS X11 hx (y := Y31_) hown (mvT hZ (own_w hw 22 rfl)) (mvT hZ (own_w hw 23 rfl)) (mvT hZ (own_w hw 24 rfl)) (mvT hZ (own_w hw 25 rfl)) (by decide) (backOf (W := 0) (r_of l Z a0 hw [] cs1 fv T11.heap n0 O11 G0 b8 [c0_, c1_] Sq11 hn_ hB_) hZ (own_w hw 25 rfl) (own_w hw 24 rfl) (by decide) (by decide)) (g := (mkF m 71 #[.val (.int p1), .val (.int p2), .val (.int p3), .val (.int p4), .val (.int (2 : Int32)), .val (.int c0_), .val (.int c1_), .val (.int (p4.toUInt32.toUInt16.toUInt32.toInt32)), .val (.ref b1), .val (.ref b8), .unset, .unset] [(.ref b8)])) rfl (by rw [hml]; rfl) (argsL := [(.ref b8)]) (rest := []) (lenOf pd_25 rfl) rfl (by show 2 * 0 + _ ≤ _; exact Nat.le_of_eq rfl) (hb hby at_71) (fun _ _ => ⟨rfl, rfl, (by decide : 4 + 4 ≤ _), (by decide : 18 + 20 ≤ _)⟩)
  dsimp only [Pt.U, Pt.locs, Pt.cells, Pt.slots] at X14 l14 y14 z14 st14 hQ14
  subst l14 y14 z14
  obtain ⟨t14, rfl, N14q, Kq14, So14, hs14⟩ := hQ14
  have N14 := Fr.app N11 N14q
  have f15 := f12.keep Kq14 (fun q => nomatch q)
  have f16 := f13.keep Kq14
  have O14 := O11.keep Kq14 all0
  have K14 : Keep h0 T14.heap [] := K11.trans Kq14 all0
  have f17 := own_Str_keep Kq14 Sq11
  obtain ⟨cq18, kq18, q18a, q18b, q18c⟩ := isOf hZ rfl (own_Str_exa So14)
  obtain ⟨_, _, ⟨T18, L18, k18, n18⟩, -, X18, ⟨Lc18, hQ18, l18, y18, z18⟩, st18⟩ := X14.virtualBack hx (y := Y18_) (z := Y18_) hown (mvT hZ (own_w hw 37 rfl)) (mvT hZ (own_w hw 27 rfl)) (notFace_of_selects (args := #[]) (mvT hZ (own_w hw 29 rfl))) (mvT hZ (own_w hw 29 rfl)) (mvT hZ (own_w hw 28 rfl)) (by decide) (backOf (W := 0) (r_len l Z a0 hw [] cs1 fv T14.heap n0 O14 G0 t14 ([c0_, c1_].map own_exp) So14 (own_lenm hn_)) hZ (own_w hw 30 rfl) (own_w hw 3 rfl) (by decide) (by decide)) q18a q18c (g := (mkF m 78 #[.val (.int p1), .val (.int p2), .val (.int p3), .val (.int p4), .val (.int (2 : Int32)), .val (.int c0_), .val (.int c1_), .val (.int (p4.toUInt32.toUInt16.toUInt32.toInt32)), .val (.ref b1), .val (.ref b8), .val (.ref t14), .unset] [(.ref t14)])) rfl (by rw [hml]; rfl) (Steps.refl _) (argsL := []) (rest := []) (lenOf pd_21 rfl) rfl (by show 2 * 0 + _ ≤ _; exact Nat.le_of_eq rfl) (hb hby at_78) (fun _ _ => ⟨rfl, rfl, (by decide : 8 + 0 ≤ _), (by decide : 38 + 0 ≤ _)⟩)
  dsimp only [Pt.U, Pt.locs, Pt.cells, Pt.slots] at X18 l18 y18 z18 st18 hQ18
  subst l18 y18 z18
  obtain ⟨rfl, N18q, e18⟩ := hQ18
  have N18 := Fr.app N14 N18q
  obtain ⟨cq19, kq19, q19a, q19b, q19c⟩ := isOf hZ e18 (own_Str_exa So14)
  obtain ⟨_, _, ⟨T19, L19, k19, n19⟩, -, X19, ⟨Lc19, hQ19, l19, y19, z19⟩, st19⟩ := X18.virtualBack hx (y := Y19_) (z := Y19_) hown (mvT hZ (own_w hw 73 rfl)) (mvT hZ (own_w hw 49 rfl)) (notFace_of_selects (args := #[]) (mvT hZ (own_w hw 51 rfl))) (mvT hZ (own_w hw 51 rfl)) (mvT hZ (own_w hw 50 rfl)) (by decide) (backOf (W := 0) (r_ch l Z a0 hw [] cs1 fv T14.heap n0 O14 G0 t14 ([c0_, c1_].map own_exp) So14 0 (Nat.le_of_ble_eq_true rfl) (own_lenm hn_) (own_Bd_exp hB_)) hZ (own_w hw 52 rfl) (own_w hw 3 rfl) (by decide) (by decide)) q19a q19c (g := (mkF m 99 #[.val (.int p1), .val (.int p2), .val (.int p3), .val (.int p4), .val (.int (2 : Int32)), .val (.int c0_), .val (.int c1_), .val (.int (p4.toUInt32.toUInt16.toUInt32.toInt32)), .val (.ref b1), .val (.ref b8), .val (.ref t14), .val (.int (0 : Int32))] [(.int (0 : Int32)), (.ref t14)])) rfl (by rw [hml]; rfl) (Steps.refl _) (argsL := [(.int (0 : Int32))]) (rest := []) (lenOf pd_22 rfl) rfl (by show 2 * 0 + _ ≤ _; exact Nat.le_of_eq rfl) (hb hby at_99) (fun _ _ => ⟨rfl, e18, (by decide : 8 + 0 ≤ _), (by decide : 38 + 0 ≤ _)⟩)
  dsimp only [Pt.U, Pt.locs, Pt.cells, Pt.slots] at X19 l19 y19 z19 st19 hQ19
  subst l19 y19 z19
  obtain ⟨rfl, N19q, e19⟩ := hQ19
  have N19 := Fr.app N18 N19q
  obtain ⟨_, _, ⟨T20, L20, k20, n20⟩, -, X20, ⟨Lc20, hQ20, l20, y20, z20⟩, st20⟩ := Jvm.LawKit.callS X19 hx (y := Y30_) hown (mvT hZ (own_w hw 74 rfl)) (mvT hZ (own_w hw 75 rfl)) (mvT hZ (own_w hw 76 rfl)) (mvT hZ (own_w hw 77 rfl)) (by decide) (backOf (W := 1) (r_ex l Z a0 hw [] cs1 fv T14.heap n0 O14 G0 c0_ hz0_ hm0_) hZ (own_w hw 77 rfl) (own_w hw 76 rfl) (by decide) (by decide)) (g := (mkF m 104 #[.val (.int p1), .val (.int p2), .val (.int p3), .val (.int p4), .val (.int (2 : Int32)), .val (.int c0_), .val (.int c1_), .val (.int (p4.toUInt32.toUInt16.toUInt32.toInt32)), .val (.ref b1), .val (.ref b8), .val (.ref t14), .val (.int (0 : Int32))] [(.int c0_), (.int (own_exp c0_))])) rfl (by rw [hml]; rfl) (argsL := [(.int c0_)]) (rest := [(.int (own_exp c0_))]) (lenOf pd_26 rfl) rfl (by show 2 * 0 + _ ≤ _; exact Nat.le_of_eq rfl) (hb hby at_104) (fun _ _ => ⟨rfl, e19, (by decide : 8 + 0 ≤ _), (by decide : 38 + 0 ≤ _)⟩)
  dsimp only [Pt.U, Pt.locs, Pt.cells, Pt.slots] at X20 l20 y20 z20 st20 hQ20
  subst l20 y20 z20
  obtain ⟨rfl, N20q, e20⟩ := hQ20
  have N20 := Fr.app N19 N20q
  obtain ⟨_, _, ⟨T21, L21, k21, n21⟩, -, X21, ⟨Lc21, hQ21, l21, y21, z21⟩, st21⟩ := Jvm.LawKit.callS X20 hx (y := Y29_) hown (mvT hZ (own_w hw 78 rfl)) (mvT hZ (own_w hw 79 rfl)) (mvT hZ (own_w hw 76 rfl)) (mvT hZ (own_w hw 80 rfl)) (by decide) (backOf (W := 0) (r_ibF l Z a0 hw [] cs1 fv T14.heap n0 O14 G0 c0_ hq0_) hZ (own_w hw 80 rfl) (own_w hw 76 rfl) (by decide) (by decide)) (g := (mkF m 119 #[.val (.int p1), .val (.int p2), .val (.int p3), .val (.int p4), .val (.int (2 : Int32)), .val (.int c0_), .val (.int c1_), .val (.int (p4.toUInt32.toUInt16.toUInt32.toInt32)), .val (.ref b1), .val (.ref b8), .val (.ref t14), .val (.int (0 : Int32))] [(.int c0_)])) rfl (by rw [hml]; rfl) (argsL := [(.int c0_)]) (rest := []) (lenOf pd_20 rfl) rfl (by show 2 * 0 + _ ≤ _; exact Nat.le_of_eq rfl) (hb hby at_119) (fun _ _ => ⟨rfl, e20, (by decide : 8 + 0 ≤ _), (by decide : 38 + 0 ≤ _)⟩)
  dsimp only [Pt.U, Pt.locs, Pt.cells, Pt.slots] at X21 l21 y21 z21 st21 hQ21
  subst l21 y21 z21
  obtain ⟨rfl, N21q, e21⟩ := hQ21
  have N21 := Fr.app N20 N21q
  obtain ⟨cq22, kq22, q22a, q22b, q22c⟩ := isOf hZ e21 (own_Str_exa So14)
  obtain ⟨_, _, ⟨T22, L22, k22, n22⟩, -, X22, ⟨Lc22, hQ22, l22, y22, z22⟩, st22⟩ := X21.virtualBack hx (y := Y19_) (z := Y19_) hown (mvT hZ (own_w hw 73 rfl)) (mvT hZ (own_w hw 49 rfl)) (notFace_of_selects (args := #[]) (mvT hZ (own_w hw 51 rfl))) (mvT hZ (own_w hw 51 rfl)) (mvT hZ (own_w hw 50 rfl)) (by decide) (backOf (W := 0) (r_ch l Z a0 hw [] cs1 fv T14.heap n0 O14 G0 t14 ([c0_, c1_].map own_exp) So14 1 (Nat.le_of_ble_eq_true rfl) (own_lenm hn_) (own_Bd_exp hB_)) hZ (own_w hw 52 rfl) (own_w hw 3 rfl) (by decide) (by decide)) q22a q22c (g := (mkF m 141 #[.val (.int p1), .val (.int p2), .val (.int p3), .val (.int p4), .val (.int (2 : Int32)), .val (.int c0_), .val (.int c1_), .val (.int (p4.toUInt32.toUInt16.toUInt32.toInt32)), .val (.ref b1), .val (.ref b8), .val (.ref t14), .val (.int (0 : Int32))] [(.int (1 : Int32)), (.ref t14)])) rfl (by rw [hml]; rfl) (Steps.refl _) (argsL := [(.int (1 : Int32))]) (rest := []) (lenOf pd_22 rfl) rfl (by show 2 * 0 + _ ≤ _; exact Nat.le_of_eq rfl) (hb hby at_141) (fun _ _ => ⟨rfl, e21, (by decide : 8 + 0 ≤ _), (by decide : 38 + 0 ≤ _)⟩)
  dsimp only [Pt.U, Pt.locs, Pt.cells, Pt.slots] at X22 l22 y22 z22 st22 hQ22
  subst l22 y22 z22
  obtain ⟨rfl, N22q, e22⟩ := hQ22
  have N22 := Fr.app N21 N22q
  obtain ⟨_, _, ⟨T23, L23, k23, n23⟩, -, X23, ⟨Lc23, hQ23, l23, y23, z23⟩, st23⟩ := Jvm.LawKit.callS X22 hx (y := Y30_) hown (mvT hZ (own_w hw 74 rfl)) (mvT hZ (own_w hw 75 rfl)) (mvT hZ (own_w hw 76 rfl)) (mvT hZ (own_w hw 77 rfl)) (by decide) (backOf (W := 1) (r_ex l Z a0 hw [] cs1 fv T14.heap n0 O14 G0 c1_ hz1_ hm1_) hZ (own_w hw 77 rfl) (own_w hw 76 rfl) (by decide) (by decide)) (g := (mkF m 146 #[.val (.int p1), .val (.int p2), .val (.int p3), .val (.int p4), .val (.int (2 : Int32)), .val (.int c0_), .val (.int c1_), .val (.int (p4.toUInt32.toUInt16.toUInt32.toInt32)), .val (.ref b1), .val (.ref b8), .val (.ref t14), .val (.int (0 : Int32))] [(.int c1_), (.int (own_exp c1_))])) rfl (by rw [hml]; rfl) (argsL := [(.int c1_)]) (rest := [(.int (own_exp c1_))]) (lenOf pd_26 rfl) rfl (by show 2 * 0 + _ ≤ _; exact Nat.le_of_eq rfl) (hb hby at_146) (fun _ _ => ⟨rfl, e22, (by decide : 8 + 0 ≤ _), (by decide : 38 + 0 ≤ _)⟩)
  dsimp only [Pt.U, Pt.locs, Pt.cells, Pt.slots] at X23 l23 y23 z23 st23 hQ23
  subst l23 y23 z23
  obtain ⟨rfl, N23q, e23⟩ := hQ23
  have N23 := Fr.app N22 N23q
  obtain ⟨_, _, ⟨T24, L24, k24, n24⟩, -, X24, ⟨Lc24, hQ24, l24, y24, z24⟩, st24⟩ := Jvm.LawKit.callS X23 hx (y := Y29_) hown (mvT hZ (own_w hw 78 rfl)) (mvT hZ (own_w hw 79 rfl)) (mvT hZ (own_w hw 76 rfl)) (mvT hZ (own_w hw 80 rfl)) (by decide) (backOf (W := 0) (r_ibT l Z a0 hw [] cs1 fv T14.heap n0 O14 G0 c1_ hq1_) hZ (own_w hw 80 rfl) (own_w hw 76 rfl) (by decide) (by decide)) (g := (mkF m 161 #[.val (.int p1), .val (.int p2), .val (.int p3), .val (.int p4), .val (.int (2 : Int32)), .val (.int c0_), .val (.int c1_), .val (.int (p4.toUInt32.toUInt16.toUInt32.toInt32)), .val (.ref b1), .val (.ref b8), .val (.ref t14), .val (.int (0 : Int32))] [(.int c1_)])) rfl (by rw [hml]; rfl) (argsL := [(.int c1_)]) (rest := []) (lenOf pd_20 rfl) rfl (by show 2 * 0 + _ ≤ _; exact Nat.le_of_eq rfl) (hb hby at_161) (fun _ _ => ⟨rfl, e23, (by decide : 8 + 0 ≤ _), (by decide : 38 + 0 ≤ _)⟩)
  dsimp only [Pt.U, Pt.locs, Pt.cells, Pt.slots] at X24 l24 y24 z24 st24 hQ24
  subst l24 y24 z24
  obtain ⟨rfl, N24q, e24⟩ := hQ24
  have N24 := Fr.app N23 N24q
  obtain ⟨fs, hr, hrun, hended, hW, hsame⟩ := X24.leave (v := some (.int (1 : Int32))) (fun h => by rw [Bd.returns] at h; cases h)
  refine ⟨_, _, pre0 _ ?_, hrun, hended, _, _, rfl, ?_, ⟨_, rfl⟩, hW, hsame.mono (by decide) (by decide)⟩
  · show Steps p.tables e below (s₁.setTop (mkF m 0 #[.val (.int p1), .val (.int p2), .val (.int p3), .val (.int p4), .unset, .unset, .unset, .unset, .unset, .unset, .unset, .unset] [])) _
    refine XS.iloadN X0.here hx rfl (hb hby at_0) rfl ?_
    refine XS.iconst X0.here hx rfl (hb hby at_1) ?_
    refine XS.iand X0.here hx rfl (hb hby at_2) rfl ?_
    show Steps p.tables e below (s₁.setTop (mkF m 3 #[.val (.int p1), .val (.int p2), .val (.int p3), .val (.int p4), .unset, .unset, .unset, .unset, .unset, .unset, .unset, .unset] [(.int (p1 &&& (3 : Int32)))])) _
    rw [hl]
    refine XS.istore X0.here hx rfl (hb hby at_3) rfl (l' := #[.val (.int p1), .val (.int p2), .val (.int p3), .val (.int p4), .val (.int (2 : Int32)), .unset, .unset, .unset, .unset, .unset, .unset, .unset]) rfl ?_
    refine XS.iloadN X0.here hx rfl (hb hby at_5) rfl ?_
    refine XS.i2c X0.here hx rfl (hb hby at_6) rfl ?_
    show Steps p.tables e below (s₁.setTop (mkF m 7 #[.val (.int p1), .val (.int p2), .val (.int p3), .val (.int p4), .val (.int (2 : Int32)), .unset, .unset, .unset, .unset, .unset, .unset, .unset] [(.int (p2.toUInt32.toUInt16.toUInt32.toInt32))])) _
    rw [he0]
    refine XS.istore X0.here hx rfl (hb hby at_7) rfl (l' := #[.val (.int p1), .val (.int p2), .val (.int p3), .val (.int p4), .val (.int (2 : Int32)), .val (.int c0_), .unset, .unset, .unset, .unset, .unset, .unset]) rfl ?_
    refine XS.iloadN X0.here hx rfl (hb hby at_9) rfl ?_
    refine XS.i2c X0.here hx rfl (hb hby at_10) rfl ?_
    show Steps p.tables e below (s₁.setTop (mkF m 11 #[.val (.int p1), .val (.int p2), .val (.int p3), .val (.int p4), .val (.int (2 : Int32)), .val (.int c0_), .unset, .unset, .unset, .unset, .unset, .unset] [(.int (p3.toUInt32.toUInt16.toUInt32.toInt32))])) _
    rw [he1]
    refine XS.istore X0.here hx rfl (hb hby at_11) rfl (l' := #[.val (.int p1), .val (.int p2), .val (.int p3), .val (.int p4), .val (.int (2 : Int32)), .val (.int c0_), .val (.int c1_), .unset, .unset, .unset, .unset, .unset]) rfl ?_
    show Steps p.tables e below (s₁.setTop (mkF m 13 #[.val (.int p1), .val (.int p2), .val (.int p3), .val (.int p4), .val (.int (2 : Int32)), .val (.int c0_), .val (.int c1_), .unset, .unset, .unset, .unset, .unset] [])) _
    refine XS.iloadN X0.here hx rfl (hb hby at_13) rfl ?_
    refine XS.i2c X0.here hx rfl (hb hby at_14) rfl ?_
    refine XS.istore X0.here hx rfl (hb hby at_15) rfl (l' := #[.val (.int p1), .val (.int p2), .val (.int p3), .val (.int p4), .val (.int (2 : Int32)), .val (.int c0_), .val (.int c1_), .val (.int (p4.toUInt32.toUInt16.toUInt32.toInt32)), .unset, .unset, .unset, .unset]) rfl ?_
    refine XS.iload X0.here hx rfl (hb hby at_17) rfl ?_
    show Steps p.tables e below (s₁.setTop (mkF m 19 #[.val (.int p1), .val (.int p2), .val (.int p3), .val (.int p4), .val (.int (2 : Int32)), .val (.int c0_), .val (.int c1_), .val (.int (p4.toUInt32.toUInt16.toUInt32.toInt32)), .unset, .unset, .unset, .unset] [(.int (2 : Int32))])) _
    refine st1 _ ?_
    show Steps p.tables e below (T1.setTop (mkF m 21 #[.val (.int p1), .val (.int p2), .val (.int p3), .val (.int p4), .val (.int (2 : Int32)), .val (.int c0_), .val (.int c1_), .val (.int (p4.toUInt32.toUInt16.toUInt32.toInt32)), .unset, .unset, .unset, .unset] [(.ref b1)])) _
    refine XS.astore X1.here hx rfl (hb hby at_21) rfl rfl (l' := #[.val (.int p1), .val (.int p2), .val (.int p3), .val (.int p4), .val (.int (2 : Int32)), .val (.int c0_), .val (.int c1_), .val (.int (p4.toUInt32.toUInt16.toUInt32.toInt32)), .val (.ref b1), .unset, .unset, .unset]) rfl ?_
    refine XS.iload X1.here hx rfl (hb hby at_23) rfl ?_
    refine XS.ifNo X1.here hx rfl (hb hby at_25) rfl ((if0 _ _).trans (tlt (by decide : (0 : Int32) < (2 : Int32))).2.2.2) ?_
    refine XS.aload X1.here hx rfl (hb hby at_28) rfl rfl ?_
    refine XS.iconst X1.here hx rfl (hb hby at_30) ?_
    refine XS.iload X1.here hx rfl (hb hby at_31) rfl ?_
    show Steps p.tables e below (T1.setTop (mkF m 33 #[.val (.int p1), .val (.int p2), .val (.int p3), .val (.int p4), .val (.int (2 : Int32)), .val (.int c0_), .val (.int c1_), .val (.int (p4.toUInt32.toUInt16.toUInt32.toInt32)), .val (.ref b1), .unset, .unset, .unset] [(.int c0_), (.int (0 : Int32)), (.ref b1)])) _
    refine st3 _ ?_
    show Steps p.tables e below (T3.setTop (mkF m 34 #[.val (.int p1), .val (.int p2), .val (.int p3), .val (.int p4), .val (.int (2 : Int32)), .val (.int c0_), .val (.int c1_), .val (.int (p4.toUInt32.toUInt16.toUInt32.toInt32)), .val (.ref b1), .unset, .unset, .unset] [])) _
    refine XS.iload X3.here hx rfl (hb hby at_34) rfl ?_
    refine XS.iconst X3.here hx rfl (hb hby at_36) ?_
    refine XS.icmpNo X3.here hx rfl (hb hby at_37) rfl (tlt (by decide : (1 : Int32) < (2 : Int32))).2.2.2 ?_
    refine XS.aload X3.here hx rfl (hb hby at_40) rfl rfl ?_
    refine XS.iconst X3.here hx rfl (hb hby at_42) ?_
    refine XS.iload X3.here hx rfl (hb hby at_43) rfl ?_
    show Steps p.tables e below (T3.setTop (mkF m 45 #[.val (.int p1), .val (.int p2), .val (.int p3), .val (.int p4), .val (.int (2 : Int32)), .val (.int c0_), .val (.int c1_), .val (.int (p4.toUInt32.toUInt16.toUInt32.toInt32)), .val (.ref b1), .unset, .unset, .unset] [(.int c1_), (.int (1 : Int32)), (.ref b1)])) _
    refine st6 _ ?_
    show Steps p.tables e below (T6.setTop (mkF m 46 #[.val (.int p1), .val (.int p2), .val (.int p3), .val (.int p4), .val (.int (2 : Int32)), .val (.int c0_), .val (.int c1_), .val (.int (p4.toUInt32.toUInt16.toUInt32.toInt32)), .val (.ref b1), .unset, .unset, .unset] [])) _
    refine XS.iload X6.here hx rfl (hb hby at_46) rfl ?_
    refine XS.iconst X6.here hx rfl (hb hby at_48) ?_
    refine XS.icmpYes X6.here hx rfl (pc0 := 49) (pc' := 58) rfl (hb hby at_49) rfl (flt (by decide : ¬ ((2 : Int32) < (2 : Int32)))).2.2.2 (by decide) (by decide) ?_
    show Steps p.tables e below (T6.setTop (mkF m 58 #[.val (.int p1), .val (.int p2), .val (.int p3), .val (.int p4), .val (.int (2 : Int32)), .val (.int c0_), .val (.int c1_), .val (.int (p4.toUInt32.toUInt16.toUInt32.toInt32)), .val (.ref b1), .unset, .unset, .unset] [])) _
    refine st8 _ ?_
    show Steps p.tables e below (T8.setTop (mkF m 61 #[.val (.int p1), .val (.int p2), .val (.int p3), .val (.int p4), .val (.int (2 : Int32)), .val (.int c0_), .val (.int c1_), .val (.int (p4.toUInt32.toUInt16.toUInt32.toInt32)), .val (.ref b1), .unset, .unset, .unset] [(.ref b8)])) _
    refine XS.dup X8.here hx rfl (hb hby at_61) rfl rfl ?_
    refine XS.aload X8.here hx rfl (hb hby at_62) rfl rfl ?_
    show Steps p.tables e below (T8.setTop (mkF m 64 #[.val (.int p1), .val (.int p2), .val (.int p3), .val (.int p4), .val (.int (2 : Int32)), .val (.int c0_), .val (.int c1_), .val (.int (p4.toUInt32.toUInt16.toUInt32.toInt32)), .val (.ref b1), .unset, .unset, .unset] [(.ref b1), (.ref b8), (.ref b8)])) _
    refine st11.trans ?_
    show Steps p.tables e below (T11.setTop (mkF m 67 #[.val (.int p1), .val (.int p2), .val (.int p3), .val (.int p4), .val (.int (2 : Int32)), .val (.int c0_), .val (.int c1_), .val (.int (p4.toUInt32.toUInt16.toUInt32.toInt32)), .val (.ref b1), .unset, .unset, .unset] [(.ref b8)])) _
    refine XS.astore X11.here hx rfl (hb hby at_67) rfl rfl (l' := #[.val (.int p1), .val (.int p2), .val (.int p3), .val (.int p4), .val (.int (2 : Int32)), .val (.int c0_), .val (.int c1_), .val (.int (p4.toUInt32.toUInt16.toUInt32.toInt32)), .val (.ref b1), .val (.ref b8), .unset, .unset]) rfl ?_
    refine XS.aload X11.here hx rfl (hb hby at_69) rfl rfl ?_
    show Steps p.tables e below (T11.setTop (mkF m 71 #[.val (.int p1), .val (.int p2), .val (.int p3), .val (.int p4), .val (.int (2 : Int32)), .val (.int c0_), .val (.int c1_), .val (.int (p4.toUInt32.toUInt16.toUInt32.toInt32)), .val (.ref b1), .val (.ref b8), .unset, .unset] [(.ref b8)])) _
    refine st14 _ ?_
    show Steps p.tables e below (T14.setTop (mkF m 74 #[.val (.int p1), .val (.int p2), .val (.int p3), .val (.int p4), .val (.int (2 : Int32)), .val (.int c0_), .val (.int c1_), .val (.int (p4.toUInt32.toUInt16.toUInt32.toInt32)), .val (.ref b1), .val (.ref b8), .unset, .unset] [(.ref t14)])) _
    refine XS.astore X14.here hx rfl (hb hby at_74) rfl rfl (l' := #[.val (.int p1), .val (.int p2), .val (.int p3), .val (.int p4), .val (.int (2 : Int32)), .val (.int c0_), .val (.int c1_), .val (.int (p4.toUInt32.toUInt16.toUInt32.toInt32)), .val (.ref b1), .val (.ref b8), .val (.ref t14), .unset]) rfl ?_
    refine XS.aload X14.here hx rfl (hb hby at_76) rfl rfl ?_
    show Steps p.tables e below (T14.setTop (mkF m 78 #[.val (.int p1), .val (.int p2), .val (.int p3), .val (.int p4), .val (.int (2 : Int32)), .val (.int c0_), .val (.int c1_), .val (.int (p4.toUInt32.toUInt16.toUInt32.toInt32)), .val (.ref b1), .val (.ref b8), .val (.ref t14), .unset] [(.ref t14)])) _
    refine st18.trans ?_
    show Steps p.tables e below (T18.setTop (mkF m 81 #[.val (.int p1), .val (.int p2), .val (.int p3), .val (.int p4), .val (.int (2 : Int32)), .val (.int c0_), .val (.int c1_), .val (.int (p4.toUInt32.toUInt16.toUInt32.toInt32)), .val (.ref b1), .val (.ref b8), .val (.ref t14), .unset] [(.int (2 : Int32))])) _
    refine XS.iload X18.here hx rfl (hb hby at_81) rfl ?_
    refine XS.icmpYes X18.here hx rfl (pc0 := 83) (pc' := 88) rfl (hb hby at_83) rfl (teq (by decide : (2 : Int32) = (2 : Int32))).1 (by decide) (by decide) ?_
    refine XS.iconst X18.here hx rfl (hb hby at_88) ?_
    refine XS.istore X18.here hx rfl (hb hby at_89) rfl (l' := #[.val (.int p1), .val (.int p2), .val (.int p3), .val (.int p4), .val (.int (2 : Int32)), .val (.int c0_), .val (.int c1_), .val (.int (p4.toUInt32.toUInt16.toUInt32.toInt32)), .val (.ref b1), .val (.ref b8), .val (.ref t14), .val (.int (0 : Int32))]) rfl ?_
    refine XS.iload X18.here hx rfl (hb hby at_91) rfl ?_
    refine XS.ifNo X18.here hx rfl (hb hby at_93) rfl ((if0 _ _).trans (tlt (by decide : (0 : Int32) < (2 : Int32))).2.2.2) ?_
    refine XS.aload X18.here hx rfl (hb hby at_96) rfl rfl ?_
    refine XS.iconst X18.here hx rfl (hb hby at_98) ?_
    show Steps p.tables e below (T18.setTop (mkF m 99 #[.val (.int p1), .val (.int p2), .val (.int p3), .val (.int p4), .val (.int (2 : Int32)), .val (.int c0_), .val (.int c1_), .val (.int (p4.toUInt32.toUInt16.toUInt32.toInt32)), .val (.ref b1), .val (.ref b8), .val (.ref t14), .val (.int (0 : Int32))] [(.int (0 : Int32)), (.ref t14)])) _
    refine st19.trans ?_
    show Steps p.tables e below (T19.setTop (mkF m 102 #[.val (.int p1), .val (.int p2), .val (.int p3), .val (.int p4), .val (.int (2 : Int32)), .val (.int c0_), .val (.int c1_), .val (.int (p4.toUInt32.toUInt16.toUInt32.toInt32)), .val (.ref b1), .val (.ref b8), .val (.ref t14), .val (.int (0 : Int32))] [(.int (own_exp c0_))])) _
    refine XS.iload X19.here hx rfl (hb hby at_102) rfl ?_
    show Steps p.tables e below (T19.setTop (mkF m 104 #[.val (.int p1), .val (.int p2), .val (.int p3), .val (.int p4), .val (.int (2 : Int32)), .val (.int c0_), .val (.int c1_), .val (.int (p4.toUInt32.toUInt16.toUInt32.toInt32)), .val (.ref b1), .val (.ref b8), .val (.ref t14), .val (.int (0 : Int32))] [(.int c0_), (.int (own_exp c0_))])) _
    refine st20 _ ?_
    show Steps p.tables e below (T20.setTop (mkF m 107 #[.val (.int p1), .val (.int p2), .val (.int p3), .val (.int p4), .val (.int (2 : Int32)), .val (.int c0_), .val (.int c1_), .val (.int (p4.toUInt32.toUInt16.toUInt32.toInt32)), .val (.ref b1), .val (.ref b8), .val (.ref t14), .val (.int (0 : Int32))] [(.int (own_exp c0_)), (.int (own_exp c0_))])) _
    refine XS.icmpYes X20.here hx rfl (pc0 := 107) (pc' := 112) rfl (hb hby at_107) rfl (teq (rfl : (own_exp c0_) = (own_exp c0_))).1 (by decide) (by decide) ?_
    refine XS.iload X20.here hx rfl (hb hby at_112) rfl ?_
    refine XS.ifNo X20.here hx rfl (hb hby at_114) rfl ((if0 _ _).trans (teq (by decide : (0 : Int32) = (0 : Int32))).2) ?_
    refine XS.iload X20.here hx rfl (hb hby at_117) rfl ?_
    show Steps p.tables e below (T20.setTop (mkF m 119 #[.val (.int p1), .val (.int p2), .val (.int p3), .val (.int p4), .val (.int (2 : Int32)), .val (.int c0_), .val (.int c1_), .val (.int (p4.toUInt32.toUInt16.toUInt32.toInt32)), .val (.ref b1), .val (.ref b8), .val (.ref t14), .val (.int (0 : Int32))] [(.int c0_)])) _
    refine st21 _ ?_
    show Steps p.tables e below (T21.setTop (mkF m 122 #[.val (.int p1), .val (.int p2), .val (.int p3), .val (.int p4), .val (.int (2 : Int32)), .val (.int c0_), .val (.int c1_), .val (.int (p4.toUInt32.toUInt16.toUInt32.toInt32)), .val (.ref b1), .val (.ref b8), .val (.ref t14), .val (.int (0 : Int32))] [(.int (0 : Int32))])) _
    refine XS.ifYes X21.here hx rfl (pc0 := 122) (pc' := 129) rfl (hb hby at_122) rfl ((if0 _ _).trans (teq (by decide : (0 : Int32) = (0 : Int32))).1) (by decide) (by decide) ?_
    refine XS.iconst X21.here hx rfl (hb hby at_129) ?_
    refine XS.istore X21.here hx rfl (hb hby at_130) rfl (l' := #[.val (.int p1), .val (.int p2), .val (.int p3), .val (.int p4), .val (.int (2 : Int32)), .val (.int c0_), .val (.int c1_), .val (.int (p4.toUInt32.toUInt16.toUInt32.toInt32)), .val (.ref b1), .val (.ref b8), .val (.ref t14), .val (.int (0 : Int32))]) rfl ?_
    refine XS.iload X21.here hx rfl (hb hby at_132) rfl ?_
    refine XS.iconst X21.here hx rfl (hb hby at_134) ?_
    refine XS.icmpNo X21.here hx rfl (hb hby at_135) rfl (tlt (by decide : (1 : Int32) < (2 : Int32))).2.2.2 ?_
    refine XS.aload X21.here hx rfl (hb hby at_138) rfl rfl ?_
    refine XS.iconst X21.here hx rfl (hb hby at_140) ?_
    show Steps p.tables e below (T21.setTop (mkF m 141 #[.val (.int p1), .val (.int p2), .val (.int p3), .val (.int p4), .val (.int (2 : Int32)), .val (.int c0_), .val (.int c1_), .val (.int (p4.toUInt32.toUInt16.toUInt32.toInt32)), .val (.ref b1), .val (.ref b8), .val (.ref t14), .val (.int (0 : Int32))] [(.int (1 : Int32)), (.ref t14)])) _
    refine st22.trans ?_
    show Steps p.tables e below (T22.setTop (mkF m 144 #[.val (.int p1), .val (.int p2), .val (.int p3), .val (.int p4), .val (.int (2 : Int32)), .val (.int c0_), .val (.int c1_), .val (.int (p4.toUInt32.toUInt16.toUInt32.toInt32)), .val (.ref b1), .val (.ref b8), .val (.ref t14), .val (.int (0 : Int32))] [(.int (own_exp c1_))])) _
    refine XS.iload X22.here hx rfl (hb hby at_144) rfl ?_
    show Steps p.tables e below (T22.setTop (mkF m 146 #[.val (.int p1), .val (.int p2), .val (.int p3), .val (.int p4), .val (.int (2 : Int32)), .val (.int c0_), .val (.int c1_), .val (.int (p4.toUInt32.toUInt16.toUInt32.toInt32)), .val (.ref b1), .val (.ref b8), .val (.ref t14), .val (.int (0 : Int32))] [(.int c1_), (.int (own_exp c1_))])) _
    refine st23 _ ?_
    show Steps p.tables e below (T23.setTop (mkF m 149 #[.val (.int p1), .val (.int p2), .val (.int p3), .val (.int p4), .val (.int (2 : Int32)), .val (.int c0_), .val (.int c1_), .val (.int (p4.toUInt32.toUInt16.toUInt32.toInt32)), .val (.ref b1), .val (.ref b8), .val (.ref t14), .val (.int (0 : Int32))] [(.int (own_exp c1_)), (.int (own_exp c1_))])) _
    refine XS.icmpYes X23.here hx rfl (pc0 := 149) (pc' := 154) rfl (hb hby at_149) rfl (teq (rfl : (own_exp c1_) = (own_exp c1_))).1 (by decide) (by decide) ?_
    refine XS.iload X23.here hx rfl (hb hby at_154) rfl ?_
    refine XS.ifNo X23.here hx rfl (hb hby at_156) rfl ((if0 _ _).trans (teq (by decide : (0 : Int32) = (0 : Int32))).2) ?_
    refine XS.iload X23.here hx rfl (hb hby at_159) rfl ?_
    show Steps p.tables e below (T23.setTop (mkF m 161 #[.val (.int p1), .val (.int p2), .val (.int p3), .val (.int p4), .val (.int (2 : Int32)), .val (.int c0_), .val (.int c1_), .val (.int (p4.toUInt32.toUInt16.toUInt32.toInt32)), .val (.ref b1), .val (.ref b8), .val (.ref t14), .val (.int (0 : Int32))] [(.int c1_)])) _
    refine st24 _ ?_
    show Steps p.tables e below (T24.setTop (mkF m 164 #[.val (.int p1), .val (.int p2), .val (.int p3), .val (.int p4), .val (.int (2 : Int32)), .val (.int c0_), .val (.int c1_), .val (.int (p4.toUInt32.toUInt16.toUInt32.toInt32)), .val (.ref b1), .val (.ref b8), .val (.ref t14), .val (.int (0 : Int32))] [(.int (1 : Int32))])) _
    refine XS.ifNo X24.here hx rfl (hb hby at_164) rfl ((if0 _ _).trans (feq (by decide : ¬ ((1 : Int32) = (0 : Int32)))).1) ?_
    refine XS.iconst X24.here hx rfl (hb hby at_167) ?_
    refine XS.goto X24.here hx rfl (pc0 := 168) (pc' := 172) rfl (hb hby at_168) (by decide) (by decide) ?_
    refine XS.istore X24.here hx rfl (hb hby at_172) rfl (l' := #[.val (.int p1), .val (.int p2), .val (.int p3), .val (.int p4), .val (.int (2 : Int32)), .val (.int c0_), .val (.int c1_), .val (.int (p4.toUInt32.toUInt16.toUInt32.toInt32)), .val (.ref b1), .val (.ref b8), .val (.ref t14), .val (.int (1 : Int32))]) rfl ?_
    refine XS.iload X24.here hx rfl (hb hby at_174) rfl ?_
    refine XS.iconst X24.here hx rfl (hb hby at_176) ?_
    refine XS.icmpYes X24.here hx rfl (pc0 := 177) (pc' := 216) rfl (hb hby at_177) rfl (flt (by decide : ¬ ((2 : Int32) < (2 : Int32)))).2.2.2 (by decide) (by decide) ?_
    refine XS.iload X24.here hx rfl (hb hby at_216) rfl ?_
    refine XS.ifYes X24.here hx rfl (pc0 := 218) (pc' := 230) rfl (hb hby at_218) rfl ((if0 _ _).trans (feq (by decide : ¬ ((1 : Int32) = (0 : Int32)))).2) (by decide) (by decide) ?_
    refine XS.iconst X24.here hx rfl (hb hby at_230) ?_
    show Steps p.tables e below (T24.setTop (mkF m 231 #[.val (.int p1), .val (.int p2), .val (.int p3), .val (.int p4), .val (.int (2 : Int32)), .val (.int c0_), .val (.int c1_), .val (.int (p4.toUInt32.toUInt16.toUInt32.toInt32)), .val (.ref b1), .val (.ref b8), .val (.ref t14), .val (.int (1 : Int32))] [(.int (1 : Int32))])) _
    exact retN X24 hx (t := .boolean) Bd.returns (by simp) (hb hby at_231) hr
  · show own_Qk (some (.int (1 : Int32))) [] h0 n0 _ T24.heap _
    rw [e24]
    exact ⟨rfl, N24, K14⟩
theorem r_law2_2 (l : Launch) (Z : State) (a0 : Array Value) (hw : own_HW a0 Z) (ws : List Jvm.Cond) (cs1 : Int32) (fv : Value) (h0 : Heap) (n0 : Nat) (O0 : Old Z n0 h0) (G : own_Ctx Z Z.heap cs1 fv) (p1 p2 p3 p4 c0_ c1_ : Int32) (hl : p1 &&& (3 : Int32) = (2 : Int32)) (he0 : (p2.toUInt32.toUInt16.toUInt32.toInt32) = c0_) (hz0_ : ¬ (c0_ < (0 : Int32))) (hm0_ : ¬ ((65535 : Int32) < c0_)) (he1 : (p3.toUInt32.toUInt16.toUInt32.toInt32) = c1_) (hz1_ : ¬ (c1_ < (0 : Int32))) (hm1_ : ¬ ((65535 : Int32) < c1_)) (hq0_ : ¬ own_brk c0_) (hq1_ : ¬ own_brk c1_) :
    own_M l x (head1 (Jvm.Cond.code x code maxLocals ret :: ws) room_1) #[(.int p1), (.int p2), (.int p3), (.int p4)] Z h0 n0 (own_Qk (some (.int (1 : Int32))) []) 32 1216 := by
  have G0 := G
  obtain ⟨S_CS, N_CS, S_F, R_F, S_AD, S_HI, S_LO⟩ := G
  refine MetFree.of_bodySF (plainFor_of_name pn_5) hisR ?_
  intro p e s m args below meth c s₁ Bd hml0 hP hK
  obtain ⟨rfl, hZ, hh⟩ := hP
  have hx := Bd.exec
  have hby := Bd.bytes
  have hml : c.maxLocals = 12 := hml0
  have hown : s.vm.findClass "com/example/rubrique/rubrique/cli/OneLineOfPinLaw" = some m.cls := findClass_of_methodNamed Bd.named
  have hnm := (name_of_methodNamed Bd.named Bd.method).1
  have X0 : Stand p l e room_1 s m #[(.int p1), (.int p2), (.int p3), (.int p4)] below meth c s₁ [] 0 0 := Stand.of_body Bd
  have e0 : s₁.heap = h0 := by rw [← hh, Bd.state]; rfl
  have N0 := Fr.nil n0
  have pre0 := own_pre (tb := p.tables) (e := e) (below := below) (T := s₁) (ef_0_34 m p1 p2 p3 p4)
  obtain ⟨T1, h1, ka1, X1, e1, E1, A1, st1⟩ := newP X0 hx hZ (own_w hw 0 rfl) e0 (g := (mkF m 19 #[.val (.int p1), .val (.int p2), .val (.int p3), .val (.int p4), .val (.int (2 : Int32)), .val (.int c0_), .val (.int c1_), .val (.int (p4.toUInt32.toUInt16.toUInt32.toInt32)), .unset, .unset, .unset, .unset] [(.int (2 : Int32))])) rfl (hb hby at_19) rfl (by decide) (cap := 2) (by decide) (by decide) (by decide) (by decide)
  obtain ⟨b1, g1⟩ : ∃ z, z = h0.size := ⟨_, rfl⟩
  have g_b1 : n0 ≤ b1 := Nat.le_trans (O0.1 ▸ O0.2.1) (Nat.le_of_eq g1.symm)
  have sz_b1 : h0.size ≤ b1 := Nat.le_trans (Keep.refl h0 []).1 (Nat.le_of_eq g1.symm)
  rw [← g1] at A1 st1
  have O1 := O0.ext E1
  have K1 : Keep h0 h1 [] := (Keep.refl h0 []).ext E1
  have V1 : Arv Z h1 b1 ka1 .char (2 : Int32) [(.int (0 : Int32)), (.int (0 : Int32))] (.int (0 : Int32)) := (Arv.new A1 (by decide)).pad (pad_rep [] (.int (0 : Int32)) 2)
  have vc2 := V1
  obtain ⟨cl2, Ar2, qk2, S2, Nn2, Hs2, Gf2⟩ := vc2
  have hin2 : ¬ ((0 : Int32) < 0 ∨ cl2.slots.size ≤ ((0 : Int32)).toNatClampNeg) := inb_of S2 ⟨by decide, by decide⟩
  obtain ⟨T3, h3, X3, e3, W3, st3⟩ := stC X1 hx hZ e1 Ar2 (j := (0 : Int32)) hin2 (g := (mkF m 33 #[.val (.int p1), .val (.int p2), .val (.int p3), .val (.int p4), .val (.int (2 : Int32)), .val (.int c0_), .val (.int c1_), .val (.int (p4.toUInt32.toUInt16.toUInt32.toInt32)), .val (.ref b1), .unset, .unset, .unset] [(.int c0_), (.int (0 : Int32)), (.ref b1)])) rfl rfl (hb hby at_33)
  have O3 := O1.wr W3 g_b1
  have K3 : Keep h0 h3 [] := K1.wr W3 (Or.inr sz_b1)
  have N3 := Fr.snoc X3 N0 g_b1
  have f4 : Arv Z h3 b1 ka1 .char (2 : Int32) [(.int (nar .char c0_)), (.int (0 : Int32))] (.int (0 : Int32)) := Arv.set Ar2 qk2 S2 Nn2 Hs2 Gf2 (fits_nar_char _) W3 0 rfl (Nat.le_of_ble_eq_true rfl)
  have vc5 := f4
  obtain ⟨cl5, Ar5, qk5, S5, Nn5, Hs5, Gf5⟩ := vc5
  have hin5 : ¬ ((1 : Int32) < 0 ∨ cl5.slots.size ≤ ((1 : Int32)).toNatClampNeg) := inb_of S5 ⟨by decide, by decide⟩
  obtain ⟨T6, h6, X6, e6, W6, st6⟩ := stC X3 hx hZ e3 Ar5 (j := (1 : Int32)) hin5 (g := (mkF m 45 #[.val (.int p1), .val (.int p2), .val (.int p3), .val (.int p4), .val (.int (2 : Int32)), .val (.int c0_), .val (.int c1_), .val (.int (p4.toUInt32.toUInt16.toUInt32.toInt32)), .val (.ref b1), .unset, .unset, .unset] [(.int c1_), (.int (1 : Int32)), (.ref b1)])) rfl rfl (hb hby at_45)
  have O6 := O3.wr W6 g_b1
  have K6 : Keep h0 h6 [] := K3.wr W6 (Or.inr sz_b1)
  have N6 := Fr.snoc X6 N3 g_b1
  have f7 : Arv Z h6 b1 ka1 .char (2 : Int32) [(.int (nar .char c0_)), (.int (nar .char c1_))] (.int (0 : Int32)) := Arv.set Ar5 qk5 S5 Nn5 Hs5 Gf5 (fits_nar_char _) W6 1 rfl (Nat.le_of_ble_eq_true rfl)
  have hn_ : [c0_, c1_].length ≤ 4 := Nat.le_of_ble_eq_true rfl
  have hB_ : own_Bd [c0_, c1_] := own_all2 (P := fun z => ¬ (z < (0 : Int32)) ∧ ¬ ((65535 : Int32) < z)) ⟨hz0_, hm0_⟩ ⟨hz1_, hm1_⟩
  have h1_ : 1 ≤ [c0_, c1_].length := Nat.le_of_ble_eq_true rfl
  have V58 : Arv Z h6 b1 ka1 .char [c0_, c1_].length.toInt32 ([c0_, c1_].map Value.int) (.int (0 : Int32)) := by
    have q := f7
    rw [own_nc hz0_ hm0_, own_nc hz1_ hm1_] at q
    exact q
  obtain ⟨T8, h8, X8, e8, E8, A8, D8, -, st8⟩ := newO X6 hx hZ hown (own_w hw 1 rfl) (own_w hw 2 rfl) (own_w hw 3 rfl) e6 (g := (mkF m 58 #[.val (.int p1), .val (.int p2), .val (.int p3), .val (.int p4), .val (.int (2 : Int32)), .val (.int c0_), .val (.int c1_), .val (.int (p4.toUInt32.toUInt16.toUInt32.toInt32)), .val (.ref b1), .unset, .unset, .unset] [])) rfl (hb hby at_58) (by decide) (by decide)
  obtain ⟨b8, g8⟩ : ∃ z, z = h6.size := ⟨_, rfl⟩
  have ne_b1_b8 : b1 ≠ b8 := Nat.ne_of_lt (Nat.lt_of_lt_of_le V58.lt (Nat.le_of_eq g8.symm))
  have g_b8 : n0 ≤ b8 := Nat.le_trans (O6.1 ▸ O6.2.1) (Nat.le_of_eq g8.symm)
  have sz_b8 : h0.size ≤ b8 := Nat.le_trans K6.1 (Nat.le_of_eq g8.symm)
  rw [← g8] at A8 D8 st8
  have f9 := V58.ext E8
  have O8 := O6.ext E8
  have K8 : Keep h0 h8 [] := K6.ext E8
  have F8_16 : Fld Z h8 b8 "java/lang/String" "value" "[B" .null := D8 (Or.inr (own_w hw 16 rfl)) (ty := (.array .byte)) (by decide)
  have F8_17 : Fld Z h8 b8 "java/lang/String" "coder" "B" (.int (0 : Int32)) := D8 (Or.inr (own_w hw 17 rfl)) (ty := .byte) (by decide)
  obtain ⟨LL10, X10, N10⟩ : ∃ LL, Stand p l e room_1 s m #[(.int p1), (.int p2), (.int p3), (.int p4)] below meth c T8 LL 2 6 ∧ Fr n0 LL := ⟨_, X8, N6⟩
  obtain ⟨_, _, ⟨T11, L11, k11, n11⟩, -, X11, ⟨Lc11, hQ11, l11, y11, z11⟩, st11⟩ := X10.specialBack hx (y := Y15_) rfl hown (mvT hZ (own_w hw 4 rfl)) (mvT hZ (own_w hw 5 rfl)) (mvT hZ (own_w hw 6 rfl)) (by decide) (backOf (W := 1) (r_new l Z a0 hw [] cs1 fv h8 n0 O8 G0 b8 b1 ka1 [c0_, c1_] A8 g_b8 F8_17 F8_16 f9 ne_b1_b8 hn_ h1_ hB_) hZ (own_w hw 6 rfl) (own_w hw 3 rfl) (by decide) (by decide)) (g := (mkF m 64 #[.val (.int p1), .val (.int p2), .val (.int p3), .val (.int p4), .val (.int (2 : Int32)), .val (.int c0_), .val (.int c1_), .val (.int (p4.toUInt32.toUInt16.toUInt32.toInt32)), .val (.ref b1), .unset, .unset, .unset] [(.ref b1), (.ref b8), (.ref b8)])) rfl (by rw [hml]; rfl) (Steps.refl _) (a := b8) (argsL := [(.ref b1)]) (rest := [(.ref b8)]) (lenOf pd_24 rfl) rfl (by show 2 * 0 + _ ≤ _; exact Nat.le_of_eq rfl) (hb hby at_64) (fun _ _ => ⟨rfl, e8, (by decide : 2 + 2 ≤ _), (by decide : 6 + 12 ≤ _)⟩)
  dsimp only [Pt.U, Pt.locs, Pt.cells, Pt.slots] at X11 l11 y11 z11 st11 hQ11
  subst l11 y11 z11
  obtain ⟨rfl, N11q, Kq11, Sq11⟩ := hQ11
  have N11 := Fr.app N10 N11q
  have f12 := f9.keep Kq11 (fun q => (List.mem_cons.mp q).elim ne_b1_b8 (fun q => nomatch q))
  have f13 := A8.keep Kq11
  have O11 := O8.keep Kq11 (allS g_b8 all0)
  have K11 : Keep h0 T11.heap [] := K8.trans Kq11 (allS (Or.inr sz_b8) all0)
  obtain ⟨_, _, ⟨T14, L14, k14, n14⟩, -, X14, ⟨Lc14, hQ14, l14, y14, z14⟩, st14⟩ := Jvm.LawKit.callS X11 hx (y := Y31_) hown (mvT hZ (own_w hw 22 rfl)) (mvT hZ (own_w hw 23 rfl)) (mvT hZ (own_w hw 24 rfl)) (mvT hZ (own_w hw 25 rfl)) (by decide) (backOf (W := 0) (r_of l Z a0 hw [] cs1 fv T11.heap n0 O11 G0 b8 [c0_, c1_] Sq11 hn_ hB_) hZ (own_w hw 25 rfl) (own_w hw 24 rfl) (by decide) (by decide)) (g := (mkF m 71 #[.val (.int p1), .val (.int p2), .val (.int p3), .val (.int p4), .val (.int (2 : Int32)), .val (.int c0_), .val (.int c1_), .val (.int (p4.toUInt32.toUInt16.toUInt32.toInt32)), .val (.ref b1), .val (.ref b8), .unset, .unset] [(.ref b8)])) rfl (by rw [hml]; rfl) (argsL := [(.ref b8)]) (rest := []) (lenOf pd_25 rfl) rfl (by show 2 * 0 + _ ≤ _; exact Nat.le_of_eq rfl) (hb hby at_71) (fun _ _ => ⟨rfl, rfl, (by decide : 4 + 4 ≤ _), (by decide : 18 + 20 ≤ _)⟩)
  dsimp only [Pt.U, Pt.locs, Pt.cells, Pt.slots] at X14 l14 y14 z14 st14 hQ14
  subst l14 y14 z14
  obtain ⟨t14, rfl, N14q, Kq14, So14, hs14⟩ := hQ14
  have N14 := Fr.app N11 N14q
  have f15 := f12.keep Kq14 (fun q => nomatch q)
  have f16 := f13.keep Kq14
  have O14 := O11.keep Kq14 all0
  have K14 : Keep h0 T14.heap [] := K11.trans Kq14 all0
  have f17 := own_Str_keep Kq14 Sq11
  obtain rfl : b8 = t14 := (hs14 (own_all2 (P := fun z => ¬ own_brk z) hq0_ hq1_)).symm
  obtain ⟨cq18, kq18, q18a, q18b, q18c⟩ := isOf hZ rfl f16
  obtain ⟨_, _, ⟨T18, L18, k18, n18⟩, -, X18, ⟨Lc18, hQ18, l18, y18, z18⟩, st18⟩ := X14.virtualBack hx (y := Y18_) (z := Y18_) hown (mvT hZ (own_w hw 37 rfl)) (mvT hZ (own_w hw 27 rfl)) (notFace_of_selects (args := #[]) (mvT hZ (own_w hw 29 rfl))) (mvT hZ (own_w hw 29 rfl)) (mvT hZ (own_w hw 28 rfl)) (by decide) (backOf (W := 0) (r_len l Z a0 hw [] cs1 fv T14.heap n0 O14 G0 b8 ([c0_, c1_].map own_exp) So14 (own_lenm hn_)) hZ (own_w hw 30 rfl) (own_w hw 3 rfl) (by decide) (by decide)) q18a q18c (g := (mkF m 78 #[.val (.int p1), .val (.int p2), .val (.int p3), .val (.int p4), .val (.int (2 : Int32)), .val (.int c0_), .val (.int c1_), .val (.int (p4.toUInt32.toUInt16.toUInt32.toInt32)), .val (.ref b1), .val (.ref b8), .val (.ref b8), .unset] [(.ref b8)])) rfl (by rw [hml]; rfl) (Steps.refl _) (argsL := []) (rest := []) (lenOf pd_21 rfl) rfl (by show 2 * 0 + _ ≤ _; exact Nat.le_of_eq rfl) (hb hby at_78) (fun _ _ => ⟨rfl, rfl, (by decide : 8 + 0 ≤ _), (by decide : 38 + 0 ≤ _)⟩)
  dsimp only [Pt.U, Pt.locs, Pt.cells, Pt.slots] at X18 l18 y18 z18 st18 hQ18
  subst l18 y18 z18
  obtain ⟨rfl, N18q, e18⟩ := hQ18
  have N18 := Fr.app N14 N18q
  obtain ⟨cq19, kq19, q19a, q19b, q19c⟩ := isOf hZ e18 f16
  obtain ⟨_, _, ⟨T19, L19, k19, n19⟩, -, X19, ⟨Lc19, hQ19, l19, y19, z19⟩, st19⟩ := X18.virtualBack hx (y := Y19_) (z := Y19_) hown (mvT hZ (own_w hw 73 rfl)) (mvT hZ (own_w hw 49 rfl)) (notFace_of_selects (args := #[]) (mvT hZ (own_w hw 51 rfl))) (mvT hZ (own_w hw 51 rfl)) (mvT hZ (own_w hw 50 rfl)) (by decide) (backOf (W := 0) (r_ch l Z a0 hw [] cs1 fv T14.heap n0 O14 G0 b8 ([c0_, c1_].map own_exp) So14 0 (Nat.le_of_ble_eq_true rfl) (own_lenm hn_) (own_Bd_exp hB_)) hZ (own_w hw 52 rfl) (own_w hw 3 rfl) (by decide) (by decide)) q19a q19c (g := (mkF m 99 #[.val (.int p1), .val (.int p2), .val (.int p3), .val (.int p4), .val (.int (2 : Int32)), .val (.int c0_), .val (.int c1_), .val (.int (p4.toUInt32.toUInt16.toUInt32.toInt32)), .val (.ref b1), .val (.ref b8), .val (.ref b8), .val (.int (0 : Int32))] [(.int (0 : Int32)), (.ref b8)])) rfl (by rw [hml]; rfl) (Steps.refl _) (argsL := [(.int (0 : Int32))]) (rest := []) (lenOf pd_22 rfl) rfl (by show 2 * 0 + _ ≤ _; exact Nat.le_of_eq rfl) (hb hby at_99) (fun _ _ => ⟨rfl, e18, (by decide : 8 + 0 ≤ _), (by decide : 38 + 0 ≤ _)⟩)
  dsimp only [Pt.U, Pt.locs, Pt.cells, Pt.slots] at X19 l19 y19 z19 st19 hQ19
  subst l19 y19 z19
  obtain ⟨rfl, N19q, e19⟩ := hQ19
  have N19 := Fr.app N18 N19q
  obtain ⟨_, _, ⟨T20, L20, k20, n20⟩, -, X20, ⟨Lc20, hQ20, l20, y20, z20⟩, st20⟩ := Jvm.LawKit.callS X19 hx (y := Y30_) hown (mvT hZ (own_w hw 74 rfl)) (mvT hZ (own_w hw 75 rfl)) (mvT hZ (own_w hw 76 rfl)) (mvT hZ (own_w hw 77 rfl)) (by decide) (backOf (W := 1) (r_ex l Z a0 hw [] cs1 fv T14.heap n0 O14 G0 c0_ hz0_ hm0_) hZ (own_w hw 77 rfl) (own_w hw 76 rfl) (by decide) (by decide)) (g := (mkF m 104 #[.val (.int p1), .val (.int p2), .val (.int p3), .val (.int p4), .val (.int (2 : Int32)), .val (.int c0_), .val (.int c1_), .val (.int (p4.toUInt32.toUInt16.toUInt32.toInt32)), .val (.ref b1), .val (.ref b8), .val (.ref b8), .val (.int (0 : Int32))] [(.int c0_), (.int (own_exp c0_))])) rfl (by rw [hml]; rfl) (argsL := [(.int c0_)]) (rest := [(.int (own_exp c0_))]) (lenOf pd_26 rfl) rfl (by show 2 * 0 + _ ≤ _; exact Nat.le_of_eq rfl) (hb hby at_104) (fun _ _ => ⟨rfl, e19, (by decide : 8 + 0 ≤ _), (by decide : 38 + 0 ≤ _)⟩)
  dsimp only [Pt.U, Pt.locs, Pt.cells, Pt.slots] at X20 l20 y20 z20 st20 hQ20
  subst l20 y20 z20
  obtain ⟨rfl, N20q, e20⟩ := hQ20
  have N20 := Fr.app N19 N20q
  obtain ⟨_, _, ⟨T21, L21, k21, n21⟩, -, X21, ⟨Lc21, hQ21, l21, y21, z21⟩, st21⟩ := Jvm.LawKit.callS X20 hx (y := Y29_) hown (mvT hZ (own_w hw 78 rfl)) (mvT hZ (own_w hw 79 rfl)) (mvT hZ (own_w hw 76 rfl)) (mvT hZ (own_w hw 80 rfl)) (by decide) (backOf (W := 0) (r_ibF l Z a0 hw [] cs1 fv T14.heap n0 O14 G0 c0_ hq0_) hZ (own_w hw 80 rfl) (own_w hw 76 rfl) (by decide) (by decide)) (g := (mkF m 119 #[.val (.int p1), .val (.int p2), .val (.int p3), .val (.int p4), .val (.int (2 : Int32)), .val (.int c0_), .val (.int c1_), .val (.int (p4.toUInt32.toUInt16.toUInt32.toInt32)), .val (.ref b1), .val (.ref b8), .val (.ref b8), .val (.int (0 : Int32))] [(.int c0_)])) rfl (by rw [hml]; rfl) (argsL := [(.int c0_)]) (rest := []) (lenOf pd_20 rfl) rfl (by show 2 * 0 + _ ≤ _; exact Nat.le_of_eq rfl) (hb hby at_119) (fun _ _ => ⟨rfl, e20, (by decide : 8 + 0 ≤ _), (by decide : 38 + 0 ≤ _)⟩)
  dsimp only [Pt.U, Pt.locs, Pt.cells, Pt.slots] at X21 l21 y21 z21 st21 hQ21
  subst l21 y21 z21
  obtain ⟨rfl, N21q, e21⟩ := hQ21
  have N21 := Fr.app N20 N21q
  obtain ⟨cq22, kq22, q22a, q22b, q22c⟩ := isOf hZ e21 f16
  obtain ⟨_, _, ⟨T22, L22, k22, n22⟩, -, X22, ⟨Lc22, hQ22, l22, y22, z22⟩, st22⟩ := X21.virtualBack hx (y := Y19_) (z := Y19_) hown (mvT hZ (own_w hw 73 rfl)) (mvT hZ (own_w hw 49 rfl)) (notFace_of_selects (args := #[]) (mvT hZ (own_w hw 51 rfl))) (mvT hZ (own_w hw 51 rfl)) (mvT hZ (own_w hw 50 rfl)) (by decide) (backOf (W := 0) (r_ch l Z a0 hw [] cs1 fv T14.heap n0 O14 G0 b8 ([c0_, c1_].map own_exp) So14 1 (Nat.le_of_ble_eq_true rfl) (own_lenm hn_) (own_Bd_exp hB_)) hZ (own_w hw 52 rfl) (own_w hw 3 rfl) (by decide) (by decide)) q22a q22c (g := (mkF m 141 #[.val (.int p1), .val (.int p2), .val (.int p3), .val (.int p4), .val (.int (2 : Int32)), .val (.int c0_), .val (.int c1_), .val (.int (p4.toUInt32.toUInt16.toUInt32.toInt32)), .val (.ref b1), .val (.ref b8), .val (.ref b8), .val (.int (0 : Int32))] [(.int (1 : Int32)), (.ref b8)])) rfl (by rw [hml]; rfl) (Steps.refl _) (argsL := [(.int (1 : Int32))]) (rest := []) (lenOf pd_22 rfl) rfl (by show 2 * 0 + _ ≤ _; exact Nat.le_of_eq rfl) (hb hby at_141) (fun _ _ => ⟨rfl, e21, (by decide : 8 + 0 ≤ _), (by decide : 38 + 0 ≤ _)⟩)
  dsimp only [Pt.U, Pt.locs, Pt.cells, Pt.slots] at X22 l22 y22 z22 st22 hQ22
  subst l22 y22 z22
  obtain ⟨rfl, N22q, e22⟩ := hQ22
  have N22 := Fr.app N21 N22q
  obtain ⟨_, _, ⟨T23, L23, k23, n23⟩, -, X23, ⟨Lc23, hQ23, l23, y23, z23⟩, st23⟩ := Jvm.LawKit.callS X22 hx (y := Y30_) hown (mvT hZ (own_w hw 74 rfl)) (mvT hZ (own_w hw 75 rfl)) (mvT hZ (own_w hw 76 rfl)) (mvT hZ (own_w hw 77 rfl)) (by decide) (backOf (W := 1) (r_ex l Z a0 hw [] cs1 fv T14.heap n0 O14 G0 c1_ hz1_ hm1_) hZ (own_w hw 77 rfl) (own_w hw 76 rfl) (by decide) (by decide)) (g := (mkF m 146 #[.val (.int p1), .val (.int p2), .val (.int p3), .val (.int p4), .val (.int (2 : Int32)), .val (.int c0_), .val (.int c1_), .val (.int (p4.toUInt32.toUInt16.toUInt32.toInt32)), .val (.ref b1), .val (.ref b8), .val (.ref b8), .val (.int (0 : Int32))] [(.int c1_), (.int (own_exp c1_))])) rfl (by rw [hml]; rfl) (argsL := [(.int c1_)]) (rest := [(.int (own_exp c1_))]) (lenOf pd_26 rfl) rfl (by show 2 * 0 + _ ≤ _; exact Nat.le_of_eq rfl) (hb hby at_146) (fun _ _ => ⟨rfl, e22, (by decide : 8 + 0 ≤ _), (by decide : 38 + 0 ≤ _)⟩)
  dsimp only [Pt.U, Pt.locs, Pt.cells, Pt.slots] at X23 l23 y23 z23 st23 hQ23
  subst l23 y23 z23
  obtain ⟨rfl, N23q, e23⟩ := hQ23
  have N23 := Fr.app N22 N23q
  obtain ⟨_, _, ⟨T24, L24, k24, n24⟩, -, X24, ⟨Lc24, hQ24, l24, y24, z24⟩, st24⟩ := Jvm.LawKit.callS X23 hx (y := Y29_) hown (mvT hZ (own_w hw 78 rfl)) (mvT hZ (own_w hw 79 rfl)) (mvT hZ (own_w hw 76 rfl)) (mvT hZ (own_w hw 80 rfl)) (by decide) (backOf (W := 0) (r_ibF l Z a0 hw [] cs1 fv T14.heap n0 O14 G0 c1_ hq1_) hZ (own_w hw 80 rfl) (own_w hw 76 rfl) (by decide) (by decide)) (g := (mkF m 161 #[.val (.int p1), .val (.int p2), .val (.int p3), .val (.int p4), .val (.int (2 : Int32)), .val (.int c0_), .val (.int c1_), .val (.int (p4.toUInt32.toUInt16.toUInt32.toInt32)), .val (.ref b1), .val (.ref b8), .val (.ref b8), .val (.int (0 : Int32))] [(.int c1_)])) rfl (by rw [hml]; rfl) (argsL := [(.int c1_)]) (rest := []) (lenOf pd_20 rfl) rfl (by show 2 * 0 + _ ≤ _; exact Nat.le_of_eq rfl) (hb hby at_161) (fun _ _ => ⟨rfl, e23, (by decide : 8 + 0 ≤ _), (by decide : 38 + 0 ≤ _)⟩)
  dsimp only [Pt.U, Pt.locs, Pt.cells, Pt.slots] at X24 l24 y24 z24 st24 hQ24
  subst l24 y24 z24
  obtain ⟨rfl, N24q, e24⟩ := hQ24
  have N24 := Fr.app N23 N24q
  obtain ⟨fs, hr, hrun, hended, hW, hsame⟩ := X24.leave (v := some (.int (1 : Int32))) (fun h => by rw [Bd.returns] at h; cases h)
  refine ⟨_, _, pre0 _ ?_, hrun, hended, _, _, rfl, ?_, ⟨_, rfl⟩, hW, hsame.mono (by decide) (by decide)⟩
  · show Steps p.tables e below (s₁.setTop (mkF m 0 #[.val (.int p1), .val (.int p2), .val (.int p3), .val (.int p4), .unset, .unset, .unset, .unset, .unset, .unset, .unset, .unset] [])) _
    refine XS.iloadN X0.here hx rfl (hb hby at_0) rfl ?_
    refine XS.iconst X0.here hx rfl (hb hby at_1) ?_
    refine XS.iand X0.here hx rfl (hb hby at_2) rfl ?_
    show Steps p.tables e below (s₁.setTop (mkF m 3 #[.val (.int p1), .val (.int p2), .val (.int p3), .val (.int p4), .unset, .unset, .unset, .unset, .unset, .unset, .unset, .unset] [(.int (p1 &&& (3 : Int32)))])) _
    rw [hl]
    refine XS.istore X0.here hx rfl (hb hby at_3) rfl (l' := #[.val (.int p1), .val (.int p2), .val (.int p3), .val (.int p4), .val (.int (2 : Int32)), .unset, .unset, .unset, .unset, .unset, .unset, .unset]) rfl ?_
    refine XS.iloadN X0.here hx rfl (hb hby at_5) rfl ?_
    refine XS.i2c X0.here hx rfl (hb hby at_6) rfl ?_
    show Steps p.tables e below (s₁.setTop (mkF m 7 #[.val (.int p1), .val (.int p2), .val (.int p3), .val (.int p4), .val (.int (2 : Int32)), .unset, .unset, .unset, .unset, .unset, .unset, .unset] [(.int (p2.toUInt32.toUInt16.toUInt32.toInt32))])) _
    rw [he0]
    refine XS.istore X0.here hx rfl (hb hby at_7) rfl (l' := #[.val (.int p1), .val (.int p2), .val (.int p3), .val (.int p4), .val (.int (2 : Int32)), .val (.int c0_), .unset, .unset, .unset, .unset, .unset, .unset]) rfl ?_
    refine XS.iloadN X0.here hx rfl (hb hby at_9) rfl ?_
    refine XS.i2c X0.here hx rfl (hb hby at_10) rfl ?_
    show Steps p.tables e below (s₁.setTop (mkF m 11 #[.val (.int p1), .val (.int p2), .val (.int p3), .val (.int p4), .val (.int (2 : Int32)), .val (.int c0_), .unset, .unset, .unset, .unset, .unset, .unset] [(.int (p3.toUInt32.toUInt16.toUInt32.toInt32))])) _
    rw [he1]
    refine XS.istore X0.here hx rfl (hb hby at_11) rfl (l' := #[.val (.int p1), .val (.int p2), .val (.int p3), .val (.int p4), .val (.int (2 : Int32)), .val (.int c0_), .val (.int c1_), .unset, .unset, .unset, .unset, .unset]) rfl ?_
    show Steps p.tables e below (s₁.setTop (mkF m 13 #[.val (.int p1), .val (.int p2), .val (.int p3), .val (.int p4), .val (.int (2 : Int32)), .val (.int c0_), .val (.int c1_), .unset, .unset, .unset, .unset, .unset] [])) _
    refine XS.iloadN X0.here hx rfl (hb hby at_13) rfl ?_
    refine XS.i2c X0.here hx rfl (hb hby at_14) rfl ?_
    refine XS.istore X0.here hx rfl (hb hby at_15) rfl (l' := #[.val (.int p1), .val (.int p2), .val (.int p3), .val (.int p4), .val (.int (2 : Int32)), .val (.int c0_), .val (.int c1_), .val (.int (p4.toUInt32.toUInt16.toUInt32.toInt32)), .unset, .unset, .unset, .unset]) rfl ?_
    refine XS.iload X0.here hx rfl (hb hby at_17) rfl ?_
    show Steps p.tables e below (s₁.setTop (mkF m 19 #[.val (.int p1), .val (.int p2), .val (.int p3), .val (.int p4), .val (.int (2 : Int32)), .val (.int c0_), .val (.int c1_), .val (.int (p4.toUInt32.toUInt16.toUInt32.toInt32)), .unset, .unset, .unset, .unset] [(.int (2 : Int32))])) _
    refine st1 _ ?_
    show Steps p.tables e below (T1.setTop (mkF m 21 #[.val (.int p1), .val (.int p2), .val (.int p3), .val (.int p4), .val (.int (2 : Int32)), .val (.int c0_), .val (.int c1_), .val (.int (p4.toUInt32.toUInt16.toUInt32.toInt32)), .unset, .unset, .unset, .unset] [(.ref b1)])) _
    refine XS.astore X1.here hx rfl (hb hby at_21) rfl rfl (l' := #[.val (.int p1), .val (.int p2), .val (.int p3), .val (.int p4), .val (.int (2 : Int32)), .val (.int c0_), .val (.int c1_), .val (.int (p4.toUInt32.toUInt16.toUInt32.toInt32)), .val (.ref b1), .unset, .unset, .unset]) rfl ?_
    refine XS.iload X1.here hx rfl (hb hby at_23) rfl ?_
    refine XS.ifNo X1.here hx rfl (hb hby at_25) rfl ((if0 _ _).trans (tlt (by decide : (0 : Int32) < (2 : Int32))).2.2.2) ?_
    refine XS.aload X1.here hx rfl (hb hby at_28) rfl rfl ?_
    refine XS.iconst X1.here hx rfl (hb hby at_30) ?_
    refine XS.iload X1.here hx rfl (hb hby at_31) rfl ?_
    show Steps p.tables e below (T1.setTop (mkF m 33 #[.val (.int p1), .val (.int p2), .val (.int p3), .val (.int p4), .val (.int (2 : Int32)), .val (.int c0_), .val (.int c1_), .val (.int (p4.toUInt32.toUInt16.toUInt32.toInt32)), .val (.ref b1), .unset, .unset, .unset] [(.int c0_), (.int (0 : Int32)), (.ref b1)])) _
    refine st3 _ ?_
    show Steps p.tables e below (T3.setTop (mkF m 34 #[.val (.int p1), .val (.int p2), .val (.int p3), .val (.int p4), .val (.int (2 : Int32)), .val (.int c0_), .val (.int c1_), .val (.int (p4.toUInt32.toUInt16.toUInt32.toInt32)), .val (.ref b1), .unset, .unset, .unset] [])) _
    refine XS.iload X3.here hx rfl (hb hby at_34) rfl ?_
    refine XS.iconst X3.here hx rfl (hb hby at_36) ?_
    refine XS.icmpNo X3.here hx rfl (hb hby at_37) rfl (tlt (by decide : (1 : Int32) < (2 : Int32))).2.2.2 ?_
    refine XS.aload X3.here hx rfl (hb hby at_40) rfl rfl ?_
    refine XS.iconst X3.here hx rfl (hb hby at_42) ?_
    refine XS.iload X3.here hx rfl (hb hby at_43) rfl ?_
    show Steps p.tables e below (T3.setTop (mkF m 45 #[.val (.int p1), .val (.int p2), .val (.int p3), .val (.int p4), .val (.int (2 : Int32)), .val (.int c0_), .val (.int c1_), .val (.int (p4.toUInt32.toUInt16.toUInt32.toInt32)), .val (.ref b1), .unset, .unset, .unset] [(.int c1_), (.int (1 : Int32)), (.ref b1)])) _
    refine st6 _ ?_
    show Steps p.tables e below (T6.setTop (mkF m 46 #[.val (.int p1), .val (.int p2), .val (.int p3), .val (.int p4), .val (.int (2 : Int32)), .val (.int c0_), .val (.int c1_), .val (.int (p4.toUInt32.toUInt16.toUInt32.toInt32)), .val (.ref b1), .unset, .unset, .unset] [])) _
    refine XS.iload X6.here hx rfl (hb hby at_46) rfl ?_
    refine XS.iconst X6.here hx rfl (hb hby at_48) ?_
    refine XS.icmpYes X6.here hx rfl (pc0 := 49) (pc' := 58) rfl (hb hby at_49) rfl (flt (by decide : ¬ ((2 : Int32) < (2 : Int32)))).2.2.2 (by decide) (by decide) ?_
    show Steps p.tables e below (T6.setTop (mkF m 58 #[.val (.int p1), .val (.int p2), .val (.int p3), .val (.int p4), .val (.int (2 : Int32)), .val (.int c0_), .val (.int c1_), .val (.int (p4.toUInt32.toUInt16.toUInt32.toInt32)), .val (.ref b1), .unset, .unset, .unset] [])) _
    refine st8 _ ?_
    show Steps p.tables e below (T8.setTop (mkF m 61 #[.val (.int p1), .val (.int p2), .val (.int p3), .val (.int p4), .val (.int (2 : Int32)), .val (.int c0_), .val (.int c1_), .val (.int (p4.toUInt32.toUInt16.toUInt32.toInt32)), .val (.ref b1), .unset, .unset, .unset] [(.ref b8)])) _
    refine XS.dup X8.here hx rfl (hb hby at_61) rfl rfl ?_
    refine XS.aload X8.here hx rfl (hb hby at_62) rfl rfl ?_
    show Steps p.tables e below (T8.setTop (mkF m 64 #[.val (.int p1), .val (.int p2), .val (.int p3), .val (.int p4), .val (.int (2 : Int32)), .val (.int c0_), .val (.int c1_), .val (.int (p4.toUInt32.toUInt16.toUInt32.toInt32)), .val (.ref b1), .unset, .unset, .unset] [(.ref b1), (.ref b8), (.ref b8)])) _
    refine st11.trans ?_
    show Steps p.tables e below (T11.setTop (mkF m 67 #[.val (.int p1), .val (.int p2), .val (.int p3), .val (.int p4), .val (.int (2 : Int32)), .val (.int c0_), .val (.int c1_), .val (.int (p4.toUInt32.toUInt16.toUInt32.toInt32)), .val (.ref b1), .unset, .unset, .unset] [(.ref b8)])) _
    refine XS.astore X11.here hx rfl (hb hby at_67) rfl rfl (l' := #[.val (.int p1), .val (.int p2), .val (.int p3), .val (.int p4), .val (.int (2 : Int32)), .val (.int c0_), .val (.int c1_), .val (.int (p4.toUInt32.toUInt16.toUInt32.toInt32)), .val (.ref b1), .val (.ref b8), .unset, .unset]) rfl ?_
    refine XS.aload X11.here hx rfl (hb hby at_69) rfl rfl ?_
    show Steps p.tables e below (T11.setTop (mkF m 71 #[.val (.int p1), .val (.int p2), .val (.int p3), .val (.int p4), .val (.int (2 : Int32)), .val (.int c0_), .val (.int c1_), .val (.int (p4.toUInt32.toUInt16.toUInt32.toInt32)), .val (.ref b1), .val (.ref b8), .unset, .unset] [(.ref b8)])) _
    refine st14 _ ?_
    show Steps p.tables e below (T14.setTop (mkF m 74 #[.val (.int p1), .val (.int p2), .val (.int p3), .val (.int p4), .val (.int (2 : Int32)), .val (.int c0_), .val (.int c1_), .val (.int (p4.toUInt32.toUInt16.toUInt32.toInt32)), .val (.ref b1), .val (.ref b8), .unset, .unset] [(.ref b8)])) _
    refine XS.astore X14.here hx rfl (hb hby at_74) rfl rfl (l' := #[.val (.int p1), .val (.int p2), .val (.int p3), .val (.int p4), .val (.int (2 : Int32)), .val (.int c0_), .val (.int c1_), .val (.int (p4.toUInt32.toUInt16.toUInt32.toInt32)), .val (.ref b1), .val (.ref b8), .val (.ref b8), .unset]) rfl ?_
    refine XS.aload X14.here hx rfl (hb hby at_76) rfl rfl ?_
    show Steps p.tables e below (T14.setTop (mkF m 78 #[.val (.int p1), .val (.int p2), .val (.int p3), .val (.int p4), .val (.int (2 : Int32)), .val (.int c0_), .val (.int c1_), .val (.int (p4.toUInt32.toUInt16.toUInt32.toInt32)), .val (.ref b1), .val (.ref b8), .val (.ref b8), .unset] [(.ref b8)])) _
    refine st18.trans ?_
    show Steps p.tables e below (T18.setTop (mkF m 81 #[.val (.int p1), .val (.int p2), .val (.int p3), .val (.int p4), .val (.int (2 : Int32)), .val (.int c0_), .val (.int c1_), .val (.int (p4.toUInt32.toUInt16.toUInt32.toInt32)), .val (.ref b1), .val (.ref b8), .val (.ref b8), .unset] [(.int (2 : Int32))])) _
    refine XS.iload X18.here hx rfl (hb hby at_81) rfl ?_
    refine XS.icmpYes X18.here hx rfl (pc0 := 83) (pc' := 88) rfl (hb hby at_83) rfl (teq (by decide : (2 : Int32) = (2 : Int32))).1 (by decide) (by decide) ?_
    refine XS.iconst X18.here hx rfl (hb hby at_88) ?_
    refine XS.istore X18.here hx rfl (hb hby at_89) rfl (l' := #[.val (.int p1), .val (.int p2), .val (.int p3), .val (.int p4), .val (.int (2 : Int32)), .val (.int c0_), .val (.int c1_), .val (.int (p4.toUInt32.toUInt16.toUInt32.toInt32)), .val (.ref b1), .val (.ref b8), .val (.ref b8), .val (.int (0 : Int32))]) rfl ?_
    refine XS.iload X18.here hx rfl (hb hby at_91) rfl ?_
    refine XS.ifNo X18.here hx rfl (hb hby at_93) rfl ((if0 _ _).trans (tlt (by decide : (0 : Int32) < (2 : Int32))).2.2.2) ?_
    refine XS.aload X18.here hx rfl (hb hby at_96) rfl rfl ?_
    refine XS.iconst X18.here hx rfl (hb hby at_98) ?_
    show Steps p.tables e below (T18.setTop (mkF m 99 #[.val (.int p1), .val (.int p2), .val (.int p3), .val (.int p4), .val (.int (2 : Int32)), .val (.int c0_), .val (.int c1_), .val (.int (p4.toUInt32.toUInt16.toUInt32.toInt32)), .val (.ref b1), .val (.ref b8), .val (.ref b8), .val (.int (0 : Int32))] [(.int (0 : Int32)), (.ref b8)])) _
    refine st19.trans ?_
    show Steps p.tables e below (T19.setTop (mkF m 102 #[.val (.int p1), .val (.int p2), .val (.int p3), .val (.int p4), .val (.int (2 : Int32)), .val (.int c0_), .val (.int c1_), .val (.int (p4.toUInt32.toUInt16.toUInt32.toInt32)), .val (.ref b1), .val (.ref b8), .val (.ref b8), .val (.int (0 : Int32))] [(.int (own_exp c0_))])) _
    refine XS.iload X19.here hx rfl (hb hby at_102) rfl ?_
    show Steps p.tables e below (T19.setTop (mkF m 104 #[.val (.int p1), .val (.int p2), .val (.int p3), .val (.int p4), .val (.int (2 : Int32)), .val (.int c0_), .val (.int c1_), .val (.int (p4.toUInt32.toUInt16.toUInt32.toInt32)), .val (.ref b1), .val (.ref b8), .val (.ref b8), .val (.int (0 : Int32))] [(.int c0_), (.int (own_exp c0_))])) _
    refine st20 _ ?_
    show Steps p.tables e below (T20.setTop (mkF m 107 #[.val (.int p1), .val (.int p2), .val (.int p3), .val (.int p4), .val (.int (2 : Int32)), .val (.int c0_), .val (.int c1_), .val (.int (p4.toUInt32.toUInt16.toUInt32.toInt32)), .val (.ref b1), .val (.ref b8), .val (.ref b8), .val (.int (0 : Int32))] [(.int (own_exp c0_)), (.int (own_exp c0_))])) _
    refine XS.icmpYes X20.here hx rfl (pc0 := 107) (pc' := 112) rfl (hb hby at_107) rfl (teq (rfl : (own_exp c0_) = (own_exp c0_))).1 (by decide) (by decide) ?_
    refine XS.iload X20.here hx rfl (hb hby at_112) rfl ?_
    refine XS.ifNo X20.here hx rfl (hb hby at_114) rfl ((if0 _ _).trans (teq (by decide : (0 : Int32) = (0 : Int32))).2) ?_
    refine XS.iload X20.here hx rfl (hb hby at_117) rfl ?_
    show Steps p.tables e below (T20.setTop (mkF m 119 #[.val (.int p1), .val (.int p2), .val (.int p3), .val (.int p4), .val (.int (2 : Int32)), .val (.int c0_), .val (.int c1_), .val (.int (p4.toUInt32.toUInt16.toUInt32.toInt32)), .val (.ref b1), .val (.ref b8), .val (.ref b8), .val (.int (0 : Int32))] [(.int c0_)])) _
    refine st21 _ ?_
    show Steps p.tables e below (T21.setTop (mkF m 122 #[.val (.int p1), .val (.int p2), .val (.int p3), .val (.int p4), .val (.int (2 : Int32)), .val (.int c0_), .val (.int c1_), .val (.int (p4.toUInt32.toUInt16.toUInt32.toInt32)), .val (.ref b1), .val (.ref b8), .val (.ref b8), .val (.int (0 : Int32))] [(.int (0 : Int32))])) _
    refine XS.ifYes X21.here hx rfl (pc0 := 122) (pc' := 129) rfl (hb hby at_122) rfl ((if0 _ _).trans (teq (by decide : (0 : Int32) = (0 : Int32))).1) (by decide) (by decide) ?_
    refine XS.iconst X21.here hx rfl (hb hby at_129) ?_
    refine XS.istore X21.here hx rfl (hb hby at_130) rfl (l' := #[.val (.int p1), .val (.int p2), .val (.int p3), .val (.int p4), .val (.int (2 : Int32)), .val (.int c0_), .val (.int c1_), .val (.int (p4.toUInt32.toUInt16.toUInt32.toInt32)), .val (.ref b1), .val (.ref b8), .val (.ref b8), .val (.int (0 : Int32))]) rfl ?_
    refine XS.iload X21.here hx rfl (hb hby at_132) rfl ?_
    refine XS.iconst X21.here hx rfl (hb hby at_134) ?_
    refine XS.icmpNo X21.here hx rfl (hb hby at_135) rfl (tlt (by decide : (1 : Int32) < (2 : Int32))).2.2.2 ?_
    refine XS.aload X21.here hx rfl (hb hby at_138) rfl rfl ?_
    refine XS.iconst X21.here hx rfl (hb hby at_140) ?_
    show Steps p.tables e below (T21.setTop (mkF m 141 #[.val (.int p1), .val (.int p2), .val (.int p3), .val (.int p4), .val (.int (2 : Int32)), .val (.int c0_), .val (.int c1_), .val (.int (p4.toUInt32.toUInt16.toUInt32.toInt32)), .val (.ref b1), .val (.ref b8), .val (.ref b8), .val (.int (0 : Int32))] [(.int (1 : Int32)), (.ref b8)])) _
    refine st22.trans ?_
    show Steps p.tables e below (T22.setTop (mkF m 144 #[.val (.int p1), .val (.int p2), .val (.int p3), .val (.int p4), .val (.int (2 : Int32)), .val (.int c0_), .val (.int c1_), .val (.int (p4.toUInt32.toUInt16.toUInt32.toInt32)), .val (.ref b1), .val (.ref b8), .val (.ref b8), .val (.int (0 : Int32))] [(.int (own_exp c1_))])) _
    refine XS.iload X22.here hx rfl (hb hby at_144) rfl ?_
    show Steps p.tables e below (T22.setTop (mkF m 146 #[.val (.int p1), .val (.int p2), .val (.int p3), .val (.int p4), .val (.int (2 : Int32)), .val (.int c0_), .val (.int c1_), .val (.int (p4.toUInt32.toUInt16.toUInt32.toInt32)), .val (.ref b1), .val (.ref b8), .val (.ref b8), .val (.int (0 : Int32))] [(.int c1_), (.int (own_exp c1_))])) _
    refine st23 _ ?_
    show Steps p.tables e below (T23.setTop (mkF m 149 #[.val (.int p1), .val (.int p2), .val (.int p3), .val (.int p4), .val (.int (2 : Int32)), .val (.int c0_), .val (.int c1_), .val (.int (p4.toUInt32.toUInt16.toUInt32.toInt32)), .val (.ref b1), .val (.ref b8), .val (.ref b8), .val (.int (0 : Int32))] [(.int (own_exp c1_)), (.int (own_exp c1_))])) _
    refine XS.icmpYes X23.here hx rfl (pc0 := 149) (pc' := 154) rfl (hb hby at_149) rfl (teq (rfl : (own_exp c1_) = (own_exp c1_))).1 (by decide) (by decide) ?_
    refine XS.iload X23.here hx rfl (hb hby at_154) rfl ?_
    refine XS.ifNo X23.here hx rfl (hb hby at_156) rfl ((if0 _ _).trans (teq (by decide : (0 : Int32) = (0 : Int32))).2) ?_
    refine XS.iload X23.here hx rfl (hb hby at_159) rfl ?_
    show Steps p.tables e below (T23.setTop (mkF m 161 #[.val (.int p1), .val (.int p2), .val (.int p3), .val (.int p4), .val (.int (2 : Int32)), .val (.int c0_), .val (.int c1_), .val (.int (p4.toUInt32.toUInt16.toUInt32.toInt32)), .val (.ref b1), .val (.ref b8), .val (.ref b8), .val (.int (0 : Int32))] [(.int c1_)])) _
    refine st24 _ ?_
    show Steps p.tables e below (T24.setTop (mkF m 164 #[.val (.int p1), .val (.int p2), .val (.int p3), .val (.int p4), .val (.int (2 : Int32)), .val (.int c0_), .val (.int c1_), .val (.int (p4.toUInt32.toUInt16.toUInt32.toInt32)), .val (.ref b1), .val (.ref b8), .val (.ref b8), .val (.int (0 : Int32))] [(.int (0 : Int32))])) _
    refine XS.ifYes X24.here hx rfl (pc0 := 164) (pc' := 171) rfl (hb hby at_164) rfl ((if0 _ _).trans (teq (by decide : (0 : Int32) = (0 : Int32))).1) (by decide) (by decide) ?_
    refine XS.iconst X24.here hx rfl (hb hby at_171) ?_
    refine XS.istore X24.here hx rfl (hb hby at_172) rfl (l' := #[.val (.int p1), .val (.int p2), .val (.int p3), .val (.int p4), .val (.int (2 : Int32)), .val (.int c0_), .val (.int c1_), .val (.int (p4.toUInt32.toUInt16.toUInt32.toInt32)), .val (.ref b1), .val (.ref b8), .val (.ref b8), .val (.int (0 : Int32))]) rfl ?_
    refine XS.iload X24.here hx rfl (hb hby at_174) rfl ?_
    refine XS.iconst X24.here hx rfl (hb hby at_176) ?_
    refine XS.icmpYes X24.here hx rfl (pc0 := 177) (pc' := 216) rfl (hb hby at_177) rfl (flt (by decide : ¬ ((2 : Int32) < (2 : Int32)))).2.2.2 (by decide) (by decide) ?_
    refine XS.iload X24.here hx rfl (hb hby at_216) rfl ?_
    refine XS.ifNo X24.here hx rfl (hb hby at_218) rfl ((if0 _ _).trans (teq (by decide : (0 : Int32) = (0 : Int32))).2) ?_
    refine XS.aload X24.here hx rfl (hb hby at_221) rfl rfl ?_
    refine XS.aload X24.here hx rfl (hb hby at_223) rfl rfl ?_
    show Steps p.tables e below (T24.setTop (mkF m 225 #[.val (.int p1), .val (.int p2), .val (.int p3), .val (.int p4), .val (.int (2 : Int32)), .val (.int c0_), .val (.int c1_), .val (.int (p4.toUInt32.toUInt16.toUInt32.toInt32)), .val (.ref b1), .val (.ref b8), .val (.ref b8), .val (.int (0 : Int32))] [(.ref b8), (.ref b8)])) _
    refine Jvm.RoadKit.acmp (g := (mkF m 225 #[.val (.int p1), .val (.int p2), .val (.int p3), .val (.int p4), .val (.int (2 : Int32)), .val (.int c0_), .val (.int c1_), .val (.int (p4.toUInt32.toUInt16.toUInt32.toInt32)), .val (.ref b1), .val (.ref b8), .val (.ref b8), .val (.int (0 : Int32))] [(.ref b8), (.ref b8)])) X24 hx rfl rfl rfl (pc0 := 225) (pc' := 230) (same := true) rfl (hb hby at_225) rfl (decide_eq_true rfl) (by decide) (by decide) ?_
    show Steps p.tables e below (T24.setTop (mkF m 230 #[.val (.int p1), .val (.int p2), .val (.int p3), .val (.int p4), .val (.int (2 : Int32)), .val (.int c0_), .val (.int c1_), .val (.int (p4.toUInt32.toUInt16.toUInt32.toInt32)), .val (.ref b1), .val (.ref b8), .val (.ref b8), .val (.int (0 : Int32))] [])) _
    refine XS.iconst X24.here hx rfl (hb hby at_230) ?_
    show Steps p.tables e below (T24.setTop (mkF m 231 #[.val (.int p1), .val (.int p2), .val (.int p3), .val (.int p4), .val (.int (2 : Int32)), .val (.int c0_), .val (.int c1_), .val (.int (p4.toUInt32.toUInt16.toUInt32.toInt32)), .val (.ref b1), .val (.ref b8), .val (.ref b8), .val (.int (0 : Int32))] [(.int (1 : Int32))])) _
    exact retN X24 hx (t := .boolean) Bd.returns (by simp) (hb hby at_231) hr
  · show own_Qk (some (.int (1 : Int32))) [] h0 n0 _ T24.heap _
    rw [e24]
    exact ⟨rfl, N24, K14⟩
theorem r_law3_0 (l : Launch) (Z : State) (a0 : Array Value) (hw : own_HW a0 Z) (ws : List Jvm.Cond) (cs1 : Int32) (fv : Value) (h0 : Heap) (n0 : Nat) (O0 : Old Z n0 h0) (G : own_Ctx Z Z.heap cs1 fv) (p1 p2 p3 p4 c0_ c1_ c2_ : Int32) (hl : p1 &&& (3 : Int32) = (3 : Int32)) (he0 : (p2.toUInt32.toUInt16.toUInt32.toInt32) = c0_) (hz0_ : ¬ (c0_ < (0 : Int32))) (hm0_ : ¬ ((65535 : Int32) < c0_)) (he1 : (p3.toUInt32.toUInt16.toUInt32.toInt32) = c1_) (hz1_ : ¬ (c1_ < (0 : Int32))) (hm1_ : ¬ ((65535 : Int32) < c1_)) (he2 : (p4.toUInt32.toUInt16.toUInt32.toInt32) = c2_) (hz2_ : ¬ (c2_ < (0 : Int32))) (hm2_ : ¬ ((65535 : Int32) < c2_)) (hq0_ : own_brk c0_) :
    own_M l x (head1 (Jvm.Cond.code x code maxLocals ret :: ws) room_1) #[(.int p1), (.int p2), (.int p3), (.int p4)] Z h0 n0 (own_Qk (some (.int (1 : Int32))) []) 32 1216 := by
  have G0 := G
  obtain ⟨S_CS, N_CS, S_F, R_F, S_AD, S_HI, S_LO⟩ := G
  refine MetFree.of_bodySF (plainFor_of_name pn_5) hisR ?_
  intro p e s m args below meth c s₁ Bd hml0 hP hK
  obtain ⟨rfl, hZ, hh⟩ := hP
  have hx := Bd.exec
  have hby := Bd.bytes
  have hml : c.maxLocals = 12 := hml0
  have hown : s.vm.findClass "com/example/rubrique/rubrique/cli/OneLineOfPinLaw" = some m.cls := findClass_of_methodNamed Bd.named
  have hnm := (name_of_methodNamed Bd.named Bd.method).1
  have X0 : Stand p l e room_1 s m #[(.int p1), (.int p2), (.int p3), (.int p4)] below meth c s₁ [] 0 0 := Stand.of_body Bd
  have e0 : s₁.heap = h0 := by rw [← hh, Bd.state]; rfl
  have N0 := Fr.nil n0
  have pre0 := own_pre (tb := p.tables) (e := e) (below := below) (T := s₁) (ef_0_34 m p1 p2 p3 p4)
  obtain ⟨T1, h1, ka1, X1, e1, E1, A1, st1⟩ := newP X0 hx hZ (own_w hw 0 rfl) e0 (g := (mkF m 19 #[.val (.int p1), .val (.int p2), .val (.int p3), .val (.int p4), .val (.int (3 : Int32)), .val (.int c0_), .val (.int c1_), .val (.int c2_), .unset, .unset, .unset, .unset] [(.int (3 : Int32))])) rfl (hb hby at_19) rfl (by decide) (cap := 3) (by decide) (by decide) (by decide) (by decide)
  obtain ⟨b1, g1⟩ : ∃ z, z = h0.size := ⟨_, rfl⟩
  have g_b1 : n0 ≤ b1 := Nat.le_trans (O0.1 ▸ O0.2.1) (Nat.le_of_eq g1.symm)
  have sz_b1 : h0.size ≤ b1 := Nat.le_trans (Keep.refl h0 []).1 (Nat.le_of_eq g1.symm)
  rw [← g1] at A1 st1
  have O1 := O0.ext E1
  have K1 : Keep h0 h1 [] := (Keep.refl h0 []).ext E1
  have V1 : Arv Z h1 b1 ka1 .char (3 : Int32) [(.int (0 : Int32)), (.int (0 : Int32)), (.int (0 : Int32))] (.int (0 : Int32)) := (Arv.new A1 (by decide)).pad (pad_rep [] (.int (0 : Int32)) 3)
  have vc2 := V1
  obtain ⟨cl2, Ar2, qk2, S2, Nn2, Hs2, Gf2⟩ := vc2
  have hin2 : ¬ ((0 : Int32) < 0 ∨ cl2.slots.size ≤ ((0 : Int32)).toNatClampNeg) := inb_of S2 ⟨by decide, by decide⟩
  obtain ⟨T3, h3, X3, e3, W3, st3⟩ := stC X1 hx hZ e1 Ar2 (j := (0 : Int32)) hin2 (g := (mkF m 33 #[.val (.int p1), .val (.int p2), .val (.int p3), .val (.int p4), .val (.int (3 : Int32)), .val (.int c0_), .val (.int c1_), .val (.int c2_), .val (.ref b1), .unset, .unset, .unset] [(.int c0_), (.int (0 : Int32)), (.ref b1)])) rfl rfl (hb hby at_33)
  have O3 := O1.wr W3 g_b1
  have K3 : Keep h0 h3 [] := K1.wr W3 (Or.inr sz_b1)
  have N3 := Fr.snoc X3 N0 g_b1
  have f4 : Arv Z h3 b1 ka1 .char (3 : Int32) [(.int (nar .char c0_)), (.int (0 : Int32)), (.int (0 : Int32))] (.int (0 : Int32)) := Arv.set Ar2 qk2 S2 Nn2 Hs2 Gf2 (fits_nar_char _) W3 0 rfl (Nat.le_of_ble_eq_true rfl)
  have vc5 := f4
  obtain ⟨cl5, Ar5, qk5, S5, Nn5, Hs5, Gf5⟩ := vc5
  have hin5 : ¬ ((1 : Int32) < 0 ∨ cl5.slots.size ≤ ((1 : Int32)).toNatClampNeg) := inb_of S5 ⟨by decide, by decide⟩
  obtain ⟨T6, h6, X6, e6, W6, st6⟩ := stC X3 hx hZ e3 Ar5 (j := (1 : Int32)) hin5 (g := (mkF m 45 #[.val (.int p1), .val (.int p2), .val (.int p3), .val (.int p4), .val (.int (3 : Int32)), .val (.int c0_), .val (.int c1_), .val (.int c2_), .val (.ref b1), .unset, .unset, .unset] [(.int c1_), (.int (1 : Int32)), (.ref b1)])) rfl rfl (hb hby at_45)
  have O6 := O3.wr W6 g_b1
  have K6 : Keep h0 h6 [] := K3.wr W6 (Or.inr sz_b1)
  have N6 := Fr.snoc X6 N3 g_b1
  have f7 : Arv Z h6 b1 ka1 .char (3 : Int32) [(.int (nar .char c0_)), (.int (nar .char c1_)), (.int (0 : Int32))] (.int (0 : Int32)) := Arv.set Ar5 qk5 S5 Nn5 Hs5 Gf5 (fits_nar_char _) W6 1 rfl (Nat.le_of_ble_eq_true rfl)
  have vc8 := f7
  obtain ⟨cl8, Ar8, qk8, S8, Nn8, Hs8, Gf8⟩ := vc8
  have hin8 : ¬ ((2 : Int32) < 0 ∨ cl8.slots.size ≤ ((2 : Int32)).toNatClampNeg) := inb_of S8 ⟨by decide, by decide⟩
  obtain ⟨T9, h9, X9, e9, W9, st9⟩ := stC X6 hx hZ e6 Ar8 (j := (2 : Int32)) hin8 (g := (mkF m 57 #[.val (.int p1), .val (.int p2), .val (.int p3), .val (.int p4), .val (.int (3 : Int32)), .val (.int c0_), .val (.int c1_), .val (.int c2_), .val (.ref b1), .unset, .unset, .unset] [(.int c2_), (.int (2 : Int32)), (.ref b1)])) rfl rfl (hb hby at_57)
  have O9 := O6.wr W9 g_b1
  have K9 : Keep h0 h9 [] := K6.wr W9 (Or.inr sz_b1)
  have N9 := Fr.snoc X9 N6 g_b1
  have f10 : Arv Z h9 b1 ka1 .char (3 : Int32) [(.int (nar .char c0_)), (.int (nar .char c1_)), (.int (nar .char c2_))] (.int (0 : Int32)) := Arv.set Ar8 qk8 S8 Nn8 Hs8 Gf8 (fits_nar_char _) W9 2 rfl (Nat.le_of_ble_eq_true rfl)
  have hn_ : [c0_, c1_, c2_].length ≤ 4 := Nat.le_of_ble_eq_true rfl
  have hB_ : own_Bd [c0_, c1_, c2_] := own_all3 (P := fun z => ¬ (z < (0 : Int32)) ∧ ¬ ((65535 : Int32) < z)) ⟨hz0_, hm0_⟩ ⟨hz1_, hm1_⟩ ⟨hz2_, hm2_⟩
  have h1_ : 1 ≤ [c0_, c1_, c2_].length := Nat.le_of_ble_eq_true rfl
  have V58 : Arv Z h9 b1 ka1 .char [c0_, c1_, c2_].length.toInt32 ([c0_, c1_, c2_].map Value.int) (.int (0 : Int32)) := by
    have q := f10
    rw [own_nc hz0_ hm0_, own_nc hz1_ hm1_, own_nc hz2_ hm2_] at q
    exact q
  obtain ⟨T11, h11, X11, e11, E11, A11, D11, -, st11⟩ := newO X9 hx hZ hown (own_w hw 1 rfl) (own_w hw 2 rfl) (own_w hw 3 rfl) e9 (g := (mkF m 58 #[.val (.int p1), .val (.int p2), .val (.int p3), .val (.int p4), .val (.int (3 : Int32)), .val (.int c0_), .val (.int c1_), .val (.int c2_), .val (.ref b1), .unset, .unset, .unset] [])) rfl (hb hby at_58) (by decide) (by decide)
  obtain ⟨b11, g11⟩ : ∃ z, z = h9.size := ⟨_, rfl⟩
  have ne_b1_b11 : b1 ≠ b11 := Nat.ne_of_lt (Nat.lt_of_lt_of_le V58.lt (Nat.le_of_eq g11.symm))
  have g_b11 : n0 ≤ b11 := Nat.le_trans (O9.1 ▸ O9.2.1) (Nat.le_of_eq g11.symm)
  have sz_b11 : h0.size ≤ b11 := Nat.le_trans K9.1 (Nat.le_of_eq g11.symm)
  rw [← g11] at A11 D11 st11
  have f12 := V58.ext E11
  have O11 := O9.ext E11
  have K11 : Keep h0 h11 [] := K9.ext E11
  have F11_16 : Fld Z h11 b11 "java/lang/String" "value" "[B" .null := D11 (Or.inr (own_w hw 16 rfl)) (ty := (.array .byte)) (by decide)
  have F11_17 : Fld Z h11 b11 "java/lang/String" "coder" "B" (.int (0 : Int32)) := D11 (Or.inr (own_w hw 17 rfl)) (ty := .byte) (by decide)
  obtain ⟨LL13, X13, N13⟩ : ∃ LL, Stand p l e room_1 s m #[(.int p1), (.int p2), (.int p3), (.int p4)] below meth c T11 LL 2 7 ∧ Fr n0 LL := ⟨_, X11, N9⟩
  obtain ⟨_, _, ⟨T14, L14, k14, n14⟩, -, X14, ⟨Lc14, hQ14, l14, y14, z14⟩, st14⟩ := X13.specialBack hx (y := Y15_) rfl hown (mvT hZ (own_w hw 4 rfl)) (mvT hZ (own_w hw 5 rfl)) (mvT hZ (own_w hw 6 rfl)) (by decide) (backOf (W := 1) (r_new l Z a0 hw [] cs1 fv h11 n0 O11 G0 b11 b1 ka1 [c0_, c1_, c2_] A11 g_b11 F11_17 F11_16 f12 ne_b1_b11 hn_ h1_ hB_) hZ (own_w hw 6 rfl) (own_w hw 3 rfl) (by decide) (by decide)) (g := (mkF m 64 #[.val (.int p1), .val (.int p2), .val (.int p3), .val (.int p4), .val (.int (3 : Int32)), .val (.int c0_), .val (.int c1_), .val (.int c2_), .val (.ref b1), .unset, .unset, .unset] [(.ref b1), (.ref b11), (.ref b11)])) rfl (by rw [hml]; rfl) (Steps.refl _) (a := b11) (argsL := [(.ref b1)]) (rest := [(.ref b11)]) (lenOf pd_24 rfl) rfl (by show 2 * 0 + _ ≤ _; exact Nat.le_of_eq rfl) (hb hby at_64) (fun _ _ => ⟨rfl, e11, (by decide : 2 + 2 ≤ _), (by decide : 7 + 12 ≤ _)⟩)
  dsimp only [Pt.U, Pt.locs, Pt.cells, Pt.slots] at X14 l14 y14 z14 st14 hQ14
  subst l14 y14 z14
  obtain ⟨rfl, N14q, Kq14, Sq14⟩ := hQ14
  have N14 := Fr.app N13 N14q
  have f15 := f12.keep Kq14 (fun q => (List.mem_cons.mp q).elim ne_b1_b11 (fun q => nomatch q))
  have f16 := A11.keep Kq14
  have O14 := O11.keep Kq14 (allS g_b11 all0)
  have K14 : Keep h0 T14.heap [] := K11.trans Kq14 (allS (Or.inr sz_b11) all0)
  obtain ⟨_, _, ⟨T17, L17, k17, n17⟩, -, X17, ⟨Lc17, hQ17, l17, y17, z17⟩, st17⟩ := Jvm.LawKit.callS X14 hx (y := Y31_) hown (mvT hZ (own_w hw 22 rfl)) (mvT hZ (own_w hw 23 rfl)) (mvT hZ (own_w hw 24 rfl)) (mvT hZ (own_w hw 25 rfl)) (by decide) (backOf (W := 0) (r_of l Z a0 hw [] cs1 fv T14.heap n0 O14 G0 b11 [c0_, c1_, c2_] Sq14 hn_ hB_) hZ (own_w hw 25 rfl) (own_w hw 24 rfl) (by decide) (by decide)) (g := (mkF m 71 #[.val (.int p1), .val (.int p2), .val (.int p3), .val (.int p4), .val (.int (3 : Int32)), .val (.int c0_), .val (.int c1_), .val (.int c2_), .val (.ref b1), .val (.ref b11), .unset, .unset] [(.ref b11)])) rfl (by rw [hml]; rfl) (argsL := [(.ref b11)]) (rest := []) (lenOf pd_25 rfl) rfl (by show 2 * 0 + _ ≤ _; exact Nat.le_of_eq rfl) (hb hby at_71) (fun _ _ => ⟨rfl, rfl, (by decide : 4 + 4 ≤ _), (by decide : 19 + 20 ≤ _)⟩)
  dsimp only [Pt.U, Pt.locs, Pt.cells, Pt.slots] at X17 l17 y17 z17 st17 hQ17
  subst l17 y17 z17
  obtain ⟨t17, rfl, N17q, Kq17, So17, hs17⟩ := hQ17
  have N17 := Fr.app N14 N17q
  have f18 := f15.keep Kq17 (fun q => nomatch q)
  have f19 := f16.keep Kq17
  have O17 := O14.keep Kq17 all0
  have K17 : Keep h0 T17.heap [] := K14.trans Kq17 all0
  have f20 := own_Str_keep Kq17 Sq14
  obtain ⟨cq21, kq21, q21a, q21b, q21c⟩ := isOf hZ rfl (own_Str_exa So17)
  obtain ⟨_, _, ⟨T21, L21, k21, n21⟩, -, X21, ⟨Lc21, hQ21, l21, y21, z21⟩, st21⟩ := X17.virtualBack hx (y := Y18_) (z := Y18_) hown (mvT hZ (own_w hw 37 rfl)) (mvT hZ (own_w hw 27 rfl)) (notFace_of_selects (args := #[]) (mvT hZ (own_w hw 29 rfl))) (mvT hZ (own_w hw 29 rfl)) (mvT hZ (own_w hw 28 rfl)) (by decide) (backOf (W := 0) (r_len l Z a0 hw [] cs1 fv T17.heap n0 O17 G0 t17 ([c0_, c1_, c2_].map own_exp) So17 (own_lenm hn_)) hZ (own_w hw 30 rfl) (own_w hw 3 rfl) (by decide) (by decide)) q21a q21c (g := (mkF m 78 #[.val (.int p1), .val (.int p2), .val (.int p3), .val (.int p4), .val (.int (3 : Int32)), .val (.int c0_), .val (.int c1_), .val (.int c2_), .val (.ref b1), .val (.ref b11), .val (.ref t17), .unset] [(.ref t17)])) rfl (by rw [hml]; rfl) (Steps.refl _) (argsL := []) (rest := []) (lenOf pd_21 rfl) rfl (by show 2 * 0 + _ ≤ _; exact Nat.le_of_eq rfl) (hb hby at_78) (fun _ _ => ⟨rfl, rfl, (by decide : 8 + 0 ≤ _), (by decide : 39 + 0 ≤ _)⟩)
  dsimp only [Pt.U, Pt.locs, Pt.cells, Pt.slots] at X21 l21 y21 z21 st21 hQ21
  subst l21 y21 z21
  obtain ⟨rfl, N21q, e21⟩ := hQ21
  have N21 := Fr.app N17 N21q
  obtain ⟨cq22, kq22, q22a, q22b, q22c⟩ := isOf hZ e21 (own_Str_exa So17)
  obtain ⟨_, _, ⟨T22, L22, k22, n22⟩, -, X22, ⟨Lc22, hQ22, l22, y22, z22⟩, st22⟩ := X21.virtualBack hx (y := Y19_) (z := Y19_) hown (mvT hZ (own_w hw 73 rfl)) (mvT hZ (own_w hw 49 rfl)) (notFace_of_selects (args := #[]) (mvT hZ (own_w hw 51 rfl))) (mvT hZ (own_w hw 51 rfl)) (mvT hZ (own_w hw 50 rfl)) (by decide) (backOf (W := 0) (r_ch l Z a0 hw [] cs1 fv T17.heap n0 O17 G0 t17 ([c0_, c1_, c2_].map own_exp) So17 0 (Nat.le_of_ble_eq_true rfl) (own_lenm hn_) (own_Bd_exp hB_)) hZ (own_w hw 52 rfl) (own_w hw 3 rfl) (by decide) (by decide)) q22a q22c (g := (mkF m 99 #[.val (.int p1), .val (.int p2), .val (.int p3), .val (.int p4), .val (.int (3 : Int32)), .val (.int c0_), .val (.int c1_), .val (.int c2_), .val (.ref b1), .val (.ref b11), .val (.ref t17), .val (.int (0 : Int32))] [(.int (0 : Int32)), (.ref t17)])) rfl (by rw [hml]; rfl) (Steps.refl _) (argsL := [(.int (0 : Int32))]) (rest := []) (lenOf pd_22 rfl) rfl (by show 2 * 0 + _ ≤ _; exact Nat.le_of_eq rfl) (hb hby at_99) (fun _ _ => ⟨rfl, e21, (by decide : 8 + 0 ≤ _), (by decide : 39 + 0 ≤ _)⟩)
  dsimp only [Pt.U, Pt.locs, Pt.cells, Pt.slots] at X22 l22 y22 z22 st22 hQ22
  subst l22 y22 z22
  obtain ⟨rfl, N22q, e22⟩ := hQ22
  have N22 := Fr.app N21 N22q
  obtain ⟨_, _, ⟨T23, L23, k23, n23⟩, -, X23, ⟨Lc23, hQ23, l23, y23, z23⟩, st23⟩ := Jvm.LawKit.callS X22 hx (y := Y30_) hown (mvT hZ (own_w hw 74 rfl)) (mvT hZ (own_w hw 75 rfl)) (mvT hZ (own_w hw 76 rfl)) (mvT hZ (own_w hw 77 rfl)) (by decide) (backOf (W := 1) (r_ex l Z a0 hw [] cs1 fv T17.heap n0 O17 G0 c0_ hz0_ hm0_) hZ (own_w hw 77 rfl) (own_w hw 76 rfl) (by decide) (by decide)) (g := (mkF m 104 #[.val (.int p1), .val (.int p2), .val (.int p3), .val (.int p4), .val (.int (3 : Int32)), .val (.int c0_), .val (.int c1_), .val (.int c2_), .val (.ref b1), .val (.ref b11), .val (.ref t17), .val (.int (0 : Int32))] [(.int c0_), (.int (own_exp c0_))])) rfl (by rw [hml]; rfl) (argsL := [(.int c0_)]) (rest := [(.int (own_exp c0_))]) (lenOf pd_26 rfl) rfl (by show 2 * 0 + _ ≤ _; exact Nat.le_of_eq rfl) (hb hby at_104) (fun _ _ => ⟨rfl, e22, (by decide : 8 + 0 ≤ _), (by decide : 39 + 0 ≤ _)⟩)
  dsimp only [Pt.U, Pt.locs, Pt.cells, Pt.slots] at X23 l23 y23 z23 st23 hQ23
  subst l23 y23 z23
  obtain ⟨rfl, N23q, e23⟩ := hQ23
  have N23 := Fr.app N22 N23q
  obtain ⟨_, _, ⟨T24, L24, k24, n24⟩, -, X24, ⟨Lc24, hQ24, l24, y24, z24⟩, st24⟩ := Jvm.LawKit.callS X23 hx (y := Y29_) hown (mvT hZ (own_w hw 78 rfl)) (mvT hZ (own_w hw 79 rfl)) (mvT hZ (own_w hw 76 rfl)) (mvT hZ (own_w hw 80 rfl)) (by decide) (backOf (W := 0) (r_ibT l Z a0 hw [] cs1 fv T17.heap n0 O17 G0 c0_ hq0_) hZ (own_w hw 80 rfl) (own_w hw 76 rfl) (by decide) (by decide)) (g := (mkF m 119 #[.val (.int p1), .val (.int p2), .val (.int p3), .val (.int p4), .val (.int (3 : Int32)), .val (.int c0_), .val (.int c1_), .val (.int c2_), .val (.ref b1), .val (.ref b11), .val (.ref t17), .val (.int (0 : Int32))] [(.int c0_)])) rfl (by rw [hml]; rfl) (argsL := [(.int c0_)]) (rest := []) (lenOf pd_20 rfl) rfl (by show 2 * 0 + _ ≤ _; exact Nat.le_of_eq rfl) (hb hby at_119) (fun _ _ => ⟨rfl, e23, (by decide : 8 + 0 ≤ _), (by decide : 39 + 0 ≤ _)⟩)
  dsimp only [Pt.U, Pt.locs, Pt.cells, Pt.slots] at X24 l24 y24 z24 st24 hQ24
  subst l24 y24 z24
  obtain ⟨rfl, N24q, e24⟩ := hQ24
  have N24 := Fr.app N23 N24q
  obtain ⟨cq25, kq25, q25a, q25b, q25c⟩ := isOf hZ e24 (own_Str_exa So17)
  obtain ⟨_, _, ⟨T25, L25, k25, n25⟩, -, X25, ⟨Lc25, hQ25, l25, y25, z25⟩, st25⟩ := X24.virtualBack hx (y := Y19_) (z := Y19_) hown (mvT hZ (own_w hw 73 rfl)) (mvT hZ (own_w hw 49 rfl)) (notFace_of_selects (args := #[]) (mvT hZ (own_w hw 51 rfl))) (mvT hZ (own_w hw 51 rfl)) (mvT hZ (own_w hw 50 rfl)) (by decide) (backOf (W := 0) (r_ch l Z a0 hw [] cs1 fv T17.heap n0 O17 G0 t17 ([c0_, c1_, c2_].map own_exp) So17 1 (Nat.le_of_ble_eq_true rfl) (own_lenm hn_) (own_Bd_exp hB_)) hZ (own_w hw 52 rfl) (own_w hw 3 rfl) (by decide) (by decide)) q25a q25c (g := (mkF m 141 #[.val (.int p1), .val (.int p2), .val (.int p3), .val (.int p4), .val (.int (3 : Int32)), .val (.int c0_), .val (.int c1_), .val (.int c2_), .val (.ref b1), .val (.ref b11), .val (.ref t17), .val (.int (1 : Int32))] [(.int (1 : Int32)), (.ref t17)])) rfl (by rw [hml]; rfl) (Steps.refl _) (argsL := [(.int (1 : Int32))]) (rest := []) (lenOf pd_22 rfl) rfl (by show 2 * 0 + _ ≤ _; exact Nat.le_of_eq rfl) (hb hby at_141) (fun _ _ => ⟨rfl, e24, (by decide : 8 + 0 ≤ _), (by decide : 39 + 0 ≤ _)⟩)
  dsimp only [Pt.U, Pt.locs, Pt.cells, Pt.slots] at X25 l25 y25 z25 st25 hQ25
  subst l25 y25 z25
  obtain ⟨rfl, N25q, e25⟩ := hQ25
  have N25 := Fr.app N24 N25q
  obtain ⟨_, _, ⟨T26, L26, k26, n26⟩, -, X26, ⟨Lc26, hQ26, l26, y26, z26⟩, st26⟩ := Jvm.LawKit.callS X25 hx (y := Y30_) hown (mvT hZ (own_w hw 74 rfl)) (mvT hZ (own_w hw 75 rfl)) (mvT hZ (own_w hw 76 rfl)) (mvT hZ (own_w hw 77 rfl)) (by decide) (backOf (W := 1) (r_ex l Z a0 hw [] cs1 fv T17.heap n0 O17 G0 c1_ hz1_ hm1_) hZ (own_w hw 77 rfl) (own_w hw 76 rfl) (by decide) (by decide)) (g := (mkF m 146 #[.val (.int p1), .val (.int p2), .val (.int p3), .val (.int p4), .val (.int (3 : Int32)), .val (.int c0_), .val (.int c1_), .val (.int c2_), .val (.ref b1), .val (.ref b11), .val (.ref t17), .val (.int (1 : Int32))] [(.int c1_), (.int (own_exp c1_))])) rfl (by rw [hml]; rfl) (argsL := [(.int c1_)]) (rest := [(.int (own_exp c1_))]) (lenOf pd_26 rfl) rfl (by show 2 * 0 + _ ≤ _; exact Nat.le_of_eq rfl) (hb hby at_146) (fun _ _ => ⟨rfl, e25, (by decide : 8 + 0 ≤ _), (by decide : 39 + 0 ≤ _)⟩)
  dsimp only [Pt.U, Pt.locs, Pt.cells, Pt.slots] at X26 l26 y26 z26 st26 hQ26
  subst l26 y26 z26
  obtain ⟨rfl, N26q, e26⟩ := hQ26
  have N26 := Fr.app N25 N26q
  obtain ⟨cq27, kq27, q27a, q27b, q27c⟩ := isOf hZ e26 (own_Str_exa So17)
  obtain ⟨_, _, ⟨T27, L27, k27, n27⟩, -, X27, ⟨Lc27, hQ27, l27, y27, z27⟩, st27⟩ := X26.virtualBack hx (y := Y19_) (z := Y19_) hown (mvT hZ (own_w hw 73 rfl)) (mvT hZ (own_w hw 49 rfl)) (notFace_of_selects (args := #[]) (mvT hZ (own_w hw 51 rfl))) (mvT hZ (own_w hw 51 rfl)) (mvT hZ (own_w hw 50 rfl)) (by decide) (backOf (W := 0) (r_ch l Z a0 hw [] cs1 fv T17.heap n0 O17 G0 t17 ([c0_, c1_, c2_].map own_exp) So17 2 (Nat.le_of_ble_eq_true rfl) (own_lenm hn_) (own_Bd_exp hB_)) hZ (own_w hw 52 rfl) (own_w hw 3 rfl) (by decide) (by decide)) q27a q27c (g := (mkF m 183 #[.val (.int p1), .val (.int p2), .val (.int p3), .val (.int p4), .val (.int (3 : Int32)), .val (.int c0_), .val (.int c1_), .val (.int c2_), .val (.ref b1), .val (.ref b11), .val (.ref t17), .val (.int (1 : Int32))] [(.int (2 : Int32)), (.ref t17)])) rfl (by rw [hml]; rfl) (Steps.refl _) (argsL := [(.int (2 : Int32))]) (rest := []) (lenOf pd_22 rfl) rfl (by show 2 * 0 + _ ≤ _; exact Nat.le_of_eq rfl) (hb hby at_183) (fun _ _ => ⟨rfl, e26, (by decide : 8 + 0 ≤ _), (by decide : 39 + 0 ≤ _)⟩)
  dsimp only [Pt.U, Pt.locs, Pt.cells, Pt.slots] at X27 l27 y27 z27 st27 hQ27
  subst l27 y27 z27
  obtain ⟨rfl, N27q, e27⟩ := hQ27
  have N27 := Fr.app N26 N27q
  obtain ⟨_, _, ⟨T28, L28, k28, n28⟩, -, X28, ⟨Lc28, hQ28, l28, y28, z28⟩, st28⟩ := Jvm.LawKit.callS X27 hx (y := Y30_) hown (mvT hZ (own_w hw 74 rfl)) (mvT hZ (own_w hw 75 rfl)) (mvT hZ (own_w hw 76 rfl)) (mvT hZ (own_w hw 77 rfl)) (by decide) (backOf (W := 1) (r_ex l Z a0 hw [] cs1 fv T17.heap n0 O17 G0 c2_ hz2_ hm2_) hZ (own_w hw 77 rfl) (own_w hw 76 rfl) (by decide) (by decide)) (g := (mkF m 188 #[.val (.int p1), .val (.int p2), .val (.int p3), .val (.int p4), .val (.int (3 : Int32)), .val (.int c0_), .val (.int c1_), .val (.int c2_), .val (.ref b1), .val (.ref b11), .val (.ref t17), .val (.int (1 : Int32))] [(.int c2_), (.int (own_exp c2_))])) rfl (by rw [hml]; rfl) (argsL := [(.int c2_)]) (rest := [(.int (own_exp c2_))]) (lenOf pd_26 rfl) rfl (by show 2 * 0 + _ ≤ _; exact Nat.le_of_eq rfl) (hb hby at_188) (fun _ _ => ⟨rfl, e27, (by decide : 8 + 0 ≤ _), (by decide : 39 + 0 ≤ _)⟩)
  dsimp only [Pt.U, Pt.locs, Pt.cells, Pt.slots] at X28 l28 y28 z28 st28 hQ28
  subst l28 y28 z28
  obtain ⟨rfl, N28q, e28⟩ := hQ28
  have N28 := Fr.app N27 N28q
  obtain ⟨fs, hr, hrun, hended, hW, hsame⟩ := X28.leave (v := some (.int (1 : Int32))) (fun h => by rw [Bd.returns] at h; cases h)
  refine ⟨_, _, pre0 _ ?_, hrun, hended, _, _, rfl, ?_, ⟨_, rfl⟩, hW, hsame.mono (by decide) (by decide)⟩
  · show Steps p.tables e below (s₁.setTop (mkF m 0 #[.val (.int p1), .val (.int p2), .val (.int p3), .val (.int p4), .unset, .unset, .unset, .unset, .unset, .unset, .unset, .unset] [])) _
    refine XS.iloadN X0.here hx rfl (hb hby at_0) rfl ?_
    refine XS.iconst X0.here hx rfl (hb hby at_1) ?_
    refine XS.iand X0.here hx rfl (hb hby at_2) rfl ?_
    show Steps p.tables e below (s₁.setTop (mkF m 3 #[.val (.int p1), .val (.int p2), .val (.int p3), .val (.int p4), .unset, .unset, .unset, .unset, .unset, .unset, .unset, .unset] [(.int (p1 &&& (3 : Int32)))])) _
    rw [hl]
    refine XS.istore X0.here hx rfl (hb hby at_3) rfl (l' := #[.val (.int p1), .val (.int p2), .val (.int p3), .val (.int p4), .val (.int (3 : Int32)), .unset, .unset, .unset, .unset, .unset, .unset, .unset]) rfl ?_
    refine XS.iloadN X0.here hx rfl (hb hby at_5) rfl ?_
    refine XS.i2c X0.here hx rfl (hb hby at_6) rfl ?_
    show Steps p.tables e below (s₁.setTop (mkF m 7 #[.val (.int p1), .val (.int p2), .val (.int p3), .val (.int p4), .val (.int (3 : Int32)), .unset, .unset, .unset, .unset, .unset, .unset, .unset] [(.int (p2.toUInt32.toUInt16.toUInt32.toInt32))])) _
    rw [he0]
    refine XS.istore X0.here hx rfl (hb hby at_7) rfl (l' := #[.val (.int p1), .val (.int p2), .val (.int p3), .val (.int p4), .val (.int (3 : Int32)), .val (.int c0_), .unset, .unset, .unset, .unset, .unset, .unset]) rfl ?_
    refine XS.iloadN X0.here hx rfl (hb hby at_9) rfl ?_
    refine XS.i2c X0.here hx rfl (hb hby at_10) rfl ?_
    show Steps p.tables e below (s₁.setTop (mkF m 11 #[.val (.int p1), .val (.int p2), .val (.int p3), .val (.int p4), .val (.int (3 : Int32)), .val (.int c0_), .unset, .unset, .unset, .unset, .unset, .unset] [(.int (p3.toUInt32.toUInt16.toUInt32.toInt32))])) _
    rw [he1]
    refine XS.istore X0.here hx rfl (hb hby at_11) rfl (l' := #[.val (.int p1), .val (.int p2), .val (.int p3), .val (.int p4), .val (.int (3 : Int32)), .val (.int c0_), .val (.int c1_), .unset, .unset, .unset, .unset, .unset]) rfl ?_
    show Steps p.tables e below (s₁.setTop (mkF m 13 #[.val (.int p1), .val (.int p2), .val (.int p3), .val (.int p4), .val (.int (3 : Int32)), .val (.int c0_), .val (.int c1_), .unset, .unset, .unset, .unset, .unset] [])) _
    refine XS.iloadN X0.here hx rfl (hb hby at_13) rfl ?_
    refine XS.i2c X0.here hx rfl (hb hby at_14) rfl ?_
    show Steps p.tables e below (s₁.setTop (mkF m 15 #[.val (.int p1), .val (.int p2), .val (.int p3), .val (.int p4), .val (.int (3 : Int32)), .val (.int c0_), .val (.int c1_), .unset, .unset, .unset, .unset, .unset] [(.int (p4.toUInt32.toUInt16.toUInt32.toInt32))])) _
    rw [he2]
    refine XS.istore X0.here hx rfl (hb hby at_15) rfl (l' := #[.val (.int p1), .val (.int p2), .val (.int p3), .val (.int p4), .val (.int (3 : Int32)), .val (.int c0_), .val (.int c1_), .val (.int c2_), .unset, .unset, .unset, .unset]) rfl ?_
    refine XS.iload X0.here hx rfl (hb hby at_17) rfl ?_
    show Steps p.tables e below (s₁.setTop (mkF m 19 #[.val (.int p1), .val (.int p2), .val (.int p3), .val (.int p4), .val (.int (3 : Int32)), .val (.int c0_), .val (.int c1_), .val (.int c2_), .unset, .unset, .unset, .unset] [(.int (3 : Int32))])) _
    refine st1 _ ?_
    show Steps p.tables e below (T1.setTop (mkF m 21 #[.val (.int p1), .val (.int p2), .val (.int p3), .val (.int p4), .val (.int (3 : Int32)), .val (.int c0_), .val (.int c1_), .val (.int c2_), .unset, .unset, .unset, .unset] [(.ref b1)])) _
    refine XS.astore X1.here hx rfl (hb hby at_21) rfl rfl (l' := #[.val (.int p1), .val (.int p2), .val (.int p3), .val (.int p4), .val (.int (3 : Int32)), .val (.int c0_), .val (.int c1_), .val (.int c2_), .val (.ref b1), .unset, .unset, .unset]) rfl ?_
    refine XS.iload X1.here hx rfl (hb hby at_23) rfl ?_
    refine XS.ifNo X1.here hx rfl (hb hby at_25) rfl ((if0 _ _).trans (tlt (by decide : (0 : Int32) < (3 : Int32))).2.2.2) ?_
    refine XS.aload X1.here hx rfl (hb hby at_28) rfl rfl ?_
    refine XS.iconst X1.here hx rfl (hb hby at_30) ?_
    refine XS.iload X1.here hx rfl (hb hby at_31) rfl ?_
    show Steps p.tables e below (T1.setTop (mkF m 33 #[.val (.int p1), .val (.int p2), .val (.int p3), .val (.int p4), .val (.int (3 : Int32)), .val (.int c0_), .val (.int c1_), .val (.int c2_), .val (.ref b1), .unset, .unset, .unset] [(.int c0_), (.int (0 : Int32)), (.ref b1)])) _
    refine st3 _ ?_
    show Steps p.tables e below (T3.setTop (mkF m 34 #[.val (.int p1), .val (.int p2), .val (.int p3), .val (.int p4), .val (.int (3 : Int32)), .val (.int c0_), .val (.int c1_), .val (.int c2_), .val (.ref b1), .unset, .unset, .unset] [])) _
    refine XS.iload X3.here hx rfl (hb hby at_34) rfl ?_
    refine XS.iconst X3.here hx rfl (hb hby at_36) ?_
    refine XS.icmpNo X3.here hx rfl (hb hby at_37) rfl (tlt (by decide : (1 : Int32) < (3 : Int32))).2.2.2 ?_
    refine XS.aload X3.here hx rfl (hb hby at_40) rfl rfl ?_
    refine XS.iconst X3.here hx rfl (hb hby at_42) ?_
    refine XS.iload X3.here hx rfl (hb hby at_43) rfl ?_
    show Steps p.tables e below (T3.setTop (mkF m 45 #[.val (.int p1), .val (.int p2), .val (.int p3), .val (.int p4), .val (.int (3 : Int32)), .val (.int c0_), .val (.int c1_), .val (.int c2_), .val (.ref b1), .unset, .unset, .unset] [(.int c1_), (.int (1 : Int32)), (.ref b1)])) _
    refine st6 _ ?_
    show Steps p.tables e below (T6.setTop (mkF m 46 #[.val (.int p1), .val (.int p2), .val (.int p3), .val (.int p4), .val (.int (3 : Int32)), .val (.int c0_), .val (.int c1_), .val (.int c2_), .val (.ref b1), .unset, .unset, .unset] [])) _
    refine XS.iload X6.here hx rfl (hb hby at_46) rfl ?_
    refine XS.iconst X6.here hx rfl (hb hby at_48) ?_
    refine XS.icmpNo X6.here hx rfl (hb hby at_49) rfl (tlt (by decide : (2 : Int32) < (3 : Int32))).2.2.2 ?_
    refine XS.aload X6.here hx rfl (hb hby at_52) rfl rfl ?_
    refine XS.iconst X6.here hx rfl (hb hby at_54) ?_
    refine XS.iload X6.here hx rfl (hb hby at_55) rfl ?_
    show Steps p.tables e below (T6.setTop (mkF m 57 #[.val (.int p1), .val (.int p2), .val (.int p3), .val (.int p4), .val (.int (3 : Int32)), .val (.int c0_), .val (.int c1_), .val (.int c2_), .val (.ref b1), .unset, .unset, .unset] [(.int c2_), (.int (2 : Int32)), (.ref b1)])) _
    refine st9 _ ?_
    show Steps p.tables e below (T9.setTop (mkF m 58 #[.val (.int p1), .val (.int p2), .val (.int p3), .val (.int p4), .val (.int (3 : Int32)), .val (.int c0_), .val (.int c1_), .val (.int c2_), .val (.ref b1), .unset, .unset, .unset] [])) _
    refine st11 _ ?_
    show Steps p.tables e below (T11.setTop (mkF m 61 #[.val (.int p1), .val (.int p2), .val (.int p3), .val (.int p4), .val (.int (3 : Int32)), .val (.int c0_), .val (.int c1_), .val (.int c2_), .val (.ref b1), .unset, .unset, .unset] [(.ref b11)])) _
    refine XS.dup X11.here hx rfl (hb hby at_61) rfl rfl ?_
    refine XS.aload X11.here hx rfl (hb hby at_62) rfl rfl ?_
    show Steps p.tables e below (T11.setTop (mkF m 64 #[.val (.int p1), .val (.int p2), .val (.int p3), .val (.int p4), .val (.int (3 : Int32)), .val (.int c0_), .val (.int c1_), .val (.int c2_), .val (.ref b1), .unset, .unset, .unset] [(.ref b1), (.ref b11), (.ref b11)])) _
    refine st14.trans ?_
    show Steps p.tables e below (T14.setTop (mkF m 67 #[.val (.int p1), .val (.int p2), .val (.int p3), .val (.int p4), .val (.int (3 : Int32)), .val (.int c0_), .val (.int c1_), .val (.int c2_), .val (.ref b1), .unset, .unset, .unset] [(.ref b11)])) _
    refine XS.astore X14.here hx rfl (hb hby at_67) rfl rfl (l' := #[.val (.int p1), .val (.int p2), .val (.int p3), .val (.int p4), .val (.int (3 : Int32)), .val (.int c0_), .val (.int c1_), .val (.int c2_), .val (.ref b1), .val (.ref b11), .unset, .unset]) rfl ?_
    refine XS.aload X14.here hx rfl (hb hby at_69) rfl rfl ?_
    show Steps p.tables e below (T14.setTop (mkF m 71 #[.val (.int p1), .val (.int p2), .val (.int p3), .val (.int p4), .val (.int (3 : Int32)), .val (.int c0_), .val (.int c1_), .val (.int c2_), .val (.ref b1), .val (.ref b11), .unset, .unset] [(.ref b11)])) _
    refine st17 _ ?_
    show Steps p.tables e below (T17.setTop (mkF m 74 #[.val (.int p1), .val (.int p2), .val (.int p3), .val (.int p4), .val (.int (3 : Int32)), .val (.int c0_), .val (.int c1_), .val (.int c2_), .val (.ref b1), .val (.ref b11), .unset, .unset] [(.ref t17)])) _
    refine XS.astore X17.here hx rfl (hb hby at_74) rfl rfl (l' := #[.val (.int p1), .val (.int p2), .val (.int p3), .val (.int p4), .val (.int (3 : Int32)), .val (.int c0_), .val (.int c1_), .val (.int c2_), .val (.ref b1), .val (.ref b11), .val (.ref t17), .unset]) rfl ?_
    refine XS.aload X17.here hx rfl (hb hby at_76) rfl rfl ?_
    show Steps p.tables e below (T17.setTop (mkF m 78 #[.val (.int p1), .val (.int p2), .val (.int p3), .val (.int p4), .val (.int (3 : Int32)), .val (.int c0_), .val (.int c1_), .val (.int c2_), .val (.ref b1), .val (.ref b11), .val (.ref t17), .unset] [(.ref t17)])) _
    refine st21.trans ?_
    show Steps p.tables e below (T21.setTop (mkF m 81 #[.val (.int p1), .val (.int p2), .val (.int p3), .val (.int p4), .val (.int (3 : Int32)), .val (.int c0_), .val (.int c1_), .val (.int c2_), .val (.ref b1), .val (.ref b11), .val (.ref t17), .unset] [(.int (3 : Int32))])) _
    refine XS.iload X21.here hx rfl (hb hby at_81) rfl ?_
    refine XS.icmpYes X21.here hx rfl (pc0 := 83) (pc' := 88) rfl (hb hby at_83) rfl (teq (by decide : (3 : Int32) = (3 : Int32))).1 (by decide) (by decide) ?_
    refine XS.iconst X21.here hx rfl (hb hby at_88) ?_
    refine XS.istore X21.here hx rfl (hb hby at_89) rfl (l' := #[.val (.int p1), .val (.int p2), .val (.int p3), .val (.int p4), .val (.int (3 : Int32)), .val (.int c0_), .val (.int c1_), .val (.int c2_), .val (.ref b1), .val (.ref b11), .val (.ref t17), .val (.int (0 : Int32))]) rfl ?_
    refine XS.iload X21.here hx rfl (hb hby at_91) rfl ?_
    refine XS.ifNo X21.here hx rfl (hb hby at_93) rfl ((if0 _ _).trans (tlt (by decide : (0 : Int32) < (3 : Int32))).2.2.2) ?_
    refine XS.aload X21.here hx rfl (hb hby at_96) rfl rfl ?_
    refine XS.iconst X21.here hx rfl (hb hby at_98) ?_
    show Steps p.tables e below (T21.setTop (mkF m 99 #[.val (.int p1), .val (.int p2), .val (.int p3), .val (.int p4), .val (.int (3 : Int32)), .val (.int c0_), .val (.int c1_), .val (.int c2_), .val (.ref b1), .val (.ref b11), .val (.ref t17), .val (.int (0 : Int32))] [(.int (0 : Int32)), (.ref t17)])) _
    refine st22.trans ?_
    show Steps p.tables e below (T22.setTop (mkF m 102 #[.val (.int p1), .val (.int p2), .val (.int p3), .val (.int p4), .val (.int (3 : Int32)), .val (.int c0_), .val (.int c1_), .val (.int c2_), .val (.ref b1), .val (.ref b11), .val (.ref t17), .val (.int (0 : Int32))] [(.int (own_exp c0_))])) _
    refine XS.iload X22.here hx rfl (hb hby at_102) rfl ?_
    show Steps p.tables e below (T22.setTop (mkF m 104 #[.val (.int p1), .val (.int p2), .val (.int p3), .val (.int p4), .val (.int (3 : Int32)), .val (.int c0_), .val (.int c1_), .val (.int c2_), .val (.ref b1), .val (.ref b11), .val (.ref t17), .val (.int (0 : Int32))] [(.int c0_), (.int (own_exp c0_))])) _
    refine st23 _ ?_
    show Steps p.tables e below (T23.setTop (mkF m 107 #[.val (.int p1), .val (.int p2), .val (.int p3), .val (.int p4), .val (.int (3 : Int32)), .val (.int c0_), .val (.int c1_), .val (.int c2_), .val (.ref b1), .val (.ref b11), .val (.ref t17), .val (.int (0 : Int32))] [(.int (own_exp c0_)), (.int (own_exp c0_))])) _
    refine XS.icmpYes X23.here hx rfl (pc0 := 107) (pc' := 112) rfl (hb hby at_107) rfl (teq (rfl : (own_exp c0_) = (own_exp c0_))).1 (by decide) (by decide) ?_
    refine XS.iload X23.here hx rfl (hb hby at_112) rfl ?_
    refine XS.ifNo X23.here hx rfl (hb hby at_114) rfl ((if0 _ _).trans (teq (by decide : (0 : Int32) = (0 : Int32))).2) ?_
    refine XS.iload X23.here hx rfl (hb hby at_117) rfl ?_
    show Steps p.tables e below (T23.setTop (mkF m 119 #[.val (.int p1), .val (.int p2), .val (.int p3), .val (.int p4), .val (.int (3 : Int32)), .val (.int c0_), .val (.int c1_), .val (.int c2_), .val (.ref b1), .val (.ref b11), .val (.ref t17), .val (.int (0 : Int32))] [(.int c0_)])) _
    refine st24 _ ?_
    show Steps p.tables e below (T24.setTop (mkF m 122 #[.val (.int p1), .val (.int p2), .val (.int p3), .val (.int p4), .val (.int (3 : Int32)), .val (.int c0_), .val (.int c1_), .val (.int c2_), .val (.ref b1), .val (.ref b11), .val (.ref t17), .val (.int (0 : Int32))] [(.int (1 : Int32))])) _
    refine XS.ifNo X24.here hx rfl (hb hby at_122) rfl ((if0 _ _).trans (feq (by decide : ¬ ((1 : Int32) = (0 : Int32)))).1) ?_
    refine XS.iconst X24.here hx rfl (hb hby at_125) ?_
    refine XS.goto X24.here hx rfl (pc0 := 126) (pc' := 130) rfl (hb hby at_126) (by decide) (by decide) ?_
    refine XS.istore X24.here hx rfl (hb hby at_130) rfl (l' := #[.val (.int p1), .val (.int p2), .val (.int p3), .val (.int p4), .val (.int (3 : Int32)), .val (.int c0_), .val (.int c1_), .val (.int c2_), .val (.ref b1), .val (.ref b11), .val (.ref t17), .val (.int (1 : Int32))]) rfl ?_
    refine XS.iload X24.here hx rfl (hb hby at_132) rfl ?_
    refine XS.iconst X24.here hx rfl (hb hby at_134) ?_
    refine XS.icmpNo X24.here hx rfl (hb hby at_135) rfl (tlt (by decide : (1 : Int32) < (3 : Int32))).2.2.2 ?_
    refine XS.aload X24.here hx rfl (hb hby at_138) rfl rfl ?_
    refine XS.iconst X24.here hx rfl (hb hby at_140) ?_
    show Steps p.tables e below (T24.setTop (mkF m 141 #[.val (.int p1), .val (.int p2), .val (.int p3), .val (.int p4), .val (.int (3 : Int32)), .val (.int c0_), .val (.int c1_), .val (.int c2_), .val (.ref b1), .val (.ref b11), .val (.ref t17), .val (.int (1 : Int32))] [(.int (1 : Int32)), (.ref t17)])) _
    refine st25.trans ?_
    show Steps p.tables e below (T25.setTop (mkF m 144 #[.val (.int p1), .val (.int p2), .val (.int p3), .val (.int p4), .val (.int (3 : Int32)), .val (.int c0_), .val (.int c1_), .val (.int c2_), .val (.ref b1), .val (.ref b11), .val (.ref t17), .val (.int (1 : Int32))] [(.int (own_exp c1_))])) _
    refine XS.iload X25.here hx rfl (hb hby at_144) rfl ?_
    show Steps p.tables e below (T25.setTop (mkF m 146 #[.val (.int p1), .val (.int p2), .val (.int p3), .val (.int p4), .val (.int (3 : Int32)), .val (.int c0_), .val (.int c1_), .val (.int c2_), .val (.ref b1), .val (.ref b11), .val (.ref t17), .val (.int (1 : Int32))] [(.int c1_), (.int (own_exp c1_))])) _
    refine st26 _ ?_
    show Steps p.tables e below (T26.setTop (mkF m 149 #[.val (.int p1), .val (.int p2), .val (.int p3), .val (.int p4), .val (.int (3 : Int32)), .val (.int c0_), .val (.int c1_), .val (.int c2_), .val (.ref b1), .val (.ref b11), .val (.ref t17), .val (.int (1 : Int32))] [(.int (own_exp c1_)), (.int (own_exp c1_))])) _
    refine XS.icmpYes X26.here hx rfl (pc0 := 149) (pc' := 154) rfl (hb hby at_149) rfl (teq (rfl : (own_exp c1_) = (own_exp c1_))).1 (by decide) (by decide) ?_
    refine XS.iload X26.here hx rfl (hb hby at_154) rfl ?_
    refine XS.ifYes X26.here hx rfl (pc0 := 156) (pc' := 167) rfl (hb hby at_156) rfl ((if0 _ _).trans (feq (by decide : ¬ ((1 : Int32) = (0 : Int32)))).2) (by decide) (by decide) ?_
    refine XS.iconst X26.here hx rfl (hb hby at_167) ?_
    refine XS.goto X26.here hx rfl (pc0 := 168) (pc' := 172) rfl (hb hby at_168) (by decide) (by decide) ?_
    refine XS.istore X26.here hx rfl (hb hby at_172) rfl (l' := #[.val (.int p1), .val (.int p2), .val (.int p3), .val (.int p4), .val (.int (3 : Int32)), .val (.int c0_), .val (.int c1_), .val (.int c2_), .val (.ref b1), .val (.ref b11), .val (.ref t17), .val (.int (1 : Int32))]) rfl ?_
    refine XS.iload X26.here hx rfl (hb hby at_174) rfl ?_
    refine XS.iconst X26.here hx rfl (hb hby at_176) ?_
    refine XS.icmpNo X26.here hx rfl (hb hby at_177) rfl (tlt (by decide : (2 : Int32) < (3 : Int32))).2.2.2 ?_
    refine XS.aload X26.here hx rfl (hb hby at_180) rfl rfl ?_
    show Steps p.tables e below (T26.setTop (mkF m 182 #[.val (.int p1), .val (.int p2), .val (.int p3), .val (.int p4), .val (.int (3 : Int32)), .val (.int c0_), .val (.int c1_), .val (.int c2_), .val (.ref b1), .val (.ref b11), .val (.ref t17), .val (.int (1 : Int32))] [(.ref t17)])) _
    refine XS.iconst X26.here hx rfl (hb hby at_182) ?_
    show Steps p.tables e below (T26.setTop (mkF m 183 #[.val (.int p1), .val (.int p2), .val (.int p3), .val (.int p4), .val (.int (3 : Int32)), .val (.int c0_), .val (.int c1_), .val (.int c2_), .val (.ref b1), .val (.ref b11), .val (.ref t17), .val (.int (1 : Int32))] [(.int (2 : Int32)), (.ref t17)])) _
    refine st27.trans ?_
    show Steps p.tables e below (T27.setTop (mkF m 186 #[.val (.int p1), .val (.int p2), .val (.int p3), .val (.int p4), .val (.int (3 : Int32)), .val (.int c0_), .val (.int c1_), .val (.int c2_), .val (.ref b1), .val (.ref b11), .val (.ref t17), .val (.int (1 : Int32))] [(.int (own_exp c2_))])) _
    refine XS.iload X27.here hx rfl (hb hby at_186) rfl ?_
    show Steps p.tables e below (T27.setTop (mkF m 188 #[.val (.int p1), .val (.int p2), .val (.int p3), .val (.int p4), .val (.int (3 : Int32)), .val (.int c0_), .val (.int c1_), .val (.int c2_), .val (.ref b1), .val (.ref b11), .val (.ref t17), .val (.int (1 : Int32))] [(.int c2_), (.int (own_exp c2_))])) _
    refine st28 _ ?_
    show Steps p.tables e below (T28.setTop (mkF m 191 #[.val (.int p1), .val (.int p2), .val (.int p3), .val (.int p4), .val (.int (3 : Int32)), .val (.int c0_), .val (.int c1_), .val (.int c2_), .val (.ref b1), .val (.ref b11), .val (.ref t17), .val (.int (1 : Int32))] [(.int (own_exp c2_)), (.int (own_exp c2_))])) _
    refine XS.icmpYes X28.here hx rfl (pc0 := 191) (pc' := 196) rfl (hb hby at_191) rfl (teq (rfl : (own_exp c2_) = (own_exp c2_))).1 (by decide) (by decide) ?_
    refine XS.iload X28.here hx rfl (hb hby at_196) rfl ?_
    refine XS.ifYes X28.here hx rfl (pc0 := 198) (pc' := 209) rfl (hb hby at_198) rfl ((if0 _ _).trans (feq (by decide : ¬ ((1 : Int32) = (0 : Int32)))).2) (by decide) (by decide) ?_
    refine XS.iconst X28.here hx rfl (hb hby at_209) ?_
    refine XS.goto X28.here hx rfl (pc0 := 210) (pc' := 214) rfl (hb hby at_210) (by decide) (by decide) ?_
    refine XS.istore X28.here hx rfl (hb hby at_214) rfl (l' := #[.val (.int p1), .val (.int p2), .val (.int p3), .val (.int p4), .val (.int (3 : Int32)), .val (.int c0_), .val (.int c1_), .val (.int c2_), .val (.ref b1), .val (.ref b11), .val (.ref t17), .val (.int (1 : Int32))]) rfl ?_
    refine XS.iload X28.here hx rfl (hb hby at_216) rfl ?_
    refine XS.ifYes X28.here hx rfl (pc0 := 218) (pc' := 230) rfl (hb hby at_218) rfl ((if0 _ _).trans (feq (by decide : ¬ ((1 : Int32) = (0 : Int32)))).2) (by decide) (by decide) ?_
    refine XS.iconst X28.here hx rfl (hb hby at_230) ?_
    show Steps p.tables e below (T28.setTop (mkF m 231 #[.val (.int p1), .val (.int p2), .val (.int p3), .val (.int p4), .val (.int (3 : Int32)), .val (.int c0_), .val (.int c1_), .val (.int c2_), .val (.ref b1), .val (.ref b11), .val (.ref t17), .val (.int (1 : Int32))] [(.int (1 : Int32))])) _
    exact retN X28 hx (t := .boolean) Bd.returns (by simp) (hb hby at_231) hr
  · show own_Qk (some (.int (1 : Int32))) [] h0 n0 _ T28.heap _
    rw [e28]
    exact ⟨rfl, N28, K17⟩
theorem r_law3_1 (l : Launch) (Z : State) (a0 : Array Value) (hw : own_HW a0 Z) (ws : List Jvm.Cond) (cs1 : Int32) (fv : Value) (h0 : Heap) (n0 : Nat) (O0 : Old Z n0 h0) (G : own_Ctx Z Z.heap cs1 fv) (p1 p2 p3 p4 c0_ c1_ c2_ : Int32) (hl : p1 &&& (3 : Int32) = (3 : Int32)) (he0 : (p2.toUInt32.toUInt16.toUInt32.toInt32) = c0_) (hz0_ : ¬ (c0_ < (0 : Int32))) (hm0_ : ¬ ((65535 : Int32) < c0_)) (he1 : (p3.toUInt32.toUInt16.toUInt32.toInt32) = c1_) (hz1_ : ¬ (c1_ < (0 : Int32))) (hm1_ : ¬ ((65535 : Int32) < c1_)) (he2 : (p4.toUInt32.toUInt16.toUInt32.toInt32) = c2_) (hz2_ : ¬ (c2_ < (0 : Int32))) (hm2_ : ¬ ((65535 : Int32) < c2_)) (hq0_ : ¬ own_brk c0_) (hq1_ : own_brk c1_) :
    own_M l x (head1 (Jvm.Cond.code x code maxLocals ret :: ws) room_1) #[(.int p1), (.int p2), (.int p3), (.int p4)] Z h0 n0 (own_Qk (some (.int (1 : Int32))) []) 32 1216 := by
  have G0 := G
  obtain ⟨S_CS, N_CS, S_F, R_F, S_AD, S_HI, S_LO⟩ := G
  refine MetFree.of_bodySF (plainFor_of_name pn_5) hisR ?_
  intro p e s m args below meth c s₁ Bd hml0 hP hK
  obtain ⟨rfl, hZ, hh⟩ := hP
  have hx := Bd.exec
  have hby := Bd.bytes
  have hml : c.maxLocals = 12 := hml0
  have hown : s.vm.findClass "com/example/rubrique/rubrique/cli/OneLineOfPinLaw" = some m.cls := findClass_of_methodNamed Bd.named
  have hnm := (name_of_methodNamed Bd.named Bd.method).1
  have X0 : Stand p l e room_1 s m #[(.int p1), (.int p2), (.int p3), (.int p4)] below meth c s₁ [] 0 0 := Stand.of_body Bd
  have e0 : s₁.heap = h0 := by rw [← hh, Bd.state]; rfl
  have N0 := Fr.nil n0
  have pre0 := own_pre (tb := p.tables) (e := e) (below := below) (T := s₁) (ef_0_34 m p1 p2 p3 p4)
  obtain ⟨T1, h1, ka1, X1, e1, E1, A1, st1⟩ := newP X0 hx hZ (own_w hw 0 rfl) e0 (g := (mkF m 19 #[.val (.int p1), .val (.int p2), .val (.int p3), .val (.int p4), .val (.int (3 : Int32)), .val (.int c0_), .val (.int c1_), .val (.int c2_), .unset, .unset, .unset, .unset] [(.int (3 : Int32))])) rfl (hb hby at_19) rfl (by decide) (cap := 3) (by decide) (by decide) (by decide) (by decide)
  obtain ⟨b1, g1⟩ : ∃ z, z = h0.size := ⟨_, rfl⟩
  have g_b1 : n0 ≤ b1 := Nat.le_trans (O0.1 ▸ O0.2.1) (Nat.le_of_eq g1.symm)
  have sz_b1 : h0.size ≤ b1 := Nat.le_trans (Keep.refl h0 []).1 (Nat.le_of_eq g1.symm)
  rw [← g1] at A1 st1
  have O1 := O0.ext E1
  have K1 : Keep h0 h1 [] := (Keep.refl h0 []).ext E1
  have V1 : Arv Z h1 b1 ka1 .char (3 : Int32) [(.int (0 : Int32)), (.int (0 : Int32)), (.int (0 : Int32))] (.int (0 : Int32)) := (Arv.new A1 (by decide)).pad (pad_rep [] (.int (0 : Int32)) 3)
  have vc2 := V1
  obtain ⟨cl2, Ar2, qk2, S2, Nn2, Hs2, Gf2⟩ := vc2
  have hin2 : ¬ ((0 : Int32) < 0 ∨ cl2.slots.size ≤ ((0 : Int32)).toNatClampNeg) := inb_of S2 ⟨by decide, by decide⟩
  obtain ⟨T3, h3, X3, e3, W3, st3⟩ := stC X1 hx hZ e1 Ar2 (j := (0 : Int32)) hin2 (g := (mkF m 33 #[.val (.int p1), .val (.int p2), .val (.int p3), .val (.int p4), .val (.int (3 : Int32)), .val (.int c0_), .val (.int c1_), .val (.int c2_), .val (.ref b1), .unset, .unset, .unset] [(.int c0_), (.int (0 : Int32)), (.ref b1)])) rfl rfl (hb hby at_33)
  have O3 := O1.wr W3 g_b1
  have K3 : Keep h0 h3 [] := K1.wr W3 (Or.inr sz_b1)
  have N3 := Fr.snoc X3 N0 g_b1
  have f4 : Arv Z h3 b1 ka1 .char (3 : Int32) [(.int (nar .char c0_)), (.int (0 : Int32)), (.int (0 : Int32))] (.int (0 : Int32)) := Arv.set Ar2 qk2 S2 Nn2 Hs2 Gf2 (fits_nar_char _) W3 0 rfl (Nat.le_of_ble_eq_true rfl)
  have vc5 := f4
  obtain ⟨cl5, Ar5, qk5, S5, Nn5, Hs5, Gf5⟩ := vc5
  have hin5 : ¬ ((1 : Int32) < 0 ∨ cl5.slots.size ≤ ((1 : Int32)).toNatClampNeg) := inb_of S5 ⟨by decide, by decide⟩
  obtain ⟨T6, h6, X6, e6, W6, st6⟩ := stC X3 hx hZ e3 Ar5 (j := (1 : Int32)) hin5 (g := (mkF m 45 #[.val (.int p1), .val (.int p2), .val (.int p3), .val (.int p4), .val (.int (3 : Int32)), .val (.int c0_), .val (.int c1_), .val (.int c2_), .val (.ref b1), .unset, .unset, .unset] [(.int c1_), (.int (1 : Int32)), (.ref b1)])) rfl rfl (hb hby at_45)
  have O6 := O3.wr W6 g_b1
  have K6 : Keep h0 h6 [] := K3.wr W6 (Or.inr sz_b1)
  have N6 := Fr.snoc X6 N3 g_b1
  have f7 : Arv Z h6 b1 ka1 .char (3 : Int32) [(.int (nar .char c0_)), (.int (nar .char c1_)), (.int (0 : Int32))] (.int (0 : Int32)) := Arv.set Ar5 qk5 S5 Nn5 Hs5 Gf5 (fits_nar_char _) W6 1 rfl (Nat.le_of_ble_eq_true rfl)
  have vc8 := f7
  obtain ⟨cl8, Ar8, qk8, S8, Nn8, Hs8, Gf8⟩ := vc8
  have hin8 : ¬ ((2 : Int32) < 0 ∨ cl8.slots.size ≤ ((2 : Int32)).toNatClampNeg) := inb_of S8 ⟨by decide, by decide⟩
  obtain ⟨T9, h9, X9, e9, W9, st9⟩ := stC X6 hx hZ e6 Ar8 (j := (2 : Int32)) hin8 (g := (mkF m 57 #[.val (.int p1), .val (.int p2), .val (.int p3), .val (.int p4), .val (.int (3 : Int32)), .val (.int c0_), .val (.int c1_), .val (.int c2_), .val (.ref b1), .unset, .unset, .unset] [(.int c2_), (.int (2 : Int32)), (.ref b1)])) rfl rfl (hb hby at_57)
  have O9 := O6.wr W9 g_b1
  have K9 : Keep h0 h9 [] := K6.wr W9 (Or.inr sz_b1)
  have N9 := Fr.snoc X9 N6 g_b1
  have f10 : Arv Z h9 b1 ka1 .char (3 : Int32) [(.int (nar .char c0_)), (.int (nar .char c1_)), (.int (nar .char c2_))] (.int (0 : Int32)) := Arv.set Ar8 qk8 S8 Nn8 Hs8 Gf8 (fits_nar_char _) W9 2 rfl (Nat.le_of_ble_eq_true rfl)
  have hn_ : [c0_, c1_, c2_].length ≤ 4 := Nat.le_of_ble_eq_true rfl
  have hB_ : own_Bd [c0_, c1_, c2_] := own_all3 (P := fun z => ¬ (z < (0 : Int32)) ∧ ¬ ((65535 : Int32) < z)) ⟨hz0_, hm0_⟩ ⟨hz1_, hm1_⟩ ⟨hz2_, hm2_⟩
  have h1_ : 1 ≤ [c0_, c1_, c2_].length := Nat.le_of_ble_eq_true rfl
  have V58 : Arv Z h9 b1 ka1 .char [c0_, c1_, c2_].length.toInt32 ([c0_, c1_, c2_].map Value.int) (.int (0 : Int32)) := by
    have q := f10
    rw [own_nc hz0_ hm0_, own_nc hz1_ hm1_, own_nc hz2_ hm2_] at q
    exact q
  obtain ⟨T11, h11, X11, e11, E11, A11, D11, -, st11⟩ := newO X9 hx hZ hown (own_w hw 1 rfl) (own_w hw 2 rfl) (own_w hw 3 rfl) e9 (g := (mkF m 58 #[.val (.int p1), .val (.int p2), .val (.int p3), .val (.int p4), .val (.int (3 : Int32)), .val (.int c0_), .val (.int c1_), .val (.int c2_), .val (.ref b1), .unset, .unset, .unset] [])) rfl (hb hby at_58) (by decide) (by decide)
  obtain ⟨b11, g11⟩ : ∃ z, z = h9.size := ⟨_, rfl⟩
  have ne_b1_b11 : b1 ≠ b11 := Nat.ne_of_lt (Nat.lt_of_lt_of_le V58.lt (Nat.le_of_eq g11.symm))
  have g_b11 : n0 ≤ b11 := Nat.le_trans (O9.1 ▸ O9.2.1) (Nat.le_of_eq g11.symm)
  have sz_b11 : h0.size ≤ b11 := Nat.le_trans K9.1 (Nat.le_of_eq g11.symm)
  rw [← g11] at A11 D11 st11
  have f12 := V58.ext E11
  have O11 := O9.ext E11
  have K11 : Keep h0 h11 [] := K9.ext E11
  have F11_16 : Fld Z h11 b11 "java/lang/String" "value" "[B" .null := D11 (Or.inr (own_w hw 16 rfl)) (ty := (.array .byte)) (by decide)
  have F11_17 : Fld Z h11 b11 "java/lang/String" "coder" "B" (.int (0 : Int32)) := D11 (Or.inr (own_w hw 17 rfl)) (ty := .byte) (by decide)
  obtain ⟨LL13, X13, N13⟩ : ∃ LL, Stand p l e room_1 s m #[(.int p1), (.int p2), (.int p3), (.int p4)] below meth c T11 LL 2 7 ∧ Fr n0 LL := ⟨_, X11, N9⟩
  obtain ⟨_, _, ⟨T14, L14, k14, n14⟩, -, X14, ⟨Lc14, hQ14, l14, y14, z14⟩, st14⟩ := X13.specialBack hx (y := Y15_) rfl hown (mvT hZ (own_w hw 4 rfl)) (mvT hZ (own_w hw 5 rfl)) (mvT hZ (own_w hw 6 rfl)) (by decide) (backOf (W := 1) (r_new l Z a0 hw [] cs1 fv h11 n0 O11 G0 b11 b1 ka1 [c0_, c1_, c2_] A11 g_b11 F11_17 F11_16 f12 ne_b1_b11 hn_ h1_ hB_) hZ (own_w hw 6 rfl) (own_w hw 3 rfl) (by decide) (by decide)) (g := (mkF m 64 #[.val (.int p1), .val (.int p2), .val (.int p3), .val (.int p4), .val (.int (3 : Int32)), .val (.int c0_), .val (.int c1_), .val (.int c2_), .val (.ref b1), .unset, .unset, .unset] [(.ref b1), (.ref b11), (.ref b11)])) rfl (by rw [hml]; rfl) (Steps.refl _) (a := b11) (argsL := [(.ref b1)]) (rest := [(.ref b11)]) (lenOf pd_24 rfl) rfl (by show 2 * 0 + _ ≤ _; exact Nat.le_of_eq rfl) (hb hby at_64) (fun _ _ => ⟨rfl, e11, (by decide : 2 + 2 ≤ _), (by decide : 7 + 12 ≤ _)⟩)
  dsimp only [Pt.U, Pt.locs, Pt.cells, Pt.slots] at X14 l14 y14 z14 st14 hQ14
  subst l14 y14 z14
  obtain ⟨rfl, N14q, Kq14, Sq14⟩ := hQ14
  have N14 := Fr.app N13 N14q
  have f15 := f12.keep Kq14 (fun q => (List.mem_cons.mp q).elim ne_b1_b11 (fun q => nomatch q))
  have f16 := A11.keep Kq14
  have O14 := O11.keep Kq14 (allS g_b11 all0)
  have K14 : Keep h0 T14.heap [] := K11.trans Kq14 (allS (Or.inr sz_b11) all0)
  obtain ⟨_, _, ⟨T17, L17, k17, n17⟩, -, X17, ⟨Lc17, hQ17, l17, y17, z17⟩, st17⟩ := Jvm.LawKit.callS X14 hx (y := Y31_) hown (mvT hZ (own_w hw 22 rfl)) (mvT hZ (own_w hw 23 rfl)) (mvT hZ (own_w hw 24 rfl)) (mvT hZ (own_w hw 25 rfl)) (by decide) (backOf (W := 0) (r_of l Z a0 hw [] cs1 fv T14.heap n0 O14 G0 b11 [c0_, c1_, c2_] Sq14 hn_ hB_) hZ (own_w hw 25 rfl) (own_w hw 24 rfl) (by decide) (by decide)) (g := (mkF m 71 #[.val (.int p1), .val (.int p2), .val (.int p3), .val (.int p4), .val (.int (3 : Int32)), .val (.int c0_), .val (.int c1_), .val (.int c2_), .val (.ref b1), .val (.ref b11), .unset, .unset] [(.ref b11)])) rfl (by rw [hml]; rfl) (argsL := [(.ref b11)]) (rest := []) (lenOf pd_25 rfl) rfl (by show 2 * 0 + _ ≤ _; exact Nat.le_of_eq rfl) (hb hby at_71) (fun _ _ => ⟨rfl, rfl, (by decide : 4 + 4 ≤ _), (by decide : 19 + 20 ≤ _)⟩)
  dsimp only [Pt.U, Pt.locs, Pt.cells, Pt.slots] at X17 l17 y17 z17 st17 hQ17
  subst l17 y17 z17
  obtain ⟨t17, rfl, N17q, Kq17, So17, hs17⟩ := hQ17
  have N17 := Fr.app N14 N17q
  have f18 := f15.keep Kq17 (fun q => nomatch q)
  have f19 := f16.keep Kq17
  have O17 := O14.keep Kq17 all0
  have K17 : Keep h0 T17.heap [] := K14.trans Kq17 all0
  have f20 := own_Str_keep Kq17 Sq14
  obtain ⟨cq21, kq21, q21a, q21b, q21c⟩ := isOf hZ rfl (own_Str_exa So17)
  obtain ⟨_, _, ⟨T21, L21, k21, n21⟩, -, X21, ⟨Lc21, hQ21, l21, y21, z21⟩, st21⟩ := X17.virtualBack hx (y := Y18_) (z := Y18_) hown (mvT hZ (own_w hw 37 rfl)) (mvT hZ (own_w hw 27 rfl)) (notFace_of_selects (args := #[]) (mvT hZ (own_w hw 29 rfl))) (mvT hZ (own_w hw 29 rfl)) (mvT hZ (own_w hw 28 rfl)) (by decide) (backOf (W := 0) (r_len l Z a0 hw [] cs1 fv T17.heap n0 O17 G0 t17 ([c0_, c1_, c2_].map own_exp) So17 (own_lenm hn_)) hZ (own_w hw 30 rfl) (own_w hw 3 rfl) (by decide) (by decide)) q21a q21c (g := (mkF m 78 #[.val (.int p1), .val (.int p2), .val (.int p3), .val (.int p4), .val (.int (3 : Int32)), .val (.int c0_), .val (.int c1_), .val (.int c2_), .val (.ref b1), .val (.ref b11), .val (.ref t17), .unset] [(.ref t17)])) rfl (by rw [hml]; rfl) (Steps.refl _) (argsL := []) (rest := []) (lenOf pd_21 rfl) rfl (by show 2 * 0 + _ ≤ _; exact Nat.le_of_eq rfl) (hb hby at_78) (fun _ _ => ⟨rfl, rfl, (by decide : 8 + 0 ≤ _), (by decide : 39 + 0 ≤ _)⟩)
  dsimp only [Pt.U, Pt.locs, Pt.cells, Pt.slots] at X21 l21 y21 z21 st21 hQ21
  subst l21 y21 z21
  obtain ⟨rfl, N21q, e21⟩ := hQ21
  have N21 := Fr.app N17 N21q
  obtain ⟨cq22, kq22, q22a, q22b, q22c⟩ := isOf hZ e21 (own_Str_exa So17)
  obtain ⟨_, _, ⟨T22, L22, k22, n22⟩, -, X22, ⟨Lc22, hQ22, l22, y22, z22⟩, st22⟩ := X21.virtualBack hx (y := Y19_) (z := Y19_) hown (mvT hZ (own_w hw 73 rfl)) (mvT hZ (own_w hw 49 rfl)) (notFace_of_selects (args := #[]) (mvT hZ (own_w hw 51 rfl))) (mvT hZ (own_w hw 51 rfl)) (mvT hZ (own_w hw 50 rfl)) (by decide) (backOf (W := 0) (r_ch l Z a0 hw [] cs1 fv T17.heap n0 O17 G0 t17 ([c0_, c1_, c2_].map own_exp) So17 0 (Nat.le_of_ble_eq_true rfl) (own_lenm hn_) (own_Bd_exp hB_)) hZ (own_w hw 52 rfl) (own_w hw 3 rfl) (by decide) (by decide)) q22a q22c (g := (mkF m 99 #[.val (.int p1), .val (.int p2), .val (.int p3), .val (.int p4), .val (.int (3 : Int32)), .val (.int c0_), .val (.int c1_), .val (.int c2_), .val (.ref b1), .val (.ref b11), .val (.ref t17), .val (.int (0 : Int32))] [(.int (0 : Int32)), (.ref t17)])) rfl (by rw [hml]; rfl) (Steps.refl _) (argsL := [(.int (0 : Int32))]) (rest := []) (lenOf pd_22 rfl) rfl (by show 2 * 0 + _ ≤ _; exact Nat.le_of_eq rfl) (hb hby at_99) (fun _ _ => ⟨rfl, e21, (by decide : 8 + 0 ≤ _), (by decide : 39 + 0 ≤ _)⟩)
  dsimp only [Pt.U, Pt.locs, Pt.cells, Pt.slots] at X22 l22 y22 z22 st22 hQ22
  subst l22 y22 z22
  obtain ⟨rfl, N22q, e22⟩ := hQ22
  have N22 := Fr.app N21 N22q
  obtain ⟨_, _, ⟨T23, L23, k23, n23⟩, -, X23, ⟨Lc23, hQ23, l23, y23, z23⟩, st23⟩ := Jvm.LawKit.callS X22 hx (y := Y30_) hown (mvT hZ (own_w hw 74 rfl)) (mvT hZ (own_w hw 75 rfl)) (mvT hZ (own_w hw 76 rfl)) (mvT hZ (own_w hw 77 rfl)) (by decide) (backOf (W := 1) (r_ex l Z a0 hw [] cs1 fv T17.heap n0 O17 G0 c0_ hz0_ hm0_) hZ (own_w hw 77 rfl) (own_w hw 76 rfl) (by decide) (by decide)) (g := (mkF m 104 #[.val (.int p1), .val (.int p2), .val (.int p3), .val (.int p4), .val (.int (3 : Int32)), .val (.int c0_), .val (.int c1_), .val (.int c2_), .val (.ref b1), .val (.ref b11), .val (.ref t17), .val (.int (0 : Int32))] [(.int c0_), (.int (own_exp c0_))])) rfl (by rw [hml]; rfl) (argsL := [(.int c0_)]) (rest := [(.int (own_exp c0_))]) (lenOf pd_26 rfl) rfl (by show 2 * 0 + _ ≤ _; exact Nat.le_of_eq rfl) (hb hby at_104) (fun _ _ => ⟨rfl, e22, (by decide : 8 + 0 ≤ _), (by decide : 39 + 0 ≤ _)⟩)
  dsimp only [Pt.U, Pt.locs, Pt.cells, Pt.slots] at X23 l23 y23 z23 st23 hQ23
  subst l23 y23 z23
  obtain ⟨rfl, N23q, e23⟩ := hQ23
  have N23 := Fr.app N22 N23q
  obtain ⟨_, _, ⟨T24, L24, k24, n24⟩, -, X24, ⟨Lc24, hQ24, l24, y24, z24⟩, st24⟩ := Jvm.LawKit.callS X23 hx (y := Y29_) hown (mvT hZ (own_w hw 78 rfl)) (mvT hZ (own_w hw 79 rfl)) (mvT hZ (own_w hw 76 rfl)) (mvT hZ (own_w hw 80 rfl)) (by decide) (backOf (W := 0) (r_ibF l Z a0 hw [] cs1 fv T17.heap n0 O17 G0 c0_ hq0_) hZ (own_w hw 80 rfl) (own_w hw 76 rfl) (by decide) (by decide)) (g := (mkF m 119 #[.val (.int p1), .val (.int p2), .val (.int p3), .val (.int p4), .val (.int (3 : Int32)), .val (.int c0_), .val (.int c1_), .val (.int c2_), .val (.ref b1), .val (.ref b11), .val (.ref t17), .val (.int (0 : Int32))] [(.int c0_)])) rfl (by rw [hml]; rfl) (argsL := [(.int c0_)]) (rest := []) (lenOf pd_20 rfl) rfl (by show 2 * 0 + _ ≤ _; exact Nat.le_of_eq rfl) (hb hby at_119) (fun _ _ => ⟨rfl, e23, (by decide : 8 + 0 ≤ _), (by decide : 39 + 0 ≤ _)⟩)
  dsimp only [Pt.U, Pt.locs, Pt.cells, Pt.slots] at X24 l24 y24 z24 st24 hQ24
  subst l24 y24 z24
  obtain ⟨rfl, N24q, e24⟩ := hQ24
  have N24 := Fr.app N23 N24q
  obtain ⟨cq25, kq25, q25a, q25b, q25c⟩ := isOf hZ e24 (own_Str_exa So17)
  obtain ⟨_, _, ⟨T25, L25, k25, n25⟩, -, X25, ⟨Lc25, hQ25, l25, y25, z25⟩, st25⟩ := X24.virtualBack hx (y := Y19_) (z := Y19_) hown (mvT hZ (own_w hw 73 rfl)) (mvT hZ (own_w hw 49 rfl)) (notFace_of_selects (args := #[]) (mvT hZ (own_w hw 51 rfl))) (mvT hZ (own_w hw 51 rfl)) (mvT hZ (own_w hw 50 rfl)) (by decide) (backOf (W := 0) (r_ch l Z a0 hw [] cs1 fv T17.heap n0 O17 G0 t17 ([c0_, c1_, c2_].map own_exp) So17 1 (Nat.le_of_ble_eq_true rfl) (own_lenm hn_) (own_Bd_exp hB_)) hZ (own_w hw 52 rfl) (own_w hw 3 rfl) (by decide) (by decide)) q25a q25c (g := (mkF m 141 #[.val (.int p1), .val (.int p2), .val (.int p3), .val (.int p4), .val (.int (3 : Int32)), .val (.int c0_), .val (.int c1_), .val (.int c2_), .val (.ref b1), .val (.ref b11), .val (.ref t17), .val (.int (0 : Int32))] [(.int (1 : Int32)), (.ref t17)])) rfl (by rw [hml]; rfl) (Steps.refl _) (argsL := [(.int (1 : Int32))]) (rest := []) (lenOf pd_22 rfl) rfl (by show 2 * 0 + _ ≤ _; exact Nat.le_of_eq rfl) (hb hby at_141) (fun _ _ => ⟨rfl, e24, (by decide : 8 + 0 ≤ _), (by decide : 39 + 0 ≤ _)⟩)
  dsimp only [Pt.U, Pt.locs, Pt.cells, Pt.slots] at X25 l25 y25 z25 st25 hQ25
  subst l25 y25 z25
  obtain ⟨rfl, N25q, e25⟩ := hQ25
  have N25 := Fr.app N24 N25q
  obtain ⟨_, _, ⟨T26, L26, k26, n26⟩, -, X26, ⟨Lc26, hQ26, l26, y26, z26⟩, st26⟩ := Jvm.LawKit.callS X25 hx (y := Y30_) hown (mvT hZ (own_w hw 74 rfl)) (mvT hZ (own_w hw 75 rfl)) (mvT hZ (own_w hw 76 rfl)) (mvT hZ (own_w hw 77 rfl)) (by decide) (backOf (W := 1) (r_ex l Z a0 hw [] cs1 fv T17.heap n0 O17 G0 c1_ hz1_ hm1_) hZ (own_w hw 77 rfl) (own_w hw 76 rfl) (by decide) (by decide)) (g := (mkF m 146 #[.val (.int p1), .val (.int p2), .val (.int p3), .val (.int p4), .val (.int (3 : Int32)), .val (.int c0_), .val (.int c1_), .val (.int c2_), .val (.ref b1), .val (.ref b11), .val (.ref t17), .val (.int (0 : Int32))] [(.int c1_), (.int (own_exp c1_))])) rfl (by rw [hml]; rfl) (argsL := [(.int c1_)]) (rest := [(.int (own_exp c1_))]) (lenOf pd_26 rfl) rfl (by show 2 * 0 + _ ≤ _; exact Nat.le_of_eq rfl) (hb hby at_146) (fun _ _ => ⟨rfl, e25, (by decide : 8 + 0 ≤ _), (by decide : 39 + 0 ≤ _)⟩)
  dsimp only [Pt.U, Pt.locs, Pt.cells, Pt.slots] at X26 l26 y26 z26 st26 hQ26
  subst l26 y26 z26
  obtain ⟨rfl, N26q, e26⟩ := hQ26
  have N26 := Fr.app N25 N26q
  obtain ⟨_, _, ⟨T27, L27, k27, n27⟩, -, X27, ⟨Lc27, hQ27, l27, y27, z27⟩, st27⟩ := Jvm.LawKit.callS X26 hx (y := Y29_) hown (mvT hZ (own_w hw 78 rfl)) (mvT hZ (own_w hw 79 rfl)) (mvT hZ (own_w hw 76 rfl)) (mvT hZ (own_w hw 80 rfl)) (by decide) (backOf (W := 0) (r_ibT l Z a0 hw [] cs1 fv T17.heap n0 O17 G0 c1_ hq1_) hZ (own_w hw 80 rfl) (own_w hw 76 rfl) (by decide) (by decide)) (g := (mkF m 161 #[.val (.int p1), .val (.int p2), .val (.int p3), .val (.int p4), .val (.int (3 : Int32)), .val (.int c0_), .val (.int c1_), .val (.int c2_), .val (.ref b1), .val (.ref b11), .val (.ref t17), .val (.int (0 : Int32))] [(.int c1_)])) rfl (by rw [hml]; rfl) (argsL := [(.int c1_)]) (rest := []) (lenOf pd_20 rfl) rfl (by show 2 * 0 + _ ≤ _; exact Nat.le_of_eq rfl) (hb hby at_161) (fun _ _ => ⟨rfl, e26, (by decide : 8 + 0 ≤ _), (by decide : 39 + 0 ≤ _)⟩)
  dsimp only [Pt.U, Pt.locs, Pt.cells, Pt.slots] at X27 l27 y27 z27 st27 hQ27
  subst l27 y27 z27
  obtain ⟨rfl, N27q, e27⟩ := hQ27
  have N27 := Fr.app N26 N27q
  obtain ⟨cq28, kq28, q28a, q28b, q28c⟩ := isOf hZ e27 (own_Str_exa So17)
  obtain ⟨_, _, ⟨T28, L28, k28, n28⟩, -, X28, ⟨Lc28, hQ28, l28, y28, z28⟩, st28⟩ := X27.virtualBack hx (y := Y19_) (z := Y19_) hown (mvT hZ (own_w hw 73 rfl)) (mvT hZ (own_w hw 49 rfl)) (notFace_of_selects (args := #[]) (mvT hZ (own_w hw 51 rfl))) (mvT hZ (own_w hw 51 rfl)) (mvT hZ (own_w hw 50 rfl)) (by decide) (backOf (W := 0) (r_ch l Z a0 hw [] cs1 fv T17.heap n0 O17 G0 t17 ([c0_, c1_, c2_].map own_exp) So17 2 (Nat.le_of_ble_eq_true rfl) (own_lenm hn_) (own_Bd_exp hB_)) hZ (own_w hw 52 rfl) (own_w hw 3 rfl) (by decide) (by decide)) q28a q28c (g := (mkF m 183 #[.val (.int p1), .val (.int p2), .val (.int p3), .val (.int p4), .val (.int (3 : Int32)), .val (.int c0_), .val (.int c1_), .val (.int c2_), .val (.ref b1), .val (.ref b11), .val (.ref t17), .val (.int (1 : Int32))] [(.int (2 : Int32)), (.ref t17)])) rfl (by rw [hml]; rfl) (Steps.refl _) (argsL := [(.int (2 : Int32))]) (rest := []) (lenOf pd_22 rfl) rfl (by show 2 * 0 + _ ≤ _; exact Nat.le_of_eq rfl) (hb hby at_183) (fun _ _ => ⟨rfl, e27, (by decide : 8 + 0 ≤ _), (by decide : 39 + 0 ≤ _)⟩)
  dsimp only [Pt.U, Pt.locs, Pt.cells, Pt.slots] at X28 l28 y28 z28 st28 hQ28
  subst l28 y28 z28
  obtain ⟨rfl, N28q, e28⟩ := hQ28
  have N28 := Fr.app N27 N28q
  obtain ⟨_, _, ⟨T29, L29, k29, n29⟩, -, X29, ⟨Lc29, hQ29, l29, y29, z29⟩, st29⟩ := Jvm.LawKit.callS X28 hx (y := Y30_) hown (mvT hZ (own_w hw 74 rfl)) (mvT hZ (own_w hw 75 rfl)) (mvT hZ (own_w hw 76 rfl)) (mvT hZ (own_w hw 77 rfl)) (by decide) (backOf (W := 1) (r_ex l Z a0 hw [] cs1 fv T17.heap n0 O17 G0 c2_ hz2_ hm2_) hZ (own_w hw 77 rfl) (own_w hw 76 rfl) (by decide) (by decide)) (g := (mkF m 188 #[.val (.int p1), .val (.int p2), .val (.int p3), .val (.int p4), .val (.int (3 : Int32)), .val (.int c0_), .val (.int c1_), .val (.int c2_), .val (.ref b1), .val (.ref b11), .val (.ref t17), .val (.int (1 : Int32))] [(.int c2_), (.int (own_exp c2_))])) rfl (by rw [hml]; rfl) (argsL := [(.int c2_)]) (rest := [(.int (own_exp c2_))]) (lenOf pd_26 rfl) rfl (by show 2 * 0 + _ ≤ _; exact Nat.le_of_eq rfl) (hb hby at_188) (fun _ _ => ⟨rfl, e28, (by decide : 8 + 0 ≤ _), (by decide : 39 + 0 ≤ _)⟩)
  dsimp only [Pt.U, Pt.locs, Pt.cells, Pt.slots] at X29 l29 y29 z29 st29 hQ29
  subst l29 y29 z29
  obtain ⟨rfl, N29q, e29⟩ := hQ29
  have N29 := Fr.app N28 N29q
  obtain ⟨fs, hr, hrun, hended, hW, hsame⟩ := X29.leave (v := some (.int (1 : Int32))) (fun h => by rw [Bd.returns] at h; cases h)
  refine ⟨_, _, pre0 _ ?_, hrun, hended, _, _, rfl, ?_, ⟨_, rfl⟩, hW, hsame.mono (by decide) (by decide)⟩
  · show Steps p.tables e below (s₁.setTop (mkF m 0 #[.val (.int p1), .val (.int p2), .val (.int p3), .val (.int p4), .unset, .unset, .unset, .unset, .unset, .unset, .unset, .unset] [])) _
    refine XS.iloadN X0.here hx rfl (hb hby at_0) rfl ?_
    refine XS.iconst X0.here hx rfl (hb hby at_1) ?_
    refine XS.iand X0.here hx rfl (hb hby at_2) rfl ?_
    show Steps p.tables e below (s₁.setTop (mkF m 3 #[.val (.int p1), .val (.int p2), .val (.int p3), .val (.int p4), .unset, .unset, .unset, .unset, .unset, .unset, .unset, .unset] [(.int (p1 &&& (3 : Int32)))])) _
    rw [hl]
    refine XS.istore X0.here hx rfl (hb hby at_3) rfl (l' := #[.val (.int p1), .val (.int p2), .val (.int p3), .val (.int p4), .val (.int (3 : Int32)), .unset, .unset, .unset, .unset, .unset, .unset, .unset]) rfl ?_
    refine XS.iloadN X0.here hx rfl (hb hby at_5) rfl ?_
    refine XS.i2c X0.here hx rfl (hb hby at_6) rfl ?_
    show Steps p.tables e below (s₁.setTop (mkF m 7 #[.val (.int p1), .val (.int p2), .val (.int p3), .val (.int p4), .val (.int (3 : Int32)), .unset, .unset, .unset, .unset, .unset, .unset, .unset] [(.int (p2.toUInt32.toUInt16.toUInt32.toInt32))])) _
    rw [he0]
    refine XS.istore X0.here hx rfl (hb hby at_7) rfl (l' := #[.val (.int p1), .val (.int p2), .val (.int p3), .val (.int p4), .val (.int (3 : Int32)), .val (.int c0_), .unset, .unset, .unset, .unset, .unset, .unset]) rfl ?_
    refine XS.iloadN X0.here hx rfl (hb hby at_9) rfl ?_
    refine XS.i2c X0.here hx rfl (hb hby at_10) rfl ?_
    show Steps p.tables e below (s₁.setTop (mkF m 11 #[.val (.int p1), .val (.int p2), .val (.int p3), .val (.int p4), .val (.int (3 : Int32)), .val (.int c0_), .unset, .unset, .unset, .unset, .unset, .unset] [(.int (p3.toUInt32.toUInt16.toUInt32.toInt32))])) _
    rw [he1]
    refine XS.istore X0.here hx rfl (hb hby at_11) rfl (l' := #[.val (.int p1), .val (.int p2), .val (.int p3), .val (.int p4), .val (.int (3 : Int32)), .val (.int c0_), .val (.int c1_), .unset, .unset, .unset, .unset, .unset]) rfl ?_
    show Steps p.tables e below (s₁.setTop (mkF m 13 #[.val (.int p1), .val (.int p2), .val (.int p3), .val (.int p4), .val (.int (3 : Int32)), .val (.int c0_), .val (.int c1_), .unset, .unset, .unset, .unset, .unset] [])) _
    refine XS.iloadN X0.here hx rfl (hb hby at_13) rfl ?_
    refine XS.i2c X0.here hx rfl (hb hby at_14) rfl ?_
    show Steps p.tables e below (s₁.setTop (mkF m 15 #[.val (.int p1), .val (.int p2), .val (.int p3), .val (.int p4), .val (.int (3 : Int32)), .val (.int c0_), .val (.int c1_), .unset, .unset, .unset, .unset, .unset] [(.int (p4.toUInt32.toUInt16.toUInt32.toInt32))])) _
    rw [he2]
    refine XS.istore X0.here hx rfl (hb hby at_15) rfl (l' := #[.val (.int p1), .val (.int p2), .val (.int p3), .val (.int p4), .val (.int (3 : Int32)), .val (.int c0_), .val (.int c1_), .val (.int c2_), .unset, .unset, .unset, .unset]) rfl ?_
    refine XS.iload X0.here hx rfl (hb hby at_17) rfl ?_
    show Steps p.tables e below (s₁.setTop (mkF m 19 #[.val (.int p1), .val (.int p2), .val (.int p3), .val (.int p4), .val (.int (3 : Int32)), .val (.int c0_), .val (.int c1_), .val (.int c2_), .unset, .unset, .unset, .unset] [(.int (3 : Int32))])) _
    refine st1 _ ?_
    show Steps p.tables e below (T1.setTop (mkF m 21 #[.val (.int p1), .val (.int p2), .val (.int p3), .val (.int p4), .val (.int (3 : Int32)), .val (.int c0_), .val (.int c1_), .val (.int c2_), .unset, .unset, .unset, .unset] [(.ref b1)])) _
    refine XS.astore X1.here hx rfl (hb hby at_21) rfl rfl (l' := #[.val (.int p1), .val (.int p2), .val (.int p3), .val (.int p4), .val (.int (3 : Int32)), .val (.int c0_), .val (.int c1_), .val (.int c2_), .val (.ref b1), .unset, .unset, .unset]) rfl ?_
    refine XS.iload X1.here hx rfl (hb hby at_23) rfl ?_
    refine XS.ifNo X1.here hx rfl (hb hby at_25) rfl ((if0 _ _).trans (tlt (by decide : (0 : Int32) < (3 : Int32))).2.2.2) ?_
    refine XS.aload X1.here hx rfl (hb hby at_28) rfl rfl ?_
    refine XS.iconst X1.here hx rfl (hb hby at_30) ?_
    refine XS.iload X1.here hx rfl (hb hby at_31) rfl ?_
    show Steps p.tables e below (T1.setTop (mkF m 33 #[.val (.int p1), .val (.int p2), .val (.int p3), .val (.int p4), .val (.int (3 : Int32)), .val (.int c0_), .val (.int c1_), .val (.int c2_), .val (.ref b1), .unset, .unset, .unset] [(.int c0_), (.int (0 : Int32)), (.ref b1)])) _
    refine st3 _ ?_
    show Steps p.tables e below (T3.setTop (mkF m 34 #[.val (.int p1), .val (.int p2), .val (.int p3), .val (.int p4), .val (.int (3 : Int32)), .val (.int c0_), .val (.int c1_), .val (.int c2_), .val (.ref b1), .unset, .unset, .unset] [])) _
    refine XS.iload X3.here hx rfl (hb hby at_34) rfl ?_
    refine XS.iconst X3.here hx rfl (hb hby at_36) ?_
    refine XS.icmpNo X3.here hx rfl (hb hby at_37) rfl (tlt (by decide : (1 : Int32) < (3 : Int32))).2.2.2 ?_
    refine XS.aload X3.here hx rfl (hb hby at_40) rfl rfl ?_
    refine XS.iconst X3.here hx rfl (hb hby at_42) ?_
    refine XS.iload X3.here hx rfl (hb hby at_43) rfl ?_
    show Steps p.tables e below (T3.setTop (mkF m 45 #[.val (.int p1), .val (.int p2), .val (.int p3), .val (.int p4), .val (.int (3 : Int32)), .val (.int c0_), .val (.int c1_), .val (.int c2_), .val (.ref b1), .unset, .unset, .unset] [(.int c1_), (.int (1 : Int32)), (.ref b1)])) _
    refine st6 _ ?_
    show Steps p.tables e below (T6.setTop (mkF m 46 #[.val (.int p1), .val (.int p2), .val (.int p3), .val (.int p4), .val (.int (3 : Int32)), .val (.int c0_), .val (.int c1_), .val (.int c2_), .val (.ref b1), .unset, .unset, .unset] [])) _
    refine XS.iload X6.here hx rfl (hb hby at_46) rfl ?_
    refine XS.iconst X6.here hx rfl (hb hby at_48) ?_
    refine XS.icmpNo X6.here hx rfl (hb hby at_49) rfl (tlt (by decide : (2 : Int32) < (3 : Int32))).2.2.2 ?_
    refine XS.aload X6.here hx rfl (hb hby at_52) rfl rfl ?_
    refine XS.iconst X6.here hx rfl (hb hby at_54) ?_
    refine XS.iload X6.here hx rfl (hb hby at_55) rfl ?_
    show Steps p.tables e below (T6.setTop (mkF m 57 #[.val (.int p1), .val (.int p2), .val (.int p3), .val (.int p4), .val (.int (3 : Int32)), .val (.int c0_), .val (.int c1_), .val (.int c2_), .val (.ref b1), .unset, .unset, .unset] [(.int c2_), (.int (2 : Int32)), (.ref b1)])) _
    refine st9 _ ?_
    show Steps p.tables e below (T9.setTop (mkF m 58 #[.val (.int p1), .val (.int p2), .val (.int p3), .val (.int p4), .val (.int (3 : Int32)), .val (.int c0_), .val (.int c1_), .val (.int c2_), .val (.ref b1), .unset, .unset, .unset] [])) _
    refine st11 _ ?_
    show Steps p.tables e below (T11.setTop (mkF m 61 #[.val (.int p1), .val (.int p2), .val (.int p3), .val (.int p4), .val (.int (3 : Int32)), .val (.int c0_), .val (.int c1_), .val (.int c2_), .val (.ref b1), .unset, .unset, .unset] [(.ref b11)])) _
    refine XS.dup X11.here hx rfl (hb hby at_61) rfl rfl ?_
    refine XS.aload X11.here hx rfl (hb hby at_62) rfl rfl ?_
    show Steps p.tables e below (T11.setTop (mkF m 64 #[.val (.int p1), .val (.int p2), .val (.int p3), .val (.int p4), .val (.int (3 : Int32)), .val (.int c0_), .val (.int c1_), .val (.int c2_), .val (.ref b1), .unset, .unset, .unset] [(.ref b1), (.ref b11), (.ref b11)])) _
    refine st14.trans ?_
    show Steps p.tables e below (T14.setTop (mkF m 67 #[.val (.int p1), .val (.int p2), .val (.int p3), .val (.int p4), .val (.int (3 : Int32)), .val (.int c0_), .val (.int c1_), .val (.int c2_), .val (.ref b1), .unset, .unset, .unset] [(.ref b11)])) _
    refine XS.astore X14.here hx rfl (hb hby at_67) rfl rfl (l' := #[.val (.int p1), .val (.int p2), .val (.int p3), .val (.int p4), .val (.int (3 : Int32)), .val (.int c0_), .val (.int c1_), .val (.int c2_), .val (.ref b1), .val (.ref b11), .unset, .unset]) rfl ?_
    refine XS.aload X14.here hx rfl (hb hby at_69) rfl rfl ?_
    show Steps p.tables e below (T14.setTop (mkF m 71 #[.val (.int p1), .val (.int p2), .val (.int p3), .val (.int p4), .val (.int (3 : Int32)), .val (.int c0_), .val (.int c1_), .val (.int c2_), .val (.ref b1), .val (.ref b11), .unset, .unset] [(.ref b11)])) _
    refine st17 _ ?_
    show Steps p.tables e below (T17.setTop (mkF m 74 #[.val (.int p1), .val (.int p2), .val (.int p3), .val (.int p4), .val (.int (3 : Int32)), .val (.int c0_), .val (.int c1_), .val (.int c2_), .val (.ref b1), .val (.ref b11), .unset, .unset] [(.ref t17)])) _
    refine XS.astore X17.here hx rfl (hb hby at_74) rfl rfl (l' := #[.val (.int p1), .val (.int p2), .val (.int p3), .val (.int p4), .val (.int (3 : Int32)), .val (.int c0_), .val (.int c1_), .val (.int c2_), .val (.ref b1), .val (.ref b11), .val (.ref t17), .unset]) rfl ?_
    refine XS.aload X17.here hx rfl (hb hby at_76) rfl rfl ?_
    show Steps p.tables e below (T17.setTop (mkF m 78 #[.val (.int p1), .val (.int p2), .val (.int p3), .val (.int p4), .val (.int (3 : Int32)), .val (.int c0_), .val (.int c1_), .val (.int c2_), .val (.ref b1), .val (.ref b11), .val (.ref t17), .unset] [(.ref t17)])) _
    refine st21.trans ?_
    show Steps p.tables e below (T21.setTop (mkF m 81 #[.val (.int p1), .val (.int p2), .val (.int p3), .val (.int p4), .val (.int (3 : Int32)), .val (.int c0_), .val (.int c1_), .val (.int c2_), .val (.ref b1), .val (.ref b11), .val (.ref t17), .unset] [(.int (3 : Int32))])) _
    refine XS.iload X21.here hx rfl (hb hby at_81) rfl ?_
    refine XS.icmpYes X21.here hx rfl (pc0 := 83) (pc' := 88) rfl (hb hby at_83) rfl (teq (by decide : (3 : Int32) = (3 : Int32))).1 (by decide) (by decide) ?_
    refine XS.iconst X21.here hx rfl (hb hby at_88) ?_
    refine XS.istore X21.here hx rfl (hb hby at_89) rfl (l' := #[.val (.int p1), .val (.int p2), .val (.int p3), .val (.int p4), .val (.int (3 : Int32)), .val (.int c0_), .val (.int c1_), .val (.int c2_), .val (.ref b1), .val (.ref b11), .val (.ref t17), .val (.int (0 : Int32))]) rfl ?_
    refine XS.iload X21.here hx rfl (hb hby at_91) rfl ?_
    refine XS.ifNo X21.here hx rfl (hb hby at_93) rfl ((if0 _ _).trans (tlt (by decide : (0 : Int32) < (3 : Int32))).2.2.2) ?_
    refine XS.aload X21.here hx rfl (hb hby at_96) rfl rfl ?_
    refine XS.iconst X21.here hx rfl (hb hby at_98) ?_
    show Steps p.tables e below (T21.setTop (mkF m 99 #[.val (.int p1), .val (.int p2), .val (.int p3), .val (.int p4), .val (.int (3 : Int32)), .val (.int c0_), .val (.int c1_), .val (.int c2_), .val (.ref b1), .val (.ref b11), .val (.ref t17), .val (.int (0 : Int32))] [(.int (0 : Int32)), (.ref t17)])) _
    refine st22.trans ?_
    show Steps p.tables e below (T22.setTop (mkF m 102 #[.val (.int p1), .val (.int p2), .val (.int p3), .val (.int p4), .val (.int (3 : Int32)), .val (.int c0_), .val (.int c1_), .val (.int c2_), .val (.ref b1), .val (.ref b11), .val (.ref t17), .val (.int (0 : Int32))] [(.int (own_exp c0_))])) _
    refine XS.iload X22.here hx rfl (hb hby at_102) rfl ?_
    show Steps p.tables e below (T22.setTop (mkF m 104 #[.val (.int p1), .val (.int p2), .val (.int p3), .val (.int p4), .val (.int (3 : Int32)), .val (.int c0_), .val (.int c1_), .val (.int c2_), .val (.ref b1), .val (.ref b11), .val (.ref t17), .val (.int (0 : Int32))] [(.int c0_), (.int (own_exp c0_))])) _
    refine st23 _ ?_
    show Steps p.tables e below (T23.setTop (mkF m 107 #[.val (.int p1), .val (.int p2), .val (.int p3), .val (.int p4), .val (.int (3 : Int32)), .val (.int c0_), .val (.int c1_), .val (.int c2_), .val (.ref b1), .val (.ref b11), .val (.ref t17), .val (.int (0 : Int32))] [(.int (own_exp c0_)), (.int (own_exp c0_))])) _
    refine XS.icmpYes X23.here hx rfl (pc0 := 107) (pc' := 112) rfl (hb hby at_107) rfl (teq (rfl : (own_exp c0_) = (own_exp c0_))).1 (by decide) (by decide) ?_
    refine XS.iload X23.here hx rfl (hb hby at_112) rfl ?_
    refine XS.ifNo X23.here hx rfl (hb hby at_114) rfl ((if0 _ _).trans (teq (by decide : (0 : Int32) = (0 : Int32))).2) ?_
    refine XS.iload X23.here hx rfl (hb hby at_117) rfl ?_
    show Steps p.tables e below (T23.setTop (mkF m 119 #[.val (.int p1), .val (.int p2), .val (.int p3), .val (.int p4), .val (.int (3 : Int32)), .val (.int c0_), .val (.int c1_), .val (.int c2_), .val (.ref b1), .val (.ref b11), .val (.ref t17), .val (.int (0 : Int32))] [(.int c0_)])) _
    refine st24 _ ?_
    show Steps p.tables e below (T24.setTop (mkF m 122 #[.val (.int p1), .val (.int p2), .val (.int p3), .val (.int p4), .val (.int (3 : Int32)), .val (.int c0_), .val (.int c1_), .val (.int c2_), .val (.ref b1), .val (.ref b11), .val (.ref t17), .val (.int (0 : Int32))] [(.int (0 : Int32))])) _
    refine XS.ifYes X24.here hx rfl (pc0 := 122) (pc' := 129) rfl (hb hby at_122) rfl ((if0 _ _).trans (teq (by decide : (0 : Int32) = (0 : Int32))).1) (by decide) (by decide) ?_
    refine XS.iconst X24.here hx rfl (hb hby at_129) ?_
    refine XS.istore X24.here hx rfl (hb hby at_130) rfl (l' := #[.val (.int p1), .val (.int p2), .val (.int p3), .val (.int p4), .val (.int (3 : Int32)), .val (.int c0_), .val (.int c1_), .val (.int c2_), .val (.ref b1), .val (.ref b11), .val (.ref t17), .val (.int (0 : Int32))]) rfl ?_
    refine XS.iload X24.here hx rfl (hb hby at_132) rfl ?_
    refine XS.iconst X24.here hx rfl (hb hby at_134) ?_
    refine XS.icmpNo X24.here hx rfl (hb hby at_135) rfl (tlt (by decide : (1 : Int32) < (3 : Int32))).2.2.2 ?_
    refine XS.aload X24.here hx rfl (hb hby at_138) rfl rfl ?_
    refine XS.iconst X24.here hx rfl (hb hby at_140) ?_
    show Steps p.tables e below (T24.setTop (mkF m 141 #[.val (.int p1), .val (.int p2), .val (.int p3), .val (.int p4), .val (.int (3 : Int32)), .val (.int c0_), .val (.int c1_), .val (.int c2_), .val (.ref b1), .val (.ref b11), .val (.ref t17), .val (.int (0 : Int32))] [(.int (1 : Int32)), (.ref t17)])) _
    refine st25.trans ?_
    show Steps p.tables e below (T25.setTop (mkF m 144 #[.val (.int p1), .val (.int p2), .val (.int p3), .val (.int p4), .val (.int (3 : Int32)), .val (.int c0_), .val (.int c1_), .val (.int c2_), .val (.ref b1), .val (.ref b11), .val (.ref t17), .val (.int (0 : Int32))] [(.int (own_exp c1_))])) _
    refine XS.iload X25.here hx rfl (hb hby at_144) rfl ?_
    show Steps p.tables e below (T25.setTop (mkF m 146 #[.val (.int p1), .val (.int p2), .val (.int p3), .val (.int p4), .val (.int (3 : Int32)), .val (.int c0_), .val (.int c1_), .val (.int c2_), .val (.ref b1), .val (.ref b11), .val (.ref t17), .val (.int (0 : Int32))] [(.int c1_), (.int (own_exp c1_))])) _
    refine st26 _ ?_
    show Steps p.tables e below (T26.setTop (mkF m 149 #[.val (.int p1), .val (.int p2), .val (.int p3), .val (.int p4), .val (.int (3 : Int32)), .val (.int c0_), .val (.int c1_), .val (.int c2_), .val (.ref b1), .val (.ref b11), .val (.ref t17), .val (.int (0 : Int32))] [(.int (own_exp c1_)), (.int (own_exp c1_))])) _
    refine XS.icmpYes X26.here hx rfl (pc0 := 149) (pc' := 154) rfl (hb hby at_149) rfl (teq (rfl : (own_exp c1_) = (own_exp c1_))).1 (by decide) (by decide) ?_
    refine XS.iload X26.here hx rfl (hb hby at_154) rfl ?_
    refine XS.ifNo X26.here hx rfl (hb hby at_156) rfl ((if0 _ _).trans (teq (by decide : (0 : Int32) = (0 : Int32))).2) ?_
    refine XS.iload X26.here hx rfl (hb hby at_159) rfl ?_
    show Steps p.tables e below (T26.setTop (mkF m 161 #[.val (.int p1), .val (.int p2), .val (.int p3), .val (.int p4), .val (.int (3 : Int32)), .val (.int c0_), .val (.int c1_), .val (.int c2_), .val (.ref b1), .val (.ref b11), .val (.ref t17), .val (.int (0 : Int32))] [(.int c1_)])) _
    refine st27 _ ?_
    show Steps p.tables e below (T27.setTop (mkF m 164 #[.val (.int p1), .val (.int p2), .val (.int p3), .val (.int p4), .val (.int (3 : Int32)), .val (.int c0_), .val (.int c1_), .val (.int c2_), .val (.ref b1), .val (.ref b11), .val (.ref t17), .val (.int (0 : Int32))] [(.int (1 : Int32))])) _
    refine XS.ifNo X27.here hx rfl (hb hby at_164) rfl ((if0 _ _).trans (feq (by decide : ¬ ((1 : Int32) = (0 : Int32)))).1) ?_
    refine XS.iconst X27.here hx rfl (hb hby at_167) ?_
    refine XS.goto X27.here hx rfl (pc0 := 168) (pc' := 172) rfl (hb hby at_168) (by decide) (by decide) ?_
    refine XS.istore X27.here hx rfl (hb hby at_172) rfl (l' := #[.val (.int p1), .val (.int p2), .val (.int p3), .val (.int p4), .val (.int (3 : Int32)), .val (.int c0_), .val (.int c1_), .val (.int c2_), .val (.ref b1), .val (.ref b11), .val (.ref t17), .val (.int (1 : Int32))]) rfl ?_
    refine XS.iload X27.here hx rfl (hb hby at_174) rfl ?_
    refine XS.iconst X27.here hx rfl (hb hby at_176) ?_
    refine XS.icmpNo X27.here hx rfl (hb hby at_177) rfl (tlt (by decide : (2 : Int32) < (3 : Int32))).2.2.2 ?_
    refine XS.aload X27.here hx rfl (hb hby at_180) rfl rfl ?_
    refine XS.iconst X27.here hx rfl (hb hby at_182) ?_
    show Steps p.tables e below (T27.setTop (mkF m 183 #[.val (.int p1), .val (.int p2), .val (.int p3), .val (.int p4), .val (.int (3 : Int32)), .val (.int c0_), .val (.int c1_), .val (.int c2_), .val (.ref b1), .val (.ref b11), .val (.ref t17), .val (.int (1 : Int32))] [(.int (2 : Int32)), (.ref t17)])) _
    refine st28.trans ?_
    show Steps p.tables e below (T28.setTop (mkF m 186 #[.val (.int p1), .val (.int p2), .val (.int p3), .val (.int p4), .val (.int (3 : Int32)), .val (.int c0_), .val (.int c1_), .val (.int c2_), .val (.ref b1), .val (.ref b11), .val (.ref t17), .val (.int (1 : Int32))] [(.int (own_exp c2_))])) _
    refine XS.iload X28.here hx rfl (hb hby at_186) rfl ?_
    show Steps p.tables e below (T28.setTop (mkF m 188 #[.val (.int p1), .val (.int p2), .val (.int p3), .val (.int p4), .val (.int (3 : Int32)), .val (.int c0_), .val (.int c1_), .val (.int c2_), .val (.ref b1), .val (.ref b11), .val (.ref t17), .val (.int (1 : Int32))] [(.int c2_), (.int (own_exp c2_))])) _
    refine st29 _ ?_
    show Steps p.tables e below (T29.setTop (mkF m 191 #[.val (.int p1), .val (.int p2), .val (.int p3), .val (.int p4), .val (.int (3 : Int32)), .val (.int c0_), .val (.int c1_), .val (.int c2_), .val (.ref b1), .val (.ref b11), .val (.ref t17), .val (.int (1 : Int32))] [(.int (own_exp c2_)), (.int (own_exp c2_))])) _
    refine XS.icmpYes X29.here hx rfl (pc0 := 191) (pc' := 196) rfl (hb hby at_191) rfl (teq (rfl : (own_exp c2_) = (own_exp c2_))).1 (by decide) (by decide) ?_
    refine XS.iload X29.here hx rfl (hb hby at_196) rfl ?_
    refine XS.ifYes X29.here hx rfl (pc0 := 198) (pc' := 209) rfl (hb hby at_198) rfl ((if0 _ _).trans (feq (by decide : ¬ ((1 : Int32) = (0 : Int32)))).2) (by decide) (by decide) ?_
    refine XS.iconst X29.here hx rfl (hb hby at_209) ?_
    refine XS.goto X29.here hx rfl (pc0 := 210) (pc' := 214) rfl (hb hby at_210) (by decide) (by decide) ?_
    refine XS.istore X29.here hx rfl (hb hby at_214) rfl (l' := #[.val (.int p1), .val (.int p2), .val (.int p3), .val (.int p4), .val (.int (3 : Int32)), .val (.int c0_), .val (.int c1_), .val (.int c2_), .val (.ref b1), .val (.ref b11), .val (.ref t17), .val (.int (1 : Int32))]) rfl ?_
    refine XS.iload X29.here hx rfl (hb hby at_216) rfl ?_
    refine XS.ifYes X29.here hx rfl (pc0 := 218) (pc' := 230) rfl (hb hby at_218) rfl ((if0 _ _).trans (feq (by decide : ¬ ((1 : Int32) = (0 : Int32)))).2) (by decide) (by decide) ?_
    refine XS.iconst X29.here hx rfl (hb hby at_230) ?_
    show Steps p.tables e below (T29.setTop (mkF m 231 #[.val (.int p1), .val (.int p2), .val (.int p3), .val (.int p4), .val (.int (3 : Int32)), .val (.int c0_), .val (.int c1_), .val (.int c2_), .val (.ref b1), .val (.ref b11), .val (.ref t17), .val (.int (1 : Int32))] [(.int (1 : Int32))])) _
    exact retN X29 hx (t := .boolean) Bd.returns (by simp) (hb hby at_231) hr
  · show own_Qk (some (.int (1 : Int32))) [] h0 n0 _ T29.heap _
    rw [e29]
    exact ⟨rfl, N29, K17⟩
theorem r_law3_2 (l : Launch) (Z : State) (a0 : Array Value) (hw : own_HW a0 Z) (ws : List Jvm.Cond) (cs1 : Int32) (fv : Value) (h0 : Heap) (n0 : Nat) (O0 : Old Z n0 h0) (G : own_Ctx Z Z.heap cs1 fv) (p1 p2 p3 p4 c0_ c1_ c2_ : Int32) (hl : p1 &&& (3 : Int32) = (3 : Int32)) (he0 : (p2.toUInt32.toUInt16.toUInt32.toInt32) = c0_) (hz0_ : ¬ (c0_ < (0 : Int32))) (hm0_ : ¬ ((65535 : Int32) < c0_)) (he1 : (p3.toUInt32.toUInt16.toUInt32.toInt32) = c1_) (hz1_ : ¬ (c1_ < (0 : Int32))) (hm1_ : ¬ ((65535 : Int32) < c1_)) (he2 : (p4.toUInt32.toUInt16.toUInt32.toInt32) = c2_) (hz2_ : ¬ (c2_ < (0 : Int32))) (hm2_ : ¬ ((65535 : Int32) < c2_)) (hq0_ : ¬ own_brk c0_) (hq1_ : ¬ own_brk c1_) (hq2_ : own_brk c2_) :
    own_M l x (head1 (Jvm.Cond.code x code maxLocals ret :: ws) room_1) #[(.int p1), (.int p2), (.int p3), (.int p4)] Z h0 n0 (own_Qk (some (.int (1 : Int32))) []) 32 1216 := by
  have G0 := G
  obtain ⟨S_CS, N_CS, S_F, R_F, S_AD, S_HI, S_LO⟩ := G
  refine MetFree.of_bodySF (plainFor_of_name pn_5) hisR ?_
  intro p e s m args below meth c s₁ Bd hml0 hP hK
  obtain ⟨rfl, hZ, hh⟩ := hP
  have hx := Bd.exec
  have hby := Bd.bytes
  have hml : c.maxLocals = 12 := hml0
  have hown : s.vm.findClass "com/example/rubrique/rubrique/cli/OneLineOfPinLaw" = some m.cls := findClass_of_methodNamed Bd.named
  have hnm := (name_of_methodNamed Bd.named Bd.method).1
  have X0 : Stand p l e room_1 s m #[(.int p1), (.int p2), (.int p3), (.int p4)] below meth c s₁ [] 0 0 := Stand.of_body Bd
  have e0 : s₁.heap = h0 := by rw [← hh, Bd.state]; rfl
  have N0 := Fr.nil n0
  have pre0 := own_pre (tb := p.tables) (e := e) (below := below) (T := s₁) (ef_0_34 m p1 p2 p3 p4)
  obtain ⟨T1, h1, ka1, X1, e1, E1, A1, st1⟩ := newP X0 hx hZ (own_w hw 0 rfl) e0 (g := (mkF m 19 #[.val (.int p1), .val (.int p2), .val (.int p3), .val (.int p4), .val (.int (3 : Int32)), .val (.int c0_), .val (.int c1_), .val (.int c2_), .unset, .unset, .unset, .unset] [(.int (3 : Int32))])) rfl (hb hby at_19) rfl (by decide) (cap := 3) (by decide) (by decide) (by decide) (by decide)
  obtain ⟨b1, g1⟩ : ∃ z, z = h0.size := ⟨_, rfl⟩
  have g_b1 : n0 ≤ b1 := Nat.le_trans (O0.1 ▸ O0.2.1) (Nat.le_of_eq g1.symm)
  have sz_b1 : h0.size ≤ b1 := Nat.le_trans (Keep.refl h0 []).1 (Nat.le_of_eq g1.symm)
  rw [← g1] at A1 st1
  have O1 := O0.ext E1
  have K1 : Keep h0 h1 [] := (Keep.refl h0 []).ext E1
  have V1 : Arv Z h1 b1 ka1 .char (3 : Int32) [(.int (0 : Int32)), (.int (0 : Int32)), (.int (0 : Int32))] (.int (0 : Int32)) := (Arv.new A1 (by decide)).pad (pad_rep [] (.int (0 : Int32)) 3)
  have vc2 := V1
  obtain ⟨cl2, Ar2, qk2, S2, Nn2, Hs2, Gf2⟩ := vc2
  have hin2 : ¬ ((0 : Int32) < 0 ∨ cl2.slots.size ≤ ((0 : Int32)).toNatClampNeg) := inb_of S2 ⟨by decide, by decide⟩
  obtain ⟨T3, h3, X3, e3, W3, st3⟩ := stC X1 hx hZ e1 Ar2 (j := (0 : Int32)) hin2 (g := (mkF m 33 #[.val (.int p1), .val (.int p2), .val (.int p3), .val (.int p4), .val (.int (3 : Int32)), .val (.int c0_), .val (.int c1_), .val (.int c2_), .val (.ref b1), .unset, .unset, .unset] [(.int c0_), (.int (0 : Int32)), (.ref b1)])) rfl rfl (hb hby at_33)
  have O3 := O1.wr W3 g_b1
  have K3 : Keep h0 h3 [] := K1.wr W3 (Or.inr sz_b1)
  have N3 := Fr.snoc X3 N0 g_b1
  have f4 : Arv Z h3 b1 ka1 .char (3 : Int32) [(.int (nar .char c0_)), (.int (0 : Int32)), (.int (0 : Int32))] (.int (0 : Int32)) := Arv.set Ar2 qk2 S2 Nn2 Hs2 Gf2 (fits_nar_char _) W3 0 rfl (Nat.le_of_ble_eq_true rfl)
  have vc5 := f4
  obtain ⟨cl5, Ar5, qk5, S5, Nn5, Hs5, Gf5⟩ := vc5
  have hin5 : ¬ ((1 : Int32) < 0 ∨ cl5.slots.size ≤ ((1 : Int32)).toNatClampNeg) := inb_of S5 ⟨by decide, by decide⟩
  obtain ⟨T6, h6, X6, e6, W6, st6⟩ := stC X3 hx hZ e3 Ar5 (j := (1 : Int32)) hin5 (g := (mkF m 45 #[.val (.int p1), .val (.int p2), .val (.int p3), .val (.int p4), .val (.int (3 : Int32)), .val (.int c0_), .val (.int c1_), .val (.int c2_), .val (.ref b1), .unset, .unset, .unset] [(.int c1_), (.int (1 : Int32)), (.ref b1)])) rfl rfl (hb hby at_45)
  have O6 := O3.wr W6 g_b1
  have K6 : Keep h0 h6 [] := K3.wr W6 (Or.inr sz_b1)
  have N6 := Fr.snoc X6 N3 g_b1
  have f7 : Arv Z h6 b1 ka1 .char (3 : Int32) [(.int (nar .char c0_)), (.int (nar .char c1_)), (.int (0 : Int32))] (.int (0 : Int32)) := Arv.set Ar5 qk5 S5 Nn5 Hs5 Gf5 (fits_nar_char _) W6 1 rfl (Nat.le_of_ble_eq_true rfl)
  have vc8 := f7
  obtain ⟨cl8, Ar8, qk8, S8, Nn8, Hs8, Gf8⟩ := vc8
  have hin8 : ¬ ((2 : Int32) < 0 ∨ cl8.slots.size ≤ ((2 : Int32)).toNatClampNeg) := inb_of S8 ⟨by decide, by decide⟩
  obtain ⟨T9, h9, X9, e9, W9, st9⟩ := stC X6 hx hZ e6 Ar8 (j := (2 : Int32)) hin8 (g := (mkF m 57 #[.val (.int p1), .val (.int p2), .val (.int p3), .val (.int p4), .val (.int (3 : Int32)), .val (.int c0_), .val (.int c1_), .val (.int c2_), .val (.ref b1), .unset, .unset, .unset] [(.int c2_), (.int (2 : Int32)), (.ref b1)])) rfl rfl (hb hby at_57)
  have O9 := O6.wr W9 g_b1
  have K9 : Keep h0 h9 [] := K6.wr W9 (Or.inr sz_b1)
  have N9 := Fr.snoc X9 N6 g_b1
  have f10 : Arv Z h9 b1 ka1 .char (3 : Int32) [(.int (nar .char c0_)), (.int (nar .char c1_)), (.int (nar .char c2_))] (.int (0 : Int32)) := Arv.set Ar8 qk8 S8 Nn8 Hs8 Gf8 (fits_nar_char _) W9 2 rfl (Nat.le_of_ble_eq_true rfl)
  have hn_ : [c0_, c1_, c2_].length ≤ 4 := Nat.le_of_ble_eq_true rfl
  have hB_ : own_Bd [c0_, c1_, c2_] := own_all3 (P := fun z => ¬ (z < (0 : Int32)) ∧ ¬ ((65535 : Int32) < z)) ⟨hz0_, hm0_⟩ ⟨hz1_, hm1_⟩ ⟨hz2_, hm2_⟩
  have h1_ : 1 ≤ [c0_, c1_, c2_].length := Nat.le_of_ble_eq_true rfl
  have V58 : Arv Z h9 b1 ka1 .char [c0_, c1_, c2_].length.toInt32 ([c0_, c1_, c2_].map Value.int) (.int (0 : Int32)) := by
    have q := f10
    rw [own_nc hz0_ hm0_, own_nc hz1_ hm1_, own_nc hz2_ hm2_] at q
    exact q
  obtain ⟨T11, h11, X11, e11, E11, A11, D11, -, st11⟩ := newO X9 hx hZ hown (own_w hw 1 rfl) (own_w hw 2 rfl) (own_w hw 3 rfl) e9 (g := (mkF m 58 #[.val (.int p1), .val (.int p2), .val (.int p3), .val (.int p4), .val (.int (3 : Int32)), .val (.int c0_), .val (.int c1_), .val (.int c2_), .val (.ref b1), .unset, .unset, .unset] [])) rfl (hb hby at_58) (by decide) (by decide)
  obtain ⟨b11, g11⟩ : ∃ z, z = h9.size := ⟨_, rfl⟩
  have ne_b1_b11 : b1 ≠ b11 := Nat.ne_of_lt (Nat.lt_of_lt_of_le V58.lt (Nat.le_of_eq g11.symm))
  have g_b11 : n0 ≤ b11 := Nat.le_trans (O9.1 ▸ O9.2.1) (Nat.le_of_eq g11.symm)
  have sz_b11 : h0.size ≤ b11 := Nat.le_trans K9.1 (Nat.le_of_eq g11.symm)
  rw [← g11] at A11 D11 st11
  have f12 := V58.ext E11
  have O11 := O9.ext E11
  have K11 : Keep h0 h11 [] := K9.ext E11
  have F11_16 : Fld Z h11 b11 "java/lang/String" "value" "[B" .null := D11 (Or.inr (own_w hw 16 rfl)) (ty := (.array .byte)) (by decide)
  have F11_17 : Fld Z h11 b11 "java/lang/String" "coder" "B" (.int (0 : Int32)) := D11 (Or.inr (own_w hw 17 rfl)) (ty := .byte) (by decide)
  obtain ⟨LL13, X13, N13⟩ : ∃ LL, Stand p l e room_1 s m #[(.int p1), (.int p2), (.int p3), (.int p4)] below meth c T11 LL 2 7 ∧ Fr n0 LL := ⟨_, X11, N9⟩
  obtain ⟨_, _, ⟨T14, L14, k14, n14⟩, -, X14, ⟨Lc14, hQ14, l14, y14, z14⟩, st14⟩ := X13.specialBack hx (y := Y15_) rfl hown (mvT hZ (own_w hw 4 rfl)) (mvT hZ (own_w hw 5 rfl)) (mvT hZ (own_w hw 6 rfl)) (by decide) (backOf (W := 1) (r_new l Z a0 hw [] cs1 fv h11 n0 O11 G0 b11 b1 ka1 [c0_, c1_, c2_] A11 g_b11 F11_17 F11_16 f12 ne_b1_b11 hn_ h1_ hB_) hZ (own_w hw 6 rfl) (own_w hw 3 rfl) (by decide) (by decide)) (g := (mkF m 64 #[.val (.int p1), .val (.int p2), .val (.int p3), .val (.int p4), .val (.int (3 : Int32)), .val (.int c0_), .val (.int c1_), .val (.int c2_), .val (.ref b1), .unset, .unset, .unset] [(.ref b1), (.ref b11), (.ref b11)])) rfl (by rw [hml]; rfl) (Steps.refl _) (a := b11) (argsL := [(.ref b1)]) (rest := [(.ref b11)]) (lenOf pd_24 rfl) rfl (by show 2 * 0 + _ ≤ _; exact Nat.le_of_eq rfl) (hb hby at_64) (fun _ _ => ⟨rfl, e11, (by decide : 2 + 2 ≤ _), (by decide : 7 + 12 ≤ _)⟩)
  dsimp only [Pt.U, Pt.locs, Pt.cells, Pt.slots] at X14 l14 y14 z14 st14 hQ14
  subst l14 y14 z14
  obtain ⟨rfl, N14q, Kq14, Sq14⟩ := hQ14
  have N14 := Fr.app N13 N14q
  have f15 := f12.keep Kq14 (fun q => (List.mem_cons.mp q).elim ne_b1_b11 (fun q => nomatch q))
  have f16 := A11.keep Kq14
  have O14 := O11.keep Kq14 (allS g_b11 all0)
  have K14 : Keep h0 T14.heap [] := K11.trans Kq14 (allS (Or.inr sz_b11) all0)
  obtain ⟨_, _, ⟨T17, L17, k17, n17⟩, -, X17, ⟨Lc17, hQ17, l17, y17, z17⟩, st17⟩ := Jvm.LawKit.callS X14 hx (y := Y31_) hown (mvT hZ (own_w hw 22 rfl)) (mvT hZ (own_w hw 23 rfl)) (mvT hZ (own_w hw 24 rfl)) (mvT hZ (own_w hw 25 rfl)) (by decide) (backOf (W := 0) (r_of l Z a0 hw [] cs1 fv T14.heap n0 O14 G0 b11 [c0_, c1_, c2_] Sq14 hn_ hB_) hZ (own_w hw 25 rfl) (own_w hw 24 rfl) (by decide) (by decide)) (g := (mkF m 71 #[.val (.int p1), .val (.int p2), .val (.int p3), .val (.int p4), .val (.int (3 : Int32)), .val (.int c0_), .val (.int c1_), .val (.int c2_), .val (.ref b1), .val (.ref b11), .unset, .unset] [(.ref b11)])) rfl (by rw [hml]; rfl) (argsL := [(.ref b11)]) (rest := []) (lenOf pd_25 rfl) rfl (by show 2 * 0 + _ ≤ _; exact Nat.le_of_eq rfl) (hb hby at_71) (fun _ _ => ⟨rfl, rfl, (by decide : 4 + 4 ≤ _), (by decide : 19 + 20 ≤ _)⟩)
  dsimp only [Pt.U, Pt.locs, Pt.cells, Pt.slots] at X17 l17 y17 z17 st17 hQ17
  subst l17 y17 z17
  obtain ⟨t17, rfl, N17q, Kq17, So17, hs17⟩ := hQ17
  have N17 := Fr.app N14 N17q
  have f18 := f15.keep Kq17 (fun q => nomatch q)
  have f19 := f16.keep Kq17
  have O17 := O14.keep Kq17 all0
  have K17 : Keep h0 T17.heap [] := K14.trans Kq17 all0
  have f20 := own_Str_keep Kq17 Sq14
  obtain ⟨cq21, kq21, q21a, q21b, q21c⟩ := isOf hZ rfl (own_Str_exa So17)
  obtain ⟨_, _, ⟨T21, L21, k21, n21⟩, -, X21, ⟨Lc21, hQ21, l21, y21, z21⟩, st21⟩ := X17.virtualBack hx (y := Y18_) (z := Y18_) hown (mvT hZ (own_w hw 37 rfl)) (mvT hZ (own_w hw 27 rfl)) (notFace_of_selects (args := #[]) (mvT hZ (own_w hw 29 rfl))) (mvT hZ (own_w hw 29 rfl)) (mvT hZ (own_w hw 28 rfl)) (by decide) (backOf (W := 0) (r_len l Z a0 hw [] cs1 fv T17.heap n0 O17 G0 t17 ([c0_, c1_, c2_].map own_exp) So17 (own_lenm hn_)) hZ (own_w hw 30 rfl) (own_w hw 3 rfl) (by decide) (by decide)) q21a q21c (g := (mkF m 78 #[.val (.int p1), .val (.int p2), .val (.int p3), .val (.int p4), .val (.int (3 : Int32)), .val (.int c0_), .val (.int c1_), .val (.int c2_), .val (.ref b1), .val (.ref b11), .val (.ref t17), .unset] [(.ref t17)])) rfl (by rw [hml]; rfl) (Steps.refl _) (argsL := []) (rest := []) (lenOf pd_21 rfl) rfl (by show 2 * 0 + _ ≤ _; exact Nat.le_of_eq rfl) (hb hby at_78) (fun _ _ => ⟨rfl, rfl, (by decide : 8 + 0 ≤ _), (by decide : 39 + 0 ≤ _)⟩)
  dsimp only [Pt.U, Pt.locs, Pt.cells, Pt.slots] at X21 l21 y21 z21 st21 hQ21
  subst l21 y21 z21
  obtain ⟨rfl, N21q, e21⟩ := hQ21
  have N21 := Fr.app N17 N21q
  obtain ⟨cq22, kq22, q22a, q22b, q22c⟩ := isOf hZ e21 (own_Str_exa So17)
  obtain ⟨_, _, ⟨T22, L22, k22, n22⟩, -, X22, ⟨Lc22, hQ22, l22, y22, z22⟩, st22⟩ := X21.virtualBack hx (y := Y19_) (z := Y19_) hown (mvT hZ (own_w hw 73 rfl)) (mvT hZ (own_w hw 49 rfl)) (notFace_of_selects (args := #[]) (mvT hZ (own_w hw 51 rfl))) (mvT hZ (own_w hw 51 rfl)) (mvT hZ (own_w hw 50 rfl)) (by decide) (backOf (W := 0) (r_ch l Z a0 hw [] cs1 fv T17.heap n0 O17 G0 t17 ([c0_, c1_, c2_].map own_exp) So17 0 (Nat.le_of_ble_eq_true rfl) (own_lenm hn_) (own_Bd_exp hB_)) hZ (own_w hw 52 rfl) (own_w hw 3 rfl) (by decide) (by decide)) q22a q22c (g := (mkF m 99 #[.val (.int p1), .val (.int p2), .val (.int p3), .val (.int p4), .val (.int (3 : Int32)), .val (.int c0_), .val (.int c1_), .val (.int c2_), .val (.ref b1), .val (.ref b11), .val (.ref t17), .val (.int (0 : Int32))] [(.int (0 : Int32)), (.ref t17)])) rfl (by rw [hml]; rfl) (Steps.refl _) (argsL := [(.int (0 : Int32))]) (rest := []) (lenOf pd_22 rfl) rfl (by show 2 * 0 + _ ≤ _; exact Nat.le_of_eq rfl) (hb hby at_99) (fun _ _ => ⟨rfl, e21, (by decide : 8 + 0 ≤ _), (by decide : 39 + 0 ≤ _)⟩)
  dsimp only [Pt.U, Pt.locs, Pt.cells, Pt.slots] at X22 l22 y22 z22 st22 hQ22
  subst l22 y22 z22
  obtain ⟨rfl, N22q, e22⟩ := hQ22
  have N22 := Fr.app N21 N22q
  obtain ⟨_, _, ⟨T23, L23, k23, n23⟩, -, X23, ⟨Lc23, hQ23, l23, y23, z23⟩, st23⟩ := Jvm.LawKit.callS X22 hx (y := Y30_) hown (mvT hZ (own_w hw 74 rfl)) (mvT hZ (own_w hw 75 rfl)) (mvT hZ (own_w hw 76 rfl)) (mvT hZ (own_w hw 77 rfl)) (by decide) (backOf (W := 1) (r_ex l Z a0 hw [] cs1 fv T17.heap n0 O17 G0 c0_ hz0_ hm0_) hZ (own_w hw 77 rfl) (own_w hw 76 rfl) (by decide) (by decide)) (g := (mkF m 104 #[.val (.int p1), .val (.int p2), .val (.int p3), .val (.int p4), .val (.int (3 : Int32)), .val (.int c0_), .val (.int c1_), .val (.int c2_), .val (.ref b1), .val (.ref b11), .val (.ref t17), .val (.int (0 : Int32))] [(.int c0_), (.int (own_exp c0_))])) rfl (by rw [hml]; rfl) (argsL := [(.int c0_)]) (rest := [(.int (own_exp c0_))]) (lenOf pd_26 rfl) rfl (by show 2 * 0 + _ ≤ _; exact Nat.le_of_eq rfl) (hb hby at_104) (fun _ _ => ⟨rfl, e22, (by decide : 8 + 0 ≤ _), (by decide : 39 + 0 ≤ _)⟩)
  dsimp only [Pt.U, Pt.locs, Pt.cells, Pt.slots] at X23 l23 y23 z23 st23 hQ23
  subst l23 y23 z23
  obtain ⟨rfl, N23q, e23⟩ := hQ23
  have N23 := Fr.app N22 N23q
  obtain ⟨_, _, ⟨T24, L24, k24, n24⟩, -, X24, ⟨Lc24, hQ24, l24, y24, z24⟩, st24⟩ := Jvm.LawKit.callS X23 hx (y := Y29_) hown (mvT hZ (own_w hw 78 rfl)) (mvT hZ (own_w hw 79 rfl)) (mvT hZ (own_w hw 76 rfl)) (mvT hZ (own_w hw 80 rfl)) (by decide) (backOf (W := 0) (r_ibF l Z a0 hw [] cs1 fv T17.heap n0 O17 G0 c0_ hq0_) hZ (own_w hw 80 rfl) (own_w hw 76 rfl) (by decide) (by decide)) (g := (mkF m 119 #[.val (.int p1), .val (.int p2), .val (.int p3), .val (.int p4), .val (.int (3 : Int32)), .val (.int c0_), .val (.int c1_), .val (.int c2_), .val (.ref b1), .val (.ref b11), .val (.ref t17), .val (.int (0 : Int32))] [(.int c0_)])) rfl (by rw [hml]; rfl) (argsL := [(.int c0_)]) (rest := []) (lenOf pd_20 rfl) rfl (by show 2 * 0 + _ ≤ _; exact Nat.le_of_eq rfl) (hb hby at_119) (fun _ _ => ⟨rfl, e23, (by decide : 8 + 0 ≤ _), (by decide : 39 + 0 ≤ _)⟩)
  dsimp only [Pt.U, Pt.locs, Pt.cells, Pt.slots] at X24 l24 y24 z24 st24 hQ24
  subst l24 y24 z24
  obtain ⟨rfl, N24q, e24⟩ := hQ24
  have N24 := Fr.app N23 N24q
  obtain ⟨cq25, kq25, q25a, q25b, q25c⟩ := isOf hZ e24 (own_Str_exa So17)
  obtain ⟨_, _, ⟨T25, L25, k25, n25⟩, -, X25, ⟨Lc25, hQ25, l25, y25, z25⟩, st25⟩ := X24.virtualBack hx (y := Y19_) (z := Y19_) hown (mvT hZ (own_w hw 73 rfl)) (mvT hZ (own_w hw 49 rfl)) (notFace_of_selects (args := #[]) (mvT hZ (own_w hw 51 rfl))) (mvT hZ (own_w hw 51 rfl)) (mvT hZ (own_w hw 50 rfl)) (by decide) (backOf (W := 0) (r_ch l Z a0 hw [] cs1 fv T17.heap n0 O17 G0 t17 ([c0_, c1_, c2_].map own_exp) So17 1 (Nat.le_of_ble_eq_true rfl) (own_lenm hn_) (own_Bd_exp hB_)) hZ (own_w hw 52 rfl) (own_w hw 3 rfl) (by decide) (by decide)) q25a q25c (g := (mkF m 141 #[.val (.int p1), .val (.int p2), .val (.int p3), .val (.int p4), .val (.int (3 : Int32)), .val (.int c0_), .val (.int c1_), .val (.int c2_), .val (.ref b1), .val (.ref b11), .val (.ref t17), .val (.int (0 : Int32))] [(.int (1 : Int32)), (.ref t17)])) rfl (by rw [hml]; rfl) (Steps.refl _) (argsL := [(.int (1 : Int32))]) (rest := []) (lenOf pd_22 rfl) rfl (by show 2 * 0 + _ ≤ _; exact Nat.le_of_eq rfl) (hb hby at_141) (fun _ _ => ⟨rfl, e24, (by decide : 8 + 0 ≤ _), (by decide : 39 + 0 ≤ _)⟩)
  dsimp only [Pt.U, Pt.locs, Pt.cells, Pt.slots] at X25 l25 y25 z25 st25 hQ25
  subst l25 y25 z25
  obtain ⟨rfl, N25q, e25⟩ := hQ25
  have N25 := Fr.app N24 N25q
  obtain ⟨_, _, ⟨T26, L26, k26, n26⟩, -, X26, ⟨Lc26, hQ26, l26, y26, z26⟩, st26⟩ := Jvm.LawKit.callS X25 hx (y := Y30_) hown (mvT hZ (own_w hw 74 rfl)) (mvT hZ (own_w hw 75 rfl)) (mvT hZ (own_w hw 76 rfl)) (mvT hZ (own_w hw 77 rfl)) (by decide) (backOf (W := 1) (r_ex l Z a0 hw [] cs1 fv T17.heap n0 O17 G0 c1_ hz1_ hm1_) hZ (own_w hw 77 rfl) (own_w hw 76 rfl) (by decide) (by decide)) (g := (mkF m 146 #[.val (.int p1), .val (.int p2), .val (.int p3), .val (.int p4), .val (.int (3 : Int32)), .val (.int c0_), .val (.int c1_), .val (.int c2_), .val (.ref b1), .val (.ref b11), .val (.ref t17), .val (.int (0 : Int32))] [(.int c1_), (.int (own_exp c1_))])) rfl (by rw [hml]; rfl) (argsL := [(.int c1_)]) (rest := [(.int (own_exp c1_))]) (lenOf pd_26 rfl) rfl (by show 2 * 0 + _ ≤ _; exact Nat.le_of_eq rfl) (hb hby at_146) (fun _ _ => ⟨rfl, e25, (by decide : 8 + 0 ≤ _), (by decide : 39 + 0 ≤ _)⟩)
  dsimp only [Pt.U, Pt.locs, Pt.cells, Pt.slots] at X26 l26 y26 z26 st26 hQ26
  subst l26 y26 z26
  obtain ⟨rfl, N26q, e26⟩ := hQ26
  have N26 := Fr.app N25 N26q
  obtain ⟨_, _, ⟨T27, L27, k27, n27⟩, -, X27, ⟨Lc27, hQ27, l27, y27, z27⟩, st27⟩ := Jvm.LawKit.callS X26 hx (y := Y29_) hown (mvT hZ (own_w hw 78 rfl)) (mvT hZ (own_w hw 79 rfl)) (mvT hZ (own_w hw 76 rfl)) (mvT hZ (own_w hw 80 rfl)) (by decide) (backOf (W := 0) (r_ibF l Z a0 hw [] cs1 fv T17.heap n0 O17 G0 c1_ hq1_) hZ (own_w hw 80 rfl) (own_w hw 76 rfl) (by decide) (by decide)) (g := (mkF m 161 #[.val (.int p1), .val (.int p2), .val (.int p3), .val (.int p4), .val (.int (3 : Int32)), .val (.int c0_), .val (.int c1_), .val (.int c2_), .val (.ref b1), .val (.ref b11), .val (.ref t17), .val (.int (0 : Int32))] [(.int c1_)])) rfl (by rw [hml]; rfl) (argsL := [(.int c1_)]) (rest := []) (lenOf pd_20 rfl) rfl (by show 2 * 0 + _ ≤ _; exact Nat.le_of_eq rfl) (hb hby at_161) (fun _ _ => ⟨rfl, e26, (by decide : 8 + 0 ≤ _), (by decide : 39 + 0 ≤ _)⟩)
  dsimp only [Pt.U, Pt.locs, Pt.cells, Pt.slots] at X27 l27 y27 z27 st27 hQ27
  subst l27 y27 z27
  obtain ⟨rfl, N27q, e27⟩ := hQ27
  have N27 := Fr.app N26 N27q
  obtain ⟨cq28, kq28, q28a, q28b, q28c⟩ := isOf hZ e27 (own_Str_exa So17)
  obtain ⟨_, _, ⟨T28, L28, k28, n28⟩, -, X28, ⟨Lc28, hQ28, l28, y28, z28⟩, st28⟩ := X27.virtualBack hx (y := Y19_) (z := Y19_) hown (mvT hZ (own_w hw 73 rfl)) (mvT hZ (own_w hw 49 rfl)) (notFace_of_selects (args := #[]) (mvT hZ (own_w hw 51 rfl))) (mvT hZ (own_w hw 51 rfl)) (mvT hZ (own_w hw 50 rfl)) (by decide) (backOf (W := 0) (r_ch l Z a0 hw [] cs1 fv T17.heap n0 O17 G0 t17 ([c0_, c1_, c2_].map own_exp) So17 2 (Nat.le_of_ble_eq_true rfl) (own_lenm hn_) (own_Bd_exp hB_)) hZ (own_w hw 52 rfl) (own_w hw 3 rfl) (by decide) (by decide)) q28a q28c (g := (mkF m 183 #[.val (.int p1), .val (.int p2), .val (.int p3), .val (.int p4), .val (.int (3 : Int32)), .val (.int c0_), .val (.int c1_), .val (.int c2_), .val (.ref b1), .val (.ref b11), .val (.ref t17), .val (.int (0 : Int32))] [(.int (2 : Int32)), (.ref t17)])) rfl (by rw [hml]; rfl) (Steps.refl _) (argsL := [(.int (2 : Int32))]) (rest := []) (lenOf pd_22 rfl) rfl (by show 2 * 0 + _ ≤ _; exact Nat.le_of_eq rfl) (hb hby at_183) (fun _ _ => ⟨rfl, e27, (by decide : 8 + 0 ≤ _), (by decide : 39 + 0 ≤ _)⟩)
  dsimp only [Pt.U, Pt.locs, Pt.cells, Pt.slots] at X28 l28 y28 z28 st28 hQ28
  subst l28 y28 z28
  obtain ⟨rfl, N28q, e28⟩ := hQ28
  have N28 := Fr.app N27 N28q
  obtain ⟨_, _, ⟨T29, L29, k29, n29⟩, -, X29, ⟨Lc29, hQ29, l29, y29, z29⟩, st29⟩ := Jvm.LawKit.callS X28 hx (y := Y30_) hown (mvT hZ (own_w hw 74 rfl)) (mvT hZ (own_w hw 75 rfl)) (mvT hZ (own_w hw 76 rfl)) (mvT hZ (own_w hw 77 rfl)) (by decide) (backOf (W := 1) (r_ex l Z a0 hw [] cs1 fv T17.heap n0 O17 G0 c2_ hz2_ hm2_) hZ (own_w hw 77 rfl) (own_w hw 76 rfl) (by decide) (by decide)) (g := (mkF m 188 #[.val (.int p1), .val (.int p2), .val (.int p3), .val (.int p4), .val (.int (3 : Int32)), .val (.int c0_), .val (.int c1_), .val (.int c2_), .val (.ref b1), .val (.ref b11), .val (.ref t17), .val (.int (0 : Int32))] [(.int c2_), (.int (own_exp c2_))])) rfl (by rw [hml]; rfl) (argsL := [(.int c2_)]) (rest := [(.int (own_exp c2_))]) (lenOf pd_26 rfl) rfl (by show 2 * 0 + _ ≤ _; exact Nat.le_of_eq rfl) (hb hby at_188) (fun _ _ => ⟨rfl, e28, (by decide : 8 + 0 ≤ _), (by decide : 39 + 0 ≤ _)⟩)
  dsimp only [Pt.U, Pt.locs, Pt.cells, Pt.slots] at X29 l29 y29 z29 st29 hQ29
  subst l29 y29 z29
  obtain ⟨rfl, N29q, e29⟩ := hQ29
  have N29 := Fr.app N28 N29q
  obtain ⟨_, _, ⟨T30, L30, k30, n30⟩, -, X30, ⟨Lc30, hQ30, l30, y30, z30⟩, st30⟩ := Jvm.LawKit.callS X29 hx (y := Y29_) hown (mvT hZ (own_w hw 78 rfl)) (mvT hZ (own_w hw 79 rfl)) (mvT hZ (own_w hw 76 rfl)) (mvT hZ (own_w hw 80 rfl)) (by decide) (backOf (W := 0) (r_ibT l Z a0 hw [] cs1 fv T17.heap n0 O17 G0 c2_ hq2_) hZ (own_w hw 80 rfl) (own_w hw 76 rfl) (by decide) (by decide)) (g := (mkF m 203 #[.val (.int p1), .val (.int p2), .val (.int p3), .val (.int p4), .val (.int (3 : Int32)), .val (.int c0_), .val (.int c1_), .val (.int c2_), .val (.ref b1), .val (.ref b11), .val (.ref t17), .val (.int (0 : Int32))] [(.int c2_)])) rfl (by rw [hml]; rfl) (argsL := [(.int c2_)]) (rest := []) (lenOf pd_20 rfl) rfl (by show 2 * 0 + _ ≤ _; exact Nat.le_of_eq rfl) (hb hby at_203) (fun _ _ => ⟨rfl, e29, (by decide : 8 + 0 ≤ _), (by decide : 39 + 0 ≤ _)⟩)
  dsimp only [Pt.U, Pt.locs, Pt.cells, Pt.slots] at X30 l30 y30 z30 st30 hQ30
  subst l30 y30 z30
  obtain ⟨rfl, N30q, e30⟩ := hQ30
  have N30 := Fr.app N29 N30q
  obtain ⟨fs, hr, hrun, hended, hW, hsame⟩ := X30.leave (v := some (.int (1 : Int32))) (fun h => by rw [Bd.returns] at h; cases h)
  refine ⟨_, _, pre0 _ ?_, hrun, hended, _, _, rfl, ?_, ⟨_, rfl⟩, hW, hsame.mono (by decide) (by decide)⟩
  · show Steps p.tables e below (s₁.setTop (mkF m 0 #[.val (.int p1), .val (.int p2), .val (.int p3), .val (.int p4), .unset, .unset, .unset, .unset, .unset, .unset, .unset, .unset] [])) _
    refine XS.iloadN X0.here hx rfl (hb hby at_0) rfl ?_
    refine XS.iconst X0.here hx rfl (hb hby at_1) ?_
    refine XS.iand X0.here hx rfl (hb hby at_2) rfl ?_
    show Steps p.tables e below (s₁.setTop (mkF m 3 #[.val (.int p1), .val (.int p2), .val (.int p3), .val (.int p4), .unset, .unset, .unset, .unset, .unset, .unset, .unset, .unset] [(.int (p1 &&& (3 : Int32)))])) _
    rw [hl]
    refine XS.istore X0.here hx rfl (hb hby at_3) rfl (l' := #[.val (.int p1), .val (.int p2), .val (.int p3), .val (.int p4), .val (.int (3 : Int32)), .unset, .unset, .unset, .unset, .unset, .unset, .unset]) rfl ?_
    refine XS.iloadN X0.here hx rfl (hb hby at_5) rfl ?_
    refine XS.i2c X0.here hx rfl (hb hby at_6) rfl ?_
    show Steps p.tables e below (s₁.setTop (mkF m 7 #[.val (.int p1), .val (.int p2), .val (.int p3), .val (.int p4), .val (.int (3 : Int32)), .unset, .unset, .unset, .unset, .unset, .unset, .unset] [(.int (p2.toUInt32.toUInt16.toUInt32.toInt32))])) _
    rw [he0]
    refine XS.istore X0.here hx rfl (hb hby at_7) rfl (l' := #[.val (.int p1), .val (.int p2), .val (.int p3), .val (.int p4), .val (.int (3 : Int32)), .val (.int c0_), .unset, .unset, .unset, .unset, .unset, .unset]) rfl ?_
    refine XS.iloadN X0.here hx rfl (hb hby at_9) rfl ?_
    refine XS.i2c X0.here hx rfl (hb hby at_10) rfl ?_
    show Steps p.tables e below (s₁.setTop (mkF m 11 #[.val (.int p1), .val (.int p2), .val (.int p3), .val (.int p4), .val (.int (3 : Int32)), .val (.int c0_), .unset, .unset, .unset, .unset, .unset, .unset] [(.int (p3.toUInt32.toUInt16.toUInt32.toInt32))])) _
    rw [he1]
    refine XS.istore X0.here hx rfl (hb hby at_11) rfl (l' := #[.val (.int p1), .val (.int p2), .val (.int p3), .val (.int p4), .val (.int (3 : Int32)), .val (.int c0_), .val (.int c1_), .unset, .unset, .unset, .unset, .unset]) rfl ?_
    show Steps p.tables e below (s₁.setTop (mkF m 13 #[.val (.int p1), .val (.int p2), .val (.int p3), .val (.int p4), .val (.int (3 : Int32)), .val (.int c0_), .val (.int c1_), .unset, .unset, .unset, .unset, .unset] [])) _
    refine XS.iloadN X0.here hx rfl (hb hby at_13) rfl ?_
    refine XS.i2c X0.here hx rfl (hb hby at_14) rfl ?_
    show Steps p.tables e below (s₁.setTop (mkF m 15 #[.val (.int p1), .val (.int p2), .val (.int p3), .val (.int p4), .val (.int (3 : Int32)), .val (.int c0_), .val (.int c1_), .unset, .unset, .unset, .unset, .unset] [(.int (p4.toUInt32.toUInt16.toUInt32.toInt32))])) _
    rw [he2]
    refine XS.istore X0.here hx rfl (hb hby at_15) rfl (l' := #[.val (.int p1), .val (.int p2), .val (.int p3), .val (.int p4), .val (.int (3 : Int32)), .val (.int c0_), .val (.int c1_), .val (.int c2_), .unset, .unset, .unset, .unset]) rfl ?_
    refine XS.iload X0.here hx rfl (hb hby at_17) rfl ?_
    show Steps p.tables e below (s₁.setTop (mkF m 19 #[.val (.int p1), .val (.int p2), .val (.int p3), .val (.int p4), .val (.int (3 : Int32)), .val (.int c0_), .val (.int c1_), .val (.int c2_), .unset, .unset, .unset, .unset] [(.int (3 : Int32))])) _
    refine st1 _ ?_
    show Steps p.tables e below (T1.setTop (mkF m 21 #[.val (.int p1), .val (.int p2), .val (.int p3), .val (.int p4), .val (.int (3 : Int32)), .val (.int c0_), .val (.int c1_), .val (.int c2_), .unset, .unset, .unset, .unset] [(.ref b1)])) _
    refine XS.astore X1.here hx rfl (hb hby at_21) rfl rfl (l' := #[.val (.int p1), .val (.int p2), .val (.int p3), .val (.int p4), .val (.int (3 : Int32)), .val (.int c0_), .val (.int c1_), .val (.int c2_), .val (.ref b1), .unset, .unset, .unset]) rfl ?_
    refine XS.iload X1.here hx rfl (hb hby at_23) rfl ?_
    refine XS.ifNo X1.here hx rfl (hb hby at_25) rfl ((if0 _ _).trans (tlt (by decide : (0 : Int32) < (3 : Int32))).2.2.2) ?_
    refine XS.aload X1.here hx rfl (hb hby at_28) rfl rfl ?_
    refine XS.iconst X1.here hx rfl (hb hby at_30) ?_
    refine XS.iload X1.here hx rfl (hb hby at_31) rfl ?_
    show Steps p.tables e below (T1.setTop (mkF m 33 #[.val (.int p1), .val (.int p2), .val (.int p3), .val (.int p4), .val (.int (3 : Int32)), .val (.int c0_), .val (.int c1_), .val (.int c2_), .val (.ref b1), .unset, .unset, .unset] [(.int c0_), (.int (0 : Int32)), (.ref b1)])) _
    refine st3 _ ?_
    show Steps p.tables e below (T3.setTop (mkF m 34 #[.val (.int p1), .val (.int p2), .val (.int p3), .val (.int p4), .val (.int (3 : Int32)), .val (.int c0_), .val (.int c1_), .val (.int c2_), .val (.ref b1), .unset, .unset, .unset] [])) _
    refine XS.iload X3.here hx rfl (hb hby at_34) rfl ?_
    refine XS.iconst X3.here hx rfl (hb hby at_36) ?_
    refine XS.icmpNo X3.here hx rfl (hb hby at_37) rfl (tlt (by decide : (1 : Int32) < (3 : Int32))).2.2.2 ?_
    refine XS.aload X3.here hx rfl (hb hby at_40) rfl rfl ?_
    refine XS.iconst X3.here hx rfl (hb hby at_42) ?_
    refine XS.iload X3.here hx rfl (hb hby at_43) rfl ?_
    show Steps p.tables e below (T3.setTop (mkF m 45 #[.val (.int p1), .val (.int p2), .val (.int p3), .val (.int p4), .val (.int (3 : Int32)), .val (.int c0_), .val (.int c1_), .val (.int c2_), .val (.ref b1), .unset, .unset, .unset] [(.int c1_), (.int (1 : Int32)), (.ref b1)])) _
    refine st6 _ ?_
    show Steps p.tables e below (T6.setTop (mkF m 46 #[.val (.int p1), .val (.int p2), .val (.int p3), .val (.int p4), .val (.int (3 : Int32)), .val (.int c0_), .val (.int c1_), .val (.int c2_), .val (.ref b1), .unset, .unset, .unset] [])) _
    refine XS.iload X6.here hx rfl (hb hby at_46) rfl ?_
    refine XS.iconst X6.here hx rfl (hb hby at_48) ?_
    refine XS.icmpNo X6.here hx rfl (hb hby at_49) rfl (tlt (by decide : (2 : Int32) < (3 : Int32))).2.2.2 ?_
    refine XS.aload X6.here hx rfl (hb hby at_52) rfl rfl ?_
    refine XS.iconst X6.here hx rfl (hb hby at_54) ?_
    refine XS.iload X6.here hx rfl (hb hby at_55) rfl ?_
    show Steps p.tables e below (T6.setTop (mkF m 57 #[.val (.int p1), .val (.int p2), .val (.int p3), .val (.int p4), .val (.int (3 : Int32)), .val (.int c0_), .val (.int c1_), .val (.int c2_), .val (.ref b1), .unset, .unset, .unset] [(.int c2_), (.int (2 : Int32)), (.ref b1)])) _
    refine st9 _ ?_
    show Steps p.tables e below (T9.setTop (mkF m 58 #[.val (.int p1), .val (.int p2), .val (.int p3), .val (.int p4), .val (.int (3 : Int32)), .val (.int c0_), .val (.int c1_), .val (.int c2_), .val (.ref b1), .unset, .unset, .unset] [])) _
    refine st11 _ ?_
    show Steps p.tables e below (T11.setTop (mkF m 61 #[.val (.int p1), .val (.int p2), .val (.int p3), .val (.int p4), .val (.int (3 : Int32)), .val (.int c0_), .val (.int c1_), .val (.int c2_), .val (.ref b1), .unset, .unset, .unset] [(.ref b11)])) _
    refine XS.dup X11.here hx rfl (hb hby at_61) rfl rfl ?_
    refine XS.aload X11.here hx rfl (hb hby at_62) rfl rfl ?_
    show Steps p.tables e below (T11.setTop (mkF m 64 #[.val (.int p1), .val (.int p2), .val (.int p3), .val (.int p4), .val (.int (3 : Int32)), .val (.int c0_), .val (.int c1_), .val (.int c2_), .val (.ref b1), .unset, .unset, .unset] [(.ref b1), (.ref b11), (.ref b11)])) _
    refine st14.trans ?_
    show Steps p.tables e below (T14.setTop (mkF m 67 #[.val (.int p1), .val (.int p2), .val (.int p3), .val (.int p4), .val (.int (3 : Int32)), .val (.int c0_), .val (.int c1_), .val (.int c2_), .val (.ref b1), .unset, .unset, .unset] [(.ref b11)])) _
    refine XS.astore X14.here hx rfl (hb hby at_67) rfl rfl (l' := #[.val (.int p1), .val (.int p2), .val (.int p3), .val (.int p4), .val (.int (3 : Int32)), .val (.int c0_), .val (.int c1_), .val (.int c2_), .val (.ref b1), .val (.ref b11), .unset, .unset]) rfl ?_
    refine XS.aload X14.here hx rfl (hb hby at_69) rfl rfl ?_
    show Steps p.tables e below (T14.setTop (mkF m 71 #[.val (.int p1), .val (.int p2), .val (.int p3), .val (.int p4), .val (.int (3 : Int32)), .val (.int c0_), .val (.int c1_), .val (.int c2_), .val (.ref b1), .val (.ref b11), .unset, .unset] [(.ref b11)])) _
    refine st17 _ ?_
    show Steps p.tables e below (T17.setTop (mkF m 74 #[.val (.int p1), .val (.int p2), .val (.int p3), .val (.int p4), .val (.int (3 : Int32)), .val (.int c0_), .val (.int c1_), .val (.int c2_), .val (.ref b1), .val (.ref b11), .unset, .unset] [(.ref t17)])) _
    refine XS.astore X17.here hx rfl (hb hby at_74) rfl rfl (l' := #[.val (.int p1), .val (.int p2), .val (.int p3), .val (.int p4), .val (.int (3 : Int32)), .val (.int c0_), .val (.int c1_), .val (.int c2_), .val (.ref b1), .val (.ref b11), .val (.ref t17), .unset]) rfl ?_
    refine XS.aload X17.here hx rfl (hb hby at_76) rfl rfl ?_
    show Steps p.tables e below (T17.setTop (mkF m 78 #[.val (.int p1), .val (.int p2), .val (.int p3), .val (.int p4), .val (.int (3 : Int32)), .val (.int c0_), .val (.int c1_), .val (.int c2_), .val (.ref b1), .val (.ref b11), .val (.ref t17), .unset] [(.ref t17)])) _
    refine st21.trans ?_
    show Steps p.tables e below (T21.setTop (mkF m 81 #[.val (.int p1), .val (.int p2), .val (.int p3), .val (.int p4), .val (.int (3 : Int32)), .val (.int c0_), .val (.int c1_), .val (.int c2_), .val (.ref b1), .val (.ref b11), .val (.ref t17), .unset] [(.int (3 : Int32))])) _
    refine XS.iload X21.here hx rfl (hb hby at_81) rfl ?_
    refine XS.icmpYes X21.here hx rfl (pc0 := 83) (pc' := 88) rfl (hb hby at_83) rfl (teq (by decide : (3 : Int32) = (3 : Int32))).1 (by decide) (by decide) ?_
    refine XS.iconst X21.here hx rfl (hb hby at_88) ?_
    refine XS.istore X21.here hx rfl (hb hby at_89) rfl (l' := #[.val (.int p1), .val (.int p2), .val (.int p3), .val (.int p4), .val (.int (3 : Int32)), .val (.int c0_), .val (.int c1_), .val (.int c2_), .val (.ref b1), .val (.ref b11), .val (.ref t17), .val (.int (0 : Int32))]) rfl ?_
    refine XS.iload X21.here hx rfl (hb hby at_91) rfl ?_
    refine XS.ifNo X21.here hx rfl (hb hby at_93) rfl ((if0 _ _).trans (tlt (by decide : (0 : Int32) < (3 : Int32))).2.2.2) ?_
    refine XS.aload X21.here hx rfl (hb hby at_96) rfl rfl ?_
    refine XS.iconst X21.here hx rfl (hb hby at_98) ?_
    show Steps p.tables e below (T21.setTop (mkF m 99 #[.val (.int p1), .val (.int p2), .val (.int p3), .val (.int p4), .val (.int (3 : Int32)), .val (.int c0_), .val (.int c1_), .val (.int c2_), .val (.ref b1), .val (.ref b11), .val (.ref t17), .val (.int (0 : Int32))] [(.int (0 : Int32)), (.ref t17)])) _
    refine st22.trans ?_
    show Steps p.tables e below (T22.setTop (mkF m 102 #[.val (.int p1), .val (.int p2), .val (.int p3), .val (.int p4), .val (.int (3 : Int32)), .val (.int c0_), .val (.int c1_), .val (.int c2_), .val (.ref b1), .val (.ref b11), .val (.ref t17), .val (.int (0 : Int32))] [(.int (own_exp c0_))])) _
    refine XS.iload X22.here hx rfl (hb hby at_102) rfl ?_
    show Steps p.tables e below (T22.setTop (mkF m 104 #[.val (.int p1), .val (.int p2), .val (.int p3), .val (.int p4), .val (.int (3 : Int32)), .val (.int c0_), .val (.int c1_), .val (.int c2_), .val (.ref b1), .val (.ref b11), .val (.ref t17), .val (.int (0 : Int32))] [(.int c0_), (.int (own_exp c0_))])) _
    refine st23 _ ?_
    show Steps p.tables e below (T23.setTop (mkF m 107 #[.val (.int p1), .val (.int p2), .val (.int p3), .val (.int p4), .val (.int (3 : Int32)), .val (.int c0_), .val (.int c1_), .val (.int c2_), .val (.ref b1), .val (.ref b11), .val (.ref t17), .val (.int (0 : Int32))] [(.int (own_exp c0_)), (.int (own_exp c0_))])) _
    refine XS.icmpYes X23.here hx rfl (pc0 := 107) (pc' := 112) rfl (hb hby at_107) rfl (teq (rfl : (own_exp c0_) = (own_exp c0_))).1 (by decide) (by decide) ?_
    refine XS.iload X23.here hx rfl (hb hby at_112) rfl ?_
    refine XS.ifNo X23.here hx rfl (hb hby at_114) rfl ((if0 _ _).trans (teq (by decide : (0 : Int32) = (0 : Int32))).2) ?_
    refine XS.iload X23.here hx rfl (hb hby at_117) rfl ?_
    show Steps p.tables e below (T23.setTop (mkF m 119 #[.val (.int p1), .val (.int p2), .val (.int p3), .val (.int p4), .val (.int (3 : Int32)), .val (.int c0_), .val (.int c1_), .val (.int c2_), .val (.ref b1), .val (.ref b11), .val (.ref t17), .val (.int (0 : Int32))] [(.int c0_)])) _
    refine st24 _ ?_
    show Steps p.tables e below (T24.setTop (mkF m 122 #[.val (.int p1), .val (.int p2), .val (.int p3), .val (.int p4), .val (.int (3 : Int32)), .val (.int c0_), .val (.int c1_), .val (.int c2_), .val (.ref b1), .val (.ref b11), .val (.ref t17), .val (.int (0 : Int32))] [(.int (0 : Int32))])) _
    refine XS.ifYes X24.here hx rfl (pc0 := 122) (pc' := 129) rfl (hb hby at_122) rfl ((if0 _ _).trans (teq (by decide : (0 : Int32) = (0 : Int32))).1) (by decide) (by decide) ?_
    refine XS.iconst X24.here hx rfl (hb hby at_129) ?_
    refine XS.istore X24.here hx rfl (hb hby at_130) rfl (l' := #[.val (.int p1), .val (.int p2), .val (.int p3), .val (.int p4), .val (.int (3 : Int32)), .val (.int c0_), .val (.int c1_), .val (.int c2_), .val (.ref b1), .val (.ref b11), .val (.ref t17), .val (.int (0 : Int32))]) rfl ?_
    refine XS.iload X24.here hx rfl (hb hby at_132) rfl ?_
    refine XS.iconst X24.here hx rfl (hb hby at_134) ?_
    refine XS.icmpNo X24.here hx rfl (hb hby at_135) rfl (tlt (by decide : (1 : Int32) < (3 : Int32))).2.2.2 ?_
    refine XS.aload X24.here hx rfl (hb hby at_138) rfl rfl ?_
    refine XS.iconst X24.here hx rfl (hb hby at_140) ?_
    show Steps p.tables e below (T24.setTop (mkF m 141 #[.val (.int p1), .val (.int p2), .val (.int p3), .val (.int p4), .val (.int (3 : Int32)), .val (.int c0_), .val (.int c1_), .val (.int c2_), .val (.ref b1), .val (.ref b11), .val (.ref t17), .val (.int (0 : Int32))] [(.int (1 : Int32)), (.ref t17)])) _
    refine st25.trans ?_
    show Steps p.tables e below (T25.setTop (mkF m 144 #[.val (.int p1), .val (.int p2), .val (.int p3), .val (.int p4), .val (.int (3 : Int32)), .val (.int c0_), .val (.int c1_), .val (.int c2_), .val (.ref b1), .val (.ref b11), .val (.ref t17), .val (.int (0 : Int32))] [(.int (own_exp c1_))])) _
    refine XS.iload X25.here hx rfl (hb hby at_144) rfl ?_
    show Steps p.tables e below (T25.setTop (mkF m 146 #[.val (.int p1), .val (.int p2), .val (.int p3), .val (.int p4), .val (.int (3 : Int32)), .val (.int c0_), .val (.int c1_), .val (.int c2_), .val (.ref b1), .val (.ref b11), .val (.ref t17), .val (.int (0 : Int32))] [(.int c1_), (.int (own_exp c1_))])) _
    refine st26 _ ?_
    show Steps p.tables e below (T26.setTop (mkF m 149 #[.val (.int p1), .val (.int p2), .val (.int p3), .val (.int p4), .val (.int (3 : Int32)), .val (.int c0_), .val (.int c1_), .val (.int c2_), .val (.ref b1), .val (.ref b11), .val (.ref t17), .val (.int (0 : Int32))] [(.int (own_exp c1_)), (.int (own_exp c1_))])) _
    refine XS.icmpYes X26.here hx rfl (pc0 := 149) (pc' := 154) rfl (hb hby at_149) rfl (teq (rfl : (own_exp c1_) = (own_exp c1_))).1 (by decide) (by decide) ?_
    refine XS.iload X26.here hx rfl (hb hby at_154) rfl ?_
    refine XS.ifNo X26.here hx rfl (hb hby at_156) rfl ((if0 _ _).trans (teq (by decide : (0 : Int32) = (0 : Int32))).2) ?_
    refine XS.iload X26.here hx rfl (hb hby at_159) rfl ?_
    show Steps p.tables e below (T26.setTop (mkF m 161 #[.val (.int p1), .val (.int p2), .val (.int p3), .val (.int p4), .val (.int (3 : Int32)), .val (.int c0_), .val (.int c1_), .val (.int c2_), .val (.ref b1), .val (.ref b11), .val (.ref t17), .val (.int (0 : Int32))] [(.int c1_)])) _
    refine st27 _ ?_
    show Steps p.tables e below (T27.setTop (mkF m 164 #[.val (.int p1), .val (.int p2), .val (.int p3), .val (.int p4), .val (.int (3 : Int32)), .val (.int c0_), .val (.int c1_), .val (.int c2_), .val (.ref b1), .val (.ref b11), .val (.ref t17), .val (.int (0 : Int32))] [(.int (0 : Int32))])) _
    refine XS.ifYes X27.here hx rfl (pc0 := 164) (pc' := 171) rfl (hb hby at_164) rfl ((if0 _ _).trans (teq (by decide : (0 : Int32) = (0 : Int32))).1) (by decide) (by decide) ?_
    refine XS.iconst X27.here hx rfl (hb hby at_171) ?_
    refine XS.istore X27.here hx rfl (hb hby at_172) rfl (l' := #[.val (.int p1), .val (.int p2), .val (.int p3), .val (.int p4), .val (.int (3 : Int32)), .val (.int c0_), .val (.int c1_), .val (.int c2_), .val (.ref b1), .val (.ref b11), .val (.ref t17), .val (.int (0 : Int32))]) rfl ?_
    refine XS.iload X27.here hx rfl (hb hby at_174) rfl ?_
    refine XS.iconst X27.here hx rfl (hb hby at_176) ?_
    refine XS.icmpNo X27.here hx rfl (hb hby at_177) rfl (tlt (by decide : (2 : Int32) < (3 : Int32))).2.2.2 ?_
    refine XS.aload X27.here hx rfl (hb hby at_180) rfl rfl ?_
    refine XS.iconst X27.here hx rfl (hb hby at_182) ?_
    show Steps p.tables e below (T27.setTop (mkF m 183 #[.val (.int p1), .val (.int p2), .val (.int p3), .val (.int p4), .val (.int (3 : Int32)), .val (.int c0_), .val (.int c1_), .val (.int c2_), .val (.ref b1), .val (.ref b11), .val (.ref t17), .val (.int (0 : Int32))] [(.int (2 : Int32)), (.ref t17)])) _
    refine st28.trans ?_
    show Steps p.tables e below (T28.setTop (mkF m 186 #[.val (.int p1), .val (.int p2), .val (.int p3), .val (.int p4), .val (.int (3 : Int32)), .val (.int c0_), .val (.int c1_), .val (.int c2_), .val (.ref b1), .val (.ref b11), .val (.ref t17), .val (.int (0 : Int32))] [(.int (own_exp c2_))])) _
    refine XS.iload X28.here hx rfl (hb hby at_186) rfl ?_
    show Steps p.tables e below (T28.setTop (mkF m 188 #[.val (.int p1), .val (.int p2), .val (.int p3), .val (.int p4), .val (.int (3 : Int32)), .val (.int c0_), .val (.int c1_), .val (.int c2_), .val (.ref b1), .val (.ref b11), .val (.ref t17), .val (.int (0 : Int32))] [(.int c2_), (.int (own_exp c2_))])) _
    refine st29 _ ?_
    show Steps p.tables e below (T29.setTop (mkF m 191 #[.val (.int p1), .val (.int p2), .val (.int p3), .val (.int p4), .val (.int (3 : Int32)), .val (.int c0_), .val (.int c1_), .val (.int c2_), .val (.ref b1), .val (.ref b11), .val (.ref t17), .val (.int (0 : Int32))] [(.int (own_exp c2_)), (.int (own_exp c2_))])) _
    refine XS.icmpYes X29.here hx rfl (pc0 := 191) (pc' := 196) rfl (hb hby at_191) rfl (teq (rfl : (own_exp c2_) = (own_exp c2_))).1 (by decide) (by decide) ?_
    refine XS.iload X29.here hx rfl (hb hby at_196) rfl ?_
    refine XS.ifNo X29.here hx rfl (hb hby at_198) rfl ((if0 _ _).trans (teq (by decide : (0 : Int32) = (0 : Int32))).2) ?_
    refine XS.iload X29.here hx rfl (hb hby at_201) rfl ?_
    show Steps p.tables e below (T29.setTop (mkF m 203 #[.val (.int p1), .val (.int p2), .val (.int p3), .val (.int p4), .val (.int (3 : Int32)), .val (.int c0_), .val (.int c1_), .val (.int c2_), .val (.ref b1), .val (.ref b11), .val (.ref t17), .val (.int (0 : Int32))] [(.int c2_)])) _
    refine st30 _ ?_
    show Steps p.tables e below (T30.setTop (mkF m 206 #[.val (.int p1), .val (.int p2), .val (.int p3), .val (.int p4), .val (.int (3 : Int32)), .val (.int c0_), .val (.int c1_), .val (.int c2_), .val (.ref b1), .val (.ref b11), .val (.ref t17), .val (.int (0 : Int32))] [(.int (1 : Int32))])) _
    refine XS.ifNo X30.here hx rfl (hb hby at_206) rfl ((if0 _ _).trans (feq (by decide : ¬ ((1 : Int32) = (0 : Int32)))).1) ?_
    refine XS.iconst X30.here hx rfl (hb hby at_209) ?_
    refine XS.goto X30.here hx rfl (pc0 := 210) (pc' := 214) rfl (hb hby at_210) (by decide) (by decide) ?_
    refine XS.istore X30.here hx rfl (hb hby at_214) rfl (l' := #[.val (.int p1), .val (.int p2), .val (.int p3), .val (.int p4), .val (.int (3 : Int32)), .val (.int c0_), .val (.int c1_), .val (.int c2_), .val (.ref b1), .val (.ref b11), .val (.ref t17), .val (.int (1 : Int32))]) rfl ?_
    refine XS.iload X30.here hx rfl (hb hby at_216) rfl ?_
    refine XS.ifYes X30.here hx rfl (pc0 := 218) (pc' := 230) rfl (hb hby at_218) rfl ((if0 _ _).trans (feq (by decide : ¬ ((1 : Int32) = (0 : Int32)))).2) (by decide) (by decide) ?_
    refine XS.iconst X30.here hx rfl (hb hby at_230) ?_
    show Steps p.tables e below (T30.setTop (mkF m 231 #[.val (.int p1), .val (.int p2), .val (.int p3), .val (.int p4), .val (.int (3 : Int32)), .val (.int c0_), .val (.int c1_), .val (.int c2_), .val (.ref b1), .val (.ref b11), .val (.ref t17), .val (.int (1 : Int32))] [(.int (1 : Int32))])) _
    exact retN X30 hx (t := .boolean) Bd.returns (by simp) (hb hby at_231) hr
  · show own_Qk (some (.int (1 : Int32))) [] h0 n0 _ T30.heap _
    rw [e30]
    exact ⟨rfl, N30, K17⟩
theorem r_law3_3 (l : Launch) (Z : State) (a0 : Array Value) (hw : own_HW a0 Z) (ws : List Jvm.Cond) (cs1 : Int32) (fv : Value) (h0 : Heap) (n0 : Nat) (O0 : Old Z n0 h0) (G : own_Ctx Z Z.heap cs1 fv) (p1 p2 p3 p4 c0_ c1_ c2_ : Int32) (hl : p1 &&& (3 : Int32) = (3 : Int32)) (he0 : (p2.toUInt32.toUInt16.toUInt32.toInt32) = c0_) (hz0_ : ¬ (c0_ < (0 : Int32))) (hm0_ : ¬ ((65535 : Int32) < c0_)) (he1 : (p3.toUInt32.toUInt16.toUInt32.toInt32) = c1_) (hz1_ : ¬ (c1_ < (0 : Int32))) (hm1_ : ¬ ((65535 : Int32) < c1_)) (he2 : (p4.toUInt32.toUInt16.toUInt32.toInt32) = c2_) (hz2_ : ¬ (c2_ < (0 : Int32))) (hm2_ : ¬ ((65535 : Int32) < c2_)) (hq0_ : ¬ own_brk c0_) (hq1_ : ¬ own_brk c1_) (hq2_ : ¬ own_brk c2_) :
    own_M l x (head1 (Jvm.Cond.code x code maxLocals ret :: ws) room_1) #[(.int p1), (.int p2), (.int p3), (.int p4)] Z h0 n0 (own_Qk (some (.int (1 : Int32))) []) 32 1216 := by
  have G0 := G
  obtain ⟨S_CS, N_CS, S_F, R_F, S_AD, S_HI, S_LO⟩ := G
  refine MetFree.of_bodySF (plainFor_of_name pn_5) hisR ?_
  intro p e s m args below meth c s₁ Bd hml0 hP hK
  obtain ⟨rfl, hZ, hh⟩ := hP
  have hx := Bd.exec
  have hby := Bd.bytes
  have hml : c.maxLocals = 12 := hml0
  have hown : s.vm.findClass "com/example/rubrique/rubrique/cli/OneLineOfPinLaw" = some m.cls := findClass_of_methodNamed Bd.named
  have hnm := (name_of_methodNamed Bd.named Bd.method).1
  have X0 : Stand p l e room_1 s m #[(.int p1), (.int p2), (.int p3), (.int p4)] below meth c s₁ [] 0 0 := Stand.of_body Bd
  have e0 : s₁.heap = h0 := by rw [← hh, Bd.state]; rfl
  have N0 := Fr.nil n0
  have pre0 := own_pre (tb := p.tables) (e := e) (below := below) (T := s₁) (ef_0_34 m p1 p2 p3 p4)
  obtain ⟨T1, h1, ka1, X1, e1, E1, A1, st1⟩ := newP X0 hx hZ (own_w hw 0 rfl) e0 (g := (mkF m 19 #[.val (.int p1), .val (.int p2), .val (.int p3), .val (.int p4), .val (.int (3 : Int32)), .val (.int c0_), .val (.int c1_), .val (.int c2_), .unset, .unset, .unset, .unset] [(.int (3 : Int32))])) rfl (hb hby at_19) rfl (by decide) (cap := 3) (by decide) (by decide) (by decide) (by decide)
  obtain ⟨b1, g1⟩ : ∃ z, z = h0.size := ⟨_, rfl⟩
  have g_b1 : n0 ≤ b1 := Nat.le_trans (O0.1 ▸ O0.2.1) (Nat.le_of_eq g1.symm)
  have sz_b1 : h0.size ≤ b1 := Nat.le_trans (Keep.refl h0 []).1 (Nat.le_of_eq g1.symm)
  rw [← g1] at A1 st1
  have O1 := O0.ext E1
  have K1 : Keep h0 h1 [] := (Keep.refl h0 []).ext E1
  have V1 : Arv Z h1 b1 ka1 .char (3 : Int32) [(.int (0 : Int32)), (.int (0 : Int32)), (.int (0 : Int32))] (.int (0 : Int32)) := (Arv.new A1 (by decide)).pad (pad_rep [] (.int (0 : Int32)) 3)
  have vc2 := V1
  obtain ⟨cl2, Ar2, qk2, S2, Nn2, Hs2, Gf2⟩ := vc2
  have hin2 : ¬ ((0 : Int32) < 0 ∨ cl2.slots.size ≤ ((0 : Int32)).toNatClampNeg) := inb_of S2 ⟨by decide, by decide⟩
  obtain ⟨T3, h3, X3, e3, W3, st3⟩ := stC X1 hx hZ e1 Ar2 (j := (0 : Int32)) hin2 (g := (mkF m 33 #[.val (.int p1), .val (.int p2), .val (.int p3), .val (.int p4), .val (.int (3 : Int32)), .val (.int c0_), .val (.int c1_), .val (.int c2_), .val (.ref b1), .unset, .unset, .unset] [(.int c0_), (.int (0 : Int32)), (.ref b1)])) rfl rfl (hb hby at_33)
  have O3 := O1.wr W3 g_b1
  have K3 : Keep h0 h3 [] := K1.wr W3 (Or.inr sz_b1)
  have N3 := Fr.snoc X3 N0 g_b1
  have f4 : Arv Z h3 b1 ka1 .char (3 : Int32) [(.int (nar .char c0_)), (.int (0 : Int32)), (.int (0 : Int32))] (.int (0 : Int32)) := Arv.set Ar2 qk2 S2 Nn2 Hs2 Gf2 (fits_nar_char _) W3 0 rfl (Nat.le_of_ble_eq_true rfl)
  have vc5 := f4
  obtain ⟨cl5, Ar5, qk5, S5, Nn5, Hs5, Gf5⟩ := vc5
  have hin5 : ¬ ((1 : Int32) < 0 ∨ cl5.slots.size ≤ ((1 : Int32)).toNatClampNeg) := inb_of S5 ⟨by decide, by decide⟩
  obtain ⟨T6, h6, X6, e6, W6, st6⟩ := stC X3 hx hZ e3 Ar5 (j := (1 : Int32)) hin5 (g := (mkF m 45 #[.val (.int p1), .val (.int p2), .val (.int p3), .val (.int p4), .val (.int (3 : Int32)), .val (.int c0_), .val (.int c1_), .val (.int c2_), .val (.ref b1), .unset, .unset, .unset] [(.int c1_), (.int (1 : Int32)), (.ref b1)])) rfl rfl (hb hby at_45)
  have O6 := O3.wr W6 g_b1
  have K6 : Keep h0 h6 [] := K3.wr W6 (Or.inr sz_b1)
  have N6 := Fr.snoc X6 N3 g_b1
  have f7 : Arv Z h6 b1 ka1 .char (3 : Int32) [(.int (nar .char c0_)), (.int (nar .char c1_)), (.int (0 : Int32))] (.int (0 : Int32)) := Arv.set Ar5 qk5 S5 Nn5 Hs5 Gf5 (fits_nar_char _) W6 1 rfl (Nat.le_of_ble_eq_true rfl)
  have vc8 := f7
  obtain ⟨cl8, Ar8, qk8, S8, Nn8, Hs8, Gf8⟩ := vc8
  have hin8 : ¬ ((2 : Int32) < 0 ∨ cl8.slots.size ≤ ((2 : Int32)).toNatClampNeg) := inb_of S8 ⟨by decide, by decide⟩
  obtain ⟨T9, h9, X9, e9, W9, st9⟩ := stC X6 hx hZ e6 Ar8 (j := (2 : Int32)) hin8 (g := (mkF m 57 #[.val (.int p1), .val (.int p2), .val (.int p3), .val (.int p4), .val (.int (3 : Int32)), .val (.int c0_), .val (.int c1_), .val (.int c2_), .val (.ref b1), .unset, .unset, .unset] [(.int c2_), (.int (2 : Int32)), (.ref b1)])) rfl rfl (hb hby at_57)
  have O9 := O6.wr W9 g_b1
  have K9 : Keep h0 h9 [] := K6.wr W9 (Or.inr sz_b1)
  have N9 := Fr.snoc X9 N6 g_b1
  have f10 : Arv Z h9 b1 ka1 .char (3 : Int32) [(.int (nar .char c0_)), (.int (nar .char c1_)), (.int (nar .char c2_))] (.int (0 : Int32)) := Arv.set Ar8 qk8 S8 Nn8 Hs8 Gf8 (fits_nar_char _) W9 2 rfl (Nat.le_of_ble_eq_true rfl)
  have hn_ : [c0_, c1_, c2_].length ≤ 4 := Nat.le_of_ble_eq_true rfl
  have hB_ : own_Bd [c0_, c1_, c2_] := own_all3 (P := fun z => ¬ (z < (0 : Int32)) ∧ ¬ ((65535 : Int32) < z)) ⟨hz0_, hm0_⟩ ⟨hz1_, hm1_⟩ ⟨hz2_, hm2_⟩
  have h1_ : 1 ≤ [c0_, c1_, c2_].length := Nat.le_of_ble_eq_true rfl
  have V58 : Arv Z h9 b1 ka1 .char [c0_, c1_, c2_].length.toInt32 ([c0_, c1_, c2_].map Value.int) (.int (0 : Int32)) := by
    have q := f10
    rw [own_nc hz0_ hm0_, own_nc hz1_ hm1_, own_nc hz2_ hm2_] at q
    exact q
  obtain ⟨T11, h11, X11, e11, E11, A11, D11, -, st11⟩ := newO X9 hx hZ hown (own_w hw 1 rfl) (own_w hw 2 rfl) (own_w hw 3 rfl) e9 (g := (mkF m 58 #[.val (.int p1), .val (.int p2), .val (.int p3), .val (.int p4), .val (.int (3 : Int32)), .val (.int c0_), .val (.int c1_), .val (.int c2_), .val (.ref b1), .unset, .unset, .unset] [])) rfl (hb hby at_58) (by decide) (by decide)
  obtain ⟨b11, g11⟩ : ∃ z, z = h9.size := ⟨_, rfl⟩
  have ne_b1_b11 : b1 ≠ b11 := Nat.ne_of_lt (Nat.lt_of_lt_of_le V58.lt (Nat.le_of_eq g11.symm))
  have g_b11 : n0 ≤ b11 := Nat.le_trans (O9.1 ▸ O9.2.1) (Nat.le_of_eq g11.symm)
  have sz_b11 : h0.size ≤ b11 := Nat.le_trans K9.1 (Nat.le_of_eq g11.symm)
  rw [← g11] at A11 D11 st11
  have f12 := V58.ext E11
  have O11 := O9.ext E11
  have K11 : Keep h0 h11 [] := K9.ext E11
  have F11_16 : Fld Z h11 b11 "java/lang/String" "value" "[B" .null := D11 (Or.inr (own_w hw 16 rfl)) (ty := (.array .byte)) (by decide)
  have F11_17 : Fld Z h11 b11 "java/lang/String" "coder" "B" (.int (0 : Int32)) := D11 (Or.inr (own_w hw 17 rfl)) (ty := .byte) (by decide)
  obtain ⟨LL13, X13, N13⟩ : ∃ LL, Stand p l e room_1 s m #[(.int p1), (.int p2), (.int p3), (.int p4)] below meth c T11 LL 2 7 ∧ Fr n0 LL := ⟨_, X11, N9⟩
  obtain ⟨_, _, ⟨T14, L14, k14, n14⟩, -, X14, ⟨Lc14, hQ14, l14, y14, z14⟩, st14⟩ := X13.specialBack hx (y := Y15_) rfl hown (mvT hZ (own_w hw 4 rfl)) (mvT hZ (own_w hw 5 rfl)) (mvT hZ (own_w hw 6 rfl)) (by decide) (backOf (W := 1) (r_new l Z a0 hw [] cs1 fv h11 n0 O11 G0 b11 b1 ka1 [c0_, c1_, c2_] A11 g_b11 F11_17 F11_16 f12 ne_b1_b11 hn_ h1_ hB_) hZ (own_w hw 6 rfl) (own_w hw 3 rfl) (by decide) (by decide)) (g := (mkF m 64 #[.val (.int p1), .val (.int p2), .val (.int p3), .val (.int p4), .val (.int (3 : Int32)), .val (.int c0_), .val (.int c1_), .val (.int c2_), .val (.ref b1), .unset, .unset, .unset] [(.ref b1), (.ref b11), (.ref b11)])) rfl (by rw [hml]; rfl) (Steps.refl _) (a := b11) (argsL := [(.ref b1)]) (rest := [(.ref b11)]) (lenOf pd_24 rfl) rfl (by show 2 * 0 + _ ≤ _; exact Nat.le_of_eq rfl) (hb hby at_64) (fun _ _ => ⟨rfl, e11, (by decide : 2 + 2 ≤ _), (by decide : 7 + 12 ≤ _)⟩)
  dsimp only [Pt.U, Pt.locs, Pt.cells, Pt.slots] at X14 l14 y14 z14 st14 hQ14
  subst l14 y14 z14
  obtain ⟨rfl, N14q, Kq14, Sq14⟩ := hQ14
  have N14 := Fr.app N13 N14q
  have f15 := f12.keep Kq14 (fun q => (List.mem_cons.mp q).elim ne_b1_b11 (fun q => nomatch q))
  have f16 := A11.keep Kq14
  have O14 := O11.keep Kq14 (allS g_b11 all0)
  have K14 : Keep h0 T14.heap [] := K11.trans Kq14 (allS (Or.inr sz_b11) all0)
  obtain ⟨_, _, ⟨T17, L17, k17, n17⟩, -, X17, ⟨Lc17, hQ17, l17, y17, z17⟩, st17⟩ := Jvm.LawKit.callS X14 hx (y := Y31_) hown (mvT hZ (own_w hw 22 rfl)) (mvT hZ (own_w hw 23 rfl)) (mvT hZ (own_w hw 24 rfl)) (mvT hZ (own_w hw 25 rfl)) (by decide) (backOf (W := 0) (r_of l Z a0 hw [] cs1 fv T14.heap n0 O14 G0 b11 [c0_, c1_, c2_] Sq14 hn_ hB_) hZ (own_w hw 25 rfl) (own_w hw 24 rfl) (by decide) (by decide)) (g := (mkF m 71 #[.val (.int p1), .val (.int p2), .val (.int p3), .val (.int p4), .val (.int (3 : Int32)), .val (.int c0_), .val (.int c1_), .val (.int c2_), .val (.ref b1), .val (.ref b11), .unset, .unset] [(.ref b11)])) rfl (by rw [hml]; rfl) (argsL := [(.ref b11)]) (rest := []) (lenOf pd_25 rfl) rfl (by show 2 * 0 + _ ≤ _; exact Nat.le_of_eq rfl) (hb hby at_71) (fun _ _ => ⟨rfl, rfl, (by decide : 4 + 4 ≤ _), (by decide : 19 + 20 ≤ _)⟩)
  dsimp only [Pt.U, Pt.locs, Pt.cells, Pt.slots] at X17 l17 y17 z17 st17 hQ17
  subst l17 y17 z17
  obtain ⟨t17, rfl, N17q, Kq17, So17, hs17⟩ := hQ17
  have N17 := Fr.app N14 N17q
  have f18 := f15.keep Kq17 (fun q => nomatch q)
  have f19 := f16.keep Kq17
  have O17 := O14.keep Kq17 all0
  have K17 : Keep h0 T17.heap [] := K14.trans Kq17 all0
  have f20 := own_Str_keep Kq17 Sq14
  obtain rfl : b11 = t17 := (hs17 (own_all3 (P := fun z => ¬ own_brk z) hq0_ hq1_ hq2_)).symm
  obtain ⟨cq21, kq21, q21a, q21b, q21c⟩ := isOf hZ rfl f19
  obtain ⟨_, _, ⟨T21, L21, k21, n21⟩, -, X21, ⟨Lc21, hQ21, l21, y21, z21⟩, st21⟩ := X17.virtualBack hx (y := Y18_) (z := Y18_) hown (mvT hZ (own_w hw 37 rfl)) (mvT hZ (own_w hw 27 rfl)) (notFace_of_selects (args := #[]) (mvT hZ (own_w hw 29 rfl))) (mvT hZ (own_w hw 29 rfl)) (mvT hZ (own_w hw 28 rfl)) (by decide) (backOf (W := 0) (r_len l Z a0 hw [] cs1 fv T17.heap n0 O17 G0 b11 ([c0_, c1_, c2_].map own_exp) So17 (own_lenm hn_)) hZ (own_w hw 30 rfl) (own_w hw 3 rfl) (by decide) (by decide)) q21a q21c (g := (mkF m 78 #[.val (.int p1), .val (.int p2), .val (.int p3), .val (.int p4), .val (.int (3 : Int32)), .val (.int c0_), .val (.int c1_), .val (.int c2_), .val (.ref b1), .val (.ref b11), .val (.ref b11), .unset] [(.ref b11)])) rfl (by rw [hml]; rfl) (Steps.refl _) (argsL := []) (rest := []) (lenOf pd_21 rfl) rfl (by show 2 * 0 + _ ≤ _; exact Nat.le_of_eq rfl) (hb hby at_78) (fun _ _ => ⟨rfl, rfl, (by decide : 8 + 0 ≤ _), (by decide : 39 + 0 ≤ _)⟩)
  dsimp only [Pt.U, Pt.locs, Pt.cells, Pt.slots] at X21 l21 y21 z21 st21 hQ21
  subst l21 y21 z21
  obtain ⟨rfl, N21q, e21⟩ := hQ21
  have N21 := Fr.app N17 N21q
  obtain ⟨cq22, kq22, q22a, q22b, q22c⟩ := isOf hZ e21 f19
  obtain ⟨_, _, ⟨T22, L22, k22, n22⟩, -, X22, ⟨Lc22, hQ22, l22, y22, z22⟩, st22⟩ := X21.virtualBack hx (y := Y19_) (z := Y19_) hown (mvT hZ (own_w hw 73 rfl)) (mvT hZ (own_w hw 49 rfl)) (notFace_of_selects (args := #[]) (mvT hZ (own_w hw 51 rfl))) (mvT hZ (own_w hw 51 rfl)) (mvT hZ (own_w hw 50 rfl)) (by decide) (backOf (W := 0) (r_ch l Z a0 hw [] cs1 fv T17.heap n0 O17 G0 b11 ([c0_, c1_, c2_].map own_exp) So17 0 (Nat.le_of_ble_eq_true rfl) (own_lenm hn_) (own_Bd_exp hB_)) hZ (own_w hw 52 rfl) (own_w hw 3 rfl) (by decide) (by decide)) q22a q22c (g := (mkF m 99 #[.val (.int p1), .val (.int p2), .val (.int p3), .val (.int p4), .val (.int (3 : Int32)), .val (.int c0_), .val (.int c1_), .val (.int c2_), .val (.ref b1), .val (.ref b11), .val (.ref b11), .val (.int (0 : Int32))] [(.int (0 : Int32)), (.ref b11)])) rfl (by rw [hml]; rfl) (Steps.refl _) (argsL := [(.int (0 : Int32))]) (rest := []) (lenOf pd_22 rfl) rfl (by show 2 * 0 + _ ≤ _; exact Nat.le_of_eq rfl) (hb hby at_99) (fun _ _ => ⟨rfl, e21, (by decide : 8 + 0 ≤ _), (by decide : 39 + 0 ≤ _)⟩)
  dsimp only [Pt.U, Pt.locs, Pt.cells, Pt.slots] at X22 l22 y22 z22 st22 hQ22
  subst l22 y22 z22
  obtain ⟨rfl, N22q, e22⟩ := hQ22
  have N22 := Fr.app N21 N22q
  obtain ⟨_, _, ⟨T23, L23, k23, n23⟩, -, X23, ⟨Lc23, hQ23, l23, y23, z23⟩, st23⟩ := Jvm.LawKit.callS X22 hx (y := Y30_) hown (mvT hZ (own_w hw 74 rfl)) (mvT hZ (own_w hw 75 rfl)) (mvT hZ (own_w hw 76 rfl)) (mvT hZ (own_w hw 77 rfl)) (by decide) (backOf (W := 1) (r_ex l Z a0 hw [] cs1 fv T17.heap n0 O17 G0 c0_ hz0_ hm0_) hZ (own_w hw 77 rfl) (own_w hw 76 rfl) (by decide) (by decide)) (g := (mkF m 104 #[.val (.int p1), .val (.int p2), .val (.int p3), .val (.int p4), .val (.int (3 : Int32)), .val (.int c0_), .val (.int c1_), .val (.int c2_), .val (.ref b1), .val (.ref b11), .val (.ref b11), .val (.int (0 : Int32))] [(.int c0_), (.int (own_exp c0_))])) rfl (by rw [hml]; rfl) (argsL := [(.int c0_)]) (rest := [(.int (own_exp c0_))]) (lenOf pd_26 rfl) rfl (by show 2 * 0 + _ ≤ _; exact Nat.le_of_eq rfl) (hb hby at_104) (fun _ _ => ⟨rfl, e22, (by decide : 8 + 0 ≤ _), (by decide : 39 + 0 ≤ _)⟩)
  dsimp only [Pt.U, Pt.locs, Pt.cells, Pt.slots] at X23 l23 y23 z23 st23 hQ23
  subst l23 y23 z23
  obtain ⟨rfl, N23q, e23⟩ := hQ23
  have N23 := Fr.app N22 N23q
  obtain ⟨_, _, ⟨T24, L24, k24, n24⟩, -, X24, ⟨Lc24, hQ24, l24, y24, z24⟩, st24⟩ := Jvm.LawKit.callS X23 hx (y := Y29_) hown (mvT hZ (own_w hw 78 rfl)) (mvT hZ (own_w hw 79 rfl)) (mvT hZ (own_w hw 76 rfl)) (mvT hZ (own_w hw 80 rfl)) (by decide) (backOf (W := 0) (r_ibF l Z a0 hw [] cs1 fv T17.heap n0 O17 G0 c0_ hq0_) hZ (own_w hw 80 rfl) (own_w hw 76 rfl) (by decide) (by decide)) (g := (mkF m 119 #[.val (.int p1), .val (.int p2), .val (.int p3), .val (.int p4), .val (.int (3 : Int32)), .val (.int c0_), .val (.int c1_), .val (.int c2_), .val (.ref b1), .val (.ref b11), .val (.ref b11), .val (.int (0 : Int32))] [(.int c0_)])) rfl (by rw [hml]; rfl) (argsL := [(.int c0_)]) (rest := []) (lenOf pd_20 rfl) rfl (by show 2 * 0 + _ ≤ _; exact Nat.le_of_eq rfl) (hb hby at_119) (fun _ _ => ⟨rfl, e23, (by decide : 8 + 0 ≤ _), (by decide : 39 + 0 ≤ _)⟩)
  dsimp only [Pt.U, Pt.locs, Pt.cells, Pt.slots] at X24 l24 y24 z24 st24 hQ24
  subst l24 y24 z24
  obtain ⟨rfl, N24q, e24⟩ := hQ24
  have N24 := Fr.app N23 N24q
  obtain ⟨cq25, kq25, q25a, q25b, q25c⟩ := isOf hZ e24 f19
  obtain ⟨_, _, ⟨T25, L25, k25, n25⟩, -, X25, ⟨Lc25, hQ25, l25, y25, z25⟩, st25⟩ := X24.virtualBack hx (y := Y19_) (z := Y19_) hown (mvT hZ (own_w hw 73 rfl)) (mvT hZ (own_w hw 49 rfl)) (notFace_of_selects (args := #[]) (mvT hZ (own_w hw 51 rfl))) (mvT hZ (own_w hw 51 rfl)) (mvT hZ (own_w hw 50 rfl)) (by decide) (backOf (W := 0) (r_ch l Z a0 hw [] cs1 fv T17.heap n0 O17 G0 b11 ([c0_, c1_, c2_].map own_exp) So17 1 (Nat.le_of_ble_eq_true rfl) (own_lenm hn_) (own_Bd_exp hB_)) hZ (own_w hw 52 rfl) (own_w hw 3 rfl) (by decide) (by decide)) q25a q25c (g := (mkF m 141 #[.val (.int p1), .val (.int p2), .val (.int p3), .val (.int p4), .val (.int (3 : Int32)), .val (.int c0_), .val (.int c1_), .val (.int c2_), .val (.ref b1), .val (.ref b11), .val (.ref b11), .val (.int (0 : Int32))] [(.int (1 : Int32)), (.ref b11)])) rfl (by rw [hml]; rfl) (Steps.refl _) (argsL := [(.int (1 : Int32))]) (rest := []) (lenOf pd_22 rfl) rfl (by show 2 * 0 + _ ≤ _; exact Nat.le_of_eq rfl) (hb hby at_141) (fun _ _ => ⟨rfl, e24, (by decide : 8 + 0 ≤ _), (by decide : 39 + 0 ≤ _)⟩)
  dsimp only [Pt.U, Pt.locs, Pt.cells, Pt.slots] at X25 l25 y25 z25 st25 hQ25
  subst l25 y25 z25
  obtain ⟨rfl, N25q, e25⟩ := hQ25
  have N25 := Fr.app N24 N25q
  obtain ⟨_, _, ⟨T26, L26, k26, n26⟩, -, X26, ⟨Lc26, hQ26, l26, y26, z26⟩, st26⟩ := Jvm.LawKit.callS X25 hx (y := Y30_) hown (mvT hZ (own_w hw 74 rfl)) (mvT hZ (own_w hw 75 rfl)) (mvT hZ (own_w hw 76 rfl)) (mvT hZ (own_w hw 77 rfl)) (by decide) (backOf (W := 1) (r_ex l Z a0 hw [] cs1 fv T17.heap n0 O17 G0 c1_ hz1_ hm1_) hZ (own_w hw 77 rfl) (own_w hw 76 rfl) (by decide) (by decide)) (g := (mkF m 146 #[.val (.int p1), .val (.int p2), .val (.int p3), .val (.int p4), .val (.int (3 : Int32)), .val (.int c0_), .val (.int c1_), .val (.int c2_), .val (.ref b1), .val (.ref b11), .val (.ref b11), .val (.int (0 : Int32))] [(.int c1_), (.int (own_exp c1_))])) rfl (by rw [hml]; rfl) (argsL := [(.int c1_)]) (rest := [(.int (own_exp c1_))]) (lenOf pd_26 rfl) rfl (by show 2 * 0 + _ ≤ _; exact Nat.le_of_eq rfl) (hb hby at_146) (fun _ _ => ⟨rfl, e25, (by decide : 8 + 0 ≤ _), (by decide : 39 + 0 ≤ _)⟩)
  dsimp only [Pt.U, Pt.locs, Pt.cells, Pt.slots] at X26 l26 y26 z26 st26 hQ26
  subst l26 y26 z26
  obtain ⟨rfl, N26q, e26⟩ := hQ26
  have N26 := Fr.app N25 N26q
  obtain ⟨_, _, ⟨T27, L27, k27, n27⟩, -, X27, ⟨Lc27, hQ27, l27, y27, z27⟩, st27⟩ := Jvm.LawKit.callS X26 hx (y := Y29_) hown (mvT hZ (own_w hw 78 rfl)) (mvT hZ (own_w hw 79 rfl)) (mvT hZ (own_w hw 76 rfl)) (mvT hZ (own_w hw 80 rfl)) (by decide) (backOf (W := 0) (r_ibF l Z a0 hw [] cs1 fv T17.heap n0 O17 G0 c1_ hq1_) hZ (own_w hw 80 rfl) (own_w hw 76 rfl) (by decide) (by decide)) (g := (mkF m 161 #[.val (.int p1), .val (.int p2), .val (.int p3), .val (.int p4), .val (.int (3 : Int32)), .val (.int c0_), .val (.int c1_), .val (.int c2_), .val (.ref b1), .val (.ref b11), .val (.ref b11), .val (.int (0 : Int32))] [(.int c1_)])) rfl (by rw [hml]; rfl) (argsL := [(.int c1_)]) (rest := []) (lenOf pd_20 rfl) rfl (by show 2 * 0 + _ ≤ _; exact Nat.le_of_eq rfl) (hb hby at_161) (fun _ _ => ⟨rfl, e26, (by decide : 8 + 0 ≤ _), (by decide : 39 + 0 ≤ _)⟩)
  dsimp only [Pt.U, Pt.locs, Pt.cells, Pt.slots] at X27 l27 y27 z27 st27 hQ27
  subst l27 y27 z27
  obtain ⟨rfl, N27q, e27⟩ := hQ27
  have N27 := Fr.app N26 N27q
  obtain ⟨cq28, kq28, q28a, q28b, q28c⟩ := isOf hZ e27 f19
  obtain ⟨_, _, ⟨T28, L28, k28, n28⟩, -, X28, ⟨Lc28, hQ28, l28, y28, z28⟩, st28⟩ := X27.virtualBack hx (y := Y19_) (z := Y19_) hown (mvT hZ (own_w hw 73 rfl)) (mvT hZ (own_w hw 49 rfl)) (notFace_of_selects (args := #[]) (mvT hZ (own_w hw 51 rfl))) (mvT hZ (own_w hw 51 rfl)) (mvT hZ (own_w hw 50 rfl)) (by decide) (backOf (W := 0) (r_ch l Z a0 hw [] cs1 fv T17.heap n0 O17 G0 b11 ([c0_, c1_, c2_].map own_exp) So17 2 (Nat.le_of_ble_eq_true rfl) (own_lenm hn_) (own_Bd_exp hB_)) hZ (own_w hw 52 rfl) (own_w hw 3 rfl) (by decide) (by decide)) q28a q28c (g := (mkF m 183 #[.val (.int p1), .val (.int p2), .val (.int p3), .val (.int p4), .val (.int (3 : Int32)), .val (.int c0_), .val (.int c1_), .val (.int c2_), .val (.ref b1), .val (.ref b11), .val (.ref b11), .val (.int (0 : Int32))] [(.int (2 : Int32)), (.ref b11)])) rfl (by rw [hml]; rfl) (Steps.refl _) (argsL := [(.int (2 : Int32))]) (rest := []) (lenOf pd_22 rfl) rfl (by show 2 * 0 + _ ≤ _; exact Nat.le_of_eq rfl) (hb hby at_183) (fun _ _ => ⟨rfl, e27, (by decide : 8 + 0 ≤ _), (by decide : 39 + 0 ≤ _)⟩)
  dsimp only [Pt.U, Pt.locs, Pt.cells, Pt.slots] at X28 l28 y28 z28 st28 hQ28
  subst l28 y28 z28
  obtain ⟨rfl, N28q, e28⟩ := hQ28
  have N28 := Fr.app N27 N28q
  obtain ⟨_, _, ⟨T29, L29, k29, n29⟩, -, X29, ⟨Lc29, hQ29, l29, y29, z29⟩, st29⟩ := Jvm.LawKit.callS X28 hx (y := Y30_) hown (mvT hZ (own_w hw 74 rfl)) (mvT hZ (own_w hw 75 rfl)) (mvT hZ (own_w hw 76 rfl)) (mvT hZ (own_w hw 77 rfl)) (by decide) (backOf (W := 1) (r_ex l Z a0 hw [] cs1 fv T17.heap n0 O17 G0 c2_ hz2_ hm2_) hZ (own_w hw 77 rfl) (own_w hw 76 rfl) (by decide) (by decide)) (g := (mkF m 188 #[.val (.int p1), .val (.int p2), .val (.int p3), .val (.int p4), .val (.int (3 : Int32)), .val (.int c0_), .val (.int c1_), .val (.int c2_), .val (.ref b1), .val (.ref b11), .val (.ref b11), .val (.int (0 : Int32))] [(.int c2_), (.int (own_exp c2_))])) rfl (by rw [hml]; rfl) (argsL := [(.int c2_)]) (rest := [(.int (own_exp c2_))]) (lenOf pd_26 rfl) rfl (by show 2 * 0 + _ ≤ _; exact Nat.le_of_eq rfl) (hb hby at_188) (fun _ _ => ⟨rfl, e28, (by decide : 8 + 0 ≤ _), (by decide : 39 + 0 ≤ _)⟩)
  dsimp only [Pt.U, Pt.locs, Pt.cells, Pt.slots] at X29 l29 y29 z29 st29 hQ29
  subst l29 y29 z29
  obtain ⟨rfl, N29q, e29⟩ := hQ29
  have N29 := Fr.app N28 N29q
  obtain ⟨_, _, ⟨T30, L30, k30, n30⟩, -, X30, ⟨Lc30, hQ30, l30, y30, z30⟩, st30⟩ := Jvm.LawKit.callS X29 hx (y := Y29_) hown (mvT hZ (own_w hw 78 rfl)) (mvT hZ (own_w hw 79 rfl)) (mvT hZ (own_w hw 76 rfl)) (mvT hZ (own_w hw 80 rfl)) (by decide) (backOf (W := 0) (r_ibF l Z a0 hw [] cs1 fv T17.heap n0 O17 G0 c2_ hq2_) hZ (own_w hw 80 rfl) (own_w hw 76 rfl) (by decide) (by decide)) (g := (mkF m 203 #[.val (.int p1), .val (.int p2), .val (.int p3), .val (.int p4), .val (.int (3 : Int32)), .val (.int c0_), .val (.int c1_), .val (.int c2_), .val (.ref b1), .val (.ref b11), .val (.ref b11), .val (.int (0 : Int32))] [(.int c2_)])) rfl (by rw [hml]; rfl) (argsL := [(.int c2_)]) (rest := []) (lenOf pd_20 rfl) rfl (by show 2 * 0 + _ ≤ _; exact Nat.le_of_eq rfl) (hb hby at_203) (fun _ _ => ⟨rfl, e29, (by decide : 8 + 0 ≤ _), (by decide : 39 + 0 ≤ _)⟩)
  dsimp only [Pt.U, Pt.locs, Pt.cells, Pt.slots] at X30 l30 y30 z30 st30 hQ30
  subst l30 y30 z30
  obtain ⟨rfl, N30q, e30⟩ := hQ30
  have N30 := Fr.app N29 N30q
  obtain ⟨fs, hr, hrun, hended, hW, hsame⟩ := X30.leave (v := some (.int (1 : Int32))) (fun h => by rw [Bd.returns] at h; cases h)
  refine ⟨_, _, pre0 _ ?_, hrun, hended, _, _, rfl, ?_, ⟨_, rfl⟩, hW, hsame.mono (by decide) (by decide)⟩
  · show Steps p.tables e below (s₁.setTop (mkF m 0 #[.val (.int p1), .val (.int p2), .val (.int p3), .val (.int p4), .unset, .unset, .unset, .unset, .unset, .unset, .unset, .unset] [])) _
    refine XS.iloadN X0.here hx rfl (hb hby at_0) rfl ?_
    refine XS.iconst X0.here hx rfl (hb hby at_1) ?_
    refine XS.iand X0.here hx rfl (hb hby at_2) rfl ?_
    show Steps p.tables e below (s₁.setTop (mkF m 3 #[.val (.int p1), .val (.int p2), .val (.int p3), .val (.int p4), .unset, .unset, .unset, .unset, .unset, .unset, .unset, .unset] [(.int (p1 &&& (3 : Int32)))])) _
    rw [hl]
    refine XS.istore X0.here hx rfl (hb hby at_3) rfl (l' := #[.val (.int p1), .val (.int p2), .val (.int p3), .val (.int p4), .val (.int (3 : Int32)), .unset, .unset, .unset, .unset, .unset, .unset, .unset]) rfl ?_
    refine XS.iloadN X0.here hx rfl (hb hby at_5) rfl ?_
    refine XS.i2c X0.here hx rfl (hb hby at_6) rfl ?_
    show Steps p.tables e below (s₁.setTop (mkF m 7 #[.val (.int p1), .val (.int p2), .val (.int p3), .val (.int p4), .val (.int (3 : Int32)), .unset, .unset, .unset, .unset, .unset, .unset, .unset] [(.int (p2.toUInt32.toUInt16.toUInt32.toInt32))])) _
    rw [he0]
    refine XS.istore X0.here hx rfl (hb hby at_7) rfl (l' := #[.val (.int p1), .val (.int p2), .val (.int p3), .val (.int p4), .val (.int (3 : Int32)), .val (.int c0_), .unset, .unset, .unset, .unset, .unset, .unset]) rfl ?_
    refine XS.iloadN X0.here hx rfl (hb hby at_9) rfl ?_
    refine XS.i2c X0.here hx rfl (hb hby at_10) rfl ?_
    show Steps p.tables e below (s₁.setTop (mkF m 11 #[.val (.int p1), .val (.int p2), .val (.int p3), .val (.int p4), .val (.int (3 : Int32)), .val (.int c0_), .unset, .unset, .unset, .unset, .unset, .unset] [(.int (p3.toUInt32.toUInt16.toUInt32.toInt32))])) _
    rw [he1]
    refine XS.istore X0.here hx rfl (hb hby at_11) rfl (l' := #[.val (.int p1), .val (.int p2), .val (.int p3), .val (.int p4), .val (.int (3 : Int32)), .val (.int c0_), .val (.int c1_), .unset, .unset, .unset, .unset, .unset]) rfl ?_
    show Steps p.tables e below (s₁.setTop (mkF m 13 #[.val (.int p1), .val (.int p2), .val (.int p3), .val (.int p4), .val (.int (3 : Int32)), .val (.int c0_), .val (.int c1_), .unset, .unset, .unset, .unset, .unset] [])) _
    refine XS.iloadN X0.here hx rfl (hb hby at_13) rfl ?_
    refine XS.i2c X0.here hx rfl (hb hby at_14) rfl ?_
    show Steps p.tables e below (s₁.setTop (mkF m 15 #[.val (.int p1), .val (.int p2), .val (.int p3), .val (.int p4), .val (.int (3 : Int32)), .val (.int c0_), .val (.int c1_), .unset, .unset, .unset, .unset, .unset] [(.int (p4.toUInt32.toUInt16.toUInt32.toInt32))])) _
    rw [he2]
    refine XS.istore X0.here hx rfl (hb hby at_15) rfl (l' := #[.val (.int p1), .val (.int p2), .val (.int p3), .val (.int p4), .val (.int (3 : Int32)), .val (.int c0_), .val (.int c1_), .val (.int c2_), .unset, .unset, .unset, .unset]) rfl ?_
    refine XS.iload X0.here hx rfl (hb hby at_17) rfl ?_
    show Steps p.tables e below (s₁.setTop (mkF m 19 #[.val (.int p1), .val (.int p2), .val (.int p3), .val (.int p4), .val (.int (3 : Int32)), .val (.int c0_), .val (.int c1_), .val (.int c2_), .unset, .unset, .unset, .unset] [(.int (3 : Int32))])) _
    refine st1 _ ?_
    show Steps p.tables e below (T1.setTop (mkF m 21 #[.val (.int p1), .val (.int p2), .val (.int p3), .val (.int p4), .val (.int (3 : Int32)), .val (.int c0_), .val (.int c1_), .val (.int c2_), .unset, .unset, .unset, .unset] [(.ref b1)])) _
    refine XS.astore X1.here hx rfl (hb hby at_21) rfl rfl (l' := #[.val (.int p1), .val (.int p2), .val (.int p3), .val (.int p4), .val (.int (3 : Int32)), .val (.int c0_), .val (.int c1_), .val (.int c2_), .val (.ref b1), .unset, .unset, .unset]) rfl ?_
    refine XS.iload X1.here hx rfl (hb hby at_23) rfl ?_
    refine XS.ifNo X1.here hx rfl (hb hby at_25) rfl ((if0 _ _).trans (tlt (by decide : (0 : Int32) < (3 : Int32))).2.2.2) ?_
    refine XS.aload X1.here hx rfl (hb hby at_28) rfl rfl ?_
    refine XS.iconst X1.here hx rfl (hb hby at_30) ?_
    refine XS.iload X1.here hx rfl (hb hby at_31) rfl ?_
    show Steps p.tables e below (T1.setTop (mkF m 33 #[.val (.int p1), .val (.int p2), .val (.int p3), .val (.int p4), .val (.int (3 : Int32)), .val (.int c0_), .val (.int c1_), .val (.int c2_), .val (.ref b1), .unset, .unset, .unset] [(.int c0_), (.int (0 : Int32)), (.ref b1)])) _
    refine st3 _ ?_
    show Steps p.tables e below (T3.setTop (mkF m 34 #[.val (.int p1), .val (.int p2), .val (.int p3), .val (.int p4), .val (.int (3 : Int32)), .val (.int c0_), .val (.int c1_), .val (.int c2_), .val (.ref b1), .unset, .unset, .unset] [])) _
    refine XS.iload X3.here hx rfl (hb hby at_34) rfl ?_
    refine XS.iconst X3.here hx rfl (hb hby at_36) ?_
    refine XS.icmpNo X3.here hx rfl (hb hby at_37) rfl (tlt (by decide : (1 : Int32) < (3 : Int32))).2.2.2 ?_
    refine XS.aload X3.here hx rfl (hb hby at_40) rfl rfl ?_
    refine XS.iconst X3.here hx rfl (hb hby at_42) ?_
    refine XS.iload X3.here hx rfl (hb hby at_43) rfl ?_
    show Steps p.tables e below (T3.setTop (mkF m 45 #[.val (.int p1), .val (.int p2), .val (.int p3), .val (.int p4), .val (.int (3 : Int32)), .val (.int c0_), .val (.int c1_), .val (.int c2_), .val (.ref b1), .unset, .unset, .unset] [(.int c1_), (.int (1 : Int32)), (.ref b1)])) _
    refine st6 _ ?_
    show Steps p.tables e below (T6.setTop (mkF m 46 #[.val (.int p1), .val (.int p2), .val (.int p3), .val (.int p4), .val (.int (3 : Int32)), .val (.int c0_), .val (.int c1_), .val (.int c2_), .val (.ref b1), .unset, .unset, .unset] [])) _
    refine XS.iload X6.here hx rfl (hb hby at_46) rfl ?_
    refine XS.iconst X6.here hx rfl (hb hby at_48) ?_
    refine XS.icmpNo X6.here hx rfl (hb hby at_49) rfl (tlt (by decide : (2 : Int32) < (3 : Int32))).2.2.2 ?_
    refine XS.aload X6.here hx rfl (hb hby at_52) rfl rfl ?_
    refine XS.iconst X6.here hx rfl (hb hby at_54) ?_
    refine XS.iload X6.here hx rfl (hb hby at_55) rfl ?_
    show Steps p.tables e below (T6.setTop (mkF m 57 #[.val (.int p1), .val (.int p2), .val (.int p3), .val (.int p4), .val (.int (3 : Int32)), .val (.int c0_), .val (.int c1_), .val (.int c2_), .val (.ref b1), .unset, .unset, .unset] [(.int c2_), (.int (2 : Int32)), (.ref b1)])) _
    refine st9 _ ?_
    show Steps p.tables e below (T9.setTop (mkF m 58 #[.val (.int p1), .val (.int p2), .val (.int p3), .val (.int p4), .val (.int (3 : Int32)), .val (.int c0_), .val (.int c1_), .val (.int c2_), .val (.ref b1), .unset, .unset, .unset] [])) _
    refine st11 _ ?_
    show Steps p.tables e below (T11.setTop (mkF m 61 #[.val (.int p1), .val (.int p2), .val (.int p3), .val (.int p4), .val (.int (3 : Int32)), .val (.int c0_), .val (.int c1_), .val (.int c2_), .val (.ref b1), .unset, .unset, .unset] [(.ref b11)])) _
    refine XS.dup X11.here hx rfl (hb hby at_61) rfl rfl ?_
    refine XS.aload X11.here hx rfl (hb hby at_62) rfl rfl ?_
    show Steps p.tables e below (T11.setTop (mkF m 64 #[.val (.int p1), .val (.int p2), .val (.int p3), .val (.int p4), .val (.int (3 : Int32)), .val (.int c0_), .val (.int c1_), .val (.int c2_), .val (.ref b1), .unset, .unset, .unset] [(.ref b1), (.ref b11), (.ref b11)])) _
    refine st14.trans ?_
    show Steps p.tables e below (T14.setTop (mkF m 67 #[.val (.int p1), .val (.int p2), .val (.int p3), .val (.int p4), .val (.int (3 : Int32)), .val (.int c0_), .val (.int c1_), .val (.int c2_), .val (.ref b1), .unset, .unset, .unset] [(.ref b11)])) _
    refine XS.astore X14.here hx rfl (hb hby at_67) rfl rfl (l' := #[.val (.int p1), .val (.int p2), .val (.int p3), .val (.int p4), .val (.int (3 : Int32)), .val (.int c0_), .val (.int c1_), .val (.int c2_), .val (.ref b1), .val (.ref b11), .unset, .unset]) rfl ?_
    refine XS.aload X14.here hx rfl (hb hby at_69) rfl rfl ?_
    show Steps p.tables e below (T14.setTop (mkF m 71 #[.val (.int p1), .val (.int p2), .val (.int p3), .val (.int p4), .val (.int (3 : Int32)), .val (.int c0_), .val (.int c1_), .val (.int c2_), .val (.ref b1), .val (.ref b11), .unset, .unset] [(.ref b11)])) _
    refine st17 _ ?_
    show Steps p.tables e below (T17.setTop (mkF m 74 #[.val (.int p1), .val (.int p2), .val (.int p3), .val (.int p4), .val (.int (3 : Int32)), .val (.int c0_), .val (.int c1_), .val (.int c2_), .val (.ref b1), .val (.ref b11), .unset, .unset] [(.ref b11)])) _
    refine XS.astore X17.here hx rfl (hb hby at_74) rfl rfl (l' := #[.val (.int p1), .val (.int p2), .val (.int p3), .val (.int p4), .val (.int (3 : Int32)), .val (.int c0_), .val (.int c1_), .val (.int c2_), .val (.ref b1), .val (.ref b11), .val (.ref b11), .unset]) rfl ?_
    refine XS.aload X17.here hx rfl (hb hby at_76) rfl rfl ?_
    show Steps p.tables e below (T17.setTop (mkF m 78 #[.val (.int p1), .val (.int p2), .val (.int p3), .val (.int p4), .val (.int (3 : Int32)), .val (.int c0_), .val (.int c1_), .val (.int c2_), .val (.ref b1), .val (.ref b11), .val (.ref b11), .unset] [(.ref b11)])) _
    refine st21.trans ?_
    show Steps p.tables e below (T21.setTop (mkF m 81 #[.val (.int p1), .val (.int p2), .val (.int p3), .val (.int p4), .val (.int (3 : Int32)), .val (.int c0_), .val (.int c1_), .val (.int c2_), .val (.ref b1), .val (.ref b11), .val (.ref b11), .unset] [(.int (3 : Int32))])) _
    refine XS.iload X21.here hx rfl (hb hby at_81) rfl ?_
    refine XS.icmpYes X21.here hx rfl (pc0 := 83) (pc' := 88) rfl (hb hby at_83) rfl (teq (by decide : (3 : Int32) = (3 : Int32))).1 (by decide) (by decide) ?_
    refine XS.iconst X21.here hx rfl (hb hby at_88) ?_
    refine XS.istore X21.here hx rfl (hb hby at_89) rfl (l' := #[.val (.int p1), .val (.int p2), .val (.int p3), .val (.int p4), .val (.int (3 : Int32)), .val (.int c0_), .val (.int c1_), .val (.int c2_), .val (.ref b1), .val (.ref b11), .val (.ref b11), .val (.int (0 : Int32))]) rfl ?_
    refine XS.iload X21.here hx rfl (hb hby at_91) rfl ?_
    refine XS.ifNo X21.here hx rfl (hb hby at_93) rfl ((if0 _ _).trans (tlt (by decide : (0 : Int32) < (3 : Int32))).2.2.2) ?_
    refine XS.aload X21.here hx rfl (hb hby at_96) rfl rfl ?_
    refine XS.iconst X21.here hx rfl (hb hby at_98) ?_
    show Steps p.tables e below (T21.setTop (mkF m 99 #[.val (.int p1), .val (.int p2), .val (.int p3), .val (.int p4), .val (.int (3 : Int32)), .val (.int c0_), .val (.int c1_), .val (.int c2_), .val (.ref b1), .val (.ref b11), .val (.ref b11), .val (.int (0 : Int32))] [(.int (0 : Int32)), (.ref b11)])) _
    refine st22.trans ?_
    show Steps p.tables e below (T22.setTop (mkF m 102 #[.val (.int p1), .val (.int p2), .val (.int p3), .val (.int p4), .val (.int (3 : Int32)), .val (.int c0_), .val (.int c1_), .val (.int c2_), .val (.ref b1), .val (.ref b11), .val (.ref b11), .val (.int (0 : Int32))] [(.int (own_exp c0_))])) _
    refine XS.iload X22.here hx rfl (hb hby at_102) rfl ?_
    show Steps p.tables e below (T22.setTop (mkF m 104 #[.val (.int p1), .val (.int p2), .val (.int p3), .val (.int p4), .val (.int (3 : Int32)), .val (.int c0_), .val (.int c1_), .val (.int c2_), .val (.ref b1), .val (.ref b11), .val (.ref b11), .val (.int (0 : Int32))] [(.int c0_), (.int (own_exp c0_))])) _
    refine st23 _ ?_
    show Steps p.tables e below (T23.setTop (mkF m 107 #[.val (.int p1), .val (.int p2), .val (.int p3), .val (.int p4), .val (.int (3 : Int32)), .val (.int c0_), .val (.int c1_), .val (.int c2_), .val (.ref b1), .val (.ref b11), .val (.ref b11), .val (.int (0 : Int32))] [(.int (own_exp c0_)), (.int (own_exp c0_))])) _
    refine XS.icmpYes X23.here hx rfl (pc0 := 107) (pc' := 112) rfl (hb hby at_107) rfl (teq (rfl : (own_exp c0_) = (own_exp c0_))).1 (by decide) (by decide) ?_
    refine XS.iload X23.here hx rfl (hb hby at_112) rfl ?_
    refine XS.ifNo X23.here hx rfl (hb hby at_114) rfl ((if0 _ _).trans (teq (by decide : (0 : Int32) = (0 : Int32))).2) ?_
    refine XS.iload X23.here hx rfl (hb hby at_117) rfl ?_
    show Steps p.tables e below (T23.setTop (mkF m 119 #[.val (.int p1), .val (.int p2), .val (.int p3), .val (.int p4), .val (.int (3 : Int32)), .val (.int c0_), .val (.int c1_), .val (.int c2_), .val (.ref b1), .val (.ref b11), .val (.ref b11), .val (.int (0 : Int32))] [(.int c0_)])) _
    refine st24 _ ?_
    show Steps p.tables e below (T24.setTop (mkF m 122 #[.val (.int p1), .val (.int p2), .val (.int p3), .val (.int p4), .val (.int (3 : Int32)), .val (.int c0_), .val (.int c1_), .val (.int c2_), .val (.ref b1), .val (.ref b11), .val (.ref b11), .val (.int (0 : Int32))] [(.int (0 : Int32))])) _
    refine XS.ifYes X24.here hx rfl (pc0 := 122) (pc' := 129) rfl (hb hby at_122) rfl ((if0 _ _).trans (teq (by decide : (0 : Int32) = (0 : Int32))).1) (by decide) (by decide) ?_
    refine XS.iconst X24.here hx rfl (hb hby at_129) ?_
    refine XS.istore X24.here hx rfl (hb hby at_130) rfl (l' := #[.val (.int p1), .val (.int p2), .val (.int p3), .val (.int p4), .val (.int (3 : Int32)), .val (.int c0_), .val (.int c1_), .val (.int c2_), .val (.ref b1), .val (.ref b11), .val (.ref b11), .val (.int (0 : Int32))]) rfl ?_
    refine XS.iload X24.here hx rfl (hb hby at_132) rfl ?_
    refine XS.iconst X24.here hx rfl (hb hby at_134) ?_
    refine XS.icmpNo X24.here hx rfl (hb hby at_135) rfl (tlt (by decide : (1 : Int32) < (3 : Int32))).2.2.2 ?_
    refine XS.aload X24.here hx rfl (hb hby at_138) rfl rfl ?_
    refine XS.iconst X24.here hx rfl (hb hby at_140) ?_
    show Steps p.tables e below (T24.setTop (mkF m 141 #[.val (.int p1), .val (.int p2), .val (.int p3), .val (.int p4), .val (.int (3 : Int32)), .val (.int c0_), .val (.int c1_), .val (.int c2_), .val (.ref b1), .val (.ref b11), .val (.ref b11), .val (.int (0 : Int32))] [(.int (1 : Int32)), (.ref b11)])) _
    refine st25.trans ?_
    show Steps p.tables e below (T25.setTop (mkF m 144 #[.val (.int p1), .val (.int p2), .val (.int p3), .val (.int p4), .val (.int (3 : Int32)), .val (.int c0_), .val (.int c1_), .val (.int c2_), .val (.ref b1), .val (.ref b11), .val (.ref b11), .val (.int (0 : Int32))] [(.int (own_exp c1_))])) _
    refine XS.iload X25.here hx rfl (hb hby at_144) rfl ?_
    show Steps p.tables e below (T25.setTop (mkF m 146 #[.val (.int p1), .val (.int p2), .val (.int p3), .val (.int p4), .val (.int (3 : Int32)), .val (.int c0_), .val (.int c1_), .val (.int c2_), .val (.ref b1), .val (.ref b11), .val (.ref b11), .val (.int (0 : Int32))] [(.int c1_), (.int (own_exp c1_))])) _
    refine st26 _ ?_
    show Steps p.tables e below (T26.setTop (mkF m 149 #[.val (.int p1), .val (.int p2), .val (.int p3), .val (.int p4), .val (.int (3 : Int32)), .val (.int c0_), .val (.int c1_), .val (.int c2_), .val (.ref b1), .val (.ref b11), .val (.ref b11), .val (.int (0 : Int32))] [(.int (own_exp c1_)), (.int (own_exp c1_))])) _
    refine XS.icmpYes X26.here hx rfl (pc0 := 149) (pc' := 154) rfl (hb hby at_149) rfl (teq (rfl : (own_exp c1_) = (own_exp c1_))).1 (by decide) (by decide) ?_
    refine XS.iload X26.here hx rfl (hb hby at_154) rfl ?_
    refine XS.ifNo X26.here hx rfl (hb hby at_156) rfl ((if0 _ _).trans (teq (by decide : (0 : Int32) = (0 : Int32))).2) ?_
    refine XS.iload X26.here hx rfl (hb hby at_159) rfl ?_
    show Steps p.tables e below (T26.setTop (mkF m 161 #[.val (.int p1), .val (.int p2), .val (.int p3), .val (.int p4), .val (.int (3 : Int32)), .val (.int c0_), .val (.int c1_), .val (.int c2_), .val (.ref b1), .val (.ref b11), .val (.ref b11), .val (.int (0 : Int32))] [(.int c1_)])) _
    refine st27 _ ?_
    show Steps p.tables e below (T27.setTop (mkF m 164 #[.val (.int p1), .val (.int p2), .val (.int p3), .val (.int p4), .val (.int (3 : Int32)), .val (.int c0_), .val (.int c1_), .val (.int c2_), .val (.ref b1), .val (.ref b11), .val (.ref b11), .val (.int (0 : Int32))] [(.int (0 : Int32))])) _
    refine XS.ifYes X27.here hx rfl (pc0 := 164) (pc' := 171) rfl (hb hby at_164) rfl ((if0 _ _).trans (teq (by decide : (0 : Int32) = (0 : Int32))).1) (by decide) (by decide) ?_
    refine XS.iconst X27.here hx rfl (hb hby at_171) ?_
    refine XS.istore X27.here hx rfl (hb hby at_172) rfl (l' := #[.val (.int p1), .val (.int p2), .val (.int p3), .val (.int p4), .val (.int (3 : Int32)), .val (.int c0_), .val (.int c1_), .val (.int c2_), .val (.ref b1), .val (.ref b11), .val (.ref b11), .val (.int (0 : Int32))]) rfl ?_
    refine XS.iload X27.here hx rfl (hb hby at_174) rfl ?_
    refine XS.iconst X27.here hx rfl (hb hby at_176) ?_
    refine XS.icmpNo X27.here hx rfl (hb hby at_177) rfl (tlt (by decide : (2 : Int32) < (3 : Int32))).2.2.2 ?_
    refine XS.aload X27.here hx rfl (hb hby at_180) rfl rfl ?_
    refine XS.iconst X27.here hx rfl (hb hby at_182) ?_
    show Steps p.tables e below (T27.setTop (mkF m 183 #[.val (.int p1), .val (.int p2), .val (.int p3), .val (.int p4), .val (.int (3 : Int32)), .val (.int c0_), .val (.int c1_), .val (.int c2_), .val (.ref b1), .val (.ref b11), .val (.ref b11), .val (.int (0 : Int32))] [(.int (2 : Int32)), (.ref b11)])) _
    refine st28.trans ?_
    show Steps p.tables e below (T28.setTop (mkF m 186 #[.val (.int p1), .val (.int p2), .val (.int p3), .val (.int p4), .val (.int (3 : Int32)), .val (.int c0_), .val (.int c1_), .val (.int c2_), .val (.ref b1), .val (.ref b11), .val (.ref b11), .val (.int (0 : Int32))] [(.int (own_exp c2_))])) _
    refine XS.iload X28.here hx rfl (hb hby at_186) rfl ?_
    show Steps p.tables e below (T28.setTop (mkF m 188 #[.val (.int p1), .val (.int p2), .val (.int p3), .val (.int p4), .val (.int (3 : Int32)), .val (.int c0_), .val (.int c1_), .val (.int c2_), .val (.ref b1), .val (.ref b11), .val (.ref b11), .val (.int (0 : Int32))] [(.int c2_), (.int (own_exp c2_))])) _
    refine st29 _ ?_
    show Steps p.tables e below (T29.setTop (mkF m 191 #[.val (.int p1), .val (.int p2), .val (.int p3), .val (.int p4), .val (.int (3 : Int32)), .val (.int c0_), .val (.int c1_), .val (.int c2_), .val (.ref b1), .val (.ref b11), .val (.ref b11), .val (.int (0 : Int32))] [(.int (own_exp c2_)), (.int (own_exp c2_))])) _
    refine XS.icmpYes X29.here hx rfl (pc0 := 191) (pc' := 196) rfl (hb hby at_191) rfl (teq (rfl : (own_exp c2_) = (own_exp c2_))).1 (by decide) (by decide) ?_
    refine XS.iload X29.here hx rfl (hb hby at_196) rfl ?_
    refine XS.ifNo X29.here hx rfl (hb hby at_198) rfl ((if0 _ _).trans (teq (by decide : (0 : Int32) = (0 : Int32))).2) ?_
    refine XS.iload X29.here hx rfl (hb hby at_201) rfl ?_
    show Steps p.tables e below (T29.setTop (mkF m 203 #[.val (.int p1), .val (.int p2), .val (.int p3), .val (.int p4), .val (.int (3 : Int32)), .val (.int c0_), .val (.int c1_), .val (.int c2_), .val (.ref b1), .val (.ref b11), .val (.ref b11), .val (.int (0 : Int32))] [(.int c2_)])) _
    refine st30 _ ?_
    show Steps p.tables e below (T30.setTop (mkF m 206 #[.val (.int p1), .val (.int p2), .val (.int p3), .val (.int p4), .val (.int (3 : Int32)), .val (.int c0_), .val (.int c1_), .val (.int c2_), .val (.ref b1), .val (.ref b11), .val (.ref b11), .val (.int (0 : Int32))] [(.int (0 : Int32))])) _
    refine XS.ifYes X30.here hx rfl (pc0 := 206) (pc' := 213) rfl (hb hby at_206) rfl ((if0 _ _).trans (teq (by decide : (0 : Int32) = (0 : Int32))).1) (by decide) (by decide) ?_
    refine XS.iconst X30.here hx rfl (hb hby at_213) ?_
    refine XS.istore X30.here hx rfl (hb hby at_214) rfl (l' := #[.val (.int p1), .val (.int p2), .val (.int p3), .val (.int p4), .val (.int (3 : Int32)), .val (.int c0_), .val (.int c1_), .val (.int c2_), .val (.ref b1), .val (.ref b11), .val (.ref b11), .val (.int (0 : Int32))]) rfl ?_
    refine XS.iload X30.here hx rfl (hb hby at_216) rfl ?_
    refine XS.ifNo X30.here hx rfl (hb hby at_218) rfl ((if0 _ _).trans (teq (by decide : (0 : Int32) = (0 : Int32))).2) ?_
    refine XS.aload X30.here hx rfl (hb hby at_221) rfl rfl ?_
    refine XS.aload X30.here hx rfl (hb hby at_223) rfl rfl ?_
    show Steps p.tables e below (T30.setTop (mkF m 225 #[.val (.int p1), .val (.int p2), .val (.int p3), .val (.int p4), .val (.int (3 : Int32)), .val (.int c0_), .val (.int c1_), .val (.int c2_), .val (.ref b1), .val (.ref b11), .val (.ref b11), .val (.int (0 : Int32))] [(.ref b11), (.ref b11)])) _
    refine Jvm.RoadKit.acmp (g := (mkF m 225 #[.val (.int p1), .val (.int p2), .val (.int p3), .val (.int p4), .val (.int (3 : Int32)), .val (.int c0_), .val (.int c1_), .val (.int c2_), .val (.ref b1), .val (.ref b11), .val (.ref b11), .val (.int (0 : Int32))] [(.ref b11), (.ref b11)])) X30 hx rfl rfl rfl (pc0 := 225) (pc' := 230) (same := true) rfl (hb hby at_225) rfl (decide_eq_true rfl) (by decide) (by decide) ?_
    show Steps p.tables e below (T30.setTop (mkF m 230 #[.val (.int p1), .val (.int p2), .val (.int p3), .val (.int p4), .val (.int (3 : Int32)), .val (.int c0_), .val (.int c1_), .val (.int c2_), .val (.ref b1), .val (.ref b11), .val (.ref b11), .val (.int (0 : Int32))] [])) _
    refine XS.iconst X30.here hx rfl (hb hby at_230) ?_
    show Steps p.tables e below (T30.setTop (mkF m 231 #[.val (.int p1), .val (.int p2), .val (.int p3), .val (.int p4), .val (.int (3 : Int32)), .val (.int c0_), .val (.int c1_), .val (.int c2_), .val (.ref b1), .val (.ref b11), .val (.ref b11), .val (.int (0 : Int32))] [(.int (1 : Int32))])) _
    exact retN X30 hx (t := .boolean) Bd.returns (by simp) (hb hby at_231) hr
  · show own_Qk (some (.int (1 : Int32))) [] h0 n0 _ T30.heap _
    rw [e30]
    exact ⟨rfl, N30, K17⟩
theorem own_wide {l : Launch} {Z : State} {h0 : Heap} {n0 : Nat} {S : Spec} {A : Array Value} {k n : Nat} (h : MetFree l x S (fun a U => a = A ∧ Z.Warmed39 U.vm ∧ U.heap = h0) (fun _ _ _ _ _ => True) (fun _ U o U' => ∃ v L, o = .returned v ∧ own_Qk (some (.int (1 : Int32))) [] h0 n0 v U'.heap L ∧ FrameEnd U o U' L k n)) : MetFree l x S (fun a U => a = A ∧ Z.Warmed39 U.vm ∧ U.heap = h0 ∧ CHv Z own_EL U.vm h0) (fun _ _ _ _ _ => True) (fun _ U o U' => ∃ v L, o = .returned v ∧ own_Qk (some (.int (1 : Int32))) [] h0 n0 v U'.heap L ∧ ReturnedEndW U o U' L k n) :=
  h.mono (fun _ _ q => ⟨q.1, q.2.1, q.2.2.1⟩) (fun _ _ _ _ _ q => q) (fun _ _ _ _ _ ⟨v, L, h1, h2, h3⟩ => ⟨v, L, h1, h2, ReturnedEndW.of_narrow h3.1 h3.2.1 h3.2.2⟩)
theorem own_drop {l : Launch} {Z : State} {h0 : Heap} {n0 : Nat} {S : Spec} {A : Array Value} {k n : Nat} (h : MetFree l x S (fun a U => a = A ∧ Z.Warmed39 U.vm ∧ U.heap = h0 ∧ CHv Z own_EL U.vm h0) (fun _ _ _ _ _ => True) (fun _ U o U' => ∃ v L, o = .returned v ∧ own_Qk (some (.int (1 : Int32))) [] h0 n0 v U'.heap L ∧ CHr Z own_EL U.vm U.heap U'.vm U'.heap ∧ ReturnedEndW U o U' L k n)) : MetFree l x S (fun a U => a = A ∧ Z.Warmed39 U.vm ∧ U.heap = h0 ∧ CHv Z own_EL U.vm h0) (fun _ _ _ _ _ => True) (fun _ U o U' => ∃ v L, o = .returned v ∧ own_Qk (some (.int (1 : Int32))) [] h0 n0 v U'.heap L ∧ ReturnedEndW U o U' L k n) :=
  h.mono (fun _ _ q => q) (fun _ _ _ _ _ q => q) (fun _ _ _ _ _ ⟨v, L, h1, h2, _, h3⟩ => ⟨v, L, h1, h2, h3⟩)
theorem own_law (l : Launch) (Z : State) (a0 : Array Value) (hw : own_HW a0 Z) (ws : List Jvm.Cond) (cs1 : Int32) (fv : Value) (h0 : Heap) (n0 : Nat) (O0 : Old Z n0 h0) (G : own_Ctx Z Z.heap cs1 fv) (hEL : EW Z a0 own_EL) (wS : ∀ a ∈ Bundle.stringAtoms, a.before a0 Z = true) (p1 p2 p3 p4 : Int32) : MetFree l x (head1 (Jvm.Cond.code x code maxLocals ret :: ws) room_1) (fun a U => a = #[(.int p1), (.int p2), (.int p3), (.int p4)] ∧ Z.Warmed39 U.vm ∧ U.heap = h0 ∧ CHv Z own_EL U.vm h0) (fun _ _ _ _ _ => True) (fun _ U o U' => ∃ v L, o = .returned v ∧ own_Qk (some (.int (1 : Int32))) [] h0 n0 v U'.heap L ∧ ReturnedEndW U o U' L 32 1216) := by
  rcases own_and4 p1 with hl | hl | hl | hl
  · exact own_drop (r_law0_0 l Z a0 hw ws cs1 fv h0 n0 O0 G hEL wS p1 p2 p3 p4 hl)
  · skip
    rcases Classical.em (own_brk (p2.toUInt32.toUInt16.toUInt32.toInt32)) with q0_ | q0_
    · exact own_wide (r_law1_0 l Z a0 hw ws cs1 fv h0 n0 O0 G p1 p2 p3 p4 _ hl rfl (own_c16 p2).1 (own_c16 p2).2 q0_)
    exact own_wide (r_law1_1 l Z a0 hw ws cs1 fv h0 n0 O0 G p1 p2 p3 p4 _ hl rfl (own_c16 p2).1 (own_c16 p2).2 q0_)
  · skip
    rcases Classical.em (own_brk (p2.toUInt32.toUInt16.toUInt32.toInt32)) with q0_ | q0_
    · exact own_wide (r_law2_0 l Z a0 hw ws cs1 fv h0 n0 O0 G p1 p2 p3 p4 _ _ hl rfl (own_c16 p2).1 (own_c16 p2).2 rfl (own_c16 p3).1 (own_c16 p3).2 q0_)
    rcases Classical.em (own_brk (p3.toUInt32.toUInt16.toUInt32.toInt32)) with q1_ | q1_
    · exact own_wide (r_law2_1 l Z a0 hw ws cs1 fv h0 n0 O0 G p1 p2 p3 p4 _ _ hl rfl (own_c16 p2).1 (own_c16 p2).2 rfl (own_c16 p3).1 (own_c16 p3).2 q0_ q1_)
    exact own_wide (r_law2_2 l Z a0 hw ws cs1 fv h0 n0 O0 G p1 p2 p3 p4 _ _ hl rfl (own_c16 p2).1 (own_c16 p2).2 rfl (own_c16 p3).1 (own_c16 p3).2 q0_ q1_)
  · skip
    rcases Classical.em (own_brk (p2.toUInt32.toUInt16.toUInt32.toInt32)) with q0_ | q0_
    · exact own_wide (r_law3_0 l Z a0 hw ws cs1 fv h0 n0 O0 G p1 p2 p3 p4 _ _ _ hl rfl (own_c16 p2).1 (own_c16 p2).2 rfl (own_c16 p3).1 (own_c16 p3).2 rfl (own_c16 p4).1 (own_c16 p4).2 q0_)
    rcases Classical.em (own_brk (p3.toUInt32.toUInt16.toUInt32.toInt32)) with q1_ | q1_
    · exact own_wide (r_law3_1 l Z a0 hw ws cs1 fv h0 n0 O0 G p1 p2 p3 p4 _ _ _ hl rfl (own_c16 p2).1 (own_c16 p2).2 rfl (own_c16 p3).1 (own_c16 p3).2 rfl (own_c16 p4).1 (own_c16 p4).2 q0_ q1_)
    rcases Classical.em (own_brk (p4.toUInt32.toUInt16.toUInt32.toInt32)) with q2_ | q2_
    · exact own_wide (r_law3_2 l Z a0 hw ws cs1 fv h0 n0 O0 G p1 p2 p3 p4 _ _ _ hl rfl (own_c16 p2).1 (own_c16 p2).2 rfl (own_c16 p3).1 (own_c16 p3).2 rfl (own_c16 p4).1 (own_c16 p4).2 q0_ q1_ q2_)
    exact own_wide (r_law3_3 l Z a0 hw ws cs1 fv h0 n0 O0 G p1 p2 p3 p4 _ _ _ hl rfl (own_c16 p2).1 (own_c16 p2).2 rfl (own_c16 p3).1 (own_c16 p3).2 rfl (own_c16 p4).1 (own_c16 p4).2 q0_ q1_ q2_)
theorem comes_1 {Post : Tables → Env → Array Value → State → Outcome → State → Prop} (hpost : ∀ tb e args s v u, (limb_1_1.after args s (.returned v) u = true ∧ limb_1_2.after args s (.returned v) u = true ∧ True) → ReturnedEndW s (.returned v) u (Jvm.fieldLocs frame_1_writes args s ++ Jvm.arrayLocs frame_1_arrays args s ++ Jvm.staticLocs frame_1_statics s) 32 1216 → Post tb e args s (.returned v) u) :
    ArmFor flags0 classFile x code maxLocals ret World_1 tables_1 room_1 Calls_1 rest_1 Pre_1 Post := by
  intro l hfl _ _ p e ha hc hk s m args below hf hA hF happ hP
  obtain ⟨hcalls, hrest, hpre⟩ := hP
  obtain ⟨-, -, -, hnamed, -, -, -, hat⟩ := (Spec.applies_iff hf).mp happ
  obtain ⟨hg, hn⟩ := and_e (Cond.before_iff.mp (show (Jvm.Cond.and given_1 narrow_1).before args s = true from hpre))
  obtain ⟨hg0, hg1⟩ := and_e hg
  obtain ⟨hg10, hg11⟩ := and_e hg1
  obtain ⟨hg110, hg111⟩ := and_e hg11
  obtain ⟨hg1110, hg1111⟩ := and_e hg111
  obtain ⟨w0, w1, w2, w3, rfl⟩ : ∃ w0 w1 w2 w3 : Value, args = #[w0, w1, w2, w3] := by
    have hs : args.size = 4 := by simpa [Cond.value, given_1] using hg0
    obtain ⟨L⟩ := args
    match L, hs with
    | [w0, w1, w2, w3], _ => exact ⟨w0, w1, w2, w3, rfl⟩
  obtain ⟨i0, ei0⟩ := is_v hg10
  obtain rfl : w0 = (.int i0) := Option.some.inj ei0
  obtain ⟨i1, ei1⟩ := is_v hg110
  obtain rfl : w1 = (.int i1) := Option.some.inj ei1
  obtain ⟨i2, ei2⟩ := is_v hg1110
  obtain rfl : w2 = (.int i2) := Option.some.inj ei2
  obtain ⟨i3, ei3⟩ := is_v hg1111
  obtain rfl : w3 = (.int i3) := Option.some.inj ei3
  have hw := fun d (hd : d ∈ tables_1) => atoms_spec (ws := Jvm.Cond.code x code maxLocals ret :: tables_1) hat d (List.mem_cons_of_mem _ hd)
  have hfit : Fit s := fun {y c} hc i hi => by
    obtain ⟨ha, rfl⟩ := Array.getElem?_eq_some_iff.mp hc
    have q := List.all_eq_true.mp ((Array.all_eq_true_iff_forall_mem.mp hF) _ (Array.getElem_mem ha)) i (List.mem_range.mpr hi)
    simpa [Array.getElem?_eq_getElem hi] using q
  obtain ⟨hsets, hown0⟩ := atoms_of _ (rest_1_c_eq ▸ (show rest_1_c.before _ s = true from hrest))
  obtain ⟨cs1, ev_cs⟩ := is_v (Cond.before_iff.mp (hsets _ (List.mem_of_getElem? (i := 1) rfl)))
  have S_CS := Sta.start ev_cs (Or.inl (hsets _ (List.mem_of_getElem? (i := 0) rfl)))
  have N_CS : ¬ (cs1 = (0 : Int32)) := fun q => by
    have z := not_v (Cond.before_iff.mp (hsets _ (List.mem_of_getElem? (i := 2) rfl)))
    rw [eq_i ev_cs (Term.int_eval 0) (congrArg Value.int q)] at z
    simp at z
  obtain ⟨fv, ev_fv, R_F⟩ := isR_v (Cond.before_iff.mp (hsets _ (List.mem_of_getElem? (i := 8) rfl)))
  have S_F := Sta.start ev_fv (Or.inl (hsets _ (List.mem_of_getElem? (i := 7) rfl)))
  have S_AD := Sta.start (own_eqI (Cond.before_iff.mp (hsets _ (List.mem_of_getElem? (i := 12) rfl)))) (Or.inl (hsets _ (List.mem_of_getElem? (i := 11) rfl)))
  have S_HI := Sta.start (own_eqI (Cond.before_iff.mp (hsets _ (List.mem_of_getElem? (i := 15) rfl)))) (Or.inl (hsets _ (List.mem_of_getElem? (i := 14) rfl)))
  have S_LO := Sta.start (own_eqI (Cond.before_iff.mp (hsets _ (List.mem_of_getElem? (i := 18) rfl)))) (Or.inl (hsets _ (List.mem_of_getElem? (i := 17) rfl)))
  have G : own_Ctx s s.heap cs1 fv := ⟨S_CS, N_CS, S_F, R_F, S_AD, S_HI, S_LO⟩
  have hEL : EW s #[(.int i0), (.int i1), (.int i2), (.int i3)] own_EL := EW.cons (own_w hw 14 rfl) (fun c h => by simp at h) EW.nil
  have wS : ∀ a ∈ Bundle.stringAtoms, a.before #[(.int i0), (.int i1), (.int i2), (.int i3)] s = true := fun a ha => by
    simp only [Bundle.stringAtoms, List.mem_cons, List.not_mem_nil, or_false] at ha
    rcases ha with rfl | rfl | rfl | rfl | rfl | rfl | rfl
    · exact (own_w hw 3 rfl)
    · exact (own_w hw 2 rfl)
    · exact (own_w hw 15 rfl)
    · exact (own_w hw 16 rfl)
    · exact (own_w hw 17 rfl)
    · exact (own_w hw 18 rfl)
    · exact (own_w hw 19 rfl)
  have hCH : CHv s own_EL s.vm s.heap := CHv.start hEL (fun q hq => by
    obtain rfl : q = ("java/lang/String", 7) := List.mem_singleton.mp hq
    exact hcalls.1 _ (List.mem_singleton.mpr rfl)) (hsets _ (List.mem_of_getElem? (i := 2) rfl)) (own_w hw 15 rfl) (own_w hw 2 rfl)
  obtain ⟨n, o, h1, h2, h3, _, L, rfl, ⟨rfl, N, -⟩, hq⟩ := own_law l s _ hw tables_1 cs1 fv s.heap s.heap.size (Old.start s) G hEL wS i0 i1 i2 i3 p e ha hc hk s m _ below hf ((Spec.applies_iff_loose hf).mp happ).1 ⟨rfl, State.Warmed39.refl s, rfl, hCH⟩ trivial
  refine ⟨n, _, h1, h2, h3, hpost _ _ _ _ _ _ ⟨Cond.after_iff.mpr rfl, Cond.after_iff.mpr (eq_i res_at (Term.int_eval (1)) rfl), trivial⟩ ⟨hq.1, hq.2.1, hq.2.2.1, (hq.2.2.2.sift fun y hy => Or.inr (N y hy)).mono (by decide) (by decide)⟩⟩
theorem main_1_1 : Claimed_1_1 := comes_1 fun _ _ _ _ _ _ h hF => ⟨h.1, hF⟩
theorem main_1_2 : Claimed_1_2 := comes_1 fun _ _ _ _ _ _ h hF => ⟨h.2.1, hF⟩
end Jvm.Pilot.@@N@@
namespace Jvm.Pilot.@@N@@
open Jvm Jvm.ClassFile Sem Op Lib Jvm.Free Jvm.Stand Jvm.Pilot.@@N@@.Jvm.D
/-! MADE BY PROGRAM (witnessworld.py) out of the Statement's table words and the real class files: 20 classes; the members and pool entries that the words name. The judged class is class 1, her method 1. -/
namespace start1
open Jvm.ClassFile
def u (s : String) : CpInfo := .utf8 (stringToUtf16 s)
/-- a pool by its gaps: so many unusable entries, then the entry; so many at the end -/
def gap : Nat → List CpInfo → List CpInfo
  | 0, r => r
  | n + 1, r => .unusable :: gap n r
def poolList (es : List (Nat × CpInfo)) (last : Nat) : List CpInfo := es.foldr (fun e r => gap e.1 (e.2 :: r)) (gap last [])
def pool (es : List (Nat × CpInfo)) (last : Nat) : Array CpInfo := ⟨poolList es last⟩
def fileOf (pool : Array CpInfo) (this : Nat) (attrs : Array Attribute := #[]) (ms : Array MethodInfo := #[]) (fl : Nat := 33) (sup : Nat := 0) (ifs : Array Nat := #[]) (fds : Array FieldInfo := #[]) : ClassFile where
  minorVersion := 0
  majorVersion := 65
  constantPool := pool
  accessFlags := fl
  thisClass := this
  superClass := sup
  interfaces := ifs
  fields := fds
  methods := ms
  attributes := attrs
def plain (name : String) (sup : Option ClassId) : Class where
  name := name
  kind := .ordinary
  loader := none
  accessFlags := 33
  super := sup
  interfaces := #[]
  cf := none
  fields := #[]
  methods := #[]
  instanceTypes := #[]
  staticTypes := #[]
  resolved := #[]
  callSites := []
  init := .initialized
  statics := none
  mirror := none

def pool0 : Array CpInfo := pool [(5, u "<init>"), (0, u "()V"), (1, .class_ 10), (1, u "java/lang/Object")] 113

def k0c0 : Code := { maxStack := 0, maxLocals := 1, code := object_method_1_code, exceptionTable := #[], attributes := #[] }
def k0m0 : Method := { name := "<init>", desc := "()V", sig := { parameters := [], returnType := none }, accessFlags := 1, code := some k0c0 }
/-- java/lang/Object -/
def k0 : Class := { plain "java/lang/Object" none with
  accessFlags := 33
  interfaces := #[]
  cf := some (fileOf pool0 8 #[] #[{ accessFlags := 1, nameIndex := 5, descriptorIndex := 6, attributes := #[] }] 33 0 #[] #[])
  fields := #[]
  methods := #[k0m0]
  instanceTypes := #[]
  staticTypes := #[]
  resolved := Array.replicate 124 none
  statics := none }

def pool1 : Array CpInfo := pool [(2, .class_ 4), (1, u "java/lang/Object"), (0, u "<init>"), (0, u "()V"), (0, .class_ 8), (0, u "java/lang/String"), (0, .methodref 7 10), (0, .nameAndType 5 11), (0, u "([C)V"), (0, .methodref 13 14), (0, .class_ 15), (0, .nameAndType 16 17), (0, u "com/example/rubrique/rubrique/cli/OneLine"), (0, u "of"), (0, u "(Ljava/lang/String;)Ljava/lang/String;"), (0, .methodref 7 19), (0, .nameAndType 20 21), (0, u "length"), (0, u "()I"), (0, .methodref 7 23), (0, .nameAndType 24 25), (0, u "charAt"), (0, u "(I)C"), (0, .methodref 27 28), (0, .class_ 29), (0, .nameAndType 30 31), (0, u "com/example/rubrique/rubrique/cli/OneLineOfPinLaw"), (0, u "expected"), (0, u "(C)C"), (0, .methodref 27 33), (0, .nameAndType 34 35), (0, u "isBreak"), (0, u "(C)Z"), (2, u "law"), (0, u "(IIII)Z")] 5

def k1m0 : Method := { name := "<init>", desc := "()V", sig := { parameters := [], returnType := none }, accessFlags := 2, code := none }
def k1c1 : Code := { maxStack := 3, maxLocals := 12, code := code, exceptionTable := #[], attributes := #[] }
def k1m1 : Method := { name := "law", desc := "(IIII)Z", sig := { parameters := [.int, .int, .int, .int], returnType := some .boolean }, accessFlags := 9, code := some k1c1 }
def k1c2 : Code := { maxStack := 2, maxLocals := 2, code := method_3_code, exceptionTable := #[], attributes := #[] }
def k1m2 : Method := { name := "isBreak", desc := "(C)Z", sig := { parameters := [.char], returnType := some .boolean }, accessFlags := 10, code := some k1c2 }
def k1c3 : Code := { maxStack := 1, maxLocals := 1, code := method_4_code, exceptionTable := #[], attributes := #[] }
def k1m3 : Method := { name := "expected", desc := "(C)C", sig := { parameters := [.char], returnType := some .char }, accessFlags := 10, code := some k1c3 }
/-- com/example/rubrique/rubrique/cli/OneLineOfPinLaw -/
def k1 : Class := { plain "com/example/rubrique/rubrique/cli/OneLineOfPinLaw" (some 0) with
  accessFlags := 49
  interfaces := #[]
  cf := some (fileOf pool1 27 #[] #[{ accessFlags := 2, nameIndex := 5, descriptorIndex := 6, attributes := #[] }, { accessFlags := 9, nameIndex := 38, descriptorIndex := 39, attributes := #[] }, { accessFlags := 10, nameIndex := 34, descriptorIndex := 35, attributes := #[] }, { accessFlags := 10, nameIndex := 30, descriptorIndex := 31, attributes := #[] }] 49 2 #[] #[])
  fields := #[]
  methods := #[k1m0, k1m1, k1m2, k1m3]
  instanceTypes := #[]
  staticTypes := #[]
  resolved := Array.replicate 45 none
  statics := none }

def pool2 : Array CpInfo := pool [(1, .class_ 2), (0, u "java/io/Serializable"), (0, .class_ 4), (0, u "java/lang/Object")] 2

/-- java/io/Serializable -/
def k2 : Class := { plain "java/io/Serializable" (some 0) with
  accessFlags := 1537
  interfaces := #[]
  cf := some (fileOf pool2 1 #[] #[] 1537 3 #[] #[])
  fields := #[]
  methods := #[]
  instanceTypes := #[]
  staticTypes := #[]
  resolved := Array.replicate 7 none
  statics := none }

def pool3 : Array CpInfo := pool [(1, .class_ 2), (0, u "java/lang/Comparable"), (0, .class_ 4), (0, u "java/lang/Object")] 7

/-- java/lang/Comparable -/
def k3 : Class := { plain "java/lang/Comparable" (some 0) with
  accessFlags := 1537
  interfaces := #[]
  cf := some (fileOf pool3 1 #[] #[] 1537 3 #[] #[])
  fields := #[]
  methods := #[]
  instanceTypes := #[]
  staticTypes := #[]
  resolved := Array.replicate 12 none
  statics := none }

def pool4 : Array CpInfo := pool [(2, .class_ 4), (1, u "java/lang/CharSequence"), (42, .class_ 48), (0, u "java/lang/CharSequence$1CodePointIterator"), (10, .class_ 60), (0, u "java/lang/CharSequence$1CharIterator"), (5, .class_ 67), (0, u "java/lang/Object")] 63

/-- java/lang/CharSequence -/
def k4 : Class := { plain "java/lang/CharSequence" (some 0) with
  accessFlags := 1537
  interfaces := #[]
  cf := some (fileOf pool4 2 #[.nestMembers #[47, 59]] #[] 1537 66 #[] #[])
  fields := #[]
  methods := #[]
  instanceTypes := #[]
  staticTypes := #[]
  resolved := Array.replicate 131 none
  statics := none }

def pool5 : Array CpInfo := pool [(1, .class_ 2), (0, u "java/lang/constant/Constable"), (0, .class_ 4), (0, u "java/lang/Object")] 6

/-- java/lang/constant/Constable -/
def k5 : Class := { plain "java/lang/constant/Constable" (some 0) with
  accessFlags := 1537
  interfaces := #[]
  cf := some (fileOf pool5 1 #[] #[] 1537 3 #[] #[])
  fields := #[]
  methods := #[]
  instanceTypes := #[]
  staticTypes := #[]
  resolved := Array.replicate 11 none
  statics := none }

def pool6 : Array CpInfo := pool [(1, .class_ 2), (0, u "java/lang/constant/ConstantDesc"), (0, .class_ 4), (0, u "java/lang/Object")] 32

/-- java/lang/constant/ConstantDesc -/
def k6 : Class := { plain "java/lang/constant/ConstantDesc" (some 0) with
  accessFlags := 1537
  interfaces := #[]
  cf := some (fileOf pool6 1 #[] #[] 1537 3 #[] #[])
  fields := #[]
  methods := #[]
  instanceTypes := #[]
  staticTypes := #[]
  resolved := Array.replicate 37 none
  statics := none }

def pool7 : Array CpInfo := pool [(1, .methodref 2 3), (0, .class_ 4), (0, .nameAndType 5 6), (0, u "java/lang/Object"), (0, u "<init>"), (0, u "()V"), (0, .string 8), (0, u ""), (0, .fieldref 10 11), (0, .class_ 12), (0, .nameAndType 13 14), (0, u "java/lang/String"), (0, u "value"), (0, u "[B"), (0, .fieldref 10 16), (0, .nameAndType 17 18), (0, u "coder"), (0, u "B"), (2, u "hash"), (0, u "I"), (2, u "hashIsZero"), (0, u "Z"), (0, .methodref 10 28), (0, .nameAndType 5 29), (0, u "([CIILjava/lang/Void;)V"), (6, u "checkBoundsOffCount"), (0, u "(III)I"), (0, .fieldref 10 39), (0, .nameAndType 40 26), (0, u "COMPACT_STRINGS"), (1, .class_ 44), (1, u "java/lang/StringUTF16"), (0, u "compress"), (1, .methodref 42 48), (0, .nameAndType 49 50), (0, u "coderFromArrayLen"), (0, u "([BI)B"), (56, .class_ 109), (1, u "java/lang/StringLatin1"), (32, u "()Z"), (34, .methodref 42 178), (0, .nameAndType 45 179), (0, u "([CII)[B"), (119, .methodref 107 300), (0, .nameAndType 301 302), (0, u "toChars"), (0, u "([B)[C"), (0, .methodref 42 300), (30, u "()I"), (0, .methodref 10 336), (0, .nameAndType 17 337), (0, u "()B"), (25, u "([BI)C"), (27, u "(II)V"), (35, u "(I)C"), (64, .methodref 10 493), (0, .nameAndType 494 142), (0, u "isLatin1"), (0, .methodref 107 496), (0, .nameAndType 497 363), (0, u "charAt"), (0, .methodref 42 496), (2, u "checkIndex"), (5, u "length"), (67, .class_ 576), (0, u "java/lang/CharSequence"), (22, u "CASE_INSENSITIVE_ORDER"), (0, u "Ljava/util/Comparator;"), (354, u "toCharArray"), (0, u "()[C"), (53, u "([C)V"), (42, .fieldref 1054 1055), (0, .class_ 1056), (0, .nameAndType 1057 1058), (0, u "jdk/internal/util/Preconditions"), (0, u "SIOOBE_FORMATTER"), (0, u "Ljava/util/function/BiFunction;"), (0, .methodref 1054 1060), (0, .nameAndType 501 1061), (0, u "(IILjava/util/function/BiFunction;)I"), (2, u "(IIILjava/util/function/BiFunction;)I"), (0, .methodref 1054 1066), (0, .nameAndType 1067 1064), (0, u "checkFromIndexSize"), (33, u "serialPersistentFields"), (0, u "[Ljava/io/ObjectStreamField;"), (0, .class_ 1104), (0, u "java/lang/String$CaseInsensitiveComparator"), (1, .class_ 1107), (0, u "java/io/Serializable"), (0, .class_ 1109), (0, u "java/lang/Comparable"), (0, .class_ 1111), (0, u "java/lang/constant/Constable"), (0, .class_ 1113), (0, u "java/lang/constant/ConstantDesc"), (2, u "serialVersionUID"), (0, u "J"), (3, u "REPL"), (0, u "C"), (2, u "LATIN1"), (1, u "UTF16")] 323

def k7m0 : Method := { name := "<init>", desc := "()V", sig := { parameters := [], returnType := none }, accessFlags := 1, code := none }
def k7c1 : Code := { maxStack := 5, maxLocals := 2, code := jdk_42_method_3_code, exceptionTable := #[], attributes := #[] }
def k7m1 : Method := { name := "<init>", desc := "([C)V", sig := { parameters := [(.array .char)], returnType := none }, accessFlags := 1, code := some k7c1 }
def k7c2 : Code := { maxStack := 2, maxLocals := 1, code := jdk_42_method_54_code, exceptionTable := #[], attributes := #[] }
def k7m2 : Method := { name := "length", desc := "()I", sig := { parameters := [], returnType := some .int }, accessFlags := 1, code := some k7c2 }
def k7c3 : Code := { maxStack := 2, maxLocals := 2, code := jdk_42_method_56_code, exceptionTable := #[], attributes := #[] }
def k7m3 : Method := { name := "charAt", desc := "(I)C", sig := { parameters := [.int], returnType := some .char }, accessFlags := 1, code := some k7c3 }
def k7c4 : Code := { maxStack := 1, maxLocals := 1, code := jdk_42_method_129_code, exceptionTable := #[], attributes := #[] }
def k7m4 : Method := { name := "toCharArray", desc := "()[C", sig := { parameters := [], returnType := some (.array .char) }, accessFlags := 1, code := some k7c4 }
def k7c5 : Code := { maxStack := 4, maxLocals := 6, code := jdk_42_method_149_code, exceptionTable := #[], attributes := #[] }
def k7m5 : Method := { name := "<init>", desc := "([CIILjava/lang/Void;)V", sig := { parameters := [(.array .char), .int, .int, (.object "java/lang/Void")], returnType := none }, accessFlags := 2, code := some k7c5 }
def k7c6 : Code := { maxStack := 1, maxLocals := 1, code := jdk_42_method_152_code, exceptionTable := #[], attributes := #[] }
def k7m6 : Method := { name := "coder", desc := "()B", sig := { parameters := [], returnType := some .byte }, accessFlags := 0, code := some k7c6 }
def k7c7 : Code := { maxStack := 1, maxLocals := 1, code := jdk_42_method_154_code, exceptionTable := #[], attributes := #[] }
def k7m7 : Method := { name := "isLatin1", desc := "()Z", sig := { parameters := [], returnType := some .boolean }, accessFlags := 0, code := some k7c7 }
def k7c8 : Code := { maxStack := 3, maxLocals := 2, code := jdk_42_method_155_code, exceptionTable := #[], attributes := #[] }
def k7m8 : Method := { name := "checkIndex", desc := "(II)V", sig := { parameters := [.int, .int], returnType := none }, accessFlags := 8, code := some k7c8 }
def k7c9 : Code := { maxStack := 4, maxLocals := 3, code := jdk_42_method_157_code, exceptionTable := #[], attributes := #[] }
def k7m9 : Method := { name := "checkBoundsOffCount", desc := "(III)I", sig := { parameters := [.int, .int, .int], returnType := some .int }, accessFlags := 8, code := some k7c9 }
/-- java/lang/String -/
def k7 : Class := { plain "java/lang/String" (some 0) with
  accessFlags := 49
  interfaces := #[2, 3, 4, 5, 6]
  cf := some (fileOf pool7 10 #[.nestMembers #[1103]] #[{ accessFlags := 1, nameIndex := 5, descriptorIndex := 6, attributes := #[] }, { accessFlags := 1, nameIndex := 5, descriptorIndex := 1010, attributes := #[] }, { accessFlags := 1, nameIndex := 507, descriptorIndex := 334, attributes := #[] }, { accessFlags := 1, nameIndex := 497, descriptorIndex := 427, attributes := #[] }, { accessFlags := 1, nameIndex := 955, descriptorIndex := 956, attributes := #[] }, { accessFlags := 2, nameIndex := 5, descriptorIndex := 29, attributes := #[] }, { accessFlags := 0, nameIndex := 17, descriptorIndex := 337, attributes := #[] }, { accessFlags := 0, nameIndex := 494, descriptorIndex := 142, attributes := #[] }, { accessFlags := 8, nameIndex := 501, descriptorIndex := 391, attributes := #[] }, { accessFlags := 8, nameIndex := 36, descriptorIndex := 37, attributes := #[] }] 49 2 #[1106, 1108, 575, 1110, 1112] #[{ accessFlags := 18, nameIndex := 13, descriptorIndex := 14, attributes := #[] }, { accessFlags := 18, nameIndex := 17, descriptorIndex := 18, attributes := #[] }, { accessFlags := 2, nameIndex := 21, descriptorIndex := 22, attributes := #[] }, { accessFlags := 2, nameIndex := 25, descriptorIndex := 26, attributes := #[] }, { accessFlags := 26, nameIndex := 1116, descriptorIndex := 1117, attributes := #[] }, { accessFlags := 24, nameIndex := 40, descriptorIndex := 26, attributes := #[] }, { accessFlags := 26, nameIndex := 1101, descriptorIndex := 1102, attributes := #[] }, { accessFlags := 26, nameIndex := 1121, descriptorIndex := 1122, attributes := #[] }, { accessFlags := 25, nameIndex := 599, descriptorIndex := 600, attributes := #[] }, { accessFlags := 24, nameIndex := 1125, descriptorIndex := 18, attributes := #[] }, { accessFlags := 24, nameIndex := 1127, descriptorIndex := 18, attributes := #[] }])
  fields := #[{ name := "value", type := (.array .byte), accessFlags := 18, slot := 0, constantValue := 0 }, { name := "coder", type := .byte, accessFlags := 18, slot := 1, constantValue := 0 }, { name := "hash", type := .int, accessFlags := 2, slot := 2, constantValue := 0 }, { name := "hashIsZero", type := .boolean, accessFlags := 2, slot := 3, constantValue := 0 }, { name := "serialVersionUID", type := .long, accessFlags := 26, slot := 0, constantValue := 0 }, { name := "COMPACT_STRINGS", type := .boolean, accessFlags := 24, slot := 1, constantValue := 0 }, { name := "serialPersistentFields", type := (.array (.object "java/io/ObjectStreamField")), accessFlags := 26, slot := 2, constantValue := 0 }, { name := "REPL", type := .char, accessFlags := 26, slot := 3, constantValue := 0 }, { name := "CASE_INSENSITIVE_ORDER", type := (.object "java/util/Comparator"), accessFlags := 25, slot := 4, constantValue := 0 }, { name := "LATIN1", type := .byte, accessFlags := 24, slot := 5, constantValue := 0 }, { name := "UTF16", type := .byte, accessFlags := 24, slot := 6, constantValue := 0 }]
  methods := #[k7m0, k7m1, k7m2, k7m3, k7m4, k7m5, k7m6, k7m7, k7m8, k7m9]
  instanceTypes := #[(.array .byte), .byte, .int, .boolean]
  staticTypes := #[.long, .boolean, (.array (.object "java/io/ObjectStreamField")), .char, (.object "java/util/Comparator"), .byte, .byte]
  resolved := Array.replicate 1451 none
  statics := some 0 }

def pool8 : Array CpInfo := pool [(2, .class_ 4), (1, u "java/lang/Object"), (0, u "<init>"), (0, u "()V"), (0, .methodref 8 9), (0, .class_ 10), (0, .nameAndType 11 12), (0, u "java/lang/String"), (0, u "length"), (0, u "()I"), (0, .methodref 8 14), (0, .nameAndType 15 16), (0, u "charAt"), (0, u "(I)C"), (0, .methodref 18 19), (0, .class_ 20), (0, .nameAndType 21 22), (0, u "com/example/rubrique/rubrique/cli/OneLine"), (0, u "breaksLine"), (0, u "(C)Z"), (0, .methodref 8 24), (0, .nameAndType 25 26), (0, u "toCharArray"), (0, u "()[C"), (0, .methodref 8 28), (0, .nameAndType 5 29), (0, u "([C)V"), (2, u "of"), (0, u "(Ljava/lang/String;)Ljava/lang/String;")] 5

def k8m0 : Method := { name := "<init>", desc := "()V", sig := { parameters := [], returnType := none }, accessFlags := 2, code := none }
def k8c1 : Code := { maxStack := 3, maxLocals := 4, code := prog_16_method_2_code, exceptionTable := #[], attributes := #[] }
def k8m1 : Method := { name := "of", desc := "(Ljava/lang/String;)Ljava/lang/String;", sig := { parameters := [(.object "java/lang/String")], returnType := some (.object "java/lang/String") }, accessFlags := 8, code := some k8c1 }
def k8c2 : Code := { maxStack := 2, maxLocals := 1, code := prog_16_method_3_code, exceptionTable := #[], attributes := #[] }
def k8m2 : Method := { name := "breaksLine", desc := "(C)Z", sig := { parameters := [.char], returnType := some .boolean }, accessFlags := 10, code := some k8c2 }
/-- com/example/rubrique/rubrique/cli/OneLine -/
def k8 : Class := { plain "com/example/rubrique/rubrique/cli/OneLine" (some 0) with
  accessFlags := 48
  interfaces := #[]
  cf := some (fileOf pool8 18 #[] #[{ accessFlags := 2, nameIndex := 5, descriptorIndex := 6, attributes := #[] }, { accessFlags := 8, nameIndex := 32, descriptorIndex := 33, attributes := #[] }, { accessFlags := 10, nameIndex := 21, descriptorIndex := 22, attributes := #[] }] 48 2 #[] #[])
  fields := #[]
  methods := #[k8m0, k8m1, k8m2]
  instanceTypes := #[]
  staticTypes := #[]
  resolved := Array.replicate 39 none
  statics := none }

def pool9 : Array CpInfo := pool [(3, .class_ 4), (0, u "java/lang/String"), (1, .class_ 8), (1, u "java/lang/Object"), (0, u "<init>"), (0, u "()V"), (0, .methodref 12 13), (0, .class_ 14), (0, .nameAndType 15 16), (0, u "java/lang/StringUTF16"), (0, u "newBytesLength"), (0, u "(I)I"), (3, .integer 1073741823), (23, .fieldref 12 45), (0, .nameAndType 46 47), (0, u "$assertionsDisabled"), (0, u "Z"), (0, .methodref 12 49), (0, .nameAndType 50 51), (0, u "length"), (0, u "([B)I"), (7, .fieldref 12 60), (0, .nameAndType 61 62), (0, u "HI_BYTE_SHIFT"), (0, u "I"), (0, .fieldref 12 64), (0, .nameAndType 65 62), (0, u "LO_BYTE_SHIFT"), (1, .methodref 12 68), (0, .nameAndType 69 70), (0, u "checkIndex"), (0, u "(I[B)V"), (0, .methodref 12 72), (0, .nameAndType 73 74), (0, u "getChar"), (0, u "([BI)C"), (24, u "(II[B)V"), (3, .methodref 12 104), (0, .nameAndType 105 106), (0, u "getChars"), (0, u "([BII[CI)V"), (0, .methodref 12 108), (0, .nameAndType 109 110), (0, u "newBytesFor"), (0, u "(I)[B"), (0, .methodref 12 112), (0, .nameAndType 113 114), (0, u "putChar"), (0, u "([BII)V"), (0, .methodref 12 116), (0, .nameAndType 117 118), (0, u "compress"), (0, u "([CI[BII)I"), (0, .methodref 12 120), (0, .nameAndType 121 122), (0, u "toBytes"), (0, u "([CII)[B"), (50, .methodref 12 174), (0, .nameAndType 175 99), (0, u "checkBoundsOffCount"), (85, u "coderFromArrayLen"), (0, u "([BI)B"), (18, u "(III)I"), (60, u "toChars"), (26, .class_ 371), (1, u "java/lang/StringUTF16$LinesSpliterator"), (20, u "charAt"), (21, .methodref 3 415), (0, .nameAndType 69 416), (0, u "(II)V"), (2, .methodref 3 420), (0, .nameAndType 175 281), (9, u "MAX_LENGTH"), (23, u "([B)[C"), (172, .class_ 628), (0, u "java/lang/StringUTF16$CodePointsSpliterator"), (0, .class_ 630), (0, u "java/lang/StringUTF16$CharsSpliterator")] 4

def k9m0 : Method := { name := "<init>", desc := "()V", sig := { parameters := [], returnType := none }, accessFlags := 0, code := none }
def k9c1 : Code := { maxStack := 1, maxLocals := 1, code := jdk_52_method_2_code, exceptionTable := #[], attributes := #[] }
def k9m1 : Method := { name := "newBytesFor", desc := "(I)[B", sig := { parameters := [.int], returnType := some (.array .byte) }, accessFlags := 9, code := some k9c1 }
def k9c2 : Code := { maxStack := 4, maxLocals := 1, code := jdk_52_method_3_code, exceptionTable := #[], attributes := #[] }
def k9m2 : Method := { name := "newBytesLength", desc := "(I)I", sig := { parameters := [.int], returnType := some .int }, accessFlags := 9, code := some k9c2 }
def k9c3 : Code := { maxStack := 4, maxLocals := 3, code := jdk_52_method_4_code, exceptionTable := #[], attributes := #[] }
def k9m3 : Method := { name := "putChar", desc := "([BII)V", sig := { parameters := [(.array .byte), .int, .int], returnType := none }, accessFlags := 8, code := some k9c3 }
def k9c4 : Code := { maxStack := 3, maxLocals := 2, code := jdk_52_method_5_code, exceptionTable := #[], attributes := #[] }
def k9m4 : Method := { name := "getChar", desc := "([BI)C", sig := { parameters := [(.array .byte), .int], returnType := some .char }, accessFlags := 8, code := some k9c4 }
def k9c5 : Code := { maxStack := 2, maxLocals := 1, code := jdk_52_method_6_code, exceptionTable := #[], attributes := #[] }
def k9m5 : Method := { name := "length", desc := "([B)I", sig := { parameters := [(.array .byte)], returnType := some .int }, accessFlags := 9, code := some k9c5 }
def k9c6 : Code := { maxStack := 5, maxLocals := 2, code := jdk_52_method_13_code, exceptionTable := #[], attributes := #[] }
def k9m6 : Method := { name := "toChars", desc := "([B)[C", sig := { parameters := [(.array .byte)], returnType := some (.array .char) }, accessFlags := 9, code := some k9c6 }
def k9c7 : Code := { maxStack := 4, maxLocals := 5, code := jdk_52_method_14_code, exceptionTable := #[], attributes := #[] }
def k9m7 : Method := { name := "toBytes", desc := "([CII)[B", sig := { parameters := [(.array .char), .int, .int], returnType := some (.array .byte) }, accessFlags := 9, code := some k9c7 }
def k9c8 : Code := { maxStack := 2, maxLocals := 2, code := jdk_52_method_15_code, exceptionTable := #[], attributes := #[] }
def k9m8 : Method := { name := "coderFromArrayLen", desc := "([BI)B", sig := { parameters := [(.array .byte), .int], returnType := some .byte }, accessFlags := 8, code := some k9c8 }
def k9c9 : Code := { maxStack := 5, maxLocals := 6, code := jdk_52_method_16_code, exceptionTable := #[], attributes := #[] }
def k9m9 : Method := { name := "compress", desc := "([CII)[B", sig := { parameters := [(.array .char), .int, .int], returnType := some (.array .byte) }, accessFlags := 9, code := some k9c9 }
def k9c10 : Code := { maxStack := 3, maxLocals := 7, code := jdk_52_method_21_code, exceptionTable := #[], attributes := #[] }
def k9m10 : Method := { name := "compress", desc := "([CI[BII)I", sig := { parameters := [(.array .char), .int, (.array .byte), .int, .int], returnType := some .int }, accessFlags := 9, code := some k9c10 }
def k9c11 : Code := { maxStack := 4, maxLocals := 6, code := jdk_52_method_26_code, exceptionTable := #[], attributes := #[] }
def k9m11 : Method := { name := "getChars", desc := "([BII[CI)V", sig := { parameters := [(.array .byte), .int, .int, (.array .char), .int], returnType := none }, accessFlags := 9, code := some k9c11 }
def k9c12 : Code := { maxStack := 2, maxLocals := 2, code := jdk_52_method_83_code, exceptionTable := #[], attributes := #[] }
def k9m12 : Method := { name := "charAt", desc := "([BI)C", sig := { parameters := [(.array .byte), .int], returnType := some .char }, accessFlags := 9, code := some k9c12 }
def k9c13 : Code := { maxStack := 2, maxLocals := 2, code := jdk_52_method_91_code, exceptionTable := #[], attributes := #[] }
def k9m13 : Method := { name := "checkIndex", desc := "(I[B)V", sig := { parameters := [.int, (.array .byte)], returnType := none }, accessFlags := 9, code := some k9c13 }
def k9c14 : Code := { maxStack := 3, maxLocals := 3, code := jdk_52_method_94_code, exceptionTable := #[], attributes := #[] }
def k9m14 : Method := { name := "checkBoundsOffCount", desc := "(II[B)V", sig := { parameters := [.int, .int, (.array .byte)], returnType := none }, accessFlags := 9, code := some k9c14 }
/-- java/lang/StringUTF16 -/
def k9 : Class := { plain "java/lang/StringUTF16" (some 0) with
  accessFlags := 48
  interfaces := #[]
  cf := some (fileOf pool9 12 #[.nestMembers #[627, 629, 369]] #[{ accessFlags := 0, nameIndex := 9, descriptorIndex := 10, attributes := #[] }, { accessFlags := 9, nameIndex := 109, descriptorIndex := 110, attributes := #[] }, { accessFlags := 9, nameIndex := 15, descriptorIndex := 16, attributes := #[] }, { accessFlags := 8, nameIndex := 113, descriptorIndex := 114, attributes := #[] }, { accessFlags := 8, nameIndex := 73, descriptorIndex := 74, attributes := #[] }, { accessFlags := 9, nameIndex := 50, descriptorIndex := 51, attributes := #[] }, { accessFlags := 9, nameIndex := 342, descriptorIndex := 454, attributes := #[] }, { accessFlags := 9, nameIndex := 121, descriptorIndex := 122, attributes := #[] }, { accessFlags := 8, nameIndex := 261, descriptorIndex := 262, attributes := #[] }, { accessFlags := 9, nameIndex := 117, descriptorIndex := 122, attributes := #[] }, { accessFlags := 9, nameIndex := 117, descriptorIndex := 118, attributes := #[] }, { accessFlags := 9, nameIndex := 105, descriptorIndex := 106, attributes := #[] }, { accessFlags := 9, nameIndex := 392, descriptorIndex := 74, attributes := #[] }, { accessFlags := 9, nameIndex := 69, descriptorIndex := 70, attributes := #[] }, { accessFlags := 9, nameIndex := 175, descriptorIndex := 99, attributes := #[] }] 48 6 #[] #[{ accessFlags := 26, nameIndex := 61, descriptorIndex := 62, attributes := #[] }, { accessFlags := 26, nameIndex := 65, descriptorIndex := 62, attributes := #[] }, { accessFlags := 24, nameIndex := 430, descriptorIndex := 62, attributes := #[] }, { accessFlags := 4120, nameIndex := 46, descriptorIndex := 47, attributes := #[] }])
  fields := #[{ name := "HI_BYTE_SHIFT", type := .int, accessFlags := 26, slot := 0, constantValue := 0 }, { name := "LO_BYTE_SHIFT", type := .int, accessFlags := 26, slot := 1, constantValue := 0 }, { name := "MAX_LENGTH", type := .int, accessFlags := 24, slot := 2, constantValue := 0 }, { name := "$assertionsDisabled", type := .boolean, accessFlags := 4120, slot := 3, constantValue := 0 }]
  methods := #[k9m0, k9m1, k9m2, k9m3, k9m4, k9m5, k9m6, k9m7, k9m8, k9m9, k9m10, k9m11, k9m12, k9m13, k9m14]
  instanceTypes := #[]
  staticTypes := #[.int, .int, .int, .boolean]
  resolved := Array.replicate 635 none
  statics := some 1 }

def pool10 : Array CpInfo := pool [(1, .class_ 2), (0, u "java/lang/String"), (1, .class_ 6), (1, u "java/lang/Object"), (0, u "<init>"), (0, u "()V"), (0, .methodref 1 10), (0, .nameAndType 11 12), (0, u "checkIndex"), (0, u "(II)V"), (0, .methodref 14 15), (0, .class_ 16), (0, .nameAndType 17 18), (0, u "java/lang/StringLatin1"), (0, u "inflate"), (0, u "([BI[CII)V"), (34, u "([BI)C"), (67, u "$assertionsDisabled"), (0, u "Z"), (69, u "toChars"), (28, .class_ 223), (1, u "java/lang/StringLatin1$LinesSpliterator"), (28, u "charAt"), (15, u "([B)[C"), (121, .class_ 391), (0, u "java/lang/StringLatin1$CharsSpliterator")] 3

def k10m0 : Method := { name := "<init>", desc := "()V", sig := { parameters := [], returnType := none }, accessFlags := 0, code := none }
def k10c1 : Code := { maxStack := 2, maxLocals := 2, code := jdk_43_method_2_code, exceptionTable := #[], attributes := #[] }
def k10m1 : Method := { name := "charAt", desc := "([BI)C", sig := { parameters := [(.array .byte), .int], returnType := some .char }, accessFlags := 9, code := some k10c1 }
def k10c2 : Code := { maxStack := 5, maxLocals := 2, code := jdk_43_method_9_code, exceptionTable := #[], attributes := #[] }
def k10m2 : Method := { name := "toChars", desc := "([B)[C", sig := { parameters := [(.array .byte)], returnType := some (.array .char) }, accessFlags := 9, code := some k10c2 }
def k10c3 : Code := { maxStack := 4, maxLocals := 6, code := jdk_43_method_49_code, exceptionTable := #[], attributes := #[] }
def k10m3 : Method := { name := "inflate", desc := "([BI[CII)V", sig := { parameters := [(.array .byte), .int, (.array .char), .int, .int], returnType := none }, accessFlags := 9, code := some k10c3 }
/-- java/lang/StringLatin1 -/
def k10 : Class := { plain "java/lang/StringLatin1" (some 0) with
  accessFlags := 48
  interfaces := #[]
  cf := some (fileOf pool10 14 #[.nestMembers #[390, 221]] #[{ accessFlags := 0, nameIndex := 7, descriptorIndex := 8, attributes := #[] }, { accessFlags := 9, nameIndex := 252, descriptorIndex := 53, attributes := #[] }, { accessFlags := 9, nameIndex := 192, descriptorIndex := 268, attributes := #[] }, { accessFlags := 9, nameIndex := 17, descriptorIndex := 18, attributes := #[] }] 48 4 #[] #[{ accessFlags := 4120, nameIndex := 121, descriptorIndex := 122, attributes := #[] }])
  fields := #[{ name := "$assertionsDisabled", type := .boolean, accessFlags := 4120, slot := 0, constantValue := 0 }]
  methods := #[k10m0, k10m1, k10m2, k10m3]
  instanceTypes := #[]
  staticTypes := #[.boolean]
  resolved := Array.replicate 395 none
  statics := none }

def pool11 : Array CpInfo := pool [(2, .class_ 4), (1, u "java/lang/Object"), (0, u "<init>"), (0, u "()V"), (17, .class_ 26), (1, u "jdk/internal/util/Preconditions"), (6, u "checkIndex"), (15, u "checkFromIndexSize"), (5, .class_ 56), (0, u "jdk/internal/util/Preconditions$4"), (57, .class_ 115), (0, u "jdk/internal/util/Preconditions$1"), (7, u "SIOOBE_FORMATTER"), (0, u "Ljava/util/function/BiFunction;"), (0, .class_ 126), (0, u "jdk/internal/util/Preconditions$2"), (3, u "AIOOBE_FORMATTER"), (0, .class_ 132), (0, u "jdk/internal/util/Preconditions$3"), (3, u "IOOBE_FORMATTER"), (41, u "(IILjava/util/function/BiFunction;)I"), (4, u "(IIILjava/util/function/BiFunction;)I")] 10

def k11m0 : Method := { name := "<init>", desc := "()V", sig := { parameters := [], returnType := none }, accessFlags := 1, code := none }
def k11c1 : Code := { maxStack := 3, maxLocals := 3, code := jdk_41_method_11_code, exceptionTable := #[], attributes := #[] }
def k11m1 : Method := { name := "checkIndex", desc := "(IILjava/util/function/BiFunction;)I", sig := { parameters := [.int, .int, (.object "java/util/function/BiFunction")], returnType := some .int }, accessFlags := 9, code := some k11c1 }
def k11c2 : Code := { maxStack := 4, maxLocals := 4, code := jdk_41_method_13_code, exceptionTable := #[], attributes := #[] }
def k11m2 : Method := { name := "checkFromIndexSize", desc := "(IIILjava/util/function/BiFunction;)I", sig := { parameters := [.int, .int, .int, (.object "java/util/function/BiFunction")], returnType := some .int }, accessFlags := 9, code := some k11c2 }
/-- jdk/internal/util/Preconditions -/
def k11 : Class := { plain "jdk/internal/util/Preconditions" (some 0) with
  accessFlags := 33
  interfaces := #[]
  cf := some (fileOf pool11 24 #[.nestMembers #[55, 131, 125, 114]] #[{ accessFlags := 1, nameIndex := 5, descriptorIndex := 6, attributes := #[] }, { accessFlags := 9, nameIndex := 33, descriptorIndex := 178, attributes := #[] }, { accessFlags := 9, nameIndex := 49, descriptorIndex := 183, attributes := #[] }] 33 2 #[] #[{ accessFlags := 25, nameIndex := 123, descriptorIndex := 124, attributes := #[] }, { accessFlags := 25, nameIndex := 130, descriptorIndex := 124, attributes := #[] }, { accessFlags := 25, nameIndex := 136, descriptorIndex := 124, attributes := #[] }])
  fields := #[{ name := "SIOOBE_FORMATTER", type := (.object "java/util/function/BiFunction"), accessFlags := 25, slot := 0, constantValue := 0 }, { name := "AIOOBE_FORMATTER", type := (.object "java/util/function/BiFunction"), accessFlags := 25, slot := 1, constantValue := 0 }, { name := "IOOBE_FORMATTER", type := (.object "java/util/function/BiFunction"), accessFlags := 25, slot := 2, constantValue := 0 }]
  methods := #[k11m0, k11m1, k11m2]
  instanceTypes := #[]
  staticTypes := #[(.object "java/util/function/BiFunction"), (.object "java/util/function/BiFunction"), (.object "java/util/function/BiFunction")]
  resolved := Array.replicate 194 none
  statics := some 2 }

def pool12 : Array CpInfo := pool [(9, u "<init>"), (6, .class_ 18), (1, u "java/lang/Object"), (0, u "()V"), (1, .class_ 23), (1, u "jdk/internal/util/ArraysSupport"), (0, u "LOG2_ARRAY_LONG_INDEX_SCALE"), (0, u "I"), (2, u "U"), (0, u "Ljdk/internal/misc/Unsafe;"), (8, u "BIG_ENDIAN"), (0, u "Z"), (8, u "LOG2_BYTE_BIT_SIZE"), (4, u "LOG2_ARRAY_INT_INDEX_SCALE"), (54, u "JLA"), (0, u "Ljdk/internal/access/JavaLangAccess;"), (11, u "LOG2_ARRAY_BOOLEAN_INDEX_SCALE"), (9, u "LOG2_ARRAY_BYTE_INDEX_SCALE"), (5, u "LOG2_ARRAY_CHAR_INDEX_SCALE"), (5, u "LOG2_ARRAY_SHORT_INDEX_SCALE"), (18, u "LOG2_ARRAY_FLOAT_INDEX_SCALE"), (24, u "LOG2_ARRAY_DOUBLE_INDEX_SCALE"), (89, u "T_BOOLEAN"), (2, u "T_CHAR"), (1, u "T_FLOAT"), (1, u "T_DOUBLE"), (1, u "T_BYTE"), (1, u "T_SHORT"), (1, u "T_INT"), (1, u "T_LONG"), (1, u "SOFT_MAX_ARRAY_LENGTH")] 83

def k12m0 : Method := { name := "<init>", desc := "()V", sig := { parameters := [], returnType := none }, accessFlags := 2, code := none }
/-- jdk/internal/util/ArraysSupport -/
def k12 : Class := { plain "jdk/internal/util/ArraysSupport" (some 0) with
  accessFlags := 33
  interfaces := #[]
  cf := some (fileOf pool12 21 #[] #[{ accessFlags := 2, nameIndex := 9, descriptorIndex := 19, attributes := #[] }] 33 16 #[] #[{ accessFlags := 24, nameIndex := 28, descriptorIndex := 29, attributes := #[] }, { accessFlags := 26, nameIndex := 38, descriptorIndex := 39, attributes := #[] }, { accessFlags := 25, nameIndex := 121, descriptorIndex := 25, attributes := #[] }, { accessFlags := 25, nameIndex := 131, descriptorIndex := 25, attributes := #[] }, { accessFlags := 25, nameIndex := 137, descriptorIndex := 25, attributes := #[] }, { accessFlags := 25, nameIndex := 143, descriptorIndex := 25, attributes := #[] }, { accessFlags := 25, nameIndex := 53, descriptorIndex := 25, attributes := #[] }, { accessFlags := 25, nameIndex := 24, descriptorIndex := 25, attributes := #[] }, { accessFlags := 25, nameIndex := 162, descriptorIndex := 25, attributes := #[] }, { accessFlags := 25, nameIndex := 187, descriptorIndex := 25, attributes := #[] }, { accessFlags := 26, nameIndex := 48, descriptorIndex := 25, attributes := #[] }, { accessFlags := 25, nameIndex := 277, descriptorIndex := 25, attributes := #[] }, { accessFlags := 25, nameIndex := 280, descriptorIndex := 25, attributes := #[] }, { accessFlags := 25, nameIndex := 282, descriptorIndex := 25, attributes := #[] }, { accessFlags := 25, nameIndex := 284, descriptorIndex := 25, attributes := #[] }, { accessFlags := 25, nameIndex := 286, descriptorIndex := 25, attributes := #[] }, { accessFlags := 25, nameIndex := 288, descriptorIndex := 25, attributes := #[] }, { accessFlags := 25, nameIndex := 290, descriptorIndex := 25, attributes := #[] }, { accessFlags := 25, nameIndex := 292, descriptorIndex := 25, attributes := #[] }, { accessFlags := 26, nameIndex := 108, descriptorIndex := 109, attributes := #[] }, { accessFlags := 25, nameIndex := 294, descriptorIndex := 25, attributes := #[] }])
  fields := #[{ name := "U", type := (.object "jdk/internal/misc/Unsafe"), accessFlags := 24, slot := 0, constantValue := 0 }, { name := "BIG_ENDIAN", type := .boolean, accessFlags := 26, slot := 1, constantValue := 0 }, { name := "LOG2_ARRAY_BOOLEAN_INDEX_SCALE", type := .int, accessFlags := 25, slot := 2, constantValue := 0 }, { name := "LOG2_ARRAY_BYTE_INDEX_SCALE", type := .int, accessFlags := 25, slot := 3, constantValue := 0 }, { name := "LOG2_ARRAY_CHAR_INDEX_SCALE", type := .int, accessFlags := 25, slot := 4, constantValue := 0 }, { name := "LOG2_ARRAY_SHORT_INDEX_SCALE", type := .int, accessFlags := 25, slot := 5, constantValue := 0 }, { name := "LOG2_ARRAY_INT_INDEX_SCALE", type := .int, accessFlags := 25, slot := 6, constantValue := 0 }, { name := "LOG2_ARRAY_LONG_INDEX_SCALE", type := .int, accessFlags := 25, slot := 7, constantValue := 0 }, { name := "LOG2_ARRAY_FLOAT_INDEX_SCALE", type := .int, accessFlags := 25, slot := 8, constantValue := 0 }, { name := "LOG2_ARRAY_DOUBLE_INDEX_SCALE", type := .int, accessFlags := 25, slot := 9, constantValue := 0 }, { name := "LOG2_BYTE_BIT_SIZE", type := .int, accessFlags := 26, slot := 10, constantValue := 0 }, { name := "T_BOOLEAN", type := .int, accessFlags := 25, slot := 11, constantValue := 0 }, { name := "T_CHAR", type := .int, accessFlags := 25, slot := 12, constantValue := 0 }, { name := "T_FLOAT", type := .int, accessFlags := 25, slot := 13, constantValue := 0 }, { name := "T_DOUBLE", type := .int, accessFlags := 25, slot := 14, constantValue := 0 }, { name := "T_BYTE", type := .int, accessFlags := 25, slot := 15, constantValue := 0 }, { name := "T_SHORT", type := .int, accessFlags := 25, slot := 16, constantValue := 0 }, { name := "T_INT", type := .int, accessFlags := 25, slot := 17, constantValue := 0 }, { name := "T_LONG", type := .int, accessFlags := 25, slot := 18, constantValue := 0 }, { name := "JLA", type := (.object "jdk/internal/access/JavaLangAccess"), accessFlags := 26, slot := 19, constantValue := 0 }, { name := "SOFT_MAX_ARRAY_LENGTH", type := .int, accessFlags := 25, slot := 20, constantValue := 0 }]
  methods := #[k12m0]
  instanceTypes := #[]
  staticTypes := #[(.object "jdk/internal/misc/Unsafe"), .boolean, .int, .int, .int, .int, .int, .int, .int, .int, .int, .int, .int, .int, .int, .int, .int, .int, .int, (.object "jdk/internal/access/JavaLangAccess"), .int]
  resolved := Array.replicate 378 none
  statics := none }

def pool13 : Array CpInfo := pool [(1, u "java/lang/Cloneable"), (0, .class_ 1), (0, u "java/lang/Object"), (0, .class_ 3)] 3

/-- java/lang/Cloneable -/
def k13 : Class := { plain "java/lang/Cloneable" (some 0) with
  accessFlags := 1537
  interfaces := #[]
  cf := some (fileOf pool13 2 #[] #[] 1537 4 #[] #[])
  fields := #[]
  methods := #[]
  instanceTypes := #[]
  staticTypes := #[]
  resolved := Array.replicate 8 none
  statics := none }

/-- the primitive byte -/
def k14 : Class := { plain "byte" none with kind := .primitive 'B', accessFlags := 0x411 }
/-- [B -/
def k15 : Class := { plain "[B" (some 0) with kind := .array 14 .byte, interfaces := #[13, 2], accessFlags := 1041 }

/-- the primitive char -/
def k16 : Class := { plain "char" none with kind := .primitive 'C', accessFlags := 0x411 }
/-- [C -/
def k17 : Class := { plain "[C" (some 0) with kind := .array 16 .char, interfaces := #[13, 2], accessFlags := 1041 }

/-- the primitive int -/
def k18 : Class := { plain "int" none with kind := .primitive 'I', accessFlags := 0x411 }
/-- [I -/
def k19 : Class := { plain "[I" (some 0) with kind := .array 18 .int, interfaces := #[13, 2], accessFlags := 1041 }

def heap : Heap := #[{ cls := 7, slots := #[.long 0, .int 1, .null, .int 0, .null, .int 0, .int 0], vm := .statics 7 },
  { cls := 9, slots := #[.int 0, .int 8, .int 0, .int 1], vm := .statics 9 },
  { cls := 11, slots := #[.null, .null, .null], vm := .statics 11 }]
def classes : Array Class := #[k0, k1, k2, k3, k4, k5, k6, k7, k8, k9, k10, k11, k12, k13, k14, k15, k16, k17, k18, k19]
def interned : List (Array UInt16 × Addr) := []
def slotsUsed : Nat := 14
def theMethod : MethodId := ⟨1, 1⟩
def args0 : Array Value := #[.int 5, .int 2, .int 300, .int 7]
def aboutOver (below : List Frame) : State where
  vm := { classes := classes, interned := interned.toArray }
  heap := heap
  slotsUsed := slotsUsed
  threads := #[{ frames := .invoking theMethod args0 :: below }]
def below0 : List Frame := [.native { method := ⟨0, 0⟩, args := #[] }]
def about1 : State := aboutOver below0
def p0 : Program := .bare "" "" ""
def e0 : Env := launch0.env 0 0 0
theorem w_frames : about1.frames = Frame.invoking theMethod args0 :: below0 := rfl
set_option maxRecDepth 65536 in
theorem w_args : argsFit about1.vm theMethod args0 = true := by decide +kernel
set_option maxRecDepth 65536 in
theorem w_heap : heapFits about1 = true := by decide +kernel
set_option maxRecDepth 65536 in
theorem w_runnable : about1.curStatus? = some .runnable := by decide +kernel
set_option maxRecDepth 65536 in
theorem w_alone : about1.alone = true := by decide +kernel
set_option maxRecDepth 65536 in
theorem w_named : about1.methodNamed? x = some theMethod := by decide +kernel
set_option maxRecDepth 65536 in
theorem w_hears : about1.hears theMethod below0 = true := by decide +kernel
set_option maxRecDepth 65536 in
theorem w_ripe : about1.ripe theMethod args0 below0 = true := by decide +kernel
theorem w_running : about1.status = .running := rfl
set_option maxRecDepth 65536 in
theorem w_room : about1.hasRoom e0.platform room_1 = true :=
  launch0.hasRoom_least _ room_1 (by decide +kernel) (by decide +kernel) (by decide +kernel) (by decide +kernel) (by decide +kernel) (by decide +kernel)
theorem allAtoms_all (ts : List Jvm.Cond) (a : Array Jvm.Value) (st : Jvm.State) : (allAtoms ts).before a st = ts.all (fun c => c.before a st) := by
  induction ts with
  | nil => rfl
  | cons c t ih =>
    show (Jvm.Cond.and c (allAtoms t)).before a st = _
    rw [Jvm.Cond.before_and, ih, List.all_cons]
def words1 : List Jvm.Cond := Jvm.Cond.code x code maxLocals ret :: tables_1
/-- a 'code' word, met by the world's own term for the bytes: nothing is compared byte by byte -/
theorem code_word {y : MethodName} {bytes : ByteArray} {mx : Nat} {rt : Option FieldType} {a : Array Value} {s : State} {m : MethodId} {meth : Method} {c : Code} (h1 : s.methodNamed? y = some m) (h2 : s.vm.method? m = some meth) (h3 : meth.code = some c) (h4 : c.code = bytes)
    (h5 : (c.maxLocals == mx && c.exceptionTable.isEmpty && decide (c.maxStack ≤ mostOperands) && decide (meth.sig.returnType = rt) && !meth.locks && decide (parseMethodDescriptor y.desc = some meth.sig)) = true) : (Jvm.Cond.code y bytes mx rt).before a s = true := by
  simp only [Bool.and_eq_true, beq_iff_eq, Bool.not_eq_true', decide_eq_true_eq] at h5
  obtain ⟨⟨⟨⟨⟨g1, g2⟩, g3⟩, g4⟩, g5⟩, g6⟩ := h5
  simp [Cond.before, Cond.holds, Cond.value, h1, h2, h3, h4, g1, g2, g3, g4, g5, g6]
def isCode : Jvm.Cond → Bool
  | .code _ _ _ _ => true
  | _ => false
theorem all_split {L : List Jvm.Cond} {P : Jvm.Cond → Bool} (h1 : L.all (fun c => isCode c || P c) = true) (h2 : ∀ c ∈ L.filter isCode, P c = true) : L.all P = true := by
  refine List.all_eq_true.mpr fun c hc => ?_
  have h := List.all_eq_true.mp h1 c hc
  rcases Bool.eq_false_or_eq_true (isCode c) with hi | hi
  · exact h2 c (List.mem_filter.mpr ⟨hc, hi⟩)
  · simpa [hi] using h
set_option maxRecDepth 65536 in
theorem w_c0 : (Jvm.Cond.code x code maxLocals ret).before args0 about1 = true := code_word (m := ⟨1, 1⟩) (meth := k1m1) (c := k1c1) (by decide +kernel) rfl rfl rfl (by decide +kernel)
set_option maxRecDepth 65536 in
theorem w_c1 : (Jvm.Cond.code ({ cls := "java/lang/String", name := "<init>", desc := "([C)V" } : Jvm.MethodName) jdk_42_method_3_code (2 : Nat) (Option.none : Option Jvm.ClassFile.FieldType)).before args0 about1 = true := code_word (m := ⟨7, 1⟩) (meth := k7m1) (c := k7c1) (by decide +kernel) rfl rfl rfl (by decide +kernel)
set_option maxRecDepth 65536 in
theorem w_c2 : (Jvm.Cond.code ({ cls := "java/lang/String", name := "<init>", desc := "([CIILjava/lang/Void;)V" } : Jvm.MethodName) jdk_42_method_149_code (6 : Nat) (Option.none : Option Jvm.ClassFile.FieldType)).before args0 about1 = true := code_word (m := ⟨7, 5⟩) (meth := k7m5) (c := k7c5) (by decide +kernel) rfl rfl rfl (by decide +kernel)
set_option maxRecDepth 65536 in
theorem w_c3 : (Jvm.Cond.code ({ cls := "java/lang/Object", name := "<init>", desc := "()V" } : Jvm.MethodName) object_method_1_code (1 : Nat) (Option.none : Option Jvm.ClassFile.FieldType)).before args0 about1 = true := code_word (m := ⟨0, 0⟩) (meth := k0m0) (c := k0c0) (by decide +kernel) rfl rfl rfl (by decide +kernel)
set_option maxRecDepth 65536 in
theorem w_c4 : (Jvm.Cond.code ({ cls := "com/example/rubrique/rubrique/cli/OneLine", name := "of", desc := "(Ljava/lang/String;)Ljava/lang/String;" } : Jvm.MethodName) prog_16_method_2_code (4 : Nat) (Option.some (Jvm.ClassFile.FieldType.object "java/lang/String"))).before args0 about1 = true := code_word (m := ⟨8, 1⟩) (meth := k8m1) (c := k8c1) (by decide +kernel) rfl rfl rfl (by decide +kernel)
set_option maxRecDepth 65536 in
theorem w_c5 : (Jvm.Cond.code ({ cls := "java/lang/String", name := "length", desc := "()I" } : Jvm.MethodName) jdk_42_method_54_code (1 : Nat) (Option.some Jvm.ClassFile.FieldType.int)).before args0 about1 = true := code_word (m := ⟨7, 2⟩) (meth := k7m2) (c := k7c2) (by decide +kernel) rfl rfl rfl (by decide +kernel)
set_option maxRecDepth 65536 in
theorem w_c6 : (Jvm.Cond.code ({ cls := "java/lang/String", name := "coder", desc := "()B" } : Jvm.MethodName) jdk_42_method_152_code (1 : Nat) (Option.some Jvm.ClassFile.FieldType.byte)).before args0 about1 = true := code_word (m := ⟨7, 6⟩) (meth := k7m6) (c := k7c6) (by decide +kernel) rfl rfl rfl (by decide +kernel)
set_option maxRecDepth 65536 in
theorem w_c7 : (Jvm.Cond.code ({ cls := "java/lang/StringUTF16", name := "compress", desc := "([CII)[B" } : Jvm.MethodName) jdk_52_method_16_code (6 : Nat) (Option.some (Jvm.ClassFile.FieldType.array Jvm.ClassFile.FieldType.byte))).before args0 about1 = true := code_word (m := ⟨9, 9⟩) (meth := k9m9) (c := k9c9) (by decide +kernel) rfl rfl rfl (by decide +kernel)
set_option maxRecDepth 65536 in
theorem w_c8 : (Jvm.Cond.code ({ cls := "java/lang/StringUTF16", name := "compress", desc := "([CI[BII)I" } : Jvm.MethodName) jdk_52_method_21_code (7 : Nat) (Option.some Jvm.ClassFile.FieldType.int)).before args0 about1 = true := code_word (m := ⟨9, 10⟩) (meth := k9m10) (c := k9c10) (by decide +kernel) rfl rfl rfl (by decide +kernel)
set_option maxRecDepth 65536 in
theorem w_c9 : (Jvm.Cond.code ({ cls := "java/lang/StringUTF16", name := "coderFromArrayLen", desc := "([BI)B" } : Jvm.MethodName) jdk_52_method_15_code (2 : Nat) (Option.some Jvm.ClassFile.FieldType.byte)).before args0 about1 = true := code_word (m := ⟨9, 8⟩) (meth := k9m8) (c := k9c8) (by decide +kernel) rfl rfl rfl (by decide +kernel)
set_option maxRecDepth 65536 in
theorem w_c10 : (Jvm.Cond.code ({ cls := "java/lang/String", name := "charAt", desc := "(I)C" } : Jvm.MethodName) jdk_42_method_56_code (2 : Nat) (Option.some Jvm.ClassFile.FieldType.char)).before args0 about1 = true := code_word (m := ⟨7, 3⟩) (meth := k7m3) (c := k7c3) (by decide +kernel) rfl rfl rfl (by decide +kernel)
set_option maxRecDepth 65536 in
theorem w_c11 : (Jvm.Cond.code ({ cls := "java/lang/String", name := "isLatin1", desc := "()Z" } : Jvm.MethodName) jdk_42_method_154_code (1 : Nat) (Option.some Jvm.ClassFile.FieldType.boolean)).before args0 about1 = true := code_word (m := ⟨7, 7⟩) (meth := k7m7) (c := k7c7) (by decide +kernel) rfl rfl rfl (by decide +kernel)
set_option maxRecDepth 65536 in
theorem w_c12 : (Jvm.Cond.code ({ cls := "java/lang/StringLatin1", name := "charAt", desc := "([BI)C" } : Jvm.MethodName) jdk_43_method_2_code (2 : Nat) (Option.some Jvm.ClassFile.FieldType.char)).before args0 about1 = true := code_word (m := ⟨10, 1⟩) (meth := k10m1) (c := k10c1) (by decide +kernel) rfl rfl rfl (by decide +kernel)
set_option maxRecDepth 65536 in
theorem w_c13 : (Jvm.Cond.code ({ cls := "java/lang/String", name := "checkIndex", desc := "(II)V" } : Jvm.MethodName) jdk_42_method_155_code (2 : Nat) (Option.none : Option Jvm.ClassFile.FieldType)).before args0 about1 = true := code_word (m := ⟨7, 8⟩) (meth := k7m8) (c := k7c8) (by decide +kernel) rfl rfl rfl (by decide +kernel)
set_option maxRecDepth 65536 in
theorem w_c14 : (Jvm.Cond.code ({ cls := "jdk/internal/util/Preconditions", name := "checkIndex", desc := "(IILjava/util/function/BiFunction;)I" } : Jvm.MethodName) jdk_41_method_11_code (3 : Nat) (Option.some Jvm.ClassFile.FieldType.int)).before args0 about1 = true := code_word (m := ⟨11, 1⟩) (meth := k11m1) (c := k11c1) (by decide +kernel) rfl rfl rfl (by decide +kernel)
set_option maxRecDepth 65536 in
theorem w_c15 : (Jvm.Cond.code ({ cls := "com/example/rubrique/rubrique/cli/OneLine", name := "breaksLine", desc := "(C)Z" } : Jvm.MethodName) prog_16_method_3_code (1 : Nat) (Option.some Jvm.ClassFile.FieldType.boolean)).before args0 about1 = true := code_word (m := ⟨8, 2⟩) (meth := k8m2) (c := k8c2) (by decide +kernel) rfl rfl rfl (by decide +kernel)
set_option maxRecDepth 65536 in
theorem w_c16 : (Jvm.Cond.code ({ cls := "com/example/rubrique/rubrique/cli/OneLineOfPinLaw", name := "expected", desc := "(C)C" } : Jvm.MethodName) method_4_code (1 : Nat) (Option.some Jvm.ClassFile.FieldType.char)).before args0 about1 = true := code_word (m := ⟨1, 3⟩) (meth := k1m3) (c := k1c3) (by decide +kernel) rfl rfl rfl (by decide +kernel)
set_option maxRecDepth 65536 in
theorem w_c17 : (Jvm.Cond.code ({ cls := "com/example/rubrique/rubrique/cli/OneLineOfPinLaw", name := "isBreak", desc := "(C)Z" } : Jvm.MethodName) method_3_code (2 : Nat) (Option.some Jvm.ClassFile.FieldType.boolean)).before args0 about1 = true := code_word (m := ⟨1, 2⟩) (meth := k1m2) (c := k1c2) (by decide +kernel) rfl rfl rfl (by decide +kernel)
set_option maxRecDepth 65536 in
theorem w_c18 : (Jvm.Cond.code ({ cls := "java/lang/StringUTF16", name := "toBytes", desc := "([CII)[B" } : Jvm.MethodName) jdk_52_method_14_code (5 : Nat) (Option.some (Jvm.ClassFile.FieldType.array Jvm.ClassFile.FieldType.byte))).before args0 about1 = true := code_word (m := ⟨9, 7⟩) (meth := k9m7) (c := k9c7) (by decide +kernel) rfl rfl rfl (by decide +kernel)
set_option maxRecDepth 65536 in
theorem w_c19 : (Jvm.Cond.code ({ cls := "java/lang/StringUTF16", name := "newBytesFor", desc := "(I)[B" } : Jvm.MethodName) jdk_52_method_2_code (1 : Nat) (Option.some (Jvm.ClassFile.FieldType.array Jvm.ClassFile.FieldType.byte))).before args0 about1 = true := code_word (m := ⟨9, 1⟩) (meth := k9m1) (c := k9c1) (by decide +kernel) rfl rfl rfl (by decide +kernel)
set_option maxRecDepth 65536 in
theorem w_c20 : (Jvm.Cond.code ({ cls := "java/lang/StringUTF16", name := "newBytesLength", desc := "(I)I" } : Jvm.MethodName) jdk_52_method_3_code (1 : Nat) (Option.some Jvm.ClassFile.FieldType.int)).before args0 about1 = true := code_word (m := ⟨9, 2⟩) (meth := k9m2) (c := k9c2) (by decide +kernel) rfl rfl rfl (by decide +kernel)
set_option maxRecDepth 65536 in
theorem w_c21 : (Jvm.Cond.code ({ cls := "java/lang/StringUTF16", name := "putChar", desc := "([BII)V" } : Jvm.MethodName) jdk_52_method_4_code (3 : Nat) (Option.none : Option Jvm.ClassFile.FieldType)).before args0 about1 = true := code_word (m := ⟨9, 3⟩) (meth := k9m3) (c := k9c3) (by decide +kernel) rfl rfl rfl (by decide +kernel)
set_option maxRecDepth 65536 in
theorem w_c22 : (Jvm.Cond.code ({ cls := "java/lang/StringUTF16", name := "getChar", desc := "([BI)C" } : Jvm.MethodName) jdk_52_method_5_code (2 : Nat) (Option.some Jvm.ClassFile.FieldType.char)).before args0 about1 = true := code_word (m := ⟨9, 4⟩) (meth := k9m4) (c := k9c4) (by decide +kernel) rfl rfl rfl (by decide +kernel)
set_option maxRecDepth 65536 in
theorem w_c23 : (Jvm.Cond.code ({ cls := "java/lang/StringUTF16", name := "charAt", desc := "([BI)C" } : Jvm.MethodName) jdk_52_method_83_code (2 : Nat) (Option.some Jvm.ClassFile.FieldType.char)).before args0 about1 = true := code_word (m := ⟨9, 12⟩) (meth := k9m12) (c := k9c12) (by decide +kernel) rfl rfl rfl (by decide +kernel)
set_option maxRecDepth 65536 in
theorem w_c24 : (Jvm.Cond.code ({ cls := "java/lang/StringUTF16", name := "checkIndex", desc := "(I[B)V" } : Jvm.MethodName) jdk_52_method_91_code (2 : Nat) (Option.none : Option Jvm.ClassFile.FieldType)).before args0 about1 = true := code_word (m := ⟨9, 13⟩) (meth := k9m13) (c := k9c13) (by decide +kernel) rfl rfl rfl (by decide +kernel)
set_option maxRecDepth 65536 in
theorem w_c25 : (Jvm.Cond.code ({ cls := "java/lang/StringUTF16", name := "length", desc := "([B)I" } : Jvm.MethodName) jdk_52_method_6_code (1 : Nat) (Option.some Jvm.ClassFile.FieldType.int)).before args0 about1 = true := code_word (m := ⟨9, 5⟩) (meth := k9m5) (c := k9c5) (by decide +kernel) rfl rfl rfl (by decide +kernel)
set_option maxRecDepth 65536 in
theorem w_c26 : (Jvm.Cond.code ({ cls := "java/lang/String", name := "toCharArray", desc := "()[C" } : Jvm.MethodName) jdk_42_method_129_code (1 : Nat) (Option.some (Jvm.ClassFile.FieldType.array Jvm.ClassFile.FieldType.char))).before args0 about1 = true := code_word (m := ⟨7, 4⟩) (meth := k7m4) (c := k7c4) (by decide +kernel) rfl rfl rfl (by decide +kernel)
set_option maxRecDepth 65536 in
theorem w_c27 : (Jvm.Cond.code ({ cls := "java/lang/StringLatin1", name := "toChars", desc := "([B)[C" } : Jvm.MethodName) jdk_43_method_9_code (2 : Nat) (Option.some (Jvm.ClassFile.FieldType.array Jvm.ClassFile.FieldType.char))).before args0 about1 = true := code_word (m := ⟨10, 2⟩) (meth := k10m2) (c := k10c2) (by decide +kernel) rfl rfl rfl (by decide +kernel)
set_option maxRecDepth 65536 in
theorem w_c28 : (Jvm.Cond.code ({ cls := "java/lang/StringLatin1", name := "inflate", desc := "([BI[CII)V" } : Jvm.MethodName) jdk_43_method_49_code (6 : Nat) (Option.none : Option Jvm.ClassFile.FieldType)).before args0 about1 = true := code_word (m := ⟨10, 3⟩) (meth := k10m3) (c := k10c3) (by decide +kernel) rfl rfl rfl (by decide +kernel)
set_option maxRecDepth 65536 in
theorem w_c29 : (Jvm.Cond.code ({ cls := "java/lang/StringUTF16", name := "toChars", desc := "([B)[C" } : Jvm.MethodName) jdk_52_method_13_code (2 : Nat) (Option.some (Jvm.ClassFile.FieldType.array Jvm.ClassFile.FieldType.char))).before args0 about1 = true := code_word (m := ⟨9, 6⟩) (meth := k9m6) (c := k9c6) (by decide +kernel) rfl rfl rfl (by decide +kernel)
set_option maxRecDepth 65536 in
theorem w_c30 : (Jvm.Cond.code ({ cls := "java/lang/StringUTF16", name := "getChars", desc := "([BII[CI)V" } : Jvm.MethodName) jdk_52_method_26_code (6 : Nat) (Option.none : Option Jvm.ClassFile.FieldType)).before args0 about1 = true := code_word (m := ⟨9, 11⟩) (meth := k9m11) (c := k9c11) (by decide +kernel) rfl rfl rfl (by decide +kernel)
set_option maxRecDepth 65536 in
theorem w_c31 : (Jvm.Cond.code ({ cls := "java/lang/StringUTF16", name := "checkBoundsOffCount", desc := "(II[B)V" } : Jvm.MethodName) jdk_52_method_94_code (3 : Nat) (Option.none : Option Jvm.ClassFile.FieldType)).before args0 about1 = true := code_word (m := ⟨9, 14⟩) (meth := k9m14) (c := k9c14) (by decide +kernel) rfl rfl rfl (by decide +kernel)
set_option maxRecDepth 65536 in
theorem w_c32 : (Jvm.Cond.code ({ cls := "java/lang/String", name := "checkBoundsOffCount", desc := "(III)I" } : Jvm.MethodName) jdk_42_method_157_code (3 : Nat) (Option.some Jvm.ClassFile.FieldType.int)).before args0 about1 = true := code_word (m := ⟨7, 9⟩) (meth := k7m9) (c := k7c9) (by decide +kernel) rfl rfl rfl (by decide +kernel)
set_option maxRecDepth 65536 in
theorem w_c33 : (Jvm.Cond.code ({ cls := "jdk/internal/util/Preconditions", name := "checkFromIndexSize", desc := "(IIILjava/util/function/BiFunction;)I" } : Jvm.MethodName) jdk_41_method_13_code (4 : Nat) (Option.some Jvm.ClassFile.FieldType.int)).before args0 about1 = true := code_word (m := ⟨11, 2⟩) (meth := k11m2) (c := k11c2) (by decide +kernel) rfl rfl rfl (by decide +kernel)
def codes1 : List Jvm.Cond := [Jvm.Cond.code x code maxLocals ret, Jvm.Cond.code ({ cls := "java/lang/String", name := "<init>", desc := "([C)V" } : Jvm.MethodName) jdk_42_method_3_code (2 : Nat) (Option.none : Option Jvm.ClassFile.FieldType), Jvm.Cond.code ({ cls := "java/lang/String", name := "<init>", desc := "([CIILjava/lang/Void;)V" } : Jvm.MethodName) jdk_42_method_149_code (6 : Nat) (Option.none : Option Jvm.ClassFile.FieldType), Jvm.Cond.code ({ cls := "java/lang/Object", name := "<init>", desc := "()V" } : Jvm.MethodName) object_method_1_code (1 : Nat) (Option.none : Option Jvm.ClassFile.FieldType), Jvm.Cond.code ({ cls := "com/example/rubrique/rubrique/cli/OneLine", name := "of", desc := "(Ljava/lang/String;)Ljava/lang/String;" } : Jvm.MethodName) prog_16_method_2_code (4 : Nat) (Option.some (Jvm.ClassFile.FieldType.object "java/lang/String")), Jvm.Cond.code ({ cls := "java/lang/String", name := "length", desc := "()I" } : Jvm.MethodName) jdk_42_method_54_code (1 : Nat) (Option.some Jvm.ClassFile.FieldType.int), Jvm.Cond.code ({ cls := "java/lang/String", name := "coder", desc := "()B" } : Jvm.MethodName) jdk_42_method_152_code (1 : Nat) (Option.some Jvm.ClassFile.FieldType.byte), Jvm.Cond.code ({ cls := "java/lang/StringUTF16", name := "compress", desc := "([CII)[B" } : Jvm.MethodName) jdk_52_method_16_code (6 : Nat) (Option.some (Jvm.ClassFile.FieldType.array Jvm.ClassFile.FieldType.byte)), Jvm.Cond.code ({ cls := "java/lang/StringUTF16", name := "compress", desc := "([CI[BII)I" } : Jvm.MethodName) jdk_52_method_21_code (7 : Nat) (Option.some Jvm.ClassFile.FieldType.int), Jvm.Cond.code ({ cls := "java/lang/StringUTF16", name := "coderFromArrayLen", desc := "([BI)B" } : Jvm.MethodName) jdk_52_method_15_code (2 : Nat) (Option.some Jvm.ClassFile.FieldType.byte), Jvm.Cond.code ({ cls := "java/lang/String", name := "charAt", desc := "(I)C" } : Jvm.MethodName) jdk_42_method_56_code (2 : Nat) (Option.some Jvm.ClassFile.FieldType.char), Jvm.Cond.code ({ cls := "java/lang/String", name := "isLatin1", desc := "()Z" } : Jvm.MethodName) jdk_42_method_154_code (1 : Nat) (Option.some Jvm.ClassFile.FieldType.boolean), Jvm.Cond.code ({ cls := "java/lang/StringLatin1", name := "charAt", desc := "([BI)C" } : Jvm.MethodName) jdk_43_method_2_code (2 : Nat) (Option.some Jvm.ClassFile.FieldType.char), Jvm.Cond.code ({ cls := "java/lang/String", name := "checkIndex", desc := "(II)V" } : Jvm.MethodName) jdk_42_method_155_code (2 : Nat) (Option.none : Option Jvm.ClassFile.FieldType), Jvm.Cond.code ({ cls := "jdk/internal/util/Preconditions", name := "checkIndex", desc := "(IILjava/util/function/BiFunction;)I" } : Jvm.MethodName) jdk_41_method_11_code (3 : Nat) (Option.some Jvm.ClassFile.FieldType.int), Jvm.Cond.code ({ cls := "com/example/rubrique/rubrique/cli/OneLine", name := "breaksLine", desc := "(C)Z" } : Jvm.MethodName) prog_16_method_3_code (1 : Nat) (Option.some Jvm.ClassFile.FieldType.boolean), Jvm.Cond.code ({ cls := "com/example/rubrique/rubrique/cli/OneLineOfPinLaw", name := "expected", desc := "(C)C" } : Jvm.MethodName) method_4_code (1 : Nat) (Option.some Jvm.ClassFile.FieldType.char), Jvm.Cond.code ({ cls := "com/example/rubrique/rubrique/cli/OneLineOfPinLaw", name := "isBreak", desc := "(C)Z" } : Jvm.MethodName) method_3_code (2 : Nat) (Option.some Jvm.ClassFile.FieldType.boolean), Jvm.Cond.code ({ cls := "java/lang/StringUTF16", name := "toBytes", desc := "([CII)[B" } : Jvm.MethodName) jdk_52_method_14_code (5 : Nat) (Option.some (Jvm.ClassFile.FieldType.array Jvm.ClassFile.FieldType.byte)), Jvm.Cond.code ({ cls := "java/lang/StringUTF16", name := "newBytesFor", desc := "(I)[B" } : Jvm.MethodName) jdk_52_method_2_code (1 : Nat) (Option.some (Jvm.ClassFile.FieldType.array Jvm.ClassFile.FieldType.byte)), Jvm.Cond.code ({ cls := "java/lang/StringUTF16", name := "newBytesLength", desc := "(I)I" } : Jvm.MethodName) jdk_52_method_3_code (1 : Nat) (Option.some Jvm.ClassFile.FieldType.int), Jvm.Cond.code ({ cls := "java/lang/StringUTF16", name := "putChar", desc := "([BII)V" } : Jvm.MethodName) jdk_52_method_4_code (3 : Nat) (Option.none : Option Jvm.ClassFile.FieldType), Jvm.Cond.code ({ cls := "java/lang/StringUTF16", name := "getChar", desc := "([BI)C" } : Jvm.MethodName) jdk_52_method_5_code (2 : Nat) (Option.some Jvm.ClassFile.FieldType.char), Jvm.Cond.code ({ cls := "java/lang/StringUTF16", name := "charAt", desc := "([BI)C" } : Jvm.MethodName) jdk_52_method_83_code (2 : Nat) (Option.some Jvm.ClassFile.FieldType.char), Jvm.Cond.code ({ cls := "java/lang/StringUTF16", name := "checkIndex", desc := "(I[B)V" } : Jvm.MethodName) jdk_52_method_91_code (2 : Nat) (Option.none : Option Jvm.ClassFile.FieldType), Jvm.Cond.code ({ cls := "java/lang/StringUTF16", name := "length", desc := "([B)I" } : Jvm.MethodName) jdk_52_method_6_code (1 : Nat) (Option.some Jvm.ClassFile.FieldType.int), Jvm.Cond.code ({ cls := "java/lang/String", name := "toCharArray", desc := "()[C" } : Jvm.MethodName) jdk_42_method_129_code (1 : Nat) (Option.some (Jvm.ClassFile.FieldType.array Jvm.ClassFile.FieldType.char)), Jvm.Cond.code ({ cls := "java/lang/StringLatin1", name := "toChars", desc := "([B)[C" } : Jvm.MethodName) jdk_43_method_9_code (2 : Nat) (Option.some (Jvm.ClassFile.FieldType.array Jvm.ClassFile.FieldType.char)), Jvm.Cond.code ({ cls := "java/lang/StringLatin1", name := "inflate", desc := "([BI[CII)V" } : Jvm.MethodName) jdk_43_method_49_code (6 : Nat) (Option.none : Option Jvm.ClassFile.FieldType), Jvm.Cond.code ({ cls := "java/lang/StringUTF16", name := "toChars", desc := "([B)[C" } : Jvm.MethodName) jdk_52_method_13_code (2 : Nat) (Option.some (Jvm.ClassFile.FieldType.array Jvm.ClassFile.FieldType.char)), Jvm.Cond.code ({ cls := "java/lang/StringUTF16", name := "getChars", desc := "([BII[CI)V" } : Jvm.MethodName) jdk_52_method_26_code (6 : Nat) (Option.none : Option Jvm.ClassFile.FieldType), Jvm.Cond.code ({ cls := "java/lang/StringUTF16", name := "checkBoundsOffCount", desc := "(II[B)V" } : Jvm.MethodName) jdk_52_method_94_code (3 : Nat) (Option.none : Option Jvm.ClassFile.FieldType), Jvm.Cond.code ({ cls := "java/lang/String", name := "checkBoundsOffCount", desc := "(III)I" } : Jvm.MethodName) jdk_42_method_157_code (3 : Nat) (Option.some Jvm.ClassFile.FieldType.int), Jvm.Cond.code ({ cls := "jdk/internal/util/Preconditions", name := "checkFromIndexSize", desc := "(IIILjava/util/function/BiFunction;)I" } : Jvm.MethodName) jdk_41_method_13_code (4 : Nat) (Option.some Jvm.ClassFile.FieldType.int)]
set_option maxRecDepth 65536 in
theorem codes_eq : words1.filter isCode = codes1 := rfl
theorem w_codes : ∀ c ∈ words1.filter isCode, c.before args0 about1 = true := by
  rw [codes_eq]
  intro c hc
  simp only [codes1, List.mem_cons, List.not_mem_nil, or_false] at hc
  rcases hc with rfl | rfl | rfl | rfl | rfl | rfl | rfl | rfl | rfl | rfl | rfl | rfl | rfl | rfl | rfl | rfl | rfl | rfl | rfl | rfl | rfl | rfl | rfl | rfl | rfl | rfl | rfl | rfl | rfl | rfl | rfl | rfl | rfl | rfl
  · exact w_c0
  · exact w_c1
  · exact w_c2
  · exact w_c3
  · exact w_c4
  · exact w_c5
  · exact w_c6
  · exact w_c7
  · exact w_c8
  · exact w_c9
  · exact w_c10
  · exact w_c11
  · exact w_c12
  · exact w_c13
  · exact w_c14
  · exact w_c15
  · exact w_c16
  · exact w_c17
  · exact w_c18
  · exact w_c19
  · exact w_c20
  · exact w_c21
  · exact w_c22
  · exact w_c23
  · exact w_c24
  · exact w_c25
  · exact w_c26
  · exact w_c27
  · exact w_c28
  · exact w_c29
  · exact w_c30
  · exact w_c31
  · exact w_c32
  · exact w_c33
set_option maxRecDepth 65536 in
theorem w_t1 : (words1.take 24).all (fun c => isCode c || c.before args0 about1) = true := by decide +kernel
set_option maxRecDepth 65536 in
theorem w_t2 : ((words1.drop 24).take 24).all (fun c => isCode c || c.before args0 about1) = true := by decide +kernel
set_option maxRecDepth 65536 in
theorem w_t3 : (((words1.drop 24).drop 24).take 24).all (fun c => isCode c || c.before args0 about1) = true := by decide +kernel
set_option maxRecDepth 65536 in
theorem w_t4 : ((((words1.drop 24).drop 24).drop 24).take 24).all (fun c => isCode c || c.before args0 about1) = true := by decide +kernel
set_option maxRecDepth 65536 in
theorem w_t5 : (((((words1.drop 24).drop 24).drop 24).drop 24).take 24).all (fun c => isCode c || c.before args0 about1) = true := by decide +kernel
set_option maxRecDepth 65536 in
theorem w_t6 : (((((words1.drop 24).drop 24).drop 24).drop 24).drop 24).all (fun c => isCode c || c.before args0 about1) = true := by decide +kernel
theorem w_tables : (allAtoms (Jvm.Cond.code x code maxLocals ret :: tables_1)).before args0 about1 = true := by
  rw [allAtoms_all]
  show words1.all (fun c => c.before args0 about1) = true
  refine all_split ?_ w_codes
  rw [← List.take_append_drop 24 words1, List.all_append, w_t1, ← List.take_append_drop 24 (words1.drop 24), List.all_append, w_t2, ← List.take_append_drop 24 ((words1.drop 24).drop 24), List.all_append, w_t3, ← List.take_append_drop 24 (((words1.drop 24).drop 24).drop 24), List.all_append, w_t4, ← List.take_append_drop 24 ((((words1.drop 24).drop 24).drop 24).drop 24), List.all_append, w_t5, w_t6]
  rfl
set_option maxRecDepth 65536 in
theorem w_rest : rest_1_c.before args0 about1 = true := by decide +kernel
set_option maxRecDepth 65536 in
theorem w_case : (Jvm.Cond.and given_1 narrow_1).before args0 about1 = true := by decide +kernel
set_option maxRecDepth 65536 in
theorem w_consts : constsHeld consts_1 about1 := Jvm.Lit.constsHeldB_iff.mp (by decide +kernel)
theorem w_applies : (headSpec (Jvm.Cond.code x code maxLocals ret :: tables_1) room_1).applies x e0.platform about1 = true :=
  (Spec.applies_iff w_frames).mpr ⟨w_running, w_runnable, w_alone, w_named, w_hears, w_ripe, w_room, w_tables⟩
theorem atStart : AtStart classFile x code maxLocals ret World_1 tables_1 room_1 Calls_1 rest_1 Pre_1 launch0 p0 e0 about1 theMethod args0 below0 :=
  ⟨lists_1, trivial, launch0.admits_env _ _ _, launch0.least_env, fairChoices_fair.cas, fairChoices_fair.clock, w_frames, w_args, w_heap, w_applies, ⟨w_consts, trivial⟩, w_rest, w_case⟩
end start1
theorem witness_1 : WitnessClaimed_1 := ⟨start1.p0, start1.e0, start1.about1, start1.theMethod, start1.args0, start1.below0, start1.atStart⟩
end Jvm.Pilot.@@N@@
