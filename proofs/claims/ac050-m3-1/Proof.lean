import JvmDerived
import JvmDerived.Pilot.@@N@@Statement
import JvmDerived.Pilot.@@N@@Code
set_option linter.unusedVariables false
set_option linter.unusedSimpArgs false
@@BLOCK:NumsL.lean.txt@@
namespace Jvm.RoadKit
open Sem ClassFile Op Lib Jvm.Stand Jvm.Free Jvm.LawKit
section New
variable {p : Program} {l : Launch} {e : Env} {R : Room} {s : State} {m : MethodId} {args : Array Value} {below : List Frame} {meth : Method} {c : Code} {T : State} {locs : List Loc} {cells slots : Nat}
theorem retI (X : Stand p l e R s m args below meth c T locs cells slots) (hx : p.tables.exec = Jvm.exec) {pc : Nat} {Ls : Array Slot} {z : Int32} {rest : List Value} (hret : meth.sig.returnType = some .int) (hd : decode c.code pc = .ok (.ireturn, 1)) {fs : List Frame}
    (hl : ∀ (f : JFrame) (acts : List Action), f.method = m → f.locked = none → f.entered = [] → (doReturn e (T.setTop f) acts (some (.int z))).1 = T.setFrames fs) : Steps p.tables e below (T.setTop (mkF m pc Ls (.int z :: rest))) (T.setFrames fs) := by
  have hm' : T.vm.method? m = some meth := X.method'
  have hn : narrow .int (.int z) = .int z := rfl
  show Steps p.tables e below (T.setTop { method := m, pc := pc, locals := Ls, stack := _ :: rest, locked := none }) _
  jvm_step X.here [X.here.top, hx, hd, hm', hret, hn]
  first | (intro acts; rw [hl _ acts rfl rfl rfl]) | rw [hl _ _ rfl rfl rfl]
  exact Steps.refl _
end New
end Jvm.RoadKit
namespace Jvm.Pilot.@@N@@
open Jvm Jvm.ClassFile Sem Op Lib Jvm.Free Jvm.Stand Jvm.LawKit Jvm.RoadKit Bundle Jvm.Pilot.@@N@@.Jvm.D
def own_Q (r : Option Value) (h0 : Heap) (n0 : Nat) (v : Option Value) (h : Heap) (L : List Loc) : Prop := v = r ∧ Fr n0 L ∧ h = h0
set_option maxRecDepth 65536
set_option maxHeartbeats 40000000
theorem own_w {a0 : Array Value} {Z : State} (hw : ∀ d ∈ tables_1, d.before a0 Z = true) {d : Jvm.Cond} (i : Nat) (h : tables_1[i]? = some d) : d.before a0 Z = true := hw _ (List.mem_of_getElem? h)
theorem own_pre {tb : Tables} {e : Env} {below : List Frame} {T : State} {f g : JFrame} (h : f = g) : ∀ t, Steps tb e below (T.setTop g) t → Steps tb e below (T.setTop f) t := fun t k => castTop h k
abbrev own_HW (a0 : Array Value) (Z : State) : Prop := ∀ d ∈ tables_1, d.before a0 Z = true
abbrev own_M (l : Launch) (x : MethodName) (S : Spec) (A : Array Value) (Z : State) (h0 : Heap) (n0 : Nat) (Q : Heap → Nat → Option Value → Heap → List Loc → Prop) (k n : Nat) : Prop := MetFree l x S (fun a U => a = A ∧ Z.Warmed39 U.vm ∧ U.heap = h0) (fun _ _ _ _ _ => True) (fun _ U o U' => ∃ v L, o = .returned v ∧ Q h0 n0 v U'.heap L ∧ FrameEnd U o U' L k n)
abbrev vI (x : Int32) : Slot := .val (.int x)
abbrev vR (a : Addr) : Slot := .val (.ref a)
abbrev own_St (p : Program) (e : Env) (below : List Frame) (T : State) (m : MethodId) (pc : Nat) (L : Array Slot) (S : List Value) (t : State) : Prop := Steps p.tables e below (T.setTop (mkF m pc L S)) t
abbrev own_rm_ (f c s l : Nat) : Room := { frames := f, cells := c, slots := s, locals := l }
abbrev Y0_ : MethodName := ⟨"java/lang/StringUTF16", "compress", "([CI[BII)I"⟩
abbrev Y1_ : MethodName := ⟨"java/lang/StringUTF16", "newBytesLength", "(I)I"⟩
abbrev Y2_ : MethodName := ⟨"java/lang/StringUTF16", "putChar", "([BII)V"⟩
abbrev Y3_ : MethodName := ⟨"java/lang/StringUTF16", "newBytesFor", "(I)[B"⟩
abbrev Y4_ : MethodName := ⟨"java/lang/StringUTF16", "toBytes", "([CII)[B"⟩
abbrev Y5_ : MethodName := ⟨"jdk/internal/util/Preconditions", "checkIndex", "(IILjava/util/function/BiFunction;)I"⟩
abbrev Y6_ : MethodName := ⟨"java/lang/String", "checkIndex", "(II)V"⟩
abbrev Y7_ : MethodName := ⟨"java/lang/StringUTF16", "getChar", "([BI)C"⟩
abbrev Y8_ : MethodName := ⟨"java/lang/StringUTF16", "length", "([B)I"⟩
abbrev Y9_ : MethodName := ⟨"java/lang/StringUTF16", "checkIndex", "(I[B)V"⟩
abbrev Y10_ : MethodName := ⟨"java/lang/StringUTF16", "charAt", "([BI)C"⟩
abbrev Y11_ : MethodName := ⟨"java/lang/StringLatin1", "charAt", "([BI)C"⟩
abbrev Y12_ : MethodName := ⟨"java/lang/StringUTF16", "compress", "([CII)[B"⟩
abbrev Y13_ : MethodName := ⟨"java/lang/StringUTF16", "coderFromArrayLen", "([BI)B"⟩
abbrev Y14_ : MethodName := ⟨"java/lang/String", "<init>", "([CIILjava/lang/Void;)V"⟩
abbrev Y15_ : MethodName := ⟨"java/lang/String", "<init>", "([C)V"⟩
abbrev Y16_ : MethodName := ⟨"java/lang/String", "coder", "()B"⟩
abbrev Y17_ : MethodName := ⟨"java/lang/String", "isLatin1", "()Z"⟩
abbrev Y18_ : MethodName := ⟨"java/lang/String", "length", "()I"⟩
abbrev Y19_ : MethodName := ⟨"java/lang/String", "charAt", "(I)C"⟩
abbrev Y20_ : MethodName := ⟨"java/lang/Math", "min", "(II)I"⟩
abbrev Y21_ : MethodName := ⟨"java/lang/Math", "max", "(II)I"⟩
abbrev Y22_ : MethodName := ⟨"jdk/internal/util/Preconditions", "checkFromIndexSize", "(IIILjava/util/function/BiFunction;)I"⟩
abbrev Y23_ : MethodName := ⟨"java/lang/String", "checkBoundsOffCount", "(III)I"⟩
abbrev Y24_ : MethodName := ⟨"java/lang/StringUTF16", "checkBoundsOffCount", "(II[B)V"⟩
abbrev Y25_ : MethodName := ⟨"jdk/internal/util/Preconditions", "checkFromToIndex", "(IIILjava/util/function/BiFunction;)I"⟩
abbrev Y26_ : MethodName := ⟨"java/lang/String", "checkBoundsBeginEnd", "(III)V"⟩
abbrev Y27_ : MethodName := ⟨"java/lang/StringUTF16", "checkBoundsBeginEnd", "(II[B)V"⟩
abbrev Y28_ : MethodName := ⟨"java/lang/StringLatin1", "canEncode", "(I)Z"⟩
abbrev Y29_ : MethodName := ⟨"java/lang/StringLatin1", "indexOfChar", "([BIII)I"⟩
abbrev Y30_ : MethodName := ⟨"java/lang/StringUTF16", "indexOfCharUnsafe", "([BIII)I"⟩
abbrev Y31_ : MethodName := ⟨"java/lang/StringUTF16", "indexOfChar", "([BIII)I"⟩
abbrev Y32_ : MethodName := ⟨"java/lang/StringLatin1", "indexOf", "([BIII)I"⟩
abbrev Y33_ : MethodName := ⟨"java/lang/StringUTF16", "indexOf", "([BIII)I"⟩
abbrev Y34_ : MethodName := ⟨"java/lang/String", "indexOf", "(II)I"⟩
abbrev Y35_ : MethodName := ⟨"java/lang/String", "indexOf", "(I)I"⟩
abbrev Y36_ : MethodName := ⟨"java/lang/AbstractStringBuilder", "<init>", "(I)V"⟩
abbrev Y37_ : MethodName := ⟨"java/lang/StringBuilder", "<init>", "(I)V"⟩
abbrev Y38_ : MethodName := ⟨"java/lang/AbstractStringBuilder", "isLatin1", "()Z"⟩
abbrev Y39_ : MethodName := ⟨"java/lang/AbstractStringBuilder", "ensureCapacityInternal", "(I)V"⟩
abbrev Y40_ : MethodName := ⟨"java/lang/StringLatin1", "canEncode", "(C)Z"⟩
abbrev Y41_ : MethodName := ⟨"java/lang/StringUTF16", "inflate", "([BI[BII)V"⟩
abbrev Y42_ : MethodName := ⟨"java/lang/StringLatin1", "inflate", "([BI[BII)V"⟩
abbrev Y43_ : MethodName := ⟨"java/lang/AbstractStringBuilder", "inflate", "()V"⟩
abbrev Y44_ : MethodName := ⟨"java/lang/StringUTF16", "putCharSB", "([BII)V"⟩
abbrev Y45_ : MethodName := ⟨"java/lang/AbstractStringBuilder", "append", "(C)Ljava/lang/AbstractStringBuilder;"⟩
abbrev Y46_ : MethodName := ⟨"java/lang/StringBuilder", "append", "(C)Ljava/lang/StringBuilder;"⟩
abbrev Y47_ : MethodName := ⟨"java/lang/AbstractStringBuilder", "getValue", "()[B"⟩
abbrev Y48_ : MethodName := ⟨"java/util/Arrays", "checkLength", "(II)V"⟩
abbrev Y49_ : MethodName := ⟨"java/util/Arrays", "copyOfRangeByte", "([BII)[B"⟩
abbrev Y50_ : MethodName := ⟨"java/util/Arrays", "copyOfRange", "([BII)[B"⟩
abbrev Y51_ : MethodName := ⟨"java/lang/AbstractStringBuilder", "length", "()I"⟩
abbrev Y52_ : MethodName := ⟨"java/lang/StringBuilder", "length", "()I"⟩
abbrev Y53_ : MethodName := ⟨"java/lang/String", "<init>", "(Ljava/lang/AbstractStringBuilder;Ljava/lang/Void;)V"⟩
abbrev Y54_ : MethodName := ⟨"java/lang/String", "<init>", "(Ljava/lang/StringBuilder;)V"⟩
abbrev Y55_ : MethodName := ⟨"java/lang/StringBuilder", "toString", "()Ljava/lang/String;"⟩
abbrev Y56_ : MethodName := ⟨"com/example/rubrique/rubrique/render/NonSortMarkers", "remove", "(Ljava/lang/String;)Ljava/lang/String;"⟩
abbrev Y57_ : MethodName := ⟨"com/example/rubrique/rubrique/render/NonSortMarkersRemovePinLaw", "draw", "(I)C"⟩
abbrev Y58_ : MethodName := ⟨"com/example/rubrique/rubrique/render/NonSortMarkersRemovePinLaw", "isMarker", "(C)Z"⟩
abbrev Y59_ : MethodName := ⟨"com/example/rubrique/rubrique/render/NonSortMarkersRemovePinLaw", "put", "([CIC)I"⟩
abbrev Y60_ : MethodName := ⟨"com/example/rubrique/rubrique/render/NonSortMarkersRemovePinLaw", "same", "(Ljava/lang/String;[CII)Z"⟩
abbrev D17_ (pc : Nat) := decode jdk_52_method_21_code pc
abbrev D40_ (pc : Nat) := decode jdk_52_method_3_code pc
abbrev D41_ (pc : Nat) := decode jdk_52_method_4_code pc
abbrev D39_ (pc : Nat) := decode jdk_52_method_2_code pc
abbrev D38_ (pc : Nat) := decode jdk_52_method_14_code pc
abbrev D27_ (pc : Nat) := decode jdk_41_method_11_code pc
abbrev D26_ (pc : Nat) := decode jdk_42_method_155_code pc
abbrev D42_ (pc : Nat) := decode jdk_52_method_5_code pc
abbrev D46_ (pc : Nat) := decode jdk_52_method_6_code pc
abbrev D51_ (pc : Nat) := decode jdk_52_method_91_code pc
abbrev D50_ (pc : Nat) := decode jdk_52_method_83_code pc
abbrev D25_ (pc : Nat) := decode jdk_43_method_2_code pc
abbrev D16_ (pc : Nat) := decode jdk_52_method_16_code pc
abbrev D18_ (pc : Nat) := decode jdk_52_method_15_code pc
abbrev D3_ (pc : Nat) := decode jdk_42_method_149_code pc
abbrev D2_ (pc : Nat) := decode jdk_42_method_3_code pc
abbrev D10_ (pc : Nat) := decode jdk_42_method_152_code pc
abbrev D8_ (pc : Nat) := decode jdk_42_method_154_code pc
abbrev D9_ (pc : Nat) := decode jdk_42_method_54_code pc
abbrev D24_ (pc : Nat) := decode jdk_42_method_56_code pc
abbrev D14_ (pc : Nat) := decode jdk_29_method_69_code pc
abbrev D13_ (pc : Nat) := decode jdk_29_method_65_code pc
abbrev D61_ (pc : Nat) := decode jdk_41_method_13_code pc
abbrev D60_ (pc : Nat) := decode jdk_42_method_157_code pc
abbrev D59_ (pc : Nat) := decode jdk_52_method_94_code pc
abbrev D48_ (pc : Nat) := decode jdk_41_method_12_code pc
abbrev D47_ (pc : Nat) := decode jdk_42_method_158_code pc
abbrev D45_ (pc : Nat) := decode jdk_52_method_93_code pc
abbrev D12_ (pc : Nat) := decode jdk_43_method_4_code pc
abbrev D21_ (pc : Nat) := decode jdk_43_method_23_code pc
abbrev D49_ (pc : Nat) := decode jdk_52_method_48_code pc
abbrev D44_ (pc : Nat) := decode jdk_52_method_47_code pc
abbrev D11_ (pc : Nat) := decode jdk_43_method_22_code pc
abbrev D43_ (pc : Nat) := decode jdk_52_method_40_code pc
abbrev D7_ (pc : Nat) := decode jdk_42_method_80_code pc
abbrev D6_ (pc : Nat) := decode jdk_42_method_79_code pc
abbrev D23_ (pc : Nat) := decode jdk_68_method_2_code pc
abbrev D22_ (pc : Nat) := decode jdk_67_method_2_code pc
abbrev D34_ (pc : Nat) := decode jdk_68_method_68_code pc
abbrev D54_ (pc : Nat) := decode jdk_68_method_9_code pc
abbrev D55_ (pc : Nat) := decode jdk_43_method_3_code pc
abbrev D58_ (pc : Nat) := decode jdk_52_method_86_code pc
abbrev D57_ (pc : Nat) := decode jdk_43_method_50_code pc
abbrev D56_ (pc : Nat) := decode jdk_68_method_11_code pc
abbrev D62_ (pc : Nat) := decode jdk_52_method_71_code pc
abbrev D53_ (pc : Nat) := decode jdk_68_method_31_code pc
abbrev D52_ (pc : Nat) := decode jdk_67_method_14_code pc
abbrev D37_ (pc : Nat) := decode jdk_65_method_131_code pc
abbrev D36_ (pc : Nat) := decode jdk_65_method_133_code pc
abbrev D35_ (pc : Nat) := decode jdk_65_method_132_code pc
abbrev D33_ (pc : Nat) := decode jdk_68_method_6_code pc
abbrev D32_ (pc : Nat) := decode jdk_67_method_93_code pc
abbrev D31_ (pc : Nat) := decode jdk_68_method_64_code pc
abbrev D30_ (pc : Nat) := decode jdk_42_method_150_code pc
abbrev D29_ (pc : Nat) := decode jdk_42_method_53_code pc
abbrev D28_ (pc : Nat) := decode jdk_67_method_42_code pc
abbrev D5_ (pc : Nat) := decode prog_42_method_2_code pc
abbrev D1_ (pc : Nat) := decode method_3_code pc
abbrev D20_ (pc : Nat) := decode method_2_code pc
abbrev D19_ (pc : Nat) := decode method_4_code pc
abbrev D15_ (pc : Nat) := decode method_5_code pc
theorem own_eqI {args : Array Value} {Z : State} {t : Term} {k : Int32} (h : (Cond.eq t (Term.int k)).value args Z none Z [] = some true) : t.eval args Z none [] Z = some (.int k) := by
  simp only [Cond.value, Term.eval] at h
  cases ht : t.eval args Z none [] Z with
  | none => simp [ht] at h
  | some v => cases v <;> simp [ht] at h ⊢ <;> exact h
theorem own_eqR {args : Array Value} {Z : State} {t u : Term} {y : Addr} (h : (Cond.eq t u).value args Z none Z [] = some true) (hu : u.eval args Z none [] Z = some (.ref y)) : t.eval args Z none [] Z = some (.ref y) := by
  simp only [Cond.value, hu] at h
  cases ht : t.eval args Z none [] Z with
  | none => simp [ht] at h
  | some v => cases v <;> simp [ht] at h ⊢ <;> exact h
theorem own_safeS {Z : State} {EL : List (String × Nat)} {vm : Vm} {h : Heap} {x : Addr} (hal : Z.vm.Alike vm) (E : Exa Z h x "java/lang/String") (F : Fld Z h x "java/lang/String" "value" "[B" .null) : Safe Z EL vm h x := by
  intro B
  obtain ⟨p, -, u, a, -, q, -, G, rfl | rfl⟩ := B
  · have ha : h[q.sa]? = some q.sC := G.ha
    obtain ⟨cS, ⟨⟨s1, s2, s3, ⟨cv, kv, iv, s4, s4'⟩, ⟨cc, kc, ic, s5, s5'⟩, s6, s7, s8, -⟩, -⟩, -⟩ := G
    obtain ⟨cell, cf, k, i, f, h1, h2, h3, h4, h5, h6, h7⟩ := F
    cases h1.symm.trans ha
    obtain ⟨kv', z4⟩ := ff_back (U := Wst Z vm h) hal s4
    have e := z4.symm.trans h2
    simp only [Option.some.injEq, Prod.mk.injEq] at e
    obtain ⟨-, -, -, rfl⟩ := e
    rw [s8] at h7; cases h7
  · have hd : h[q.sd]? = some q.SA := G.hd
    obtain ⟨cS, -, -, f, -⟩ := G
    obtain ⟨cell, k, e1, e2, -⟩ := E
    cases e1.symm.trans hd
    have f' : Z.vm.findClass "[B" = some q.SA.cls := by rw [← hal.findClass]; exact f
    obtain ⟨k1, a1, a2⟩ := Vm.findClass_spec f'
    obtain ⟨k2, b1, b2⟩ := Vm.findClass_spec e2
    cases a1.symm.trans b1
    exact absurd (a2.symm.trans b2) (by decide)
def own_EL : List (String × Nat) := [("java/lang/String", 7)]
def own_Ctx (Z : State) (h : Heap) (cs1 : Int32) (fv : Value) : Prop := (Sta Z h "java/lang/String" "COMPACT_STRINGS" "Z" (.int cs1)) ∧ (¬ (cs1 = (0 : Int32))) ∧ (Sta Z h "jdk/internal/util/Preconditions" "SIOOBE_FORMATTER" "Ljava/util/function/BiFunction;" fv) ∧ (fv.isRef = true) ∧ (Sta Z h "java/lang/StringUTF16" "$assertionsDisabled" "Z" (.int (1 : Int32))) ∧ (Sta Z h "java/lang/StringUTF16" "HI_BYTE_SHIFT" "I" (.int (0 : Int32))) ∧ (Sta Z h "java/lang/StringUTF16" "LO_BYTE_SHIFT" "I" (.int (8 : Int32)))
theorem own_bm8 (n : Int) : (n.bmod (2 ^ 8)) % 256 = n % 256 := by rw [Int.bmod_def]; omega
theorem own_i2b (x : Int32) : (nar .byte x.toInt8.toInt32).toInt % 256 = x.toInt % 256 := by
  show (x.toInt8.toInt32.toInt8.toInt32).toInt % 256 = _
  have h : ∀ y : Int32, (y.toInt8.toInt32).toInt % 256 = y.toInt % 256 := fun y => by
    rw [Int8.toInt_toInt32, Int32.toInt_toInt8]; exact own_bm8 _
  rw [h, h]
theorem own_lat {c : Int32} (h0 : ¬ (c < (0 : Int32))) (h1 : ¬ ((255 : Int32) < c)) : ((nar .byte (c.toInt8.toInt32)) &&& (255 : Int32)).toUInt32.toUInt16.toUInt32.toInt32 = c := by
  rw [i2c_mask]
  apply Int32.toInt_inj.mp
  have m1 : ((nar .byte (c.toInt8.toInt32)) &&& (255 : Int32)).toInt = (nar .byte (c.toInt8.toInt32)).toInt % 2 ^ 8 := Jvm.Kit.i32_mask _ 255 (k := 8) (by decide) (by decide)
  have m2 := own_i2b c
  rw [Int32.lt_iff_toInt_lt] at h0 h1
  have z0 : (0 : Int32).toInt = 0 := rfl
  have z1 : (255 : Int32).toInt = 255 := rfl
  omega
theorem own_utf {c : Int32} (h0 : ¬ (c < (0 : Int32))) (h1 : ¬ ((65535 : Int32) < c)) : (((nar .byte ((c >>> ((0 : Int32) &&& 31)).toInt8.toInt32)) &&& (255 : Int32)) <<< ((0 : Int32) &&& 31) ||| ((nar .byte ((c >>> ((8 : Int32) &&& 31)).toInt8.toInt32)) &&& (255 : Int32)) <<< ((8 : Int32) &&& 31)).toUInt32.toUInt16.toUInt32.toInt32 = c := by
  rw [Int32.lt_iff_toInt_lt] at h0 h1
  have z0 : (0 : Int32).toInt = 0 := rfl
  have z1 : (65535 : Int32).toInt = 65535 := rfl
  have a0 : (c >>> ((0 : Int32) &&& 31)).toInt = c.toInt / 2 ^ 0 := Jvm.Kit.i32_shr c _ (k := 0) (by decide)
  have a8 : (c >>> ((8 : Int32) &&& 31)).toInt = c.toInt / 2 ^ 8 := Jvm.Kit.i32_shr c _ (k := 8) (by decide)
  have b0 := own_i2b (c >>> ((0 : Int32) &&& 31))
  have b8 := own_i2b (c >>> ((8 : Int32) &&& 31))
  generalize (nar .byte ((c >>> ((0 : Int32) &&& 31)).toInt8.toInt32)) = x at *
  generalize (nar .byte ((c >>> ((8 : Int32) &&& 31)).toInt8.toInt32)) = y at *
  have mx : (x &&& (255 : Int32)).toInt = x.toInt % 2 ^ 8 := Jvm.Kit.i32_mask _ 255 (k := 8) (by decide) (by decide)
  have my : (y &&& (255 : Int32)).toInt = y.toInt % 2 ^ 8 := Jvm.Kit.i32_mask _ 255 (k := 8) (by decide) (by decide)
  have s0 : ((x &&& (255 : Int32)) <<< ((0 : Int32) &&& 31)).toInt = (x &&& (255 : Int32)).toInt * 2 ^ 0 := Jvm.Kit.i32_shl _ _ (k := 0) (by decide) (by omega) (by omega)
  have s8 : ((y &&& (255 : Int32)) <<< ((8 : Int32) &&& 31)).toInt = (y &&& (255 : Int32)).toInt * 2 ^ 8 := Jvm.Kit.i32_shl _ _ (k := 8) (by decide) (by omega) (by omega)
  generalize ((x &&& (255 : Int32)) <<< ((0 : Int32) &&& 31)) = u at *
  generalize ((y &&& (255 : Int32)) <<< ((8 : Int32) &&& 31)) = w at *
  have o1 := c_or' u w 8 (by decide) 256 (by decide) (by omega) (by omega) (by omega)
  have o2 := (u ||| w).toInt_lt
  have o3 := (u ||| w).le_toInt
  have q := c_i2c (u ||| w)
  apply Int32.toInt_inj.mp
  omega
theorem own_nch {c : Int32} (h0 : ¬ (c < (0 : Int32))) (h1 : ¬ ((65535 : Int32) < c)) : (some (Value.int (nar .char c)) : Option Value) = some (.int c) := by
  have q := c_i2c c
  rw [Int32.lt_iff_toInt_lt] at h0 h1
  have z0 : (0 : Int32).toInt = 0 := rfl
  have z1 : (65535 : Int32).toInt = 65535 := rfl
  have e : nar .char c = c := by
    show c.toUInt32.toUInt16.toUInt32.toInt32 = c
    apply Int32.toInt_inj.mp
    omega
  rw [e]
theorem own_255 {c : Int32} (h1 : ¬ ((255 : Int32) < c)) : ¬ ((65535 : Int32) < c) := by
  rw [Int32.lt_iff_toInt_lt] at *
  have z0 : (255 : Int32).toInt = 255 := rfl
  have z1 : (65535 : Int32).toInt = 65535 := rfl
  omega
theorem own_ti {i : Nat} (h : i ≤ 1000) : i.toInt32.toNatClampNeg = i ∧ ¬ (i.toInt32 < 0) ∧ i.toInt32.toInt = i := by
  have e := len_toInt (n := i) (by omega)
  refine ⟨by simp only [Int32.toNatClampNeg, e]; rfl, ?_, e⟩
  rw [Int32.lt_iff_toInt_lt, e]; show ¬ ((i : Int) < 0); omega
theorem own_ts {i : Nat} (h : i ≤ 1000) : i.toInt32 + (1 : Int32) = (i + 1).toInt32 := by
  apply Int32.toInt_inj.mp
  have e := len_toInt (n := i) (by omega)
  have e1 := len_toInt (n := i + 1) (by omega)
  have z : (1 : Int32).toInt = 1 := rfl
  rw [Jvm.Kit.i32_add (by omega) (by omega), e, e1, z]; omega
theorem own_tl {i n : Nat} (h : i < n) (hn : n ≤ 1000) : i.toInt32 < n.toInt32 := by
  have e := len_toInt (n := i) (by omega)
  have e1 := len_toInt (n := n) (by omega)
  rw [Int32.lt_iff_toInt_lt, e, e1]; omega
def own_fill (f : Int32 → Int32) (cs : List Int32) (i : Nat) : List Value := (cs.take i).map (fun c => .int (f c)) ++ List.replicate (cs.length - i) (.int (0 : Int32))
theorem own_fill_len (f : Int32 → Int32) (cs : List Int32) {i : Nat} (h : i ≤ cs.length) : (own_fill f cs i).length = cs.length := by
  simp [own_fill]; omega
theorem own_fill_get (f : Int32 → Int32) (cs : List Int32) {i : Nat} (h : i ≤ cs.length) (j : Nat) : (own_fill f cs i)[j]? = if j < i then (cs[j]?).map (fun c => Value.int (f c)) else if j < cs.length then some (.int (0 : Int32)) else none := by
  have m1 : min i cs.length = i := Nat.min_eq_left h
  by_cases a : j < i
  · have b : j < cs.length := by omega
    simp [own_fill, List.getElem?_append, a, m1, b]
  · simp only [own_fill, List.getElem?_append, List.length_map, List.length_take, m1, a, if_false, List.getElem?_replicate]
    by_cases c : j < cs.length
    · have x : j - i < cs.length - i := by omega
      simp [x, c]
    · have x : ¬ j - i < cs.length - i := by omega
      simp [x, c]
theorem own_fill_set (f : Int32 → Int32) (cs : List Int32) {i : Nat} (h : i < cs.length) : (own_fill f cs i).set i (.int (f cs[i])) = own_fill f cs (i + 1) := by
  apply List.ext_getElem?
  intro j
  have hl := own_fill_len f cs (Nat.le_of_lt h)
  rw [own_fill_get f cs h j]
  by_cases u : i = j
  · subst u
    rw [List.getElem?_set_self (by omega)]
    simp [h]
  · rw [List.getElem?_set_ne u, own_fill_get f cs (Nat.le_of_lt h) j]
    by_cases a : j < i
    · have b : j < i + 1 := by omega
      simp [a, b]
    · have b : ¬ j < i + 1 := by omega
      simp [a, b]
theorem own_fill_all (f : Int32 → Int32) (cs : List Int32) : own_fill f cs cs.length = cs.map (fun c => .int (f c)) := by simp [own_fill]
theorem own_at {cs : List Int32} {i : Nat} (h : i < cs.length) : (cs.map Value.int).getD i (.int (0 : Int32)) = .int cs[i] := by simp [List.getD_eq_getElem?_getD, h]

def own_Qk (r : Option Value) (ws : List Addr) (h0 : Heap) (n0 : Nat) (v : Option Value) (h : Heap) (L : List Loc) : Prop := v = r ∧ Fr n0 L ∧ Keep h0 h ws
def own_QW (Z : State) (r : Option Value) (a3 : Addr) (k3 : ClassId) (ty : FieldType) (z : Int32) (vs : List Value) (h0 : Heap) (n0 : Nat) (v : Option Value) (h : Heap) (L : List Loc) : Prop := v = r ∧ Fr n0 L ∧ Keep h0 h [a3] ∧ Arv Z h a3 k3 ty z vs (.int (0 : Int32))
def own_QA (Z : State) (ty : FieldType) (z : Int32) (vs : List Value) (h0 : Heap) (n0 : Nat) (v : Option Value) (h : Heap) (L : List Loc) : Prop := ∃ (b : Addr) (k : ClassId), v = some (.ref b) ∧ Fr n0 L ∧ Keep h0 h [] ∧ h0.size ≤ b ∧ Arv Z h b k ty z vs (.int (0 : Int32))
theorem d17_3 : D17_ 3 = .ok (.iload 5, 2) := by decide +kernel
theorem d17_5 : D17_ 5 = .ok (.iload 4, 2) := by decide +kernel
theorem d17_7 : D17_ 7 = .ok (.if_icmp .ge 37, 3) := by decide +kernel
theorem d17_10 : D17_ 10 = .ok (.aload_n 0, 1) := by decide +kernel
theorem d17_11 : D17_ 11 = .ok (.iload_n 1, 1) := by decide +kernel
theorem d17_12 : D17_ 12 = .ok (.caload, 1) := by decide +kernel
theorem d17_13 : D17_ 13 = .ok (.istore 6, 2) := by decide +kernel
theorem os17_13 {z0 : Value} {z1 : Value} {z2 : Value} {z3 : Value} {z4 : Value} {z5 : Value} {s6 : Slot} {v : Int32} (h : One s6) : storeLocals #[.val z0, .val z1, .val z2, .val z3, .val z4, .val z5, s6] 6 (.int v) = some #[.val z0, .val z1, .val z2, .val z3, .val z4, .val z5, vI (v)] := by
  rcases h with rfl | ⟨w, rfl, hw⟩
  · rfl
  · cases w <;> first | rfl | (simp [Value.category] at hw)
theorem d17_15 : D17_ 15 = .ok (.iload 6, 2) := by decide +kernel
theorem d17_17 : D17_ 17 = .ok (.sipush 255, 3) := by decide +kernel
theorem d17_20 : D17_ 20 = .ok (.if_icmp .le 6, 3) := by decide +kernel
theorem d17_26 : D17_ 26 = .ok (.aload_n 2, 1) := by decide +kernel
theorem d17_27 : D17_ 27 = .ok (.iload_n 3, 1) := by decide +kernel
theorem d17_28 : D17_ 28 = .ok (.iload 6, 2) := by decide +kernel
theorem d17_30 : D17_ 30 = .ok (.i2b, 1) := by decide +kernel
theorem d17_31 : D17_ 31 = .ok (.bastore, 1) := by decide +kernel
theorem d17_32 : D17_ 32 = .ok (.iinc 1 1, 3) := by decide +kernel
theorem d17_35 : D17_ 35 = .ok (.iinc 3 1, 3) := by decide +kernel
theorem d17_38 : D17_ 38 = .ok (.iinc 5 1, 3) := by decide +kernel
theorem d17_41 : D17_ 41 = .ok (.goto (-38), 3) := by decide +kernel
theorem t_cl {p : Program} {l : Launch} {e : Env} {R : Room} {s : State} {m : MethodId} {args : Array Value} {below : List Frame} {meth : Method} {c : Code} {T0 : State} {locs : List Loc} {cells slots : Nat} {Z : State} {a0 : Array Value} {h0 : Heap} {n0 : Nat} (cs1 : Int32) (fv : Value) (a2 a3 : Addr) (k2 k3 : ClassId) (vs2 vs3 : List Value) (i1 z1 c1 : Int32) (s6 : Slot)
    (X0 : Stand p l e R s m args below meth c T0 locs cells slots) (hx : p.tables.exec = Jvm.exec) (hZ : Z.Warmed39 s.vm) (hw : own_HW a0 Z) (hby : c.code = jdk_52_method_21_code) (hml : c.maxLocals = 7) (hown : s.vm.findClass "java/lang/StringUTF16" = some m.cls) (e0 : T0.heap = h0) (N0 : Fr n0 locs) (O0 : Old Z n0 h0) (G : own_Ctx Z Z.heap cs1 fv) (hs6 : One s6) (Va : Arv Z h0 a2 k2 .char z1 vs2 (.int (0 : Int32))) (Vb : Arv Z h0 a3 k3 .byte z1 vs3 (.int (0 : Int32))) (ga : n0 ≤ a3) (hne : a2 ≠ a3) (hi1 : ¬ (i1 < 0)) (hi2 : i1 < z1) (hat : vs2.getD i1.toNatClampNeg (.int (0 : Int32)) = .int c1) (hl : ¬ ((255 : Int32) < c1)) (hlen : i1.toNatClampNeg < vs3.length) :
    ∃ (T' : State) (h' : Heap) (L' : List Loc), Stand p l e R s m args below meth c T' L' cells slots ∧ T'.heap = h' ∧ Fr n0 L' ∧ Old Z n0 h' ∧ Keep h0 h' [a3] ∧ (Arv Z h' a2 k2 .char z1 vs2 (.int (0 : Int32))) ∧ (Arv Z h' a3 k3 .byte z1 (List.set vs3 (i1).toNatClampNeg (.int (nar .byte (c1.toInt8.toInt32)))) (.int (0 : Int32))) ∧ ∀ target, Steps p.tables e below (T'.setTop (mkF m 3 #[vR (a2), vI ((i1 + (1 : Int32))), vR (a3), vI ((i1 + (1 : Int32))), vI (z1), vI ((i1 + (1 : Int32))), vI (c1)] [])) target → Steps p.tables e below (T0.setTop (mkF m 3 #[vR (a2), vI (i1), vR (a3), vI (i1), vI (z1), vI (i1), s6] [])) target := by
  have G0 := G
  have vc1 := Va
  obtain ⟨cl1, Ar1, qk1, S1, Nn1, Hs1, Gf1⟩ := vc1
  have hin1 : ¬ (i1 < 0 ∨ cl1.slots.size ≤ (i1).toNatClampNeg) := inb_of S1 ⟨hi1, hi2⟩
  have hat1 : cl1.slots[(i1).toNatClampNeg]? = some (.int c1) := Has.at Hs1 hin1 hat
  have vc2 := Vb
  obtain ⟨cl2, Ar2, qk2, S2, Nn2, Hs2, Gf2⟩ := vc2
  have hin2 : ¬ (i1 < 0 ∨ cl2.slots.size ≤ (i1).toNatClampNeg) := inb_of S2 ⟨hi1, hi2⟩
  obtain ⟨T3, h3, X3, e3, W3, st3⟩ := stB X0 hx hZ e0 Ar2 (j := i1) hin2 (g := (mkF m 31 #[vR (a2), vI (i1), vR (a3), vI (i1), vI (z1), vI (i1), vI (c1)] [(.int (c1.toInt8.toInt32)), (.int i1), (.ref a3)])) rfl rfl (hb hby d17_31)
  have f4 := Va.other W3 hne
  have O3 := O0.wr W3 ga
  have K3 : Keep h0 h3 [a3] := (Keep.refl h0 [a3]).wr W3 (Or.inl (List.mem_of_getElem? (i := 0) rfl))
  have N3 := Fr.snoc X3 N0 ga
  have f5 : Arv Z h3 a3 k3 .byte z1 (List.set vs3 (i1).toNatClampNeg (.int (nar .byte (c1.toInt8.toInt32)))) (.int (0 : Int32)) := Arv.set Ar2 qk2 S2 Nn2 Hs2 Gf2 (fits_nar_byte _) W3 (i1).toNatClampNeg rfl hlen
  refine ⟨T3, h3, _, X3, e3, N3, O3, K3, f4, f5, fun target kt => ?_⟩
  show own_St p e below T0 m 3 #[vR (a2), vI (i1), vR (a3), vI (i1), vI (z1), vI (i1), s6] [] _
  refine XS.iload X0.here hx rfl (hb hby d17_3) rfl ?_
  refine XS.iload X0.here hx rfl (hb hby d17_5) rfl ?_
  refine XS.icmpNo X0.here hx rfl (hb hby d17_7) rfl (tlt (hi2 : i1 < z1)).2.1 ?_
  refine XS.aloadN X0.here hx rfl (hb hby d17_10) rfl rfl ?_
  refine XS.iloadN X0.here hx rfl (hb hby d17_11) rfl ?_
  show own_St p e below T0 m 12 #[vR (a2), vI (i1), vR (a3), vI (i1), vI (z1), vI (i1), s6] [(.int i1), (.ref a2)] _
  refine X0.caload hx (j := i1) (v := (.int c1)) (by rw [e0]; exact Ar1.1) (State.isArrayOf_alike hZ.alike Ar1.2.1) Ar1.2.2 hin1 hat1 (g := (mkF m 12 #[vR (a2), vI (i1), vR (a3), vI (i1), vI (z1), vI (i1), s6] [(.int i1), (.ref a2)])) rfl rfl (hb hby d17_12) _ ?_
  show own_St p e below T0 m 13 #[vR (a2), vI (i1), vR (a3), vI (i1), vI (z1), vI (i1), s6] [(.int c1)] _
  refine XS.istore X0.here hx rfl (hb hby d17_13) rfl (l' := #[vR (a2), vI (i1), vR (a3), vI (i1), vI (z1), vI (i1), vI (c1)]) (os17_13 hs6) ?_
  refine XS.iload X0.here hx rfl (hb hby d17_15) rfl ?_
  refine XS.sipush X0.here hx rfl (hb hby d17_17) ?_
  refine XS.icmpYes X0.here hx rfl (pc0 := 20) (pc' := 26) rfl (hb hby d17_20) rfl (flt (hl : ¬ ((255 : Int32) < c1))).2.2.2 (by decide) (by decide) ?_
  refine XS.aloadN X0.here hx rfl (hb hby d17_26) rfl rfl ?_
  refine XS.iloadN X0.here hx rfl (hb hby d17_27) rfl ?_
  refine XS.iload X0.here hx rfl (hb hby d17_28) rfl ?_
  refine XS.i2b X0.here hx rfl (hb hby d17_30) rfl ?_
  show own_St p e below T0 m 31 #[vR (a2), vI (i1), vR (a3), vI (i1), vI (z1), vI (i1), vI (c1)] [(.int (c1.toInt8.toInt32)), (.int i1), (.ref a3)] _
  refine st3 _ ?_
  show own_St p e below T3 m 32 #[vR (a2), vI (i1), vR (a3), vI (i1), vI (z1), vI (i1), vI (c1)] [] _
  refine XS.iinc X3.here hx rfl (hb hby d17_32) rfl (l' := #[vR (a2), vI ((i1 + (1 : Int32))), vR (a3), vI (i1), vI (z1), vI (i1), vI (c1)]) rfl ?_
  show own_St p e below T3 m 35 #[vR (a2), vI ((i1 + (1 : Int32))), vR (a3), vI (i1), vI (z1), vI (i1), vI (c1)] [] _
  refine XS.iinc X3.here hx rfl (hb hby d17_35) rfl (l' := #[vR (a2), vI ((i1 + (1 : Int32))), vR (a3), vI ((i1 + (1 : Int32))), vI (z1), vI (i1), vI (c1)]) rfl ?_
  show own_St p e below T3 m 38 #[vR (a2), vI ((i1 + (1 : Int32))), vR (a3), vI ((i1 + (1 : Int32))), vI (z1), vI (i1), vI (c1)] [] _
  refine XS.iinc X3.here hx rfl (hb hby d17_38) rfl (l' := #[vR (a2), vI ((i1 + (1 : Int32))), vR (a3), vI ((i1 + (1 : Int32))), vI (z1), vI ((i1 + (1 : Int32))), vI (c1)]) rfl ?_
  show own_St p e below T3 m 41 #[vR (a2), vI ((i1 + (1 : Int32))), vR (a3), vI ((i1 + (1 : Int32))), vI (z1), vI ((i1 + (1 : Int32))), vI (c1)] [] _
  refine XS.goto X3.here hx rfl (pc0 := 41) (pc' := 3) rfl (hb hby d17_41) (by decide) (by decide) ?_
  exact kt
theorem d17_44 : D17_ 44 = .ok (.iload 4, 2) := by decide +kernel
theorem t_clend {p : Program} {l : Launch} {e : Env} {R : Room} {s : State} {m : MethodId} {args : Array Value} {below : List Frame} {meth : Method} {c : Code} {T0 : State} {locs : List Loc} {cells slots : Nat} {Z : State} {a0 : Array Value} {h0 : Heap} {n0 : Nat} (cs1 : Int32) (fv : Value) (a2 a3 : Addr) (i1 z1 : Int32) (s6 : Slot)
    (X0 : Stand p l e R s m args below meth c T0 locs cells slots) (hx : p.tables.exec = Jvm.exec) (hZ : Z.Warmed39 s.vm) (hw : own_HW a0 Z) (hby : c.code = jdk_52_method_21_code) (hml : c.maxLocals = 7) (hown : s.vm.findClass "java/lang/StringUTF16" = some m.cls) (e0 : T0.heap = h0) (O0 : Old Z n0 h0) (G : own_Ctx Z Z.heap cs1 fv) (hi2 : ¬ (i1 < z1)) :
    ∃ T' : State, Stand p l e R s m args below meth c T' locs cells slots ∧ T'.heap = h0 ∧ ∀ target, Steps p.tables e below (T'.setTop (mkF m 46 #[vR (a2), vI (i1), vR (a3), vI (i1), vI (z1), vI (i1), s6] [(.int z1)])) target → Steps p.tables e below (T0.setTop (mkF m 3 #[vR (a2), vI (i1), vR (a3), vI (i1), vI (z1), vI (i1), s6] [])) target := by
  have G0 := G
  refine ⟨T0, X0, e0, fun target kt => ?_⟩
  show own_St p e below T0 m 3 #[vR (a2), vI (i1), vR (a3), vI (i1), vI (z1), vI (i1), s6] [] _
  refine XS.iload X0.here hx rfl (hb hby d17_3) rfl ?_
  refine XS.iload X0.here hx rfl (hb hby d17_5) rfl ?_
  refine XS.icmpYes X0.here hx rfl (pc0 := 7) (pc' := 44) rfl (hb hby d17_7) rfl (flt (hi2 : ¬ (i1 < z1))).2.1 (by decide) (by decide) ?_
  refine XS.iload X0.here hx rfl (hb hby d17_44) rfl ?_
  exact kt
theorem d17_23 : D17_ 23 = .ok (.iload 5, 2) := by decide +kernel
theorem t_clno {p : Program} {l : Launch} {e : Env} {R : Room} {s : State} {m : MethodId} {args : Array Value} {below : List Frame} {meth : Method} {c : Code} {T0 : State} {locs : List Loc} {cells slots : Nat} {Z : State} {a0 : Array Value} {h0 : Heap} {n0 : Nat} (cs1 : Int32) (fv : Value) (a2 a3 : Addr) (k2 : ClassId) (vs2 : List Value) (i1 z1 c1 : Int32) (s6 : Slot)
    (X0 : Stand p l e R s m args below meth c T0 locs cells slots) (hx : p.tables.exec = Jvm.exec) (hZ : Z.Warmed39 s.vm) (hw : own_HW a0 Z) (hby : c.code = jdk_52_method_21_code) (hml : c.maxLocals = 7) (hown : s.vm.findClass "java/lang/StringUTF16" = some m.cls) (e0 : T0.heap = h0) (N0 : Fr n0 locs) (O0 : Old Z n0 h0) (G : own_Ctx Z Z.heap cs1 fv) (hs6 : One s6) (Va : Arv Z h0 a2 k2 .char z1 vs2 (.int (0 : Int32))) (hi1 : ¬ (i1 < 0)) (hi2 : i1 < z1) (hat : vs2.getD i1.toNatClampNeg (.int (0 : Int32)) = .int c1) (hl : (255 : Int32) < c1) :
    ∃ (T' : State) (h' : Heap) (L' : List Loc), Stand p l e R s m args below meth c T' L' cells slots ∧ T'.heap = h' ∧ Fr n0 L' ∧ Old Z n0 h' ∧ Keep h0 h' [a3] ∧ ∀ target, Steps p.tables e below (T'.setTop (mkF m 25 #[vR (a2), vI (i1), vR (a3), vI (i1), vI (z1), vI (i1), vI (c1)] [(.int i1)])) target → Steps p.tables e below (T0.setTop (mkF m 3 #[vR (a2), vI (i1), vR (a3), vI (i1), vI (z1), vI (i1), s6] [])) target := by
  have G0 := G
  have vc1 := Va
  obtain ⟨cl1, Ar1, qk1, S1, Nn1, Hs1, Gf1⟩ := vc1
  have hin1 : ¬ (i1 < 0 ∨ cl1.slots.size ≤ (i1).toNatClampNeg) := inb_of S1 ⟨hi1, hi2⟩
  have hat1 : cl1.slots[(i1).toNatClampNeg]? = some (.int c1) := Has.at Hs1 hin1 hat
  refine ⟨T0, h0, _, X0, e0, N0, O0, (Keep.refl h0 [a3]), fun target kt => ?_⟩
  show own_St p e below T0 m 3 #[vR (a2), vI (i1), vR (a3), vI (i1), vI (z1), vI (i1), s6] [] _
  refine XS.iload X0.here hx rfl (hb hby d17_3) rfl ?_
  refine XS.iload X0.here hx rfl (hb hby d17_5) rfl ?_
  refine XS.icmpNo X0.here hx rfl (hb hby d17_7) rfl (tlt (hi2 : i1 < z1)).2.1 ?_
  refine XS.aloadN X0.here hx rfl (hb hby d17_10) rfl rfl ?_
  refine XS.iloadN X0.here hx rfl (hb hby d17_11) rfl ?_
  show own_St p e below T0 m 12 #[vR (a2), vI (i1), vR (a3), vI (i1), vI (z1), vI (i1), s6] [(.int i1), (.ref a2)] _
  refine X0.caload hx (j := i1) (v := (.int c1)) (by rw [e0]; exact Ar1.1) (State.isArrayOf_alike hZ.alike Ar1.2.1) Ar1.2.2 hin1 hat1 (g := (mkF m 12 #[vR (a2), vI (i1), vR (a3), vI (i1), vI (z1), vI (i1), s6] [(.int i1), (.ref a2)])) rfl rfl (hb hby d17_12) _ ?_
  show own_St p e below T0 m 13 #[vR (a2), vI (i1), vR (a3), vI (i1), vI (z1), vI (i1), s6] [(.int c1)] _
  refine XS.istore X0.here hx rfl (hb hby d17_13) rfl (l' := #[vR (a2), vI (i1), vR (a3), vI (i1), vI (z1), vI (i1), vI (c1)]) (os17_13 hs6) ?_
  refine XS.iload X0.here hx rfl (hb hby d17_15) rfl ?_
  refine XS.sipush X0.here hx rfl (hb hby d17_17) ?_
  refine XS.icmpNo X0.here hx rfl (hb hby d17_20) rfl (tlt (hl : (255 : Int32) < c1)).2.2.2 ?_
  refine XS.iload X0.here hx rfl (hb hby d17_23) rfl ?_
  exact kt
theorem own_clLoop {p : Program} {l : Launch} {e : Env} {R : Room} {s : State} {m : MethodId} {args : Array Value} {below : List Frame} {meth : Method} {c : Code} {cells slots : Nat} {Z : State} {a0 : Array Value} {n0 : Nat} (cs1 : Int32) (fv : Value) (a2 a3 : Addr) (k2 k3 : ClassId) (cs : List Int32)
    (hx : p.tables.exec = Jvm.exec) (hZ : Z.Warmed39 s.vm) (hw : own_HW a0 Z) (hby : c.code = jdk_52_method_21_code) (hml : c.maxLocals = 7) (hown : s.vm.findClass "java/lang/StringUTF16" = some m.cls) (G : own_Ctx Z Z.heap cs1 fv) (ga : n0 ≤ a3) (hne : a2 ≠ a3) (hn : cs.length ≤ 1000) :
    ∀ (k i : Nat) (T0 : State) (h0 : Heap) (locs : List Loc) (s6 : Slot), i + k = cs.length → Stand p l e R s m args below meth c T0 locs cells slots → T0.heap = h0 → Fr n0 locs → Old Z n0 h0 → One s6 → Arv Z h0 a2 k2 .char cs.length.toInt32 (cs.map Value.int) (.int (0 : Int32)) → Arv Z h0 a3 k3 .byte cs.length.toInt32 (own_fill (fun c => nar .byte c.toInt8.toInt32) cs i) (.int (0 : Int32)) → (∀ j, j < i → ∀ hj : j < cs.length, ¬ ((255 : Int32) < cs[j])) →
    ∃ (T' : State) (h' : Heap) (L' : List Loc) (r : Nat) (q : Nat) (Ls : Array Slot), Stand p l e R s m args below meth c T' L' cells slots ∧ T'.heap = h' ∧ Fr n0 L' ∧ Old Z n0 h' ∧ Keep h0 h' [a3] ∧ (q = 25 ∨ q = 46) ∧ (((∀ hj : r < cs.length, (255 : Int32) < cs[r]) ∧ r < cs.length) ∨ (r = cs.length ∧ (∀ j, ∀ hj : j < cs.length, ¬ ((255 : Int32) < cs[j])) ∧ Arv Z h' a3 k3 .byte cs.length.toInt32 (cs.map (fun c => .int (nar .byte c.toInt8.toInt32))) (.int (0 : Int32)))) ∧
      ∀ target, Steps p.tables e below (T'.setTop (mkF m q Ls [(.int r.toInt32)])) target → Steps p.tables e below (T0.setTop (mkF m 3 #[vR (a2), vI (i.toInt32), vR (a3), vI (i.toInt32), vI (cs.length.toInt32), vI (i.toInt32), s6] [])) target := by
  intro k
  induction k with
  | zero =>
    intro i T0 h0 locs s6 hi X0 e0 N0 O0 hs6 Va Vb hall
    obtain rfl : i = cs.length := by omega
    obtain ⟨T1, X1, e1, st⟩ := t_clend cs1 fv a2 a3 cs.length.toInt32 cs.length.toInt32 s6 X0 hx hZ hw hby hml hown e0 O0 G (by rw [Int32.lt_iff_toInt_lt]; omega)
    exact ⟨T1, h0, locs, cs.length, 46, _, X1, e1, N0, O0, Keep.refl _ _, Or.inr rfl, Or.inr ⟨rfl, fun j hj => hall j hj hj, by rw [← own_fill_all]; exact Vb⟩, st⟩
  | succ k ih =>
    intro i T0 h0 locs s6 hi X0 e0 N0 O0 hs6 Va Vb hall
    have hlt : i < cs.length := by omega
    obtain ⟨t1, t2, t3⟩ := own_ti (i := i) (by omega)
    by_cases hq : (255 : Int32) < cs[i]
    · obtain ⟨T1, h1, L1, X1, e1, N1, O1, K1, st1⟩ := t_clno cs1 fv a2 a3 k2 (cs.map Value.int) i.toInt32 cs.length.toInt32 cs[i] s6 X0 hx hZ hw hby hml hown e0 N0 O0 G hs6 Va t2 (own_tl hlt hn) (by rw [t1]; exact own_at hlt) hq
      exact ⟨T1, h1, L1, i, 25, _, X1, e1, N1, O1, K1, Or.inl rfl, Or.inl ⟨fun _ => hq, hlt⟩, st1⟩
    · obtain ⟨T1, h1, L1, X1, e1, N1, O1, K1, V2, V3, st1⟩ := t_cl cs1 fv a2 a3 k2 k3 (cs.map Value.int) (own_fill (fun c => nar .byte c.toInt8.toInt32) cs i) i.toInt32 cs.length.toInt32 cs[i] s6 X0 hx hZ hw hby hml hown e0 N0 O0 G hs6 Va Vb ga hne t2 (own_tl hlt hn) (by rw [t1]; exact own_at hlt) hq (by rw [t1, own_fill_len _ _ (Nat.le_of_lt hlt)]; exact hlt)
      rw [t1, own_fill_set (fun c => nar .byte c.toInt8.toInt32) cs hlt] at V3
      rw [own_ts (by omega)] at st1
      obtain ⟨T', h', L', r, q, Ls, X', e', N', O', K', hq', hr, st'⟩ := ih (i + 1) T1 h1 L1 (vI (cs[i])) (by omega) X1 e1 N1 O1 (One.val (w := .int cs[i]) rfl) V2 V3 (fun j hj hj' => by
        by_cases u : j = i
        · subst u; exact hq
        · exact hall j (by omega) hj')
      exact ⟨T', h', L', r, q, Ls, X', e', N', O', K1.trans K' (allS (Or.inl (List.mem_singleton.mpr rfl)) all0), hq', hr, fun target kt => st1 _ (st' _ kt)⟩

theorem d17_25 : D17_ 25 = .ok (.ireturn, 1) := by decide +kernel
theorem d17_46 : D17_ 46 = .ok (.ireturn, 1) := by decide +kernel
theorem d17_0 : D17_ 0 = .ok (.iconst 0, 1) := by decide +kernel
theorem d17_1 : D17_ 1 = .ok (.istore 5, 2) := by decide +kernel
theorem ef_17_0 (m : MethodId) (x0 : Addr) (x1 : Int32) (x2 : Addr) (x3 : Int32) (x4 : Int32) : entryFrame m #[(.ref x0), (.int x1), (.ref x2), (.int x3), (.int x4)] 7 = mkF m 0 #[vR (x0), vI (x1), vR (x2), vI (x3), vI (x4), .unset, .unset] [] := by first | (simp [entryFrame, mkF, argsToLocals, Value.category]; done) | rfl
theorem pn_0 : plainName "java/lang/StringUTF16" = true := by first | (simp [plainName, overriddenIn]; done) | decide +kernel
theorem r_clA (l : Launch) (Z : State) (a0 : Array Value) (hw : own_HW a0 Z) (ws : List Jvm.Cond) (cs1 : Int32) (fv : Value) (h0 : Heap) (n0 : Nat) (O0 : Old Z n0 h0) (G : own_Ctx Z Z.heap cs1 fv) (a2 a3 : Addr) (k2 k3 : ClassId) (cs : List Int32) (hn1 : cs.length ≤ 1000) (Va : Arv Z h0 a2 k2 .char cs.length.toInt32 (cs.map Value.int) (.int (0 : Int32))) (Vb : Arv Z h0 a3 k3 .byte cs.length.toInt32 (List.replicate cs.length (.int (0 : Int32))) (.int (0 : Int32))) (ga : n0 ≤ a3) (hne : a2 ≠ a3) (hl : ∀ j, ∀ hj : j < cs.length, ¬ ((255 : Int32) < cs[j])) :
    own_M l Y0_ (head1 (Jvm.Cond.code Y0_ jdk_52_method_21_code 7 (some .int) :: ws) (own_rm_ 0 0 0 0)) #[(.ref a2), (.int (0 : Int32)), (.ref a3), (.int (0 : Int32)), (.int cs.length.toInt32)] Z h0 n0 (own_QW Z (some (.int cs.length.toInt32)) a3 k3 .byte cs.length.toInt32 (cs.map (fun c => .int (nar .byte c.toInt8.toInt32)))) (own_rm_ 0 0 0 0).cells (own_rm_ 0 0 0 0).slots := by
  have G0 := G
  refine MetFree.of_bodySF (plainFor_of_name pn_0) hisR ?_
  intro p e s m args below meth c s₁ Bd hml0 hP hK
  obtain ⟨rfl, hZ, hh⟩ := hP
  have hx := Bd.exec
  have hby := Bd.bytes
  have hml : c.maxLocals = 7 := hml0
  have hown := findClass_of_methodNamed Bd.named
  have X0 : Stand p l e (own_rm_ 0 0 0 0) s m #[(.ref a2), (.int (0 : Int32)), (.ref a3), (.int (0 : Int32)), (.int cs.length.toInt32)] below meth c s₁ [] 0 0 := Stand.of_body Bd
  have e0 : s₁.heap = h0 := by rw [← hh, Bd.state]; rfl
  have N0 := Fr.nil n0
  have pre0 := own_pre (tb := p.tables) (e := e) (below := below) (T := s₁) (ef_17_0 m a2 (0 : Int32) a3 (0 : Int32) cs.length.toInt32)
  have vb0 : Arv Z h0 a3 k3 .byte cs.length.toInt32 (own_fill (fun c => nar .byte c.toInt8.toInt32) cs 0) (.int (0 : Int32)) := by simpa [own_fill] using Vb
  obtain ⟨T9, h9, L9, r9, q9, Ls9, X9, e9, N9, O9, K9, hq9, hr9, st9⟩ := own_clLoop cs1 fv a2 a3 k2 k3 cs hx hZ hw hby hml hown G0 ga hne hn1 cs.length 0 _ _ _ .unset (by omega) X0 e0 N0 O0 One.u Va vb0 (fun j hj => absurd hj (Nat.not_lt_zero _))
  rcases hr9 with ⟨u9, v9⟩ | ⟨hr8, -, V9⟩
  · exact absurd (u9 v9) (hl _ v9)
  subst hr8
  subst e9
  obtain ⟨fs, hr, hrun, hended, hW, hsame⟩ := X9.leave (v := some (.int cs.length.toInt32)) (fun h => by rw [Bd.returns] at h; cases h)
  refine ⟨_, _, pre0 _ ?_, hrun, hended, _, _, rfl, ?_, ⟨_, rfl⟩, hW, hsame.mono (by decide) (by decide)⟩
  · show own_St p e below s₁ m 0 #[vR (a2), vI ((0 : Int32)), vR (a3), vI ((0 : Int32)), vI (cs.length.toInt32), .unset, .unset] [] _
    refine XS.iconst X0.here hx rfl (hb hby d17_0) ?_
    refine XS.istore X0.here hx rfl (hb hby d17_1) rfl (l' := #[vR (a2), vI ((0 : Int32)), vR (a3), vI ((0 : Int32)), vI (cs.length.toInt32), vI ((0 : Int32)), .unset]) rfl ?_
    show own_St p e below s₁ m 3 #[vR (a2), vI ((0 : Nat).toInt32), vR (a3), vI ((0 : Nat).toInt32), vI (cs.length.toInt32), vI ((0 : Nat).toInt32), .unset] [] _
    refine st9 _ ?_
    rcases hq9 with rfl | rfl
    · exact retI X9 hx Bd.returns (hb hby d17_25) hr
    · exact retI X9 hx Bd.returns (hb hby d17_46) hr
  · exact ⟨rfl, N9, K9, V9⟩
def own_Qcb (cs : List Int32) (a3 : Addr) (h0 : Heap) (n0 : Nat) (v : Option Value) (h : Heap) (L : List Loc) : Prop := ∃ r : Nat, v = some (.int r.toInt32) ∧ Fr n0 L ∧ Keep h0 h [a3] ∧ ∃ hr : r < cs.length, (255 : Int32) < cs[r]
theorem r_clB (l : Launch) (Z : State) (a0 : Array Value) (hw : own_HW a0 Z) (ws : List Jvm.Cond) (cs1 : Int32) (fv : Value) (h0 : Heap) (n0 : Nat) (O0 : Old Z n0 h0) (G : own_Ctx Z Z.heap cs1 fv) (a2 a3 : Addr) (k2 k3 : ClassId) (cs : List Int32) (hn1 : cs.length ≤ 1000) (Va : Arv Z h0 a2 k2 .char cs.length.toInt32 (cs.map Value.int) (.int (0 : Int32))) (Vb : Arv Z h0 a3 k3 .byte cs.length.toInt32 (List.replicate cs.length (.int (0 : Int32))) (.int (0 : Int32))) (ga : n0 ≤ a3) (hne : a2 ≠ a3) (hl : ∃ j, ∃ hj : j < cs.length, (255 : Int32) < cs[j]) :
    own_M l Y0_ (head1 (Jvm.Cond.code Y0_ jdk_52_method_21_code 7 (some .int) :: ws) (own_rm_ 0 0 0 0)) #[(.ref a2), (.int (0 : Int32)), (.ref a3), (.int (0 : Int32)), (.int cs.length.toInt32)] Z h0 n0 (own_Qcb cs a3) (own_rm_ 0 0 0 0).cells (own_rm_ 0 0 0 0).slots := by
  have G0 := G
  refine MetFree.of_bodySF (plainFor_of_name pn_0) hisR ?_
  intro p e s m args below meth c s₁ Bd hml0 hP hK
  obtain ⟨rfl, hZ, hh⟩ := hP
  have hx := Bd.exec
  have hby := Bd.bytes
  have hml : c.maxLocals = 7 := hml0
  have hown := findClass_of_methodNamed Bd.named
  have X0 : Stand p l e (own_rm_ 0 0 0 0) s m #[(.ref a2), (.int (0 : Int32)), (.ref a3), (.int (0 : Int32)), (.int cs.length.toInt32)] below meth c s₁ [] 0 0 := Stand.of_body Bd
  have e0 : s₁.heap = h0 := by rw [← hh, Bd.state]; rfl
  have N0 := Fr.nil n0
  have pre0 := own_pre (tb := p.tables) (e := e) (below := below) (T := s₁) (ef_17_0 m a2 (0 : Int32) a3 (0 : Int32) cs.length.toInt32)
  have vb0 : Arv Z h0 a3 k3 .byte cs.length.toInt32 (own_fill (fun c => nar .byte c.toInt8.toInt32) cs 0) (.int (0 : Int32)) := by simpa [own_fill] using Vb
  obtain ⟨T9, h9, L9, r9, q9, Ls9, X9, e9, N9, O9, K9, hq9, hr9, st9⟩ := own_clLoop cs1 fv a2 a3 k2 k3 cs hx hZ hw hby hml hown G0 ga hne hn1 cs.length 0 _ _ _ .unset (by omega) X0 e0 N0 O0 One.u Va vb0 (fun j hj => absurd hj (Nat.not_lt_zero _))
  obtain ⟨u9, v9⟩ : _ ∧ r9 < cs.length := hr9.resolve_right (fun q => by obtain ⟨j, hj, hc⟩ := hl; exact q.2.1 j hj hc)
  subst e9
  obtain ⟨fs, hr, hrun, hended, hW, hsame⟩ := X9.leave (v := some (.int r9.toInt32)) (fun h => by rw [Bd.returns] at h; cases h)
  refine ⟨_, _, pre0 _ ?_, hrun, hended, _, _, rfl, ?_, ⟨_, rfl⟩, hW, hsame.mono (by decide) (by decide)⟩
  · show own_St p e below s₁ m 0 #[vR (a2), vI ((0 : Int32)), vR (a3), vI ((0 : Int32)), vI (cs.length.toInt32), .unset, .unset] [] _
    refine XS.iconst X0.here hx rfl (hb hby d17_0) ?_
    refine XS.istore X0.here hx rfl (hb hby d17_1) rfl (l' := #[vR (a2), vI ((0 : Int32)), vR (a3), vI ((0 : Int32)), vI (cs.length.toInt32), vI ((0 : Int32)), .unset]) rfl ?_
    show own_St p e below s₁ m 3 #[vR (a2), vI ((0 : Nat).toInt32), vR (a3), vI ((0 : Nat).toInt32), vI (cs.length.toInt32), vI ((0 : Nat).toInt32), .unset] [] _
    refine st9 _ ?_
    rcases hq9 with rfl | rfl
    · exact retI X9 hx Bd.returns (hb hby d17_25) hr
    · exact retI X9 hx Bd.returns (hb hby d17_46) hr
  · exact ⟨r9, rfl, N9, K9, v9, u9 v9⟩
theorem own_shl1 {i : Nat} (h : i ≤ 1000) : i.toInt32 <<< ((1 : Int32) &&& 31) = (2 * i).toInt32 := by
  apply Int32.toInt_inj.mp
  have e := len_toInt (n := i) (by omega)
  have e1 := len_toInt (n := 2 * i) (by omega)
  rw [Jvm.Kit.i32_shl _ _ (k := 1) (by decide) (by omega) (by omega), e, e1]; omega
theorem own_small {n k : Nat} (h : n ≤ k) (hk : k ≤ 1000) : n.toInt32 < (1073741823 : Int32) := by
  have e := len_toInt (n := n) (by omega)
  have z : (1073741823 : Int32).toInt = 1073741823 := rfl
  rw [Int32.lt_iff_toInt_lt, e, z]; omega

def own_two (c : Int32) : List Value := [.int (nar .byte ((c >>> ((0 : Int32) &&& 31)).toInt8.toInt32)), .int (nar .byte ((c >>> ((8 : Int32) &&& 31)).toInt8.toInt32))]
def own_fill2 (cs : List Int32) (i : Nat) : List Value := (cs.take i).flatMap own_two ++ List.replicate (2 * (cs.length - i)) (.int (0 : Int32))
theorem own_two_len (l : List Int32) : (l.flatMap own_two).length = 2 * l.length := by
  induction l with
  | nil => rfl
  | cons c l ih => simp only [List.flatMap_cons, List.length_append, ih, List.length_cons, own_two, List.length_nil]; omega
theorem own_fill2_len (cs : List Int32) {i : Nat} (h : i ≤ cs.length) : (own_fill2 cs i).length = 2 * cs.length := by
  simp only [own_fill2, List.length_append, own_two_len, List.length_take, List.length_replicate]; omega
theorem own_fill2_set (cs : List Int32) {i : Nat} (h : i < cs.length) : ((own_fill2 cs i).set (2 * i) (.int (nar .byte ((cs[i] >>> ((0 : Int32) &&& 31)).toInt8.toInt32)))).set (2 * i + 1) (.int (nar .byte ((cs[i] >>> ((8 : Int32) &&& 31)).toInt8.toInt32))) = own_fill2 cs (i + 1) := by
  have hA : ((cs.take i).flatMap own_two).length = 2 * i := by rw [own_two_len, List.length_take]; omega
  have hr : List.replicate (2 * (cs.length - i)) (Value.int (0 : Int32)) = .int (0 : Int32) :: .int (0 : Int32) :: List.replicate (2 * (cs.length - (i + 1))) (Value.int (0 : Int32)) := by
    rw [show 2 * (cs.length - i) = 2 * (cs.length - (i + 1)) + 1 + 1 by omega, List.replicate_succ, List.replicate_succ]
  have ht : cs.take (i + 1) = cs.take i ++ [cs[i]] := by rw [List.take_append_getElem h]
  simp only [own_fill2, hr, ht, List.flatMap_append, List.flatMap_cons, List.flatMap_nil, List.append_nil]
  generalize (cs.take i).flatMap own_two = A at *
  rw [List.set_append_right _ _ (by omega), hA, Nat.sub_self, List.set_cons_zero, List.set_append_right _ _ (by omega), hA, show 2 * i + 1 - 2 * i = 1 by omega]
  simp [own_two]
theorem own_fill2_all (cs : List Int32) : own_fill2 cs cs.length = cs.flatMap own_two := by simp [own_fill2]

theorem d40_0 : D40_ 0 = .ok (.iload_n 0, 1) := by decide +kernel
theorem d40_1 : D40_ 1 = .ok (.ifCond .ge 11, 3) := by decide +kernel
theorem d40_12 : D40_ 12 = .ok (.iload_n 0, 1) := by decide +kernel
theorem d40_13 : D40_ 13 = .ok (.ldc 20, 2) := by decide +kernel
theorem d40_15 : D40_ 15 = .ok (.if_icmp .lt 40, 3) := by decide +kernel
theorem d40_55 : D40_ 55 = .ok (.iload_n 0, 1) := by decide +kernel
theorem d40_56 : D40_ 56 = .ok (.iconst 1, 1) := by decide +kernel
theorem d40_57 : D40_ 57 = .ok (.ishl, 1) := by decide +kernel
theorem d40_58 : D40_ 58 = .ok (.ireturn, 1) := by decide +kernel
theorem ef_40_1 (m : MethodId) (x0 : Int32) : entryFrame m #[(.int x0)] 1 = mkF m 0 #[vI (x0)] [] := by first | (simp [entryFrame, mkF, argsToLocals, Value.category]; done) | rfl
theorem r_nbl (l : Launch) (Z : State) (a0 : Array Value) (hw : own_HW a0 Z) (ws : List Jvm.Cond) (cs1 : Int32) (fv : Value) (h0 : Heap) (n0 : Nat) (O0 : Old Z n0 h0) (G : own_Ctx Z Z.heap cs1 fv) (cs : List Int32) (hn : cs.length ≤ 4) :
    own_M l Y1_ (head1 (Jvm.Cond.code Y1_ jdk_52_method_3_code 1 (some .int) :: ws) (own_rm_ 0 0 0 0)) #[(.int cs.length.toInt32)] Z h0 n0 (own_Q (some (.int (2 * cs.length).toInt32))) (own_rm_ 0 0 0 0).cells (own_rm_ 0 0 0 0).slots := by
  have G0 := G
  refine MetFree.of_bodySF (plainFor_of_name pn_0) hisR ?_
  intro p e s m args below meth c s₁ Bd hml0 hP hK
  obtain ⟨rfl, hZ, hh⟩ := hP
  have hx := Bd.exec
  have hby := Bd.bytes
  have hml : c.maxLocals = 1 := hml0
  have hown := findClass_of_methodNamed Bd.named
  have X0 : Stand p l e (own_rm_ 0 0 0 0) s m #[(.int cs.length.toInt32)] below meth c s₁ [] 0 0 := Stand.of_body Bd
  have e0 : s₁.heap = h0 := by rw [← hh, Bd.state]; rfl
  have N0 := Fr.nil n0
  have pre0 := own_pre (tb := p.tables) (e := e) (below := below) (T := s₁) (ef_40_1 m cs.length.toInt32)
  obtain ⟨fs, hr, hrun, hended, hW, hsame⟩ := X0.leave (v := some (.int (2 * cs.length).toInt32)) (fun h => by rw [Bd.returns] at h; cases h)
  refine ⟨_, _, pre0 _ ?_, hrun, hended, _, _, rfl, ?_, ⟨_, rfl⟩, hW, hsame.mono (by decide) (by decide)⟩
  · show own_St p e below s₁ m 0 #[vI (cs.length.toInt32)] [] _
    refine XS.iloadN X0.here hx rfl (hb hby d40_0) rfl ?_
    refine XS.ifYes X0.here hx rfl (pc0 := 1) (pc' := 12) rfl (hb hby d40_1) rfl ((if0 _ _).trans (flt ((own_ti (i := cs.length) (by omega)).2.1 : ¬ (cs.length.toInt32 < (0 : Int32)))).2.1) (by decide) (by decide) ?_
    refine XS.iloadN X0.here hx rfl (hb hby d40_12) rfl ?_
    show own_St p e below s₁ m 13 #[vI (cs.length.toInt32)] [(.int cs.length.toInt32)] _
    refine X0.ldcInt hx hown (mvT hZ (own_w hw 187 rfl)) (g := (mkF m 13 #[vI (cs.length.toInt32)] [(.int cs.length.toInt32)])) rfl (hb hby d40_13) _ ?_
    show own_St p e below s₁ m 15 #[vI (cs.length.toInt32)] [(.int (1073741823 : Int32)), (.int cs.length.toInt32)] _
    refine XS.icmpYes X0.here hx rfl (pc0 := 15) (pc' := 55) rfl (hb hby d40_15) rfl (tlt (own_small hn (by decide) : cs.length.toInt32 < (1073741823 : Int32))).1 (by decide) (by decide) ?_
    refine XS.iloadN X0.here hx rfl (hb hby d40_55) rfl ?_
    refine XS.iconst X0.here hx rfl (hb hby d40_56) ?_
    show own_St p e below s₁ m 57 #[vI (cs.length.toInt32)] [(.int (1 : Int32)), (.int cs.length.toInt32)] _
    refine XS.ishl X0.here hx rfl (hb hby d40_57) rfl ?_
    show own_St p e below s₁ m 58 #[vI (cs.length.toInt32)] [(.int (cs.length.toInt32 <<< ((1 : Int32) &&& 31)))] _
    rw [own_shl1 (i := cs.length) (by omega)]
    show own_St p e below s₁ m 58 #[vI (cs.length.toInt32)] [(.int (2 * cs.length).toInt32)] _
    exact retI X0 hx Bd.returns (hb hby d40_58) hr
  · show own_Q (some (.int (2 * cs.length).toInt32)) h0 n0 _ s₁.heap _
    rw [e0]
    exact ⟨rfl, N0, rfl⟩
theorem d41_0 : D41_ 0 = .ok (.getstatic 44, 3) := by decide +kernel
theorem d41_3 : D41_ 3 = .ok (.ifCond .ne 25, 3) := by decide +kernel
theorem d41_28 : D41_ 28 = .ok (.iload_n 1, 1) := by decide +kernel
theorem d41_29 : D41_ 29 = .ok (.iconst 1, 1) := by decide +kernel
theorem d41_30 : D41_ 30 = .ok (.ishl, 1) := by decide +kernel
theorem d41_31 : D41_ 31 = .ok (.istore_n 1, 1) := by decide +kernel
theorem d41_32 : D41_ 32 = .ok (.aload_n 0, 1) := by decide +kernel
theorem d41_33 : D41_ 33 = .ok (.iload_n 1, 1) := by decide +kernel
theorem d41_34 : D41_ 34 = .ok (.iinc 1 1, 3) := by decide +kernel
theorem d41_37 : D41_ 37 = .ok (.iload_n 2, 1) := by decide +kernel
theorem d41_38 : D41_ 38 = .ok (.getstatic 59, 3) := by decide +kernel
theorem d41_41 : D41_ 41 = .ok (.ishr, 1) := by decide +kernel
theorem d41_42 : D41_ 42 = .ok (.i2b, 1) := by decide +kernel
theorem d41_43 : D41_ 43 = .ok (.bastore, 1) := by decide +kernel
theorem d41_44 : D41_ 44 = .ok (.aload_n 0, 1) := by decide +kernel
theorem d41_45 : D41_ 45 = .ok (.iload_n 1, 1) := by decide +kernel
theorem d41_46 : D41_ 46 = .ok (.iload_n 2, 1) := by decide +kernel
theorem d41_47 : D41_ 47 = .ok (.getstatic 63, 3) := by decide +kernel
theorem d41_50 : D41_ 50 = .ok (.ishr, 1) := by decide +kernel
theorem d41_51 : D41_ 51 = .ok (.i2b, 1) := by decide +kernel
theorem d41_52 : D41_ 52 = .ok (.bastore, 1) := by decide +kernel
theorem d41_53 : D41_ 53 = .ok (.return_, 1) := by decide +kernel
theorem ef_41_2 (m : MethodId) (x0 : Addr) (x1 : Int32) (x2 : Int32) : entryFrame m #[(.ref x0), (.int x1), (.int x2)] 3 = mkF m 0 #[vR (x0), vI (x1), vI (x2)] [] := by first | (simp [entryFrame, mkF, argsToLocals, Value.category]; done) | rfl
theorem r_pc (l : Launch) (Z : State) (a0 : Array Value) (hw : own_HW a0 Z) (ws : List Jvm.Cond) (cs1 : Int32) (fv : Value) (h0 : Heap) (n0 : Nat) (O0 : Old Z n0 h0) (G : own_Ctx Z Z.heap cs1 fv) (a3 : Addr) (k3 : ClassId) (vs3 : List Value) (z1 c1 : Int32) (i : Nat) (Vb : Arv Z h0 a3 k3 .byte z1 vs3 (.int (0 : Int32))) (ga : n0 ≤ a3) (hi : i ≤ 400) (hz : 2 * i + 1 < vs3.length) (hz1 : z1 = vs3.length.toInt32) (hz2 : vs3.length ≤ 1000) :
    own_M l Y2_ (head1 (Jvm.Cond.code Y2_ jdk_52_method_4_code 3 none :: ws) (own_rm_ 0 0 0 0)) #[(.ref a3), (.int i.toInt32), (.int c1)] Z h0 n0 (own_QW Z none a3 k3 .byte z1 ((vs3.set (2 * i) (.int (nar .byte ((c1 >>> ((0 : Int32) &&& 31)).toInt8.toInt32)))).set (2 * i + 1) (.int (nar .byte ((c1 >>> ((8 : Int32) &&& 31)).toInt8.toInt32))))) (own_rm_ 0 0 0 0).cells (own_rm_ 0 0 0 0).slots := by
  have G0 := G
  obtain ⟨S_CS, N_CS, S_F, R_F, S_AD, S_HI, S_LO⟩ := G
  refine MetFree.of_bodySF (plainFor_of_name pn_0) hisR ?_
  intro p e s m args below meth c s₁ Bd hml0 hP hK
  obtain ⟨rfl, hZ, hh⟩ := hP
  have hx := Bd.exec
  have hby := Bd.bytes
  have hml : c.maxLocals = 3 := hml0
  have hown := findClass_of_methodNamed Bd.named
  have X0 : Stand p l e (own_rm_ 0 0 0 0) s m #[(.ref a3), (.int i.toInt32), (.int c1)] below meth c s₁ [] 0 0 := Stand.of_body Bd
  have e0 : s₁.heap = h0 := by rw [← hh, Bd.state]; rfl
  have N0 := Fr.nil n0
  have pre0 := own_pre (tb := p.tables) (e := e) (below := below) (T := s₁) (ef_41_2 m a3 i.toInt32 c1)
  obtain ⟨T1, X1, e1, st1⟩ := getS2 X0 hx hZ hown (host := "") (Or.inl (own_w hw 191 rfl)) Via.refl e0 (S_AD.ext O0.2) (g := (mkF m 0 #[vR (a3), vI (i.toInt32), vI (c1)] [])) rfl (hb hby d41_0)
  obtain ⟨T2, X2, e2, st2⟩ := getS2 X1 hx hZ hown (host := "") (Or.inl (own_w hw 192 rfl)) Via.refl e1 (S_HI.ext O0.2) (g := (mkF m 38 #[vR (a3), vI ((2 * i + 1).toInt32), vI (c1)] [(.int c1), (.int (2 * i).toInt32), (.ref a3)])) rfl (hb hby d41_38)
  have vc3 := Vb
  obtain ⟨cl3, Ar3, qk3, S3, Nn3, Hs3, Gf3⟩ := vc3
  have hin3 : ¬ ((2 * i).toInt32 < 0 ∨ cl3.slots.size ≤ ((2 * i).toInt32).toNatClampNeg) := inb_of S3 ⟨(own_ti (i := 2 * i) (by omega)).2.1, by rw [hz1]; exact own_tl (by omega) hz2⟩
  obtain ⟨T4, h4, X4, e4, W4, st4⟩ := stB X2 hx hZ e2 Ar3 (j := (2 * i).toInt32) hin3 (g := (mkF m 43 #[vR (a3), vI ((2 * i + 1).toInt32), vI (c1)] [(.int ((c1 >>> ((0 : Int32) &&& 31)).toInt8.toInt32)), (.int (2 * i).toInt32), (.ref a3)])) rfl rfl (hb hby d41_43)
  have O4 := O0.wr W4 ga
  have K4 : Keep h0 h4 [a3] := (Keep.refl h0 [a3]).wr W4 (Or.inl (List.mem_of_getElem? (i := 0) rfl))
  have N4 := Fr.snoc X4 N0 ga
  have f5 : Arv Z h4 a3 k3 .byte z1 (List.set vs3 ((2 * i).toInt32).toNatClampNeg (.int (nar .byte ((c1 >>> ((0 : Int32) &&& 31)).toInt8.toInt32)))) (.int (0 : Int32)) := Arv.set Ar3 qk3 S3 Nn3 Hs3 Gf3 (fits_nar_byte _) W4 ((2 * i).toInt32).toNatClampNeg rfl (by rw [(own_ti (i := 2 * i) (by omega)).1]; omega)
  obtain ⟨T6, X6, e6, st6⟩ := getS2 X4 hx hZ hown (host := "") (Or.inl (own_w hw 193 rfl)) Via.refl e4 (S_LO.ext O4.2) (g := (mkF m 47 #[vR (a3), vI ((2 * i + 1).toInt32), vI (c1)] [(.int c1), (.int (2 * i + 1).toInt32), (.ref a3)])) rfl (hb hby d41_47)
  have vc7 := f5
  obtain ⟨cl7, Ar7, qk7, S7, Nn7, Hs7, Gf7⟩ := vc7
  have hin7 : ¬ ((2 * i + 1).toInt32 < 0 ∨ cl7.slots.size ≤ ((2 * i + 1).toInt32).toNatClampNeg) := inb_of S7 ⟨(own_ti (i := 2 * i + 1) (by omega)).2.1, by rw [hz1]; exact own_tl (by omega) hz2⟩
  obtain ⟨T8, h8, X8, e8, W8, st8⟩ := stB X6 hx hZ e6 Ar7 (j := (2 * i + 1).toInt32) hin7 (g := (mkF m 52 #[vR (a3), vI ((2 * i + 1).toInt32), vI (c1)] [(.int ((c1 >>> ((8 : Int32) &&& 31)).toInt8.toInt32)), (.int (2 * i + 1).toInt32), (.ref a3)])) rfl rfl (hb hby d41_52)
  have O8 := O4.wr W8 ga
  have K8 : Keep h0 h8 [a3] := K4.wr W8 (Or.inl (List.mem_of_getElem? (i := 0) rfl))
  have N8 := Fr.snoc X8 N4 ga
  have f9 : Arv Z h8 a3 k3 .byte z1 (List.set (List.set vs3 ((2 * i).toInt32).toNatClampNeg (.int (nar .byte ((c1 >>> ((0 : Int32) &&& 31)).toInt8.toInt32)))) ((2 * i + 1).toInt32).toNatClampNeg (.int (nar .byte ((c1 >>> ((8 : Int32) &&& 31)).toInt8.toInt32)))) (.int (0 : Int32)) := Arv.set Ar7 qk7 S7 Nn7 Hs7 Gf7 (fits_nar_byte _) W8 ((2 * i + 1).toInt32).toNatClampNeg rfl (by rw [(own_ti (i := 2 * i + 1) (by omega)).1, List.length_set]; omega)
  obtain ⟨fs, hr, hrun, hended, hW, hsame⟩ := X8.leave (v := none) (fun _ => rfl)
  refine ⟨_, _, pre0 _ ?_, hrun, hended, _, _, rfl, ?_, ⟨_, rfl⟩, hW, hsame.mono (by decide) (by decide)⟩
  · show own_St p e below s₁ m 0 #[vR (a3), vI (i.toInt32), vI (c1)] [] _
    refine st1 _ ?_
    show own_St p e below T1 m 3 #[vR (a3), vI (i.toInt32), vI (c1)] [(.int (1 : Int32))] _
    refine XS.ifYes X1.here hx rfl (pc0 := 3) (pc' := 28) rfl (hb hby d41_3) rfl ((if0 _ _).trans (feq (by decide : ¬ ((1 : Int32) = (0 : Int32)))).2) (by decide) (by decide) ?_
    refine XS.iloadN X1.here hx rfl (hb hby d41_28) rfl ?_
    refine XS.iconst X1.here hx rfl (hb hby d41_29) ?_
    show own_St p e below T1 m 30 #[vR (a3), vI (i.toInt32), vI (c1)] [(.int (1 : Int32)), (.int i.toInt32)] _
    refine XS.ishl X1.here hx rfl (hb hby d41_30) rfl ?_
    show own_St p e below T1 m 31 #[vR (a3), vI (i.toInt32), vI (c1)] [(.int (i.toInt32 <<< ((1 : Int32) &&& 31)))] _
    rw [own_shl1 (i := i) (by omega)]
    show own_St p e below T1 m 31 #[vR (a3), vI (i.toInt32), vI (c1)] [(.int (2 * i).toInt32)] _
    refine XS.istoreN X1.here hx rfl (hb hby d41_31) rfl (l' := #[vR (a3), vI ((2 * i).toInt32), vI (c1)]) rfl ?_
    refine XS.aloadN X1.here hx rfl (hb hby d41_32) rfl rfl ?_
    refine XS.iloadN X1.here hx rfl (hb hby d41_33) rfl ?_
    show own_St p e below T1 m 34 #[vR (a3), vI ((2 * i).toInt32), vI (c1)] [(.int (2 * i).toInt32), (.ref a3)] _
    refine XS.iinc X1.here hx rfl (hb hby d41_34) rfl (l' := #[vR (a3), vI (((2 * i).toInt32 + (1 : Int32))), vI (c1)]) rfl ?_
    show own_St p e below T1 m 37 #[vR (a3), vI (((2 * i).toInt32 + (1 : Int32))), vI (c1)] [(.int (2 * i).toInt32), (.ref a3)] _
    rw [own_ts (i := 2 * i) (by omega)]
    show own_St p e below T1 m 37 #[vR (a3), vI ((2 * i + 1).toInt32), vI (c1)] [(.int (2 * i).toInt32), (.ref a3)] _
    refine XS.iloadN X1.here hx rfl (hb hby d41_37) rfl ?_
    show own_St p e below T1 m 38 #[vR (a3), vI ((2 * i + 1).toInt32), vI (c1)] [(.int c1), (.int (2 * i).toInt32), (.ref a3)] _
    refine st2 _ ?_
    show own_St p e below T2 m 41 #[vR (a3), vI ((2 * i + 1).toInt32), vI (c1)] [(.int (0 : Int32)), (.int c1), (.int (2 * i).toInt32), (.ref a3)] _
    refine XS.ishr X2.here hx rfl (hb hby d41_41) rfl ?_
    refine XS.i2b X2.here hx rfl (hb hby d41_42) rfl ?_
    show own_St p e below T2 m 43 #[vR (a3), vI ((2 * i + 1).toInt32), vI (c1)] [(.int ((c1 >>> ((0 : Int32) &&& 31)).toInt8.toInt32)), (.int (2 * i).toInt32), (.ref a3)] _
    refine st4 _ ?_
    show own_St p e below T4 m 44 #[vR (a3), vI ((2 * i + 1).toInt32), vI (c1)] [] _
    refine XS.aloadN X4.here hx rfl (hb hby d41_44) rfl rfl ?_
    refine XS.iloadN X4.here hx rfl (hb hby d41_45) rfl ?_
    refine XS.iloadN X4.here hx rfl (hb hby d41_46) rfl ?_
    show own_St p e below T4 m 47 #[vR (a3), vI ((2 * i + 1).toInt32), vI (c1)] [(.int c1), (.int (2 * i + 1).toInt32), (.ref a3)] _
    refine st6 _ ?_
    show own_St p e below T6 m 50 #[vR (a3), vI ((2 * i + 1).toInt32), vI (c1)] [(.int (8 : Int32)), (.int c1), (.int (2 * i + 1).toInt32), (.ref a3)] _
    refine XS.ishr X6.here hx rfl (hb hby d41_50) rfl ?_
    refine XS.i2b X6.here hx rfl (hb hby d41_51) rfl ?_
    show own_St p e below T6 m 52 #[vR (a3), vI ((2 * i + 1).toInt32), vI (c1)] [(.int ((c1 >>> ((8 : Int32) &&& 31)).toInt8.toInt32)), (.int (2 * i + 1).toInt32), (.ref a3)] _
    refine st8 _ ?_
    show own_St p e below T8 m 53 #[vR (a3), vI ((2 * i + 1).toInt32), vI (c1)] [] _
    exact X8.returnOut hx Bd.returns (hb hby d41_53) hr
  · show own_QW Z none a3 k3 .byte z1 ((vs3.set (2 * i) (.int (nar .byte ((c1 >>> ((0 : Int32) &&& 31)).toInt8.toInt32)))).set (2 * i + 1) (.int (nar .byte ((c1 >>> ((8 : Int32) &&& 31)).toInt8.toInt32)))) h0 n0 _ T8.heap _
    rw [e8]
    exact ⟨rfl, N8, K8, by have q := f9; rw [(own_ti (i := 2 * i) (by omega)).1, (own_ti (i := 2 * i + 1) (by omega)).1] at q; exact q⟩
theorem d39_0 : D39_ 0 = .ok (.iload_n 0, 1) := by decide +kernel
theorem d39_1 : D39_ 1 = .ok (.invokestatic 11, 3) := by decide +kernel
theorem pd_0 : parseMethodDescriptor "(I)I" = some ⟨[.int], some .int⟩ := by decide +kernel
theorem d39_4 : D39_ 4 = .ok (.newarray .byte, 2) := by decide +kernel
theorem d39_6 : D39_ 6 = .ok (.areturn, 1) := by decide +kernel
theorem ef_39_3 (m : MethodId) (x0 : Int32) : entryFrame m #[(.int x0)] 1 = mkF m 0 #[vI (x0)] [] := by first | (simp [entryFrame, mkF, argsToLocals, Value.category]; done) | rfl
theorem r_nbf (l : Launch) (Z : State) (a0 : Array Value) (hw : own_HW a0 Z) (ws : List Jvm.Cond) (cs1 : Int32) (fv : Value) (h0 : Heap) (n0 : Nat) (O0 : Old Z n0 h0) (G : own_Ctx Z Z.heap cs1 fv) (cs : List Int32) (hn : cs.length ≤ 4) :
    own_M l Y3_ (head1 (Jvm.Cond.code Y3_ jdk_52_method_2_code 1 (some (.array .byte)) :: ws) (own_rm_ 1 1 8 12)) #[(.int cs.length.toInt32)] Z h0 n0 (own_QA Z .byte (2 * cs.length).toInt32 (List.replicate (2 * cs.length) (.int (0 : Int32)))) (own_rm_ 1 1 8 12).cells (own_rm_ 1 1 8 12).slots := by
  have G0 := G
  refine MetFree.of_bodySF (plainFor_of_name pn_0) hisR ?_
  intro p e s m args below meth c s₁ Bd hml0 hP hK
  obtain ⟨rfl, hZ, hh⟩ := hP
  have hx := Bd.exec
  have hby := Bd.bytes
  have hml : c.maxLocals = 1 := hml0
  have hown := findClass_of_methodNamed Bd.named
  have X0 : Stand p l e (own_rm_ 1 1 8 12) s m #[(.int cs.length.toInt32)] below meth c s₁ [] 0 0 := Stand.of_body Bd
  have e0 : s₁.heap = h0 := by rw [← hh, Bd.state]; rfl
  have N0 := Fr.nil n0
  have pre0 := own_pre (tb := p.tables) (e := e) (below := below) (T := s₁) (ef_39_3 m cs.length.toInt32)
  obtain ⟨_, _, ⟨T1, L1, k1, n1⟩, -, X1, ⟨Lc1, hQ1, l1, y1, z1⟩, st1⟩ := Jvm.LawKit.callS X0 hx (y := Y1_) hown (mvT hZ (own_w hw 184 rfl)) (mvT hZ (own_w hw 185 rfl)) (mvT hZ (own_w hw 77 rfl)) (mvT hZ (own_w hw 186 rfl)) (by decide) (backOf (W := 0) (r_nbl l Z a0 hw [] cs1 fv h0 n0 O0 G0 cs hn) hZ (own_w hw 186 rfl) (own_w hw 77 rfl) (by decide) (by decide)) (g := (mkF m 1 #[vI (cs.length.toInt32)] [(.int cs.length.toInt32)])) rfl (by rw [hml]; rfl) (argsL := [(.int cs.length.toInt32)]) (rest := []) (lenOf pd_0 rfl) rfl (by show 2 * 0 + _ ≤ _; exact Nat.le_of_eq rfl) (hb hby d39_1) (fun _ _ => ⟨rfl, e0, (by decide : 0 + 0 ≤ _), (by decide : 0 + 0 ≤ _)⟩)
  dsimp only [Pt.U, Pt.locs, Pt.cells, Pt.slots] at X1 l1 y1 z1 st1 hQ1
  subst l1 y1 z1
  obtain ⟨rfl, N1q, e1⟩ := hQ1
  have N1 := Fr.app N0 N1q
  obtain ⟨T2, h2, ka2, X2, e2, E2, A2, st2⟩ := newP X1 hx hZ (own_w hw 20 rfl) e1 (g := (mkF m 4 #[vI (cs.length.toInt32)] [(.int (2 * cs.length).toInt32)])) rfl (hb hby d39_4) rfl (own_ti (i := 2 * cs.length) (by omega)).2.1 (cap := 8) (by rw [(own_ti (i := 2 * cs.length) (by omega)).1]; omega) (by decide) (by decide) (by decide)
  obtain ⟨b2, g2⟩ : ∃ z, z = h0.size := ⟨_, rfl⟩
  have g_b2 : n0 ≤ b2 := Nat.le_trans (O0.1 ▸ O0.2.1) (Nat.le_of_eq g2.symm)
  have sz_b2 : h0.size ≤ b2 := Nat.le_trans (Keep.refl h0 []).1 (Nat.le_of_eq g2.symm)
  rw [← g2] at A2 st2
  have O2 := O0.ext E2
  have K2 : Keep h0 h2 [] := (Keep.refl h0 []).ext E2
  have V2 : Arv Z h2 b2 ka2 .byte (2 * cs.length).toInt32 (List.replicate (2 * cs.length) (.int (0 : Int32))) (.int (0 : Int32)) := (Arv.new A2 (own_ti (i := 2 * cs.length) (by omega)).2.1).pad (pad_rep [] (.int (0 : Int32)) (2 * cs.length))
  obtain ⟨fs, hr, hrun, hended, hW, hsame⟩ := X2.leave (v := some (.ref b2)) (fun h => by rw [Bd.returns] at h; cases h)
  refine ⟨_, _, pre0 _ ?_, hrun, hended, _, _, rfl, ?_, ⟨_, rfl⟩, hW, hsame.mono (by decide) (by decide)⟩
  · show own_St p e below s₁ m 0 #[vI (cs.length.toInt32)] [] _
    refine XS.iloadN X0.here hx rfl (hb hby d39_0) rfl ?_
    show own_St p e below s₁ m 1 #[vI (cs.length.toInt32)] [(.int cs.length.toInt32)] _
    refine st1 _ ?_
    show own_St p e below T1 m 4 #[vI (cs.length.toInt32)] [(.int (2 * cs.length).toInt32)] _
    refine st2 _ ?_
    show own_St p e below T2 m 6 #[vI (cs.length.toInt32)] [(.ref b2)] _
    exact retOut X2 hx Bd.returns rfl (Or.inr (Or.inr (Or.inr (Or.inr ⟨rfl, rfl, rfl⟩)))) (hb hby d39_6) hr
  · show own_QA Z .byte (2 * cs.length).toInt32 (List.replicate (2 * cs.length) (.int (0 : Int32))) h0 n0 _ T2.heap _
    rw [e2]
    exact ⟨b2, ka2, rfl, N1, K2, sz_b2, V2⟩
theorem own_two_get (cs : List Int32) {i : Nat} (h : i < cs.length) : (cs.flatMap own_two).getD (2 * i) (.int (0 : Int32)) = .int (nar .byte ((cs[i] >>> ((0 : Int32) &&& 31)).toInt8.toInt32)) ∧ (cs.flatMap own_two).getD (2 * i + 1) (.int (0 : Int32)) = .int (nar .byte ((cs[i] >>> ((8 : Int32) &&& 31)).toInt8.toInt32)) := by
  induction cs generalizing i with
  | nil => simp at h
  | cons c cs ih =>
    cases i with
    | zero => exact ⟨rfl, rfl⟩
    | succ i =>
      have q := ih (i := i) (by simpa using h)
      rw [List.flatMap_cons]
      show (List.getD (_ :: _ :: _) _ _ = _) ∧ (List.getD (_ :: _ :: _) _ _ = _)
      rw [show 2 * (i + 1) = 2 * i + 1 + 1 by omega, show 2 * i + 1 + 1 + 1 = (2 * i + 1) + 1 + 1 by omega]
      simpa using q
theorem own_shr1 {i : Nat} (h : i ≤ 400) : (2 * i).toInt32 >>> ((1 : Int32) &&& 31) = i.toInt32 := by
  apply Int32.toInt_inj.mp
  have e := len_toInt (n := i) (by omega)
  have e1 := len_toInt (n := 2 * i) (by omega)
  rw [Jvm.Kit.i32_shr _ _ (k := 1) (by decide), e, e1]; omega
theorem own_k {n : Nat} (h : n ≤ 4) : n ≤ 1000 := by omega
theorem own_ki {i n : Nat} (h : i < n) (hn : n ≤ 4) : i ≤ 1000 := by omega
theorem own_two_in {i n : Nat} (h : i < n) (hn : n ≤ 4) : (2 * i).toInt32 < (2 * n).toInt32 ∧ (2 * i + 1).toInt32 < (2 * n).toInt32 := ⟨own_tl (by omega) (by omega), own_tl (by omega) (by omega)⟩
theorem own_2ti {i n : Nat} (h : i < n) (hn : n ≤ 4) : (2 * i).toInt32.toNatClampNeg = 2 * i ∧ (2 * i + 1).toInt32.toNatClampNeg = 2 * i + 1 ∧ ¬ ((2 * i).toInt32 < 0) ∧ ¬ ((2 * i + 1).toInt32 < 0) := ⟨(own_ti (by omega)).1, (own_ti (by omega)).1, (own_ti (by omega)).2.1, (own_ti (by omega)).2.1⟩
theorem own_fe {i n : Nat} (h : i < n) (hn : n ≤ 4) : ¬ (i.toInt32 = n.toInt32) := by
  have e := len_toInt (n := i) (by omega)
  have e1 := len_toInt (n := n) (by omega)
  intro q; have := congrArg Int32.toInt q; omega
theorem own_cd {n : Nat} (h : 1 ≤ n) (hn : n ≤ 4) : (((n.toInt32 - n.toInt32).toUInt32 >>> ((31 : Int32) &&& 31).toUInt32).toInt32).toInt8.toInt32 = (0 : Int32) ∧ (((n.toInt32 - (2 * n).toInt32).toUInt32 >>> ((31 : Int32) &&& 31).toUInt32).toInt32).toInt8.toInt32 = (1 : Int32) := by
  have h3 : n = 1 ∨ n = 2 ∨ n = 3 ∨ n = 4 := by omega
  rcases h3 with rfl | rfl | rfl | rfl <;> decide
def own_Bd (cs : List Int32) : Prop := ∀ j (hj : j < cs.length), ¬ (cs[j] < (0 : Int32)) ∧ ¬ ((65535 : Int32) < cs[j])
def own_Lat (cs : List Int32) : Prop := ∀ j (hj : j < cs.length), ¬ ((255 : Int32) < cs[j])
theorem own_atf (f : Int32 → Int32) {cs : List Int32} {i : Nat} (h : i < cs.length) : (cs.map (fun c => Value.int (f c))).getD i (.int (0 : Int32)) = .int (f cs[i]) := by simp [List.getD_eq_getElem?_getD, h]

theorem d38_8 : D38_ 8 = .ok (.iload 4, 2) := by decide +kernel
theorem d38_10 : D38_ 10 = .ok (.iload_n 2, 1) := by decide +kernel
theorem d38_11 : D38_ 11 = .ok (.if_icmp .ge 21, 3) := by decide +kernel
theorem d38_14 : D38_ 14 = .ok (.aload_n 3, 1) := by decide +kernel
theorem d38_15 : D38_ 15 = .ok (.iload 4, 2) := by decide +kernel
theorem d38_17 : D38_ 17 = .ok (.aload_n 0, 1) := by decide +kernel
theorem d38_18 : D38_ 18 = .ok (.iload_n 1, 1) := by decide +kernel
theorem d38_19 : D38_ 19 = .ok (.caload, 1) := by decide +kernel
theorem d38_20 : D38_ 20 = .ok (.invokestatic 111, 3) := by decide +kernel
theorem pd_1 : parseMethodDescriptor "([BII)V" = some ⟨[(.array .byte), .int, .int], none⟩ := by decide +kernel
theorem d38_23 : D38_ 23 = .ok (.iinc 1 1, 3) := by decide +kernel
theorem d38_26 : D38_ 26 = .ok (.iinc 4 1, 3) := by decide +kernel
theorem d38_29 : D38_ 29 = .ok (.goto (-21), 3) := by decide +kernel
theorem t_tb {p : Program} {l : Launch} {e : Env} {s : State} {m : MethodId} {args : Array Value} {below : List Frame} {meth : Method} {c : Code} {T0 : State} {locs : List Loc} {Z : State} {a0 : Array Value} {h0 : Heap} {n0 : Nat} (cs1 : Int32) (fv : Value) (a2 a3 : Addr) (k2 k3 : ClassId) (cs : List Int32) (i : Nat)
    (X0 : Stand p l e (own_rm_ 2 1 8 24) s m args below meth c T0 locs 1 8) (hx : p.tables.exec = Jvm.exec) (hZ : Z.Warmed39 s.vm) (hw : own_HW a0 Z) (hby : c.code = jdk_52_method_14_code) (hml : c.maxLocals = 5) (hown : s.vm.findClass "java/lang/StringUTF16" = some m.cls) (e0 : T0.heap = h0) (N0 : Fr n0 locs) (O0 : Old Z n0 h0) (G : own_Ctx Z Z.heap cs1 fv) (Va : Arv Z h0 a2 k2 .char cs.length.toInt32 (cs.map Value.int) (.int (0 : Int32))) (Vb : Arv Z h0 a3 k3 .byte (2 * cs.length).toInt32 (own_fill2 cs i) (.int (0 : Int32))) (ga : n0 ≤ a3) (hne : a2 ≠ a3) (hi : i < cs.length) (hn : cs.length ≤ 4) :
    ∃ (T' : State) (h' : Heap) (L' : List Loc), Stand p l e (own_rm_ 2 1 8 24) s m args below meth c T' L' 1 8 ∧ T'.heap = h' ∧ Fr n0 L' ∧ Old Z n0 h' ∧ Keep h0 h' [a3] ∧ (Arv Z h' a2 k2 .char cs.length.toInt32 (cs.map Value.int) (.int (0 : Int32))) ∧ (Arv Z h' a3 k3 .byte (2 * cs.length).toInt32 (own_fill2 cs (i + 1)) (.int (0 : Int32))) ∧ ∀ target, Steps p.tables e below (T'.setTop (mkF m 8 #[vR (a2), vI ((i.toInt32 + (1 : Int32))), vI (cs.length.toInt32), vR (a3), vI ((i.toInt32 + (1 : Int32)))] [])) target → Steps p.tables e below (T0.setTop (mkF m 8 #[vR (a2), vI (i.toInt32), vI (cs.length.toInt32), vR (a3), vI (i.toInt32)] [])) target := by
  have G0 := G
  have hi400 : i ≤ 400 := by omega
  have hpz : 2 * i + 1 < (own_fill2 cs i).length := by rw [own_fill2_len cs (Nat.le_of_lt hi)]; omega
  have hpl : (2 * cs.length).toInt32 = (own_fill2 cs i).length.toInt32 := by rw [own_fill2_len cs (Nat.le_of_lt hi)]
  have hp1000 : (own_fill2 cs i).length ≤ 1000 := by rw [own_fill2_len cs (Nat.le_of_lt hi)]; omega
  have vc1 := Va
  obtain ⟨cl1, Ar1, qk1, S1, Nn1, Hs1, Gf1⟩ := vc1
  have hin1 : ¬ (i.toInt32 < 0 ∨ cl1.slots.size ≤ (i.toInt32).toNatClampNeg) := inb_of S1 ⟨(own_ti (own_ki hi hn)).2.1, own_tl hi (own_k hn)⟩
  have hat1 : cl1.slots[(i.toInt32).toNatClampNeg]? = some (.int cs[i]) := Has.at Hs1 hin1 (by rw [(own_ti (own_ki hi hn)).1]; exact own_at hi)
  obtain ⟨_, _, ⟨T2, L2, k2, n2⟩, -, X2, ⟨Lc2, hQ2, l2, y2, z2⟩, st2⟩ := Jvm.LawKit.callS X0 hx (y := Y2_) hown (mvT hZ (own_w hw 188 rfl)) (mvT hZ (own_w hw 189 rfl)) (mvT hZ (own_w hw 77 rfl)) (mvT hZ (own_w hw 190 rfl)) (by decide) (backOf (W := 0) (r_pc l Z a0 hw [] cs1 fv h0 n0 O0 G0 a3 k3 (own_fill2 cs i) (2 * cs.length).toInt32 cs[i] i Vb ga hi400 hpz hpl hp1000) hZ (own_w hw 190 rfl) (own_w hw 77 rfl) (by decide) (by decide)) (g := (mkF m 20 #[vR (a2), vI (i.toInt32), vI (cs.length.toInt32), vR (a3), vI (i.toInt32)] [(.int cs[i]), (.int i.toInt32), (.ref a3)])) rfl (by rw [hml]; rfl) (argsL := [(.ref a3), (.int i.toInt32), (.int cs[i])]) (rest := []) (lenOf pd_1 rfl) rfl (by show 2 * 0 + _ ≤ _; exact Nat.le_of_eq rfl) (hb hby d38_20) (fun _ _ => ⟨rfl, e0, (by decide : 1 + 0 ≤ _), (by decide : 8 + 0 ≤ _)⟩)
  dsimp only [Pt.U, Pt.locs, Pt.cells, Pt.slots] at X2 l2 y2 z2 st2 hQ2
  subst l2 y2 z2
  obtain ⟨rfl, N2q, Kq2, Vb2⟩ := hQ2
  have N2 := Fr.app N0 N2q
  have f3 := Va.keep Kq2 (fun q => (List.mem_cons.mp q).elim hne (fun q => nomatch q))
  have O2 := O0.keep Kq2 (allS ga all0)
  have K2 : Keep h0 T2.heap [a3] := (Keep.refl h0 [a3]).trans Kq2 (allS (Or.inl (List.mem_of_getElem? (i := 0) rfl)) all0)
  refine ⟨T2, T2.heap, _, X2, rfl, N2, O2, K2, f3, (own_fill2_set cs hi ▸ Vb2), fun target kt => ?_⟩
  show own_St p e below T0 m 8 #[vR (a2), vI (i.toInt32), vI (cs.length.toInt32), vR (a3), vI (i.toInt32)] [] _
  refine XS.iload X0.here hx rfl (hb hby d38_8) rfl ?_
  refine XS.iloadN X0.here hx rfl (hb hby d38_10) rfl ?_
  refine XS.icmpNo X0.here hx rfl (hb hby d38_11) rfl (tlt ((own_tl hi (own_k hn)) : i.toInt32 < cs.length.toInt32)).2.1 ?_
  refine XS.aloadN X0.here hx rfl (hb hby d38_14) rfl rfl ?_
  refine XS.iload X0.here hx rfl (hb hby d38_15) rfl ?_
  refine XS.aloadN X0.here hx rfl (hb hby d38_17) rfl rfl ?_
  refine XS.iloadN X0.here hx rfl (hb hby d38_18) rfl ?_
  show own_St p e below T0 m 19 #[vR (a2), vI (i.toInt32), vI (cs.length.toInt32), vR (a3), vI (i.toInt32)] [(.int i.toInt32), (.ref a2), (.int i.toInt32), (.ref a3)] _
  refine X0.caload hx (j := i.toInt32) (v := (.int cs[i])) (by rw [e0]; exact Ar1.1) (State.isArrayOf_alike hZ.alike Ar1.2.1) Ar1.2.2 hin1 hat1 (g := (mkF m 19 #[vR (a2), vI (i.toInt32), vI (cs.length.toInt32), vR (a3), vI (i.toInt32)] [(.int i.toInt32), (.ref a2), (.int i.toInt32), (.ref a3)])) rfl rfl (hb hby d38_19) _ ?_
  show own_St p e below T0 m 20 #[vR (a2), vI (i.toInt32), vI (cs.length.toInt32), vR (a3), vI (i.toInt32)] [(.int cs[i]), (.int i.toInt32), (.ref a3)] _
  refine st2 _ ?_
  show own_St p e below T2 m 23 #[vR (a2), vI (i.toInt32), vI (cs.length.toInt32), vR (a3), vI (i.toInt32)] [] _
  refine XS.iinc X2.here hx rfl (hb hby d38_23) rfl (l' := #[vR (a2), vI ((i.toInt32 + (1 : Int32))), vI (cs.length.toInt32), vR (a3), vI (i.toInt32)]) rfl ?_
  show own_St p e below T2 m 26 #[vR (a2), vI ((i.toInt32 + (1 : Int32))), vI (cs.length.toInt32), vR (a3), vI (i.toInt32)] [] _
  refine XS.iinc X2.here hx rfl (hb hby d38_26) rfl (l' := #[vR (a2), vI ((i.toInt32 + (1 : Int32))), vI (cs.length.toInt32), vR (a3), vI ((i.toInt32 + (1 : Int32)))]) rfl ?_
  show own_St p e below T2 m 29 #[vR (a2), vI ((i.toInt32 + (1 : Int32))), vI (cs.length.toInt32), vR (a3), vI ((i.toInt32 + (1 : Int32)))] [] _
  refine XS.goto X2.here hx rfl (pc0 := 29) (pc' := 8) rfl (hb hby d38_29) (by decide) (by decide) ?_
  exact kt
theorem t_tbe {p : Program} {l : Launch} {e : Env} {R : Room} {s : State} {m : MethodId} {args : Array Value} {below : List Frame} {meth : Method} {c : Code} {T0 : State} {locs : List Loc} {cells slots : Nat} {Z : State} {a0 : Array Value} {h0 : Heap} {n0 : Nat} (cs1 : Int32) (fv : Value) (a2 a3 : Addr) (i1 z1 : Int32)
    (X0 : Stand p l e R s m args below meth c T0 locs cells slots) (hx : p.tables.exec = Jvm.exec) (hZ : Z.Warmed39 s.vm) (hw : own_HW a0 Z) (hby : c.code = jdk_52_method_14_code) (hml : c.maxLocals = 5) (hown : s.vm.findClass "java/lang/StringUTF16" = some m.cls) (e0 : T0.heap = h0) (O0 : Old Z n0 h0) (G : own_Ctx Z Z.heap cs1 fv) (hi2 : ¬ (i1 < z1)) :
    ∃ T' : State, Stand p l e R s m args below meth c T' locs cells slots ∧ T'.heap = h0 ∧ ∀ target, Steps p.tables e below (T'.setTop (mkF m 32 #[vR (a2), vI (i1), vI (z1), vR (a3), vI (i1)] [])) target → Steps p.tables e below (T0.setTop (mkF m 8 #[vR (a2), vI (i1), vI (z1), vR (a3), vI (i1)] [])) target := by
  have G0 := G
  refine ⟨T0, X0, e0, fun target kt => ?_⟩
  show own_St p e below T0 m 8 #[vR (a2), vI (i1), vI (z1), vR (a3), vI (i1)] [] _
  refine XS.iload X0.here hx rfl (hb hby d38_8) rfl ?_
  refine XS.iloadN X0.here hx rfl (hb hby d38_10) rfl ?_
  refine XS.icmpYes X0.here hx rfl (pc0 := 11) (pc' := 32) rfl (hb hby d38_11) rfl (flt (hi2 : ¬ (i1 < z1))).2.1 (by decide) (by decide) ?_
  exact kt
theorem own_tb {p : Program} {l : Launch} {e : Env} {s : State} {m : MethodId} {args : Array Value} {below : List Frame} {meth : Method} {c : Code} {Z : State} {a0 : Array Value} {n0 : Nat} (cs1 : Int32) (fv : Value) (a2 a3 : Addr) (k2 k3 : ClassId) (cs : List Int32)
    (hx : p.tables.exec = Jvm.exec) (hZ : Z.Warmed39 s.vm) (hw : own_HW a0 Z) (hby : c.code = jdk_52_method_14_code) (hml : c.maxLocals = 5) (hown : s.vm.findClass "java/lang/StringUTF16" = some m.cls) (G : own_Ctx Z Z.heap cs1 fv) (ga : n0 ≤ a3) (hne : a2 ≠ a3) (hn : cs.length ≤ 4) :
    ∀ (k i : Nat) (T0 : State) (h0 : Heap) (locs : List Loc), i + k = cs.length → Stand p l e (own_rm_ 2 1 8 24) s m args below meth c T0 locs 1 8 → T0.heap = h0 → Fr n0 locs → Old Z n0 h0 → Arv Z h0 a2 k2 .char cs.length.toInt32 (cs.map Value.int) (.int (0 : Int32)) → Arv Z h0 a3 k3 .byte (2 * cs.length).toInt32 (own_fill2 cs i) (.int (0 : Int32)) →
    ∃ (T' : State) (h' : Heap) (L' : List Loc), Stand p l e (own_rm_ 2 1 8 24) s m args below meth c T' L' 1 8 ∧ T'.heap = h' ∧ Fr n0 L' ∧ Old Z n0 h' ∧ Keep h0 h' [a3] ∧ Arv Z h' a3 k3 .byte (2 * cs.length).toInt32 (own_fill2 cs cs.length) (.int (0 : Int32)) ∧
      ∀ target, Steps p.tables e below (T'.setTop (mkF m 32 #[vR (a2), vI (cs.length.toInt32), vI (cs.length.toInt32), vR (a3), vI (cs.length.toInt32)] [])) target → Steps p.tables e below (T0.setTop (mkF m 8 #[vR (a2), vI (i.toInt32), vI (cs.length.toInt32), vR (a3), vI (i.toInt32)] [])) target := by
  intro k
  induction k with
  | zero =>
    intro i T0 h0 locs hi X0 e0 N0 O0 Va Vb
    obtain rfl : i = cs.length := by omega
    obtain ⟨T1, X1, e1, st⟩ := t_tbe cs1 fv a2 a3 cs.length.toInt32 cs.length.toInt32 X0 hx hZ hw hby hml hown e0 O0 G (by rw [Int32.lt_iff_toInt_lt]; omega)
    exact ⟨T1, h0, locs, X1, e1, N0, O0, Keep.refl _ _, Vb, st⟩
  | succ k ih =>
    intro i T0 h0 locs hi X0 e0 N0 O0 Va Vb
    have hlt : i < cs.length := by omega
    obtain ⟨T1, h1, L1, X1, e1, N1, O1, K1, V2, V3, st1⟩ := t_tb cs1 fv a2 a3 k2 k3 cs i X0 hx hZ hw hby hml hown e0 N0 O0 G Va Vb ga hne hlt hn
    rw [own_ts (by omega)] at st1
    obtain ⟨T', h', L', X', e', N', O', K', V', st'⟩ := ih (i + 1) T1 h1 L1 (by omega) X1 e1 N1 O1 V2 V3
    exact ⟨T', h', L', X', e', N', O', K1.trans K' (allS (Or.inl (List.mem_singleton.mpr rfl)) all0), V', fun target kt => st1 _ (st' _ kt)⟩

theorem d38_0 : D38_ 0 = .ok (.iload_n 2, 1) := by decide +kernel
theorem d38_1 : D38_ 1 = .ok (.invokestatic 107, 3) := by decide +kernel
theorem pd_2 : parseMethodDescriptor "(I)[B" = some ⟨[.int], some (.array .byte)⟩ := by decide +kernel
theorem d38_4 : D38_ 4 = .ok (.astore_n 3, 1) := by decide +kernel
theorem d38_5 : D38_ 5 = .ok (.iconst 0, 1) := by decide +kernel
theorem d38_6 : D38_ 6 = .ok (.istore 4, 2) := by decide +kernel
theorem d38_32 : D38_ 32 = .ok (.aload_n 3, 1) := by decide +kernel
theorem d38_33 : D38_ 33 = .ok (.areturn, 1) := by decide +kernel
theorem ef_38_4 (m : MethodId) (x0 : Addr) (x1 : Int32) (x2 : Int32) : entryFrame m #[(.ref x0), (.int x1), (.int x2)] 5 = mkF m 0 #[vR (x0), vI (x1), vI (x2), .unset, .unset] [] := by first | (simp [entryFrame, mkF, argsToLocals, Value.category]; done) | rfl
theorem r_tb (l : Launch) (Z : State) (a0 : Array Value) (hw : own_HW a0 Z) (ws : List Jvm.Cond) (cs1 : Int32) (fv : Value) (h0 : Heap) (n0 : Nat) (O0 : Old Z n0 h0) (G : own_Ctx Z Z.heap cs1 fv) (a2 : Addr) (k2 : ClassId) (cs : List Int32) (Va : Arv Z h0 a2 k2 .char cs.length.toInt32 (cs.map Value.int) (.int (0 : Int32))) (hn : cs.length ≤ 4) :
    own_M l Y4_ (head1 (Jvm.Cond.code Y4_ jdk_52_method_14_code 5 (some (.array .byte)) :: ws) (own_rm_ 2 1 8 24)) #[(.ref a2), (.int (0 : Int32)), (.int cs.length.toInt32)] Z h0 n0 (own_QA Z .byte (2 * cs.length).toInt32 (cs.flatMap own_two)) (own_rm_ 2 1 8 24).cells (own_rm_ 2 1 8 24).slots := by
  have G0 := G
  refine MetFree.of_bodySF (plainFor_of_name pn_0) hisR ?_
  intro p e s m args below meth c s₁ Bd hml0 hP hK
  obtain ⟨rfl, hZ, hh⟩ := hP
  have hx := Bd.exec
  have hby := Bd.bytes
  have hml : c.maxLocals = 5 := hml0
  have hown := findClass_of_methodNamed Bd.named
  have X0 : Stand p l e (own_rm_ 2 1 8 24) s m #[(.ref a2), (.int (0 : Int32)), (.int cs.length.toInt32)] below meth c s₁ [] 0 0 := Stand.of_body Bd
  have e0 : s₁.heap = h0 := by rw [← hh, Bd.state]; rfl
  have N0 := Fr.nil n0
  have pre0 := own_pre (tb := p.tables) (e := e) (below := below) (T := s₁) (ef_38_4 m a2 (0 : Int32) cs.length.toInt32)
  obtain ⟨_, _, ⟨T1, L1, k1, n1⟩, -, X1, ⟨Lc1, hQ1, l1, y1, z1⟩, st1⟩ := Jvm.LawKit.callS X0 hx (y := Y3_) hown (mvT hZ (own_w hw 181 rfl)) (mvT hZ (own_w hw 182 rfl)) (mvT hZ (own_w hw 77 rfl)) (mvT hZ (own_w hw 183 rfl)) (by decide) (backOf (W := 0) (r_nbf l Z a0 hw [] cs1 fv h0 n0 O0 G0 cs hn) hZ (own_w hw 183 rfl) (own_w hw 77 rfl) (by decide) (by decide)) (g := (mkF m 1 #[vR (a2), vI ((0 : Int32)), vI (cs.length.toInt32), .unset, .unset] [(.int cs.length.toInt32)])) rfl (by rw [hml]; rfl) (argsL := [(.int cs.length.toInt32)]) (rest := []) (lenOf pd_2 rfl) rfl (by show 2 * 0 + _ ≤ _; exact Nat.le_of_eq rfl) (hb hby d38_1) (fun _ _ => ⟨rfl, e0, (by decide : 0 + 1 ≤ _), (by decide : 0 + 8 ≤ _)⟩)
  dsimp only [Pt.U, Pt.locs, Pt.cells, Pt.slots] at X1 l1 y1 z1 st1 hQ1
  subst l1 y1 z1
  obtain ⟨t1, kt1, rfl, N1q, Kq1, gt1, Vt1⟩ := hQ1
  have N1 := Fr.app N0 N1q
  have ne_a2_t1 : a2 ≠ t1 := Nat.ne_of_lt (Nat.lt_of_lt_of_le Va.lt gt1)
  have g_t1 : n0 ≤ t1 := Nat.le_trans (O0.1 ▸ O0.2.1) gt1
  have sz_t1 : h0.size ≤ t1 := Nat.le_trans (Keep.refl h0 []).1 gt1
  have f2 := Va.keep Kq1 (fun q => nomatch q)
  have O1 := O0.keep Kq1 all0
  have K1 : Keep h0 T1.heap [] := (Keep.refl h0 []).trans Kq1 all0
  have vb0 : Arv Z T1.heap t1 kt1 .byte (2 * cs.length).toInt32 (own_fill2 cs 0) (.int (0 : Int32)) := by simpa [own_fill2] using Vt1
  obtain ⟨T9, h9, L9, X9, e9, N9, O9, K9, V9, st9⟩ := own_tb cs1 fv a2 t1 k2 kt1 cs hx hZ hw hby hml hown G0 g_t1 ne_a2_t1 hn cs.length 0 _ _ _ (by omega) X1 rfl N1 O1 f2 vb0
  rw [own_fill2_all] at V9
  obtain ⟨fs, hr, hrun, hended, hW, hsame⟩ := X9.leave (v := some (.ref t1)) (fun h => by rw [Bd.returns] at h; cases h)
  refine ⟨_, _, pre0 _ ?_, hrun, hended, _, _, rfl, ?_, ⟨_, rfl⟩, hW, hsame.mono (by decide) (by decide)⟩
  · show own_St p e below s₁ m 0 #[vR (a2), vI ((0 : Int32)), vI (cs.length.toInt32), .unset, .unset] [] _
    refine XS.iloadN X0.here hx rfl (hb hby d38_0) rfl ?_
    show own_St p e below s₁ m 1 #[vR (a2), vI ((0 : Int32)), vI (cs.length.toInt32), .unset, .unset] [(.int cs.length.toInt32)] _
    refine st1 _ ?_
    show own_St p e below T1 m 4 #[vR (a2), vI ((0 : Int32)), vI (cs.length.toInt32), .unset, .unset] [(.ref t1)] _
    refine XS.astoreN X1.here hx rfl (hb hby d38_4) rfl rfl (l' := #[vR (a2), vI ((0 : Int32)), vI (cs.length.toInt32), vR (t1), .unset]) rfl ?_
    refine XS.iconst X1.here hx rfl (hb hby d38_5) ?_
    refine XS.istore X1.here hx rfl (hb hby d38_6) rfl (l' := #[vR (a2), vI ((0 : Int32)), vI (cs.length.toInt32), vR (t1), vI ((0 : Int32))]) rfl ?_
    show own_St p e below T1 m 8 #[vR (a2), vI ((0 : Nat).toInt32), vI (cs.length.toInt32), vR (t1), vI ((0 : Nat).toInt32)] [] _
    refine st9 _ ?_
    refine XS.aloadN X9.here hx rfl (hb hby d38_32) rfl rfl ?_
    show own_St p e below T9 m 33 #[vR (a2), vI (cs.length.toInt32), vI (cs.length.toInt32), vR (t1), vI (cs.length.toInt32)] [(.ref t1)] _
    exact retOut X9 hx Bd.returns rfl (Or.inr (Or.inr (Or.inr (Or.inr ⟨rfl, rfl, rfl⟩)))) (hb hby d38_33) hr
  · show own_QA Z .byte (2 * cs.length).toInt32 (cs.flatMap own_two) h0 n0 _ T9.heap _
    rw [e9]
    exact ⟨t1, kt1, rfl, N9, (K1.trans K9 (allS (Or.inr sz_t1) all0)), sz_t1, V9⟩
theorem d27_0 : D27_ 0 = .ok (.iload_n 0, 1) := by decide +kernel
theorem d27_1 : D27_ 1 = .ok (.ifCond .lt 8, 3) := by decide +kernel
theorem d27_4 : D27_ 4 = .ok (.iload_n 0, 1) := by decide +kernel
theorem d27_5 : D27_ 5 = .ok (.iload_n 1, 1) := by decide +kernel
theorem d27_6 : D27_ 6 = .ok (.if_icmp .lt 10, 3) := by decide +kernel
theorem d27_16 : D27_ 16 = .ok (.iload_n 0, 1) := by decide +kernel
theorem d27_17 : D27_ 17 = .ok (.ireturn, 1) := by decide +kernel
theorem ef_27_5 (m : MethodId) (x0 : Int32) (x1 : Int32) : entryFrame m #[(.int x0), (.int x1), .null] 3 = mkF m 0 #[vI (x0), vI (x1), .val .null] [] := by first | (simp [entryFrame, mkF, argsToLocals, Value.category]; done) | rfl
theorem pn_1 : plainName "jdk/internal/util/Preconditions" = true := by first | (simp [plainName, overriddenIn]; done) | decide +kernel
theorem r_chk0 (l : Launch) (Z : State) (a0 : Array Value) (hw : own_HW a0 Z) (ws : List Jvm.Cond) (cs1 : Int32) (fv : Value) (h0 : Heap) (n0 : Nat) (O0 : Old Z n0 h0) (G : own_Ctx Z Z.heap cs1 fv) (i j : Int32) (h1 : ¬ (i < (0 : Int32))) (h2 : i < j) :
    own_M l Y5_ (head1 (Jvm.Cond.code Y5_ jdk_41_method_11_code 3 (some .int) :: ws) (own_rm_ 0 0 0 0)) #[(.int i), (.int j), .null] Z h0 n0 (own_Q (some (.int i))) (own_rm_ 0 0 0 0).cells (own_rm_ 0 0 0 0).slots := by
  have G0 := G
  refine MetFree.of_bodySF (plainFor_of_name pn_1) hisR ?_
  intro p e s m args below meth c s₁ Bd hml0 hP hK
  obtain ⟨rfl, hZ, hh⟩ := hP
  have hx := Bd.exec
  have hby := Bd.bytes
  have hml : c.maxLocals = 3 := hml0
  have hown := findClass_of_methodNamed Bd.named
  have X0 : Stand p l e (own_rm_ 0 0 0 0) s m #[(.int i), (.int j), .null] below meth c s₁ [] 0 0 := Stand.of_body Bd
  have e0 : s₁.heap = h0 := by rw [← hh, Bd.state]; rfl
  have N0 := Fr.nil n0
  have pre0 := own_pre (tb := p.tables) (e := e) (below := below) (T := s₁) (ef_27_5 m i j)
  obtain ⟨fs, hr, hrun, hended, hW, hsame⟩ := X0.leave (v := some (.int i)) (fun h => by rw [Bd.returns] at h; cases h)
  refine ⟨_, _, pre0 _ ?_, hrun, hended, _, _, rfl, ?_, ⟨_, rfl⟩, hW, hsame.mono (by decide) (by decide)⟩
  · show own_St p e below s₁ m 0 #[vI (i), vI (j), .val .null] [] _
    refine XS.iloadN X0.here hx rfl (hb hby d27_0) rfl ?_
    refine XS.ifNo X0.here hx rfl (hb hby d27_1) rfl ((if0 _ _).trans (flt (h1 : ¬ (i < (0 : Int32)))).1) ?_
    refine XS.iloadN X0.here hx rfl (hb hby d27_4) rfl ?_
    refine XS.iloadN X0.here hx rfl (hb hby d27_5) rfl ?_
    refine XS.icmpYes X0.here hx rfl (pc0 := 6) (pc' := 16) rfl (hb hby d27_6) rfl (tlt (h2 : i < j)).1 (by decide) (by decide) ?_
    refine XS.iloadN X0.here hx rfl (hb hby d27_16) rfl ?_
    show own_St p e below s₁ m 17 #[vI (i), vI (j), .val .null] [(.int i)] _
    exact retI X0 hx Bd.returns (hb hby d27_17) hr
  · show own_Q (some (.int i)) h0 n0 _ s₁.heap _
    rw [e0]
    exact ⟨rfl, N0, rfl⟩
theorem ef_27_6 (m : MethodId) (x0 : Int32) (x1 : Int32) (x2 : Addr) : entryFrame m #[(.int x0), (.int x1), (.ref x2)] 3 = mkF m 0 #[vI (x0), vI (x1), vR (x2)] [] := by first | (simp [entryFrame, mkF, argsToLocals, Value.category]; done) | rfl
theorem r_chk1 (l : Launch) (Z : State) (a0 : Array Value) (hw : own_HW a0 Z) (ws : List Jvm.Cond) (cs1 : Int32) (fv : Value) (h0 : Heap) (n0 : Nat) (O0 : Old Z n0 h0) (G : own_Ctx Z Z.heap cs1 fv) (i j : Int32) (fa : Addr) (h1 : ¬ (i < (0 : Int32))) (h2 : i < j) :
    own_M l Y5_ (head1 (Jvm.Cond.code Y5_ jdk_41_method_11_code 3 (some .int) :: ws) (own_rm_ 0 0 0 0)) #[(.int i), (.int j), (.ref fa)] Z h0 n0 (own_Q (some (.int i))) (own_rm_ 0 0 0 0).cells (own_rm_ 0 0 0 0).slots := by
  have G0 := G
  refine MetFree.of_bodySF (plainFor_of_name pn_1) hisR ?_
  intro p e s m args below meth c s₁ Bd hml0 hP hK
  obtain ⟨rfl, hZ, hh⟩ := hP
  have hx := Bd.exec
  have hby := Bd.bytes
  have hml : c.maxLocals = 3 := hml0
  have hown := findClass_of_methodNamed Bd.named
  have X0 : Stand p l e (own_rm_ 0 0 0 0) s m #[(.int i), (.int j), (.ref fa)] below meth c s₁ [] 0 0 := Stand.of_body Bd
  have e0 : s₁.heap = h0 := by rw [← hh, Bd.state]; rfl
  have N0 := Fr.nil n0
  have pre0 := own_pre (tb := p.tables) (e := e) (below := below) (T := s₁) (ef_27_6 m i j fa)
  obtain ⟨fs, hr, hrun, hended, hW, hsame⟩ := X0.leave (v := some (.int i)) (fun h => by rw [Bd.returns] at h; cases h)
  refine ⟨_, _, pre0 _ ?_, hrun, hended, _, _, rfl, ?_, ⟨_, rfl⟩, hW, hsame.mono (by decide) (by decide)⟩
  · show own_St p e below s₁ m 0 #[vI (i), vI (j), vR (fa)] [] _
    refine XS.iloadN X0.here hx rfl (hb hby d27_0) rfl ?_
    refine XS.ifNo X0.here hx rfl (hb hby d27_1) rfl ((if0 _ _).trans (flt (h1 : ¬ (i < (0 : Int32)))).1) ?_
    refine XS.iloadN X0.here hx rfl (hb hby d27_4) rfl ?_
    refine XS.iloadN X0.here hx rfl (hb hby d27_5) rfl ?_
    refine XS.icmpYes X0.here hx rfl (pc0 := 6) (pc' := 16) rfl (hb hby d27_6) rfl (tlt (h2 : i < j)).1 (by decide) (by decide) ?_
    refine XS.iloadN X0.here hx rfl (hb hby d27_16) rfl ?_
    show own_St p e below s₁ m 17 #[vI (i), vI (j), vR (fa)] [(.int i)] _
    exact retI X0 hx Bd.returns (hb hby d27_17) hr
  · show own_Q (some (.int i)) h0 n0 _ s₁.heap _
    rw [e0]
    exact ⟨rfl, N0, rfl⟩
theorem r_chk (l : Launch) (Z : State) (a0 : Array Value) (hw : own_HW a0 Z) (ws : List Jvm.Cond) (cs1 : Int32) (fv : Value) (h0 : Heap) (n0 : Nat) (O0 : Old Z n0 h0) (G : own_Ctx Z Z.heap cs1 fv) (i j : Int32) (fv_ : Value) (hfv : fv_.isRef = true) (h1 : ¬ (i < (0 : Int32))) (h2 : i < j) :
    own_M l Y5_ (head1 (Jvm.Cond.code Y5_ jdk_41_method_11_code 3 (some .int) :: ws) (own_rm_ 0 0 0 0)) #[(.int i), (.int j), fv_] Z h0 n0 (own_Q (some (.int i))) (own_rm_ 0 0 0 0).cells (own_rm_ 0 0 0 0).slots := by
  rcases ref_cases hfv with rfl | ⟨fa, rfl⟩
  · exact r_chk0 l Z a0 hw ws cs1 fv h0 n0 O0 G i j h1 h2
  · exact r_chk1 l Z a0 hw ws cs1 fv h0 n0 O0 G i j fa h1 h2
theorem d26_0 : D26_ 0 = .ok (.iload_n 0, 1) := by decide +kernel
theorem d26_1 : D26_ 1 = .ok (.iload_n 1, 1) := by decide +kernel
theorem d26_2 : D26_ 2 = .ok (.getstatic 1053, 3) := by decide +kernel
theorem d26_5 : D26_ 5 = .ok (.invokestatic 1059, 3) := by decide +kernel
theorem pd_3 : parseMethodDescriptor "(IILjava/util/function/BiFunction;)I" = some ⟨[.int, .int, (.object "java/util/function/BiFunction")], some .int⟩ := by decide +kernel
theorem d26_8 : D26_ 8 = .ok (.pop, 1) := by decide +kernel
theorem d26_9 : D26_ 9 = .ok (.return_, 1) := by decide +kernel
theorem ef_26_7 (m : MethodId) (x0 : Int32) (x1 : Int32) : entryFrame m #[(.int x0), (.int x1)] 2 = mkF m 0 #[vI (x0), vI (x1)] [] := by first | (simp [entryFrame, mkF, argsToLocals, Value.category]; done) | rfl
theorem pn_2 : plainName "java/lang/String" = true := by first | (simp [plainName, overriddenIn]; done) | decide +kernel
theorem r_ci (l : Launch) (Z : State) (a0 : Array Value) (hw : own_HW a0 Z) (ws : List Jvm.Cond) (cs1 : Int32) (fv : Value) (h0 : Heap) (n0 : Nat) (O0 : Old Z n0 h0) (G : own_Ctx Z Z.heap cs1 fv) (i j : Int32) (h1 : ¬ (i < (0 : Int32))) (h2 : i < j) :
    own_M l Y6_ (head1 (Jvm.Cond.code Y6_ jdk_42_method_155_code 2 none :: ws) (own_rm_ 1 0 0 14)) #[(.int i), (.int j)] Z h0 n0 (own_Q (none)) (own_rm_ 1 0 0 14).cells (own_rm_ 1 0 0 14).slots := by
  have G0 := G
  obtain ⟨S_CS, N_CS, S_F, R_F, S_AD, S_HI, S_LO⟩ := G
  refine MetFree.of_bodySF (plainFor_of_name pn_2) hisR ?_
  intro p e s m args below meth c s₁ Bd hml0 hP hK
  obtain ⟨rfl, hZ, hh⟩ := hP
  have hx := Bd.exec
  have hby := Bd.bytes
  have hml : c.maxLocals = 2 := hml0
  have hown := findClass_of_methodNamed Bd.named
  have X0 : Stand p l e (own_rm_ 1 0 0 14) s m #[(.int i), (.int j)] below meth c s₁ [] 0 0 := Stand.of_body Bd
  have e0 : s₁.heap = h0 := by rw [← hh, Bd.state]; rfl
  have N0 := Fr.nil n0
  have pre0 := own_pre (tb := p.tables) (e := e) (below := below) (T := s₁) (ef_26_7 m i j)
  obtain ⟨T1, X1, e1, st1⟩ := getS2 X0 hx hZ hown (host := "") (Or.inl (own_w hw 124 rfl)) Via.refl e0 (S_F.ext O0.2) (g := (mkF m 2 #[vI (i), vI (j)] [(.int j), (.int i)])) rfl (hb hby d26_2)
  obtain ⟨_, _, ⟨T2, L2, k2, n2⟩, -, X2, ⟨Lc2, hQ2, l2, y2, z2⟩, st2⟩ := Jvm.LawKit.callS X1 hx (y := Y5_) hown (mvT hZ (own_w hw 126 rfl)) (mvT hZ (own_w hw 127 rfl)) (mvT hZ (own_w hw 125 rfl)) (mvT hZ (own_w hw 128 rfl)) (by decide) (backOf (W := 0) (r_chk l Z a0 hw [] cs1 fv h0 n0 O0 G0 i j fv R_F h1 h2) hZ (own_w hw 128 rfl) (own_w hw 125 rfl) (by decide) (by decide)) (g := (mkF m 5 #[vI (i), vI (j)] [fv, (.int j), (.int i)])) rfl (by rw [hml]; rfl) (argsL := [(.int i), (.int j), fv]) (rest := []) (lenOf pd_3 rfl) rfl (by show 2 * 0 + _ ≤ _; exact Nat.le_of_eq rfl) (hb hby d26_5) (fun _ _ => ⟨rfl, e1, (by decide : 0 + 0 ≤ _), (by decide : 0 + 0 ≤ _)⟩)
  dsimp only [Pt.U, Pt.locs, Pt.cells, Pt.slots] at X2 l2 y2 z2 st2 hQ2
  subst l2 y2 z2
  obtain ⟨rfl, N2q, e2⟩ := hQ2
  have N2 := Fr.app N0 N2q
  obtain ⟨fs, hr, hrun, hended, hW, hsame⟩ := X2.leave (v := none) (fun _ => rfl)
  refine ⟨_, _, pre0 _ ?_, hrun, hended, _, _, rfl, ?_, ⟨_, rfl⟩, hW, hsame.mono (by decide) (by decide)⟩
  · show own_St p e below s₁ m 0 #[vI (i), vI (j)] [] _
    refine XS.iloadN X0.here hx rfl (hb hby d26_0) rfl ?_
    refine XS.iloadN X0.here hx rfl (hb hby d26_1) rfl ?_
    show own_St p e below s₁ m 2 #[vI (i), vI (j)] [(.int j), (.int i)] _
    refine st1 _ ?_
    show own_St p e below T1 m 5 #[vI (i), vI (j)] [fv, (.int j), (.int i)] _
    refine st2 _ ?_
    show own_St p e below T2 m 8 #[vI (i), vI (j)] [(.int i)] _
    refine XS.pop X2.here hx rfl (hb hby d26_8) rfl rfl ?_
    show own_St p e below T2 m 9 #[vI (i), vI (j)] [] _
    exact X2.returnOut hx Bd.returns (hb hby d26_9) hr
  · show own_Q (none) h0 n0 _ T2.heap _
    rw [e2]
    exact ⟨rfl, N2, rfl⟩
theorem d42_0 : D42_ 0 = .ok (.getstatic 44, 3) := by decide +kernel
theorem d42_3 : D42_ 3 = .ok (.ifCond .ne 25, 3) := by decide +kernel
theorem d42_28 : D42_ 28 = .ok (.iload_n 1, 1) := by decide +kernel
theorem d42_29 : D42_ 29 = .ok (.iconst 1, 1) := by decide +kernel
theorem d42_30 : D42_ 30 = .ok (.ishl, 1) := by decide +kernel
theorem d42_31 : D42_ 31 = .ok (.istore_n 1, 1) := by decide +kernel
theorem d42_32 : D42_ 32 = .ok (.aload_n 0, 1) := by decide +kernel
theorem d42_33 : D42_ 33 = .ok (.iload_n 1, 1) := by decide +kernel
theorem d42_34 : D42_ 34 = .ok (.iinc 1 1, 3) := by decide +kernel
theorem d42_37 : D42_ 37 = .ok (.baload, 1) := by decide +kernel
theorem d42_38 : D42_ 38 = .ok (.sipush 255, 3) := by decide +kernel
theorem d42_41 : D42_ 41 = .ok (.iand, 1) := by decide +kernel
theorem d42_42 : D42_ 42 = .ok (.getstatic 59, 3) := by decide +kernel
theorem d42_45 : D42_ 45 = .ok (.ishl, 1) := by decide +kernel
theorem d42_46 : D42_ 46 = .ok (.aload_n 0, 1) := by decide +kernel
theorem d42_47 : D42_ 47 = .ok (.iload_n 1, 1) := by decide +kernel
theorem d42_48 : D42_ 48 = .ok (.baload, 1) := by decide +kernel
theorem d42_49 : D42_ 49 = .ok (.sipush 255, 3) := by decide +kernel
theorem d42_52 : D42_ 52 = .ok (.iand, 1) := by decide +kernel
theorem d42_53 : D42_ 53 = .ok (.getstatic 63, 3) := by decide +kernel
theorem d42_56 : D42_ 56 = .ok (.ishl, 1) := by decide +kernel
theorem d42_57 : D42_ 57 = .ok (.ior, 1) := by decide +kernel
theorem d42_58 : D42_ 58 = .ok (.i2c, 1) := by decide +kernel
theorem d42_59 : D42_ 59 = .ok (.ireturn, 1) := by decide +kernel
theorem ef_42_8 (m : MethodId) (x0 : Addr) (x1 : Int32) : entryFrame m #[(.ref x0), (.int x1)] 2 = mkF m 0 #[vR (x0), vI (x1)] [] := by first | (simp [entryFrame, mkF, argsToLocals, Value.category]; done) | rfl
theorem r_gc (l : Launch) (Z : State) (a0 : Array Value) (hw : own_HW a0 Z) (ws : List Jvm.Cond) (cs1 : Int32) (fv : Value) (h0 : Heap) (n0 : Nat) (O0 : Old Z n0 h0) (G : own_Ctx Z Z.heap cs1 fv) (a2 : Addr) (k2 : ClassId) (cs : List Int32) (i : Nat) (Va : Arv Z h0 a2 k2 .byte (2 * cs.length).toInt32 (cs.flatMap own_two) (.int (0 : Int32))) (hi : i < cs.length) (hn : cs.length ≤ 4) (hz : ¬ (cs[i] < (0 : Int32))) (hm : ¬ ((65535 : Int32) < cs[i])) :
    own_M l Y7_ (head1 (Jvm.Cond.code Y7_ jdk_52_method_5_code 2 (some .char) :: ws) (own_rm_ 0 0 0 0)) #[(.ref a2), (.int i.toInt32)] Z h0 n0 (own_Q (some (.int cs[i]))) (own_rm_ 0 0 0 0).cells (own_rm_ 0 0 0 0).slots := by
  have G0 := G
  obtain ⟨S_CS, N_CS, S_F, R_F, S_AD, S_HI, S_LO⟩ := G
  refine MetFree.of_bodySF (plainFor_of_name pn_0) hisR ?_
  intro p e s m args below meth c s₁ Bd hml0 hP hK
  obtain ⟨rfl, hZ, hh⟩ := hP
  have hx := Bd.exec
  have hby := Bd.bytes
  have hml : c.maxLocals = 2 := hml0
  have hown := findClass_of_methodNamed Bd.named
  have X0 : Stand p l e (own_rm_ 0 0 0 0) s m #[(.ref a2), (.int i.toInt32)] below meth c s₁ [] 0 0 := Stand.of_body Bd
  have e0 : s₁.heap = h0 := by rw [← hh, Bd.state]; rfl
  have N0 := Fr.nil n0
  have pre0 := own_pre (tb := p.tables) (e := e) (below := below) (T := s₁) (ef_42_8 m a2 i.toInt32)
  obtain ⟨T1, X1, e1, st1⟩ := getS2 X0 hx hZ hown (host := "") (Or.inl (own_w hw 191 rfl)) Via.refl e0 (S_AD.ext O0.2) (g := (mkF m 0 #[vR (a2), vI (i.toInt32)] [])) rfl (hb hby d42_0)
  have vc2 := Va
  obtain ⟨cl2, Ar2, qk2, S2, Nn2, Hs2, Gf2⟩ := vc2
  have hin2 : ¬ ((2 * i).toInt32 < 0 ∨ cl2.slots.size ≤ ((2 * i).toInt32).toNatClampNeg) := inb_of S2 ⟨(own_2ti hi hn).2.2.1, (own_two_in hi hn).1⟩
  have hat2 : cl2.slots[((2 * i).toInt32).toNatClampNeg]? = some (.int (nar .byte ((cs[i] >>> ((0 : Int32) &&& 31)).toInt8.toInt32))) := Has.at Hs2 hin2 (by rw [(own_2ti hi hn).1]; exact (own_two_get cs hi).1)
  obtain ⟨T3, X3, e3, st3⟩ := getS2 X1 hx hZ hown (host := "") (Or.inl (own_w hw 192 rfl)) Via.refl e1 (S_HI.ext O0.2) (g := (mkF m 42 #[vR (a2), vI ((2 * i + 1).toInt32)] [(.int ((nar .byte ((cs[i] >>> ((0 : Int32) &&& 31)).toInt8.toInt32)) &&& (255 : Int32)))])) rfl (hb hby d42_42)
  have vc4 := Va
  obtain ⟨cl4, Ar4, qk4, S4, Nn4, Hs4, Gf4⟩ := vc4
  have hin4 : ¬ ((2 * i + 1).toInt32 < 0 ∨ cl4.slots.size ≤ ((2 * i + 1).toInt32).toNatClampNeg) := inb_of S4 ⟨(own_2ti hi hn).2.2.2, (own_two_in hi hn).2⟩
  have hat4 : cl4.slots[((2 * i + 1).toInt32).toNatClampNeg]? = some (.int (nar .byte ((cs[i] >>> ((8 : Int32) &&& 31)).toInt8.toInt32))) := Has.at Hs4 hin4 (by rw [(own_2ti hi hn).2.1]; exact (own_two_get cs hi).2)
  obtain ⟨T5, X5, e5, st5⟩ := getS2 X3 hx hZ hown (host := "") (Or.inl (own_w hw 193 rfl)) Via.refl e3 (S_LO.ext O0.2) (g := (mkF m 53 #[vR (a2), vI ((2 * i + 1).toInt32)] [(.int ((nar .byte ((cs[i] >>> ((8 : Int32) &&& 31)).toInt8.toInt32)) &&& (255 : Int32))), (.int (((nar .byte ((cs[i] >>> ((0 : Int32) &&& 31)).toInt8.toInt32)) &&& (255 : Int32)) <<< ((0 : Int32) &&& 31)))])) rfl (hb hby d42_53)
  obtain ⟨fs, hr, hrun, hended, hW, hsame⟩ := X5.leave (v := some (.int (nar .char cs[i]))) (fun h => by rw [Bd.returns] at h; cases h)
  refine ⟨_, _, pre0 _ ?_, hrun, hended, _, _, rfl, ?_, ⟨_, rfl⟩, hW, hsame.mono (by decide) (by decide)⟩
  · show own_St p e below s₁ m 0 #[vR (a2), vI (i.toInt32)] [] _
    refine st1 _ ?_
    show own_St p e below T1 m 3 #[vR (a2), vI (i.toInt32)] [(.int (1 : Int32))] _
    refine XS.ifYes X1.here hx rfl (pc0 := 3) (pc' := 28) rfl (hb hby d42_3) rfl ((if0 _ _).trans (feq (by decide : ¬ ((1 : Int32) = (0 : Int32)))).2) (by decide) (by decide) ?_
    refine XS.iloadN X1.here hx rfl (hb hby d42_28) rfl ?_
    refine XS.iconst X1.here hx rfl (hb hby d42_29) ?_
    show own_St p e below T1 m 30 #[vR (a2), vI (i.toInt32)] [(.int (1 : Int32)), (.int i.toInt32)] _
    refine XS.ishl X1.here hx rfl (hb hby d42_30) rfl ?_
    show own_St p e below T1 m 31 #[vR (a2), vI (i.toInt32)] [(.int (i.toInt32 <<< ((1 : Int32) &&& 31)))] _
    rw [own_shl1 (i := i) (own_ki hi hn)]
    show own_St p e below T1 m 31 #[vR (a2), vI (i.toInt32)] [(.int (2 * i).toInt32)] _
    refine XS.istoreN X1.here hx rfl (hb hby d42_31) rfl (l' := #[vR (a2), vI ((2 * i).toInt32)]) rfl ?_
    refine XS.aloadN X1.here hx rfl (hb hby d42_32) rfl rfl ?_
    refine XS.iloadN X1.here hx rfl (hb hby d42_33) rfl ?_
    show own_St p e below T1 m 34 #[vR (a2), vI ((2 * i).toInt32)] [(.int (2 * i).toInt32), (.ref a2)] _
    refine XS.iinc X1.here hx rfl (hb hby d42_34) rfl (l' := #[vR (a2), vI (((2 * i).toInt32 + (1 : Int32)))]) rfl ?_
    show own_St p e below T1 m 37 #[vR (a2), vI (((2 * i).toInt32 + (1 : Int32)))] [(.int (2 * i).toInt32), (.ref a2)] _
    rw [own_ts (i := 2 * i) (by omega)]
    show own_St p e below T1 m 37 #[vR (a2), vI ((2 * i + 1).toInt32)] [(.int (2 * i).toInt32), (.ref a2)] _
    refine X1.baloadBytes hx (j := (2 * i).toInt32) (v := (.int (nar .byte ((cs[i] >>> ((0 : Int32) &&& 31)).toInt8.toInt32)))) (by rw [e1]; exact Ar2.1) (State.isArrayOf_alike hZ.alike Ar2.2.1) Ar2.2.2 hin2 hat2 (g := (mkF m 37 #[vR (a2), vI ((2 * i + 1).toInt32)] [(.int (2 * i).toInt32), (.ref a2)])) rfl rfl (hb hby d42_37) _ ?_
    show own_St p e below T1 m 38 #[vR (a2), vI ((2 * i + 1).toInt32)] [(.int (nar .byte ((cs[i] >>> ((0 : Int32) &&& 31)).toInt8.toInt32)))] _
    refine XS.sipush X1.here hx rfl (hb hby d42_38) ?_
    refine XS.iand X1.here hx rfl (hb hby d42_41) rfl ?_
    show own_St p e below T1 m 42 #[vR (a2), vI ((2 * i + 1).toInt32)] [(.int ((nar .byte ((cs[i] >>> ((0 : Int32) &&& 31)).toInt8.toInt32)) &&& (255 : Int32)))] _
    refine st3 _ ?_
    show own_St p e below T3 m 45 #[vR (a2), vI ((2 * i + 1).toInt32)] [(.int (0 : Int32)), (.int ((nar .byte ((cs[i] >>> ((0 : Int32) &&& 31)).toInt8.toInt32)) &&& (255 : Int32)))] _
    refine XS.ishl X3.here hx rfl (hb hby d42_45) rfl ?_
    show own_St p e below T3 m 46 #[vR (a2), vI ((2 * i + 1).toInt32)] [(.int (((nar .byte ((cs[i] >>> ((0 : Int32) &&& 31)).toInt8.toInt32)) &&& (255 : Int32)) <<< ((0 : Int32) &&& 31)))] _
    refine XS.aloadN X3.here hx rfl (hb hby d42_46) rfl rfl ?_
    refine XS.iloadN X3.here hx rfl (hb hby d42_47) rfl ?_
    show own_St p e below T3 m 48 #[vR (a2), vI ((2 * i + 1).toInt32)] [(.int (2 * i + 1).toInt32), (.ref a2), (.int (((nar .byte ((cs[i] >>> ((0 : Int32) &&& 31)).toInt8.toInt32)) &&& (255 : Int32)) <<< ((0 : Int32) &&& 31)))] _
    refine X3.baloadBytes hx (j := (2 * i + 1).toInt32) (v := (.int (nar .byte ((cs[i] >>> ((8 : Int32) &&& 31)).toInt8.toInt32)))) (by rw [e3]; exact Ar4.1) (State.isArrayOf_alike hZ.alike Ar4.2.1) Ar4.2.2 hin4 hat4 (g := (mkF m 48 #[vR (a2), vI ((2 * i + 1).toInt32)] [(.int (2 * i + 1).toInt32), (.ref a2), (.int (((nar .byte ((cs[i] >>> ((0 : Int32) &&& 31)).toInt8.toInt32)) &&& (255 : Int32)) <<< ((0 : Int32) &&& 31)))])) rfl rfl (hb hby d42_48) _ ?_
    show own_St p e below T3 m 49 #[vR (a2), vI ((2 * i + 1).toInt32)] [(.int (nar .byte ((cs[i] >>> ((8 : Int32) &&& 31)).toInt8.toInt32))), (.int (((nar .byte ((cs[i] >>> ((0 : Int32) &&& 31)).toInt8.toInt32)) &&& (255 : Int32)) <<< ((0 : Int32) &&& 31)))] _
    refine XS.sipush X3.here hx rfl (hb hby d42_49) ?_
    refine XS.iand X3.here hx rfl (hb hby d42_52) rfl ?_
    show own_St p e below T3 m 53 #[vR (a2), vI ((2 * i + 1).toInt32)] [(.int ((nar .byte ((cs[i] >>> ((8 : Int32) &&& 31)).toInt8.toInt32)) &&& (255 : Int32))), (.int (((nar .byte ((cs[i] >>> ((0 : Int32) &&& 31)).toInt8.toInt32)) &&& (255 : Int32)) <<< ((0 : Int32) &&& 31)))] _
    refine st5 _ ?_
    show own_St p e below T5 m 56 #[vR (a2), vI ((2 * i + 1).toInt32)] [(.int (8 : Int32)), (.int ((nar .byte ((cs[i] >>> ((8 : Int32) &&& 31)).toInt8.toInt32)) &&& (255 : Int32))), (.int (((nar .byte ((cs[i] >>> ((0 : Int32) &&& 31)).toInt8.toInt32)) &&& (255 : Int32)) <<< ((0 : Int32) &&& 31)))] _
    refine XS.ishl X5.here hx rfl (hb hby d42_56) rfl ?_
    show own_St p e below T5 m 57 #[vR (a2), vI ((2 * i + 1).toInt32)] [(.int (((nar .byte ((cs[i] >>> ((8 : Int32) &&& 31)).toInt8.toInt32)) &&& (255 : Int32)) <<< ((8 : Int32) &&& 31))), (.int (((nar .byte ((cs[i] >>> ((0 : Int32) &&& 31)).toInt8.toInt32)) &&& (255 : Int32)) <<< ((0 : Int32) &&& 31)))] _
    refine XS.ior X5.here hx rfl (hb hby d42_57) rfl ?_
    show own_St p e below T5 m 58 #[vR (a2), vI ((2 * i + 1).toInt32)] [(.int ((((nar .byte ((cs[i] >>> ((0 : Int32) &&& 31)).toInt8.toInt32)) &&& (255 : Int32)) <<< ((0 : Int32) &&& 31)) ||| (((nar .byte ((cs[i] >>> ((8 : Int32) &&& 31)).toInt8.toInt32)) &&& (255 : Int32)) <<< ((8 : Int32) &&& 31))))] _
    refine XS.i2c X5.here hx rfl (hb hby d42_58) rfl ?_
    show own_St p e below T5 m 59 #[vR (a2), vI ((2 * i + 1).toInt32)] [(.int (((((nar .byte ((cs[i] >>> ((0 : Int32) &&& 31)).toInt8.toInt32)) &&& (255 : Int32)) <<< ((0 : Int32) &&& 31)) ||| (((nar .byte ((cs[i] >>> ((8 : Int32) &&& 31)).toInt8.toInt32)) &&& (255 : Int32)) <<< ((8 : Int32) &&& 31))).toUInt32.toUInt16.toUInt32.toInt32))] _
    rw [own_utf hz hm]
    show own_St p e below T5 m 59 #[vR (a2), vI ((2 * i + 1).toInt32)] [(.int cs[i])] _
    exact retN X5 hx (t := .char) Bd.returns (by simp) (hb hby d42_59) hr
  · show own_Q (some (.int cs[i])) h0 n0 _ T5.heap _
    rw [e5]
    exact ⟨own_nch hz hm, N0, rfl⟩
theorem d46_0 : D46_ 0 = .ok (.aload_n 0, 1) := by decide +kernel
theorem d46_1 : D46_ 1 = .ok (.arraylength, 1) := by decide +kernel
theorem d46_2 : D46_ 2 = .ok (.iconst 1, 1) := by decide +kernel
theorem d46_3 : D46_ 3 = .ok (.ishr, 1) := by decide +kernel
theorem d46_4 : D46_ 4 = .ok (.ireturn, 1) := by decide +kernel
theorem ef_46_9 (m : MethodId) (x0 : Addr) : entryFrame m #[(.ref x0)] 1 = mkF m 0 #[vR (x0)] [] := by first | (simp [entryFrame, mkF, argsToLocals, Value.category]; done) | rfl
theorem r_ul (l : Launch) (Z : State) (a0 : Array Value) (hw : own_HW a0 Z) (ws : List Jvm.Cond) (cs1 : Int32) (fv : Value) (h0 : Heap) (n0 : Nat) (O0 : Old Z n0 h0) (G : own_Ctx Z Z.heap cs1 fv) (a2 : Addr) (k2 : ClassId) (n : Nat) (vs : List Value) (Va : Arv Z h0 a2 k2 .byte (2 * n).toInt32 vs (.int (0 : Int32))) (hn : n ≤ 4) :
    own_M l Y8_ (head1 (Jvm.Cond.code Y8_ jdk_52_method_6_code 1 (some .int) :: ws) (own_rm_ 0 0 0 0)) #[(.ref a2)] Z h0 n0 (own_Q (some (.int n.toInt32))) (own_rm_ 0 0 0 0).cells (own_rm_ 0 0 0 0).slots := by
  have G0 := G
  refine MetFree.of_bodySF (plainFor_of_name pn_0) hisR ?_
  intro p e s m args below meth c s₁ Bd hml0 hP hK
  obtain ⟨rfl, hZ, hh⟩ := hP
  have hx := Bd.exec
  have hby := Bd.bytes
  have hml : c.maxLocals = 1 := hml0
  have hown := findClass_of_methodNamed Bd.named
  have X0 : Stand p l e (own_rm_ 0 0 0 0) s m #[(.ref a2)] below meth c s₁ [] 0 0 := Stand.of_body Bd
  have e0 : s₁.heap = h0 := by rw [← hh, Bd.state]; rfl
  have N0 := Fr.nil n0
  have pre0 := own_pre (tb := p.tables) (e := e) (below := below) (T := s₁) (ef_46_9 m a2)
  have vc1 := Va
  obtain ⟨cl1, Ar1, qk1, S1, Nn1, Hs1, Gf1⟩ := vc1
  obtain ⟨fs, hr, hrun, hended, hW, hsame⟩ := X0.leave (v := some (.int n.toInt32)) (fun h => by rw [Bd.returns] at h; cases h)
  refine ⟨_, _, pre0 _ ?_, hrun, hended, _, _, rfl, ?_, ⟨_, rfl⟩, hW, hsame.mono (by decide) (by decide)⟩
  · show own_St p e below s₁ m 0 #[vR (a2)] [] _
    refine XS.aloadN X0.here hx rfl (hb hby d46_0) rfl rfl ?_
    show own_St p e below s₁ m 1 #[vR (a2)] [(.ref a2)] _
    refine X0.arraylength hx (by rw [e0]; exact Ar1.1) (State.isArrayOf_alike hZ.alike Ar1.2.1) (g := (mkF m 1 #[vR (a2)] [(.ref a2)])) rfl rfl (hb hby d46_1) _ ?_
    rw [len_of S1 Nn1]
    show own_St p e below s₁ m 2 #[vR (a2)] [(.int (2 * n).toInt32)] _
    refine XS.iconst X0.here hx rfl (hb hby d46_2) ?_
    refine XS.ishr X0.here hx rfl (hb hby d46_3) rfl ?_
    show own_St p e below s₁ m 4 #[vR (a2)] [(.int ((2 * n).toInt32 >>> ((1 : Int32) &&& 31)))] _
    rw [own_shr1 (i := n) (by omega)]
    show own_St p e below s₁ m 4 #[vR (a2)] [(.int n.toInt32)] _
    exact retI X0 hx Bd.returns (hb hby d46_4) hr
  · show own_Q (some (.int n.toInt32)) h0 n0 _ s₁.heap _
    rw [e0]
    exact ⟨rfl, N0, rfl⟩
theorem d51_0 : D51_ 0 = .ok (.iload_n 0, 1) := by decide +kernel
theorem d51_1 : D51_ 1 = .ok (.aload_n 1, 1) := by decide +kernel
theorem d51_2 : D51_ 2 = .ok (.invokestatic 48, 3) := by decide +kernel
theorem pd_4 : parseMethodDescriptor "([B)I" = some ⟨[(.array .byte)], some .int⟩ := by decide +kernel
theorem d51_5 : D51_ 5 = .ok (.invokestatic 414, 3) := by decide +kernel
theorem pd_5 : parseMethodDescriptor "(II)V" = some ⟨[.int, .int], none⟩ := by decide +kernel
theorem d51_8 : D51_ 8 = .ok (.return_, 1) := by decide +kernel
theorem ef_51_10 (m : MethodId) (x0 : Int32) (x1 : Addr) : entryFrame m #[(.int x0), (.ref x1)] 2 = mkF m 0 #[vI (x0), vR (x1)] [] := by first | (simp [entryFrame, mkF, argsToLocals, Value.category]; done) | rfl
theorem r_uci (l : Launch) (Z : State) (a0 : Array Value) (hw : own_HW a0 Z) (ws : List Jvm.Cond) (cs1 : Int32) (fv : Value) (h0 : Heap) (n0 : Nat) (O0 : Old Z n0 h0) (G : own_Ctx Z Z.heap cs1 fv) (a2 : Addr) (k2 : ClassId) (cs : List Int32) (i : Nat) (Va : Arv Z h0 a2 k2 .byte (2 * cs.length).toInt32 (cs.flatMap own_two) (.int (0 : Int32))) (hi : i < cs.length) (hn : cs.length ≤ 4) :
    own_M l Y9_ (head1 (Jvm.Cond.code Y9_ jdk_52_method_91_code 2 none :: ws) (own_rm_ 2 0 0 27)) #[(.int i.toInt32), (.ref a2)] Z h0 n0 (own_Q (none)) (own_rm_ 2 0 0 27).cells (own_rm_ 2 0 0 27).slots := by
  have G0 := G
  refine MetFree.of_bodySF (plainFor_of_name pn_0) hisR ?_
  intro p e s m args below meth c s₁ Bd hml0 hP hK
  obtain ⟨rfl, hZ, hh⟩ := hP
  have hx := Bd.exec
  have hby := Bd.bytes
  have hml : c.maxLocals = 2 := hml0
  have hown := findClass_of_methodNamed Bd.named
  have X0 : Stand p l e (own_rm_ 2 0 0 27) s m #[(.int i.toInt32), (.ref a2)] below meth c s₁ [] 0 0 := Stand.of_body Bd
  have e0 : s₁.heap = h0 := by rw [← hh, Bd.state]; rfl
  have N0 := Fr.nil n0
  have pre0 := own_pre (tb := p.tables) (e := e) (below := below) (T := s₁) (ef_51_10 m i.toInt32 a2)
  obtain ⟨_, _, ⟨T1, L1, k1, n1⟩, -, X1, ⟨Lc1, hQ1, l1, y1, z1⟩, st1⟩ := Jvm.LawKit.callS X0 hx (y := Y8_) hown (mvT hZ (own_w hw 209 rfl)) (mvT hZ (own_w hw 210 rfl)) (mvT hZ (own_w hw 77 rfl)) (mvT hZ (own_w hw 211 rfl)) (by decide) (backOf (W := 1) (r_ul l Z a0 hw [] cs1 fv h0 n0 O0 G0 a2 k2 cs.length (cs.flatMap own_two) Va hn) hZ (own_w hw 211 rfl) (own_w hw 77 rfl) (by decide) (by decide)) (g := (mkF m 2 #[vI (i.toInt32), vR (a2)] [(.ref a2), (.int i.toInt32)])) rfl (by rw [hml]; rfl) (argsL := [(.ref a2)]) (rest := [(.int i.toInt32)]) (lenOf pd_4 rfl) rfl (by show 2 * 0 + _ ≤ _; exact Nat.le_of_eq rfl) (hb hby d51_2) (fun _ _ => ⟨rfl, e0, (by decide : 0 + 0 ≤ _), (by decide : 0 + 0 ≤ _)⟩)
  dsimp only [Pt.U, Pt.locs, Pt.cells, Pt.slots] at X1 l1 y1 z1 st1 hQ1
  subst l1 y1 z1
  obtain ⟨rfl, N1q, e1⟩ := hQ1
  have N1 := Fr.app N0 N1q
  obtain ⟨_, _, ⟨T2, L2, k2, n2⟩, -, X2, ⟨Lc2, hQ2, l2, y2, z2⟩, st2⟩ := Jvm.LawKit.callS X1 hx (y := Y6_) hown (mvT hZ (own_w hw 228 rfl)) (mvT hZ (own_w hw 122 rfl)) (mvT hZ (own_w hw 8 rfl)) (mvT hZ (own_w hw 123 rfl)) (by decide) (backOf (W := 0) (r_ci l Z a0 hw [] cs1 fv h0 n0 O0 G0 i.toInt32 cs.length.toInt32 (own_ti (own_ki hi hn)).2.1 (own_tl hi (own_k hn))) hZ (own_w hw 123 rfl) (own_w hw 8 rfl) (by decide) (by decide)) (g := (mkF m 5 #[vI (i.toInt32), vR (a2)] [(.int cs.length.toInt32), (.int i.toInt32)])) rfl (by rw [hml]; rfl) (argsL := [(.int i.toInt32), (.int cs.length.toInt32)]) (rest := []) (lenOf pd_5 rfl) rfl (by show 2 * 0 + _ ≤ _; exact Nat.le_of_eq rfl) (hb hby d51_5) (fun _ _ => ⟨rfl, e1, (by decide : 0 + 0 ≤ _), (by decide : 0 + 0 ≤ _)⟩)
  dsimp only [Pt.U, Pt.locs, Pt.cells, Pt.slots] at X2 l2 y2 z2 st2 hQ2
  subst l2 y2 z2
  obtain ⟨rfl, N2q, e2⟩ := hQ2
  have N2 := Fr.app N1 N2q
  obtain ⟨fs, hr, hrun, hended, hW, hsame⟩ := X2.leave (v := none) (fun _ => rfl)
  refine ⟨_, _, pre0 _ ?_, hrun, hended, _, _, rfl, ?_, ⟨_, rfl⟩, hW, hsame.mono (by decide) (by decide)⟩
  · show own_St p e below s₁ m 0 #[vI (i.toInt32), vR (a2)] [] _
    refine XS.iloadN X0.here hx rfl (hb hby d51_0) rfl ?_
    refine XS.aloadN X0.here hx rfl (hb hby d51_1) rfl rfl ?_
    show own_St p e below s₁ m 2 #[vI (i.toInt32), vR (a2)] [(.ref a2), (.int i.toInt32)] _
    refine st1 _ ?_
    show own_St p e below T1 m 5 #[vI (i.toInt32), vR (a2)] [(.int cs.length.toInt32), (.int i.toInt32)] _
    refine st2 _ ?_
    show own_St p e below T2 m 8 #[vI (i.toInt32), vR (a2)] [] _
    exact X2.returnOut hx Bd.returns (hb hby d51_8) hr
  · show own_Q (none) h0 n0 _ T2.heap _
    rw [e2]
    exact ⟨rfl, N2, rfl⟩
theorem d50_0 : D50_ 0 = .ok (.iload_n 1, 1) := by decide +kernel
theorem d50_1 : D50_ 1 = .ok (.aload_n 0, 1) := by decide +kernel
theorem d50_2 : D50_ 2 = .ok (.invokestatic 67, 3) := by decide +kernel
theorem pd_6 : parseMethodDescriptor "(I[B)V" = some ⟨[.int, (.array .byte)], none⟩ := by decide +kernel
theorem d50_5 : D50_ 5 = .ok (.aload_n 0, 1) := by decide +kernel
theorem d50_6 : D50_ 6 = .ok (.iload_n 1, 1) := by decide +kernel
theorem d50_7 : D50_ 7 = .ok (.invokestatic 71, 3) := by decide +kernel
theorem pd_7 : parseMethodDescriptor "([BI)C" = some ⟨[(.array .byte), .int], some .char⟩ := by decide +kernel
theorem d50_10 : D50_ 10 = .ok (.ireturn, 1) := by decide +kernel
theorem ef_50_11 (m : MethodId) (x0 : Addr) (x1 : Int32) : entryFrame m #[(.ref x0), (.int x1)] 2 = mkF m 0 #[vR (x0), vI (x1)] [] := by first | (simp [entryFrame, mkF, argsToLocals, Value.category]; done) | rfl
theorem r_uch (l : Launch) (Z : State) (a0 : Array Value) (hw : own_HW a0 Z) (ws : List Jvm.Cond) (cs1 : Int32) (fv : Value) (h0 : Heap) (n0 : Nat) (O0 : Old Z n0 h0) (G : own_Ctx Z Z.heap cs1 fv) (a2 : Addr) (k2 : ClassId) (cs : List Int32) (i : Nat) (Va : Arv Z h0 a2 k2 .byte (2 * cs.length).toInt32 (cs.flatMap own_two) (.int (0 : Int32))) (hi : i < cs.length) (hn : cs.length ≤ 4) (hz : ¬ (cs[i] < (0 : Int32))) (hm : ¬ ((65535 : Int32) < cs[i])) :
    own_M l Y10_ (head1 (Jvm.Cond.code Y10_ jdk_52_method_83_code 2 (some .char) :: ws) (own_rm_ 3 0 0 40)) #[(.ref a2), (.int i.toInt32)] Z h0 n0 (own_Q (some (.int cs[i]))) (own_rm_ 3 0 0 40).cells (own_rm_ 3 0 0 40).slots := by
  have G0 := G
  refine MetFree.of_bodySF (plainFor_of_name pn_0) hisR ?_
  intro p e s m args below meth c s₁ Bd hml0 hP hK
  obtain ⟨rfl, hZ, hh⟩ := hP
  have hx := Bd.exec
  have hby := Bd.bytes
  have hml : c.maxLocals = 2 := hml0
  have hown := findClass_of_methodNamed Bd.named
  have X0 : Stand p l e (own_rm_ 3 0 0 40) s m #[(.ref a2), (.int i.toInt32)] below meth c s₁ [] 0 0 := Stand.of_body Bd
  have e0 : s₁.heap = h0 := by rw [← hh, Bd.state]; rfl
  have N0 := Fr.nil n0
  have pre0 := own_pre (tb := p.tables) (e := e) (below := below) (T := s₁) (ef_50_11 m a2 i.toInt32)
  obtain ⟨_, _, ⟨T1, L1, k1, n1⟩, -, X1, ⟨Lc1, hQ1, l1, y1, z1⟩, st1⟩ := Jvm.LawKit.callS X0 hx (y := Y9_) hown (mvT hZ (own_w hw 225 rfl)) (mvT hZ (own_w hw 226 rfl)) (mvT hZ (own_w hw 77 rfl)) (mvT hZ (own_w hw 227 rfl)) (by decide) (backOf (W := 0) (r_uci l Z a0 hw [] cs1 fv h0 n0 O0 G0 a2 k2 cs i Va hi hn) hZ (own_w hw 227 rfl) (own_w hw 77 rfl) (by decide) (by decide)) (g := (mkF m 2 #[vR (a2), vI (i.toInt32)] [(.ref a2), (.int i.toInt32)])) rfl (by rw [hml]; rfl) (argsL := [(.int i.toInt32), (.ref a2)]) (rest := []) (lenOf pd_6 rfl) rfl (by show 2 * 0 + _ ≤ _; exact Nat.le_of_eq rfl) (hb hby d50_2) (fun _ _ => ⟨rfl, e0, (by decide : 0 + 0 ≤ _), (by decide : 0 + 0 ≤ _)⟩)
  dsimp only [Pt.U, Pt.locs, Pt.cells, Pt.slots] at X1 l1 y1 z1 st1 hQ1
  subst l1 y1 z1
  obtain ⟨rfl, N1q, e1⟩ := hQ1
  have N1 := Fr.app N0 N1q
  obtain ⟨_, _, ⟨T2, L2, k2, n2⟩, -, X2, ⟨Lc2, hQ2, l2, y2, z2⟩, st2⟩ := Jvm.LawKit.callS X1 hx (y := Y7_) hown (mvT hZ (own_w hw 194 rfl)) (mvT hZ (own_w hw 195 rfl)) (mvT hZ (own_w hw 77 rfl)) (mvT hZ (own_w hw 196 rfl)) (by decide) (backOf (W := 0) (r_gc l Z a0 hw [] cs1 fv h0 n0 O0 G0 a2 k2 cs i Va hi hn hz hm) hZ (own_w hw 196 rfl) (own_w hw 77 rfl) (by decide) (by decide)) (g := (mkF m 7 #[vR (a2), vI (i.toInt32)] [(.int i.toInt32), (.ref a2)])) rfl (by rw [hml]; rfl) (argsL := [(.ref a2), (.int i.toInt32)]) (rest := []) (lenOf pd_7 rfl) rfl (by show 2 * 0 + _ ≤ _; exact Nat.le_of_eq rfl) (hb hby d50_7) (fun _ _ => ⟨rfl, e1, (by decide : 0 + 0 ≤ _), (by decide : 0 + 0 ≤ _)⟩)
  dsimp only [Pt.U, Pt.locs, Pt.cells, Pt.slots] at X2 l2 y2 z2 st2 hQ2
  subst l2 y2 z2
  obtain ⟨rfl, N2q, e2⟩ := hQ2
  have N2 := Fr.app N1 N2q
  obtain ⟨fs, hr, hrun, hended, hW, hsame⟩ := X2.leave (v := some (.int (nar .char cs[i]))) (fun h => by rw [Bd.returns] at h; cases h)
  refine ⟨_, _, pre0 _ ?_, hrun, hended, _, _, rfl, ?_, ⟨_, rfl⟩, hW, hsame.mono (by decide) (by decide)⟩
  · show own_St p e below s₁ m 0 #[vR (a2), vI (i.toInt32)] [] _
    refine XS.iloadN X0.here hx rfl (hb hby d50_0) rfl ?_
    refine XS.aloadN X0.here hx rfl (hb hby d50_1) rfl rfl ?_
    show own_St p e below s₁ m 2 #[vR (a2), vI (i.toInt32)] [(.ref a2), (.int i.toInt32)] _
    refine st1 _ ?_
    show own_St p e below T1 m 5 #[vR (a2), vI (i.toInt32)] [] _
    refine XS.aloadN X1.here hx rfl (hb hby d50_5) rfl rfl ?_
    refine XS.iloadN X1.here hx rfl (hb hby d50_6) rfl ?_
    show own_St p e below T1 m 7 #[vR (a2), vI (i.toInt32)] [(.int i.toInt32), (.ref a2)] _
    refine st2 _ ?_
    show own_St p e below T2 m 10 #[vR (a2), vI (i.toInt32)] [(.int cs[i])] _
    exact retN X2 hx (t := .char) Bd.returns (by simp) (hb hby d50_10) hr
  · show own_Q (some (.int cs[i])) h0 n0 _ T2.heap _
    rw [e2]
    exact ⟨own_nch hz hm, N2, rfl⟩
theorem d25_0 : D25_ 0 = .ok (.iload_n 1, 1) := by decide +kernel
theorem d25_1 : D25_ 1 = .ok (.aload_n 0, 1) := by decide +kernel
theorem d25_2 : D25_ 2 = .ok (.arraylength, 1) := by decide +kernel
theorem d25_3 : D25_ 3 = .ok (.invokestatic 9, 3) := by decide +kernel
theorem d25_6 : D25_ 6 = .ok (.aload_n 0, 1) := by decide +kernel
theorem d25_7 : D25_ 7 = .ok (.iload_n 1, 1) := by decide +kernel
theorem d25_8 : D25_ 8 = .ok (.baload, 1) := by decide +kernel
theorem d25_9 : D25_ 9 = .ok (.sipush 255, 3) := by decide +kernel
theorem d25_12 : D25_ 12 = .ok (.iand, 1) := by decide +kernel
theorem d25_13 : D25_ 13 = .ok (.i2c, 1) := by decide +kernel
theorem d25_14 : D25_ 14 = .ok (.ireturn, 1) := by decide +kernel
theorem ef_25_12 (m : MethodId) (x0 : Addr) (x1 : Int32) : entryFrame m #[(.ref x0), (.int x1)] 2 = mkF m 0 #[vR (x0), vI (x1)] [] := by first | (simp [entryFrame, mkF, argsToLocals, Value.category]; done) | rfl
theorem pn_3 : plainName "java/lang/StringLatin1" = true := by first | (simp [plainName, overriddenIn]; done) | decide +kernel
theorem r_lch (l : Launch) (Z : State) (a0 : Array Value) (hw : own_HW a0 Z) (ws : List Jvm.Cond) (cs1 : Int32) (fv : Value) (h0 : Heap) (n0 : Nat) (O0 : Old Z n0 h0) (G : own_Ctx Z Z.heap cs1 fv) (a2 : Addr) (k2 : ClassId) (cs : List Int32) (i : Nat) (Va : Arv Z h0 a2 k2 .byte cs.length.toInt32 (cs.map (fun c => .int (nar .byte c.toInt8.toInt32))) (.int (0 : Int32))) (hi : i < cs.length) (hn : cs.length ≤ 4) (hz : ¬ (cs[i] < (0 : Int32))) (hl : ¬ ((255 : Int32) < cs[i])) :
    own_M l Y11_ (head1 (Jvm.Cond.code Y11_ jdk_43_method_2_code 2 (some .char) :: ws) (own_rm_ 2 0 0 27)) #[(.ref a2), (.int i.toInt32)] Z h0 n0 (own_Q (some (.int cs[i]))) (own_rm_ 2 0 0 27).cells (own_rm_ 2 0 0 27).slots := by
  have G0 := G
  refine MetFree.of_bodySF (plainFor_of_name pn_3) hisR ?_
  intro p e s m args below meth c s₁ Bd hml0 hP hK
  obtain ⟨rfl, hZ, hh⟩ := hP
  have hx := Bd.exec
  have hby := Bd.bytes
  have hml : c.maxLocals = 2 := hml0
  have hown := findClass_of_methodNamed Bd.named
  have X0 : Stand p l e (own_rm_ 2 0 0 27) s m #[(.ref a2), (.int i.toInt32)] below meth c s₁ [] 0 0 := Stand.of_body Bd
  have e0 : s₁.heap = h0 := by rw [← hh, Bd.state]; rfl
  have N0 := Fr.nil n0
  have pre0 := own_pre (tb := p.tables) (e := e) (below := below) (T := s₁) (ef_25_12 m a2 i.toInt32)
  have vc1 := Va
  obtain ⟨cl1, Ar1, qk1, S1, Nn1, Hs1, Gf1⟩ := vc1
  obtain ⟨_, _, ⟨T2, L2, k2, n2⟩, -, X2, ⟨Lc2, hQ2, l2, y2, z2⟩, st2⟩ := Jvm.LawKit.callS X0 hx (y := Y6_) hown (mvT hZ (own_w hw 121 rfl)) (mvT hZ (own_w hw 122 rfl)) (mvT hZ (own_w hw 8 rfl)) (mvT hZ (own_w hw 123 rfl)) (by decide) (backOf (W := 0) (r_ci l Z a0 hw [] cs1 fv h0 n0 O0 G0 i.toInt32 cs.length.toInt32 (own_ti (own_ki hi hn)).2.1 (own_tl hi (own_k hn))) hZ (own_w hw 123 rfl) (own_w hw 8 rfl) (by decide) (by decide)) (g := (mkF m 3 #[vR (a2), vI (i.toInt32)] [(.int cs.length.toInt32), (.int i.toInt32)])) rfl (by rw [hml]; rfl) (argsL := [(.int i.toInt32), (.int cs.length.toInt32)]) (rest := []) (lenOf pd_5 rfl) rfl (by show 2 * 0 + _ ≤ _; exact Nat.le_of_eq rfl) (hb hby d25_3) (fun _ _ => ⟨rfl, e0, (by decide : 0 + 0 ≤ _), (by decide : 0 + 0 ≤ _)⟩)
  dsimp only [Pt.U, Pt.locs, Pt.cells, Pt.slots] at X2 l2 y2 z2 st2 hQ2
  subst l2 y2 z2
  obtain ⟨rfl, N2q, e2⟩ := hQ2
  have N2 := Fr.app N0 N2q
  have vc3 := Va
  obtain ⟨cl3, Ar3, qk3, S3, Nn3, Hs3, Gf3⟩ := vc3
  have hin3 : ¬ (i.toInt32 < 0 ∨ cl3.slots.size ≤ (i.toInt32).toNatClampNeg) := inb_of S3 ⟨(own_ti (own_ki hi hn)).2.1, own_tl hi (own_k hn)⟩
  have hat3 : cl3.slots[(i.toInt32).toNatClampNeg]? = some (.int (nar .byte (cs[i].toInt8.toInt32))) := Has.at Hs3 hin3 (by rw [(own_ti (own_ki hi hn)).1]; exact own_atf (fun c => nar .byte c.toInt8.toInt32) hi)
  obtain ⟨fs, hr, hrun, hended, hW, hsame⟩ := X2.leave (v := some (.int (nar .char cs[i]))) (fun h => by rw [Bd.returns] at h; cases h)
  refine ⟨_, _, pre0 _ ?_, hrun, hended, _, _, rfl, ?_, ⟨_, rfl⟩, hW, hsame.mono (by decide) (by decide)⟩
  · show own_St p e below s₁ m 0 #[vR (a2), vI (i.toInt32)] [] _
    refine XS.iloadN X0.here hx rfl (hb hby d25_0) rfl ?_
    refine XS.aloadN X0.here hx rfl (hb hby d25_1) rfl rfl ?_
    show own_St p e below s₁ m 2 #[vR (a2), vI (i.toInt32)] [(.ref a2), (.int i.toInt32)] _
    refine X0.arraylength hx (by rw [e0]; exact Ar1.1) (State.isArrayOf_alike hZ.alike Ar1.2.1) (g := (mkF m 2 #[vR (a2), vI (i.toInt32)] [(.ref a2), (.int i.toInt32)])) rfl rfl (hb hby d25_2) _ ?_
    rw [len_of S1 Nn1]
    show own_St p e below s₁ m 3 #[vR (a2), vI (i.toInt32)] [(.int cs.length.toInt32), (.int i.toInt32)] _
    refine st2 _ ?_
    show own_St p e below T2 m 6 #[vR (a2), vI (i.toInt32)] [] _
    refine XS.aloadN X2.here hx rfl (hb hby d25_6) rfl rfl ?_
    refine XS.iloadN X2.here hx rfl (hb hby d25_7) rfl ?_
    show own_St p e below T2 m 8 #[vR (a2), vI (i.toInt32)] [(.int i.toInt32), (.ref a2)] _
    refine X2.baloadBytes hx (j := i.toInt32) (v := (.int (nar .byte (cs[i].toInt8.toInt32)))) (by rw [e2]; exact Ar3.1) (State.isArrayOf_alike hZ.alike Ar3.2.1) Ar3.2.2 hin3 hat3 (g := (mkF m 8 #[vR (a2), vI (i.toInt32)] [(.int i.toInt32), (.ref a2)])) rfl rfl (hb hby d25_8) _ ?_
    show own_St p e below T2 m 9 #[vR (a2), vI (i.toInt32)] [(.int (nar .byte (cs[i].toInt8.toInt32)))] _
    refine XS.sipush X2.here hx rfl (hb hby d25_9) ?_
    refine XS.iand X2.here hx rfl (hb hby d25_12) rfl ?_
    refine XS.i2c X2.here hx rfl (hb hby d25_13) rfl ?_
    show own_St p e below T2 m 14 #[vR (a2), vI (i.toInt32)] [(.int (((nar .byte (cs[i].toInt8.toInt32)) &&& (255 : Int32)).toUInt32.toUInt16.toUInt32.toInt32))] _
    rw [own_lat hz hl]
    show own_St p e below T2 m 14 #[vR (a2), vI (i.toInt32)] [(.int cs[i])] _
    exact retN X2 hx (t := .char) Bd.returns (by simp) (hb hby d25_14) hr
  · show own_Q (some (.int cs[i])) h0 n0 _ T2.heap _
    rw [e2]
    exact ⟨own_nch hz (own_255 hl), N2, rfl⟩
theorem own_notLat {cs : List Int32} (h : ¬ own_Lat cs) : ∃ j, ∃ hj : j < cs.length, (255 : Int32) < cs[j] := Classical.byContradiction fun q => h fun j hj r => q ⟨j, hj, r⟩
theorem own_n0 {n : Nat} (h : 1 ≤ n) (hn : n ≤ 4) : ¬ (n.toInt32 = (0 : Int32)) ∧ (0 : Int32) < n.toInt32 := by
  have h3 : n = 1 ∨ n = 2 ∨ n = 3 ∨ n = 4 := by omega
  rcases h3 with rfl | rfl | rfl | rfl <;> decide
theorem own_shr0 {n : Nat} (hn : n ≤ 4) : n.toInt32 >>> ((0 : Int32) &&& 31) = n.toInt32 := by
  have h3 : n = 0 ∨ n = 1 ∨ n = 2 ∨ n = 3 ∨ n = 4 := by omega
  rcases h3 with rfl | rfl | rfl | rfl | rfl <;> decide
theorem own_cfs {n : Nat} (hn : n ≤ 4) : ¬ (((n.toInt32 ||| (0 : Int32)) ||| n.toInt32) < (0 : Int32)) ∧ ¬ ((n.toInt32 - (0 : Int32)) < n.toInt32) := by
  have h3 : n = 0 ∨ n = 1 ∨ n = 2 ∨ n = 3 ∨ n = 4 := by omega
  rcases h3 with rfl | rfl | rfl | rfl | rfl <;> decide
theorem own_sub0 (x : Int32) : x - (0 : Int32) = x := by simp
theorem own_irr (x : Int32) : ¬ (x < x) := by rw [Int32.lt_iff_toInt_lt]; omega
theorem own_cap {n : Nat} (hn : n ≤ 4) : n.toInt32.toNatClampNeg ≤ 4 := by rw [(own_ti (own_k hn)).1]; exact hn
theorem own_4 {n : Nat} (hn : n ≤ 4) : n ≤ 400 := by omega
theorem own_nc {c : Int32} (h0 : ¬ (c < (0 : Int32))) (h1 : ¬ ((65535 : Int32) < c)) : nar .char c = c := Value.int.inj (Option.some.inj (own_nch h0 h1))
theorem own_mapc {cs : List Int32} (h : own_Bd cs) : cs.map (fun c => Value.int (nar .char c)) = cs.map Value.int := by
  apply List.map_congr_left
  intro c hc
  obtain ⟨j, hj, rfl⟩ := List.getElem_of_mem hc
  rw [own_nc (h j hj).1 (h j hj).2]
theorem own_fillc (cs : List Int32) {i : Nat} (h : i < cs.length) : (own_fill (fun c => nar .char c) cs i).set i (.int (nar .char cs[i])) = own_fill (fun c => nar .char c) cs (i + 1) := own_fill_set (fun c => nar .char c) cs h
def own_Str (Z : State) (h : Heap) (a : Addr) (cs : List Int32) : Prop := ∃ (b : Addr) (k : ClassId), Exa Z h a "java/lang/String" ∧ Fld Z h a "java/lang/String" "value" "[B" (.ref b) ∧ ((Fld Z h a "java/lang/String" "coder" "B" (.int (0 : Int32)) ∧ own_Lat cs ∧ Arv Z h b k .byte cs.length.toInt32 (cs.map (fun c => .int (nar .byte c.toInt8.toInt32))) (.int (0 : Int32))) ∨ (Fld Z h a "java/lang/String" "coder" "B" (.int (1 : Int32)) ∧ Arv Z h b k .byte (2 * cs.length).toInt32 (cs.flatMap own_two) (.int (0 : Int32))))
theorem own_Str_ext {Z : State} {h h' : Heap} {a : Addr} {cs : List Int32} (E : Ext h h') (S : own_Str Z h a cs) : own_Str Z h' a cs := by
  obtain ⟨b, k, E1, F1, ⟨F2, B, V⟩ | ⟨F2, V⟩⟩ := S
  · exact ⟨b, k, E1.ext E, F1.ext E, Or.inl ⟨F2.ext E, B, V.ext E⟩⟩
  · exact ⟨b, k, E1.ext E, F1.ext E, Or.inr ⟨F2.ext E, V.ext E⟩⟩
theorem own_Str_keep {Z : State} {h h' : Heap} {a : Addr} {cs : List Int32} (K : Keep h h' []) (S : own_Str Z h a cs) : own_Str Z h' a cs := by
  obtain ⟨b, k, E1, F1, ⟨F2, B, V⟩ | ⟨F2, V⟩⟩ := S
  · exact ⟨b, k, E1.keep K, F1.keep K (fun q => nomatch q), Or.inl ⟨F2.keep K (fun q => nomatch q), B, V.keep K (fun q => nomatch q)⟩⟩
  · exact ⟨b, k, E1.keep K, F1.keep K (fun q => nomatch q), Or.inr ⟨F2.keep K (fun q => nomatch q), V.keep K (fun q => nomatch q)⟩⟩
theorem own_Str_exa {Z : State} {h : Heap} {a : Addr} {cs : List Int32} (S : own_Str Z h a cs) : Exa Z h a "java/lang/String" := S.elim fun _ q => q.elim fun _ r => r.1
def own_QS (Z : State) (a1 : Addr) (cs : List Int32) (h0 : Heap) (n0 : Nat) (v : Option Value) (h : Heap) (L : List Loc) : Prop := v = none ∧ Fr n0 L ∧ Keep h0 h [a1] ∧ own_Str Z h a1 cs

theorem d16_0 : D16_ 0 = .ok (.iload_n 2, 1) := by decide +kernel
theorem d16_1 : D16_ 1 = .ok (.newarray .byte, 2) := by decide +kernel
theorem d16_3 : D16_ 3 = .ok (.astore_n 3, 1) := by decide +kernel
theorem d16_4 : D16_ 4 = .ok (.aload_n 0, 1) := by decide +kernel
theorem d16_5 : D16_ 5 = .ok (.iload_n 1, 1) := by decide +kernel
theorem d16_6 : D16_ 6 = .ok (.aload_n 3, 1) := by decide +kernel
theorem d16_7 : D16_ 7 = .ok (.iconst 0, 1) := by decide +kernel
theorem d16_8 : D16_ 8 = .ok (.iload_n 2, 1) := by decide +kernel
theorem d16_9 : D16_ 9 = .ok (.invokestatic 115, 3) := by decide +kernel
theorem pd_8 : parseMethodDescriptor "([CI[BII)I" = some ⟨[(.array .char), .int, (.array .byte), .int, .int], some .int⟩ := by decide +kernel
theorem d16_12 : D16_ 12 = .ok (.istore 4, 2) := by decide +kernel
theorem d16_14 : D16_ 14 = .ok (.iload 4, 2) := by decide +kernel
theorem d16_16 : D16_ 16 = .ok (.iload_n 2, 1) := by decide +kernel
theorem d16_17 : D16_ 17 = .ok (.if_icmp .eq 40, 3) := by decide +kernel
theorem d16_57 : D16_ 57 = .ok (.aload_n 3, 1) := by decide +kernel
theorem d16_58 : D16_ 58 = .ok (.areturn, 1) := by decide +kernel
theorem ef_16_13 (m : MethodId) (x0 : Addr) (x1 : Int32) (x2 : Int32) : entryFrame m #[(.ref x0), (.int x1), (.int x2)] 6 = mkF m 0 #[vR (x0), vI (x1), vI (x2), .unset, .unset, .unset] [] := by first | (simp [entryFrame, mkF, argsToLocals, Value.category]; done) | rfl
theorem r_cmA (l : Launch) (Z : State) (a0 : Array Value) (hw : own_HW a0 Z) (ws : List Jvm.Cond) (cs1 : Int32) (fv : Value) (h0 : Heap) (n0 : Nat) (O0 : Old Z n0 h0) (G : own_Ctx Z Z.heap cs1 fv) (a2 : Addr) (k2 : ClassId) (cs : List Int32) (Va : Arv Z h0 a2 k2 .char cs.length.toInt32 (cs.map Value.int) (.int (0 : Int32))) (hn : cs.length ≤ 4) (hB : own_Bd cs) (hl : own_Lat cs) :
    own_M l Y12_ (head1 (Jvm.Cond.code Y12_ jdk_52_method_16_code 6 (some (.array .byte)) :: ws) (own_rm_ 1 1 4 18)) #[(.ref a2), (.int (0 : Int32)), (.int cs.length.toInt32)] Z h0 n0 (own_QA Z .byte cs.length.toInt32 (cs.map (fun c => .int (nar .byte c.toInt8.toInt32)))) (own_rm_ 1 1 4 18).cells (own_rm_ 1 1 4 18).slots := by
  have G0 := G
  refine MetFree.of_bodySF (plainFor_of_name pn_0) hisR ?_
  intro p e s m args below meth c s₁ Bd hml0 hP hK
  obtain ⟨rfl, hZ, hh⟩ := hP
  have hx := Bd.exec
  have hby := Bd.bytes
  have hml : c.maxLocals = 6 := hml0
  have hown := findClass_of_methodNamed Bd.named
  have X0 : Stand p l e (own_rm_ 1 1 4 18) s m #[(.ref a2), (.int (0 : Int32)), (.int cs.length.toInt32)] below meth c s₁ [] 0 0 := Stand.of_body Bd
  have e0 : s₁.heap = h0 := by rw [← hh, Bd.state]; rfl
  have N0 := Fr.nil n0
  have pre0 := own_pre (tb := p.tables) (e := e) (below := below) (T := s₁) (ef_16_13 m a2 (0 : Int32) cs.length.toInt32)
  obtain ⟨T1, h1, ka1, X1, e1, E1, A1, st1⟩ := newP X0 hx hZ (own_w hw 20 rfl) e0 (g := (mkF m 1 #[vR (a2), vI ((0 : Int32)), vI (cs.length.toInt32), .unset, .unset, .unset] [(.int cs.length.toInt32)])) rfl (hb hby d16_1) rfl (own_ti (own_k hn)).2.1 (cap := 4) (own_cap hn) (by decide) (by decide) (by decide)
  obtain ⟨b1, g1⟩ : ∃ z, z = h0.size := ⟨_, rfl⟩
  have ne_a2_b1 : a2 ≠ b1 := Nat.ne_of_lt (Nat.lt_of_lt_of_le Va.lt (Nat.le_of_eq g1.symm))
  have g_b1 : n0 ≤ b1 := Nat.le_trans (O0.1 ▸ O0.2.1) (Nat.le_of_eq g1.symm)
  have sz_b1 : h0.size ≤ b1 := Nat.le_trans (Keep.refl h0 []).1 (Nat.le_of_eq g1.symm)
  rw [← g1] at A1 st1
  have f2 := Va.ext E1
  have O1 := O0.ext E1
  have K1 : Keep h0 h1 [] := (Keep.refl h0 []).ext E1
  have V1 : Arv Z h1 b1 ka1 .byte cs.length.toInt32 (List.replicate cs.length (.int (0 : Int32))) (.int (0 : Int32)) := (Arv.new A1 (own_ti (own_k hn)).2.1).pad (pad_rep [] (.int (0 : Int32)) cs.length)
  obtain ⟨_, _, ⟨T3, L3, k3, n3⟩, -, X3, ⟨Lc3, hQ3, l3, y3, z3⟩, st3⟩ := Jvm.LawKit.callS X1 hx (y := Y0_) hown (mvT hZ (own_w hw 79 rfl)) (mvT hZ (own_w hw 80 rfl)) (mvT hZ (own_w hw 77 rfl)) (mvT hZ (own_w hw 81 rfl)) (by decide) (backOf (W := 0) (r_clA l Z a0 hw [] cs1 fv h1 n0 O1 G0 a2 b1 k2 ka1 cs (own_k hn) f2 V1 g_b1 ne_a2_b1 hl) hZ (own_w hw 81 rfl) (own_w hw 77 rfl) (by decide) (by decide)) (g := (mkF m 9 #[vR (a2), vI ((0 : Int32)), vI (cs.length.toInt32), vR (b1), .unset, .unset] [(.int cs.length.toInt32), (.int (0 : Int32)), (.ref b1), (.int (0 : Int32)), (.ref a2)])) rfl (by rw [hml]; rfl) (argsL := [(.ref a2), (.int (0 : Int32)), (.ref b1), (.int (0 : Int32)), (.int cs.length.toInt32)]) (rest := []) (lenOf pd_8 rfl) rfl (by show 2 * 0 + _ ≤ _; exact Nat.le_of_eq rfl) (hb hby d16_9) (fun _ _ => ⟨rfl, e1, (by decide : 1 + 0 ≤ _), (by decide : 4 + 0 ≤ _)⟩)
  dsimp only [Pt.U, Pt.locs, Pt.cells, Pt.slots] at X3 l3 y3 z3 st3 hQ3
  subst l3 y3 z3
  obtain ⟨rfl, N3q, Kq3, Vb3⟩ := hQ3
  have N3 := Fr.app N0 N3q
  have f4 := f2.keep Kq3 (fun q => (List.mem_cons.mp q).elim ne_a2_b1 (fun q => nomatch q))
  have O3 := O1.keep Kq3 (allS g_b1 all0)
  have K3 : Keep h0 T3.heap [] := K1.trans Kq3 (allS (Or.inr sz_b1) all0)
  obtain ⟨fs, hr, hrun, hended, hW, hsame⟩ := X3.leave (v := some (.ref b1)) (fun h => by rw [Bd.returns] at h; cases h)
  refine ⟨_, _, pre0 _ ?_, hrun, hended, _, _, rfl, ?_, ⟨_, rfl⟩, hW, hsame.mono (by decide) (by decide)⟩
  · show own_St p e below s₁ m 0 #[vR (a2), vI ((0 : Int32)), vI (cs.length.toInt32), .unset, .unset, .unset] [] _
    refine XS.iloadN X0.here hx rfl (hb hby d16_0) rfl ?_
    show own_St p e below s₁ m 1 #[vR (a2), vI ((0 : Int32)), vI (cs.length.toInt32), .unset, .unset, .unset] [(.int cs.length.toInt32)] _
    refine st1 _ ?_
    show own_St p e below T1 m 3 #[vR (a2), vI ((0 : Int32)), vI (cs.length.toInt32), .unset, .unset, .unset] [(.ref b1)] _
    refine XS.astoreN X1.here hx rfl (hb hby d16_3) rfl rfl (l' := #[vR (a2), vI ((0 : Int32)), vI (cs.length.toInt32), vR (b1), .unset, .unset]) rfl ?_
    refine XS.aloadN X1.here hx rfl (hb hby d16_4) rfl rfl ?_
    refine XS.iloadN X1.here hx rfl (hb hby d16_5) rfl ?_
    refine XS.aloadN X1.here hx rfl (hb hby d16_6) rfl rfl ?_
    refine XS.iconst X1.here hx rfl (hb hby d16_7) ?_
    refine XS.iloadN X1.here hx rfl (hb hby d16_8) rfl ?_
    show own_St p e below T1 m 9 #[vR (a2), vI ((0 : Int32)), vI (cs.length.toInt32), vR (b1), .unset, .unset] [(.int cs.length.toInt32), (.int (0 : Int32)), (.ref b1), (.int (0 : Int32)), (.ref a2)] _
    refine st3 _ ?_
    show own_St p e below T3 m 12 #[vR (a2), vI ((0 : Int32)), vI (cs.length.toInt32), vR (b1), .unset, .unset] [(.int cs.length.toInt32)] _
    refine XS.istore X3.here hx rfl (hb hby d16_12) rfl (l' := #[vR (a2), vI ((0 : Int32)), vI (cs.length.toInt32), vR (b1), vI (cs.length.toInt32), .unset]) rfl ?_
    refine XS.iload X3.here hx rfl (hb hby d16_14) rfl ?_
    refine XS.iloadN X3.here hx rfl (hb hby d16_16) rfl ?_
    refine XS.icmpYes X3.here hx rfl (pc0 := 17) (pc' := 57) rfl (hb hby d16_17) rfl (teq (rfl : cs.length.toInt32 = cs.length.toInt32)).1 (by decide) (by decide) ?_
    refine XS.aloadN X3.here hx rfl (hb hby d16_57) rfl rfl ?_
    show own_St p e below T3 m 58 #[vR (a2), vI ((0 : Int32)), vI (cs.length.toInt32), vR (b1), vI (cs.length.toInt32), .unset] [(.ref b1)] _
    exact retOut X3 hx Bd.returns rfl (Or.inr (Or.inr (Or.inr (Or.inr ⟨rfl, rfl, rfl⟩)))) (hb hby d16_58) hr
  · exact ⟨b1, ka1, rfl, N3, K3, sz_b1, Vb3⟩
theorem d16_20 : D16_ 20 = .ok (.aload_n 0, 1) := by decide +kernel
theorem d16_21 : D16_ 21 = .ok (.iload_n 1, 1) := by decide +kernel
theorem d16_22 : D16_ 22 = .ok (.iload_n 2, 1) := by decide +kernel
theorem d16_23 : D16_ 23 = .ok (.invokestatic 119, 3) := by decide +kernel
theorem pd_9 : parseMethodDescriptor "([CII)[B" = some ⟨[(.array .char), .int, .int], some (.array .byte)⟩ := by decide +kernel
theorem d16_26 : D16_ 26 = .ok (.astore 5, 2) := by decide +kernel
theorem d16_28 : D16_ 28 = .ok (.aload 5, 2) := by decide +kernel
theorem d16_30 : D16_ 30 = .ok (.iload 4, 2) := by decide +kernel
theorem d16_32 : D16_ 32 = .ok (.invokestatic 71, 3) := by decide +kernel
theorem d16_35 : D16_ 35 = .ok (.sipush 255, 3) := by decide +kernel
theorem d16_38 : D16_ 38 = .ok (.if_icmp .gt 16, 3) := by decide +kernel
theorem d16_54 : D16_ 54 = .ok (.aload 5, 2) := by decide +kernel
theorem d16_56 : D16_ 56 = .ok (.areturn, 1) := by decide +kernel
theorem r_cmB (l : Launch) (Z : State) (a0 : Array Value) (hw : own_HW a0 Z) (ws : List Jvm.Cond) (cs1 : Int32) (fv : Value) (h0 : Heap) (n0 : Nat) (O0 : Old Z n0 h0) (G : own_Ctx Z Z.heap cs1 fv) (a2 : Addr) (k2 : ClassId) (cs : List Int32) (Va : Arv Z h0 a2 k2 .char cs.length.toInt32 (cs.map Value.int) (.int (0 : Int32))) (hn : cs.length ≤ 4) (hB : own_Bd cs) (hl : ∃ j, ∃ hj : j < cs.length, (255 : Int32) < cs[j]) :
    own_M l Y12_ (head1 (Jvm.Cond.code Y12_ jdk_52_method_16_code 6 (some (.array .byte)) :: ws) (own_rm_ 3 2 12 40)) #[(.ref a2), (.int (0 : Int32)), (.int cs.length.toInt32)] Z h0 n0 (own_QA Z .byte (2 * cs.length).toInt32 (cs.flatMap own_two)) (own_rm_ 3 2 12 40).cells (own_rm_ 3 2 12 40).slots := by
  have G0 := G
  refine MetFree.of_bodySF (plainFor_of_name pn_0) hisR ?_
  intro p e s m args below meth c s₁ Bd hml0 hP hK
  obtain ⟨rfl, hZ, hh⟩ := hP
  have hx := Bd.exec
  have hby := Bd.bytes
  have hml : c.maxLocals = 6 := hml0
  have hown := findClass_of_methodNamed Bd.named
  have X0 : Stand p l e (own_rm_ 3 2 12 40) s m #[(.ref a2), (.int (0 : Int32)), (.int cs.length.toInt32)] below meth c s₁ [] 0 0 := Stand.of_body Bd
  have e0 : s₁.heap = h0 := by rw [← hh, Bd.state]; rfl
  have N0 := Fr.nil n0
  have pre0 := own_pre (tb := p.tables) (e := e) (below := below) (T := s₁) (ef_16_13 m a2 (0 : Int32) cs.length.toInt32)
  obtain ⟨T1, h1, ka1, X1, e1, E1, A1, st1⟩ := newP X0 hx hZ (own_w hw 20 rfl) e0 (g := (mkF m 1 #[vR (a2), vI ((0 : Int32)), vI (cs.length.toInt32), .unset, .unset, .unset] [(.int cs.length.toInt32)])) rfl (hb hby d16_1) rfl (own_ti (own_k hn)).2.1 (cap := 4) (own_cap hn) (by decide) (by decide) (by decide)
  obtain ⟨b1, g1⟩ : ∃ z, z = h0.size := ⟨_, rfl⟩
  have ne_a2_b1 : a2 ≠ b1 := Nat.ne_of_lt (Nat.lt_of_lt_of_le Va.lt (Nat.le_of_eq g1.symm))
  have g_b1 : n0 ≤ b1 := Nat.le_trans (O0.1 ▸ O0.2.1) (Nat.le_of_eq g1.symm)
  have sz_b1 : h0.size ≤ b1 := Nat.le_trans (Keep.refl h0 []).1 (Nat.le_of_eq g1.symm)
  rw [← g1] at A1 st1
  have f2 := Va.ext E1
  have O1 := O0.ext E1
  have K1 : Keep h0 h1 [] := (Keep.refl h0 []).ext E1
  have V1 : Arv Z h1 b1 ka1 .byte cs.length.toInt32 (List.replicate cs.length (.int (0 : Int32))) (.int (0 : Int32)) := (Arv.new A1 (own_ti (own_k hn)).2.1).pad (pad_rep [] (.int (0 : Int32)) cs.length)
  obtain ⟨_, _, ⟨T3, L3, k3, n3⟩, -, X3, ⟨Lc3, hQ3, l3, y3, z3⟩, st3⟩ := Jvm.LawKit.callS X1 hx (y := Y0_) hown (mvT hZ (own_w hw 79 rfl)) (mvT hZ (own_w hw 80 rfl)) (mvT hZ (own_w hw 77 rfl)) (mvT hZ (own_w hw 81 rfl)) (by decide) (backOf (W := 0) (r_clB l Z a0 hw [] cs1 fv h1 n0 O1 G0 a2 b1 k2 ka1 cs (own_k hn) f2 V1 g_b1 ne_a2_b1 hl) hZ (own_w hw 81 rfl) (own_w hw 77 rfl) (by decide) (by decide)) (g := (mkF m 9 #[vR (a2), vI ((0 : Int32)), vI (cs.length.toInt32), vR (b1), .unset, .unset] [(.int cs.length.toInt32), (.int (0 : Int32)), (.ref b1), (.int (0 : Int32)), (.ref a2)])) rfl (by rw [hml]; rfl) (argsL := [(.ref a2), (.int (0 : Int32)), (.ref b1), (.int (0 : Int32)), (.int cs.length.toInt32)]) (rest := []) (lenOf pd_8 rfl) rfl (by show 2 * 0 + _ ≤ _; exact Nat.le_of_eq rfl) (hb hby d16_9) (fun _ _ => ⟨rfl, e1, (by decide : 1 + 0 ≤ _), (by decide : 4 + 0 ≤ _)⟩)
  dsimp only [Pt.U, Pt.locs, Pt.cells, Pt.slots] at X3 l3 y3 z3 st3 hQ3
  subst l3 y3 z3
  obtain ⟨rr3, rfl, N3q, Kq3, hr3, hc3⟩ := hQ3
  have N3 := Fr.app N0 N3q
  have f4 := f2.keep Kq3 (fun q => (List.mem_cons.mp q).elim ne_a2_b1 (fun q => nomatch q))
  have O3 := O1.keep Kq3 (allS g_b1 all0)
  have K3 : Keep h0 T3.heap [] := K1.trans Kq3 (allS (Or.inr sz_b1) all0)
  obtain ⟨_, _, ⟨T5, L5, k5, n5⟩, -, X5, ⟨Lc5, hQ5, l5, y5, z5⟩, st5⟩ := Jvm.LawKit.callS X3 hx (y := Y4_) hown (mvT hZ (own_w hw 178 rfl)) (mvT hZ (own_w hw 179 rfl)) (mvT hZ (own_w hw 77 rfl)) (mvT hZ (own_w hw 180 rfl)) (by decide) (backOf (W := 0) (r_tb l Z a0 hw [] cs1 fv T3.heap n0 O3 G0 a2 k2 cs f4 hn) hZ (own_w hw 180 rfl) (own_w hw 77 rfl) (by decide) (by decide)) (g := (mkF m 23 #[vR (a2), vI ((0 : Int32)), vI (cs.length.toInt32), vR (b1), vI (rr3.toInt32), .unset] [(.int cs.length.toInt32), (.int (0 : Int32)), (.ref a2)])) rfl (by rw [hml]; rfl) (argsL := [(.ref a2), (.int (0 : Int32)), (.int cs.length.toInt32)]) (rest := []) (lenOf pd_9 rfl) rfl (by show 2 * 0 + _ ≤ _; exact Nat.le_of_eq rfl) (hb hby d16_23) (fun _ _ => ⟨rfl, rfl, (by decide : 1 + 1 ≤ _), (by decide : 4 + 8 ≤ _)⟩)
  dsimp only [Pt.U, Pt.locs, Pt.cells, Pt.slots] at X5 l5 y5 z5 st5 hQ5
  subst l5 y5 z5
  obtain ⟨t5, kt5, rfl, N5q, Kq5, gt5, Vt5⟩ := hQ5
  have N5 := Fr.app N3 N5q
  have ne_a2_t5 : a2 ≠ t5 := Nat.ne_of_lt (Nat.lt_of_lt_of_le f4.lt gt5)
  have g_t5 : n0 ≤ t5 := Nat.le_trans (O3.1 ▸ O3.2.1) gt5
  have sz_t5 : h0.size ≤ t5 := Nat.le_trans K3.1 gt5
  have f6 := f4.keep Kq5 (fun q => nomatch q)
  have O5 := O3.keep Kq5 all0
  have K5 : Keep h0 T5.heap [] := K3.trans Kq5 all0
  obtain ⟨_, _, ⟨T7, L7, k7, n7⟩, -, X7, ⟨Lc7, hQ7, l7, y7, z7⟩, st7⟩ := Jvm.LawKit.callS X5 hx (y := Y7_) hown (mvT hZ (own_w hw 194 rfl)) (mvT hZ (own_w hw 195 rfl)) (mvT hZ (own_w hw 77 rfl)) (mvT hZ (own_w hw 196 rfl)) (by decide) (backOf (W := 0) (r_gc l Z a0 hw [] cs1 fv T5.heap n0 O5 G0 t5 kt5 cs rr3 Vt5 hr3 hn (hB _ hr3).1 (hB _ hr3).2) hZ (own_w hw 196 rfl) (own_w hw 77 rfl) (by decide) (by decide)) (g := (mkF m 32 #[vR (a2), vI ((0 : Int32)), vI (cs.length.toInt32), vR (b1), vI (rr3.toInt32), vR (t5)] [(.int rr3.toInt32), (.ref t5)])) rfl (by rw [hml]; rfl) (argsL := [(.ref t5), (.int rr3.toInt32)]) (rest := []) (lenOf pd_7 rfl) rfl (by show 2 * 0 + _ ≤ _; exact Nat.le_of_eq rfl) (hb hby d16_32) (fun _ _ => ⟨rfl, rfl, (by decide : 2 + 0 ≤ _), (by decide : 12 + 0 ≤ _)⟩)
  dsimp only [Pt.U, Pt.locs, Pt.cells, Pt.slots] at X7 l7 y7 z7 st7 hQ7
  subst l7 y7 z7
  obtain ⟨rfl, N7q, e7⟩ := hQ7
  have N7 := Fr.app N5 N7q
  obtain ⟨fs, hr, hrun, hended, hW, hsame⟩ := X7.leave (v := some (.ref t5)) (fun h => by rw [Bd.returns] at h; cases h)
  refine ⟨_, _, pre0 _ ?_, hrun, hended, _, _, rfl, ?_, ⟨_, rfl⟩, hW, hsame.mono (by decide) (by decide)⟩
  · show own_St p e below s₁ m 0 #[vR (a2), vI ((0 : Int32)), vI (cs.length.toInt32), .unset, .unset, .unset] [] _
    refine XS.iloadN X0.here hx rfl (hb hby d16_0) rfl ?_
    show own_St p e below s₁ m 1 #[vR (a2), vI ((0 : Int32)), vI (cs.length.toInt32), .unset, .unset, .unset] [(.int cs.length.toInt32)] _
    refine st1 _ ?_
    show own_St p e below T1 m 3 #[vR (a2), vI ((0 : Int32)), vI (cs.length.toInt32), .unset, .unset, .unset] [(.ref b1)] _
    refine XS.astoreN X1.here hx rfl (hb hby d16_3) rfl rfl (l' := #[vR (a2), vI ((0 : Int32)), vI (cs.length.toInt32), vR (b1), .unset, .unset]) rfl ?_
    refine XS.aloadN X1.here hx rfl (hb hby d16_4) rfl rfl ?_
    refine XS.iloadN X1.here hx rfl (hb hby d16_5) rfl ?_
    refine XS.aloadN X1.here hx rfl (hb hby d16_6) rfl rfl ?_
    refine XS.iconst X1.here hx rfl (hb hby d16_7) ?_
    refine XS.iloadN X1.here hx rfl (hb hby d16_8) rfl ?_
    show own_St p e below T1 m 9 #[vR (a2), vI ((0 : Int32)), vI (cs.length.toInt32), vR (b1), .unset, .unset] [(.int cs.length.toInt32), (.int (0 : Int32)), (.ref b1), (.int (0 : Int32)), (.ref a2)] _
    refine st3 _ ?_
    show own_St p e below T3 m 12 #[vR (a2), vI ((0 : Int32)), vI (cs.length.toInt32), vR (b1), .unset, .unset] [(.int rr3.toInt32)] _
    refine XS.istore X3.here hx rfl (hb hby d16_12) rfl (l' := #[vR (a2), vI ((0 : Int32)), vI (cs.length.toInt32), vR (b1), vI (rr3.toInt32), .unset]) rfl ?_
    refine XS.iload X3.here hx rfl (hb hby d16_14) rfl ?_
    refine XS.iloadN X3.here hx rfl (hb hby d16_16) rfl ?_
    refine XS.icmpNo X3.here hx rfl (hb hby d16_17) rfl (feq (own_fe hr3 hn : ¬ (rr3.toInt32 = cs.length.toInt32))).1 ?_
    refine XS.aloadN X3.here hx rfl (hb hby d16_20) rfl rfl ?_
    refine XS.iloadN X3.here hx rfl (hb hby d16_21) rfl ?_
    refine XS.iloadN X3.here hx rfl (hb hby d16_22) rfl ?_
    show own_St p e below T3 m 23 #[vR (a2), vI ((0 : Int32)), vI (cs.length.toInt32), vR (b1), vI (rr3.toInt32), .unset] [(.int cs.length.toInt32), (.int (0 : Int32)), (.ref a2)] _
    refine st5 _ ?_
    show own_St p e below T5 m 26 #[vR (a2), vI ((0 : Int32)), vI (cs.length.toInt32), vR (b1), vI (rr3.toInt32), .unset] [(.ref t5)] _
    refine XS.astore X5.here hx rfl (hb hby d16_26) rfl rfl (l' := #[vR (a2), vI ((0 : Int32)), vI (cs.length.toInt32), vR (b1), vI (rr3.toInt32), vR (t5)]) rfl ?_
    refine XS.aload X5.here hx rfl (hb hby d16_28) rfl rfl ?_
    refine XS.iload X5.here hx rfl (hb hby d16_30) rfl ?_
    show own_St p e below T5 m 32 #[vR (a2), vI ((0 : Int32)), vI (cs.length.toInt32), vR (b1), vI (rr3.toInt32), vR (t5)] [(.int rr3.toInt32), (.ref t5)] _
    refine st7 _ ?_
    show own_St p e below T7 m 35 #[vR (a2), vI ((0 : Int32)), vI (cs.length.toInt32), vR (b1), vI (rr3.toInt32), vR (t5)] [(.int cs[rr3])] _
    refine XS.sipush X7.here hx rfl (hb hby d16_35) ?_
    refine XS.icmpYes X7.here hx rfl (pc0 := 38) (pc' := 54) rfl (hb hby d16_38) rfl (tlt (hc3 : (255 : Int32) < cs[rr3])).2.2.1 (by decide) (by decide) ?_
    refine XS.aload X7.here hx rfl (hb hby d16_54) rfl rfl ?_
    show own_St p e below T7 m 56 #[vR (a2), vI ((0 : Int32)), vI (cs.length.toInt32), vR (b1), vI (rr3.toInt32), vR (t5)] [(.ref t5)] _
    exact retOut X7 hx Bd.returns rfl (Or.inr (Or.inr (Or.inr (Or.inr ⟨rfl, rfl, rfl⟩)))) (hb hby d16_56) hr
  · show own_QA Z .byte (2 * cs.length).toInt32 (cs.flatMap own_two) h0 n0 _ T7.heap _
    rw [e7]
    exact ⟨t5, kt5, rfl, N7, K5, sz_t5, Vt5⟩
theorem d18_0 : D18_ 0 = .ok (.iload_n 1, 1) := by decide +kernel
theorem d18_1 : D18_ 1 = .ok (.aload_n 0, 1) := by decide +kernel
theorem d18_2 : D18_ 2 = .ok (.arraylength, 1) := by decide +kernel
theorem d18_3 : D18_ 3 = .ok (.isub, 1) := by decide +kernel
theorem d18_4 : D18_ 4 = .ok (.bipush 31, 2) := by decide +kernel
theorem d18_6 : D18_ 6 = .ok (.iushr, 1) := by decide +kernel
theorem d18_7 : D18_ 7 = .ok (.i2b, 1) := by decide +kernel
theorem d18_8 : D18_ 8 = .ok (.ireturn, 1) := by decide +kernel
theorem ef_18_14 (m : MethodId) (x0 : Addr) (x1 : Int32) : entryFrame m #[(.ref x0), (.int x1)] 2 = mkF m 0 #[vR (x0), vI (x1)] [] := by first | (simp [entryFrame, mkF, argsToLocals, Value.category]; done) | rfl
theorem r_cdA (l : Launch) (Z : State) (a0 : Array Value) (hw : own_HW a0 Z) (ws : List Jvm.Cond) (cs1 : Int32) (fv : Value) (h0 : Heap) (n0 : Nat) (O0 : Old Z n0 h0) (G : own_Ctx Z Z.heap cs1 fv) (a2 : Addr) (k2 : ClassId) (n : Nat) (vs : List Value) (Va : Arv Z h0 a2 k2 .byte n.toInt32 vs (.int (0 : Int32))) (h1 : 1 ≤ n) (hn : n ≤ 4) :
    own_M l Y13_ (head1 (Jvm.Cond.code Y13_ jdk_52_method_15_code 2 (some .byte) :: ws) (own_rm_ 0 0 0 0)) #[(.ref a2), (.int n.toInt32)] Z h0 n0 (own_Q (some (.int (0 : Int32)))) (own_rm_ 0 0 0 0).cells (own_rm_ 0 0 0 0).slots := by
  have G0 := G
  refine MetFree.of_bodySF (plainFor_of_name pn_0) hisR ?_
  intro p e s m args below meth c s₁ Bd hml0 hP hK
  obtain ⟨rfl, hZ, hh⟩ := hP
  have hx := Bd.exec
  have hby := Bd.bytes
  have hml : c.maxLocals = 2 := hml0
  have hown := findClass_of_methodNamed Bd.named
  have X0 : Stand p l e (own_rm_ 0 0 0 0) s m #[(.ref a2), (.int n.toInt32)] below meth c s₁ [] 0 0 := Stand.of_body Bd
  have e0 : s₁.heap = h0 := by rw [← hh, Bd.state]; rfl
  have N0 := Fr.nil n0
  have pre0 := own_pre (tb := p.tables) (e := e) (below := below) (T := s₁) (ef_18_14 m a2 n.toInt32)
  have vc1 := Va
  obtain ⟨cl1, Ar1, qk1, S1, Nn1, Hs1, Gf1⟩ := vc1
  obtain ⟨fs, hr, hrun, hended, hW, hsame⟩ := X0.leave (v := some (.int (0 : Int32))) (fun h => by rw [Bd.returns] at h; cases h)
  refine ⟨_, _, pre0 _ ?_, hrun, hended, _, _, rfl, ?_, ⟨_, rfl⟩, hW, hsame.mono (by decide) (by decide)⟩
  · show own_St p e below s₁ m 0 #[vR (a2), vI (n.toInt32)] [] _
    refine XS.iloadN X0.here hx rfl (hb hby d18_0) rfl ?_
    refine XS.aloadN X0.here hx rfl (hb hby d18_1) rfl rfl ?_
    show own_St p e below s₁ m 2 #[vR (a2), vI (n.toInt32)] [(.ref a2), (.int n.toInt32)] _
    refine X0.arraylength hx (by rw [e0]; exact Ar1.1) (State.isArrayOf_alike hZ.alike Ar1.2.1) (g := (mkF m 2 #[vR (a2), vI (n.toInt32)] [(.ref a2), (.int n.toInt32)])) rfl rfl (hb hby d18_2) _ ?_
    rw [len_of S1 Nn1]
    show own_St p e below s₁ m 3 #[vR (a2), vI (n.toInt32)] [(.int n.toInt32), (.int n.toInt32)] _
    refine XS.isub X0.here hx rfl (hb hby d18_3) rfl ?_
    refine XS.bipush X0.here hx rfl (hb hby d18_4) ?_
    show own_St p e below s₁ m 6 #[vR (a2), vI (n.toInt32)] [(.int (31 : Int32)), (.int (n.toInt32 - n.toInt32))] _
    refine XS.iushr X0.here hx rfl (hb hby d18_6) rfl ?_
    show own_St p e below s₁ m 7 #[vR (a2), vI (n.toInt32)] [(.int (((n.toInt32 - n.toInt32).toUInt32 >>> ((31 : Int32) &&& 31).toUInt32).toInt32))] _
    refine XS.i2b X0.here hx rfl (hb hby d18_7) rfl ?_
    show own_St p e below s₁ m 8 #[vR (a2), vI (n.toInt32)] [(.int ((((n.toInt32 - n.toInt32).toUInt32 >>> ((31 : Int32) &&& 31).toUInt32).toInt32).toInt8.toInt32))] _
    rw [(own_cd h1 hn).1]
    show own_St p e below s₁ m 8 #[vR (a2), vI (n.toInt32)] [(.int (0 : Int32))] _
    exact retN X0 hx (t := .byte) Bd.returns (by simp) (hb hby d18_8) hr
  · show own_Q (some (.int (0 : Int32))) h0 n0 _ s₁.heap _
    rw [e0]
    exact ⟨rfl, N0, rfl⟩
theorem r_cdB (l : Launch) (Z : State) (a0 : Array Value) (hw : own_HW a0 Z) (ws : List Jvm.Cond) (cs1 : Int32) (fv : Value) (h0 : Heap) (n0 : Nat) (O0 : Old Z n0 h0) (G : own_Ctx Z Z.heap cs1 fv) (a2 : Addr) (k2 : ClassId) (n : Nat) (vs : List Value) (Va : Arv Z h0 a2 k2 .byte (2 * n).toInt32 vs (.int (0 : Int32))) (h1 : 1 ≤ n) (hn : n ≤ 4) :
    own_M l Y13_ (head1 (Jvm.Cond.code Y13_ jdk_52_method_15_code 2 (some .byte) :: ws) (own_rm_ 0 0 0 0)) #[(.ref a2), (.int n.toInt32)] Z h0 n0 (own_Q (some (.int (1 : Int32)))) (own_rm_ 0 0 0 0).cells (own_rm_ 0 0 0 0).slots := by
  have G0 := G
  refine MetFree.of_bodySF (plainFor_of_name pn_0) hisR ?_
  intro p e s m args below meth c s₁ Bd hml0 hP hK
  obtain ⟨rfl, hZ, hh⟩ := hP
  have hx := Bd.exec
  have hby := Bd.bytes
  have hml : c.maxLocals = 2 := hml0
  have hown := findClass_of_methodNamed Bd.named
  have X0 : Stand p l e (own_rm_ 0 0 0 0) s m #[(.ref a2), (.int n.toInt32)] below meth c s₁ [] 0 0 := Stand.of_body Bd
  have e0 : s₁.heap = h0 := by rw [← hh, Bd.state]; rfl
  have N0 := Fr.nil n0
  have pre0 := own_pre (tb := p.tables) (e := e) (below := below) (T := s₁) (ef_18_14 m a2 n.toInt32)
  have vc1 := Va
  obtain ⟨cl1, Ar1, qk1, S1, Nn1, Hs1, Gf1⟩ := vc1
  obtain ⟨fs, hr, hrun, hended, hW, hsame⟩ := X0.leave (v := some (.int (1 : Int32))) (fun h => by rw [Bd.returns] at h; cases h)
  refine ⟨_, _, pre0 _ ?_, hrun, hended, _, _, rfl, ?_, ⟨_, rfl⟩, hW, hsame.mono (by decide) (by decide)⟩
  · show own_St p e below s₁ m 0 #[vR (a2), vI (n.toInt32)] [] _
    refine XS.iloadN X0.here hx rfl (hb hby d18_0) rfl ?_
    refine XS.aloadN X0.here hx rfl (hb hby d18_1) rfl rfl ?_
    show own_St p e below s₁ m 2 #[vR (a2), vI (n.toInt32)] [(.ref a2), (.int n.toInt32)] _
    refine X0.arraylength hx (by rw [e0]; exact Ar1.1) (State.isArrayOf_alike hZ.alike Ar1.2.1) (g := (mkF m 2 #[vR (a2), vI (n.toInt32)] [(.ref a2), (.int n.toInt32)])) rfl rfl (hb hby d18_2) _ ?_
    rw [len_of S1 Nn1]
    show own_St p e below s₁ m 3 #[vR (a2), vI (n.toInt32)] [(.int (2 * n).toInt32), (.int n.toInt32)] _
    refine XS.isub X0.here hx rfl (hb hby d18_3) rfl ?_
    refine XS.bipush X0.here hx rfl (hb hby d18_4) ?_
    show own_St p e below s₁ m 6 #[vR (a2), vI (n.toInt32)] [(.int (31 : Int32)), (.int (n.toInt32 - (2 * n).toInt32))] _
    refine XS.iushr X0.here hx rfl (hb hby d18_6) rfl ?_
    show own_St p e below s₁ m 7 #[vR (a2), vI (n.toInt32)] [(.int (((n.toInt32 - (2 * n).toInt32).toUInt32 >>> ((31 : Int32) &&& 31).toUInt32).toInt32))] _
    refine XS.i2b X0.here hx rfl (hb hby d18_7) rfl ?_
    show own_St p e below s₁ m 8 #[vR (a2), vI (n.toInt32)] [(.int ((((n.toInt32 - (2 * n).toInt32).toUInt32 >>> ((31 : Int32) &&& 31).toUInt32).toInt32).toInt8.toInt32))] _
    rw [(own_cd h1 hn).2]
    show own_St p e below s₁ m 8 #[vR (a2), vI (n.toInt32)] [(.int (1 : Int32))] _
    exact retN X0 hx (t := .byte) Bd.returns (by simp) (hb hby d18_8) hr
  · show own_Q (some (.int (1 : Int32))) h0 n0 _ s₁.heap _
    rw [e0]
    exact ⟨rfl, N0, rfl⟩
theorem d3_0 : D3_ 0 = .ok (.aload_n 0, 1) := by decide +kernel
theorem d3_1 : D3_ 1 = .ok (.invokespecial 1, 3) := by decide +kernel
theorem d3_4 : D3_ 4 = .ok (.iload_n 3, 1) := by decide +kernel
theorem d3_5 : D3_ 5 = .ok (.ifCond .ne 22, 3) := by decide +kernel
theorem d3_27 : D3_ 27 = .ok (.getstatic 38, 3) := by decide +kernel
theorem d3_30 : D3_ 30 = .ok (.ifCond .eq 28, 3) := by decide +kernel
theorem d3_33 : D3_ 33 = .ok (.aload_n 1, 1) := by decide +kernel
theorem d3_34 : D3_ 34 = .ok (.iload_n 2, 1) := by decide +kernel
theorem d3_35 : D3_ 35 = .ok (.iload_n 3, 1) := by decide +kernel
theorem d3_36 : D3_ 36 = .ok (.invokestatic 177, 3) := by decide +kernel
theorem d3_39 : D3_ 39 = .ok (.astore 5, 2) := by decide +kernel
theorem d3_41 : D3_ 41 = .ok (.aload_n 0, 1) := by decide +kernel
theorem d3_42 : D3_ 42 = .ok (.aload 5, 2) := by decide +kernel
theorem d3_44 : D3_ 44 = .ok (.iload_n 3, 1) := by decide +kernel
theorem d3_45 : D3_ 45 = .ok (.invokestatic 47, 3) := by decide +kernel
theorem pd_10 : parseMethodDescriptor "([BI)B" = some ⟨[(.array .byte), .int], some .byte⟩ := by decide +kernel
theorem d3_48 : D3_ 48 = .ok (.putfield 15, 3) := by decide +kernel
theorem d3_51 : D3_ 51 = .ok (.aload_n 0, 1) := by decide +kernel
theorem d3_52 : D3_ 52 = .ok (.aload 5, 2) := by decide +kernel
theorem d3_54 : D3_ 54 = .ok (.putfield 9, 3) := by decide +kernel
theorem d3_57 : D3_ 57 = .ok (.return_, 1) := by decide +kernel
theorem ef_3_15 (m : MethodId) (x0 : Addr) (x1 : Addr) (x2 : Int32) (x3 : Int32) : entryFrame m #[(.ref x0), (.ref x1), (.int x2), (.int x3), .null] 6 = mkF m 0 #[vR (x0), vR (x1), vI (x2), vI (x3), .val .null, .unset] [] := by first | (simp [entryFrame, mkF, argsToLocals, Value.category]; done) | rfl
theorem r_svA (l : Launch) (Z : State) (a0 : Array Value) (hw : own_HW a0 Z) (ws : List Jvm.Cond) (cs1 : Int32) (fv : Value) (h0 : Heap) (n0 : Nat) (O0 : Old Z n0 h0) (G : own_Ctx Z Z.heap cs1 fv) (a1 a2 : Addr) (k2 : ClassId) (cs : List Int32) (Ea : Exa Z h0 a1 "java/lang/String") (ga : n0 ≤ a1) (Fc : Fld Z h0 a1 "java/lang/String" "coder" "B" (.int (0 : Int32))) (Fv : Fld Z h0 a1 "java/lang/String" "value" "[B" .null) (Va : Arv Z h0 a2 k2 .char cs.length.toInt32 (cs.map Value.int) (.int (0 : Int32))) (hne : a2 ≠ a1) (hn : cs.length ≤ 4) (h1 : 1 ≤ cs.length) (hB : own_Bd cs) (hl : own_Lat cs) :
    own_M l Y14_ (head1 (Jvm.Cond.code Y14_ jdk_42_method_149_code 6 none :: ws) (own_rm_ 2 1 4 35)) #[(.ref a1), (.ref a2), (.int (0 : Int32)), (.int cs.length.toInt32), .null] Z h0 n0 (own_QS Z a1 cs) (own_rm_ 2 1 4 35).cells (own_rm_ 2 1 4 35).slots := by
  have G0 := G
  obtain ⟨S_CS, N_CS, S_F, R_F, S_AD, S_HI, S_LO⟩ := G
  refine MetFree.of_bodySF (plainFor_of_name pn_2) hisR ?_
  intro p e s m args below meth c s₁ Bd hml0 hP hK
  obtain ⟨rfl, hZ, hh⟩ := hP
  have hx := Bd.exec
  have hby := Bd.bytes
  have hml : c.maxLocals = 6 := hml0
  have hown := findClass_of_methodNamed Bd.named
  have hnm := (name_of_methodNamed Bd.named Bd.method).1
  have X0 : Stand p l e (own_rm_ 2 1 4 35) s m #[(.ref a1), (.ref a2), (.int (0 : Int32)), (.int cs.length.toInt32), .null] below meth c s₁ [] 0 0 := Stand.of_body Bd
  have e0 : s₁.heap = h0 := by rw [← hh, Bd.state]; rfl
  have N0 := Fr.nil n0
  have pre0 := own_pre (tb := p.tables) (e := e) (below := below) (T := s₁) (ef_3_15 m a1 a2 (0 : Int32) cs.length.toInt32)
  obtain ⟨T1, X1, e1, st1⟩ := initO X0 hx hZ hown (own_w hw 16 rfl) (own_w hw 17 rfl) (own_w hw 18 rfl) e0 (g := (mkF m 1 #[vR (a1), vR (a2), vI ((0 : Int32)), vI (cs.length.toInt32), .val .null, .unset] [(.ref a1)])) rfl (by rw [hml]; rfl) rfl (hb hby d3_1) (by decide) (W := 0) (by show 2 * 0 + _ ≤ _; exact Nat.le_of_eq rfl) (by decide)
  obtain ⟨T2, X2, e2, st2⟩ := getS2 X1 hx hZ hown (host := "") (Or.inl (own_w hw 46 rfl)) Via.refl e1 (S_CS.ext O0.2) (g := (mkF m 27 #[vR (a1), vR (a2), vI ((0 : Int32)), vI (cs.length.toInt32), .val .null, .unset] [])) rfl (hb hby d3_27)
  obtain ⟨_, _, ⟨T3, L3, k3, n3⟩, -, X3, ⟨Lc3, hQ3, l3, y3, z3⟩, st3⟩ := Jvm.LawKit.callS X2 hx (y := Y12_) hown (mvT hZ (own_w hw 75 rfl)) (mvT hZ (own_w hw 76 rfl)) (mvT hZ (own_w hw 77 rfl)) (mvT hZ (own_w hw 78 rfl)) (by decide) (backOf (W := 0) (r_cmA l Z a0 hw [] cs1 fv h0 n0 O0 G0 a2 k2 cs Va hn hB hl) hZ (own_w hw 78 rfl) (own_w hw 77 rfl) (by decide) (by decide)) (g := (mkF m 36 #[vR (a1), vR (a2), vI ((0 : Int32)), vI (cs.length.toInt32), .val .null, .unset] [(.int cs.length.toInt32), (.int (0 : Int32)), (.ref a2)])) rfl (by rw [hml]; rfl) (argsL := [(.ref a2), (.int (0 : Int32)), (.int cs.length.toInt32)]) (rest := []) (lenOf pd_9 rfl) rfl (by show 2 * 0 + _ ≤ _; exact Nat.le_of_eq rfl) (hb hby d3_36) (fun _ _ => ⟨rfl, e2, (by decide : 0 + 1 ≤ _), (by decide : 0 + 4 ≤ _)⟩)
  dsimp only [Pt.U, Pt.locs, Pt.cells, Pt.slots] at X3 l3 y3 z3 st3 hQ3
  subst l3 y3 z3
  obtain ⟨t3, kt3, rfl, N3q, Kq3, gt3, Vt3⟩ := hQ3
  have N3 := Fr.app N0 N3q
  have ne_a1_t3 : a1 ≠ t3 := Nat.ne_of_lt (Nat.lt_of_lt_of_le Ea.lt gt3)
  have ne_a2_t3 : a2 ≠ t3 := Nat.ne_of_lt (Nat.lt_of_lt_of_le Va.lt gt3)
  have g_t3 : n0 ≤ t3 := Nat.le_trans (O0.1 ▸ O0.2.1) gt3
  have sz_t3 : h0.size ≤ t3 := Nat.le_trans (Keep.refl h0 [a1]).1 gt3
  have f4 := Ea.keep Kq3
  have f5 := Fc.keep Kq3 (fun q => nomatch q)
  have f6 := Fv.keep Kq3 (fun q => nomatch q)
  have f7 := Va.keep Kq3 (fun q => nomatch q)
  have O3 := O0.keep Kq3 all0
  have K3 : Keep h0 T3.heap [a1] := (Keep.refl h0 [a1]).trans Kq3 all0
  obtain ⟨_, _, ⟨T8, L8, k8, n8⟩, -, X8, ⟨Lc8, hQ8, l8, y8, z8⟩, st8⟩ := Jvm.LawKit.callS X3 hx (y := Y13_) hown (mvT hZ (own_w hw 82 rfl)) (mvT hZ (own_w hw 83 rfl)) (mvT hZ (own_w hw 77 rfl)) (mvT hZ (own_w hw 84 rfl)) (by decide) (backOf (W := 1) (r_cdA l Z a0 hw [] cs1 fv T3.heap n0 O3 G0 t3 kt3 cs.length _ Vt3 h1 hn) hZ (own_w hw 84 rfl) (own_w hw 77 rfl) (by decide) (by decide)) (g := (mkF m 45 #[vR (a1), vR (a2), vI ((0 : Int32)), vI (cs.length.toInt32), .val .null, vR (t3)] [(.int cs.length.toInt32), (.ref t3), (.ref a1)])) rfl (by rw [hml]; rfl) (argsL := [(.ref t3), (.int cs.length.toInt32)]) (rest := [(.ref a1)]) (lenOf pd_10 rfl) rfl (by show 2 * 0 + _ ≤ _; exact Nat.le_of_eq rfl) (hb hby d3_45) (fun _ _ => ⟨rfl, rfl, (by decide : 1 + 0 ≤ _), (by decide : 4 + 0 ≤ _)⟩)
  dsimp only [Pt.U, Pt.locs, Pt.cells, Pt.slots] at X8 l8 y8 z8 st8 hQ8
  subst l8 y8 z8
  obtain ⟨rfl, N8q, e8⟩ := hQ8
  have N8 := Fr.app N3 N8q
  obtain ⟨T9, h9, X9, e9, W9, st9⟩ := putFN X8 hx hZ hown (own_w hw 26 rfl) Via.refl e8 f5 f4 (Or.inr ⟨(own_w hw 22 rfl), rfl, hnm⟩) (own_w hw 7 rfl) (ty := .byte) (v' := (.int ((0 : Int32).toInt8.toInt32))) (by decide) rfl (fits_nar_byte _) (g := (mkF m 48 #[vR (a1), vR (a2), vI ((0 : Int32)), vI (cs.length.toInt32), .val .null, vR (t3)] [(.int (0 : Int32)), (.ref a1)])) rfl rfl (hb hby d3_48)
  have f10 := f4.wr W9
  have f11 := f6.other W9 (Or.inr (slot_ne (Or.inr (own_w hw 21 rfl)) (Or.inr (own_w hw 22 rfl)) (by decide) (t := (.array .byte)) (t' := .byte) (by decide) (by decide)))
  have f12 := f7.other W9 hne
  have f13 := Vt3.other W9 (Ne.symm ne_a1_t3)
  have O9 := O3.wr W9 ga
  have K9 : Keep h0 h9 [a1] := K3.wr W9 (Or.inl (List.mem_of_getElem? (i := 0) rfl))
  have N9 := Fr.snoc X9 N8 ga
  have f14 := f5.same W9
  obtain ⟨T15, h15, X15, e15, W15, st15⟩ := putF X9 hx hZ hown (host := "") (Or.inl (own_w hw 25 rfl)) Via.refl e9 f11 f10 (Or.inr ⟨(own_w hw 21 rfl), rfl, hnm⟩) (own_w hw 7 rfl) (ty := (.array .byte)) (by decide) rfl rfl (g := (mkF m 54 #[vR (a1), vR (a2), vI ((0 : Int32)), vI (cs.length.toInt32), .val .null, vR (t3)] [(.ref t3), (.ref a1)])) rfl rfl (hb hby d3_54)
  have f16 := f10.wr W15
  have f17 := f14.other W15 (Or.inr (slot_ne (Or.inr (own_w hw 22 rfl)) (Or.inr (own_w hw 21 rfl)) (by decide) (t := .byte) (t' := (.array .byte)) (by decide) (by decide)))
  have f18 := f12.other W15 hne
  have f19 := f13.other W15 (Ne.symm ne_a1_t3)
  have O15 := O9.wr W15 ga
  have K15 : Keep h0 h15 [a1] := K9.wr W15 (Or.inl (List.mem_of_getElem? (i := 0) rfl))
  have N15 := Fr.snoc X15 N9 ga
  have f20 := f11.same W15
  obtain ⟨fs, hr, hrun, hended, hW, hsame⟩ := X15.leave (v := none) (fun _ => rfl)
  refine ⟨_, _, pre0 _ ?_, hrun, hended, _, _, rfl, ?_, ⟨_, rfl⟩, hW, hsame.mono (by decide) (by decide)⟩
  · show own_St p e below s₁ m 0 #[vR (a1), vR (a2), vI ((0 : Int32)), vI (cs.length.toInt32), .val .null, .unset] [] _
    refine XS.aloadN X0.here hx rfl (hb hby d3_0) rfl rfl ?_
    show own_St p e below s₁ m 1 #[vR (a1), vR (a2), vI ((0 : Int32)), vI (cs.length.toInt32), .val .null, .unset] [(.ref a1)] _
    refine st1 _ ?_
    show own_St p e below T1 m 4 #[vR (a1), vR (a2), vI ((0 : Int32)), vI (cs.length.toInt32), .val .null, .unset] [] _
    refine XS.iloadN X1.here hx rfl (hb hby d3_4) rfl ?_
    refine XS.ifYes X1.here hx rfl (pc0 := 5) (pc' := 27) rfl (hb hby d3_5) rfl ((if0 _ _).trans (feq ((own_n0 h1 hn).1 : ¬ (cs.length.toInt32 = (0 : Int32)))).2) (by decide) (by decide) ?_
    show own_St p e below T1 m 27 #[vR (a1), vR (a2), vI ((0 : Int32)), vI (cs.length.toInt32), .val .null, .unset] [] _
    refine st2 _ ?_
    show own_St p e below T2 m 30 #[vR (a1), vR (a2), vI ((0 : Int32)), vI (cs.length.toInt32), .val .null, .unset] [(.int cs1)] _
    refine XS.ifNo X2.here hx rfl (hb hby d3_30) rfl ((if0 _ _).trans (feq (N_CS : ¬ (cs1 = (0 : Int32)))).1) ?_
    refine XS.aloadN X2.here hx rfl (hb hby d3_33) rfl rfl ?_
    refine XS.iloadN X2.here hx rfl (hb hby d3_34) rfl ?_
    refine XS.iloadN X2.here hx rfl (hb hby d3_35) rfl ?_
    show own_St p e below T2 m 36 #[vR (a1), vR (a2), vI ((0 : Int32)), vI (cs.length.toInt32), .val .null, .unset] [(.int cs.length.toInt32), (.int (0 : Int32)), (.ref a2)] _
    refine st3 _ ?_
    show own_St p e below T3 m 39 #[vR (a1), vR (a2), vI ((0 : Int32)), vI (cs.length.toInt32), .val .null, .unset] [(.ref t3)] _
    refine XS.astore X3.here hx rfl (hb hby d3_39) rfl rfl (l' := #[vR (a1), vR (a2), vI ((0 : Int32)), vI (cs.length.toInt32), .val .null, vR (t3)]) rfl ?_
    refine XS.aloadN X3.here hx rfl (hb hby d3_41) rfl rfl ?_
    refine XS.aload X3.here hx rfl (hb hby d3_42) rfl rfl ?_
    refine XS.iloadN X3.here hx rfl (hb hby d3_44) rfl ?_
    show own_St p e below T3 m 45 #[vR (a1), vR (a2), vI ((0 : Int32)), vI (cs.length.toInt32), .val .null, vR (t3)] [(.int cs.length.toInt32), (.ref t3), (.ref a1)] _
    refine st8 _ ?_
    show own_St p e below T8 m 48 #[vR (a1), vR (a2), vI ((0 : Int32)), vI (cs.length.toInt32), .val .null, vR (t3)] [(.int (0 : Int32)), (.ref a1)] _
    refine st9 _ ?_
    show own_St p e below T9 m 51 #[vR (a1), vR (a2), vI ((0 : Int32)), vI (cs.length.toInt32), .val .null, vR (t3)] [] _
    refine XS.aloadN X9.here hx rfl (hb hby d3_51) rfl rfl ?_
    refine XS.aload X9.here hx rfl (hb hby d3_52) rfl rfl ?_
    show own_St p e below T9 m 54 #[vR (a1), vR (a2), vI ((0 : Int32)), vI (cs.length.toInt32), .val .null, vR (t3)] [(.ref t3), (.ref a1)] _
    refine st15 _ ?_
    show own_St p e below T15 m 57 #[vR (a1), vR (a2), vI ((0 : Int32)), vI (cs.length.toInt32), .val .null, vR (t3)] [] _
    exact X15.returnOut hx Bd.returns (hb hby d3_57) hr
  · show own_QS Z a1 cs h0 n0 _ T15.heap _
    rw [e15]
    exact ⟨rfl, N15, K15, t3, kt3, f16, f20, Or.inl ⟨f17, hl, f19⟩⟩
theorem r_svB (l : Launch) (Z : State) (a0 : Array Value) (hw : own_HW a0 Z) (ws : List Jvm.Cond) (cs1 : Int32) (fv : Value) (h0 : Heap) (n0 : Nat) (O0 : Old Z n0 h0) (G : own_Ctx Z Z.heap cs1 fv) (a1 a2 : Addr) (k2 : ClassId) (cs : List Int32) (Ea : Exa Z h0 a1 "java/lang/String") (ga : n0 ≤ a1) (Fc : Fld Z h0 a1 "java/lang/String" "coder" "B" (.int (0 : Int32))) (Fv : Fld Z h0 a1 "java/lang/String" "value" "[B" .null) (Va : Arv Z h0 a2 k2 .char cs.length.toInt32 (cs.map Value.int) (.int (0 : Int32))) (hne : a2 ≠ a1) (hn : cs.length ≤ 4) (h1 : 1 ≤ cs.length) (hB : own_Bd cs) (hl : ∃ j, ∃ hj : j < cs.length, (255 : Int32) < cs[j]) :
    own_M l Y14_ (head1 (Jvm.Cond.code Y14_ jdk_42_method_149_code 6 none :: ws) (own_rm_ 4 2 12 57)) #[(.ref a1), (.ref a2), (.int (0 : Int32)), (.int cs.length.toInt32), .null] Z h0 n0 (own_QS Z a1 cs) (own_rm_ 4 2 12 57).cells (own_rm_ 4 2 12 57).slots := by
  have G0 := G
  obtain ⟨S_CS, N_CS, S_F, R_F, S_AD, S_HI, S_LO⟩ := G
  refine MetFree.of_bodySF (plainFor_of_name pn_2) hisR ?_
  intro p e s m args below meth c s₁ Bd hml0 hP hK
  obtain ⟨rfl, hZ, hh⟩ := hP
  have hx := Bd.exec
  have hby := Bd.bytes
  have hml : c.maxLocals = 6 := hml0
  have hown := findClass_of_methodNamed Bd.named
  have hnm := (name_of_methodNamed Bd.named Bd.method).1
  have X0 : Stand p l e (own_rm_ 4 2 12 57) s m #[(.ref a1), (.ref a2), (.int (0 : Int32)), (.int cs.length.toInt32), .null] below meth c s₁ [] 0 0 := Stand.of_body Bd
  have e0 : s₁.heap = h0 := by rw [← hh, Bd.state]; rfl
  have N0 := Fr.nil n0
  have pre0 := own_pre (tb := p.tables) (e := e) (below := below) (T := s₁) (ef_3_15 m a1 a2 (0 : Int32) cs.length.toInt32)
  obtain ⟨T1, X1, e1, st1⟩ := initO X0 hx hZ hown (own_w hw 16 rfl) (own_w hw 17 rfl) (own_w hw 18 rfl) e0 (g := (mkF m 1 #[vR (a1), vR (a2), vI ((0 : Int32)), vI (cs.length.toInt32), .val .null, .unset] [(.ref a1)])) rfl (by rw [hml]; rfl) rfl (hb hby d3_1) (by decide) (W := 0) (by show 2 * 0 + _ ≤ _; exact Nat.le_of_eq rfl) (by decide)
  obtain ⟨T2, X2, e2, st2⟩ := getS2 X1 hx hZ hown (host := "") (Or.inl (own_w hw 46 rfl)) Via.refl e1 (S_CS.ext O0.2) (g := (mkF m 27 #[vR (a1), vR (a2), vI ((0 : Int32)), vI (cs.length.toInt32), .val .null, .unset] [])) rfl (hb hby d3_27)
  obtain ⟨_, _, ⟨T3, L3, k3, n3⟩, -, X3, ⟨Lc3, hQ3, l3, y3, z3⟩, st3⟩ := Jvm.LawKit.callS X2 hx (y := Y12_) hown (mvT hZ (own_w hw 75 rfl)) (mvT hZ (own_w hw 76 rfl)) (mvT hZ (own_w hw 77 rfl)) (mvT hZ (own_w hw 78 rfl)) (by decide) (backOf (W := 0) (r_cmB l Z a0 hw [] cs1 fv h0 n0 O0 G0 a2 k2 cs Va hn hB hl) hZ (own_w hw 78 rfl) (own_w hw 77 rfl) (by decide) (by decide)) (g := (mkF m 36 #[vR (a1), vR (a2), vI ((0 : Int32)), vI (cs.length.toInt32), .val .null, .unset] [(.int cs.length.toInt32), (.int (0 : Int32)), (.ref a2)])) rfl (by rw [hml]; rfl) (argsL := [(.ref a2), (.int (0 : Int32)), (.int cs.length.toInt32)]) (rest := []) (lenOf pd_9 rfl) rfl (by show 2 * 0 + _ ≤ _; exact Nat.le_of_eq rfl) (hb hby d3_36) (fun _ _ => ⟨rfl, e2, (by decide : 0 + 2 ≤ _), (by decide : 0 + 12 ≤ _)⟩)
  dsimp only [Pt.U, Pt.locs, Pt.cells, Pt.slots] at X3 l3 y3 z3 st3 hQ3
  subst l3 y3 z3
  obtain ⟨t3, kt3, rfl, N3q, Kq3, gt3, Vt3⟩ := hQ3
  have N3 := Fr.app N0 N3q
  have ne_a1_t3 : a1 ≠ t3 := Nat.ne_of_lt (Nat.lt_of_lt_of_le Ea.lt gt3)
  have ne_a2_t3 : a2 ≠ t3 := Nat.ne_of_lt (Nat.lt_of_lt_of_le Va.lt gt3)
  have g_t3 : n0 ≤ t3 := Nat.le_trans (O0.1 ▸ O0.2.1) gt3
  have sz_t3 : h0.size ≤ t3 := Nat.le_trans (Keep.refl h0 [a1]).1 gt3
  have f4 := Ea.keep Kq3
  have f5 := Fc.keep Kq3 (fun q => nomatch q)
  have f6 := Fv.keep Kq3 (fun q => nomatch q)
  have f7 := Va.keep Kq3 (fun q => nomatch q)
  have O3 := O0.keep Kq3 all0
  have K3 : Keep h0 T3.heap [a1] := (Keep.refl h0 [a1]).trans Kq3 all0
  obtain ⟨_, _, ⟨T8, L8, k8, n8⟩, -, X8, ⟨Lc8, hQ8, l8, y8, z8⟩, st8⟩ := Jvm.LawKit.callS X3 hx (y := Y13_) hown (mvT hZ (own_w hw 82 rfl)) (mvT hZ (own_w hw 83 rfl)) (mvT hZ (own_w hw 77 rfl)) (mvT hZ (own_w hw 84 rfl)) (by decide) (backOf (W := 1) (r_cdB l Z a0 hw [] cs1 fv T3.heap n0 O3 G0 t3 kt3 cs.length _ Vt3 h1 hn) hZ (own_w hw 84 rfl) (own_w hw 77 rfl) (by decide) (by decide)) (g := (mkF m 45 #[vR (a1), vR (a2), vI ((0 : Int32)), vI (cs.length.toInt32), .val .null, vR (t3)] [(.int cs.length.toInt32), (.ref t3), (.ref a1)])) rfl (by rw [hml]; rfl) (argsL := [(.ref t3), (.int cs.length.toInt32)]) (rest := [(.ref a1)]) (lenOf pd_10 rfl) rfl (by show 2 * 0 + _ ≤ _; exact Nat.le_of_eq rfl) (hb hby d3_45) (fun _ _ => ⟨rfl, rfl, (by decide : 2 + 0 ≤ _), (by decide : 12 + 0 ≤ _)⟩)
  dsimp only [Pt.U, Pt.locs, Pt.cells, Pt.slots] at X8 l8 y8 z8 st8 hQ8
  subst l8 y8 z8
  obtain ⟨rfl, N8q, e8⟩ := hQ8
  have N8 := Fr.app N3 N8q
  obtain ⟨T9, h9, X9, e9, W9, st9⟩ := putFN X8 hx hZ hown (own_w hw 26 rfl) Via.refl e8 f5 f4 (Or.inr ⟨(own_w hw 22 rfl), rfl, hnm⟩) (own_w hw 7 rfl) (ty := .byte) (v' := (.int ((1 : Int32).toInt8.toInt32))) (by decide) rfl (fits_nar_byte _) (g := (mkF m 48 #[vR (a1), vR (a2), vI ((0 : Int32)), vI (cs.length.toInt32), .val .null, vR (t3)] [(.int (1 : Int32)), (.ref a1)])) rfl rfl (hb hby d3_48)
  have f10 := f4.wr W9
  have f11 := f6.other W9 (Or.inr (slot_ne (Or.inr (own_w hw 21 rfl)) (Or.inr (own_w hw 22 rfl)) (by decide) (t := (.array .byte)) (t' := .byte) (by decide) (by decide)))
  have f12 := f7.other W9 hne
  have f13 := Vt3.other W9 (Ne.symm ne_a1_t3)
  have O9 := O3.wr W9 ga
  have K9 : Keep h0 h9 [a1] := K3.wr W9 (Or.inl (List.mem_of_getElem? (i := 0) rfl))
  have N9 := Fr.snoc X9 N8 ga
  have f14 := f5.same W9
  obtain ⟨T15, h15, X15, e15, W15, st15⟩ := putF X9 hx hZ hown (host := "") (Or.inl (own_w hw 25 rfl)) Via.refl e9 f11 f10 (Or.inr ⟨(own_w hw 21 rfl), rfl, hnm⟩) (own_w hw 7 rfl) (ty := (.array .byte)) (by decide) rfl rfl (g := (mkF m 54 #[vR (a1), vR (a2), vI ((0 : Int32)), vI (cs.length.toInt32), .val .null, vR (t3)] [(.ref t3), (.ref a1)])) rfl rfl (hb hby d3_54)
  have f16 := f10.wr W15
  have f17 := f14.other W15 (Or.inr (slot_ne (Or.inr (own_w hw 22 rfl)) (Or.inr (own_w hw 21 rfl)) (by decide) (t := .byte) (t' := (.array .byte)) (by decide) (by decide)))
  have f18 := f12.other W15 hne
  have f19 := f13.other W15 (Ne.symm ne_a1_t3)
  have O15 := O9.wr W15 ga
  have K15 : Keep h0 h15 [a1] := K9.wr W15 (Or.inl (List.mem_of_getElem? (i := 0) rfl))
  have N15 := Fr.snoc X15 N9 ga
  have f20 := f11.same W15
  obtain ⟨fs, hr, hrun, hended, hW, hsame⟩ := X15.leave (v := none) (fun _ => rfl)
  refine ⟨_, _, pre0 _ ?_, hrun, hended, _, _, rfl, ?_, ⟨_, rfl⟩, hW, hsame.mono (by decide) (by decide)⟩
  · show own_St p e below s₁ m 0 #[vR (a1), vR (a2), vI ((0 : Int32)), vI (cs.length.toInt32), .val .null, .unset] [] _
    refine XS.aloadN X0.here hx rfl (hb hby d3_0) rfl rfl ?_
    show own_St p e below s₁ m 1 #[vR (a1), vR (a2), vI ((0 : Int32)), vI (cs.length.toInt32), .val .null, .unset] [(.ref a1)] _
    refine st1 _ ?_
    show own_St p e below T1 m 4 #[vR (a1), vR (a2), vI ((0 : Int32)), vI (cs.length.toInt32), .val .null, .unset] [] _
    refine XS.iloadN X1.here hx rfl (hb hby d3_4) rfl ?_
    refine XS.ifYes X1.here hx rfl (pc0 := 5) (pc' := 27) rfl (hb hby d3_5) rfl ((if0 _ _).trans (feq ((own_n0 h1 hn).1 : ¬ (cs.length.toInt32 = (0 : Int32)))).2) (by decide) (by decide) ?_
    show own_St p e below T1 m 27 #[vR (a1), vR (a2), vI ((0 : Int32)), vI (cs.length.toInt32), .val .null, .unset] [] _
    refine st2 _ ?_
    show own_St p e below T2 m 30 #[vR (a1), vR (a2), vI ((0 : Int32)), vI (cs.length.toInt32), .val .null, .unset] [(.int cs1)] _
    refine XS.ifNo X2.here hx rfl (hb hby d3_30) rfl ((if0 _ _).trans (feq (N_CS : ¬ (cs1 = (0 : Int32)))).1) ?_
    refine XS.aloadN X2.here hx rfl (hb hby d3_33) rfl rfl ?_
    refine XS.iloadN X2.here hx rfl (hb hby d3_34) rfl ?_
    refine XS.iloadN X2.here hx rfl (hb hby d3_35) rfl ?_
    show own_St p e below T2 m 36 #[vR (a1), vR (a2), vI ((0 : Int32)), vI (cs.length.toInt32), .val .null, .unset] [(.int cs.length.toInt32), (.int (0 : Int32)), (.ref a2)] _
    refine st3 _ ?_
    show own_St p e below T3 m 39 #[vR (a1), vR (a2), vI ((0 : Int32)), vI (cs.length.toInt32), .val .null, .unset] [(.ref t3)] _
    refine XS.astore X3.here hx rfl (hb hby d3_39) rfl rfl (l' := #[vR (a1), vR (a2), vI ((0 : Int32)), vI (cs.length.toInt32), .val .null, vR (t3)]) rfl ?_
    refine XS.aloadN X3.here hx rfl (hb hby d3_41) rfl rfl ?_
    refine XS.aload X3.here hx rfl (hb hby d3_42) rfl rfl ?_
    refine XS.iloadN X3.here hx rfl (hb hby d3_44) rfl ?_
    show own_St p e below T3 m 45 #[vR (a1), vR (a2), vI ((0 : Int32)), vI (cs.length.toInt32), .val .null, vR (t3)] [(.int cs.length.toInt32), (.ref t3), (.ref a1)] _
    refine st8 _ ?_
    show own_St p e below T8 m 48 #[vR (a1), vR (a2), vI ((0 : Int32)), vI (cs.length.toInt32), .val .null, vR (t3)] [(.int (1 : Int32)), (.ref a1)] _
    refine st9 _ ?_
    show own_St p e below T9 m 51 #[vR (a1), vR (a2), vI ((0 : Int32)), vI (cs.length.toInt32), .val .null, vR (t3)] [] _
    refine XS.aloadN X9.here hx rfl (hb hby d3_51) rfl rfl ?_
    refine XS.aload X9.here hx rfl (hb hby d3_52) rfl rfl ?_
    show own_St p e below T9 m 54 #[vR (a1), vR (a2), vI ((0 : Int32)), vI (cs.length.toInt32), .val .null, vR (t3)] [(.ref t3), (.ref a1)] _
    refine st15 _ ?_
    show own_St p e below T15 m 57 #[vR (a1), vR (a2), vI ((0 : Int32)), vI (cs.length.toInt32), .val .null, vR (t3)] [] _
    exact X15.returnOut hx Bd.returns (hb hby d3_57) hr
  · show own_QS Z a1 cs h0 n0 _ T15.heap _
    rw [e15]
    exact ⟨rfl, N15, K15, t3, kt3, f16, f20, Or.inr ⟨f17, f19⟩⟩
theorem d2_0 : D2_ 0 = .ok (.aload_n 0, 1) := by decide +kernel
theorem d2_1 : D2_ 1 = .ok (.aload_n 1, 1) := by decide +kernel
theorem d2_2 : D2_ 2 = .ok (.iconst 0, 1) := by decide +kernel
theorem d2_3 : D2_ 3 = .ok (.aload_n 1, 1) := by decide +kernel
theorem d2_4 : D2_ 4 = .ok (.arraylength, 1) := by decide +kernel
theorem d2_5 : D2_ 5 = .ok (.aconst_null, 1) := by decide +kernel
theorem d2_6 : D2_ 6 = .ok (.invokespecial 27, 3) := by decide +kernel
theorem pd_11 : parseMethodDescriptor "([CIILjava/lang/Void;)V" = some ⟨[(.array .char), .int, .int, (.object "java/lang/Void")], none⟩ := by decide +kernel
theorem d2_9 : D2_ 9 = .ok (.return_, 1) := by decide +kernel
theorem ef_2_16 (m : MethodId) (x0 : Addr) (x1 : Addr) : entryFrame m #[(.ref x0), (.ref x1)] 2 = mkF m 0 #[vR (x0), vR (x1)] [] := by first | (simp [entryFrame, mkF, argsToLocals, Value.category]; done) | rfl
theorem r_sA (l : Launch) (Z : State) (a0 : Array Value) (hw : own_HW a0 Z) (ws : List Jvm.Cond) (cs1 : Int32) (fv : Value) (h0 : Heap) (n0 : Nat) (O0 : Old Z n0 h0) (G : own_Ctx Z Z.heap cs1 fv) (a1 a2 : Addr) (k2 : ClassId) (cs : List Int32) (Ea : Exa Z h0 a1 "java/lang/String") (ga : n0 ≤ a1) (Fc : Fld Z h0 a1 "java/lang/String" "coder" "B" (.int (0 : Int32))) (Fv : Fld Z h0 a1 "java/lang/String" "value" "[B" .null) (Va : Arv Z h0 a2 k2 .char cs.length.toInt32 (cs.map Value.int) (.int (0 : Int32))) (hne : a2 ≠ a1) (hn : cs.length ≤ 4) (h1 : 1 ≤ cs.length) (hB : own_Bd cs) (hl : own_Lat cs) :
    own_M l Y15_ (head1 (Jvm.Cond.code Y15_ jdk_42_method_3_code 2 none :: ws) (own_rm_ 5 2 12 74)) #[(.ref a1), (.ref a2)] Z h0 n0 (own_QS Z a1 cs) (own_rm_ 5 2 12 74).cells (own_rm_ 5 2 12 74).slots := by
  have G0 := G
  refine MetFree.of_bodySF (plainFor_of_name pn_2) hisR ?_
  intro p e s m args below meth c s₁ Bd hml0 hP hK
  obtain ⟨rfl, hZ, hh⟩ := hP
  have hx := Bd.exec
  have hby := Bd.bytes
  have hml : c.maxLocals = 2 := hml0
  have hown := findClass_of_methodNamed Bd.named
  have X0 : Stand p l e (own_rm_ 5 2 12 74) s m #[(.ref a1), (.ref a2)] below meth c s₁ [] 0 0 := Stand.of_body Bd
  have e0 : s₁.heap = h0 := by rw [← hh, Bd.state]; rfl
  have N0 := Fr.nil n0
  have pre0 := own_pre (tb := p.tables) (e := e) (below := below) (T := s₁) (ef_2_16 m a1 a2)
  have vc1 := Va
  obtain ⟨cl1, Ar1, qk1, S1, Nn1, Hs1, Gf1⟩ := vc1
  obtain ⟨_, _, ⟨T2, L2, k2, n2⟩, -, X2, ⟨Lc2, hQ2, l2, y2, z2⟩, st2⟩ := X0.specialBack hx (y := Y14_) rfl hown (mvT hZ (own_w hw 12 rfl)) (mvT hZ (own_w hw 13 rfl)) (mvT hZ (own_w hw 15 rfl)) (by decide) (backOf (W := 0) (r_svA l Z a0 hw [] cs1 fv h0 n0 O0 G0 a1 a2 k2 cs Ea ga Fc Fv Va hne hn h1 hB hl) hZ (own_w hw 15 rfl) (own_w hw 8 rfl) (by decide) (by decide)) (g := (mkF m 6 #[vR (a1), vR (a2)] [.null, (.int cs.length.toInt32), (.int (0 : Int32)), (.ref a2), (.ref a1)])) rfl (by rw [hml]; rfl) (Steps.refl _) (a := a1) (argsL := [(.ref a2), (.int (0 : Int32)), (.int cs.length.toInt32), .null]) (rest := []) (lenOf pd_11 rfl) rfl (by show 2 * 0 + _ ≤ _; exact Nat.le_of_eq rfl) (hb hby d2_6) (fun _ _ => ⟨rfl, e0, (by decide : 0 + 1 ≤ _), (by decide : 0 + 4 ≤ _)⟩)
  dsimp only [Pt.U, Pt.locs, Pt.cells, Pt.slots] at X2 l2 y2 z2 st2 hQ2
  subst l2 y2 z2
  obtain ⟨rfl, N2q, Kq2, Sq2⟩ := hQ2
  have N2 := Fr.app N0 N2q
  have f3 := Ea.keep Kq2
  have f4 := Va.keep Kq2 (fun q => (List.mem_cons.mp q).elim hne (fun q => nomatch q))
  have O2 := O0.keep Kq2 (allS ga all0)
  have K2 : Keep h0 T2.heap [a1] := (Keep.refl h0 [a1]).trans Kq2 (allS (Or.inl (List.mem_of_getElem? (i := 0) rfl)) all0)
  obtain ⟨fs, hr, hrun, hended, hW, hsame⟩ := X2.leave (v := none) (fun _ => rfl)
  refine ⟨_, _, pre0 _ ?_, hrun, hended, _, _, rfl, ?_, ⟨_, rfl⟩, hW, hsame.mono (by decide) (by decide)⟩
  · show own_St p e below s₁ m 0 #[vR (a1), vR (a2)] [] _
    refine XS.aloadN X0.here hx rfl (hb hby d2_0) rfl rfl ?_
    refine XS.aloadN X0.here hx rfl (hb hby d2_1) rfl rfl ?_
    refine XS.iconst X0.here hx rfl (hb hby d2_2) ?_
    refine XS.aloadN X0.here hx rfl (hb hby d2_3) rfl rfl ?_
    show own_St p e below s₁ m 4 #[vR (a1), vR (a2)] [(.ref a2), (.int (0 : Int32)), (.ref a2), (.ref a1)] _
    refine X0.arraylength hx (by rw [e0]; exact Ar1.1) (State.isArrayOf_alike hZ.alike Ar1.2.1) (g := (mkF m 4 #[vR (a1), vR (a2)] [(.ref a2), (.int (0 : Int32)), (.ref a2), (.ref a1)])) rfl rfl (hb hby d2_4) _ ?_
    rw [len_of S1 Nn1]
    show own_St p e below s₁ m 5 #[vR (a1), vR (a2)] [(.int cs.length.toInt32), (.int (0 : Int32)), (.ref a2), (.ref a1)] _
    refine XS.aconstNull X0.here hx rfl (hb hby d2_5) ?_
    show own_St p e below s₁ m 6 #[vR (a1), vR (a2)] [.null, (.int cs.length.toInt32), (.int (0 : Int32)), (.ref a2), (.ref a1)] _
    refine st2.trans ?_
    show own_St p e below T2 m 9 #[vR (a1), vR (a2)] [] _
    exact X2.returnOut hx Bd.returns (hb hby d2_9) hr
  · show own_QS Z a1 cs h0 n0 _ T2.heap _
    exact ⟨rfl, N2, K2, Sq2⟩
theorem r_sB (l : Launch) (Z : State) (a0 : Array Value) (hw : own_HW a0 Z) (ws : List Jvm.Cond) (cs1 : Int32) (fv : Value) (h0 : Heap) (n0 : Nat) (O0 : Old Z n0 h0) (G : own_Ctx Z Z.heap cs1 fv) (a1 a2 : Addr) (k2 : ClassId) (cs : List Int32) (Ea : Exa Z h0 a1 "java/lang/String") (ga : n0 ≤ a1) (Fc : Fld Z h0 a1 "java/lang/String" "coder" "B" (.int (0 : Int32))) (Fv : Fld Z h0 a1 "java/lang/String" "value" "[B" .null) (Va : Arv Z h0 a2 k2 .char cs.length.toInt32 (cs.map Value.int) (.int (0 : Int32))) (hne : a2 ≠ a1) (hn : cs.length ≤ 4) (h1 : 1 ≤ cs.length) (hB : own_Bd cs) (hl : ∃ j, ∃ hj : j < cs.length, (255 : Int32) < cs[j]) :
    own_M l Y15_ (head1 (Jvm.Cond.code Y15_ jdk_42_method_3_code 2 none :: ws) (own_rm_ 5 2 12 74)) #[(.ref a1), (.ref a2)] Z h0 n0 (own_QS Z a1 cs) (own_rm_ 5 2 12 74).cells (own_rm_ 5 2 12 74).slots := by
  have G0 := G
  refine MetFree.of_bodySF (plainFor_of_name pn_2) hisR ?_
  intro p e s m args below meth c s₁ Bd hml0 hP hK
  obtain ⟨rfl, hZ, hh⟩ := hP
  have hx := Bd.exec
  have hby := Bd.bytes
  have hml : c.maxLocals = 2 := hml0
  have hown := findClass_of_methodNamed Bd.named
  have X0 : Stand p l e (own_rm_ 5 2 12 74) s m #[(.ref a1), (.ref a2)] below meth c s₁ [] 0 0 := Stand.of_body Bd
  have e0 : s₁.heap = h0 := by rw [← hh, Bd.state]; rfl
  have N0 := Fr.nil n0
  have pre0 := own_pre (tb := p.tables) (e := e) (below := below) (T := s₁) (ef_2_16 m a1 a2)
  have vc1 := Va
  obtain ⟨cl1, Ar1, qk1, S1, Nn1, Hs1, Gf1⟩ := vc1
  obtain ⟨_, _, ⟨T2, L2, k2, n2⟩, -, X2, ⟨Lc2, hQ2, l2, y2, z2⟩, st2⟩ := X0.specialBack hx (y := Y14_) rfl hown (mvT hZ (own_w hw 12 rfl)) (mvT hZ (own_w hw 13 rfl)) (mvT hZ (own_w hw 15 rfl)) (by decide) (backOf (W := 0) (r_svB l Z a0 hw [] cs1 fv h0 n0 O0 G0 a1 a2 k2 cs Ea ga Fc Fv Va hne hn h1 hB hl) hZ (own_w hw 15 rfl) (own_w hw 8 rfl) (by decide) (by decide)) (g := (mkF m 6 #[vR (a1), vR (a2)] [.null, (.int cs.length.toInt32), (.int (0 : Int32)), (.ref a2), (.ref a1)])) rfl (by rw [hml]; rfl) (Steps.refl _) (a := a1) (argsL := [(.ref a2), (.int (0 : Int32)), (.int cs.length.toInt32), .null]) (rest := []) (lenOf pd_11 rfl) rfl (by show 2 * 0 + _ ≤ _; exact Nat.le_of_eq rfl) (hb hby d2_6) (fun _ _ => ⟨rfl, e0, (by decide : 0 + 2 ≤ _), (by decide : 0 + 12 ≤ _)⟩)
  dsimp only [Pt.U, Pt.locs, Pt.cells, Pt.slots] at X2 l2 y2 z2 st2 hQ2
  subst l2 y2 z2
  obtain ⟨rfl, N2q, Kq2, Sq2⟩ := hQ2
  have N2 := Fr.app N0 N2q
  have f3 := Ea.keep Kq2
  have f4 := Va.keep Kq2 (fun q => (List.mem_cons.mp q).elim hne (fun q => nomatch q))
  have O2 := O0.keep Kq2 (allS ga all0)
  have K2 : Keep h0 T2.heap [a1] := (Keep.refl h0 [a1]).trans Kq2 (allS (Or.inl (List.mem_of_getElem? (i := 0) rfl)) all0)
  obtain ⟨fs, hr, hrun, hended, hW, hsame⟩ := X2.leave (v := none) (fun _ => rfl)
  refine ⟨_, _, pre0 _ ?_, hrun, hended, _, _, rfl, ?_, ⟨_, rfl⟩, hW, hsame.mono (by decide) (by decide)⟩
  · show own_St p e below s₁ m 0 #[vR (a1), vR (a2)] [] _
    refine XS.aloadN X0.here hx rfl (hb hby d2_0) rfl rfl ?_
    refine XS.aloadN X0.here hx rfl (hb hby d2_1) rfl rfl ?_
    refine XS.iconst X0.here hx rfl (hb hby d2_2) ?_
    refine XS.aloadN X0.here hx rfl (hb hby d2_3) rfl rfl ?_
    show own_St p e below s₁ m 4 #[vR (a1), vR (a2)] [(.ref a2), (.int (0 : Int32)), (.ref a2), (.ref a1)] _
    refine X0.arraylength hx (by rw [e0]; exact Ar1.1) (State.isArrayOf_alike hZ.alike Ar1.2.1) (g := (mkF m 4 #[vR (a1), vR (a2)] [(.ref a2), (.int (0 : Int32)), (.ref a2), (.ref a1)])) rfl rfl (hb hby d2_4) _ ?_
    rw [len_of S1 Nn1]
    show own_St p e below s₁ m 5 #[vR (a1), vR (a2)] [(.int cs.length.toInt32), (.int (0 : Int32)), (.ref a2), (.ref a1)] _
    refine XS.aconstNull X0.here hx rfl (hb hby d2_5) ?_
    show own_St p e below s₁ m 6 #[vR (a1), vR (a2)] [.null, (.int cs.length.toInt32), (.int (0 : Int32)), (.ref a2), (.ref a1)] _
    refine st2.trans ?_
    show own_St p e below T2 m 9 #[vR (a1), vR (a2)] [] _
    exact X2.returnOut hx Bd.returns (hb hby d2_9) hr
  · show own_QS Z a1 cs h0 n0 _ T2.heap _
    exact ⟨rfl, N2, K2, Sq2⟩
theorem r_new (l : Launch) (Z : State) (a0 : Array Value) (hw : own_HW a0 Z) (ws : List Jvm.Cond) (cs1 : Int32) (fv : Value) (h0 : Heap) (n0 : Nat) (O0 : Old Z n0 h0) (G : own_Ctx Z Z.heap cs1 fv) (a1 a2 : Addr) (k2 : ClassId) (cs : List Int32) (Ea : Exa Z h0 a1 "java/lang/String") (ga : n0 ≤ a1) (Fc : Fld Z h0 a1 "java/lang/String" "coder" "B" (.int (0 : Int32))) (Fv : Fld Z h0 a1 "java/lang/String" "value" "[B" .null) (Va : Arv Z h0 a2 k2 .char cs.length.toInt32 (cs.map Value.int) (.int (0 : Int32))) (hne : a2 ≠ a1) (hn : cs.length ≤ 4) (h1 : 1 ≤ cs.length) (hB : own_Bd cs) :
    own_M l Y15_ (head1 (Jvm.Cond.code Y15_ jdk_42_method_3_code 2 none :: ws) (own_rm_ 5 2 12 74)) #[(.ref a1), (.ref a2)] Z h0 n0 (own_QS Z a1 cs) (own_rm_ 5 2 12 74).cells (own_rm_ 5 2 12 74).slots := by
  rcases Classical.em (own_Lat cs) with hl | hl
  · exact r_sA l Z a0 hw ws cs1 fv h0 n0 O0 G a1 a2 k2 cs Ea ga Fc Fv Va hne hn h1 hB hl
  · exact r_sB l Z a0 hw ws cs1 fv h0 n0 O0 G a1 a2 k2 cs Ea ga Fc Fv Va hne hn h1 hB (own_notLat hl)
theorem d10_0 : D10_ 0 = .ok (.getstatic 38, 3) := by decide +kernel
theorem d10_3 : D10_ 3 = .ok (.ifCond .eq 10, 3) := by decide +kernel
theorem d10_6 : D10_ 6 = .ok (.aload_n 0, 1) := by decide +kernel
theorem d10_7 : D10_ 7 = .ok (.getfield 15, 3) := by decide +kernel
theorem d10_10 : D10_ 10 = .ok (.goto 4, 3) := by decide +kernel
theorem d10_14 : D10_ 14 = .ok (.ireturn, 1) := by decide +kernel
theorem ef_10_17 (m : MethodId) (x0 : Addr) : entryFrame m #[(.ref x0)] 1 = mkF m 0 #[vR (x0)] [] := by first | (simp [entryFrame, mkF, argsToLocals, Value.category]; done) | rfl
theorem r_codL (l : Launch) (Z : State) (a0 : Array Value) (hw : own_HW a0 Z) (ws : List Jvm.Cond) (cs1 : Int32) (fv : Value) (h0 : Heap) (n0 : Nat) (O0 : Old Z n0 h0) (G : own_Ctx Z Z.heap cs1 fv) (a1 a2 : Addr) (k2 : ClassId) (cs : List Int32) (E1 : Exa Z h0 a1 "java/lang/String") (F1 : Fld Z h0 a1 "java/lang/String" "value" "[B" (.ref a2)) (F2 : Fld Z h0 a1 "java/lang/String" "coder" "B" (.int (0 : Int32))) (Va : Arv Z h0 a2 k2 .byte cs.length.toInt32 (cs.map (fun c => .int (nar .byte c.toInt8.toInt32))) (.int (0 : Int32))) :
    own_M l Y16_ (head1 (Jvm.Cond.code Y16_ jdk_42_method_152_code 1 (some .byte) :: ws) (own_rm_ 0 0 0 0)) #[(.ref a1)] Z h0 n0 (own_Q (some (.int (0 : Int32)))) (own_rm_ 0 0 0 0).cells (own_rm_ 0 0 0 0).slots := by
  have G0 := G
  obtain ⟨S_CS, N_CS, S_F, R_F, S_AD, S_HI, S_LO⟩ := G
  refine MetFree.of_bodySF (plainFor_of_name pn_2) hisR ?_
  intro p e s m args below meth c s₁ Bd hml0 hP hK
  obtain ⟨rfl, hZ, hh⟩ := hP
  have hx := Bd.exec
  have hby := Bd.bytes
  have hml : c.maxLocals = 1 := hml0
  have hown := findClass_of_methodNamed Bd.named
  have X0 : Stand p l e (own_rm_ 0 0 0 0) s m #[(.ref a1)] below meth c s₁ [] 0 0 := Stand.of_body Bd
  have e0 : s₁.heap = h0 := by rw [← hh, Bd.state]; rfl
  have N0 := Fr.nil n0
  have pre0 := own_pre (tb := p.tables) (e := e) (below := below) (T := s₁) (ef_10_17 m a1)
  obtain ⟨T1, X1, e1, st1⟩ := getS2 X0 hx hZ hown (host := "") (Or.inl (own_w hw 46 rfl)) Via.refl e0 (S_CS.ext O0.2) (g := (mkF m 0 #[vR (a1)] [])) rfl (hb hby d10_0)
  obtain ⟨T2, X2, e2, st2⟩ := getF X1 hx hZ hown (host := "") (Or.inl (own_w hw 26 rfl)) Via.refl e1 F2 (g := (mkF m 7 #[vR (a1)] [(.ref a1)])) rfl rfl (hb hby d10_7)
  obtain ⟨fs, hr, hrun, hended, hW, hsame⟩ := X2.leave (v := some (.int (0 : Int32))) (fun h => by rw [Bd.returns] at h; cases h)
  refine ⟨_, _, pre0 _ ?_, hrun, hended, _, _, rfl, ?_, ⟨_, rfl⟩, hW, hsame.mono (by decide) (by decide)⟩
  · show own_St p e below s₁ m 0 #[vR (a1)] [] _
    refine st1 _ ?_
    show own_St p e below T1 m 3 #[vR (a1)] [(.int cs1)] _
    refine XS.ifNo X1.here hx rfl (hb hby d10_3) rfl ((if0 _ _).trans (feq (N_CS : ¬ (cs1 = (0 : Int32)))).1) ?_
    refine XS.aloadN X1.here hx rfl (hb hby d10_6) rfl rfl ?_
    show own_St p e below T1 m 7 #[vR (a1)] [(.ref a1)] _
    refine st2 _ ?_
    show own_St p e below T2 m 10 #[vR (a1)] [(.int (0 : Int32))] _
    refine XS.goto X2.here hx rfl (pc0 := 10) (pc' := 14) rfl (hb hby d10_10) (by decide) (by decide) ?_
    show own_St p e below T2 m 14 #[vR (a1)] [(.int (0 : Int32))] _
    exact retN X2 hx (t := .byte) Bd.returns (by simp) (hb hby d10_14) hr
  · show own_Q (some (.int (0 : Int32))) h0 n0 _ T2.heap _
    rw [e2]
    exact ⟨rfl, N0, rfl⟩
theorem d8_0 : D8_ 0 = .ok (.getstatic 38, 3) := by decide +kernel
theorem d8_3 : D8_ 3 = .ok (.ifCond .eq 14, 3) := by decide +kernel
theorem d8_6 : D8_ 6 = .ok (.aload_n 0, 1) := by decide +kernel
theorem d8_7 : D8_ 7 = .ok (.getfield 15, 3) := by decide +kernel
theorem d8_10 : D8_ 10 = .ok (.ifCond .ne 7, 3) := by decide +kernel
theorem d8_13 : D8_ 13 = .ok (.iconst 1, 1) := by decide +kernel
theorem d8_14 : D8_ 14 = .ok (.goto 4, 3) := by decide +kernel
theorem d8_18 : D8_ 18 = .ok (.ireturn, 1) := by decide +kernel
theorem ef_8_18 (m : MethodId) (x0 : Addr) : entryFrame m #[(.ref x0)] 1 = mkF m 0 #[vR (x0)] [] := by first | (simp [entryFrame, mkF, argsToLocals, Value.category]; done) | rfl
theorem r_islL (l : Launch) (Z : State) (a0 : Array Value) (hw : own_HW a0 Z) (ws : List Jvm.Cond) (cs1 : Int32) (fv : Value) (h0 : Heap) (n0 : Nat) (O0 : Old Z n0 h0) (G : own_Ctx Z Z.heap cs1 fv) (a1 a2 : Addr) (k2 : ClassId) (cs : List Int32) (E1 : Exa Z h0 a1 "java/lang/String") (F1 : Fld Z h0 a1 "java/lang/String" "value" "[B" (.ref a2)) (F2 : Fld Z h0 a1 "java/lang/String" "coder" "B" (.int (0 : Int32))) (Va : Arv Z h0 a2 k2 .byte cs.length.toInt32 (cs.map (fun c => .int (nar .byte c.toInt8.toInt32))) (.int (0 : Int32))) :
    own_M l Y17_ (head1 (Jvm.Cond.code Y17_ jdk_42_method_154_code 1 (some .boolean) :: ws) (own_rm_ 0 0 0 0)) #[(.ref a1)] Z h0 n0 (own_Q (some (.int (1 : Int32)))) (own_rm_ 0 0 0 0).cells (own_rm_ 0 0 0 0).slots := by
  have G0 := G
  obtain ⟨S_CS, N_CS, S_F, R_F, S_AD, S_HI, S_LO⟩ := G
  refine MetFree.of_bodySF (plainFor_of_name pn_2) hisR ?_
  intro p e s m args below meth c s₁ Bd hml0 hP hK
  obtain ⟨rfl, hZ, hh⟩ := hP
  have hx := Bd.exec
  have hby := Bd.bytes
  have hml : c.maxLocals = 1 := hml0
  have hown := findClass_of_methodNamed Bd.named
  have X0 : Stand p l e (own_rm_ 0 0 0 0) s m #[(.ref a1)] below meth c s₁ [] 0 0 := Stand.of_body Bd
  have e0 : s₁.heap = h0 := by rw [← hh, Bd.state]; rfl
  have N0 := Fr.nil n0
  have pre0 := own_pre (tb := p.tables) (e := e) (below := below) (T := s₁) (ef_8_18 m a1)
  obtain ⟨T1, X1, e1, st1⟩ := getS2 X0 hx hZ hown (host := "") (Or.inl (own_w hw 46 rfl)) Via.refl e0 (S_CS.ext O0.2) (g := (mkF m 0 #[vR (a1)] [])) rfl (hb hby d8_0)
  obtain ⟨T2, X2, e2, st2⟩ := getF X1 hx hZ hown (host := "") (Or.inl (own_w hw 26 rfl)) Via.refl e1 F2 (g := (mkF m 7 #[vR (a1)] [(.ref a1)])) rfl rfl (hb hby d8_7)
  obtain ⟨fs, hr, hrun, hended, hW, hsame⟩ := X2.leave (v := some (.int (1 : Int32))) (fun h => by rw [Bd.returns] at h; cases h)
  refine ⟨_, _, pre0 _ ?_, hrun, hended, _, _, rfl, ?_, ⟨_, rfl⟩, hW, hsame.mono (by decide) (by decide)⟩
  · show own_St p e below s₁ m 0 #[vR (a1)] [] _
    refine st1 _ ?_
    show own_St p e below T1 m 3 #[vR (a1)] [(.int cs1)] _
    refine XS.ifNo X1.here hx rfl (hb hby d8_3) rfl ((if0 _ _).trans (feq (N_CS : ¬ (cs1 = (0 : Int32)))).1) ?_
    refine XS.aloadN X1.here hx rfl (hb hby d8_6) rfl rfl ?_
    show own_St p e below T1 m 7 #[vR (a1)] [(.ref a1)] _
    refine st2 _ ?_
    show own_St p e below T2 m 10 #[vR (a1)] [(.int (0 : Int32))] _
    refine XS.ifNo X2.here hx rfl (hb hby d8_10) rfl ((if0 _ _).trans (teq (by decide : (0 : Int32) = (0 : Int32))).2) ?_
    refine XS.iconst X2.here hx rfl (hb hby d8_13) ?_
    refine XS.goto X2.here hx rfl (pc0 := 14) (pc' := 18) rfl (hb hby d8_14) (by decide) (by decide) ?_
    show own_St p e below T2 m 18 #[vR (a1)] [(.int (1 : Int32))] _
    exact retN X2 hx (t := .boolean) Bd.returns (by simp) (hb hby d8_18) hr
  · show own_Q (some (.int (1 : Int32))) h0 n0 _ T2.heap _
    rw [e2]
    exact ⟨rfl, N0, rfl⟩
theorem r_codU (l : Launch) (Z : State) (a0 : Array Value) (hw : own_HW a0 Z) (ws : List Jvm.Cond) (cs1 : Int32) (fv : Value) (h0 : Heap) (n0 : Nat) (O0 : Old Z n0 h0) (G : own_Ctx Z Z.heap cs1 fv) (a1 a2 : Addr) (k2 : ClassId) (cs : List Int32) (E1 : Exa Z h0 a1 "java/lang/String") (F1 : Fld Z h0 a1 "java/lang/String" "value" "[B" (.ref a2)) (F2 : Fld Z h0 a1 "java/lang/String" "coder" "B" (.int (1 : Int32))) (Va : Arv Z h0 a2 k2 .byte (2 * cs.length).toInt32 (cs.flatMap own_two) (.int (0 : Int32))) :
    own_M l Y16_ (head1 (Jvm.Cond.code Y16_ jdk_42_method_152_code 1 (some .byte) :: ws) (own_rm_ 0 0 0 0)) #[(.ref a1)] Z h0 n0 (own_Q (some (.int (1 : Int32)))) (own_rm_ 0 0 0 0).cells (own_rm_ 0 0 0 0).slots := by
  have G0 := G
  obtain ⟨S_CS, N_CS, S_F, R_F, S_AD, S_HI, S_LO⟩ := G
  refine MetFree.of_bodySF (plainFor_of_name pn_2) hisR ?_
  intro p e s m args below meth c s₁ Bd hml0 hP hK
  obtain ⟨rfl, hZ, hh⟩ := hP
  have hx := Bd.exec
  have hby := Bd.bytes
  have hml : c.maxLocals = 1 := hml0
  have hown := findClass_of_methodNamed Bd.named
  have X0 : Stand p l e (own_rm_ 0 0 0 0) s m #[(.ref a1)] below meth c s₁ [] 0 0 := Stand.of_body Bd
  have e0 : s₁.heap = h0 := by rw [← hh, Bd.state]; rfl
  have N0 := Fr.nil n0
  have pre0 := own_pre (tb := p.tables) (e := e) (below := below) (T := s₁) (ef_10_17 m a1)
  obtain ⟨T1, X1, e1, st1⟩ := getS2 X0 hx hZ hown (host := "") (Or.inl (own_w hw 46 rfl)) Via.refl e0 (S_CS.ext O0.2) (g := (mkF m 0 #[vR (a1)] [])) rfl (hb hby d10_0)
  obtain ⟨T2, X2, e2, st2⟩ := getF X1 hx hZ hown (host := "") (Or.inl (own_w hw 26 rfl)) Via.refl e1 F2 (g := (mkF m 7 #[vR (a1)] [(.ref a1)])) rfl rfl (hb hby d10_7)
  obtain ⟨fs, hr, hrun, hended, hW, hsame⟩ := X2.leave (v := some (.int (1 : Int32))) (fun h => by rw [Bd.returns] at h; cases h)
  refine ⟨_, _, pre0 _ ?_, hrun, hended, _, _, rfl, ?_, ⟨_, rfl⟩, hW, hsame.mono (by decide) (by decide)⟩
  · show own_St p e below s₁ m 0 #[vR (a1)] [] _
    refine st1 _ ?_
    show own_St p e below T1 m 3 #[vR (a1)] [(.int cs1)] _
    refine XS.ifNo X1.here hx rfl (hb hby d10_3) rfl ((if0 _ _).trans (feq (N_CS : ¬ (cs1 = (0 : Int32)))).1) ?_
    refine XS.aloadN X1.here hx rfl (hb hby d10_6) rfl rfl ?_
    show own_St p e below T1 m 7 #[vR (a1)] [(.ref a1)] _
    refine st2 _ ?_
    show own_St p e below T2 m 10 #[vR (a1)] [(.int (1 : Int32))] _
    refine XS.goto X2.here hx rfl (pc0 := 10) (pc' := 14) rfl (hb hby d10_10) (by decide) (by decide) ?_
    show own_St p e below T2 m 14 #[vR (a1)] [(.int (1 : Int32))] _
    exact retN X2 hx (t := .byte) Bd.returns (by simp) (hb hby d10_14) hr
  · show own_Q (some (.int (1 : Int32))) h0 n0 _ T2.heap _
    rw [e2]
    exact ⟨rfl, N0, rfl⟩
theorem d8_17 : D8_ 17 = .ok (.iconst 0, 1) := by decide +kernel
theorem r_islU (l : Launch) (Z : State) (a0 : Array Value) (hw : own_HW a0 Z) (ws : List Jvm.Cond) (cs1 : Int32) (fv : Value) (h0 : Heap) (n0 : Nat) (O0 : Old Z n0 h0) (G : own_Ctx Z Z.heap cs1 fv) (a1 a2 : Addr) (k2 : ClassId) (cs : List Int32) (E1 : Exa Z h0 a1 "java/lang/String") (F1 : Fld Z h0 a1 "java/lang/String" "value" "[B" (.ref a2)) (F2 : Fld Z h0 a1 "java/lang/String" "coder" "B" (.int (1 : Int32))) (Va : Arv Z h0 a2 k2 .byte (2 * cs.length).toInt32 (cs.flatMap own_two) (.int (0 : Int32))) :
    own_M l Y17_ (head1 (Jvm.Cond.code Y17_ jdk_42_method_154_code 1 (some .boolean) :: ws) (own_rm_ 0 0 0 0)) #[(.ref a1)] Z h0 n0 (own_Q (some (.int (0 : Int32)))) (own_rm_ 0 0 0 0).cells (own_rm_ 0 0 0 0).slots := by
  have G0 := G
  obtain ⟨S_CS, N_CS, S_F, R_F, S_AD, S_HI, S_LO⟩ := G
  refine MetFree.of_bodySF (plainFor_of_name pn_2) hisR ?_
  intro p e s m args below meth c s₁ Bd hml0 hP hK
  obtain ⟨rfl, hZ, hh⟩ := hP
  have hx := Bd.exec
  have hby := Bd.bytes
  have hml : c.maxLocals = 1 := hml0
  have hown := findClass_of_methodNamed Bd.named
  have X0 : Stand p l e (own_rm_ 0 0 0 0) s m #[(.ref a1)] below meth c s₁ [] 0 0 := Stand.of_body Bd
  have e0 : s₁.heap = h0 := by rw [← hh, Bd.state]; rfl
  have N0 := Fr.nil n0
  have pre0 := own_pre (tb := p.tables) (e := e) (below := below) (T := s₁) (ef_8_18 m a1)
  obtain ⟨T1, X1, e1, st1⟩ := getS2 X0 hx hZ hown (host := "") (Or.inl (own_w hw 46 rfl)) Via.refl e0 (S_CS.ext O0.2) (g := (mkF m 0 #[vR (a1)] [])) rfl (hb hby d8_0)
  obtain ⟨T2, X2, e2, st2⟩ := getF X1 hx hZ hown (host := "") (Or.inl (own_w hw 26 rfl)) Via.refl e1 F2 (g := (mkF m 7 #[vR (a1)] [(.ref a1)])) rfl rfl (hb hby d8_7)
  obtain ⟨fs, hr, hrun, hended, hW, hsame⟩ := X2.leave (v := some (.int (0 : Int32))) (fun h => by rw [Bd.returns] at h; cases h)
  refine ⟨_, _, pre0 _ ?_, hrun, hended, _, _, rfl, ?_, ⟨_, rfl⟩, hW, hsame.mono (by decide) (by decide)⟩
  · show own_St p e below s₁ m 0 #[vR (a1)] [] _
    refine st1 _ ?_
    show own_St p e below T1 m 3 #[vR (a1)] [(.int cs1)] _
    refine XS.ifNo X1.here hx rfl (hb hby d8_3) rfl ((if0 _ _).trans (feq (N_CS : ¬ (cs1 = (0 : Int32)))).1) ?_
    refine XS.aloadN X1.here hx rfl (hb hby d8_6) rfl rfl ?_
    show own_St p e below T1 m 7 #[vR (a1)] [(.ref a1)] _
    refine st2 _ ?_
    show own_St p e below T2 m 10 #[vR (a1)] [(.int (1 : Int32))] _
    refine XS.ifYes X2.here hx rfl (pc0 := 10) (pc' := 17) rfl (hb hby d8_10) rfl ((if0 _ _).trans (feq (by decide : ¬ ((1 : Int32) = (0 : Int32)))).2) (by decide) (by decide) ?_
    refine XS.iconst X2.here hx rfl (hb hby d8_17) ?_
    show own_St p e below T2 m 18 #[vR (a1)] [(.int (0 : Int32))] _
    exact retN X2 hx (t := .boolean) Bd.returns (by simp) (hb hby d8_18) hr
  · show own_Q (some (.int (0 : Int32))) h0 n0 _ T2.heap _
    rw [e2]
    exact ⟨rfl, N0, rfl⟩
theorem d9_0 : D9_ 0 = .ok (.aload_n 0, 1) := by decide +kernel
theorem d9_1 : D9_ 1 = .ok (.getfield 9, 3) := by decide +kernel
theorem d9_4 : D9_ 4 = .ok (.arraylength, 1) := by decide +kernel
theorem d9_5 : D9_ 5 = .ok (.aload_n 0, 1) := by decide +kernel
theorem d9_6 : D9_ 6 = .ok (.invokevirtual 335, 3) := by decide +kernel
theorem pd_12 : parseMethodDescriptor "()B" = some ⟨[], some .byte⟩ := by decide +kernel
theorem d9_9 : D9_ 9 = .ok (.ishr, 1) := by decide +kernel
theorem d9_10 : D9_ 10 = .ok (.ireturn, 1) := by decide +kernel
theorem ef_9_19 (m : MethodId) (x0 : Addr) : entryFrame m #[(.ref x0)] 1 = mkF m 0 #[vR (x0)] [] := by first | (simp [entryFrame, mkF, argsToLocals, Value.category]; done) | rfl
theorem r_lenL (l : Launch) (Z : State) (a0 : Array Value) (hw : own_HW a0 Z) (ws : List Jvm.Cond) (cs1 : Int32) (fv : Value) (h0 : Heap) (n0 : Nat) (O0 : Old Z n0 h0) (G : own_Ctx Z Z.heap cs1 fv) (a1 a2 : Addr) (k2 : ClassId) (cs : List Int32) (E1 : Exa Z h0 a1 "java/lang/String") (F1 : Fld Z h0 a1 "java/lang/String" "value" "[B" (.ref a2)) (F2 : Fld Z h0 a1 "java/lang/String" "coder" "B" (.int (0 : Int32))) (Va : Arv Z h0 a2 k2 .byte cs.length.toInt32 (cs.map (fun c => .int (nar .byte c.toInt8.toInt32))) (.int (0 : Int32))) (hn : cs.length ≤ 4) :
    own_M l Y18_ (head1 (Jvm.Cond.code Y18_ jdk_42_method_54_code 1 (some .int) :: ws) (own_rm_ 1 0 0 13)) #[(.ref a1)] Z h0 n0 (own_Q (some (.int cs.length.toInt32))) (own_rm_ 1 0 0 13).cells (own_rm_ 1 0 0 13).slots := by
  have G0 := G
  refine MetFree.of_bodySF (plainFor_of_name pn_2) hisR ?_
  intro p e s m args below meth c s₁ Bd hml0 hP hK
  obtain ⟨rfl, hZ, hh⟩ := hP
  have hx := Bd.exec
  have hby := Bd.bytes
  have hml : c.maxLocals = 1 := hml0
  have hown := findClass_of_methodNamed Bd.named
  have X0 : Stand p l e (own_rm_ 1 0 0 13) s m #[(.ref a1)] below meth c s₁ [] 0 0 := Stand.of_body Bd
  have e0 : s₁.heap = h0 := by rw [← hh, Bd.state]; rfl
  have N0 := Fr.nil n0
  have pre0 := own_pre (tb := p.tables) (e := e) (below := below) (T := s₁) (ef_9_19 m a1)
  obtain ⟨T1, X1, e1, st1⟩ := getF X0 hx hZ hown (host := "") (Or.inl (own_w hw 25 rfl)) Via.refl e0 F1 (g := (mkF m 1 #[vR (a1)] [(.ref a1)])) rfl rfl (hb hby d9_1)
  have vc2 := Va
  obtain ⟨cl2, Ar2, qk2, S2, Nn2, Hs2, Gf2⟩ := vc2
  obtain ⟨cq3, kq3, q3a, q3b, q3c⟩ := isOf hZ e1 E1
  obtain ⟨_, _, ⟨T3, L3, k3, n3⟩, -, X3, ⟨Lc3, hQ3, l3, y3, z3⟩, st3⟩ := X1.virtualBack hx (y := Y16_) (z := Y16_) hown (mvT hZ (own_w hw 52 rfl)) (mvT hZ (own_w hw 53 rfl)) (notFace_of_selects (args := #[]) (mvT hZ (own_w hw 55 rfl))) (mvT hZ (own_w hw 55 rfl)) (mvT hZ (own_w hw 54 rfl)) (by decide) (backOf (W := 1) (r_codL l Z a0 hw [] cs1 fv h0 n0 O0 G0 a1 a2 k2 cs E1 F1 F2 Va) hZ (own_w hw 56 rfl) (own_w hw 8 rfl) (by decide) (by decide)) q3a q3c (g := (mkF m 6 #[vR (a1)] [(.ref a1), (.int cs.length.toInt32)])) rfl (by rw [hml]; rfl) (Steps.refl _) (argsL := []) (rest := [(.int cs.length.toInt32)]) (lenOf pd_12 rfl) rfl (by show 2 * 0 + _ ≤ _; exact Nat.le_of_eq rfl) (hb hby d9_6) (fun _ _ => ⟨rfl, e1, (by decide : 0 + 0 ≤ _), (by decide : 0 + 0 ≤ _)⟩)
  dsimp only [Pt.U, Pt.locs, Pt.cells, Pt.slots] at X3 l3 y3 z3 st3 hQ3
  subst l3 y3 z3
  obtain ⟨rfl, N3q, e3⟩ := hQ3
  have N3 := Fr.app N0 N3q
  obtain ⟨fs, hr, hrun, hended, hW, hsame⟩ := X3.leave (v := some (.int cs.length.toInt32)) (fun h => by rw [Bd.returns] at h; cases h)
  refine ⟨_, _, pre0 _ ?_, hrun, hended, _, _, rfl, ?_, ⟨_, rfl⟩, hW, hsame.mono (by decide) (by decide)⟩
  · show own_St p e below s₁ m 0 #[vR (a1)] [] _
    refine XS.aloadN X0.here hx rfl (hb hby d9_0) rfl rfl ?_
    show own_St p e below s₁ m 1 #[vR (a1)] [(.ref a1)] _
    refine st1 _ ?_
    show own_St p e below T1 m 4 #[vR (a1)] [(.ref a2)] _
    refine X1.arraylength hx (by rw [e1]; exact Ar2.1) (State.isArrayOf_alike hZ.alike Ar2.2.1) (g := (mkF m 4 #[vR (a1)] [(.ref a2)])) rfl rfl (hb hby d9_4) _ ?_
    rw [len_of S2 Nn2]
    show own_St p e below T1 m 5 #[vR (a1)] [(.int cs.length.toInt32)] _
    refine XS.aloadN X1.here hx rfl (hb hby d9_5) rfl rfl ?_
    show own_St p e below T1 m 6 #[vR (a1)] [(.ref a1), (.int cs.length.toInt32)] _
    refine st3.trans ?_
    show own_St p e below T3 m 9 #[vR (a1)] [(.int (0 : Int32)), (.int cs.length.toInt32)] _
    refine XS.ishr X3.here hx rfl (hb hby d9_9) rfl ?_
    show own_St p e below T3 m 10 #[vR (a1)] [(.int (cs.length.toInt32 >>> ((0 : Int32) &&& 31)))] _
    rw [own_shr0 hn]
    show own_St p e below T3 m 10 #[vR (a1)] [(.int cs.length.toInt32)] _
    exact retI X3 hx Bd.returns (hb hby d9_10) hr
  · show own_Q (some (.int cs.length.toInt32)) h0 n0 _ T3.heap _
    rw [e3]
    exact ⟨rfl, N3, rfl⟩
theorem r_lenU (l : Launch) (Z : State) (a0 : Array Value) (hw : own_HW a0 Z) (ws : List Jvm.Cond) (cs1 : Int32) (fv : Value) (h0 : Heap) (n0 : Nat) (O0 : Old Z n0 h0) (G : own_Ctx Z Z.heap cs1 fv) (a1 a2 : Addr) (k2 : ClassId) (cs : List Int32) (E1 : Exa Z h0 a1 "java/lang/String") (F1 : Fld Z h0 a1 "java/lang/String" "value" "[B" (.ref a2)) (F2 : Fld Z h0 a1 "java/lang/String" "coder" "B" (.int (1 : Int32))) (Va : Arv Z h0 a2 k2 .byte (2 * cs.length).toInt32 (cs.flatMap own_two) (.int (0 : Int32))) (hn : cs.length ≤ 4) :
    own_M l Y18_ (head1 (Jvm.Cond.code Y18_ jdk_42_method_54_code 1 (some .int) :: ws) (own_rm_ 1 0 0 13)) #[(.ref a1)] Z h0 n0 (own_Q (some (.int cs.length.toInt32))) (own_rm_ 1 0 0 13).cells (own_rm_ 1 0 0 13).slots := by
  have G0 := G
  refine MetFree.of_bodySF (plainFor_of_name pn_2) hisR ?_
  intro p e s m args below meth c s₁ Bd hml0 hP hK
  obtain ⟨rfl, hZ, hh⟩ := hP
  have hx := Bd.exec
  have hby := Bd.bytes
  have hml : c.maxLocals = 1 := hml0
  have hown := findClass_of_methodNamed Bd.named
  have X0 : Stand p l e (own_rm_ 1 0 0 13) s m #[(.ref a1)] below meth c s₁ [] 0 0 := Stand.of_body Bd
  have e0 : s₁.heap = h0 := by rw [← hh, Bd.state]; rfl
  have N0 := Fr.nil n0
  have pre0 := own_pre (tb := p.tables) (e := e) (below := below) (T := s₁) (ef_9_19 m a1)
  obtain ⟨T1, X1, e1, st1⟩ := getF X0 hx hZ hown (host := "") (Or.inl (own_w hw 25 rfl)) Via.refl e0 F1 (g := (mkF m 1 #[vR (a1)] [(.ref a1)])) rfl rfl (hb hby d9_1)
  have vc2 := Va
  obtain ⟨cl2, Ar2, qk2, S2, Nn2, Hs2, Gf2⟩ := vc2
  obtain ⟨cq3, kq3, q3a, q3b, q3c⟩ := isOf hZ e1 E1
  obtain ⟨_, _, ⟨T3, L3, k3, n3⟩, -, X3, ⟨Lc3, hQ3, l3, y3, z3⟩, st3⟩ := X1.virtualBack hx (y := Y16_) (z := Y16_) hown (mvT hZ (own_w hw 52 rfl)) (mvT hZ (own_w hw 53 rfl)) (notFace_of_selects (args := #[]) (mvT hZ (own_w hw 55 rfl))) (mvT hZ (own_w hw 55 rfl)) (mvT hZ (own_w hw 54 rfl)) (by decide) (backOf (W := 1) (r_codU l Z a0 hw [] cs1 fv h0 n0 O0 G0 a1 a2 k2 cs E1 F1 F2 Va) hZ (own_w hw 56 rfl) (own_w hw 8 rfl) (by decide) (by decide)) q3a q3c (g := (mkF m 6 #[vR (a1)] [(.ref a1), (.int (2 * cs.length).toInt32)])) rfl (by rw [hml]; rfl) (Steps.refl _) (argsL := []) (rest := [(.int (2 * cs.length).toInt32)]) (lenOf pd_12 rfl) rfl (by show 2 * 0 + _ ≤ _; exact Nat.le_of_eq rfl) (hb hby d9_6) (fun _ _ => ⟨rfl, e1, (by decide : 0 + 0 ≤ _), (by decide : 0 + 0 ≤ _)⟩)
  dsimp only [Pt.U, Pt.locs, Pt.cells, Pt.slots] at X3 l3 y3 z3 st3 hQ3
  subst l3 y3 z3
  obtain ⟨rfl, N3q, e3⟩ := hQ3
  have N3 := Fr.app N0 N3q
  obtain ⟨fs, hr, hrun, hended, hW, hsame⟩ := X3.leave (v := some (.int cs.length.toInt32)) (fun h => by rw [Bd.returns] at h; cases h)
  refine ⟨_, _, pre0 _ ?_, hrun, hended, _, _, rfl, ?_, ⟨_, rfl⟩, hW, hsame.mono (by decide) (by decide)⟩
  · show own_St p e below s₁ m 0 #[vR (a1)] [] _
    refine XS.aloadN X0.here hx rfl (hb hby d9_0) rfl rfl ?_
    show own_St p e below s₁ m 1 #[vR (a1)] [(.ref a1)] _
    refine st1 _ ?_
    show own_St p e below T1 m 4 #[vR (a1)] [(.ref a2)] _
    refine X1.arraylength hx (by rw [e1]; exact Ar2.1) (State.isArrayOf_alike hZ.alike Ar2.2.1) (g := (mkF m 4 #[vR (a1)] [(.ref a2)])) rfl rfl (hb hby d9_4) _ ?_
    rw [len_of S2 Nn2]
    show own_St p e below T1 m 5 #[vR (a1)] [(.int (2 * cs.length).toInt32)] _
    refine XS.aloadN X1.here hx rfl (hb hby d9_5) rfl rfl ?_
    show own_St p e below T1 m 6 #[vR (a1)] [(.ref a1), (.int (2 * cs.length).toInt32)] _
    refine st3.trans ?_
    show own_St p e below T3 m 9 #[vR (a1)] [(.int (1 : Int32)), (.int (2 * cs.length).toInt32)] _
    refine XS.ishr X3.here hx rfl (hb hby d9_9) rfl ?_
    show own_St p e below T3 m 10 #[vR (a1)] [(.int ((2 * cs.length).toInt32 >>> ((1 : Int32) &&& 31)))] _
    rw [own_shr1 (i := cs.length) (own_4 hn)]
    show own_St p e below T3 m 10 #[vR (a1)] [(.int cs.length.toInt32)] _
    exact retI X3 hx Bd.returns (hb hby d9_10) hr
  · show own_Q (some (.int cs.length.toInt32)) h0 n0 _ T3.heap _
    rw [e3]
    exact ⟨rfl, N3, rfl⟩
theorem r_len (l : Launch) (Z : State) (a0 : Array Value) (hw : own_HW a0 Z) (ws : List Jvm.Cond) (cs1 : Int32) (fv : Value) (h0 : Heap) (n0 : Nat) (O0 : Old Z n0 h0) (G : own_Ctx Z Z.heap cs1 fv) (a1 : Addr) (cs : List Int32) (S : own_Str Z h0 a1 cs) (hn : cs.length ≤ 4) :
    own_M l Y18_ (head1 (Jvm.Cond.code Y18_ jdk_42_method_54_code 1 (some .int) :: ws) (own_rm_ 1 0 0 13)) #[(.ref a1)] Z h0 n0 (own_Q (some (.int cs.length.toInt32))) (own_rm_ 1 0 0 13).cells (own_rm_ 1 0 0 13).slots := by
  obtain ⟨b, k, E1, F1, ⟨F2, B, V⟩ | ⟨F2, V⟩⟩ := S
  · exact r_lenL l Z a0 hw ws cs1 fv h0 n0 O0 G a1 b k cs E1 F1 F2 V hn
  · exact r_lenU l Z a0 hw ws cs1 fv h0 n0 O0 G a1 b k cs E1 F1 F2 V hn
theorem d24_0 : D24_ 0 = .ok (.aload_n 0, 1) := by decide +kernel
theorem d24_1 : D24_ 1 = .ok (.invokevirtual 492, 3) := by decide +kernel
theorem pd_13 : parseMethodDescriptor "()Z" = some ⟨[], some .boolean⟩ := by decide +kernel
theorem d24_4 : D24_ 4 = .ok (.ifCond .eq 12, 3) := by decide +kernel
theorem d24_7 : D24_ 7 = .ok (.aload_n 0, 1) := by decide +kernel
theorem d24_8 : D24_ 8 = .ok (.getfield 9, 3) := by decide +kernel
theorem d24_11 : D24_ 11 = .ok (.iload_n 1, 1) := by decide +kernel
theorem d24_12 : D24_ 12 = .ok (.invokestatic 495, 3) := by decide +kernel
theorem d24_15 : D24_ 15 = .ok (.ireturn, 1) := by decide +kernel
theorem ef_24_20 (m : MethodId) (x0 : Addr) (x1 : Int32) : entryFrame m #[(.ref x0), (.int x1)] 2 = mkF m 0 #[vR (x0), vI (x1)] [] := by first | (simp [entryFrame, mkF, argsToLocals, Value.category]; done) | rfl
theorem r_chL (l : Launch) (Z : State) (a0 : Array Value) (hw : own_HW a0 Z) (ws : List Jvm.Cond) (cs1 : Int32) (fv : Value) (h0 : Heap) (n0 : Nat) (O0 : Old Z n0 h0) (G : own_Ctx Z Z.heap cs1 fv) (a1 a2 : Addr) (k2 : ClassId) (cs : List Int32) (E1 : Exa Z h0 a1 "java/lang/String") (F1 : Fld Z h0 a1 "java/lang/String" "value" "[B" (.ref a2)) (F2 : Fld Z h0 a1 "java/lang/String" "coder" "B" (.int (0 : Int32))) (Va : Arv Z h0 a2 k2 .byte cs.length.toInt32 (cs.map (fun c => .int (nar .byte c.toInt8.toInt32))) (.int (0 : Int32))) (i : Nat) (hi : i < cs.length) (hn : cs.length ≤ 4) (hz : ¬ (cs[i] < (0 : Int32))) (hm : ¬ ((65535 : Int32) < cs[i])) (hl : ¬ ((255 : Int32) < cs[i])) :
    own_M l Y19_ (head1 (Jvm.Cond.code Y19_ jdk_42_method_56_code 2 (some .char) :: ws) (own_rm_ 4 0 0 53)) #[(.ref a1), (.int i.toInt32)] Z h0 n0 (own_Q (some (.int cs[i]))) (own_rm_ 4 0 0 53).cells (own_rm_ 4 0 0 53).slots := by
  have G0 := G
  refine MetFree.of_bodySF (plainFor_of_name pn_2) hisR ?_
  intro p e s m args below meth c s₁ Bd hml0 hP hK
  obtain ⟨rfl, hZ, hh⟩ := hP
  have hx := Bd.exec
  have hby := Bd.bytes
  have hml : c.maxLocals = 2 := hml0
  have hown := findClass_of_methodNamed Bd.named
  have X0 : Stand p l e (own_rm_ 4 0 0 53) s m #[(.ref a1), (.int i.toInt32)] below meth c s₁ [] 0 0 := Stand.of_body Bd
  have e0 : s₁.heap = h0 := by rw [← hh, Bd.state]; rfl
  have N0 := Fr.nil n0
  have pre0 := own_pre (tb := p.tables) (e := e) (below := below) (T := s₁) (ef_24_20 m a1 i.toInt32)
  obtain ⟨cq1, kq1, q1a, q1b, q1c⟩ := isOf hZ e0 E1
  obtain ⟨_, _, ⟨T1, L1, k1, n1⟩, -, X1, ⟨Lc1, hQ1, l1, y1, z1⟩, st1⟩ := X0.virtualBack hx (y := Y17_) (z := Y17_) hown (mvT hZ (own_w hw 41 rfl)) (mvT hZ (own_w hw 42 rfl)) (notFace_of_selects (args := #[]) (mvT hZ (own_w hw 44 rfl))) (mvT hZ (own_w hw 44 rfl)) (mvT hZ (own_w hw 43 rfl)) (by decide) (backOf (W := 0) (r_islL l Z a0 hw [] cs1 fv h0 n0 O0 G0 a1 a2 k2 cs E1 F1 F2 Va) hZ (own_w hw 45 rfl) (own_w hw 8 rfl) (by decide) (by decide)) q1a q1c (g := (mkF m 1 #[vR (a1), vI (i.toInt32)] [(.ref a1)])) rfl (by rw [hml]; rfl) (Steps.refl _) (argsL := []) (rest := []) (lenOf pd_13 rfl) rfl (by show 2 * 0 + _ ≤ _; exact Nat.le_of_eq rfl) (hb hby d24_1) (fun _ _ => ⟨rfl, e0, (by decide : 0 + 0 ≤ _), (by decide : 0 + 0 ≤ _)⟩)
  dsimp only [Pt.U, Pt.locs, Pt.cells, Pt.slots] at X1 l1 y1 z1 st1 hQ1
  subst l1 y1 z1
  obtain ⟨rfl, N1q, e1⟩ := hQ1
  have N1 := Fr.app N0 N1q
  obtain ⟨T2, X2, e2, st2⟩ := getF X1 hx hZ hown (host := "") (Or.inl (own_w hw 25 rfl)) Via.refl e1 F1 (g := (mkF m 8 #[vR (a1), vI (i.toInt32)] [(.ref a1)])) rfl rfl (hb hby d24_8)
  obtain ⟨_, _, ⟨T3, L3, k3, n3⟩, -, X3, ⟨Lc3, hQ3, l3, y3, z3⟩, st3⟩ := Jvm.LawKit.callS X2 hx (y := Y11_) hown (mvT hZ (own_w hw 118 rfl)) (mvT hZ (own_w hw 119 rfl)) (mvT hZ (own_w hw 59 rfl)) (mvT hZ (own_w hw 120 rfl)) (by decide) (backOf (W := 0) (r_lch l Z a0 hw [] cs1 fv h0 n0 O0 G0 a2 k2 cs i Va hi hn hz hl) hZ (own_w hw 120 rfl) (own_w hw 59 rfl) (by decide) (by decide)) (g := (mkF m 12 #[vR (a1), vI (i.toInt32)] [(.int i.toInt32), (.ref a2)])) rfl (by rw [hml]; rfl) (argsL := [(.ref a2), (.int i.toInt32)]) (rest := []) (lenOf pd_7 rfl) rfl (by show 2 * 0 + _ ≤ _; exact Nat.le_of_eq rfl) (hb hby d24_12) (fun _ _ => ⟨rfl, e2, (by decide : 0 + 0 ≤ _), (by decide : 0 + 0 ≤ _)⟩)
  dsimp only [Pt.U, Pt.locs, Pt.cells, Pt.slots] at X3 l3 y3 z3 st3 hQ3
  subst l3 y3 z3
  obtain ⟨rfl, N3q, e3⟩ := hQ3
  have N3 := Fr.app N1 N3q
  obtain ⟨fs, hr, hrun, hended, hW, hsame⟩ := X3.leave (v := some (.int (nar .char cs[i]))) (fun h => by rw [Bd.returns] at h; cases h)
  refine ⟨_, _, pre0 _ ?_, hrun, hended, _, _, rfl, ?_, ⟨_, rfl⟩, hW, hsame.mono (by decide) (by decide)⟩
  · show own_St p e below s₁ m 0 #[vR (a1), vI (i.toInt32)] [] _
    refine XS.aloadN X0.here hx rfl (hb hby d24_0) rfl rfl ?_
    show own_St p e below s₁ m 1 #[vR (a1), vI (i.toInt32)] [(.ref a1)] _
    refine st1.trans ?_
    show own_St p e below T1 m 4 #[vR (a1), vI (i.toInt32)] [(.int (1 : Int32))] _
    refine XS.ifNo X1.here hx rfl (hb hby d24_4) rfl ((if0 _ _).trans (feq (by decide : ¬ ((1 : Int32) = (0 : Int32)))).1) ?_
    refine XS.aloadN X1.here hx rfl (hb hby d24_7) rfl rfl ?_
    show own_St p e below T1 m 8 #[vR (a1), vI (i.toInt32)] [(.ref a1)] _
    refine st2 _ ?_
    show own_St p e below T2 m 11 #[vR (a1), vI (i.toInt32)] [(.ref a2)] _
    refine XS.iloadN X2.here hx rfl (hb hby d24_11) rfl ?_
    show own_St p e below T2 m 12 #[vR (a1), vI (i.toInt32)] [(.int i.toInt32), (.ref a2)] _
    refine st3 _ ?_
    show own_St p e below T3 m 15 #[vR (a1), vI (i.toInt32)] [(.int cs[i])] _
    exact retN X3 hx (t := .char) Bd.returns (by simp) (hb hby d24_15) hr
  · show own_Q (some (.int cs[i])) h0 n0 _ T3.heap _
    rw [e3]
    exact ⟨own_nch hz hm, N3, rfl⟩
theorem d24_16 : D24_ 16 = .ok (.aload_n 0, 1) := by decide +kernel
theorem d24_17 : D24_ 17 = .ok (.getfield 9, 3) := by decide +kernel
theorem d24_20 : D24_ 20 = .ok (.iload_n 1, 1) := by decide +kernel
theorem d24_21 : D24_ 21 = .ok (.invokestatic 498, 3) := by decide +kernel
theorem d24_24 : D24_ 24 = .ok (.ireturn, 1) := by decide +kernel
theorem r_chU (l : Launch) (Z : State) (a0 : Array Value) (hw : own_HW a0 Z) (ws : List Jvm.Cond) (cs1 : Int32) (fv : Value) (h0 : Heap) (n0 : Nat) (O0 : Old Z n0 h0) (G : own_Ctx Z Z.heap cs1 fv) (a1 a2 : Addr) (k2 : ClassId) (cs : List Int32) (E1 : Exa Z h0 a1 "java/lang/String") (F1 : Fld Z h0 a1 "java/lang/String" "value" "[B" (.ref a2)) (F2 : Fld Z h0 a1 "java/lang/String" "coder" "B" (.int (1 : Int32))) (Va : Arv Z h0 a2 k2 .byte (2 * cs.length).toInt32 (cs.flatMap own_two) (.int (0 : Int32))) (i : Nat) (hi : i < cs.length) (hn : cs.length ≤ 4) (hz : ¬ (cs[i] < (0 : Int32))) (hm : ¬ ((65535 : Int32) < cs[i])) :
    own_M l Y19_ (head1 (Jvm.Cond.code Y19_ jdk_42_method_56_code 2 (some .char) :: ws) (own_rm_ 4 0 0 53)) #[(.ref a1), (.int i.toInt32)] Z h0 n0 (own_Q (some (.int cs[i]))) (own_rm_ 4 0 0 53).cells (own_rm_ 4 0 0 53).slots := by
  have G0 := G
  refine MetFree.of_bodySF (plainFor_of_name pn_2) hisR ?_
  intro p e s m args below meth c s₁ Bd hml0 hP hK
  obtain ⟨rfl, hZ, hh⟩ := hP
  have hx := Bd.exec
  have hby := Bd.bytes
  have hml : c.maxLocals = 2 := hml0
  have hown := findClass_of_methodNamed Bd.named
  have X0 : Stand p l e (own_rm_ 4 0 0 53) s m #[(.ref a1), (.int i.toInt32)] below meth c s₁ [] 0 0 := Stand.of_body Bd
  have e0 : s₁.heap = h0 := by rw [← hh, Bd.state]; rfl
  have N0 := Fr.nil n0
  have pre0 := own_pre (tb := p.tables) (e := e) (below := below) (T := s₁) (ef_24_20 m a1 i.toInt32)
  obtain ⟨cq1, kq1, q1a, q1b, q1c⟩ := isOf hZ e0 E1
  obtain ⟨_, _, ⟨T1, L1, k1, n1⟩, -, X1, ⟨Lc1, hQ1, l1, y1, z1⟩, st1⟩ := X0.virtualBack hx (y := Y17_) (z := Y17_) hown (mvT hZ (own_w hw 41 rfl)) (mvT hZ (own_w hw 42 rfl)) (notFace_of_selects (args := #[]) (mvT hZ (own_w hw 44 rfl))) (mvT hZ (own_w hw 44 rfl)) (mvT hZ (own_w hw 43 rfl)) (by decide) (backOf (W := 0) (r_islU l Z a0 hw [] cs1 fv h0 n0 O0 G0 a1 a2 k2 cs E1 F1 F2 Va) hZ (own_w hw 45 rfl) (own_w hw 8 rfl) (by decide) (by decide)) q1a q1c (g := (mkF m 1 #[vR (a1), vI (i.toInt32)] [(.ref a1)])) rfl (by rw [hml]; rfl) (Steps.refl _) (argsL := []) (rest := []) (lenOf pd_13 rfl) rfl (by show 2 * 0 + _ ≤ _; exact Nat.le_of_eq rfl) (hb hby d24_1) (fun _ _ => ⟨rfl, e0, (by decide : 0 + 0 ≤ _), (by decide : 0 + 0 ≤ _)⟩)
  dsimp only [Pt.U, Pt.locs, Pt.cells, Pt.slots] at X1 l1 y1 z1 st1 hQ1
  subst l1 y1 z1
  obtain ⟨rfl, N1q, e1⟩ := hQ1
  have N1 := Fr.app N0 N1q
  obtain ⟨T2, X2, e2, st2⟩ := getF X1 hx hZ hown (host := "") (Or.inl (own_w hw 25 rfl)) Via.refl e1 F1 (g := (mkF m 17 #[vR (a1), vI (i.toInt32)] [(.ref a1)])) rfl rfl (hb hby d24_17)
  obtain ⟨_, _, ⟨T3, L3, k3, n3⟩, -, X3, ⟨Lc3, hQ3, l3, y3, z3⟩, st3⟩ := Jvm.LawKit.callS X2 hx (y := Y10_) hown (mvT hZ (own_w hw 222 rfl)) (mvT hZ (own_w hw 223 rfl)) (mvT hZ (own_w hw 77 rfl)) (mvT hZ (own_w hw 224 rfl)) (by decide) (backOf (W := 0) (r_uch l Z a0 hw [] cs1 fv h0 n0 O0 G0 a2 k2 cs i Va hi hn hz hm) hZ (own_w hw 224 rfl) (own_w hw 77 rfl) (by decide) (by decide)) (g := (mkF m 21 #[vR (a1), vI (i.toInt32)] [(.int i.toInt32), (.ref a2)])) rfl (by rw [hml]; rfl) (argsL := [(.ref a2), (.int i.toInt32)]) (rest := []) (lenOf pd_7 rfl) rfl (by show 2 * 0 + _ ≤ _; exact Nat.le_of_eq rfl) (hb hby d24_21) (fun _ _ => ⟨rfl, e2, (by decide : 0 + 0 ≤ _), (by decide : 0 + 0 ≤ _)⟩)
  dsimp only [Pt.U, Pt.locs, Pt.cells, Pt.slots] at X3 l3 y3 z3 st3 hQ3
  subst l3 y3 z3
  obtain ⟨rfl, N3q, e3⟩ := hQ3
  have N3 := Fr.app N1 N3q
  obtain ⟨fs, hr, hrun, hended, hW, hsame⟩ := X3.leave (v := some (.int (nar .char cs[i]))) (fun h => by rw [Bd.returns] at h; cases h)
  refine ⟨_, _, pre0 _ ?_, hrun, hended, _, _, rfl, ?_, ⟨_, rfl⟩, hW, hsame.mono (by decide) (by decide)⟩
  · show own_St p e below s₁ m 0 #[vR (a1), vI (i.toInt32)] [] _
    refine XS.aloadN X0.here hx rfl (hb hby d24_0) rfl rfl ?_
    show own_St p e below s₁ m 1 #[vR (a1), vI (i.toInt32)] [(.ref a1)] _
    refine st1.trans ?_
    show own_St p e below T1 m 4 #[vR (a1), vI (i.toInt32)] [(.int (0 : Int32))] _
    refine XS.ifYes X1.here hx rfl (pc0 := 4) (pc' := 16) rfl (hb hby d24_4) rfl ((if0 _ _).trans (teq (by decide : (0 : Int32) = (0 : Int32))).1) (by decide) (by decide) ?_
    refine XS.aloadN X1.here hx rfl (hb hby d24_16) rfl rfl ?_
    show own_St p e below T1 m 17 #[vR (a1), vI (i.toInt32)] [(.ref a1)] _
    refine st2 _ ?_
    show own_St p e below T2 m 20 #[vR (a1), vI (i.toInt32)] [(.ref a2)] _
    refine XS.iloadN X2.here hx rfl (hb hby d24_20) rfl ?_
    show own_St p e below T2 m 21 #[vR (a1), vI (i.toInt32)] [(.int i.toInt32), (.ref a2)] _
    refine st3 _ ?_
    show own_St p e below T3 m 24 #[vR (a1), vI (i.toInt32)] [(.int cs[i])] _
    exact retN X3 hx (t := .char) Bd.returns (by simp) (hb hby d24_24) hr
  · show own_Q (some (.int cs[i])) h0 n0 _ T3.heap _
    rw [e3]
    exact ⟨own_nch hz hm, N3, rfl⟩
theorem r_ch (l : Launch) (Z : State) (a0 : Array Value) (hw : own_HW a0 Z) (ws : List Jvm.Cond) (cs1 : Int32) (fv : Value) (h0 : Heap) (n0 : Nat) (O0 : Old Z n0 h0) (G : own_Ctx Z Z.heap cs1 fv) (a1 : Addr) (cs : List Int32) (S : own_Str Z h0 a1 cs) (i : Nat) (hi : i < cs.length) (hn : cs.length ≤ 4) (hB : own_Bd cs) :
    own_M l Y19_ (head1 (Jvm.Cond.code Y19_ jdk_42_method_56_code 2 (some .char) :: ws) (own_rm_ 4 0 0 53)) #[(.ref a1), (.int i.toInt32)] Z h0 n0 (own_Q (some (.int cs[i]))) (own_rm_ 4 0 0 53).cells (own_rm_ 4 0 0 53).slots := by
  obtain ⟨b, k, E1, F1, ⟨F2, B, V⟩ | ⟨F2, V⟩⟩ := S
  · exact r_chL l Z a0 hw ws cs1 fv h0 n0 O0 G a1 b k cs E1 F1 F2 V i hi hn (hB i hi).1 (hB i hi).2 (B i hi)
  · exact r_chU l Z a0 hw ws cs1 fv h0 n0 O0 G a1 b k cs E1 F1 F2 V i hi hn (hB i hi).1 (hB i hi).2
def own_u2 (n : Nat) (out : List Int32) : List Value := out.flatMap own_two ++ List.replicate (2 * n - 2 * out.length) (.int (0 : Int32))
theorem own_twl (out : List Int32) : (out.flatMap own_two).length = 2 * out.length := by
  induction out with
  | nil => rfl
  | cons c out ih => rw [List.flatMap_cons, List.length_append, ih, List.length_cons]; show 2 + _ = _; omega
theorem own_u2_len {n : Nat} {out : List Int32} (h : out.length ≤ n) : (own_u2 n out).length = 2 * n := by
  rw [own_u2, List.length_append, own_twl, List.length_replicate]; omega
theorem own_set2 (A : List Value) (k : Nat) (x y z : Value) : ((A ++ List.replicate (k + 2) z).set A.length x).set (A.length + 1) y = A ++ [x, y] ++ List.replicate k z := by
  rw [List.set_append_right (h := Nat.le_refl _), Nat.sub_self, List.set_append_right (h := Nat.le_succ _), show A.length.succ - A.length = 1 by omega]
  simp [List.replicate_succ]
theorem own_u2_put {n : Nat} {out : List Int32} (c : Int32) (h : out.length + 1 ≤ n) : ((own_u2 n out).set (2 * out.length) (.int (nar .byte ((c >>> ((0 : Int32) &&& 31)).toInt8.toInt32)))).set (2 * out.length + 1) (.int (nar .byte ((c >>> ((8 : Int32) &&& 31)).toInt8.toInt32))) = own_u2 n (out ++ [c]) := by
  have e : 2 * n - 2 * out.length = (2 * n - 2 * (out.length + 1)) + 2 := by omega
  rw [own_u2, e, ← own_twl, own_set2, own_u2, List.flatMap_append, List.length_append, List.length_singleton]
  rfl
theorem own_u2_nil (n : Nat) : own_u2 n [] = List.replicate (2 * n) (.int (0 : Int32)) := by simp [own_u2]
theorem own_take1 (out : List Int32) {i : Nat} (h : i < out.length) : out.take i ++ [out[i]] = out.take (i + 1) ∧ (out.take i).length = i := by
  refine ⟨?_, by rw [List.length_take]; omega⟩
  rw [List.take_add_one]; simp [h]
theorem own_u2_turn {n : Nat} (out : List Int32) {i : Nat} (h : i < out.length) (hn : out.length ≤ n) : ((own_u2 n (out.take i)).set (2 * i) (.int (nar .byte ((out[i] >>> ((0 : Int32) &&& 31)).toInt8.toInt32)))).set (2 * i + 1) (.int (nar .byte ((out[i] >>> ((8 : Int32) &&& 31)).toInt8.toInt32))) = own_u2 n (out.take (i + 1)) := by
  have t := own_take1 out h
  have q := own_u2_put (n := n) (out := out.take i) out[i] (by rw [t.2]; omega)
  rw [t.1, t.2] at q; exact q
theorem own_lbput (out : List Int32) (c : Int32) : (out.map (fun (c : Int32) => Value.int (nar .byte c.toInt8.toInt32)) ++ [Value.int (0 : Int32)]).set out.length (.int (nar .byte (c.toInt8.toInt32))) = (out ++ [c]).map (fun c => .int (nar .byte c.toInt8.toInt32)) := by
  rw [List.set_append_right (h := by simp)]
  simp
theorem own_chput (out : List Int32) (c : Int32) : (out.map Value.int ++ [Value.int (0 : Int32)]).set out.length (.int c) = (out ++ [c]).map Value.int := by
  rw [List.set_append_right (h := by simp)]
  simp
theorem own_lat2 {c : Int32} (h0 : ¬ (c < (0 : Int32))) (h1 : ¬ ((255 : Int32) < c)) : ((nar .byte (c.toInt8.toInt32)) &&& (255 : Int32)) = c := by
  apply Int32.toInt_inj.mp
  have m1 : ((nar .byte (c.toInt8.toInt32)) &&& (255 : Int32)).toInt = (nar .byte (c.toInt8.toInt32)).toInt % 2 ^ 8 := Jvm.Kit.i32_mask _ 255 (k := 8) (by decide) (by decide)
  have m2 := own_i2b c
  rw [Int32.lt_iff_toInt_lt] at h0 h1
  have z0 : (0 : Int32).toInt = 0 := rfl
  have z1 : (255 : Int32).toInt = 255 := rfl
  omega
theorem own_bb (x : Int32) : (x.toInt8.toInt32).toInt % 256 = x.toInt % 256 := by
  rw [Int8.toInt_toInt32, Int32.toInt_toInt8]; exact own_bm8 _
theorem own_lbeq {c ch : Int32} (h0 : ¬ (c < (0 : Int32))) (h1 : ¬ ((255 : Int32) < c)) (k0 : ¬ (ch < (0 : Int32))) (k1 : ¬ ((255 : Int32) < ch)) : ((nar .byte (c.toInt8.toInt32)) = ch.toInt8.toInt32) ↔ c = ch := by
  constructor
  · intro e
    have m1 := own_i2b c
    have m2 := own_bb ch
    rw [e] at m1
    rw [Int32.lt_iff_toInt_lt] at h0 h1 k0 k1
    have z0 : (0 : Int32).toInt = 0 := rfl
    have z1 : (255 : Int32).toInt = 255 := rfl
    apply Int32.toInt_inj.mp
    omega
  · rintro rfl
    show c.toInt8.toInt32.toInt8.toInt32 = c.toInt8.toInt32
    simp
def own_Qix (cs : List Int32) (ch : Int32) (h0 : Heap) (n0 : Nat) (v : Option Value) (h : Heap) (L : List Loc) : Prop := ∃ r : Int32, v = some (.int r) ∧ Fr n0 L ∧ h = h0 ∧ ((¬ (r < (0 : Int32)) ∧ ∃ j, ∃ hj : j < cs.length, cs[j] = ch) ∨ (r < (0 : Int32) ∧ ∀ j (hj : j < cs.length), ¬ (cs[j] = ch)))
theorem own_ix0 {cs : List Int32} {ch : Int32} (h : ¬ (1 ≤ cs.length)) : (¬ ((-1 : Int32) < (0 : Int32)) ∧ ∃ j, ∃ hj : j < cs.length, cs[j] = ch) ∨ ((-1 : Int32) < (0 : Int32) ∧ ∀ j (hj : j < cs.length), ¬ (cs[j] = ch)) := Or.inr ⟨by decide, fun j hj => absurd hj (by omega)⟩
theorem own_n00 {n : Nat} (h : ¬ (1 ≤ n)) : ¬ ((0 : Int32) < n.toInt32) := by
  have e : n = 0 := by omega
  subst e; decide
theorem own_big {ch : Int32} (h : ¬ ((255 : Int32) < ch)) : ch < (65536 : Int32) := by
  rw [Int32.lt_iff_toInt_lt] at *
  have z0 : (65536 : Int32).toInt = 65536 := rfl
  have z1 : (255 : Int32).toInt = 255 := rfl
  omega
theorem own_cap1 {o n : Nat} (h : o + 1 ≤ n) (hn : n ≤ 4) : ¬ ((0 : Int32) < ((o.toInt32 + (1 : Int32)) - n.toInt32)) := by
  have h3 : n = 1 ∨ n = 2 ∨ n = 3 ∨ n = 4 := by omega
  have h4 : o = 0 ∨ o = 1 ∨ o = 2 ∨ o = 3 := by omega
  rcases h3 with rfl | rfl | rfl | rfl <;> rcases h4 with rfl | rfl | rfl | rfl <;> first | omega | decide
theorem own_cfs2 {o n : Nat} (h : o ≤ n) (hn : n ≤ 4) : ¬ (((n.toInt32 ||| (0 : Int32)) ||| o.toInt32) < (0 : Int32)) ∧ ¬ ((n.toInt32 - (0 : Int32)) < o.toInt32) := by
  have h3 : n = 0 ∨ n = 1 ∨ n = 2 ∨ n = 3 ∨ n = 4 := by omega
  have h4 : o = 0 ∨ o = 1 ∨ o = 2 ∨ o = 3 ∨ o = 4 := by omega
  rcases h3 with rfl | rfl | rfl | rfl | rfl <;> rcases h4 with rfl | rfl | rfl | rfl | rfl <;> first | omega | decide
theorem own_le {o n : Nat} (h : o ≤ n) (hn : n ≤ 1000) : ¬ (n.toInt32 < o.toInt32) := by
  have e := len_toInt (n := o) (by omega)
  have e1 := len_toInt (n := n) (by omega)
  rw [Int32.lt_iff_toInt_lt, e, e1]; omega
theorem own_nei {i n : Nat} (h : i < n) (hn : n ≤ 1000) : ¬ (i.toInt32 = n.toInt32) := by
  have e := len_toInt (n := i) (by omega)
  have e1 := len_toInt (n := n) (by omega)
  intro q; have := congrArg Int32.toInt q; omega
theorem own_cp {A B vd : List Value} {nn : Nat} {d : Value} (hA : A.length = nn) (hv : vd.length = nn) : vd.take ((0 : Int32).toNatClampNeg) ++ (List.range nn).map (fun i => (A ++ B).getD ((0 : Int32).toNatClampNeg + i) d) ++ vd.drop ((0 : Int32).toNatClampNeg + nn) = A := by
  have z : (0 : Int32).toNatClampNeg = 0 := rfl
  rw [z, List.take_zero, List.nil_append, Nat.zero_add, List.drop_of_length_le (by omega), List.append_nil]
  apply List.ext_getElem
  · simp [hA]
  · intro i h1 h2
    simp only [List.getElem_map, List.getElem_range, Nat.zero_add, List.getD_eq_getElem?_getD]
    rw [List.getElem?_append_left h2, List.getElem?_eq_getElem h2]; rfl
def own_SB (Z : State) (h : Heap) (f0 : Nat) (a : Addr) (cs out : List Int32) : Prop := ∃ (b : Addr) (k : ClassId), f0 ≤ a ∧ f0 ≤ b ∧ a ≠ b ∧ Exa Z h a "java/lang/StringBuilder" ∧ Fld Z h a "java/lang/AbstractStringBuilder" "value" "[B" (.ref b) ∧ Fld Z h a "java/lang/AbstractStringBuilder" "count" "I" (.int out.length.toInt32) ∧ Fld Z h a "java/lang/AbstractStringBuilder" "maybeLatin1" "Z" (.int (0 : Int32)) ∧ ((Fld Z h a "java/lang/AbstractStringBuilder" "coder" "B" (.int (0 : Int32)) ∧ own_Lat out ∧ Arv Z h b k .byte cs.length.toInt32 (out.map (fun c => .int (nar .byte c.toInt8.toInt32))) (.int (0 : Int32))) ∨ (Fld Z h a "java/lang/AbstractStringBuilder" "coder" "B" (.int (1 : Int32)) ∧ Arv Z h b k .byte (2 * cs.length).toInt32 (own_u2 cs.length out) (.int (0 : Int32))))
theorem own_SB_exa {Z : State} {h : Heap} {f0 : Nat} {a : Addr} {cs out : List Int32} (S : own_SB Z h f0 a cs out) : Exa Z h a "java/lang/StringBuilder" := by obtain ⟨b, k, -, -, -, E, -⟩ := S; exact E
def own_QSB (Z : State) (f0 : Nat) (a : Addr) (cs out : List Int32) (r : Option Value) (h0 : Heap) (n0 : Nat) (v : Option Value) (h : Heap) (L : List Loc) : Prop := ∃ ws : List Addr, v = r ∧ Fr n0 L ∧ (∀ x ∈ ws, f0 ≤ x) ∧ Keep h0 h ws ∧ own_SB Z h f0 a cs out
def own_Qinf (Z : State) (a1 : Addr) (cs out : List Int32) (h0 : Heap) (n0 : Nat) (v : Option Value) (h : Heap) (L : List Loc) : Prop := ∃ (b : Addr) (k : ClassId), v = none ∧ Fr n0 L ∧ Keep h0 h [a1] ∧ h0.size ≤ b ∧ Arv Z h b k .byte (2 * cs.length).toInt32 (own_u2 cs.length out) (.int (0 : Int32)) ∧ Fld Z h a1 "java/lang/AbstractStringBuilder" "value" "[B" (.ref b) ∧ Fld Z h a1 "java/lang/AbstractStringBuilder" "count" "I" (.int out.length.toInt32) ∧ Fld Z h a1 "java/lang/AbstractStringBuilder" "maybeLatin1" "Z" (.int (0 : Int32)) ∧ Fld Z h a1 "java/lang/AbstractStringBuilder" "coder" "B" (.int (1 : Int32))
theorem own_Lat_app {out : List Int32} {c : Int32} (h : own_Lat out) (hc : ¬ ((255 : Int32) < c)) : own_Lat (out ++ [c]) := by
  intro j hj
  by_cases q : j < out.length
  · rw [List.getElem_append_left q]; exact h j q
  · rw [List.getElem_append_right (by omega)]; simp; simpa using hc
theorem own_Lat_nil : own_Lat ([] : List Int32) := fun j hj => absurd hj (Nat.not_lt_zero _)
theorem own_lenapp {out : List Int32} {c : Int32} (h : out.length ≤ 1000) : out.length.toInt32 + (1 : Int32) = (out ++ [c]).length.toInt32 := by
  rw [own_ts h, List.length_append]; rfl

theorem own_sameM {Z : State} {a0 : Array Value} {C : String} {y z : MethodName} (wi : (Cond.instanceMethod y).before a0 Z = true) (hc : z.cls = y.cls) (ws : (Cond.selects C z z).before a0 Z = true) (hy : y.cls ≠ "java/lang/invoke/MethodHandle" ∧ y.cls ≠ "java/lang/invoke/VarHandle") : (Cond.sameMethod y.cls y.cls y.name y.desc).before a0 Z = true := by
  obtain ⟨m, meth, hn, -, -, -⟩ := Cond.instanceMethod_spec wi
  have hf := State.methodFound?_of_named hn hy
  have hcl := findClass_of_methodNamed hn
  obtain ⟨c2, r2, m2, q1, q2, q3, q4, kP, hkP, hkPi⟩ := Cond.selects_spec ws
  have hcz := findClass_of_methodNamed q3
  rw [hc, hcl] at hcz
  have e : m.cls = m2.cls := Option.some.inj hcz
  have hk : Z.vm.classes[m.cls]? = some kP := by rw [e]; exact hkP
  simp [Cond.before, Cond.holds, Cond.value, hcl, hf, hn, hk, hkPi]
theorem own_selQ {Z s : State} {a0 args : Array Value} {y : MethodName} {C : String} (hZ : Z.Warmed39 s.vm) (wsel : (Cond.selects C y y).before a0 Z = true) (wm : (Cond.instanceMethod y).before a0 Z = true) (wp : (Cond.privateMethod y).before a0 Z = true) (hy : y.cls ≠ "java/lang/invoke/MethodHandle" ∧ y.cls ≠ "java/lang/invoke/VarHandle") : (Cond.selects y.cls y y).before args s = true := by
  have ws : (Cond.selects C y y).before args s = true := mvT hZ wsel
  have wm' : (Cond.instanceMethod y).before args s = true := mvT hZ wm
  have wp' : s.PrivateAt y := Cond.privateMethod_at (args := args) (mvP hZ wp)
  obtain ⟨c2, r2, m2, q1, q2, q3, q4, kP, hkP, hkPi⟩ := Cond.selects_spec ws
  exact Stand.selects_self_of_private (findClass_of_methodNamed q3) hkP hkPi wp' wm' hy
theorem own_nf {s : State} {args : Array Value} {C : String} {y z : MethodName} (hc : z.cls = y.cls) (ws : (Cond.selects C z z).before args s = true) : NotFace s y := fun r0 h0 => by
  obtain ⟨c2, r2, m2, q1, q2, q3, q4, kP, hkP, hkPi⟩ := Cond.selects_spec ws
  have h1 := findClass_of_methodNamed q3
  have h2 := findClass_of_methodNamed h0
  rw [hc, h2] at h1
  have e : r0.cls = m2.cls := Option.some.inj h1
  exact ⟨kP, by rw [e]; exact hkP, hkPi⟩
theorem own_room {a k b r : Nat} (h : a + b ≤ r) (q : k ≤ b) : a + k ≤ r := Nat.le_trans (Nat.add_le_add_left q a) h
theorem own_cp4 {a b : Nat} (h : a ≤ b) (hb : b ≤ 1000) : (0 : Int32).toNatClampNeg + a.toInt32.toNatClampNeg ≤ b.toInt32.toNatClampNeg := by
  rw [(own_ti (Nat.le_trans h hb)).1, (own_ti hb).1]; show 0 + a ≤ b; omega
theorem own_cp5 {a : Nat} (hb : a ≤ 1000) {x : Value} : (0 : Int32).toNatClampNeg + a.toInt32.toNatClampNeg ≤ (List.replicate a x).length := by
  rw [(own_ti hb).1, List.length_replicate]; show 0 + a ≤ a; omega
theorem d14_0 : D14_ 0 = .ok (.iload_n 0, 1) := by decide +kernel
theorem d14_1 : D14_ 1 = .ok (.iload_n 1, 1) := by decide +kernel
theorem d14_2 : D14_ 2 = .ok (.if_icmp .gt 7, 3) := by decide +kernel
theorem d14_5 : D14_ 5 = .ok (.iload_n 0, 1) := by decide +kernel
theorem d14_6 : D14_ 6 = .ok (.goto 4, 3) := by decide +kernel
theorem d14_10 : D14_ 10 = .ok (.ireturn, 1) := by decide +kernel
theorem ef_14_21 (m : MethodId) (x0 : Int32) (x1 : Int32) : entryFrame m #[(.int x0), (.int x1)] 2 = mkF m 0 #[vI (x0), vI (x1)] [] := by first | (simp [entryFrame, mkF, argsToLocals, Value.category]; done) | rfl
theorem pf_14 : plainFor Y20_ = true := by decide +kernel
theorem r_minA (l : Launch) (Z : State) (a0 : Array Value) (hw : own_HW a0 Z) (ws : List Jvm.Cond) (cs1 : Int32) (fv : Value) (h0 : Heap) (n0 : Nat) (O0 : Old Z n0 h0) (G : own_Ctx Z Z.heap cs1 fv) (x y : Int32) (h : ¬ (y < x)) :
    own_M l Y20_ (head1 (Jvm.Cond.code Y20_ jdk_29_method_69_code 2 (some .int) :: ws) (own_rm_ 0 0 0 0)) #[(.int x), (.int y)] Z h0 n0 (own_Q (some (.int x))) (own_rm_ 0 0 0 0).cells (own_rm_ 0 0 0 0).slots := by
  have G0 := G
  refine MetFree.of_bodySF pf_14 hisR ?_
  intro p e s m args below meth c s₁ Bd hml0 hP hK
  obtain ⟨rfl, hZ, hh⟩ := hP
  have hx := Bd.exec
  have hby := Bd.bytes
  have hml : c.maxLocals = 2 := hml0
  have hown := findClass_of_methodNamed Bd.named
  have X0 : Stand p l e (own_rm_ 0 0 0 0) s m #[(.int x), (.int y)] below meth c s₁ [] 0 0 := Stand.of_body Bd
  have e0 : s₁.heap = h0 := by rw [← hh, Bd.state]; rfl
  have N0 := Fr.nil n0
  have pre0 := own_pre (tb := p.tables) (e := e) (below := below) (T := s₁) (ef_14_21 m x y)
  obtain ⟨fs, hr, hrun, hended, hW, hsame⟩ := X0.leave (v := some (.int x)) (fun h => by rw [Bd.returns] at h; cases h)
  refine ⟨_, _, pre0 _ ?_, hrun, hended, _, _, rfl, ?_, ⟨_, rfl⟩, hW, hsame.mono (by decide) (by decide)⟩
  · show own_St p e below s₁ m 0 #[vI (x), vI (y)] [] _
    refine XS.iloadN X0.here hx rfl (hb hby d14_0) rfl ?_
    refine XS.iloadN X0.here hx rfl (hb hby d14_1) rfl ?_
    refine XS.icmpNo X0.here hx rfl (hb hby d14_2) rfl (flt (h : ¬ (y < x))).2.2.1 ?_
    refine XS.iloadN X0.here hx rfl (hb hby d14_5) rfl ?_
    refine XS.goto X0.here hx rfl (pc0 := 6) (pc' := 10) rfl (hb hby d14_6) (by decide) (by decide) ?_
    show own_St p e below s₁ m 10 #[vI (x), vI (y)] [(.int x)] _
    exact retI X0 hx Bd.returns (hb hby d14_10) hr
  · show own_Q (some (.int x)) h0 n0 _ s₁.heap _
    rw [e0]
    exact ⟨rfl, N0, rfl⟩
theorem d14_9 : D14_ 9 = .ok (.iload_n 1, 1) := by decide +kernel
theorem r_minB (l : Launch) (Z : State) (a0 : Array Value) (hw : own_HW a0 Z) (ws : List Jvm.Cond) (cs1 : Int32) (fv : Value) (h0 : Heap) (n0 : Nat) (O0 : Old Z n0 h0) (G : own_Ctx Z Z.heap cs1 fv) (x y : Int32) (h : y < x) :
    own_M l Y20_ (head1 (Jvm.Cond.code Y20_ jdk_29_method_69_code 2 (some .int) :: ws) (own_rm_ 0 0 0 0)) #[(.int x), (.int y)] Z h0 n0 (own_Q (some (.int y))) (own_rm_ 0 0 0 0).cells (own_rm_ 0 0 0 0).slots := by
  have G0 := G
  refine MetFree.of_bodySF pf_14 hisR ?_
  intro p e s m args below meth c s₁ Bd hml0 hP hK
  obtain ⟨rfl, hZ, hh⟩ := hP
  have hx := Bd.exec
  have hby := Bd.bytes
  have hml : c.maxLocals = 2 := hml0
  have hown := findClass_of_methodNamed Bd.named
  have X0 : Stand p l e (own_rm_ 0 0 0 0) s m #[(.int x), (.int y)] below meth c s₁ [] 0 0 := Stand.of_body Bd
  have e0 : s₁.heap = h0 := by rw [← hh, Bd.state]; rfl
  have N0 := Fr.nil n0
  have pre0 := own_pre (tb := p.tables) (e := e) (below := below) (T := s₁) (ef_14_21 m x y)
  obtain ⟨fs, hr, hrun, hended, hW, hsame⟩ := X0.leave (v := some (.int y)) (fun h => by rw [Bd.returns] at h; cases h)
  refine ⟨_, _, pre0 _ ?_, hrun, hended, _, _, rfl, ?_, ⟨_, rfl⟩, hW, hsame.mono (by decide) (by decide)⟩
  · show own_St p e below s₁ m 0 #[vI (x), vI (y)] [] _
    refine XS.iloadN X0.here hx rfl (hb hby d14_0) rfl ?_
    refine XS.iloadN X0.here hx rfl (hb hby d14_1) rfl ?_
    refine XS.icmpYes X0.here hx rfl (pc0 := 2) (pc' := 9) rfl (hb hby d14_2) rfl (tlt (h : y < x)).2.2.1 (by decide) (by decide) ?_
    refine XS.iloadN X0.here hx rfl (hb hby d14_9) rfl ?_
    show own_St p e below s₁ m 10 #[vI (x), vI (y)] [(.int y)] _
    exact retI X0 hx Bd.returns (hb hby d14_10) hr
  · show own_Q (some (.int y)) h0 n0 _ s₁.heap _
    rw [e0]
    exact ⟨rfl, N0, rfl⟩
theorem d13_0 : D13_ 0 = .ok (.iload_n 0, 1) := by decide +kernel
theorem d13_1 : D13_ 1 = .ok (.iload_n 1, 1) := by decide +kernel
theorem d13_2 : D13_ 2 = .ok (.if_icmp .lt 7, 3) := by decide +kernel
theorem d13_5 : D13_ 5 = .ok (.iload_n 0, 1) := by decide +kernel
theorem d13_6 : D13_ 6 = .ok (.goto 4, 3) := by decide +kernel
theorem d13_10 : D13_ 10 = .ok (.ireturn, 1) := by decide +kernel
theorem ef_13_22 (m : MethodId) (x0 : Int32) (x1 : Int32) : entryFrame m #[(.int x0), (.int x1)] 2 = mkF m 0 #[vI (x0), vI (x1)] [] := by first | (simp [entryFrame, mkF, argsToLocals, Value.category]; done) | rfl
theorem pf_13 : plainFor Y21_ = true := by decide +kernel
theorem r_max0 (l : Launch) (Z : State) (a0 : Array Value) (hw : own_HW a0 Z) (ws : List Jvm.Cond) (cs1 : Int32) (fv : Value) (h0 : Heap) (n0 : Nat) (O0 : Old Z n0 h0) (G : own_Ctx Z Z.heap cs1 fv)   :
    own_M l Y21_ (head1 (Jvm.Cond.code Y21_ jdk_29_method_65_code 2 (some .int) :: ws) (own_rm_ 0 0 0 0)) #[(.int (0 : Int32)), (.int (0 : Int32))] Z h0 n0 (own_Q (some (.int (0 : Int32)))) (own_rm_ 0 0 0 0).cells (own_rm_ 0 0 0 0).slots := by
  have G0 := G
  refine MetFree.of_bodySF pf_13 hisR ?_
  intro p e s m args below meth c s₁ Bd hml0 hP hK
  obtain ⟨rfl, hZ, hh⟩ := hP
  have hx := Bd.exec
  have hby := Bd.bytes
  have hml : c.maxLocals = 2 := hml0
  have hown := findClass_of_methodNamed Bd.named
  have X0 : Stand p l e (own_rm_ 0 0 0 0) s m #[(.int (0 : Int32)), (.int (0 : Int32))] below meth c s₁ [] 0 0 := Stand.of_body Bd
  have e0 : s₁.heap = h0 := by rw [← hh, Bd.state]; rfl
  have N0 := Fr.nil n0
  have pre0 := own_pre (tb := p.tables) (e := e) (below := below) (T := s₁) (ef_13_22 m (0 : Int32) (0 : Int32))
  obtain ⟨fs, hr, hrun, hended, hW, hsame⟩ := X0.leave (v := some (.int (0 : Int32))) (fun h => by rw [Bd.returns] at h; cases h)
  refine ⟨_, _, pre0 _ ?_, hrun, hended, _, _, rfl, ?_, ⟨_, rfl⟩, hW, hsame.mono (by decide) (by decide)⟩
  · show own_St p e below s₁ m 0 #[vI ((0 : Int32)), vI ((0 : Int32))] [] _
    refine XS.iloadN X0.here hx rfl (hb hby d13_0) rfl ?_
    refine XS.iloadN X0.here hx rfl (hb hby d13_1) rfl ?_
    refine XS.icmpNo X0.here hx rfl (hb hby d13_2) rfl (flt (by decide : ¬ ((0 : Int32) < (0 : Int32)))).1 ?_
    refine XS.iloadN X0.here hx rfl (hb hby d13_5) rfl ?_
    refine XS.goto X0.here hx rfl (pc0 := 6) (pc' := 10) rfl (hb hby d13_6) (by decide) (by decide) ?_
    show own_St p e below s₁ m 10 #[vI ((0 : Int32)), vI ((0 : Int32))] [(.int (0 : Int32))] _
    exact retI X0 hx Bd.returns (hb hby d13_10) hr
  · show own_Q (some (.int (0 : Int32))) h0 n0 _ s₁.heap _
    rw [e0]
    exact ⟨rfl, N0, rfl⟩
theorem d61_0 : D61_ 0 = .ok (.iload_n 2, 1) := by decide +kernel
theorem d61_1 : D61_ 1 = .ok (.iload_n 0, 1) := by decide +kernel
theorem d61_2 : D61_ 2 = .ok (.ior, 1) := by decide +kernel
theorem d61_3 : D61_ 3 = .ok (.iload_n 1, 1) := by decide +kernel
theorem d61_4 : D61_ 4 = .ok (.ior, 1) := by decide +kernel
theorem d61_5 : D61_ 5 = .ok (.ifCond .lt 10, 3) := by decide +kernel
theorem d61_8 : D61_ 8 = .ok (.iload_n 1, 1) := by decide +kernel
theorem d61_9 : D61_ 9 = .ok (.iload_n 2, 1) := by decide +kernel
theorem d61_10 : D61_ 10 = .ok (.iload_n 0, 1) := by decide +kernel
theorem d61_11 : D61_ 11 = .ok (.isub, 1) := by decide +kernel
theorem d61_12 : D61_ 12 = .ok (.if_icmp .le 11, 3) := by decide +kernel
theorem d61_23 : D61_ 23 = .ok (.iload_n 0, 1) := by decide +kernel
theorem d61_24 : D61_ 24 = .ok (.ireturn, 1) := by decide +kernel
theorem ef_61_23 (m : MethodId) (x0 : Int32) (x1 : Int32) (x2 : Int32) : entryFrame m #[(.int x0), (.int x1), (.int x2), .null] 4 = mkF m 0 #[vI (x0), vI (x1), vI (x2), .val .null] [] := by first | (simp [entryFrame, mkF, argsToLocals, Value.category]; done) | rfl
theorem r_cfs0 (l : Launch) (Z : State) (a0 : Array Value) (hw : own_HW a0 Z) (ws : List Jvm.Cond) (cs1 : Int32) (fv : Value) (h0 : Heap) (n0 : Nat) (O0 : Old Z n0 h0) (G : own_Ctx Z Z.heap cs1 fv) (o n : Nat) (ho : o ≤ n) (hn : n ≤ 4) :
    own_M l Y22_ (head1 (Jvm.Cond.code Y22_ jdk_41_method_13_code 4 (some .int) :: ws) (own_rm_ 0 0 0 0)) #[(.int (0 : Int32)), (.int o.toInt32), (.int n.toInt32), .null] Z h0 n0 (own_Q (some (.int (0 : Int32)))) (own_rm_ 0 0 0 0).cells (own_rm_ 0 0 0 0).slots := by
  have G0 := G
  refine MetFree.of_bodySF (plainFor_of_name pn_1) hisR ?_
  intro p e s m args below meth c s₁ Bd hml0 hP hK
  obtain ⟨rfl, hZ, hh⟩ := hP
  have hx := Bd.exec
  have hby := Bd.bytes
  have hml : c.maxLocals = 4 := hml0
  have hown := findClass_of_methodNamed Bd.named
  have X0 : Stand p l e (own_rm_ 0 0 0 0) s m #[(.int (0 : Int32)), (.int o.toInt32), (.int n.toInt32), .null] below meth c s₁ [] 0 0 := Stand.of_body Bd
  have e0 : s₁.heap = h0 := by rw [← hh, Bd.state]; rfl
  have N0 := Fr.nil n0
  have pre0 := own_pre (tb := p.tables) (e := e) (below := below) (T := s₁) (ef_61_23 m (0 : Int32) o.toInt32 n.toInt32)
  obtain ⟨fs, hr, hrun, hended, hW, hsame⟩ := X0.leave (v := some (.int (0 : Int32))) (fun h => by rw [Bd.returns] at h; cases h)
  refine ⟨_, _, pre0 _ ?_, hrun, hended, _, _, rfl, ?_, ⟨_, rfl⟩, hW, hsame.mono (by decide) (by decide)⟩
  · show own_St p e below s₁ m 0 #[vI ((0 : Int32)), vI (o.toInt32), vI (n.toInt32), .val .null] [] _
    refine XS.iloadN X0.here hx rfl (hb hby d61_0) rfl ?_
    refine XS.iloadN X0.here hx rfl (hb hby d61_1) rfl ?_
    show own_St p e below s₁ m 2 #[vI ((0 : Int32)), vI (o.toInt32), vI (n.toInt32), .val .null] [(.int (0 : Int32)), (.int n.toInt32)] _
    refine XS.ior X0.here hx rfl (hb hby d61_2) rfl ?_
    show own_St p e below s₁ m 3 #[vI ((0 : Int32)), vI (o.toInt32), vI (n.toInt32), .val .null] [(.int (n.toInt32 ||| (0 : Int32)))] _
    refine XS.iloadN X0.here hx rfl (hb hby d61_3) rfl ?_
    show own_St p e below s₁ m 4 #[vI ((0 : Int32)), vI (o.toInt32), vI (n.toInt32), .val .null] [(.int o.toInt32), (.int (n.toInt32 ||| (0 : Int32)))] _
    refine XS.ior X0.here hx rfl (hb hby d61_4) rfl ?_
    show own_St p e below s₁ m 5 #[vI ((0 : Int32)), vI (o.toInt32), vI (n.toInt32), .val .null] [(.int ((n.toInt32 ||| (0 : Int32)) ||| o.toInt32))] _
    refine XS.ifNo X0.here hx rfl (hb hby d61_5) rfl ((if0 _ _).trans (flt ((own_cfs2 ho hn).1 : ¬ (((n.toInt32 ||| (0 : Int32)) ||| o.toInt32) < (0 : Int32)))).1) ?_
    refine XS.iloadN X0.here hx rfl (hb hby d61_8) rfl ?_
    refine XS.iloadN X0.here hx rfl (hb hby d61_9) rfl ?_
    refine XS.iloadN X0.here hx rfl (hb hby d61_10) rfl ?_
    refine XS.isub X0.here hx rfl (hb hby d61_11) rfl ?_
    refine XS.icmpYes X0.here hx rfl (pc0 := 12) (pc' := 23) rfl (hb hby d61_12) rfl (flt ((own_cfs2 ho hn).2 : ¬ ((n.toInt32 - (0 : Int32)) < o.toInt32))).2.2.2 (by decide) (by decide) ?_
    refine XS.iloadN X0.here hx rfl (hb hby d61_23) rfl ?_
    show own_St p e below s₁ m 24 #[vI ((0 : Int32)), vI (o.toInt32), vI (n.toInt32), .val .null] [(.int (0 : Int32))] _
    exact retI X0 hx Bd.returns (hb hby d61_24) hr
  · show own_Q (some (.int (0 : Int32))) h0 n0 _ s₁.heap _
    rw [e0]
    exact ⟨rfl, N0, rfl⟩
theorem ef_61_24 (m : MethodId) (x0 : Int32) (x1 : Int32) (x2 : Int32) (x3 : Addr) : entryFrame m #[(.int x0), (.int x1), (.int x2), (.ref x3)] 4 = mkF m 0 #[vI (x0), vI (x1), vI (x2), vR (x3)] [] := by first | (simp [entryFrame, mkF, argsToLocals, Value.category]; done) | rfl
theorem r_cfs1 (l : Launch) (Z : State) (a0 : Array Value) (hw : own_HW a0 Z) (ws : List Jvm.Cond) (cs1 : Int32) (fv : Value) (h0 : Heap) (n0 : Nat) (O0 : Old Z n0 h0) (G : own_Ctx Z Z.heap cs1 fv) (o n : Nat) (fa : Addr) (ho : o ≤ n) (hn : n ≤ 4) :
    own_M l Y22_ (head1 (Jvm.Cond.code Y22_ jdk_41_method_13_code 4 (some .int) :: ws) (own_rm_ 0 0 0 0)) #[(.int (0 : Int32)), (.int o.toInt32), (.int n.toInt32), (.ref fa)] Z h0 n0 (own_Q (some (.int (0 : Int32)))) (own_rm_ 0 0 0 0).cells (own_rm_ 0 0 0 0).slots := by
  have G0 := G
  refine MetFree.of_bodySF (plainFor_of_name pn_1) hisR ?_
  intro p e s m args below meth c s₁ Bd hml0 hP hK
  obtain ⟨rfl, hZ, hh⟩ := hP
  have hx := Bd.exec
  have hby := Bd.bytes
  have hml : c.maxLocals = 4 := hml0
  have hown := findClass_of_methodNamed Bd.named
  have X0 : Stand p l e (own_rm_ 0 0 0 0) s m #[(.int (0 : Int32)), (.int o.toInt32), (.int n.toInt32), (.ref fa)] below meth c s₁ [] 0 0 := Stand.of_body Bd
  have e0 : s₁.heap = h0 := by rw [← hh, Bd.state]; rfl
  have N0 := Fr.nil n0
  have pre0 := own_pre (tb := p.tables) (e := e) (below := below) (T := s₁) (ef_61_24 m (0 : Int32) o.toInt32 n.toInt32 fa)
  obtain ⟨fs, hr, hrun, hended, hW, hsame⟩ := X0.leave (v := some (.int (0 : Int32))) (fun h => by rw [Bd.returns] at h; cases h)
  refine ⟨_, _, pre0 _ ?_, hrun, hended, _, _, rfl, ?_, ⟨_, rfl⟩, hW, hsame.mono (by decide) (by decide)⟩
  · show own_St p e below s₁ m 0 #[vI ((0 : Int32)), vI (o.toInt32), vI (n.toInt32), vR (fa)] [] _
    refine XS.iloadN X0.here hx rfl (hb hby d61_0) rfl ?_
    refine XS.iloadN X0.here hx rfl (hb hby d61_1) rfl ?_
    show own_St p e below s₁ m 2 #[vI ((0 : Int32)), vI (o.toInt32), vI (n.toInt32), vR (fa)] [(.int (0 : Int32)), (.int n.toInt32)] _
    refine XS.ior X0.here hx rfl (hb hby d61_2) rfl ?_
    show own_St p e below s₁ m 3 #[vI ((0 : Int32)), vI (o.toInt32), vI (n.toInt32), vR (fa)] [(.int (n.toInt32 ||| (0 : Int32)))] _
    refine XS.iloadN X0.here hx rfl (hb hby d61_3) rfl ?_
    show own_St p e below s₁ m 4 #[vI ((0 : Int32)), vI (o.toInt32), vI (n.toInt32), vR (fa)] [(.int o.toInt32), (.int (n.toInt32 ||| (0 : Int32)))] _
    refine XS.ior X0.here hx rfl (hb hby d61_4) rfl ?_
    show own_St p e below s₁ m 5 #[vI ((0 : Int32)), vI (o.toInt32), vI (n.toInt32), vR (fa)] [(.int ((n.toInt32 ||| (0 : Int32)) ||| o.toInt32))] _
    refine XS.ifNo X0.here hx rfl (hb hby d61_5) rfl ((if0 _ _).trans (flt ((own_cfs2 ho hn).1 : ¬ (((n.toInt32 ||| (0 : Int32)) ||| o.toInt32) < (0 : Int32)))).1) ?_
    refine XS.iloadN X0.here hx rfl (hb hby d61_8) rfl ?_
    refine XS.iloadN X0.here hx rfl (hb hby d61_9) rfl ?_
    refine XS.iloadN X0.here hx rfl (hb hby d61_10) rfl ?_
    refine XS.isub X0.here hx rfl (hb hby d61_11) rfl ?_
    refine XS.icmpYes X0.here hx rfl (pc0 := 12) (pc' := 23) rfl (hb hby d61_12) rfl (flt ((own_cfs2 ho hn).2 : ¬ ((n.toInt32 - (0 : Int32)) < o.toInt32))).2.2.2 (by decide) (by decide) ?_
    refine XS.iloadN X0.here hx rfl (hb hby d61_23) rfl ?_
    show own_St p e below s₁ m 24 #[vI ((0 : Int32)), vI (o.toInt32), vI (n.toInt32), vR (fa)] [(.int (0 : Int32))] _
    exact retI X0 hx Bd.returns (hb hby d61_24) hr
  · show own_Q (some (.int (0 : Int32))) h0 n0 _ s₁.heap _
    rw [e0]
    exact ⟨rfl, N0, rfl⟩
theorem r_cfs (l : Launch) (Z : State) (a0 : Array Value) (hw : own_HW a0 Z) (ws : List Jvm.Cond) (cs1 : Int32) (fv : Value) (h0 : Heap) (n0 : Nat) (O0 : Old Z n0 h0) (G : own_Ctx Z Z.heap cs1 fv) (o n : Nat) (fv_ : Value) (hfv : fv_.isRef = true) (ho : o ≤ n) (hn : n ≤ 4) :
    own_M l Y22_ (head1 (Jvm.Cond.code Y22_ jdk_41_method_13_code 4 (some .int) :: ws) (own_rm_ 0 0 0 0)) #[(.int (0 : Int32)), (.int o.toInt32), (.int n.toInt32), fv_] Z h0 n0 (own_Q (some (.int (0 : Int32)))) (own_rm_ 0 0 0 0).cells (own_rm_ 0 0 0 0).slots := by
  rcases ref_cases hfv with rfl | ⟨fa, rfl⟩
  · exact r_cfs0 l Z a0 hw ws cs1 fv h0 n0 O0 G o n ho hn
  · exact r_cfs1 l Z a0 hw ws cs1 fv h0 n0 O0 G o n fa ho hn
theorem d60_0 : D60_ 0 = .ok (.iload_n 0, 1) := by decide +kernel
theorem d60_1 : D60_ 1 = .ok (.iload_n 1, 1) := by decide +kernel
theorem d60_2 : D60_ 2 = .ok (.iload_n 2, 1) := by decide +kernel
theorem d60_3 : D60_ 3 = .ok (.getstatic 1053, 3) := by decide +kernel
theorem d60_6 : D60_ 6 = .ok (.invokestatic 1065, 3) := by decide +kernel
theorem pd_14 : parseMethodDescriptor "(IIILjava/util/function/BiFunction;)I" = some ⟨[.int, .int, .int, (.object "java/util/function/BiFunction")], some .int⟩ := by decide +kernel
theorem d60_9 : D60_ 9 = .ok (.ireturn, 1) := by decide +kernel
theorem ef_60_25 (m : MethodId) (x0 : Int32) (x1 : Int32) (x2 : Int32) : entryFrame m #[(.int x0), (.int x1), (.int x2)] 3 = mkF m 0 #[vI (x0), vI (x1), vI (x2)] [] := by first | (simp [entryFrame, mkF, argsToLocals, Value.category]; done) | rfl
theorem r_cbs (l : Launch) (Z : State) (a0 : Array Value) (hw : own_HW a0 Z) (ws : List Jvm.Cond) (cs1 : Int32) (fv : Value) (h0 : Heap) (n0 : Nat) (O0 : Old Z n0 h0) (G : own_Ctx Z Z.heap cs1 fv) (o n : Nat) (ho : o ≤ n) (hn : n ≤ 4) :
    own_M l Y23_ (head1 (Jvm.Cond.code Y23_ jdk_42_method_157_code 3 (some .int) :: ws) (own_rm_ 1 0 0 15)) #[(.int (0 : Int32)), (.int o.toInt32), (.int n.toInt32)] Z h0 n0 (own_Q (some (.int (0 : Int32)))) (own_rm_ 1 0 0 15).cells (own_rm_ 1 0 0 15).slots := by
  have G0 := G
  obtain ⟨S_CS, N_CS, S_F, R_F, S_AD, S_HI, S_LO⟩ := G
  refine MetFree.of_bodySF (plainFor_of_name pn_2) hisR ?_
  intro p e s m args below meth c s₁ Bd hml0 hP hK
  obtain ⟨rfl, hZ, hh⟩ := hP
  have hx := Bd.exec
  have hby := Bd.bytes
  have hml : c.maxLocals = 3 := hml0
  have hown := findClass_of_methodNamed Bd.named
  have X0 : Stand p l e (own_rm_ 1 0 0 15) s m #[(.int (0 : Int32)), (.int o.toInt32), (.int n.toInt32)] below meth c s₁ [] 0 0 := Stand.of_body Bd
  have e0 : s₁.heap = h0 := by rw [← hh, Bd.state]; rfl
  have N0 := Fr.nil n0
  have pre0 := own_pre (tb := p.tables) (e := e) (below := below) (T := s₁) (ef_60_25 m (0 : Int32) o.toInt32 n.toInt32)
  obtain ⟨T1, X1, e1, st1⟩ := getS2 X0 hx hZ hown (host := "") (Or.inl (own_w hw 124 rfl)) Via.refl e0 (S_F.ext O0.2) (g := (mkF m 3 #[vI ((0 : Int32)), vI (o.toInt32), vI (n.toInt32)] [(.int n.toInt32), (.int o.toInt32), (.int (0 : Int32))])) rfl (hb hby d60_3)
  obtain ⟨_, _, ⟨T2, L2, k2, n2⟩, -, X2, ⟨Lc2, hQ2, l2, y2, z2⟩, st2⟩ := Jvm.LawKit.callS X1 hx (y := Y22_) hown (mvT hZ (own_w hw 265 rfl)) (mvT hZ (own_w hw 266 rfl)) (mvT hZ (own_w hw 125 rfl)) (mvT hZ (own_w hw 267 rfl)) (by decide) (backOf (W := 0) (r_cfs l Z a0 hw [] cs1 fv h0 n0 O0 G0 o n fv R_F ho hn) hZ (own_w hw 267 rfl) (own_w hw 125 rfl) (by decide) (by decide)) (g := (mkF m 6 #[vI ((0 : Int32)), vI (o.toInt32), vI (n.toInt32)] [fv, (.int n.toInt32), (.int o.toInt32), (.int (0 : Int32))])) rfl (by rw [hml]; rfl) (argsL := [(.int (0 : Int32)), (.int o.toInt32), (.int n.toInt32), fv]) (rest := []) (lenOf pd_14 rfl) rfl (by show 2 * 0 + _ ≤ _; exact Nat.le_of_eq rfl) (hb hby d60_6) (fun _ _ => ⟨rfl, e1, (by decide : 0 + 0 ≤ _), (by decide : 0 + 0 ≤ _)⟩)
  dsimp only [Pt.U, Pt.locs, Pt.cells, Pt.slots] at X2 l2 y2 z2 st2 hQ2
  subst l2 y2 z2
  obtain ⟨rfl, N2q, e2⟩ := hQ2
  have N2 := Fr.app N0 N2q
  obtain ⟨fs, hr, hrun, hended, hW, hsame⟩ := X2.leave (v := some (.int (0 : Int32))) (fun h => by rw [Bd.returns] at h; cases h)
  refine ⟨_, _, pre0 _ ?_, hrun, hended, _, _, rfl, ?_, ⟨_, rfl⟩, hW, hsame.mono (by decide) (by decide)⟩
  · show own_St p e below s₁ m 0 #[vI ((0 : Int32)), vI (o.toInt32), vI (n.toInt32)] [] _
    refine XS.iloadN X0.here hx rfl (hb hby d60_0) rfl ?_
    refine XS.iloadN X0.here hx rfl (hb hby d60_1) rfl ?_
    refine XS.iloadN X0.here hx rfl (hb hby d60_2) rfl ?_
    show own_St p e below s₁ m 3 #[vI ((0 : Int32)), vI (o.toInt32), vI (n.toInt32)] [(.int n.toInt32), (.int o.toInt32), (.int (0 : Int32))] _
    refine st1 _ ?_
    show own_St p e below T1 m 6 #[vI ((0 : Int32)), vI (o.toInt32), vI (n.toInt32)] [fv, (.int n.toInt32), (.int o.toInt32), (.int (0 : Int32))] _
    refine st2 _ ?_
    show own_St p e below T2 m 9 #[vI ((0 : Int32)), vI (o.toInt32), vI (n.toInt32)] [(.int (0 : Int32))] _
    exact retI X2 hx Bd.returns (hb hby d60_9) hr
  · show own_Q (some (.int (0 : Int32))) h0 n0 _ T2.heap _
    rw [e2]
    exact ⟨rfl, N2, rfl⟩
theorem d59_0 : D59_ 0 = .ok (.iload_n 0, 1) := by decide +kernel
theorem d59_1 : D59_ 1 = .ok (.iload_n 1, 1) := by decide +kernel
theorem d59_2 : D59_ 2 = .ok (.aload_n 2, 1) := by decide +kernel
theorem d59_3 : D59_ 3 = .ok (.invokestatic 48, 3) := by decide +kernel
theorem d59_6 : D59_ 6 = .ok (.invokestatic 419, 3) := by decide +kernel
theorem pd_15 : parseMethodDescriptor "(III)I" = some ⟨[.int, .int, .int], some .int⟩ := by decide +kernel
theorem d59_9 : D59_ 9 = .ok (.pop, 1) := by decide +kernel
theorem d59_10 : D59_ 10 = .ok (.return_, 1) := by decide +kernel
theorem ef_59_26 (m : MethodId) (x0 : Int32) (x1 : Int32) (x2 : Addr) : entryFrame m #[(.int x0), (.int x1), (.ref x2)] 3 = mkF m 0 #[vI (x0), vI (x1), vR (x2)] [] := by first | (simp [entryFrame, mkF, argsToLocals, Value.category]; done) | rfl
theorem r_cbu (l : Launch) (Z : State) (a0 : Array Value) (hw : own_HW a0 Z) (ws : List Jvm.Cond) (cs1 : Int32) (fv : Value) (h0 : Heap) (n0 : Nat) (O0 : Old Z n0 h0) (G : own_Ctx Z Z.heap cs1 fv) (a2 : Addr) (k2 : ClassId) (vs : List Value) (o n : Nat) (Va : Arv Z h0 a2 k2 .byte (2 * n).toInt32 vs (.int (0 : Int32))) (ho : o ≤ n) (hn : n ≤ 4) :
    own_M l Y24_ (head1 (Jvm.Cond.code Y24_ jdk_52_method_94_code 3 none :: ws) (own_rm_ 2 0 0 29)) #[(.int (0 : Int32)), (.int o.toInt32), (.ref a2)] Z h0 n0 (own_Q (none)) (own_rm_ 2 0 0 29).cells (own_rm_ 2 0 0 29).slots := by
  have G0 := G
  refine MetFree.of_bodySF (plainFor_of_name pn_0) hisR ?_
  intro p e s m args below meth c s₁ Bd hml0 hP hK
  obtain ⟨rfl, hZ, hh⟩ := hP
  have hx := Bd.exec
  have hby := Bd.bytes
  have hml : c.maxLocals = 3 := hml0
  have hown := findClass_of_methodNamed Bd.named
  have X0 : Stand p l e (own_rm_ 2 0 0 29) s m #[(.int (0 : Int32)), (.int o.toInt32), (.ref a2)] below meth c s₁ [] 0 0 := Stand.of_body Bd
  have e0 : s₁.heap = h0 := by rw [← hh, Bd.state]; rfl
  have N0 := Fr.nil n0
  have pre0 := own_pre (tb := p.tables) (e := e) (below := below) (T := s₁) (ef_59_26 m (0 : Int32) o.toInt32 a2)
  obtain ⟨_, _, ⟨T1, L1, k1, n1⟩, -, X1, ⟨Lc1, hQ1, l1, y1, z1⟩, st1⟩ := Jvm.LawKit.callS X0 hx (y := Y8_) hown (mvT hZ (own_w hw 209 rfl)) (mvT hZ (own_w hw 210 rfl)) (mvT hZ (own_w hw 77 rfl)) (mvT hZ (own_w hw 211 rfl)) (by decide) (backOf (W := 2) (r_ul l Z a0 hw [] cs1 fv h0 n0 O0 G0 a2 k2 n vs Va hn) hZ (own_w hw 211 rfl) (own_w hw 77 rfl) (by decide) (by decide)) (g := (mkF m 3 #[vI ((0 : Int32)), vI (o.toInt32), vR (a2)] [(.ref a2), (.int o.toInt32), (.int (0 : Int32))])) rfl (by rw [hml]; rfl) (argsL := [(.ref a2)]) (rest := [(.int o.toInt32), (.int (0 : Int32))]) (lenOf pd_4 rfl) rfl (by show 2 * 0 + _ ≤ _; exact Nat.le_of_eq rfl) (hb hby d59_3) (fun _ _ => ⟨rfl, e0, (by decide : 0 + 0 ≤ _), (by decide : 0 + 0 ≤ _)⟩)
  dsimp only [Pt.U, Pt.locs, Pt.cells, Pt.slots] at X1 l1 y1 z1 st1 hQ1
  subst l1 y1 z1
  obtain ⟨rfl, N1q, e1⟩ := hQ1
  have N1 := Fr.app N0 N1q
  obtain ⟨_, _, ⟨T2, L2, k2, n2⟩, -, X2, ⟨Lc2, hQ2, l2, y2, z2⟩, st2⟩ := Jvm.LawKit.callS X1 hx (y := Y23_) hown (mvT hZ (own_w hw 262 rfl)) (mvT hZ (own_w hw 263 rfl)) (mvT hZ (own_w hw 8 rfl)) (mvT hZ (own_w hw 264 rfl)) (by decide) (backOf (W := 0) (r_cbs l Z a0 hw [] cs1 fv h0 n0 O0 G0 o n ho hn) hZ (own_w hw 264 rfl) (own_w hw 8 rfl) (by decide) (by decide)) (g := (mkF m 6 #[vI ((0 : Int32)), vI (o.toInt32), vR (a2)] [(.int n.toInt32), (.int o.toInt32), (.int (0 : Int32))])) rfl (by rw [hml]; rfl) (argsL := [(.int (0 : Int32)), (.int o.toInt32), (.int n.toInt32)]) (rest := []) (lenOf pd_15 rfl) rfl (by show 2 * 0 + _ ≤ _; exact Nat.le_of_eq rfl) (hb hby d59_6) (fun _ _ => ⟨rfl, e1, (by decide : 0 + 0 ≤ _), (by decide : 0 + 0 ≤ _)⟩)
  dsimp only [Pt.U, Pt.locs, Pt.cells, Pt.slots] at X2 l2 y2 z2 st2 hQ2
  subst l2 y2 z2
  obtain ⟨rfl, N2q, e2⟩ := hQ2
  have N2 := Fr.app N1 N2q
  obtain ⟨fs, hr, hrun, hended, hW, hsame⟩ := X2.leave (v := none) (fun _ => rfl)
  refine ⟨_, _, pre0 _ ?_, hrun, hended, _, _, rfl, ?_, ⟨_, rfl⟩, hW, hsame.mono (by decide) (by decide)⟩
  · show own_St p e below s₁ m 0 #[vI ((0 : Int32)), vI (o.toInt32), vR (a2)] [] _
    refine XS.iloadN X0.here hx rfl (hb hby d59_0) rfl ?_
    refine XS.iloadN X0.here hx rfl (hb hby d59_1) rfl ?_
    refine XS.aloadN X0.here hx rfl (hb hby d59_2) rfl rfl ?_
    show own_St p e below s₁ m 3 #[vI ((0 : Int32)), vI (o.toInt32), vR (a2)] [(.ref a2), (.int o.toInt32), (.int (0 : Int32))] _
    refine st1 _ ?_
    show own_St p e below T1 m 6 #[vI ((0 : Int32)), vI (o.toInt32), vR (a2)] [(.int n.toInt32), (.int o.toInt32), (.int (0 : Int32))] _
    refine st2 _ ?_
    show own_St p e below T2 m 9 #[vI ((0 : Int32)), vI (o.toInt32), vR (a2)] [(.int (0 : Int32))] _
    refine XS.pop X2.here hx rfl (hb hby d59_9) rfl rfl ?_
    show own_St p e below T2 m 10 #[vI ((0 : Int32)), vI (o.toInt32), vR (a2)] [] _
    exact X2.returnOut hx Bd.returns (hb hby d59_10) hr
  · show own_Q (none) h0 n0 _ T2.heap _
    rw [e2]
    exact ⟨rfl, N2, rfl⟩
theorem d48_0 : D48_ 0 = .ok (.iload_n 0, 1) := by decide +kernel
theorem d48_1 : D48_ 1 = .ok (.ifCond .lt 13, 3) := by decide +kernel
theorem d48_4 : D48_ 4 = .ok (.iload_n 0, 1) := by decide +kernel
theorem d48_5 : D48_ 5 = .ok (.iload_n 1, 1) := by decide +kernel
theorem d48_6 : D48_ 6 = .ok (.if_icmp .gt 8, 3) := by decide +kernel
theorem d48_9 : D48_ 9 = .ok (.iload_n 1, 1) := by decide +kernel
theorem d48_10 : D48_ 10 = .ok (.iload_n 2, 1) := by decide +kernel
theorem d48_11 : D48_ 11 = .ok (.if_icmp .le 11, 3) := by decide +kernel
theorem d48_22 : D48_ 22 = .ok (.iload_n 0, 1) := by decide +kernel
theorem d48_23 : D48_ 23 = .ok (.ireturn, 1) := by decide +kernel
theorem ef_48_27 (m : MethodId) (x0 : Int32) (x1 : Int32) (x2 : Int32) : entryFrame m #[(.int x0), (.int x1), (.int x2), .null] 4 = mkF m 0 #[vI (x0), vI (x1), vI (x2), .val .null] [] := by first | (simp [entryFrame, mkF, argsToLocals, Value.category]; done) | rfl
theorem r_cft0 (l : Launch) (Z : State) (a0 : Array Value) (hw : own_HW a0 Z) (ws : List Jvm.Cond) (cs1 : Int32) (fv : Value) (h0 : Heap) (n0 : Nat) (O0 : Old Z n0 h0) (G : own_Ctx Z Z.heap cs1 fv) (n : Nat) (hn : n ≤ 4) :
    own_M l Y25_ (head1 (Jvm.Cond.code Y25_ jdk_41_method_12_code 4 (some .int) :: ws) (own_rm_ 0 0 0 0)) #[(.int (0 : Int32)), (.int n.toInt32), (.int n.toInt32), .null] Z h0 n0 (own_Q (some (.int (0 : Int32)))) (own_rm_ 0 0 0 0).cells (own_rm_ 0 0 0 0).slots := by
  have G0 := G
  refine MetFree.of_bodySF (plainFor_of_name pn_1) hisR ?_
  intro p e s m args below meth c s₁ Bd hml0 hP hK
  obtain ⟨rfl, hZ, hh⟩ := hP
  have hx := Bd.exec
  have hby := Bd.bytes
  have hml : c.maxLocals = 4 := hml0
  have hown := findClass_of_methodNamed Bd.named
  have X0 : Stand p l e (own_rm_ 0 0 0 0) s m #[(.int (0 : Int32)), (.int n.toInt32), (.int n.toInt32), .null] below meth c s₁ [] 0 0 := Stand.of_body Bd
  have e0 : s₁.heap = h0 := by rw [← hh, Bd.state]; rfl
  have N0 := Fr.nil n0
  have pre0 := own_pre (tb := p.tables) (e := e) (below := below) (T := s₁) (ef_48_27 m (0 : Int32) n.toInt32 n.toInt32)
  obtain ⟨fs, hr, hrun, hended, hW, hsame⟩ := X0.leave (v := some (.int (0 : Int32))) (fun h => by rw [Bd.returns] at h; cases h)
  refine ⟨_, _, pre0 _ ?_, hrun, hended, _, _, rfl, ?_, ⟨_, rfl⟩, hW, hsame.mono (by decide) (by decide)⟩
  · show own_St p e below s₁ m 0 #[vI ((0 : Int32)), vI (n.toInt32), vI (n.toInt32), .val .null] [] _
    refine XS.iloadN X0.here hx rfl (hb hby d48_0) rfl ?_
    refine XS.ifNo X0.here hx rfl (hb hby d48_1) rfl ((if0 _ _).trans (flt (by decide : ¬ ((0 : Int32) < (0 : Int32)))).1) ?_
    refine XS.iloadN X0.here hx rfl (hb hby d48_4) rfl ?_
    refine XS.iloadN X0.here hx rfl (hb hby d48_5) rfl ?_
    refine XS.icmpNo X0.here hx rfl (hb hby d48_6) rfl (flt ((own_ti (own_k hn)).2.1 : ¬ (n.toInt32 < (0 : Int32)))).2.2.1 ?_
    refine XS.iloadN X0.here hx rfl (hb hby d48_9) rfl ?_
    refine XS.iloadN X0.here hx rfl (hb hby d48_10) rfl ?_
    refine XS.icmpYes X0.here hx rfl (pc0 := 11) (pc' := 22) rfl (hb hby d48_11) rfl (flt (own_irr _ : ¬ (n.toInt32 < n.toInt32))).2.2.2 (by decide) (by decide) ?_
    refine XS.iloadN X0.here hx rfl (hb hby d48_22) rfl ?_
    show own_St p e below s₁ m 23 #[vI ((0 : Int32)), vI (n.toInt32), vI (n.toInt32), .val .null] [(.int (0 : Int32))] _
    exact retI X0 hx Bd.returns (hb hby d48_23) hr
  · show own_Q (some (.int (0 : Int32))) h0 n0 _ s₁.heap _
    rw [e0]
    exact ⟨rfl, N0, rfl⟩
theorem ef_48_28 (m : MethodId) (x0 : Int32) (x1 : Int32) (x2 : Int32) (x3 : Addr) : entryFrame m #[(.int x0), (.int x1), (.int x2), (.ref x3)] 4 = mkF m 0 #[vI (x0), vI (x1), vI (x2), vR (x3)] [] := by first | (simp [entryFrame, mkF, argsToLocals, Value.category]; done) | rfl
theorem r_cft1 (l : Launch) (Z : State) (a0 : Array Value) (hw : own_HW a0 Z) (ws : List Jvm.Cond) (cs1 : Int32) (fv : Value) (h0 : Heap) (n0 : Nat) (O0 : Old Z n0 h0) (G : own_Ctx Z Z.heap cs1 fv) (n : Nat) (fa : Addr) (hn : n ≤ 4) :
    own_M l Y25_ (head1 (Jvm.Cond.code Y25_ jdk_41_method_12_code 4 (some .int) :: ws) (own_rm_ 0 0 0 0)) #[(.int (0 : Int32)), (.int n.toInt32), (.int n.toInt32), (.ref fa)] Z h0 n0 (own_Q (some (.int (0 : Int32)))) (own_rm_ 0 0 0 0).cells (own_rm_ 0 0 0 0).slots := by
  have G0 := G
  refine MetFree.of_bodySF (plainFor_of_name pn_1) hisR ?_
  intro p e s m args below meth c s₁ Bd hml0 hP hK
  obtain ⟨rfl, hZ, hh⟩ := hP
  have hx := Bd.exec
  have hby := Bd.bytes
  have hml : c.maxLocals = 4 := hml0
  have hown := findClass_of_methodNamed Bd.named
  have X0 : Stand p l e (own_rm_ 0 0 0 0) s m #[(.int (0 : Int32)), (.int n.toInt32), (.int n.toInt32), (.ref fa)] below meth c s₁ [] 0 0 := Stand.of_body Bd
  have e0 : s₁.heap = h0 := by rw [← hh, Bd.state]; rfl
  have N0 := Fr.nil n0
  have pre0 := own_pre (tb := p.tables) (e := e) (below := below) (T := s₁) (ef_48_28 m (0 : Int32) n.toInt32 n.toInt32 fa)
  obtain ⟨fs, hr, hrun, hended, hW, hsame⟩ := X0.leave (v := some (.int (0 : Int32))) (fun h => by rw [Bd.returns] at h; cases h)
  refine ⟨_, _, pre0 _ ?_, hrun, hended, _, _, rfl, ?_, ⟨_, rfl⟩, hW, hsame.mono (by decide) (by decide)⟩
  · show own_St p e below s₁ m 0 #[vI ((0 : Int32)), vI (n.toInt32), vI (n.toInt32), vR (fa)] [] _
    refine XS.iloadN X0.here hx rfl (hb hby d48_0) rfl ?_
    refine XS.ifNo X0.here hx rfl (hb hby d48_1) rfl ((if0 _ _).trans (flt (by decide : ¬ ((0 : Int32) < (0 : Int32)))).1) ?_
    refine XS.iloadN X0.here hx rfl (hb hby d48_4) rfl ?_
    refine XS.iloadN X0.here hx rfl (hb hby d48_5) rfl ?_
    refine XS.icmpNo X0.here hx rfl (hb hby d48_6) rfl (flt ((own_ti (own_k hn)).2.1 : ¬ (n.toInt32 < (0 : Int32)))).2.2.1 ?_
    refine XS.iloadN X0.here hx rfl (hb hby d48_9) rfl ?_
    refine XS.iloadN X0.here hx rfl (hb hby d48_10) rfl ?_
    refine XS.icmpYes X0.here hx rfl (pc0 := 11) (pc' := 22) rfl (hb hby d48_11) rfl (flt (own_irr _ : ¬ (n.toInt32 < n.toInt32))).2.2.2 (by decide) (by decide) ?_
    refine XS.iloadN X0.here hx rfl (hb hby d48_22) rfl ?_
    show own_St p e below s₁ m 23 #[vI ((0 : Int32)), vI (n.toInt32), vI (n.toInt32), vR (fa)] [(.int (0 : Int32))] _
    exact retI X0 hx Bd.returns (hb hby d48_23) hr
  · show own_Q (some (.int (0 : Int32))) h0 n0 _ s₁.heap _
    rw [e0]
    exact ⟨rfl, N0, rfl⟩
theorem r_cft (l : Launch) (Z : State) (a0 : Array Value) (hw : own_HW a0 Z) (ws : List Jvm.Cond) (cs1 : Int32) (fv : Value) (h0 : Heap) (n0 : Nat) (O0 : Old Z n0 h0) (G : own_Ctx Z Z.heap cs1 fv) (n : Nat) (fv_ : Value) (hfv : fv_.isRef = true) (hn : n ≤ 4) :
    own_M l Y25_ (head1 (Jvm.Cond.code Y25_ jdk_41_method_12_code 4 (some .int) :: ws) (own_rm_ 0 0 0 0)) #[(.int (0 : Int32)), (.int n.toInt32), (.int n.toInt32), fv_] Z h0 n0 (own_Q (some (.int (0 : Int32)))) (own_rm_ 0 0 0 0).cells (own_rm_ 0 0 0 0).slots := by
  rcases ref_cases hfv with rfl | ⟨fa, rfl⟩
  · exact r_cft0 l Z a0 hw ws cs1 fv h0 n0 O0 G n hn
  · exact r_cft1 l Z a0 hw ws cs1 fv h0 n0 O0 G n fa hn
theorem d47_0 : D47_ 0 = .ok (.iload_n 0, 1) := by decide +kernel
theorem d47_1 : D47_ 1 = .ok (.iload_n 1, 1) := by decide +kernel
theorem d47_2 : D47_ 2 = .ok (.iload_n 2, 1) := by decide +kernel
theorem d47_3 : D47_ 3 = .ok (.getstatic 1053, 3) := by decide +kernel
theorem d47_6 : D47_ 6 = .ok (.invokestatic 1062, 3) := by decide +kernel
theorem d47_9 : D47_ 9 = .ok (.pop, 1) := by decide +kernel
theorem d47_10 : D47_ 10 = .ok (.return_, 1) := by decide +kernel
theorem ef_47_29 (m : MethodId) (x0 : Int32) (x1 : Int32) (x2 : Int32) : entryFrame m #[(.int x0), (.int x1), (.int x2)] 3 = mkF m 0 #[vI (x0), vI (x1), vI (x2)] [] := by first | (simp [entryFrame, mkF, argsToLocals, Value.category]; done) | rfl
theorem r_cbe (l : Launch) (Z : State) (a0 : Array Value) (hw : own_HW a0 Z) (ws : List Jvm.Cond) (cs1 : Int32) (fv : Value) (h0 : Heap) (n0 : Nat) (O0 : Old Z n0 h0) (G : own_Ctx Z Z.heap cs1 fv) (n : Nat) (hn : n ≤ 4) :
    own_M l Y26_ (head1 (Jvm.Cond.code Y26_ jdk_42_method_158_code 3 none :: ws) (own_rm_ 1 0 0 15)) #[(.int (0 : Int32)), (.int n.toInt32), (.int n.toInt32)] Z h0 n0 (own_Q (none)) (own_rm_ 1 0 0 15).cells (own_rm_ 1 0 0 15).slots := by
  have G0 := G
  obtain ⟨S_CS, N_CS, S_F, R_F, S_AD, S_HI, S_LO⟩ := G
  refine MetFree.of_bodySF (plainFor_of_name pn_2) hisR ?_
  intro p e s m args below meth c s₁ Bd hml0 hP hK
  obtain ⟨rfl, hZ, hh⟩ := hP
  have hx := Bd.exec
  have hby := Bd.bytes
  have hml : c.maxLocals = 3 := hml0
  have hown := findClass_of_methodNamed Bd.named
  have X0 : Stand p l e (own_rm_ 1 0 0 15) s m #[(.int (0 : Int32)), (.int n.toInt32), (.int n.toInt32)] below meth c s₁ [] 0 0 := Stand.of_body Bd
  have e0 : s₁.heap = h0 := by rw [← hh, Bd.state]; rfl
  have N0 := Fr.nil n0
  have pre0 := own_pre (tb := p.tables) (e := e) (below := below) (T := s₁) (ef_47_29 m (0 : Int32) n.toInt32 n.toInt32)
  obtain ⟨T1, X1, e1, st1⟩ := getS2 X0 hx hZ hown (host := "") (Or.inl (own_w hw 124 rfl)) Via.refl e0 (S_F.ext O0.2) (g := (mkF m 3 #[vI ((0 : Int32)), vI (n.toInt32), vI (n.toInt32)] [(.int n.toInt32), (.int n.toInt32), (.int (0 : Int32))])) rfl (hb hby d47_3)
  obtain ⟨_, _, ⟨T2, L2, k2, n2⟩, -, X2, ⟨Lc2, hQ2, l2, y2, z2⟩, st2⟩ := Jvm.LawKit.callS X1 hx (y := Y25_) hown (mvT hZ (own_w hw 215 rfl)) (mvT hZ (own_w hw 216 rfl)) (mvT hZ (own_w hw 125 rfl)) (mvT hZ (own_w hw 217 rfl)) (by decide) (backOf (W := 0) (r_cft l Z a0 hw [] cs1 fv h0 n0 O0 G0 n fv R_F hn) hZ (own_w hw 217 rfl) (own_w hw 125 rfl) (by decide) (by decide)) (g := (mkF m 6 #[vI ((0 : Int32)), vI (n.toInt32), vI (n.toInt32)] [fv, (.int n.toInt32), (.int n.toInt32), (.int (0 : Int32))])) rfl (by rw [hml]; rfl) (argsL := [(.int (0 : Int32)), (.int n.toInt32), (.int n.toInt32), fv]) (rest := []) (lenOf pd_14 rfl) rfl (by show 2 * 0 + _ ≤ _; exact Nat.le_of_eq rfl) (hb hby d47_6) (fun _ _ => ⟨rfl, e1, (by decide : 0 + 0 ≤ _), (by decide : 0 + 0 ≤ _)⟩)
  dsimp only [Pt.U, Pt.locs, Pt.cells, Pt.slots] at X2 l2 y2 z2 st2 hQ2
  subst l2 y2 z2
  obtain ⟨rfl, N2q, e2⟩ := hQ2
  have N2 := Fr.app N0 N2q
  obtain ⟨fs, hr, hrun, hended, hW, hsame⟩ := X2.leave (v := none) (fun _ => rfl)
  refine ⟨_, _, pre0 _ ?_, hrun, hended, _, _, rfl, ?_, ⟨_, rfl⟩, hW, hsame.mono (by decide) (by decide)⟩
  · show own_St p e below s₁ m 0 #[vI ((0 : Int32)), vI (n.toInt32), vI (n.toInt32)] [] _
    refine XS.iloadN X0.here hx rfl (hb hby d47_0) rfl ?_
    refine XS.iloadN X0.here hx rfl (hb hby d47_1) rfl ?_
    refine XS.iloadN X0.here hx rfl (hb hby d47_2) rfl ?_
    show own_St p e below s₁ m 3 #[vI ((0 : Int32)), vI (n.toInt32), vI (n.toInt32)] [(.int n.toInt32), (.int n.toInt32), (.int (0 : Int32))] _
    refine st1 _ ?_
    show own_St p e below T1 m 6 #[vI ((0 : Int32)), vI (n.toInt32), vI (n.toInt32)] [fv, (.int n.toInt32), (.int n.toInt32), (.int (0 : Int32))] _
    refine st2 _ ?_
    show own_St p e below T2 m 9 #[vI ((0 : Int32)), vI (n.toInt32), vI (n.toInt32)] [(.int (0 : Int32))] _
    refine XS.pop X2.here hx rfl (hb hby d47_9) rfl rfl ?_
    show own_St p e below T2 m 10 #[vI ((0 : Int32)), vI (n.toInt32), vI (n.toInt32)] [] _
    exact X2.returnOut hx Bd.returns (hb hby d47_10) hr
  · show own_Q (none) h0 n0 _ T2.heap _
    rw [e2]
    exact ⟨rfl, N2, rfl⟩
theorem d45_0 : D45_ 0 = .ok (.iload_n 0, 1) := by decide +kernel
theorem d45_1 : D45_ 1 = .ok (.iload_n 1, 1) := by decide +kernel
theorem d45_2 : D45_ 2 = .ok (.aload_n 2, 1) := by decide +kernel
theorem d45_3 : D45_ 3 = .ok (.invokestatic 48, 3) := by decide +kernel
theorem d45_6 : D45_ 6 = .ok (.invokestatic 241, 3) := by decide +kernel
theorem pd_16 : parseMethodDescriptor "(III)V" = some ⟨[.int, .int, .int], none⟩ := by decide +kernel
theorem d45_9 : D45_ 9 = .ok (.return_, 1) := by decide +kernel
theorem ef_45_30 (m : MethodId) (x0 : Int32) (x1 : Int32) (x2 : Addr) : entryFrame m #[(.int x0), (.int x1), (.ref x2)] 3 = mkF m 0 #[vI (x0), vI (x1), vR (x2)] [] := by first | (simp [entryFrame, mkF, argsToLocals, Value.category]; done) | rfl
theorem r_cbb (l : Launch) (Z : State) (a0 : Array Value) (hw : own_HW a0 Z) (ws : List Jvm.Cond) (cs1 : Int32) (fv : Value) (h0 : Heap) (n0 : Nat) (O0 : Old Z n0 h0) (G : own_Ctx Z Z.heap cs1 fv) (a2 : Addr) (k2 : ClassId) (vs : List Value) (n : Nat) (Va : Arv Z h0 a2 k2 .byte (2 * n).toInt32 vs (.int (0 : Int32))) (hn : n ≤ 4) :
    own_M l Y27_ (head1 (Jvm.Cond.code Y27_ jdk_52_method_93_code 3 none :: ws) (own_rm_ 2 0 0 29)) #[(.int (0 : Int32)), (.int n.toInt32), (.ref a2)] Z h0 n0 (own_Q (none)) (own_rm_ 2 0 0 29).cells (own_rm_ 2 0 0 29).slots := by
  have G0 := G
  refine MetFree.of_bodySF (plainFor_of_name pn_0) hisR ?_
  intro p e s m args below meth c s₁ Bd hml0 hP hK
  obtain ⟨rfl, hZ, hh⟩ := hP
  have hx := Bd.exec
  have hby := Bd.bytes
  have hml : c.maxLocals = 3 := hml0
  have hown := findClass_of_methodNamed Bd.named
  have X0 : Stand p l e (own_rm_ 2 0 0 29) s m #[(.int (0 : Int32)), (.int n.toInt32), (.ref a2)] below meth c s₁ [] 0 0 := Stand.of_body Bd
  have e0 : s₁.heap = h0 := by rw [← hh, Bd.state]; rfl
  have N0 := Fr.nil n0
  have pre0 := own_pre (tb := p.tables) (e := e) (below := below) (T := s₁) (ef_45_30 m (0 : Int32) n.toInt32 a2)
  obtain ⟨_, _, ⟨T1, L1, k1, n1⟩, -, X1, ⟨Lc1, hQ1, l1, y1, z1⟩, st1⟩ := Jvm.LawKit.callS X0 hx (y := Y8_) hown (mvT hZ (own_w hw 209 rfl)) (mvT hZ (own_w hw 210 rfl)) (mvT hZ (own_w hw 77 rfl)) (mvT hZ (own_w hw 211 rfl)) (by decide) (backOf (W := 2) (r_ul l Z a0 hw [] cs1 fv h0 n0 O0 G0 a2 k2 n vs Va hn) hZ (own_w hw 211 rfl) (own_w hw 77 rfl) (by decide) (by decide)) (g := (mkF m 3 #[vI ((0 : Int32)), vI (n.toInt32), vR (a2)] [(.ref a2), (.int n.toInt32), (.int (0 : Int32))])) rfl (by rw [hml]; rfl) (argsL := [(.ref a2)]) (rest := [(.int n.toInt32), (.int (0 : Int32))]) (lenOf pd_4 rfl) rfl (by show 2 * 0 + _ ≤ _; exact Nat.le_of_eq rfl) (hb hby d45_3) (fun _ _ => ⟨rfl, e0, (by decide : 0 + 0 ≤ _), (by decide : 0 + 0 ≤ _)⟩)
  dsimp only [Pt.U, Pt.locs, Pt.cells, Pt.slots] at X1 l1 y1 z1 st1 hQ1
  subst l1 y1 z1
  obtain ⟨rfl, N1q, e1⟩ := hQ1
  have N1 := Fr.app N0 N1q
  obtain ⟨_, _, ⟨T2, L2, k2, n2⟩, -, X2, ⟨Lc2, hQ2, l2, y2, z2⟩, st2⟩ := Jvm.LawKit.callS X1 hx (y := Y26_) hown (mvT hZ (own_w hw 212 rfl)) (mvT hZ (own_w hw 213 rfl)) (mvT hZ (own_w hw 8 rfl)) (mvT hZ (own_w hw 214 rfl)) (by decide) (backOf (W := 0) (r_cbe l Z a0 hw [] cs1 fv h0 n0 O0 G0 n hn) hZ (own_w hw 214 rfl) (own_w hw 8 rfl) (by decide) (by decide)) (g := (mkF m 6 #[vI ((0 : Int32)), vI (n.toInt32), vR (a2)] [(.int n.toInt32), (.int n.toInt32), (.int (0 : Int32))])) rfl (by rw [hml]; rfl) (argsL := [(.int (0 : Int32)), (.int n.toInt32), (.int n.toInt32)]) (rest := []) (lenOf pd_16 rfl) rfl (by show 2 * 0 + _ ≤ _; exact Nat.le_of_eq rfl) (hb hby d45_6) (fun _ _ => ⟨rfl, e1, (by decide : 0 + 0 ≤ _), (by decide : 0 + 0 ≤ _)⟩)
  dsimp only [Pt.U, Pt.locs, Pt.cells, Pt.slots] at X2 l2 y2 z2 st2 hQ2
  subst l2 y2 z2
  obtain ⟨rfl, N2q, e2⟩ := hQ2
  have N2 := Fr.app N1 N2q
  obtain ⟨fs, hr, hrun, hended, hW, hsame⟩ := X2.leave (v := none) (fun _ => rfl)
  refine ⟨_, _, pre0 _ ?_, hrun, hended, _, _, rfl, ?_, ⟨_, rfl⟩, hW, hsame.mono (by decide) (by decide)⟩
  · show own_St p e below s₁ m 0 #[vI ((0 : Int32)), vI (n.toInt32), vR (a2)] [] _
    refine XS.iloadN X0.here hx rfl (hb hby d45_0) rfl ?_
    refine XS.iloadN X0.here hx rfl (hb hby d45_1) rfl ?_
    refine XS.aloadN X0.here hx rfl (hb hby d45_2) rfl rfl ?_
    show own_St p e below s₁ m 3 #[vI ((0 : Int32)), vI (n.toInt32), vR (a2)] [(.ref a2), (.int n.toInt32), (.int (0 : Int32))] _
    refine st1 _ ?_
    show own_St p e below T1 m 6 #[vI ((0 : Int32)), vI (n.toInt32), vR (a2)] [(.int n.toInt32), (.int n.toInt32), (.int (0 : Int32))] _
    refine st2 _ ?_
    show own_St p e below T2 m 9 #[vI ((0 : Int32)), vI (n.toInt32), vR (a2)] [] _
    exact X2.returnOut hx Bd.returns (hb hby d45_9) hr
  · show own_Q (none) h0 n0 _ T2.heap _
    rw [e2]
    exact ⟨rfl, N2, rfl⟩
theorem r_uci2 (l : Launch) (Z : State) (a0 : Array Value) (hw : own_HW a0 Z) (ws : List Jvm.Cond) (cs1 : Int32) (fv : Value) (h0 : Heap) (n0 : Nat) (O0 : Old Z n0 h0) (G : own_Ctx Z Z.heap cs1 fv) (a2 : Addr) (k2 : ClassId) (vs : List Value) (i n : Nat) (Va : Arv Z h0 a2 k2 .byte (2 * n).toInt32 vs (.int (0 : Int32))) (hi : i < n) (hn : n ≤ 4) :
    own_M l Y9_ (head1 (Jvm.Cond.code Y9_ jdk_52_method_91_code 2 none :: ws) (own_rm_ 2 0 0 27)) #[(.int i.toInt32), (.ref a2)] Z h0 n0 (own_Q (none)) (own_rm_ 2 0 0 27).cells (own_rm_ 2 0 0 27).slots := by
  have G0 := G
  refine MetFree.of_bodySF (plainFor_of_name pn_0) hisR ?_
  intro p e s m args below meth c s₁ Bd hml0 hP hK
  obtain ⟨rfl, hZ, hh⟩ := hP
  have hx := Bd.exec
  have hby := Bd.bytes
  have hml : c.maxLocals = 2 := hml0
  have hown := findClass_of_methodNamed Bd.named
  have X0 : Stand p l e (own_rm_ 2 0 0 27) s m #[(.int i.toInt32), (.ref a2)] below meth c s₁ [] 0 0 := Stand.of_body Bd
  have e0 : s₁.heap = h0 := by rw [← hh, Bd.state]; rfl
  have N0 := Fr.nil n0
  have pre0 := own_pre (tb := p.tables) (e := e) (below := below) (T := s₁) (ef_51_10 m i.toInt32 a2)
  obtain ⟨_, _, ⟨T1, L1, k1, n1⟩, -, X1, ⟨Lc1, hQ1, l1, y1, z1⟩, st1⟩ := Jvm.LawKit.callS X0 hx (y := Y8_) hown (mvT hZ (own_w hw 209 rfl)) (mvT hZ (own_w hw 210 rfl)) (mvT hZ (own_w hw 77 rfl)) (mvT hZ (own_w hw 211 rfl)) (by decide) (backOf (W := 1) (r_ul l Z a0 hw [] cs1 fv h0 n0 O0 G0 a2 k2 n vs Va hn) hZ (own_w hw 211 rfl) (own_w hw 77 rfl) (by decide) (by decide)) (g := (mkF m 2 #[vI (i.toInt32), vR (a2)] [(.ref a2), (.int i.toInt32)])) rfl (by rw [hml]; rfl) (argsL := [(.ref a2)]) (rest := [(.int i.toInt32)]) (lenOf pd_4 rfl) rfl (by show 2 * 0 + _ ≤ _; exact Nat.le_of_eq rfl) (hb hby d51_2) (fun _ _ => ⟨rfl, e0, (by decide : 0 + 0 ≤ _), (by decide : 0 + 0 ≤ _)⟩)
  dsimp only [Pt.U, Pt.locs, Pt.cells, Pt.slots] at X1 l1 y1 z1 st1 hQ1
  subst l1 y1 z1
  obtain ⟨rfl, N1q, e1⟩ := hQ1
  have N1 := Fr.app N0 N1q
  obtain ⟨_, _, ⟨T2, L2, k2, n2⟩, -, X2, ⟨Lc2, hQ2, l2, y2, z2⟩, st2⟩ := Jvm.LawKit.callS X1 hx (y := Y6_) hown (mvT hZ (own_w hw 228 rfl)) (mvT hZ (own_w hw 122 rfl)) (mvT hZ (own_w hw 8 rfl)) (mvT hZ (own_w hw 123 rfl)) (by decide) (backOf (W := 0) (r_ci l Z a0 hw [] cs1 fv h0 n0 O0 G0 i.toInt32 n.toInt32 (own_ti (own_ki hi hn)).2.1 (own_tl hi (own_k hn))) hZ (own_w hw 123 rfl) (own_w hw 8 rfl) (by decide) (by decide)) (g := (mkF m 5 #[vI (i.toInt32), vR (a2)] [(.int n.toInt32), (.int i.toInt32)])) rfl (by rw [hml]; rfl) (argsL := [(.int i.toInt32), (.int n.toInt32)]) (rest := []) (lenOf pd_5 rfl) rfl (by show 2 * 0 + _ ≤ _; exact Nat.le_of_eq rfl) (hb hby d51_5) (fun _ _ => ⟨rfl, e1, (by decide : 0 + 0 ≤ _), (by decide : 0 + 0 ≤ _)⟩)
  dsimp only [Pt.U, Pt.locs, Pt.cells, Pt.slots] at X2 l2 y2 z2 st2 hQ2
  subst l2 y2 z2
  obtain ⟨rfl, N2q, e2⟩ := hQ2
  have N2 := Fr.app N1 N2q
  obtain ⟨fs, hr, hrun, hended, hW, hsame⟩ := X2.leave (v := none) (fun _ => rfl)
  refine ⟨_, _, pre0 _ ?_, hrun, hended, _, _, rfl, ?_, ⟨_, rfl⟩, hW, hsame.mono (by decide) (by decide)⟩
  · show own_St p e below s₁ m 0 #[vI (i.toInt32), vR (a2)] [] _
    refine XS.iloadN X0.here hx rfl (hb hby d51_0) rfl ?_
    refine XS.aloadN X0.here hx rfl (hb hby d51_1) rfl rfl ?_
    show own_St p e below s₁ m 2 #[vI (i.toInt32), vR (a2)] [(.ref a2), (.int i.toInt32)] _
    refine st1 _ ?_
    show own_St p e below T1 m 5 #[vI (i.toInt32), vR (a2)] [(.int n.toInt32), (.int i.toInt32)] _
    refine st2 _ ?_
    show own_St p e below T2 m 8 #[vI (i.toInt32), vR (a2)] [] _
    exact X2.returnOut hx Bd.returns (hb hby d51_8) hr
  · show own_Q (none) h0 n0 _ T2.heap _
    rw [e2]
    exact ⟨rfl, N2, rfl⟩
theorem d12_0 : D12_ 0 = .ok (.iload_n 0, 1) := by decide +kernel
theorem d12_1 : D12_ 1 = .ok (.ifCond .lt 14, 3) := by decide +kernel
theorem d12_4 : D12_ 4 = .ok (.iload_n 0, 1) := by decide +kernel
theorem d12_5 : D12_ 5 = .ok (.sipush 255, 3) := by decide +kernel
theorem d12_8 : D12_ 8 = .ok (.if_icmp .gt 7, 3) := by decide +kernel
theorem d12_11 : D12_ 11 = .ok (.iconst 1, 1) := by decide +kernel
theorem d12_12 : D12_ 12 = .ok (.goto 4, 3) := by decide +kernel
theorem d12_16 : D12_ 16 = .ok (.ireturn, 1) := by decide +kernel
theorem ef_12_31 (m : MethodId) (x0 : Int32) : entryFrame m #[(.int x0)] 1 = mkF m 0 #[vI (x0)] [] := by first | (simp [entryFrame, mkF, argsToLocals, Value.category]; done) | rfl
theorem r_cdI (l : Launch) (Z : State) (a0 : Array Value) (hw : own_HW a0 Z) (ws : List Jvm.Cond) (cs1 : Int32) (fv : Value) (h0 : Heap) (n0 : Nat) (O0 : Old Z n0 h0) (G : own_Ctx Z Z.heap cs1 fv) (ch : Int32) (hc0 : ¬ (ch < (0 : Int32))) (hc1 : ¬ ((255 : Int32) < ch)) :
    own_M l Y28_ (head1 (Jvm.Cond.code Y28_ jdk_43_method_4_code 1 (some .boolean) :: ws) (own_rm_ 0 0 0 0)) #[(.int ch)] Z h0 n0 (own_Q (some (.int (1 : Int32)))) (own_rm_ 0 0 0 0).cells (own_rm_ 0 0 0 0).slots := by
  have G0 := G
  refine MetFree.of_bodySF (plainFor_of_name pn_3) hisR ?_
  intro p e s m args below meth c s₁ Bd hml0 hP hK
  obtain ⟨rfl, hZ, hh⟩ := hP
  have hx := Bd.exec
  have hby := Bd.bytes
  have hml : c.maxLocals = 1 := hml0
  have hown := findClass_of_methodNamed Bd.named
  have X0 : Stand p l e (own_rm_ 0 0 0 0) s m #[(.int ch)] below meth c s₁ [] 0 0 := Stand.of_body Bd
  have e0 : s₁.heap = h0 := by rw [← hh, Bd.state]; rfl
  have N0 := Fr.nil n0
  have pre0 := own_pre (tb := p.tables) (e := e) (below := below) (T := s₁) (ef_12_31 m ch)
  obtain ⟨fs, hr, hrun, hended, hW, hsame⟩ := X0.leave (v := some (.int (1 : Int32))) (fun h => by rw [Bd.returns] at h; cases h)
  refine ⟨_, _, pre0 _ ?_, hrun, hended, _, _, rfl, ?_, ⟨_, rfl⟩, hW, hsame.mono (by decide) (by decide)⟩
  · show own_St p e below s₁ m 0 #[vI (ch)] [] _
    refine XS.iloadN X0.here hx rfl (hb hby d12_0) rfl ?_
    refine XS.ifNo X0.here hx rfl (hb hby d12_1) rfl ((if0 _ _).trans (flt (hc0 : ¬ (ch < (0 : Int32)))).1) ?_
    refine XS.iloadN X0.here hx rfl (hb hby d12_4) rfl ?_
    refine XS.sipush X0.here hx rfl (hb hby d12_5) ?_
    refine XS.icmpNo X0.here hx rfl (hb hby d12_8) rfl (flt (hc1 : ¬ ((255 : Int32) < ch))).2.2.1 ?_
    refine XS.iconst X0.here hx rfl (hb hby d12_11) ?_
    refine XS.goto X0.here hx rfl (pc0 := 12) (pc' := 16) rfl (hb hby d12_12) (by decide) (by decide) ?_
    show own_St p e below s₁ m 16 #[vI (ch)] [(.int (1 : Int32))] _
    exact retN X0 hx (t := .boolean) Bd.returns (by simp) (hb hby d12_16) hr
  · show own_Q (some (.int (1 : Int32))) h0 n0 _ s₁.heap _
    rw [e0]
    exact ⟨rfl, N0, rfl⟩
theorem d21_7 : D21_ 7 = .ok (.iload 5, 2) := by decide +kernel
theorem d21_9 : D21_ 9 = .ok (.iload_n 3, 1) := by decide +kernel
theorem d21_10 : D21_ 10 = .ok (.if_icmp .ge 21, 3) := by decide +kernel
theorem d21_13 : D21_ 13 = .ok (.aload_n 0, 1) := by decide +kernel
theorem d21_14 : D21_ 14 = .ok (.iload 5, 2) := by decide +kernel
theorem d21_16 : D21_ 16 = .ok (.baload, 1) := by decide +kernel
theorem d21_17 : D21_ 17 = .ok (.iload 4, 2) := by decide +kernel
theorem d21_19 : D21_ 19 = .ok (.if_icmp .ne 6, 3) := by decide +kernel
theorem d21_25 : D21_ 25 = .ok (.iinc 5 1, 3) := by decide +kernel
theorem d21_28 : D21_ 28 = .ok (.goto (-21), 3) := by decide +kernel
theorem t_xLn {p : Program} {l : Launch} {e : Env} {s : State} {m : MethodId} {args : Array Value} {below : List Frame} {meth : Method} {c : Code} {T0 : State} {locs : List Loc} {Z : State} {a0 : Array Value} {h0 : Heap} {n0 : Nat} (cs1 : Int32) (fv : Value) (a2 : Addr) (k2 : ClassId) (cs : List Int32) (ch : Int32) (i : Nat)
    (X0 : Stand p l e (own_rm_ 0 0 0 0) s m args below meth c T0 locs 0 0) (hx : p.tables.exec = Jvm.exec) (hZ : Z.Warmed39 s.vm) (hw : own_HW a0 Z) (hby : c.code = jdk_43_method_23_code) (hml : c.maxLocals = 6) (hown : s.vm.findClass "java/lang/StringLatin1" = some m.cls) (e0 : T0.heap = h0) (N0 : Fr n0 locs) (O0 : Old Z n0 h0) (G : own_Ctx Z Z.heap cs1 fv) (Va : Arv Z h0 a2 k2 .byte cs.length.toInt32 (cs.map (fun c => .int (nar .byte c.toInt8.toInt32))) (.int (0 : Int32))) (hi : i < cs.length) (hn : cs.length ≤ 4) (hB : own_Bd cs) (hc0 : ¬ (ch < (0 : Int32))) (hc1 : ¬ ((255 : Int32) < ch)) (hl : own_Lat cs) (hq : ¬ (cs[i] = ch)) :
    ∃ (T' : State) (h' : Heap) (L' : List Loc), Stand p l e (own_rm_ 0 0 0 0) s m args below meth c T' L' 0 0 ∧ T'.heap = h' ∧ Fr n0 L' ∧ Old Z n0 h' ∧ Keep h0 h' [] ∧ (h' = h0) ∧ ∀ target, Steps p.tables e below (T'.setTop (mkF m 7 #[vR (a2), vI (ch), vI ((0 : Int32)), vI (cs.length.toInt32), vI ((ch.toInt8.toInt32)), vI ((i.toInt32 + (1 : Int32)))] [])) target → Steps p.tables e below (T0.setTop (mkF m 7 #[vR (a2), vI (ch), vI ((0 : Int32)), vI (cs.length.toInt32), vI ((ch.toInt8.toInt32)), vI (i.toInt32)] [])) target := by
  have G0 := G
  have vc1 := Va
  obtain ⟨cl1, Ar1, qk1, S1, Nn1, Hs1, Gf1⟩ := vc1
  have hin1 : ¬ (i.toInt32 < 0 ∨ cl1.slots.size ≤ (i.toInt32).toNatClampNeg) := inb_of S1 ⟨(own_ti (own_ki hi hn)).2.1, own_tl hi (own_k hn)⟩
  have hat1 : cl1.slots[(i.toInt32).toNatClampNeg]? = some (.int (nar .byte (cs[i].toInt8.toInt32))) := Has.at Hs1 hin1 (by rw [(own_ti (own_ki hi hn)).1]; exact own_atf (fun c => nar .byte c.toInt8.toInt32) hi)
  refine ⟨T0, h0, _, X0, e0, N0, O0, (Keep.refl h0 []), rfl, fun target kt => ?_⟩
  show own_St p e below T0 m 7 #[vR (a2), vI (ch), vI ((0 : Int32)), vI (cs.length.toInt32), vI ((ch.toInt8.toInt32)), vI (i.toInt32)] [] _
  refine XS.iload X0.here hx rfl (hb hby d21_7) rfl ?_
  refine XS.iloadN X0.here hx rfl (hb hby d21_9) rfl ?_
  refine XS.icmpNo X0.here hx rfl (hb hby d21_10) rfl (tlt ((own_tl hi (own_k hn)) : i.toInt32 < cs.length.toInt32)).2.1 ?_
  refine XS.aloadN X0.here hx rfl (hb hby d21_13) rfl rfl ?_
  refine XS.iload X0.here hx rfl (hb hby d21_14) rfl ?_
  show own_St p e below T0 m 16 #[vR (a2), vI (ch), vI ((0 : Int32)), vI (cs.length.toInt32), vI ((ch.toInt8.toInt32)), vI (i.toInt32)] [(.int i.toInt32), (.ref a2)] _
  refine X0.baloadBytes hx (j := i.toInt32) (v := (.int (nar .byte (cs[i].toInt8.toInt32)))) (by rw [e0]; exact Ar1.1) (State.isArrayOf_alike hZ.alike Ar1.2.1) Ar1.2.2 hin1 hat1 (g := (mkF m 16 #[vR (a2), vI (ch), vI ((0 : Int32)), vI (cs.length.toInt32), vI ((ch.toInt8.toInt32)), vI (i.toInt32)] [(.int i.toInt32), (.ref a2)])) rfl rfl (hb hby d21_16) _ ?_
  show own_St p e below T0 m 17 #[vR (a2), vI (ch), vI ((0 : Int32)), vI (cs.length.toInt32), vI ((ch.toInt8.toInt32)), vI (i.toInt32)] [(.int (nar .byte (cs[i].toInt8.toInt32)))] _
  refine XS.iload X0.here hx rfl (hb hby d21_17) rfl ?_
  refine XS.icmpYes X0.here hx rfl (pc0 := 19) (pc' := 25) rfl (hb hby d21_19) rfl (feq ((fun q => hq ((own_lbeq (hB i hi).1 (hl i hi) hc0 hc1).mp q)) : ¬ ((nar .byte (cs[i].toInt8.toInt32)) = (ch.toInt8.toInt32)))).2 (by decide) (by decide) ?_
  show own_St p e below T0 m 25 #[vR (a2), vI (ch), vI ((0 : Int32)), vI (cs.length.toInt32), vI ((ch.toInt8.toInt32)), vI (i.toInt32)] [] _
  refine XS.iinc X0.here hx rfl (hb hby d21_25) rfl (l' := #[vR (a2), vI (ch), vI ((0 : Int32)), vI (cs.length.toInt32), vI ((ch.toInt8.toInt32)), vI ((i.toInt32 + (1 : Int32)))]) rfl ?_
  show own_St p e below T0 m 28 #[vR (a2), vI (ch), vI ((0 : Int32)), vI (cs.length.toInt32), vI ((ch.toInt8.toInt32)), vI ((i.toInt32 + (1 : Int32)))] [] _
  refine XS.goto X0.here hx rfl (pc0 := 28) (pc' := 7) rfl (hb hby d21_28) (by decide) (by decide) ?_
  exact kt
theorem d21_22 : D21_ 22 = .ok (.iload 5, 2) := by decide +kernel
theorem t_xLm {p : Program} {l : Launch} {e : Env} {s : State} {m : MethodId} {args : Array Value} {below : List Frame} {meth : Method} {c : Code} {T0 : State} {locs : List Loc} {Z : State} {a0 : Array Value} {h0 : Heap} {n0 : Nat} (cs1 : Int32) (fv : Value) (a2 : Addr) (k2 : ClassId) (cs : List Int32) (ch : Int32) (i : Nat)
    (X0 : Stand p l e (own_rm_ 0 0 0 0) s m args below meth c T0 locs 0 0) (hx : p.tables.exec = Jvm.exec) (hZ : Z.Warmed39 s.vm) (hw : own_HW a0 Z) (hby : c.code = jdk_43_method_23_code) (hml : c.maxLocals = 6) (hown : s.vm.findClass "java/lang/StringLatin1" = some m.cls) (e0 : T0.heap = h0) (N0 : Fr n0 locs) (O0 : Old Z n0 h0) (G : own_Ctx Z Z.heap cs1 fv) (Va : Arv Z h0 a2 k2 .byte cs.length.toInt32 (cs.map (fun c => .int (nar .byte c.toInt8.toInt32))) (.int (0 : Int32))) (hi : i < cs.length) (hn : cs.length ≤ 4) (hB : own_Bd cs) (hc0 : ¬ (ch < (0 : Int32))) (hc1 : ¬ ((255 : Int32) < ch)) (hl : own_Lat cs) (hq : cs[i] = ch) :
    ∃ (T' : State) (h' : Heap) (L' : List Loc), Stand p l e (own_rm_ 0 0 0 0) s m args below meth c T' L' 0 0 ∧ T'.heap = h' ∧ Fr n0 L' ∧ Old Z n0 h' ∧ Keep h0 h' [] ∧ (h' = h0) ∧ ∀ target, Steps p.tables e below (T'.setTop (mkF m 24 #[vR (a2), vI (ch), vI ((0 : Int32)), vI (cs.length.toInt32), vI ((ch.toInt8.toInt32)), vI (i.toInt32)] [(.int i.toInt32)])) target → Steps p.tables e below (T0.setTop (mkF m 7 #[vR (a2), vI (ch), vI ((0 : Int32)), vI (cs.length.toInt32), vI ((ch.toInt8.toInt32)), vI (i.toInt32)] [])) target := by
  have G0 := G
  have vc1 := Va
  obtain ⟨cl1, Ar1, qk1, S1, Nn1, Hs1, Gf1⟩ := vc1
  have hin1 : ¬ (i.toInt32 < 0 ∨ cl1.slots.size ≤ (i.toInt32).toNatClampNeg) := inb_of S1 ⟨(own_ti (own_ki hi hn)).2.1, own_tl hi (own_k hn)⟩
  have hat1 : cl1.slots[(i.toInt32).toNatClampNeg]? = some (.int (nar .byte (cs[i].toInt8.toInt32))) := Has.at Hs1 hin1 (by rw [(own_ti (own_ki hi hn)).1]; exact own_atf (fun c => nar .byte c.toInt8.toInt32) hi)
  refine ⟨T0, h0, _, X0, e0, N0, O0, (Keep.refl h0 []), rfl, fun target kt => ?_⟩
  show own_St p e below T0 m 7 #[vR (a2), vI (ch), vI ((0 : Int32)), vI (cs.length.toInt32), vI ((ch.toInt8.toInt32)), vI (i.toInt32)] [] _
  refine XS.iload X0.here hx rfl (hb hby d21_7) rfl ?_
  refine XS.iloadN X0.here hx rfl (hb hby d21_9) rfl ?_
  refine XS.icmpNo X0.here hx rfl (hb hby d21_10) rfl (tlt ((own_tl hi (own_k hn)) : i.toInt32 < cs.length.toInt32)).2.1 ?_
  refine XS.aloadN X0.here hx rfl (hb hby d21_13) rfl rfl ?_
  refine XS.iload X0.here hx rfl (hb hby d21_14) rfl ?_
  show own_St p e below T0 m 16 #[vR (a2), vI (ch), vI ((0 : Int32)), vI (cs.length.toInt32), vI ((ch.toInt8.toInt32)), vI (i.toInt32)] [(.int i.toInt32), (.ref a2)] _
  refine X0.baloadBytes hx (j := i.toInt32) (v := (.int (nar .byte (cs[i].toInt8.toInt32)))) (by rw [e0]; exact Ar1.1) (State.isArrayOf_alike hZ.alike Ar1.2.1) Ar1.2.2 hin1 hat1 (g := (mkF m 16 #[vR (a2), vI (ch), vI ((0 : Int32)), vI (cs.length.toInt32), vI ((ch.toInt8.toInt32)), vI (i.toInt32)] [(.int i.toInt32), (.ref a2)])) rfl rfl (hb hby d21_16) _ ?_
  show own_St p e below T0 m 17 #[vR (a2), vI (ch), vI ((0 : Int32)), vI (cs.length.toInt32), vI ((ch.toInt8.toInt32)), vI (i.toInt32)] [(.int (nar .byte (cs[i].toInt8.toInt32)))] _
  refine XS.iload X0.here hx rfl (hb hby d21_17) rfl ?_
  refine XS.icmpNo X0.here hx rfl (hb hby d21_19) rfl (teq (((own_lbeq (hB i hi).1 (hl i hi) hc0 hc1).mpr hq) : (nar .byte (cs[i].toInt8.toInt32)) = (ch.toInt8.toInt32))).2 ?_
  refine XS.iload X0.here hx rfl (hb hby d21_22) rfl ?_
  exact kt
theorem d21_31 : D21_ 31 = .ok (.iconst (-1), 1) := by decide +kernel
theorem t_xLe {p : Program} {l : Launch} {e : Env} {s : State} {m : MethodId} {args : Array Value} {below : List Frame} {meth : Method} {c : Code} {T0 : State} {locs : List Loc} {Z : State} {a0 : Array Value} {h0 : Heap} {n0 : Nat} (cs1 : Int32) (fv : Value) (a2 : Addr) (k2 : ClassId) (cs : List Int32) (ch : Int32)
    (X0 : Stand p l e (own_rm_ 0 0 0 0) s m args below meth c T0 locs 0 0) (hx : p.tables.exec = Jvm.exec) (hZ : Z.Warmed39 s.vm) (hw : own_HW a0 Z) (hby : c.code = jdk_43_method_23_code) (hml : c.maxLocals = 6) (hown : s.vm.findClass "java/lang/StringLatin1" = some m.cls) (e0 : T0.heap = h0) (N0 : Fr n0 locs) (O0 : Old Z n0 h0) (G : own_Ctx Z Z.heap cs1 fv) (Va : Arv Z h0 a2 k2 .byte cs.length.toInt32 (cs.map (fun c => .int (nar .byte c.toInt8.toInt32))) (.int (0 : Int32))) :
    ∃ (T' : State) (h' : Heap) (L' : List Loc), Stand p l e (own_rm_ 0 0 0 0) s m args below meth c T' L' 0 0 ∧ T'.heap = h' ∧ Fr n0 L' ∧ Old Z n0 h' ∧ Keep h0 h' [] ∧ (h' = h0) ∧ ∀ target, Steps p.tables e below (T'.setTop (mkF m 32 #[vR (a2), vI (ch), vI ((0 : Int32)), vI (cs.length.toInt32), vI ((ch.toInt8.toInt32)), vI (cs.length.toInt32)] [(.int (-1 : Int32))])) target → Steps p.tables e below (T0.setTop (mkF m 7 #[vR (a2), vI (ch), vI ((0 : Int32)), vI (cs.length.toInt32), vI ((ch.toInt8.toInt32)), vI (cs.length.toInt32)] [])) target := by
  have G0 := G
  refine ⟨T0, h0, _, X0, e0, N0, O0, (Keep.refl h0 []), rfl, fun target kt => ?_⟩
  show own_St p e below T0 m 7 #[vR (a2), vI (ch), vI ((0 : Int32)), vI (cs.length.toInt32), vI ((ch.toInt8.toInt32)), vI (cs.length.toInt32)] [] _
  refine XS.iload X0.here hx rfl (hb hby d21_7) rfl ?_
  refine XS.iloadN X0.here hx rfl (hb hby d21_9) rfl ?_
  refine XS.icmpYes X0.here hx rfl (pc0 := 10) (pc' := 31) rfl (hb hby d21_10) rfl (flt (own_irr _ : ¬ (cs.length.toInt32 < cs.length.toInt32))).2.1 (by decide) (by decide) ?_
  refine XS.iconst X0.here hx rfl (hb hby d21_31) ?_
  exact kt
theorem own_xL {p : Program} {l : Launch} {e : Env} {s : State} {m : MethodId} {args : Array Value} {below : List Frame} {meth : Method} {c : Code} {Z : State} {a0 : Array Value} {n0 : Nat} (cs1 : Int32) (fv : Value) (a2 : Addr) (k2 : ClassId) (cs : List Int32) (ch : Int32)
    (hx : p.tables.exec = Jvm.exec) (hZ : Z.Warmed39 s.vm) (hw : own_HW a0 Z) (hby : c.code = jdk_43_method_23_code) (hml : c.maxLocals = 6) (hown : s.vm.findClass "java/lang/StringLatin1" = some m.cls) (G : own_Ctx Z Z.heap cs1 fv) (hn : cs.length ≤ 4) (hB : own_Bd cs) (hc0 : ¬ (ch < (0 : Int32))) (hc1 : ¬ ((255 : Int32) < ch)) (hl : own_Lat cs) :
    ∀ (k i : Nat) (T0 : State) (h0 : Heap) (locs : List Loc), i + k = cs.length → Stand p l e (own_rm_ 0 0 0 0) s m args below meth c T0 locs 0 0 → T0.heap = h0 → Fr n0 locs → Old Z n0 h0 → Arv Z h0 a2 k2 .byte cs.length.toInt32 (cs.map (fun c => .int (nar .byte c.toInt8.toInt32))) (.int (0 : Int32)) → (∀ j (hj : j < cs.length), j < i → ¬ (cs[j] = ch)) →
    ∃ (T' : State) (L' : List Loc) (r : Int32) (q : Nat) (Ls : Array Slot), Stand p l e (own_rm_ 0 0 0 0) s m args below meth c T' L' 0 0 ∧ T'.heap = h0 ∧ Fr n0 L' ∧ (q = 24 ∨ q = 32) ∧ ((¬ (r < (0 : Int32)) ∧ ∃ j, ∃ hj : j < cs.length, cs[j] = ch) ∨ (r < (0 : Int32) ∧ ∀ j (hj : j < cs.length), ¬ (cs[j] = ch))) ∧
      ∀ target, Steps p.tables e below (T'.setTop (mkF m q Ls [(.int r)])) target → Steps p.tables e below (T0.setTop (mkF m 7 #[vR (a2), vI (ch), vI ((0 : Int32)), vI (cs.length.toInt32), vI ((ch.toInt8.toInt32)), vI (i.toInt32)] [])) target := by
  intro k
  induction k with
  | zero =>
    intro i T0 h0 locs hi X0 e0 N0 O0 Va hno
    obtain rfl : i = cs.length := by omega
    obtain ⟨T1, h1, L1, X1, e1, N1, O1, K1, q1, st⟩ := t_xLe cs1 fv a2 k2 cs ch X0 hx hZ hw hby hml hown e0 N0 O0 G Va
    subst q1
    exact ⟨T1, L1, _, 32, _, X1, e1, N1, Or.inr rfl, Or.inr ⟨by decide, fun j hj => hno j hj hj⟩, st⟩
  | succ k ih =>
    intro i T0 h0 locs hi X0 e0 N0 O0 Va hno
    have hlt : i < cs.length := by omega
    rcases Classical.em (cs[i] = ch) with hq | hq
    · obtain ⟨T1, h1, L1, X1, e1, N1, O1, K1, q1, st⟩ := t_xLm cs1 fv a2 k2 cs ch i X0 hx hZ hw hby hml hown e0 N0 O0 G Va hlt hn hB hc0 hc1 hl hq
      subst q1
      exact ⟨T1, L1, _, 24, _, X1, e1, N1, Or.inl rfl, Or.inl ⟨(own_ti (own_ki hlt hn)).2.1, i, hlt, hq⟩, st⟩
    · obtain ⟨T1, h1, L1, X1, e1, N1, O1, K1, q1, st1⟩ := t_xLn cs1 fv a2 k2 cs ch i X0 hx hZ hw hby hml hown e0 N0 O0 G Va hlt hn hB hc0 hc1 hl hq
      subst q1
      rw [own_ts (by omega)] at st1
      obtain ⟨T', L', r, q, Ls, X', e', N', hq', hd, st'⟩ := ih (i + 1) T1 _ L1 (by omega) X1 e1 N1 O1 Va (fun j hj hji => by
        by_cases u : j = i
        · subst u; exact hq
        · exact hno j hj (by omega))
      exact ⟨T', L', r, q, Ls, X', e', N', hq', hd, fun target kt => st1 _ (st' _ kt)⟩

theorem d21_24 : D21_ 24 = .ok (.ireturn, 1) := by decide +kernel
theorem d21_32 : D21_ 32 = .ok (.ireturn, 1) := by decide +kernel
theorem d21_0 : D21_ 0 = .ok (.iload_n 1, 1) := by decide +kernel
theorem d21_1 : D21_ 1 = .ok (.i2b, 1) := by decide +kernel
theorem d21_2 : D21_ 2 = .ok (.istore 4, 2) := by decide +kernel
theorem d21_4 : D21_ 4 = .ok (.iload_n 2, 1) := by decide +kernel
theorem d21_5 : D21_ 5 = .ok (.istore 5, 2) := by decide +kernel
theorem ef_21_32 (m : MethodId) (x0 : Addr) (x1 : Int32) (x2 : Int32) (x3 : Int32) : entryFrame m #[(.ref x0), (.int x1), (.int x2), (.int x3)] 6 = mkF m 0 #[vR (x0), vI (x1), vI (x2), vI (x3), .unset, .unset] [] := by first | (simp [entryFrame, mkF, argsToLocals, Value.category]; done) | rfl
theorem r_xL (l : Launch) (Z : State) (a0 : Array Value) (hw : own_HW a0 Z) (ws : List Jvm.Cond) (cs1 : Int32) (fv : Value) (h0 : Heap) (n0 : Nat) (O0 : Old Z n0 h0) (G : own_Ctx Z Z.heap cs1 fv) (a2 : Addr) (k2 : ClassId) (cs : List Int32) (ch : Int32) (Va : Arv Z h0 a2 k2 .byte cs.length.toInt32 (cs.map (fun c => .int (nar .byte c.toInt8.toInt32))) (.int (0 : Int32))) (hn : cs.length ≤ 4) (hB : own_Bd cs) (hc0 : ¬ (ch < (0 : Int32))) (hc1 : ¬ ((255 : Int32) < ch)) (hl : own_Lat cs) :
    own_M l Y29_ (head1 (Jvm.Cond.code Y29_ jdk_43_method_23_code 6 (some .int) :: ws) (own_rm_ 0 0 0 0)) #[(.ref a2), (.int ch), (.int (0 : Int32)), (.int cs.length.toInt32)] Z h0 n0 (own_Qix cs ch) (own_rm_ 0 0 0 0).cells (own_rm_ 0 0 0 0).slots := by
  have G0 := G
  refine MetFree.of_bodySF (plainFor_of_name pn_3) hisR ?_
  intro p e s m args below meth c s₁ Bd hml0 hP hK
  obtain ⟨rfl, hZ, hh⟩ := hP
  have hx := Bd.exec
  have hby := Bd.bytes
  have hml : c.maxLocals = 6 := hml0
  have hown := findClass_of_methodNamed Bd.named
  have X0 : Stand p l e (own_rm_ 0 0 0 0) s m #[(.ref a2), (.int ch), (.int (0 : Int32)), (.int cs.length.toInt32)] below meth c s₁ [] 0 0 := Stand.of_body Bd
  have e0 : s₁.heap = h0 := by rw [← hh, Bd.state]; rfl
  have N0 := Fr.nil n0
  have pre0 := own_pre (tb := p.tables) (e := e) (below := below) (T := s₁) (ef_21_32 m a2 ch (0 : Int32) cs.length.toInt32)
  obtain ⟨T9, L9, r9, q9, Ls9, X9, e9, N9, hq9, hd9, st9⟩ := own_xL cs1 fv a2 k2 cs ch hx hZ hw hby hml hown G0 hn hB hc0 hc1 hl cs.length 0 _ _ _ (Nat.zero_add _) X0 e0 N0 O0 Va (fun j hj q => absurd q (Nat.not_lt_zero _))
  obtain ⟨fs, hr, hrun, hended, hW, hsame⟩ := X9.leave (v := some (.int r9)) (fun h => by rw [Bd.returns] at h; cases h)
  refine ⟨_, _, pre0 _ ?_, hrun, hended, _, _, rfl, ?_, ⟨_, rfl⟩, hW, hsame.mono (by decide) (by decide)⟩
  · show own_St p e below s₁ m 0 #[vR (a2), vI (ch), vI ((0 : Int32)), vI (cs.length.toInt32), .unset, .unset] [] _
    refine XS.iloadN X0.here hx rfl (hb hby d21_0) rfl ?_
    refine XS.i2b X0.here hx rfl (hb hby d21_1) rfl ?_
    refine XS.istore X0.here hx rfl (hb hby d21_2) rfl (l' := #[vR (a2), vI (ch), vI ((0 : Int32)), vI (cs.length.toInt32), vI ((ch.toInt8.toInt32)), .unset]) rfl ?_
    refine XS.iloadN X0.here hx rfl (hb hby d21_4) rfl ?_
    refine XS.istore X0.here hx rfl (hb hby d21_5) rfl (l' := #[vR (a2), vI (ch), vI ((0 : Int32)), vI (cs.length.toInt32), vI ((ch.toInt8.toInt32)), vI ((0 : Int32))]) rfl ?_
    show own_St p e below s₁ m 7 #[vR (a2), vI (ch), vI ((0 : Int32)), vI (cs.length.toInt32), vI ((ch.toInt8.toInt32)), vI ((0 : Nat).toInt32)] [] _
    refine st9 _ ?_
    rcases hq9 with rfl | rfl
    · exact retI X9 hx Bd.returns (hb hby d21_24) hr
    · exact retI X9 hx Bd.returns (hb hby d21_32) hr
  · show own_Qix cs ch h0 n0 _ T9.heap _
    rw [e9]
    exact ⟨_, rfl, N9, rfl, hd9⟩
theorem d49_3 : D49_ 3 = .ok (.iload 4, 2) := by decide +kernel
theorem d49_5 : D49_ 5 = .ok (.iload_n 3, 1) := by decide +kernel
theorem d49_6 : D49_ 6 = .ok (.if_icmp .ge 22, 3) := by decide +kernel
theorem d49_9 : D49_ 9 = .ok (.aload_n 0, 1) := by decide +kernel
theorem d49_10 : D49_ 10 = .ok (.iload 4, 2) := by decide +kernel
theorem d49_12 : D49_ 12 = .ok (.invokestatic 71, 3) := by decide +kernel
theorem d49_15 : D49_ 15 = .ok (.iload_n 1, 1) := by decide +kernel
theorem d49_16 : D49_ 16 = .ok (.if_icmp .ne 6, 3) := by decide +kernel
theorem d49_22 : D49_ 22 = .ok (.iinc 4 1, 3) := by decide +kernel
theorem d49_25 : D49_ 25 = .ok (.goto (-22), 3) := by decide +kernel
theorem t_xUn {p : Program} {l : Launch} {e : Env} {s : State} {m : MethodId} {args : Array Value} {below : List Frame} {meth : Method} {c : Code} {T0 : State} {locs : List Loc} {Z : State} {a0 : Array Value} {h0 : Heap} {n0 : Nat} (cs1 : Int32) (fv : Value) (a2 : Addr) (k2 : ClassId) (cs : List Int32) (ch : Int32) (i : Nat)
    (X0 : Stand p l e (own_rm_ 1 0 0 13) s m args below meth c T0 locs 0 0) (hx : p.tables.exec = Jvm.exec) (hZ : Z.Warmed39 s.vm) (hw : own_HW a0 Z) (hby : c.code = jdk_52_method_48_code) (hml : c.maxLocals = 5) (hown : s.vm.findClass "java/lang/StringUTF16" = some m.cls) (e0 : T0.heap = h0) (N0 : Fr n0 locs) (O0 : Old Z n0 h0) (G : own_Ctx Z Z.heap cs1 fv) (Va : Arv Z h0 a2 k2 .byte (2 * cs.length).toInt32 (cs.flatMap own_two) (.int (0 : Int32))) (hi : i < cs.length) (hn : cs.length ≤ 4) (hB : own_Bd cs) (hc0 : ¬ (ch < (0 : Int32))) (hc1 : ¬ ((255 : Int32) < ch)) (hq : ¬ (cs[i] = ch)) :
    ∃ (T' : State) (h' : Heap) (L' : List Loc), Stand p l e (own_rm_ 1 0 0 13) s m args below meth c T' L' 0 0 ∧ T'.heap = h' ∧ Fr n0 L' ∧ Old Z n0 h' ∧ Keep h0 h' [] ∧ (h' = h0) ∧ ∀ target, Steps p.tables e below (T'.setTop (mkF m 3 #[vR (a2), vI (ch), vI ((0 : Int32)), vI (cs.length.toInt32), vI ((i.toInt32 + (1 : Int32)))] [])) target → Steps p.tables e below (T0.setTop (mkF m 3 #[vR (a2), vI (ch), vI ((0 : Int32)), vI (cs.length.toInt32), vI (i.toInt32)] [])) target := by
  have G0 := G
  obtain ⟨_, _, ⟨T1, L1, k1, n1⟩, -, X1, ⟨Lc1, hQ1, l1, y1, z1⟩, st1⟩ := Jvm.LawKit.callS X0 hx (y := Y7_) hown (mvT hZ (own_w hw 194 rfl)) (mvT hZ (own_w hw 195 rfl)) (mvT hZ (own_w hw 77 rfl)) (mvT hZ (own_w hw 196 rfl)) (by decide) (backOf (W := 0) (r_gc l Z a0 hw [] cs1 fv h0 n0 O0 G0 a2 k2 cs i Va hi hn (hB i hi).1 (hB i hi).2) hZ (own_w hw 196 rfl) (own_w hw 77 rfl) (by decide) (by decide)) (g := (mkF m 12 #[vR (a2), vI (ch), vI ((0 : Int32)), vI (cs.length.toInt32), vI (i.toInt32)] [(.int i.toInt32), (.ref a2)])) rfl (by rw [hml]; rfl) (argsL := [(.ref a2), (.int i.toInt32)]) (rest := []) (lenOf pd_7 rfl) rfl (by show 2 * 0 + _ ≤ _; exact Nat.le_of_eq rfl) (hb hby d49_12) (fun _ _ => ⟨rfl, e0, (by decide : 0 + 0 ≤ _), (by decide : 0 + 0 ≤ _)⟩)
  dsimp only [Pt.U, Pt.locs, Pt.cells, Pt.slots] at X1 l1 y1 z1 st1 hQ1
  subst l1 y1 z1
  obtain ⟨rfl, N1q, e1⟩ := hQ1
  have N1 := Fr.app N0 N1q
  refine ⟨T1, h0, _, X1, e1, N1, O0, (Keep.refl h0 []), rfl, fun target kt => ?_⟩
  show own_St p e below T0 m 3 #[vR (a2), vI (ch), vI ((0 : Int32)), vI (cs.length.toInt32), vI (i.toInt32)] [] _
  refine XS.iload X0.here hx rfl (hb hby d49_3) rfl ?_
  refine XS.iloadN X0.here hx rfl (hb hby d49_5) rfl ?_
  refine XS.icmpNo X0.here hx rfl (hb hby d49_6) rfl (tlt ((own_tl hi (own_k hn)) : i.toInt32 < cs.length.toInt32)).2.1 ?_
  refine XS.aloadN X0.here hx rfl (hb hby d49_9) rfl rfl ?_
  refine XS.iload X0.here hx rfl (hb hby d49_10) rfl ?_
  show own_St p e below T0 m 12 #[vR (a2), vI (ch), vI ((0 : Int32)), vI (cs.length.toInt32), vI (i.toInt32)] [(.int i.toInt32), (.ref a2)] _
  refine st1 _ ?_
  show own_St p e below T1 m 15 #[vR (a2), vI (ch), vI ((0 : Int32)), vI (cs.length.toInt32), vI (i.toInt32)] [(.int cs[i])] _
  refine XS.iloadN X1.here hx rfl (hb hby d49_15) rfl ?_
  refine XS.icmpYes X1.here hx rfl (pc0 := 16) (pc' := 22) rfl (hb hby d49_16) rfl (feq (hq : ¬ (cs[i] = ch))).2 (by decide) (by decide) ?_
  show own_St p e below T1 m 22 #[vR (a2), vI (ch), vI ((0 : Int32)), vI (cs.length.toInt32), vI (i.toInt32)] [] _
  refine XS.iinc X1.here hx rfl (hb hby d49_22) rfl (l' := #[vR (a2), vI (ch), vI ((0 : Int32)), vI (cs.length.toInt32), vI ((i.toInt32 + (1 : Int32)))]) rfl ?_
  show own_St p e below T1 m 25 #[vR (a2), vI (ch), vI ((0 : Int32)), vI (cs.length.toInt32), vI ((i.toInt32 + (1 : Int32)))] [] _
  refine XS.goto X1.here hx rfl (pc0 := 25) (pc' := 3) rfl (hb hby d49_25) (by decide) (by decide) ?_
  exact kt
theorem d49_19 : D49_ 19 = .ok (.iload 4, 2) := by decide +kernel
theorem t_xUm {p : Program} {l : Launch} {e : Env} {s : State} {m : MethodId} {args : Array Value} {below : List Frame} {meth : Method} {c : Code} {T0 : State} {locs : List Loc} {Z : State} {a0 : Array Value} {h0 : Heap} {n0 : Nat} (cs1 : Int32) (fv : Value) (a2 : Addr) (k2 : ClassId) (cs : List Int32) (ch : Int32) (i : Nat)
    (X0 : Stand p l e (own_rm_ 1 0 0 13) s m args below meth c T0 locs 0 0) (hx : p.tables.exec = Jvm.exec) (hZ : Z.Warmed39 s.vm) (hw : own_HW a0 Z) (hby : c.code = jdk_52_method_48_code) (hml : c.maxLocals = 5) (hown : s.vm.findClass "java/lang/StringUTF16" = some m.cls) (e0 : T0.heap = h0) (N0 : Fr n0 locs) (O0 : Old Z n0 h0) (G : own_Ctx Z Z.heap cs1 fv) (Va : Arv Z h0 a2 k2 .byte (2 * cs.length).toInt32 (cs.flatMap own_two) (.int (0 : Int32))) (hi : i < cs.length) (hn : cs.length ≤ 4) (hB : own_Bd cs) (hc0 : ¬ (ch < (0 : Int32))) (hc1 : ¬ ((255 : Int32) < ch)) (hq : cs[i] = ch) :
    ∃ (T' : State) (h' : Heap) (L' : List Loc), Stand p l e (own_rm_ 1 0 0 13) s m args below meth c T' L' 0 0 ∧ T'.heap = h' ∧ Fr n0 L' ∧ Old Z n0 h' ∧ Keep h0 h' [] ∧ (h' = h0) ∧ ∀ target, Steps p.tables e below (T'.setTop (mkF m 21 #[vR (a2), vI (ch), vI ((0 : Int32)), vI (cs.length.toInt32), vI (i.toInt32)] [(.int i.toInt32)])) target → Steps p.tables e below (T0.setTop (mkF m 3 #[vR (a2), vI (ch), vI ((0 : Int32)), vI (cs.length.toInt32), vI (i.toInt32)] [])) target := by
  have G0 := G
  obtain ⟨_, _, ⟨T1, L1, k1, n1⟩, -, X1, ⟨Lc1, hQ1, l1, y1, z1⟩, st1⟩ := Jvm.LawKit.callS X0 hx (y := Y7_) hown (mvT hZ (own_w hw 194 rfl)) (mvT hZ (own_w hw 195 rfl)) (mvT hZ (own_w hw 77 rfl)) (mvT hZ (own_w hw 196 rfl)) (by decide) (backOf (W := 0) (r_gc l Z a0 hw [] cs1 fv h0 n0 O0 G0 a2 k2 cs i Va hi hn (hB i hi).1 (hB i hi).2) hZ (own_w hw 196 rfl) (own_w hw 77 rfl) (by decide) (by decide)) (g := (mkF m 12 #[vR (a2), vI (ch), vI ((0 : Int32)), vI (cs.length.toInt32), vI (i.toInt32)] [(.int i.toInt32), (.ref a2)])) rfl (by rw [hml]; rfl) (argsL := [(.ref a2), (.int i.toInt32)]) (rest := []) (lenOf pd_7 rfl) rfl (by show 2 * 0 + _ ≤ _; exact Nat.le_of_eq rfl) (hb hby d49_12) (fun _ _ => ⟨rfl, e0, (by decide : 0 + 0 ≤ _), (by decide : 0 + 0 ≤ _)⟩)
  dsimp only [Pt.U, Pt.locs, Pt.cells, Pt.slots] at X1 l1 y1 z1 st1 hQ1
  subst l1 y1 z1
  obtain ⟨rfl, N1q, e1⟩ := hQ1
  have N1 := Fr.app N0 N1q
  refine ⟨T1, h0, _, X1, e1, N1, O0, (Keep.refl h0 []), rfl, fun target kt => ?_⟩
  show own_St p e below T0 m 3 #[vR (a2), vI (ch), vI ((0 : Int32)), vI (cs.length.toInt32), vI (i.toInt32)] [] _
  refine XS.iload X0.here hx rfl (hb hby d49_3) rfl ?_
  refine XS.iloadN X0.here hx rfl (hb hby d49_5) rfl ?_
  refine XS.icmpNo X0.here hx rfl (hb hby d49_6) rfl (tlt ((own_tl hi (own_k hn)) : i.toInt32 < cs.length.toInt32)).2.1 ?_
  refine XS.aloadN X0.here hx rfl (hb hby d49_9) rfl rfl ?_
  refine XS.iload X0.here hx rfl (hb hby d49_10) rfl ?_
  show own_St p e below T0 m 12 #[vR (a2), vI (ch), vI ((0 : Int32)), vI (cs.length.toInt32), vI (i.toInt32)] [(.int i.toInt32), (.ref a2)] _
  refine st1 _ ?_
  show own_St p e below T1 m 15 #[vR (a2), vI (ch), vI ((0 : Int32)), vI (cs.length.toInt32), vI (i.toInt32)] [(.int cs[i])] _
  refine XS.iloadN X1.here hx rfl (hb hby d49_15) rfl ?_
  refine XS.icmpNo X1.here hx rfl (hb hby d49_16) rfl (teq (hq : cs[i] = ch)).2 ?_
  refine XS.iload X1.here hx rfl (hb hby d49_19) rfl ?_
  exact kt
theorem d49_28 : D49_ 28 = .ok (.iconst (-1), 1) := by decide +kernel
theorem t_xUe {p : Program} {l : Launch} {e : Env} {s : State} {m : MethodId} {args : Array Value} {below : List Frame} {meth : Method} {c : Code} {T0 : State} {locs : List Loc} {Z : State} {a0 : Array Value} {h0 : Heap} {n0 : Nat} (cs1 : Int32) (fv : Value) (a2 : Addr) (k2 : ClassId) (cs : List Int32) (ch : Int32)
    (X0 : Stand p l e (own_rm_ 1 0 0 13) s m args below meth c T0 locs 0 0) (hx : p.tables.exec = Jvm.exec) (hZ : Z.Warmed39 s.vm) (hw : own_HW a0 Z) (hby : c.code = jdk_52_method_48_code) (hml : c.maxLocals = 5) (hown : s.vm.findClass "java/lang/StringUTF16" = some m.cls) (e0 : T0.heap = h0) (N0 : Fr n0 locs) (O0 : Old Z n0 h0) (G : own_Ctx Z Z.heap cs1 fv) (Va : Arv Z h0 a2 k2 .byte (2 * cs.length).toInt32 (cs.flatMap own_two) (.int (0 : Int32))) :
    ∃ (T' : State) (h' : Heap) (L' : List Loc), Stand p l e (own_rm_ 1 0 0 13) s m args below meth c T' L' 0 0 ∧ T'.heap = h' ∧ Fr n0 L' ∧ Old Z n0 h' ∧ Keep h0 h' [] ∧ (h' = h0) ∧ ∀ target, Steps p.tables e below (T'.setTop (mkF m 29 #[vR (a2), vI (ch), vI ((0 : Int32)), vI (cs.length.toInt32), vI (cs.length.toInt32)] [(.int (-1 : Int32))])) target → Steps p.tables e below (T0.setTop (mkF m 3 #[vR (a2), vI (ch), vI ((0 : Int32)), vI (cs.length.toInt32), vI (cs.length.toInt32)] [])) target := by
  have G0 := G
  refine ⟨T0, h0, _, X0, e0, N0, O0, (Keep.refl h0 []), rfl, fun target kt => ?_⟩
  show own_St p e below T0 m 3 #[vR (a2), vI (ch), vI ((0 : Int32)), vI (cs.length.toInt32), vI (cs.length.toInt32)] [] _
  refine XS.iload X0.here hx rfl (hb hby d49_3) rfl ?_
  refine XS.iloadN X0.here hx rfl (hb hby d49_5) rfl ?_
  refine XS.icmpYes X0.here hx rfl (pc0 := 6) (pc' := 28) rfl (hb hby d49_6) rfl (flt (own_irr _ : ¬ (cs.length.toInt32 < cs.length.toInt32))).2.1 (by decide) (by decide) ?_
  refine XS.iconst X0.here hx rfl (hb hby d49_28) ?_
  exact kt
theorem own_xU {p : Program} {l : Launch} {e : Env} {s : State} {m : MethodId} {args : Array Value} {below : List Frame} {meth : Method} {c : Code} {Z : State} {a0 : Array Value} {n0 : Nat} (cs1 : Int32) (fv : Value) (a2 : Addr) (k2 : ClassId) (cs : List Int32) (ch : Int32)
    (hx : p.tables.exec = Jvm.exec) (hZ : Z.Warmed39 s.vm) (hw : own_HW a0 Z) (hby : c.code = jdk_52_method_48_code) (hml : c.maxLocals = 5) (hown : s.vm.findClass "java/lang/StringUTF16" = some m.cls) (G : own_Ctx Z Z.heap cs1 fv) (hn : cs.length ≤ 4) (hB : own_Bd cs) (hc0 : ¬ (ch < (0 : Int32))) (hc1 : ¬ ((255 : Int32) < ch)) :
    ∀ (k i : Nat) (T0 : State) (h0 : Heap) (locs : List Loc), i + k = cs.length → Stand p l e (own_rm_ 1 0 0 13) s m args below meth c T0 locs 0 0 → T0.heap = h0 → Fr n0 locs → Old Z n0 h0 → Arv Z h0 a2 k2 .byte (2 * cs.length).toInt32 (cs.flatMap own_two) (.int (0 : Int32)) → (∀ j (hj : j < cs.length), j < i → ¬ (cs[j] = ch)) →
    ∃ (T' : State) (L' : List Loc) (r : Int32) (q : Nat) (Ls : Array Slot), Stand p l e (own_rm_ 1 0 0 13) s m args below meth c T' L' 0 0 ∧ T'.heap = h0 ∧ Fr n0 L' ∧ (q = 21 ∨ q = 29) ∧ ((¬ (r < (0 : Int32)) ∧ ∃ j, ∃ hj : j < cs.length, cs[j] = ch) ∨ (r < (0 : Int32) ∧ ∀ j (hj : j < cs.length), ¬ (cs[j] = ch))) ∧
      ∀ target, Steps p.tables e below (T'.setTop (mkF m q Ls [(.int r)])) target → Steps p.tables e below (T0.setTop (mkF m 3 #[vR (a2), vI (ch), vI ((0 : Int32)), vI (cs.length.toInt32), vI (i.toInt32)] [])) target := by
  intro k
  induction k with
  | zero =>
    intro i T0 h0 locs hi X0 e0 N0 O0 Va hno
    obtain rfl : i = cs.length := by omega
    obtain ⟨T1, h1, L1, X1, e1, N1, O1, K1, q1, st⟩ := t_xUe cs1 fv a2 k2 cs ch X0 hx hZ hw hby hml hown e0 N0 O0 G Va
    subst q1
    exact ⟨T1, L1, _, 29, _, X1, e1, N1, Or.inr rfl, Or.inr ⟨by decide, fun j hj => hno j hj hj⟩, st⟩
  | succ k ih =>
    intro i T0 h0 locs hi X0 e0 N0 O0 Va hno
    have hlt : i < cs.length := by omega
    rcases Classical.em (cs[i] = ch) with hq | hq
    · obtain ⟨T1, h1, L1, X1, e1, N1, O1, K1, q1, st⟩ := t_xUm cs1 fv a2 k2 cs ch i X0 hx hZ hw hby hml hown e0 N0 O0 G Va hlt hn hB hc0 hc1 hq
      subst q1
      exact ⟨T1, L1, _, 21, _, X1, e1, N1, Or.inl rfl, Or.inl ⟨(own_ti (own_ki hlt hn)).2.1, i, hlt, hq⟩, st⟩
    · obtain ⟨T1, h1, L1, X1, e1, N1, O1, K1, q1, st1⟩ := t_xUn cs1 fv a2 k2 cs ch i X0 hx hZ hw hby hml hown e0 N0 O0 G Va hlt hn hB hc0 hc1 hq
      subst q1
      rw [own_ts (by omega)] at st1
      obtain ⟨T', L', r, q, Ls, X', e', N', hq', hd, st'⟩ := ih (i + 1) T1 _ L1 (by omega) X1 e1 N1 O1 Va (fun j hj hji => by
        by_cases u : j = i
        · subst u; exact hq
        · exact hno j hj (by omega))
      exact ⟨T', L', r, q, Ls, X', e', N', hq', hd, fun target kt => st1 _ (st' _ kt)⟩

theorem d49_21 : D49_ 21 = .ok (.ireturn, 1) := by decide +kernel
theorem d49_29 : D49_ 29 = .ok (.ireturn, 1) := by decide +kernel
theorem d49_0 : D49_ 0 = .ok (.iload_n 2, 1) := by decide +kernel
theorem d49_1 : D49_ 1 = .ok (.istore 4, 2) := by decide +kernel
theorem ef_49_33 (m : MethodId) (x0 : Addr) (x1 : Int32) (x2 : Int32) (x3 : Int32) : entryFrame m #[(.ref x0), (.int x1), (.int x2), (.int x3)] 5 = mkF m 0 #[vR (x0), vI (x1), vI (x2), vI (x3), .unset] [] := by first | (simp [entryFrame, mkF, argsToLocals, Value.category]; done) | rfl
theorem r_xU (l : Launch) (Z : State) (a0 : Array Value) (hw : own_HW a0 Z) (ws : List Jvm.Cond) (cs1 : Int32) (fv : Value) (h0 : Heap) (n0 : Nat) (O0 : Old Z n0 h0) (G : own_Ctx Z Z.heap cs1 fv) (a2 : Addr) (k2 : ClassId) (cs : List Int32) (ch : Int32) (Va : Arv Z h0 a2 k2 .byte (2 * cs.length).toInt32 (cs.flatMap own_two) (.int (0 : Int32))) (hn : cs.length ≤ 4) (hB : own_Bd cs) (hc0 : ¬ (ch < (0 : Int32))) (hc1 : ¬ ((255 : Int32) < ch)) :
    own_M l Y30_ (head1 (Jvm.Cond.code Y30_ jdk_52_method_48_code 5 (some .int) :: ws) (own_rm_ 1 0 0 13)) #[(.ref a2), (.int ch), (.int (0 : Int32)), (.int cs.length.toInt32)] Z h0 n0 (own_Qix cs ch) (own_rm_ 1 0 0 13).cells (own_rm_ 1 0 0 13).slots := by
  have G0 := G
  refine MetFree.of_bodySF (plainFor_of_name pn_0) hisR ?_
  intro p e s m args below meth c s₁ Bd hml0 hP hK
  obtain ⟨rfl, hZ, hh⟩ := hP
  have hx := Bd.exec
  have hby := Bd.bytes
  have hml : c.maxLocals = 5 := hml0
  have hown := findClass_of_methodNamed Bd.named
  have X0 : Stand p l e (own_rm_ 1 0 0 13) s m #[(.ref a2), (.int ch), (.int (0 : Int32)), (.int cs.length.toInt32)] below meth c s₁ [] 0 0 := Stand.of_body Bd
  have e0 : s₁.heap = h0 := by rw [← hh, Bd.state]; rfl
  have N0 := Fr.nil n0
  have pre0 := own_pre (tb := p.tables) (e := e) (below := below) (T := s₁) (ef_49_33 m a2 ch (0 : Int32) cs.length.toInt32)
  obtain ⟨T9, L9, r9, q9, Ls9, X9, e9, N9, hq9, hd9, st9⟩ := own_xU cs1 fv a2 k2 cs ch hx hZ hw hby hml hown G0 hn hB hc0 hc1 cs.length 0 _ _ _ (Nat.zero_add _) X0 e0 N0 O0 Va (fun j hj q => absurd q (Nat.not_lt_zero _))
  obtain ⟨fs, hr, hrun, hended, hW, hsame⟩ := X9.leave (v := some (.int r9)) (fun h => by rw [Bd.returns] at h; cases h)
  refine ⟨_, _, pre0 _ ?_, hrun, hended, _, _, rfl, ?_, ⟨_, rfl⟩, hW, hsame.mono (by decide) (by decide)⟩
  · show own_St p e below s₁ m 0 #[vR (a2), vI (ch), vI ((0 : Int32)), vI (cs.length.toInt32), .unset] [] _
    refine XS.iloadN X0.here hx rfl (hb hby d49_0) rfl ?_
    refine XS.istore X0.here hx rfl (hb hby d49_1) rfl (l' := #[vR (a2), vI (ch), vI ((0 : Int32)), vI (cs.length.toInt32), vI ((0 : Int32))]) rfl ?_
    show own_St p e below s₁ m 3 #[vR (a2), vI (ch), vI ((0 : Int32)), vI (cs.length.toInt32), vI ((0 : Nat).toInt32)] [] _
    refine st9 _ ?_
    rcases hq9 with rfl | rfl
    · exact retI X9 hx Bd.returns (hb hby d49_21) hr
    · exact retI X9 hx Bd.returns (hb hby d49_29) hr
  · show own_Qix cs ch h0 n0 _ T9.heap _
    rw [e9]
    exact ⟨_, rfl, N9, rfl, hd9⟩
theorem d44_0 : D44_ 0 = .ok (.iload_n 2, 1) := by decide +kernel
theorem d44_1 : D44_ 1 = .ok (.iload_n 3, 1) := by decide +kernel
theorem d44_2 : D44_ 2 = .ok (.aload_n 0, 1) := by decide +kernel
theorem d44_3 : D44_ 3 = .ok (.invokestatic 96, 3) := by decide +kernel
theorem pd_17 : parseMethodDescriptor "(II[B)V" = some ⟨[.int, .int, (.array .byte)], none⟩ := by decide +kernel
theorem d44_6 : D44_ 6 = .ok (.aload_n 0, 1) := by decide +kernel
theorem d44_7 : D44_ 7 = .ok (.iload_n 1, 1) := by decide +kernel
theorem d44_8 : D44_ 8 = .ok (.iload_n 2, 1) := by decide +kernel
theorem d44_9 : D44_ 9 = .ok (.iload_n 3, 1) := by decide +kernel
theorem d44_10 : D44_ 10 = .ok (.invokestatic 244, 3) := by decide +kernel
theorem pd_18 : parseMethodDescriptor "([BIII)I" = some ⟨[(.array .byte), .int, .int, .int], some .int⟩ := by decide +kernel
theorem d44_13 : D44_ 13 = .ok (.ireturn, 1) := by decide +kernel
theorem ef_44_34 (m : MethodId) (x0 : Addr) (x1 : Int32) (x2 : Int32) (x3 : Int32) : entryFrame m #[(.ref x0), (.int x1), (.int x2), (.int x3)] 4 = mkF m 0 #[vR (x0), vI (x1), vI (x2), vI (x3)] [] := by first | (simp [entryFrame, mkF, argsToLocals, Value.category]; done) | rfl
theorem r_xU2 (l : Launch) (Z : State) (a0 : Array Value) (hw : own_HW a0 Z) (ws : List Jvm.Cond) (cs1 : Int32) (fv : Value) (h0 : Heap) (n0 : Nat) (O0 : Old Z n0 h0) (G : own_Ctx Z Z.heap cs1 fv) (a2 : Addr) (k2 : ClassId) (cs : List Int32) (ch : Int32) (Va : Arv Z h0 a2 k2 .byte (2 * cs.length).toInt32 (cs.flatMap own_two) (.int (0 : Int32))) (hn : cs.length ≤ 4) (hB : own_Bd cs) (hc0 : ¬ (ch < (0 : Int32))) (hc1 : ¬ ((255 : Int32) < ch)) :
    own_M l Y31_ (head1 (Jvm.Cond.code Y31_ jdk_52_method_47_code 4 (some .int) :: ws) (own_rm_ 3 0 0 43)) #[(.ref a2), (.int ch), (.int (0 : Int32)), (.int cs.length.toInt32)] Z h0 n0 (own_Qix cs ch) (own_rm_ 3 0 0 43).cells (own_rm_ 3 0 0 43).slots := by
  have G0 := G
  refine MetFree.of_bodySF (plainFor_of_name pn_0) hisR ?_
  intro p e s m args below meth c s₁ Bd hml0 hP hK
  obtain ⟨rfl, hZ, hh⟩ := hP
  have hx := Bd.exec
  have hby := Bd.bytes
  have hml : c.maxLocals = 4 := hml0
  have hown := findClass_of_methodNamed Bd.named
  have X0 : Stand p l e (own_rm_ 3 0 0 43) s m #[(.ref a2), (.int ch), (.int (0 : Int32)), (.int cs.length.toInt32)] below meth c s₁ [] 0 0 := Stand.of_body Bd
  have e0 : s₁.heap = h0 := by rw [← hh, Bd.state]; rfl
  have N0 := Fr.nil n0
  have pre0 := own_pre (tb := p.tables) (e := e) (below := below) (T := s₁) (ef_44_34 m a2 ch (0 : Int32) cs.length.toInt32)
  obtain ⟨_, _, ⟨T1, L1, k1, n1⟩, -, X1, ⟨Lc1, hQ1, l1, y1, z1⟩, st1⟩ := Jvm.LawKit.callS X0 hx (y := Y27_) hown (mvT hZ (own_w hw 206 rfl)) (mvT hZ (own_w hw 207 rfl)) (mvT hZ (own_w hw 77 rfl)) (mvT hZ (own_w hw 208 rfl)) (by decide) (backOf (W := 0) (r_cbb l Z a0 hw [] cs1 fv h0 n0 O0 G0 a2 k2 (cs.flatMap own_two) cs.length Va hn) hZ (own_w hw 208 rfl) (own_w hw 77 rfl) (by decide) (by decide)) (g := (mkF m 3 #[vR (a2), vI (ch), vI ((0 : Int32)), vI (cs.length.toInt32)] [(.ref a2), (.int cs.length.toInt32), (.int (0 : Int32))])) rfl (by rw [hml]; rfl) (argsL := [(.int (0 : Int32)), (.int cs.length.toInt32), (.ref a2)]) (rest := []) (lenOf pd_17 rfl) rfl (by show 2 * 0 + _ ≤ _; exact Nat.le_of_eq rfl) (hb hby d44_3) (fun _ _ => ⟨rfl, e0, (by decide : 0 + 0 ≤ _), (by decide : 0 + 0 ≤ _)⟩)
  dsimp only [Pt.U, Pt.locs, Pt.cells, Pt.slots] at X1 l1 y1 z1 st1 hQ1
  subst l1 y1 z1
  obtain ⟨rfl, N1q, e1⟩ := hQ1
  have N1 := Fr.app N0 N1q
  obtain ⟨_, _, ⟨T2, L2, k2, n2⟩, -, X2, ⟨Lc2, hQ2, l2, y2, z2⟩, st2⟩ := Jvm.LawKit.callS X1 hx (y := Y30_) hown (mvT hZ (own_w hw 218 rfl)) (mvT hZ (own_w hw 219 rfl)) (mvT hZ (own_w hw 77 rfl)) (mvT hZ (own_w hw 220 rfl)) (by decide) (backOf (W := 0) (r_xU l Z a0 hw [] cs1 fv h0 n0 O0 G0 a2 k2 cs ch Va hn hB hc0 hc1) hZ (own_w hw 220 rfl) (own_w hw 77 rfl) (by decide) (by decide)) (g := (mkF m 10 #[vR (a2), vI (ch), vI ((0 : Int32)), vI (cs.length.toInt32)] [(.int cs.length.toInt32), (.int (0 : Int32)), (.int ch), (.ref a2)])) rfl (by rw [hml]; rfl) (argsL := [(.ref a2), (.int ch), (.int (0 : Int32)), (.int cs.length.toInt32)]) (rest := []) (lenOf pd_18 rfl) rfl (by show 2 * 0 + _ ≤ _; exact Nat.le_of_eq rfl) (hb hby d44_10) (fun _ _ => ⟨rfl, e1, (by decide : 0 + 0 ≤ _), (by decide : 0 + 0 ≤ _)⟩)
  dsimp only [Pt.U, Pt.locs, Pt.cells, Pt.slots] at X2 l2 y2 z2 st2 hQ2
  subst l2 y2 z2
  obtain ⟨rx2, rfl, N2q, e2, hd2⟩ := hQ2
  have N2 := Fr.app N1 N2q
  obtain ⟨fs, hr, hrun, hended, hW, hsame⟩ := X2.leave (v := some (.int rx2)) (fun h => by rw [Bd.returns] at h; cases h)
  refine ⟨_, _, pre0 _ ?_, hrun, hended, _, _, rfl, ?_, ⟨_, rfl⟩, hW, hsame.mono (by decide) (by decide)⟩
  · show own_St p e below s₁ m 0 #[vR (a2), vI (ch), vI ((0 : Int32)), vI (cs.length.toInt32)] [] _
    refine XS.iloadN X0.here hx rfl (hb hby d44_0) rfl ?_
    refine XS.iloadN X0.here hx rfl (hb hby d44_1) rfl ?_
    refine XS.aloadN X0.here hx rfl (hb hby d44_2) rfl rfl ?_
    show own_St p e below s₁ m 3 #[vR (a2), vI (ch), vI ((0 : Int32)), vI (cs.length.toInt32)] [(.ref a2), (.int cs.length.toInt32), (.int (0 : Int32))] _
    refine st1 _ ?_
    show own_St p e below T1 m 6 #[vR (a2), vI (ch), vI ((0 : Int32)), vI (cs.length.toInt32)] [] _
    refine XS.aloadN X1.here hx rfl (hb hby d44_6) rfl rfl ?_
    refine XS.iloadN X1.here hx rfl (hb hby d44_7) rfl ?_
    refine XS.iloadN X1.here hx rfl (hb hby d44_8) rfl ?_
    refine XS.iloadN X1.here hx rfl (hb hby d44_9) rfl ?_
    show own_St p e below T1 m 10 #[vR (a2), vI (ch), vI ((0 : Int32)), vI (cs.length.toInt32)] [(.int cs.length.toInt32), (.int (0 : Int32)), (.int ch), (.ref a2)] _
    refine st2 _ ?_
    show own_St p e below T2 m 13 #[vR (a2), vI (ch), vI ((0 : Int32)), vI (cs.length.toInt32)] [(.int rx2)] _
    exact retI X2 hx Bd.returns (hb hby d44_13) hr
  · show own_Qix cs ch h0 n0 _ T2.heap _
    rw [e2]
    exact ⟨_, rfl, N2, rfl, hd2⟩
theorem d11_0 : D11_ 0 = .ok (.iload_n 1, 1) := by decide +kernel
theorem d11_1 : D11_ 1 = .ok (.invokestatic 88, 3) := by decide +kernel
theorem pd_19 : parseMethodDescriptor "(I)Z" = some ⟨[.int], some .boolean⟩ := by decide +kernel
theorem d11_4 : D11_ 4 = .ok (.ifCond .ne 5, 3) := by decide +kernel
theorem d11_9 : D11_ 9 = .ok (.iload_n 2, 1) := by decide +kernel
theorem d11_10 : D11_ 10 = .ok (.iconst 0, 1) := by decide +kernel
theorem d11_11 : D11_ 11 = .ok (.invokestatic 92, 3) := by decide +kernel
theorem pd_20 : parseMethodDescriptor "(II)I" = some ⟨[.int, .int], some .int⟩ := by decide +kernel
theorem d11_14 : D11_ 14 = .ok (.istore_n 2, 1) := by decide +kernel
theorem d11_15 : D11_ 15 = .ok (.iload_n 3, 1) := by decide +kernel
theorem d11_16 : D11_ 16 = .ok (.aload_n 0, 1) := by decide +kernel
theorem d11_17 : D11_ 17 = .ok (.arraylength, 1) := by decide +kernel
theorem d11_18 : D11_ 18 = .ok (.invokestatic 38, 3) := by decide +kernel
theorem d11_21 : D11_ 21 = .ok (.istore_n 3, 1) := by decide +kernel
theorem d11_22 : D11_ 22 = .ok (.iload_n 2, 1) := by decide +kernel
theorem d11_23 : D11_ 23 = .ok (.iload_n 3, 1) := by decide +kernel
theorem d11_24 : D11_ 24 = .ok (.if_icmp .lt 5, 3) := by decide +kernel
theorem d11_27 : D11_ 27 = .ok (.iconst (-1), 1) := by decide +kernel
theorem d11_28 : D11_ 28 = .ok (.ireturn, 1) := by decide +kernel
theorem ef_11_35 (m : MethodId) (x0 : Addr) (x1 : Int32) (x2 : Int32) (x3 : Int32) : entryFrame m #[(.ref x0), (.int x1), (.int x2), (.int x3)] 4 = mkF m 0 #[vR (x0), vI (x1), vI (x2), vI (x3)] [] := by first | (simp [entryFrame, mkF, argsToLocals, Value.category]; done) | rfl
theorem r_iL0 (l : Launch) (Z : State) (a0 : Array Value) (hw : own_HW a0 Z) (ws : List Jvm.Cond) (cs1 : Int32) (fv : Value) (h0 : Heap) (n0 : Nat) (O0 : Old Z n0 h0) (G : own_Ctx Z Z.heap cs1 fv) (a2 : Addr) (k2 : ClassId) (cs : List Int32) (ch : Int32) (Va : Arv Z h0 a2 k2 .byte cs.length.toInt32 (cs.map (fun c => .int (nar .byte c.toInt8.toInt32))) (.int (0 : Int32))) (hn : cs.length ≤ 4) (hB : own_Bd cs) (hc0 : ¬ (ch < (0 : Int32))) (hc1 : ¬ ((255 : Int32) < ch)) (hl : own_Lat cs) (h1 : ¬ (1 ≤ cs.length)) :
    own_M l Y32_ (head1 (Jvm.Cond.code Y32_ jdk_43_method_22_code 4 (some .int) :: ws) (own_rm_ 1 0 0 17)) #[(.ref a2), (.int ch), (.int (0 : Int32)), (.int cs.length.toInt32)] Z h0 n0 (own_Qix cs ch) (own_rm_ 1 0 0 17).cells (own_rm_ 1 0 0 17).slots := by
  have G0 := G
  refine MetFree.of_bodySF (plainFor_of_name pn_3) hisR ?_
  intro p e s m args below meth c s₁ Bd hml0 hP hK
  obtain ⟨rfl, hZ, hh⟩ := hP
  have hx := Bd.exec
  have hby := Bd.bytes
  have hml : c.maxLocals = 4 := hml0
  have hown := findClass_of_methodNamed Bd.named
  have X0 : Stand p l e (own_rm_ 1 0 0 17) s m #[(.ref a2), (.int ch), (.int (0 : Int32)), (.int cs.length.toInt32)] below meth c s₁ [] 0 0 := Stand.of_body Bd
  have e0 : s₁.heap = h0 := by rw [← hh, Bd.state]; rfl
  have N0 := Fr.nil n0
  have pre0 := own_pre (tb := p.tables) (e := e) (below := below) (T := s₁) (ef_11_35 m a2 ch (0 : Int32) cs.length.toInt32)
  obtain ⟨_, _, ⟨T1, L1, k1, n1⟩, -, X1, ⟨Lc1, hQ1, l1, y1, z1⟩, st1⟩ := Jvm.LawKit.callS X0 hx (y := Y28_) hown (mvT hZ (own_w hw 61 rfl)) (mvT hZ (own_w hw 62 rfl)) (mvT hZ (own_w hw 59 rfl)) (mvT hZ (own_w hw 63 rfl)) (by decide) (backOf (W := 0) (r_cdI l Z a0 hw [] cs1 fv h0 n0 O0 G0 ch hc0 hc1) hZ (own_w hw 63 rfl) (own_w hw 59 rfl) (by decide) (by decide)) (g := (mkF m 1 #[vR (a2), vI (ch), vI ((0 : Int32)), vI (cs.length.toInt32)] [(.int ch)])) rfl (by rw [hml]; rfl) (argsL := [(.int ch)]) (rest := []) (lenOf pd_19 rfl) rfl (by show 2 * 0 + _ ≤ _; exact Nat.le_of_eq rfl) (hb hby d11_1) (fun _ _ => ⟨rfl, e0, (by decide : 0 + 0 ≤ _), (by decide : 0 + 0 ≤ _)⟩)
  dsimp only [Pt.U, Pt.locs, Pt.cells, Pt.slots] at X1 l1 y1 z1 st1 hQ1
  subst l1 y1 z1
  obtain ⟨rfl, N1q, e1⟩ := hQ1
  have N1 := Fr.app N0 N1q
  obtain ⟨_, _, ⟨T2, L2, k2, n2⟩, -, X2, ⟨Lc2, hQ2, l2, y2, z2⟩, st2⟩ := Jvm.LawKit.callS X1 hx (y := Y21_) hown (mvT hZ (own_w hw 64 rfl)) (mvT hZ (own_w hw 65 rfl)) (mvT hZ (own_w hw 66 rfl)) (mvT hZ (own_w hw 67 rfl)) (by decide) (backOf (W := 0) (r_max0 l Z a0 hw [] cs1 fv h0 n0 O0 G0) hZ (own_w hw 67 rfl) (own_w hw 66 rfl) (by decide) (by decide)) (g := (mkF m 11 #[vR (a2), vI (ch), vI ((0 : Int32)), vI (cs.length.toInt32)] [(.int (0 : Int32)), (.int (0 : Int32))])) rfl (by rw [hml]; rfl) (argsL := [(.int (0 : Int32)), (.int (0 : Int32))]) (rest := []) (lenOf pd_20 rfl) rfl (by show 2 * 0 + _ ≤ _; exact Nat.le_of_eq rfl) (hb hby d11_11) (fun _ _ => ⟨rfl, e1, (by decide : 0 + 0 ≤ _), (by decide : 0 + 0 ≤ _)⟩)
  dsimp only [Pt.U, Pt.locs, Pt.cells, Pt.slots] at X2 l2 y2 z2 st2 hQ2
  subst l2 y2 z2
  obtain ⟨rfl, N2q, e2⟩ := hQ2
  have N2 := Fr.app N1 N2q
  have vc3 := Va
  obtain ⟨cl3, Ar3, qk3, S3, Nn3, Hs3, Gf3⟩ := vc3
  obtain ⟨_, _, ⟨T4, L4, k4, n4⟩, -, X4, ⟨Lc4, hQ4, l4, y4, z4⟩, st4⟩ := Jvm.LawKit.callS X2 hx (y := Y20_) hown (mvT hZ (own_w hw 68 rfl)) (mvT hZ (own_w hw 69 rfl)) (mvT hZ (own_w hw 66 rfl)) (mvT hZ (own_w hw 70 rfl)) (by decide) (backOf (W := 0) (r_minA l Z a0 hw [] cs1 fv h0 n0 O0 G0 cs.length.toInt32 cs.length.toInt32 (own_irr _)) hZ (own_w hw 70 rfl) (own_w hw 66 rfl) (by decide) (by decide)) (g := (mkF m 18 #[vR (a2), vI (ch), vI ((0 : Int32)), vI (cs.length.toInt32)] [(.int cs.length.toInt32), (.int cs.length.toInt32)])) rfl (by rw [hml]; rfl) (argsL := [(.int cs.length.toInt32), (.int cs.length.toInt32)]) (rest := []) (lenOf pd_20 rfl) rfl (by show 2 * 0 + _ ≤ _; exact Nat.le_of_eq rfl) (hb hby d11_18) (fun _ _ => ⟨rfl, e2, (by decide : 0 + 0 ≤ _), (by decide : 0 + 0 ≤ _)⟩)
  dsimp only [Pt.U, Pt.locs, Pt.cells, Pt.slots] at X4 l4 y4 z4 st4 hQ4
  subst l4 y4 z4
  obtain ⟨rfl, N4q, e4⟩ := hQ4
  have N4 := Fr.app N2 N4q
  obtain ⟨fs, hr, hrun, hended, hW, hsame⟩ := X4.leave (v := some (.int (-1 : Int32))) (fun h => by rw [Bd.returns] at h; cases h)
  refine ⟨_, _, pre0 _ ?_, hrun, hended, _, _, rfl, ?_, ⟨_, rfl⟩, hW, hsame.mono (by decide) (by decide)⟩
  · show own_St p e below s₁ m 0 #[vR (a2), vI (ch), vI ((0 : Int32)), vI (cs.length.toInt32)] [] _
    refine XS.iloadN X0.here hx rfl (hb hby d11_0) rfl ?_
    show own_St p e below s₁ m 1 #[vR (a2), vI (ch), vI ((0 : Int32)), vI (cs.length.toInt32)] [(.int ch)] _
    refine st1 _ ?_
    show own_St p e below T1 m 4 #[vR (a2), vI (ch), vI ((0 : Int32)), vI (cs.length.toInt32)] [(.int (1 : Int32))] _
    refine XS.ifYes X1.here hx rfl (pc0 := 4) (pc' := 9) rfl (hb hby d11_4) rfl ((if0 _ _).trans (feq (by decide : ¬ ((1 : Int32) = (0 : Int32)))).2) (by decide) (by decide) ?_
    refine XS.iloadN X1.here hx rfl (hb hby d11_9) rfl ?_
    refine XS.iconst X1.here hx rfl (hb hby d11_10) ?_
    show own_St p e below T1 m 11 #[vR (a2), vI (ch), vI ((0 : Int32)), vI (cs.length.toInt32)] [(.int (0 : Int32)), (.int (0 : Int32))] _
    refine st2 _ ?_
    show own_St p e below T2 m 14 #[vR (a2), vI (ch), vI ((0 : Int32)), vI (cs.length.toInt32)] [(.int (0 : Int32))] _
    refine XS.istoreN X2.here hx rfl (hb hby d11_14) rfl (l' := #[vR (a2), vI (ch), vI ((0 : Int32)), vI (cs.length.toInt32)]) rfl ?_
    refine XS.iloadN X2.here hx rfl (hb hby d11_15) rfl ?_
    refine XS.aloadN X2.here hx rfl (hb hby d11_16) rfl rfl ?_
    show own_St p e below T2 m 17 #[vR (a2), vI (ch), vI ((0 : Int32)), vI (cs.length.toInt32)] [(.ref a2), (.int cs.length.toInt32)] _
    refine X2.arraylength hx (by rw [e2]; exact Ar3.1) (State.isArrayOf_alike hZ.alike Ar3.2.1) (g := (mkF m 17 #[vR (a2), vI (ch), vI ((0 : Int32)), vI (cs.length.toInt32)] [(.ref a2), (.int cs.length.toInt32)])) rfl rfl (hb hby d11_17) _ ?_
    rw [len_of S3 Nn3]
    show own_St p e below T2 m 18 #[vR (a2), vI (ch), vI ((0 : Int32)), vI (cs.length.toInt32)] [(.int cs.length.toInt32), (.int cs.length.toInt32)] _
    refine st4 _ ?_
    show own_St p e below T4 m 21 #[vR (a2), vI (ch), vI ((0 : Int32)), vI (cs.length.toInt32)] [(.int cs.length.toInt32)] _
    refine XS.istoreN X4.here hx rfl (hb hby d11_21) rfl (l' := #[vR (a2), vI (ch), vI ((0 : Int32)), vI (cs.length.toInt32)]) rfl ?_
    refine XS.iloadN X4.here hx rfl (hb hby d11_22) rfl ?_
    refine XS.iloadN X4.here hx rfl (hb hby d11_23) rfl ?_
    refine XS.icmpNo X4.here hx rfl (hb hby d11_24) rfl (flt (own_n00 h1 : ¬ ((0 : Int32) < cs.length.toInt32))).1 ?_
    refine XS.iconst X4.here hx rfl (hb hby d11_27) ?_
    show own_St p e below T4 m 28 #[vR (a2), vI (ch), vI ((0 : Int32)), vI (cs.length.toInt32)] [(.int (-1 : Int32))] _
    exact retI X4 hx Bd.returns (hb hby d11_28) hr
  · show own_Qix cs ch h0 n0 _ T4.heap _
    rw [e4]
    exact ⟨_, rfl, N4, rfl, own_ix0 h1⟩
theorem d11_29 : D11_ 29 = .ok (.aload_n 0, 1) := by decide +kernel
theorem d11_30 : D11_ 30 = .ok (.iload_n 1, 1) := by decide +kernel
theorem d11_31 : D11_ 31 = .ok (.iload_n 2, 1) := by decide +kernel
theorem d11_32 : D11_ 32 = .ok (.iload_n 3, 1) := by decide +kernel
theorem d11_33 : D11_ 33 = .ok (.invokestatic 95, 3) := by decide +kernel
theorem d11_36 : D11_ 36 = .ok (.ireturn, 1) := by decide +kernel
theorem r_iL1 (l : Launch) (Z : State) (a0 : Array Value) (hw : own_HW a0 Z) (ws : List Jvm.Cond) (cs1 : Int32) (fv : Value) (h0 : Heap) (n0 : Nat) (O0 : Old Z n0 h0) (G : own_Ctx Z Z.heap cs1 fv) (a2 : Addr) (k2 : ClassId) (cs : List Int32) (ch : Int32) (Va : Arv Z h0 a2 k2 .byte cs.length.toInt32 (cs.map (fun c => .int (nar .byte c.toInt8.toInt32))) (.int (0 : Int32))) (hn : cs.length ≤ 4) (hB : own_Bd cs) (hc0 : ¬ (ch < (0 : Int32))) (hc1 : ¬ ((255 : Int32) < ch)) (hl : own_Lat cs) (h1 : 1 ≤ cs.length) :
    own_M l Y32_ (head1 (Jvm.Cond.code Y32_ jdk_43_method_22_code 4 (some .int) :: ws) (own_rm_ 1 0 0 17)) #[(.ref a2), (.int ch), (.int (0 : Int32)), (.int cs.length.toInt32)] Z h0 n0 (own_Qix cs ch) (own_rm_ 1 0 0 17).cells (own_rm_ 1 0 0 17).slots := by
  have G0 := G
  refine MetFree.of_bodySF (plainFor_of_name pn_3) hisR ?_
  intro p e s m args below meth c s₁ Bd hml0 hP hK
  obtain ⟨rfl, hZ, hh⟩ := hP
  have hx := Bd.exec
  have hby := Bd.bytes
  have hml : c.maxLocals = 4 := hml0
  have hown := findClass_of_methodNamed Bd.named
  have X0 : Stand p l e (own_rm_ 1 0 0 17) s m #[(.ref a2), (.int ch), (.int (0 : Int32)), (.int cs.length.toInt32)] below meth c s₁ [] 0 0 := Stand.of_body Bd
  have e0 : s₁.heap = h0 := by rw [← hh, Bd.state]; rfl
  have N0 := Fr.nil n0
  have pre0 := own_pre (tb := p.tables) (e := e) (below := below) (T := s₁) (ef_11_35 m a2 ch (0 : Int32) cs.length.toInt32)
  obtain ⟨_, _, ⟨T1, L1, k1, n1⟩, -, X1, ⟨Lc1, hQ1, l1, y1, z1⟩, st1⟩ := Jvm.LawKit.callS X0 hx (y := Y28_) hown (mvT hZ (own_w hw 61 rfl)) (mvT hZ (own_w hw 62 rfl)) (mvT hZ (own_w hw 59 rfl)) (mvT hZ (own_w hw 63 rfl)) (by decide) (backOf (W := 0) (r_cdI l Z a0 hw [] cs1 fv h0 n0 O0 G0 ch hc0 hc1) hZ (own_w hw 63 rfl) (own_w hw 59 rfl) (by decide) (by decide)) (g := (mkF m 1 #[vR (a2), vI (ch), vI ((0 : Int32)), vI (cs.length.toInt32)] [(.int ch)])) rfl (by rw [hml]; rfl) (argsL := [(.int ch)]) (rest := []) (lenOf pd_19 rfl) rfl (by show 2 * 0 + _ ≤ _; exact Nat.le_of_eq rfl) (hb hby d11_1) (fun _ _ => ⟨rfl, e0, (by decide : 0 + 0 ≤ _), (by decide : 0 + 0 ≤ _)⟩)
  dsimp only [Pt.U, Pt.locs, Pt.cells, Pt.slots] at X1 l1 y1 z1 st1 hQ1
  subst l1 y1 z1
  obtain ⟨rfl, N1q, e1⟩ := hQ1
  have N1 := Fr.app N0 N1q
  obtain ⟨_, _, ⟨T2, L2, k2, n2⟩, -, X2, ⟨Lc2, hQ2, l2, y2, z2⟩, st2⟩ := Jvm.LawKit.callS X1 hx (y := Y21_) hown (mvT hZ (own_w hw 64 rfl)) (mvT hZ (own_w hw 65 rfl)) (mvT hZ (own_w hw 66 rfl)) (mvT hZ (own_w hw 67 rfl)) (by decide) (backOf (W := 0) (r_max0 l Z a0 hw [] cs1 fv h0 n0 O0 G0) hZ (own_w hw 67 rfl) (own_w hw 66 rfl) (by decide) (by decide)) (g := (mkF m 11 #[vR (a2), vI (ch), vI ((0 : Int32)), vI (cs.length.toInt32)] [(.int (0 : Int32)), (.int (0 : Int32))])) rfl (by rw [hml]; rfl) (argsL := [(.int (0 : Int32)), (.int (0 : Int32))]) (rest := []) (lenOf pd_20 rfl) rfl (by show 2 * 0 + _ ≤ _; exact Nat.le_of_eq rfl) (hb hby d11_11) (fun _ _ => ⟨rfl, e1, (by decide : 0 + 0 ≤ _), (by decide : 0 + 0 ≤ _)⟩)
  dsimp only [Pt.U, Pt.locs, Pt.cells, Pt.slots] at X2 l2 y2 z2 st2 hQ2
  subst l2 y2 z2
  obtain ⟨rfl, N2q, e2⟩ := hQ2
  have N2 := Fr.app N1 N2q
  have vc3 := Va
  obtain ⟨cl3, Ar3, qk3, S3, Nn3, Hs3, Gf3⟩ := vc3
  obtain ⟨_, _, ⟨T4, L4, k4, n4⟩, -, X4, ⟨Lc4, hQ4, l4, y4, z4⟩, st4⟩ := Jvm.LawKit.callS X2 hx (y := Y20_) hown (mvT hZ (own_w hw 68 rfl)) (mvT hZ (own_w hw 69 rfl)) (mvT hZ (own_w hw 66 rfl)) (mvT hZ (own_w hw 70 rfl)) (by decide) (backOf (W := 0) (r_minA l Z a0 hw [] cs1 fv h0 n0 O0 G0 cs.length.toInt32 cs.length.toInt32 (own_irr _)) hZ (own_w hw 70 rfl) (own_w hw 66 rfl) (by decide) (by decide)) (g := (mkF m 18 #[vR (a2), vI (ch), vI ((0 : Int32)), vI (cs.length.toInt32)] [(.int cs.length.toInt32), (.int cs.length.toInt32)])) rfl (by rw [hml]; rfl) (argsL := [(.int cs.length.toInt32), (.int cs.length.toInt32)]) (rest := []) (lenOf pd_20 rfl) rfl (by show 2 * 0 + _ ≤ _; exact Nat.le_of_eq rfl) (hb hby d11_18) (fun _ _ => ⟨rfl, e2, (by decide : 0 + 0 ≤ _), (by decide : 0 + 0 ≤ _)⟩)
  dsimp only [Pt.U, Pt.locs, Pt.cells, Pt.slots] at X4 l4 y4 z4 st4 hQ4
  subst l4 y4 z4
  obtain ⟨rfl, N4q, e4⟩ := hQ4
  have N4 := Fr.app N2 N4q
  obtain ⟨_, _, ⟨T5, L5, k5, n5⟩, -, X5, ⟨Lc5, hQ5, l5, y5, z5⟩, st5⟩ := Jvm.LawKit.callS X4 hx (y := Y29_) hown (mvT hZ (own_w hw 91 rfl)) (mvT hZ (own_w hw 92 rfl)) (mvT hZ (own_w hw 59 rfl)) (mvT hZ (own_w hw 93 rfl)) (by decide) (backOf (W := 0) (r_xL l Z a0 hw [] cs1 fv h0 n0 O0 G0 a2 k2 cs ch Va hn hB hc0 hc1 hl) hZ (own_w hw 93 rfl) (own_w hw 59 rfl) (by decide) (by decide)) (g := (mkF m 33 #[vR (a2), vI (ch), vI ((0 : Int32)), vI (cs.length.toInt32)] [(.int cs.length.toInt32), (.int (0 : Int32)), (.int ch), (.ref a2)])) rfl (by rw [hml]; rfl) (argsL := [(.ref a2), (.int ch), (.int (0 : Int32)), (.int cs.length.toInt32)]) (rest := []) (lenOf pd_18 rfl) rfl (by show 2 * 0 + _ ≤ _; exact Nat.le_of_eq rfl) (hb hby d11_33) (fun _ _ => ⟨rfl, e4, (by decide : 0 + 0 ≤ _), (by decide : 0 + 0 ≤ _)⟩)
  dsimp only [Pt.U, Pt.locs, Pt.cells, Pt.slots] at X5 l5 y5 z5 st5 hQ5
  subst l5 y5 z5
  obtain ⟨rx5, rfl, N5q, e5, hd5⟩ := hQ5
  have N5 := Fr.app N4 N5q
  obtain ⟨fs, hr, hrun, hended, hW, hsame⟩ := X5.leave (v := some (.int rx5)) (fun h => by rw [Bd.returns] at h; cases h)
  refine ⟨_, _, pre0 _ ?_, hrun, hended, _, _, rfl, ?_, ⟨_, rfl⟩, hW, hsame.mono (by decide) (by decide)⟩
  · show own_St p e below s₁ m 0 #[vR (a2), vI (ch), vI ((0 : Int32)), vI (cs.length.toInt32)] [] _
    refine XS.iloadN X0.here hx rfl (hb hby d11_0) rfl ?_
    show own_St p e below s₁ m 1 #[vR (a2), vI (ch), vI ((0 : Int32)), vI (cs.length.toInt32)] [(.int ch)] _
    refine st1 _ ?_
    show own_St p e below T1 m 4 #[vR (a2), vI (ch), vI ((0 : Int32)), vI (cs.length.toInt32)] [(.int (1 : Int32))] _
    refine XS.ifYes X1.here hx rfl (pc0 := 4) (pc' := 9) rfl (hb hby d11_4) rfl ((if0 _ _).trans (feq (by decide : ¬ ((1 : Int32) = (0 : Int32)))).2) (by decide) (by decide) ?_
    refine XS.iloadN X1.here hx rfl (hb hby d11_9) rfl ?_
    refine XS.iconst X1.here hx rfl (hb hby d11_10) ?_
    show own_St p e below T1 m 11 #[vR (a2), vI (ch), vI ((0 : Int32)), vI (cs.length.toInt32)] [(.int (0 : Int32)), (.int (0 : Int32))] _
    refine st2 _ ?_
    show own_St p e below T2 m 14 #[vR (a2), vI (ch), vI ((0 : Int32)), vI (cs.length.toInt32)] [(.int (0 : Int32))] _
    refine XS.istoreN X2.here hx rfl (hb hby d11_14) rfl (l' := #[vR (a2), vI (ch), vI ((0 : Int32)), vI (cs.length.toInt32)]) rfl ?_
    refine XS.iloadN X2.here hx rfl (hb hby d11_15) rfl ?_
    refine XS.aloadN X2.here hx rfl (hb hby d11_16) rfl rfl ?_
    show own_St p e below T2 m 17 #[vR (a2), vI (ch), vI ((0 : Int32)), vI (cs.length.toInt32)] [(.ref a2), (.int cs.length.toInt32)] _
    refine X2.arraylength hx (by rw [e2]; exact Ar3.1) (State.isArrayOf_alike hZ.alike Ar3.2.1) (g := (mkF m 17 #[vR (a2), vI (ch), vI ((0 : Int32)), vI (cs.length.toInt32)] [(.ref a2), (.int cs.length.toInt32)])) rfl rfl (hb hby d11_17) _ ?_
    rw [len_of S3 Nn3]
    show own_St p e below T2 m 18 #[vR (a2), vI (ch), vI ((0 : Int32)), vI (cs.length.toInt32)] [(.int cs.length.toInt32), (.int cs.length.toInt32)] _
    refine st4 _ ?_
    show own_St p e below T4 m 21 #[vR (a2), vI (ch), vI ((0 : Int32)), vI (cs.length.toInt32)] [(.int cs.length.toInt32)] _
    refine XS.istoreN X4.here hx rfl (hb hby d11_21) rfl (l' := #[vR (a2), vI (ch), vI ((0 : Int32)), vI (cs.length.toInt32)]) rfl ?_
    refine XS.iloadN X4.here hx rfl (hb hby d11_22) rfl ?_
    refine XS.iloadN X4.here hx rfl (hb hby d11_23) rfl ?_
    refine XS.icmpYes X4.here hx rfl (pc0 := 24) (pc' := 29) rfl (hb hby d11_24) rfl (tlt ((own_n0 h1 hn).2 : (0 : Int32) < cs.length.toInt32)).1 (by decide) (by decide) ?_
    refine XS.aloadN X4.here hx rfl (hb hby d11_29) rfl rfl ?_
    refine XS.iloadN X4.here hx rfl (hb hby d11_30) rfl ?_
    refine XS.iloadN X4.here hx rfl (hb hby d11_31) rfl ?_
    refine XS.iloadN X4.here hx rfl (hb hby d11_32) rfl ?_
    show own_St p e below T4 m 33 #[vR (a2), vI (ch), vI ((0 : Int32)), vI (cs.length.toInt32)] [(.int cs.length.toInt32), (.int (0 : Int32)), (.int ch), (.ref a2)] _
    refine st5 _ ?_
    show own_St p e below T5 m 36 #[vR (a2), vI (ch), vI ((0 : Int32)), vI (cs.length.toInt32)] [(.int rx5)] _
    exact retI X5 hx Bd.returns (hb hby d11_36) hr
  · show own_Qix cs ch h0 n0 _ T5.heap _
    rw [e5]
    exact ⟨_, rfl, N5, rfl, hd5⟩
theorem r_iL (l : Launch) (Z : State) (a0 : Array Value) (hw : own_HW a0 Z) (ws : List Jvm.Cond) (cs1 : Int32) (fv : Value) (h0 : Heap) (n0 : Nat) (O0 : Old Z n0 h0) (G : own_Ctx Z Z.heap cs1 fv) (a2 : Addr) (k2 : ClassId) (cs : List Int32) (ch : Int32) (Va : Arv Z h0 a2 k2 .byte cs.length.toInt32 (cs.map (fun c => .int (nar .byte c.toInt8.toInt32))) (.int (0 : Int32))) (hn : cs.length ≤ 4) (hB : own_Bd cs) (hc0 : ¬ (ch < (0 : Int32))) (hc1 : ¬ ((255 : Int32) < ch)) (hl : own_Lat cs) :
    own_M l Y32_ (head1 (Jvm.Cond.code Y32_ jdk_43_method_22_code 4 (some .int) :: ws) (own_rm_ 1 0 0 17)) #[(.ref a2), (.int ch), (.int (0 : Int32)), (.int cs.length.toInt32)] Z h0 n0 (own_Qix cs ch) (own_rm_ 1 0 0 17).cells (own_rm_ 1 0 0 17).slots := by
  rcases Classical.em (1 ≤ cs.length) with h1 | h1
  · exact r_iL1 l Z a0 hw ws cs1 fv h0 n0 O0 G a2 k2 cs ch Va hn hB hc0 hc1 hl h1
  · exact r_iL0 l Z a0 hw ws cs1 fv h0 n0 O0 G a2 k2 cs ch Va hn hB hc0 hc1 hl h1
theorem d43_0 : D43_ 0 = .ok (.iload_n 2, 1) := by decide +kernel
theorem d43_1 : D43_ 1 = .ok (.iconst 0, 1) := by decide +kernel
theorem d43_2 : D43_ 2 = .ok (.invokestatic 224, 3) := by decide +kernel
theorem d43_5 : D43_ 5 = .ok (.istore_n 2, 1) := by decide +kernel
theorem d43_6 : D43_ 6 = .ok (.iload_n 3, 1) := by decide +kernel
theorem d43_7 : D43_ 7 = .ok (.aload_n 0, 1) := by decide +kernel
theorem d43_8 : D43_ 8 = .ok (.arraylength, 1) := by decide +kernel
theorem d43_9 : D43_ 9 = .ok (.iconst 1, 1) := by decide +kernel
theorem d43_10 : D43_ 10 = .ok (.ishr, 1) := by decide +kernel
theorem d43_11 : D43_ 11 = .ok (.invokestatic 183, 3) := by decide +kernel
theorem d43_14 : D43_ 14 = .ok (.istore_n 3, 1) := by decide +kernel
theorem d43_15 : D43_ 15 = .ok (.iload_n 2, 1) := by decide +kernel
theorem d43_16 : D43_ 16 = .ok (.iload_n 3, 1) := by decide +kernel
theorem d43_17 : D43_ 17 = .ok (.if_icmp .lt 5, 3) := by decide +kernel
theorem d43_20 : D43_ 20 = .ok (.iconst (-1), 1) := by decide +kernel
theorem d43_21 : D43_ 21 = .ok (.ireturn, 1) := by decide +kernel
theorem ef_43_36 (m : MethodId) (x0 : Addr) (x1 : Int32) (x2 : Int32) (x3 : Int32) : entryFrame m #[(.ref x0), (.int x1), (.int x2), (.int x3)] 4 = mkF m 0 #[vR (x0), vI (x1), vI (x2), vI (x3)] [] := by first | (simp [entryFrame, mkF, argsToLocals, Value.category]; done) | rfl
theorem r_iU0 (l : Launch) (Z : State) (a0 : Array Value) (hw : own_HW a0 Z) (ws : List Jvm.Cond) (cs1 : Int32) (fv : Value) (h0 : Heap) (n0 : Nat) (O0 : Old Z n0 h0) (G : own_Ctx Z Z.heap cs1 fv) (a2 : Addr) (k2 : ClassId) (cs : List Int32) (ch : Int32) (Va : Arv Z h0 a2 k2 .byte (2 * cs.length).toInt32 (cs.flatMap own_two) (.int (0 : Int32))) (hn : cs.length ≤ 4) (hB : own_Bd cs) (hc0 : ¬ (ch < (0 : Int32))) (hc1 : ¬ ((255 : Int32) < ch)) (h1 : ¬ (1 ≤ cs.length)) :
    own_M l Y33_ (head1 (Jvm.Cond.code Y33_ jdk_52_method_40_code 4 (some .int) :: ws) (own_rm_ 4 0 0 58)) #[(.ref a2), (.int ch), (.int (0 : Int32)), (.int cs.length.toInt32)] Z h0 n0 (own_Qix cs ch) (own_rm_ 4 0 0 58).cells (own_rm_ 4 0 0 58).slots := by
  have G0 := G
  refine MetFree.of_bodySF (plainFor_of_name pn_0) hisR ?_
  intro p e s m args below meth c s₁ Bd hml0 hP hK
  obtain ⟨rfl, hZ, hh⟩ := hP
  have hx := Bd.exec
  have hby := Bd.bytes
  have hml : c.maxLocals = 4 := hml0
  have hown := findClass_of_methodNamed Bd.named
  have X0 : Stand p l e (own_rm_ 4 0 0 58) s m #[(.ref a2), (.int ch), (.int (0 : Int32)), (.int cs.length.toInt32)] below meth c s₁ [] 0 0 := Stand.of_body Bd
  have e0 : s₁.heap = h0 := by rw [← hh, Bd.state]; rfl
  have N0 := Fr.nil n0
  have pre0 := own_pre (tb := p.tables) (e := e) (below := below) (T := s₁) (ef_43_36 m a2 ch (0 : Int32) cs.length.toInt32)
  obtain ⟨_, _, ⟨T1, L1, k1, n1⟩, -, X1, ⟨Lc1, hQ1, l1, y1, z1⟩, st1⟩ := Jvm.LawKit.callS X0 hx (y := Y21_) hown (mvT hZ (own_w hw 200 rfl)) (mvT hZ (own_w hw 65 rfl)) (mvT hZ (own_w hw 66 rfl)) (mvT hZ (own_w hw 67 rfl)) (by decide) (backOf (W := 0) (r_max0 l Z a0 hw [] cs1 fv h0 n0 O0 G0) hZ (own_w hw 67 rfl) (own_w hw 66 rfl) (by decide) (by decide)) (g := (mkF m 2 #[vR (a2), vI (ch), vI ((0 : Int32)), vI (cs.length.toInt32)] [(.int (0 : Int32)), (.int (0 : Int32))])) rfl (by rw [hml]; rfl) (argsL := [(.int (0 : Int32)), (.int (0 : Int32))]) (rest := []) (lenOf pd_20 rfl) rfl (by show 2 * 0 + _ ≤ _; exact Nat.le_of_eq rfl) (hb hby d43_2) (fun _ _ => ⟨rfl, e0, (by decide : 0 + 0 ≤ _), (by decide : 0 + 0 ≤ _)⟩)
  dsimp only [Pt.U, Pt.locs, Pt.cells, Pt.slots] at X1 l1 y1 z1 st1 hQ1
  subst l1 y1 z1
  obtain ⟨rfl, N1q, e1⟩ := hQ1
  have N1 := Fr.app N0 N1q
  have vc2 := Va
  obtain ⟨cl2, Ar2, qk2, S2, Nn2, Hs2, Gf2⟩ := vc2
  obtain ⟨_, _, ⟨T3, L3, k3, n3⟩, -, X3, ⟨Lc3, hQ3, l3, y3, z3⟩, st3⟩ := Jvm.LawKit.callS X1 hx (y := Y20_) hown (mvT hZ (own_w hw 201 rfl)) (mvT hZ (own_w hw 69 rfl)) (mvT hZ (own_w hw 66 rfl)) (mvT hZ (own_w hw 70 rfl)) (by decide) (backOf (W := 0) (r_minA l Z a0 hw [] cs1 fv h0 n0 O0 G0 cs.length.toInt32 cs.length.toInt32 (own_irr _)) hZ (own_w hw 70 rfl) (own_w hw 66 rfl) (by decide) (by decide)) (g := (mkF m 11 #[vR (a2), vI (ch), vI ((0 : Int32)), vI (cs.length.toInt32)] [(.int cs.length.toInt32), (.int cs.length.toInt32)])) rfl (by rw [hml]; rfl) (argsL := [(.int cs.length.toInt32), (.int cs.length.toInt32)]) (rest := []) (lenOf pd_20 rfl) rfl (by show 2 * 0 + _ ≤ _; exact Nat.le_of_eq rfl) (hb hby d43_11) (fun _ _ => ⟨rfl, e1, (by decide : 0 + 0 ≤ _), (by decide : 0 + 0 ≤ _)⟩)
  dsimp only [Pt.U, Pt.locs, Pt.cells, Pt.slots] at X3 l3 y3 z3 st3 hQ3
  subst l3 y3 z3
  obtain ⟨rfl, N3q, e3⟩ := hQ3
  have N3 := Fr.app N1 N3q
  obtain ⟨fs, hr, hrun, hended, hW, hsame⟩ := X3.leave (v := some (.int (-1 : Int32))) (fun h => by rw [Bd.returns] at h; cases h)
  refine ⟨_, _, pre0 _ ?_, hrun, hended, _, _, rfl, ?_, ⟨_, rfl⟩, hW, hsame.mono (by decide) (by decide)⟩
  · show own_St p e below s₁ m 0 #[vR (a2), vI (ch), vI ((0 : Int32)), vI (cs.length.toInt32)] [] _
    refine XS.iloadN X0.here hx rfl (hb hby d43_0) rfl ?_
    refine XS.iconst X0.here hx rfl (hb hby d43_1) ?_
    show own_St p e below s₁ m 2 #[vR (a2), vI (ch), vI ((0 : Int32)), vI (cs.length.toInt32)] [(.int (0 : Int32)), (.int (0 : Int32))] _
    refine st1 _ ?_
    show own_St p e below T1 m 5 #[vR (a2), vI (ch), vI ((0 : Int32)), vI (cs.length.toInt32)] [(.int (0 : Int32))] _
    refine XS.istoreN X1.here hx rfl (hb hby d43_5) rfl (l' := #[vR (a2), vI (ch), vI ((0 : Int32)), vI (cs.length.toInt32)]) rfl ?_
    refine XS.iloadN X1.here hx rfl (hb hby d43_6) rfl ?_
    refine XS.aloadN X1.here hx rfl (hb hby d43_7) rfl rfl ?_
    show own_St p e below T1 m 8 #[vR (a2), vI (ch), vI ((0 : Int32)), vI (cs.length.toInt32)] [(.ref a2), (.int cs.length.toInt32)] _
    refine X1.arraylength hx (by rw [e1]; exact Ar2.1) (State.isArrayOf_alike hZ.alike Ar2.2.1) (g := (mkF m 8 #[vR (a2), vI (ch), vI ((0 : Int32)), vI (cs.length.toInt32)] [(.ref a2), (.int cs.length.toInt32)])) rfl rfl (hb hby d43_8) _ ?_
    rw [len_of S2 Nn2]
    show own_St p e below T1 m 9 #[vR (a2), vI (ch), vI ((0 : Int32)), vI (cs.length.toInt32)] [(.int (2 * cs.length).toInt32), (.int cs.length.toInt32)] _
    refine XS.iconst X1.here hx rfl (hb hby d43_9) ?_
    refine XS.ishr X1.here hx rfl (hb hby d43_10) rfl ?_
    show own_St p e below T1 m 11 #[vR (a2), vI (ch), vI ((0 : Int32)), vI (cs.length.toInt32)] [(.int ((2 * cs.length).toInt32 >>> ((1 : Int32) &&& 31))), (.int cs.length.toInt32)] _
    rw [own_shr1 (i := cs.length) (own_4 hn)]
    show own_St p e below T1 m 11 #[vR (a2), vI (ch), vI ((0 : Int32)), vI (cs.length.toInt32)] [(.int cs.length.toInt32), (.int cs.length.toInt32)] _
    refine st3 _ ?_
    show own_St p e below T3 m 14 #[vR (a2), vI (ch), vI ((0 : Int32)), vI (cs.length.toInt32)] [(.int cs.length.toInt32)] _
    refine XS.istoreN X3.here hx rfl (hb hby d43_14) rfl (l' := #[vR (a2), vI (ch), vI ((0 : Int32)), vI (cs.length.toInt32)]) rfl ?_
    refine XS.iloadN X3.here hx rfl (hb hby d43_15) rfl ?_
    refine XS.iloadN X3.here hx rfl (hb hby d43_16) rfl ?_
    refine XS.icmpNo X3.here hx rfl (hb hby d43_17) rfl (flt (own_n00 h1 : ¬ ((0 : Int32) < cs.length.toInt32))).1 ?_
    refine XS.iconst X3.here hx rfl (hb hby d43_20) ?_
    show own_St p e below T3 m 21 #[vR (a2), vI (ch), vI ((0 : Int32)), vI (cs.length.toInt32)] [(.int (-1 : Int32))] _
    exact retI X3 hx Bd.returns (hb hby d43_21) hr
  · show own_Qix cs ch h0 n0 _ T3.heap _
    rw [e3]
    exact ⟨_, rfl, N3, rfl, own_ix0 h1⟩
theorem d43_22 : D43_ 22 = .ok (.iload_n 1, 1) := by decide +kernel
theorem d43_23 : D43_ 23 = .ok (.ldc 227, 2) := by decide +kernel
theorem d43_25 : D43_ 25 = .ok (.if_icmp .ge 11, 3) := by decide +kernel
theorem d43_28 : D43_ 28 = .ok (.aload_n 0, 1) := by decide +kernel
theorem d43_29 : D43_ 29 = .ok (.iload_n 1, 1) := by decide +kernel
theorem d43_30 : D43_ 30 = .ok (.iload_n 2, 1) := by decide +kernel
theorem d43_31 : D43_ 31 = .ok (.iload_n 3, 1) := by decide +kernel
theorem d43_32 : D43_ 32 = .ok (.invokestatic 228, 3) := by decide +kernel
theorem d43_35 : D43_ 35 = .ok (.ireturn, 1) := by decide +kernel
theorem r_iU1 (l : Launch) (Z : State) (a0 : Array Value) (hw : own_HW a0 Z) (ws : List Jvm.Cond) (cs1 : Int32) (fv : Value) (h0 : Heap) (n0 : Nat) (O0 : Old Z n0 h0) (G : own_Ctx Z Z.heap cs1 fv) (a2 : Addr) (k2 : ClassId) (cs : List Int32) (ch : Int32) (Va : Arv Z h0 a2 k2 .byte (2 * cs.length).toInt32 (cs.flatMap own_two) (.int (0 : Int32))) (hn : cs.length ≤ 4) (hB : own_Bd cs) (hc0 : ¬ (ch < (0 : Int32))) (hc1 : ¬ ((255 : Int32) < ch)) (h1 : 1 ≤ cs.length) :
    own_M l Y33_ (head1 (Jvm.Cond.code Y33_ jdk_52_method_40_code 4 (some .int) :: ws) (own_rm_ 4 0 0 58)) #[(.ref a2), (.int ch), (.int (0 : Int32)), (.int cs.length.toInt32)] Z h0 n0 (own_Qix cs ch) (own_rm_ 4 0 0 58).cells (own_rm_ 4 0 0 58).slots := by
  have G0 := G
  refine MetFree.of_bodySF (plainFor_of_name pn_0) hisR ?_
  intro p e s m args below meth c s₁ Bd hml0 hP hK
  obtain ⟨rfl, hZ, hh⟩ := hP
  have hx := Bd.exec
  have hby := Bd.bytes
  have hml : c.maxLocals = 4 := hml0
  have hown := findClass_of_methodNamed Bd.named
  have X0 : Stand p l e (own_rm_ 4 0 0 58) s m #[(.ref a2), (.int ch), (.int (0 : Int32)), (.int cs.length.toInt32)] below meth c s₁ [] 0 0 := Stand.of_body Bd
  have e0 : s₁.heap = h0 := by rw [← hh, Bd.state]; rfl
  have N0 := Fr.nil n0
  have pre0 := own_pre (tb := p.tables) (e := e) (below := below) (T := s₁) (ef_43_36 m a2 ch (0 : Int32) cs.length.toInt32)
  obtain ⟨_, _, ⟨T1, L1, k1, n1⟩, -, X1, ⟨Lc1, hQ1, l1, y1, z1⟩, st1⟩ := Jvm.LawKit.callS X0 hx (y := Y21_) hown (mvT hZ (own_w hw 200 rfl)) (mvT hZ (own_w hw 65 rfl)) (mvT hZ (own_w hw 66 rfl)) (mvT hZ (own_w hw 67 rfl)) (by decide) (backOf (W := 0) (r_max0 l Z a0 hw [] cs1 fv h0 n0 O0 G0) hZ (own_w hw 67 rfl) (own_w hw 66 rfl) (by decide) (by decide)) (g := (mkF m 2 #[vR (a2), vI (ch), vI ((0 : Int32)), vI (cs.length.toInt32)] [(.int (0 : Int32)), (.int (0 : Int32))])) rfl (by rw [hml]; rfl) (argsL := [(.int (0 : Int32)), (.int (0 : Int32))]) (rest := []) (lenOf pd_20 rfl) rfl (by show 2 * 0 + _ ≤ _; exact Nat.le_of_eq rfl) (hb hby d43_2) (fun _ _ => ⟨rfl, e0, (by decide : 0 + 0 ≤ _), (by decide : 0 + 0 ≤ _)⟩)
  dsimp only [Pt.U, Pt.locs, Pt.cells, Pt.slots] at X1 l1 y1 z1 st1 hQ1
  subst l1 y1 z1
  obtain ⟨rfl, N1q, e1⟩ := hQ1
  have N1 := Fr.app N0 N1q
  have vc2 := Va
  obtain ⟨cl2, Ar2, qk2, S2, Nn2, Hs2, Gf2⟩ := vc2
  obtain ⟨_, _, ⟨T3, L3, k3, n3⟩, -, X3, ⟨Lc3, hQ3, l3, y3, z3⟩, st3⟩ := Jvm.LawKit.callS X1 hx (y := Y20_) hown (mvT hZ (own_w hw 201 rfl)) (mvT hZ (own_w hw 69 rfl)) (mvT hZ (own_w hw 66 rfl)) (mvT hZ (own_w hw 70 rfl)) (by decide) (backOf (W := 0) (r_minA l Z a0 hw [] cs1 fv h0 n0 O0 G0 cs.length.toInt32 cs.length.toInt32 (own_irr _)) hZ (own_w hw 70 rfl) (own_w hw 66 rfl) (by decide) (by decide)) (g := (mkF m 11 #[vR (a2), vI (ch), vI ((0 : Int32)), vI (cs.length.toInt32)] [(.int cs.length.toInt32), (.int cs.length.toInt32)])) rfl (by rw [hml]; rfl) (argsL := [(.int cs.length.toInt32), (.int cs.length.toInt32)]) (rest := []) (lenOf pd_20 rfl) rfl (by show 2 * 0 + _ ≤ _; exact Nat.le_of_eq rfl) (hb hby d43_11) (fun _ _ => ⟨rfl, e1, (by decide : 0 + 0 ≤ _), (by decide : 0 + 0 ≤ _)⟩)
  dsimp only [Pt.U, Pt.locs, Pt.cells, Pt.slots] at X3 l3 y3 z3 st3 hQ3
  subst l3 y3 z3
  obtain ⟨rfl, N3q, e3⟩ := hQ3
  have N3 := Fr.app N1 N3q
  obtain ⟨_, _, ⟨T4, L4, k4, n4⟩, -, X4, ⟨Lc4, hQ4, l4, y4, z4⟩, st4⟩ := Jvm.LawKit.callS X3 hx (y := Y31_) hown (mvT hZ (own_w hw 203 rfl)) (mvT hZ (own_w hw 204 rfl)) (mvT hZ (own_w hw 77 rfl)) (mvT hZ (own_w hw 205 rfl)) (by decide) (backOf (W := 0) (r_xU2 l Z a0 hw [] cs1 fv h0 n0 O0 G0 a2 k2 cs ch Va hn hB hc0 hc1) hZ (own_w hw 205 rfl) (own_w hw 77 rfl) (by decide) (by decide)) (g := (mkF m 32 #[vR (a2), vI (ch), vI ((0 : Int32)), vI (cs.length.toInt32)] [(.int cs.length.toInt32), (.int (0 : Int32)), (.int ch), (.ref a2)])) rfl (by rw [hml]; rfl) (argsL := [(.ref a2), (.int ch), (.int (0 : Int32)), (.int cs.length.toInt32)]) (rest := []) (lenOf pd_18 rfl) rfl (by show 2 * 0 + _ ≤ _; exact Nat.le_of_eq rfl) (hb hby d43_32) (fun _ _ => ⟨rfl, e3, (by decide : 0 + 0 ≤ _), (by decide : 0 + 0 ≤ _)⟩)
  dsimp only [Pt.U, Pt.locs, Pt.cells, Pt.slots] at X4 l4 y4 z4 st4 hQ4
  subst l4 y4 z4
  obtain ⟨rx4, rfl, N4q, e4, hd4⟩ := hQ4
  have N4 := Fr.app N3 N4q
  obtain ⟨fs, hr, hrun, hended, hW, hsame⟩ := X4.leave (v := some (.int rx4)) (fun h => by rw [Bd.returns] at h; cases h)
  refine ⟨_, _, pre0 _ ?_, hrun, hended, _, _, rfl, ?_, ⟨_, rfl⟩, hW, hsame.mono (by decide) (by decide)⟩
  · show own_St p e below s₁ m 0 #[vR (a2), vI (ch), vI ((0 : Int32)), vI (cs.length.toInt32)] [] _
    refine XS.iloadN X0.here hx rfl (hb hby d43_0) rfl ?_
    refine XS.iconst X0.here hx rfl (hb hby d43_1) ?_
    show own_St p e below s₁ m 2 #[vR (a2), vI (ch), vI ((0 : Int32)), vI (cs.length.toInt32)] [(.int (0 : Int32)), (.int (0 : Int32))] _
    refine st1 _ ?_
    show own_St p e below T1 m 5 #[vR (a2), vI (ch), vI ((0 : Int32)), vI (cs.length.toInt32)] [(.int (0 : Int32))] _
    refine XS.istoreN X1.here hx rfl (hb hby d43_5) rfl (l' := #[vR (a2), vI (ch), vI ((0 : Int32)), vI (cs.length.toInt32)]) rfl ?_
    refine XS.iloadN X1.here hx rfl (hb hby d43_6) rfl ?_
    refine XS.aloadN X1.here hx rfl (hb hby d43_7) rfl rfl ?_
    show own_St p e below T1 m 8 #[vR (a2), vI (ch), vI ((0 : Int32)), vI (cs.length.toInt32)] [(.ref a2), (.int cs.length.toInt32)] _
    refine X1.arraylength hx (by rw [e1]; exact Ar2.1) (State.isArrayOf_alike hZ.alike Ar2.2.1) (g := (mkF m 8 #[vR (a2), vI (ch), vI ((0 : Int32)), vI (cs.length.toInt32)] [(.ref a2), (.int cs.length.toInt32)])) rfl rfl (hb hby d43_8) _ ?_
    rw [len_of S2 Nn2]
    show own_St p e below T1 m 9 #[vR (a2), vI (ch), vI ((0 : Int32)), vI (cs.length.toInt32)] [(.int (2 * cs.length).toInt32), (.int cs.length.toInt32)] _
    refine XS.iconst X1.here hx rfl (hb hby d43_9) ?_
    refine XS.ishr X1.here hx rfl (hb hby d43_10) rfl ?_
    show own_St p e below T1 m 11 #[vR (a2), vI (ch), vI ((0 : Int32)), vI (cs.length.toInt32)] [(.int ((2 * cs.length).toInt32 >>> ((1 : Int32) &&& 31))), (.int cs.length.toInt32)] _
    rw [own_shr1 (i := cs.length) (own_4 hn)]
    show own_St p e below T1 m 11 #[vR (a2), vI (ch), vI ((0 : Int32)), vI (cs.length.toInt32)] [(.int cs.length.toInt32), (.int cs.length.toInt32)] _
    refine st3 _ ?_
    show own_St p e below T3 m 14 #[vR (a2), vI (ch), vI ((0 : Int32)), vI (cs.length.toInt32)] [(.int cs.length.toInt32)] _
    refine XS.istoreN X3.here hx rfl (hb hby d43_14) rfl (l' := #[vR (a2), vI (ch), vI ((0 : Int32)), vI (cs.length.toInt32)]) rfl ?_
    refine XS.iloadN X3.here hx rfl (hb hby d43_15) rfl ?_
    refine XS.iloadN X3.here hx rfl (hb hby d43_16) rfl ?_
    refine XS.icmpYes X3.here hx rfl (pc0 := 17) (pc' := 22) rfl (hb hby d43_17) rfl (tlt ((own_n0 h1 hn).2 : (0 : Int32) < cs.length.toInt32)).1 (by decide) (by decide) ?_
    refine XS.iloadN X3.here hx rfl (hb hby d43_22) rfl ?_
    show own_St p e below T3 m 23 #[vR (a2), vI (ch), vI ((0 : Int32)), vI (cs.length.toInt32)] [(.int ch)] _
    refine X3.ldcInt hx hown (mvT hZ (own_w hw 202 rfl)) (g := (mkF m 23 #[vR (a2), vI (ch), vI ((0 : Int32)), vI (cs.length.toInt32)] [(.int ch)])) rfl (hb hby d43_23) _ ?_
    show own_St p e below T3 m 25 #[vR (a2), vI (ch), vI ((0 : Int32)), vI (cs.length.toInt32)] [(.int (65536 : Int32)), (.int ch)] _
    refine XS.icmpNo X3.here hx rfl (hb hby d43_25) rfl (tlt (own_big hc1 : ch < (65536 : Int32))).2.1 ?_
    refine XS.aloadN X3.here hx rfl (hb hby d43_28) rfl rfl ?_
    refine XS.iloadN X3.here hx rfl (hb hby d43_29) rfl ?_
    refine XS.iloadN X3.here hx rfl (hb hby d43_30) rfl ?_
    refine XS.iloadN X3.here hx rfl (hb hby d43_31) rfl ?_
    show own_St p e below T3 m 32 #[vR (a2), vI (ch), vI ((0 : Int32)), vI (cs.length.toInt32)] [(.int cs.length.toInt32), (.int (0 : Int32)), (.int ch), (.ref a2)] _
    refine st4 _ ?_
    show own_St p e below T4 m 35 #[vR (a2), vI (ch), vI ((0 : Int32)), vI (cs.length.toInt32)] [(.int rx4)] _
    exact retI X4 hx Bd.returns (hb hby d43_35) hr
  · show own_Qix cs ch h0 n0 _ T4.heap _
    rw [e4]
    exact ⟨_, rfl, N4, rfl, hd4⟩
theorem r_iU (l : Launch) (Z : State) (a0 : Array Value) (hw : own_HW a0 Z) (ws : List Jvm.Cond) (cs1 : Int32) (fv : Value) (h0 : Heap) (n0 : Nat) (O0 : Old Z n0 h0) (G : own_Ctx Z Z.heap cs1 fv) (a2 : Addr) (k2 : ClassId) (cs : List Int32) (ch : Int32) (Va : Arv Z h0 a2 k2 .byte (2 * cs.length).toInt32 (cs.flatMap own_two) (.int (0 : Int32))) (hn : cs.length ≤ 4) (hB : own_Bd cs) (hc0 : ¬ (ch < (0 : Int32))) (hc1 : ¬ ((255 : Int32) < ch)) :
    own_M l Y33_ (head1 (Jvm.Cond.code Y33_ jdk_52_method_40_code 4 (some .int) :: ws) (own_rm_ 4 0 0 58)) #[(.ref a2), (.int ch), (.int (0 : Int32)), (.int cs.length.toInt32)] Z h0 n0 (own_Qix cs ch) (own_rm_ 4 0 0 58).cells (own_rm_ 4 0 0 58).slots := by
  rcases Classical.em (1 ≤ cs.length) with h1 | h1
  · exact r_iU1 l Z a0 hw ws cs1 fv h0 n0 O0 G a2 k2 cs ch Va hn hB hc0 hc1 h1
  · exact r_iU0 l Z a0 hw ws cs1 fv h0 n0 O0 G a2 k2 cs ch Va hn hB hc0 hc1 h1
theorem d7_0 : D7_ 0 = .ok (.aload_n 0, 1) := by decide +kernel
theorem d7_1 : D7_ 1 = .ok (.invokevirtual 492, 3) := by decide +kernel
theorem d7_4 : D7_ 4 = .ok (.ifCond .eq 19, 3) := by decide +kernel
theorem d7_7 : D7_ 7 = .ok (.aload_n 0, 1) := by decide +kernel
theorem d7_8 : D7_ 8 = .ok (.getfield 9, 3) := by decide +kernel
theorem d7_11 : D7_ 11 = .ok (.iload_n 1, 1) := by decide +kernel
theorem d7_12 : D7_ 12 = .ok (.iload_n 2, 1) := by decide +kernel
theorem d7_13 : D7_ 13 = .ok (.aload_n 0, 1) := by decide +kernel
theorem d7_14 : D7_ 14 = .ok (.invokevirtual 505, 3) := by decide +kernel
theorem pd_21 : parseMethodDescriptor "()I" = some ⟨[], some .int⟩ := by decide +kernel
theorem d7_17 : D7_ 17 = .ok (.invokestatic 637, 3) := by decide +kernel
theorem d7_20 : D7_ 20 = .ok (.goto 16, 3) := by decide +kernel
theorem d7_36 : D7_ 36 = .ok (.ireturn, 1) := by decide +kernel
theorem ef_7_37 (m : MethodId) (x0 : Addr) (x1 : Int32) (x2 : Int32) : entryFrame m #[(.ref x0), (.int x1), (.int x2)] 3 = mkF m 0 #[vR (x0), vI (x1), vI (x2)] [] := by first | (simp [entryFrame, mkF, argsToLocals, Value.category]; done) | rfl
theorem r_siL (l : Launch) (Z : State) (a0 : Array Value) (hw : own_HW a0 Z) (ws : List Jvm.Cond) (cs1 : Int32) (fv : Value) (h0 : Heap) (n0 : Nat) (O0 : Old Z n0 h0) (G : own_Ctx Z Z.heap cs1 fv) (a1 a2 : Addr) (k2 : ClassId) (cs : List Int32) (ch : Int32) (E1 : Exa Z h0 a1 "java/lang/String") (F1 : Fld Z h0 a1 "java/lang/String" "value" "[B" (.ref a2)) (F2 : Fld Z h0 a1 "java/lang/String" "coder" "B" (.int (0 : Int32))) (Va : Arv Z h0 a2 k2 .byte cs.length.toInt32 (cs.map (fun c => .int (nar .byte c.toInt8.toInt32))) (.int (0 : Int32))) (hn : cs.length ≤ 4) (hB : own_Bd cs) (hc0 : ¬ (ch < (0 : Int32))) (hc1 : ¬ ((255 : Int32) < ch)) (hl : own_Lat cs) :
    own_M l Y34_ (head1 (Jvm.Cond.code Y34_ jdk_42_method_80_code 3 (some .int) :: ws) (own_rm_ 5 0 0 73)) #[(.ref a1), (.int ch), (.int (0 : Int32))] Z h0 n0 (own_Qix cs ch) (own_rm_ 5 0 0 73).cells (own_rm_ 5 0 0 73).slots := by
  have G0 := G
  refine MetFree.of_bodySF (plainFor_of_name pn_2) hisR ?_
  intro p e s m args below meth c s₁ Bd hml0 hP hK
  obtain ⟨rfl, hZ, hh⟩ := hP
  have hx := Bd.exec
  have hby := Bd.bytes
  have hml : c.maxLocals = 3 := hml0
  have hown := findClass_of_methodNamed Bd.named
  have X0 : Stand p l e (own_rm_ 5 0 0 73) s m #[(.ref a1), (.int ch), (.int (0 : Int32))] below meth c s₁ [] 0 0 := Stand.of_body Bd
  have e0 : s₁.heap = h0 := by rw [← hh, Bd.state]; rfl
  have N0 := Fr.nil n0
  have pre0 := own_pre (tb := p.tables) (e := e) (below := below) (T := s₁) (ef_7_37 m a1 ch (0 : Int32))
  obtain ⟨cq1, kq1, q1a, q1b, q1c⟩ := isOf hZ e0 E1
  obtain ⟨_, _, ⟨T1, L1, k1, n1⟩, -, X1, ⟨Lc1, hQ1, l1, y1, z1⟩, st1⟩ := X0.virtualBack hx (y := Y17_) (z := Y17_) hown (mvT hZ (own_w hw 41 rfl)) (mvT hZ (own_w hw 42 rfl)) (notFace_of_selects (args := #[]) (mvT hZ (own_w hw 44 rfl))) (mvT hZ (own_w hw 44 rfl)) (mvT hZ (own_w hw 43 rfl)) (by decide) (backOf (W := 0) (r_islL l Z a0 hw [] cs1 fv h0 n0 O0 G0 a1 a2 k2 cs E1 F1 F2 Va) hZ (own_w hw 45 rfl) (own_w hw 8 rfl) (by decide) (by decide)) q1a q1c (g := (mkF m 1 #[vR (a1), vI (ch), vI ((0 : Int32))] [(.ref a1)])) rfl (by rw [hml]; rfl) (Steps.refl _) (argsL := []) (rest := []) (lenOf pd_13 rfl) rfl (by show 2 * 0 + _ ≤ _; exact Nat.le_of_eq rfl) (hb hby d7_1) (fun _ _ => ⟨rfl, e0, (by decide : 0 + 0 ≤ _), (by decide : 0 + 0 ≤ _)⟩)
  dsimp only [Pt.U, Pt.locs, Pt.cells, Pt.slots] at X1 l1 y1 z1 st1 hQ1
  subst l1 y1 z1
  obtain ⟨rfl, N1q, e1⟩ := hQ1
  have N1 := Fr.app N0 N1q
  obtain ⟨T2, X2, e2, st2⟩ := getF X1 hx hZ hown (host := "") (Or.inl (own_w hw 25 rfl)) Via.refl e1 F1 (g := (mkF m 8 #[vR (a1), vI (ch), vI ((0 : Int32))] [(.ref a1)])) rfl rfl (hb hby d7_8)
  obtain ⟨cq3, kq3, q3a, q3b, q3c⟩ := isOf hZ e2 E1
  obtain ⟨_, _, ⟨T3, L3, k3, n3⟩, -, X3, ⟨Lc3, hQ3, l3, y3, z3⟩, st3⟩ := X2.virtualBack hx (y := Y18_) (z := Y18_) hown (mvT hZ (own_w hw 47 rfl)) (mvT hZ (own_w hw 48 rfl)) (notFace_of_selects (args := #[]) (mvT hZ (own_w hw 50 rfl))) (mvT hZ (own_w hw 50 rfl)) (mvT hZ (own_w hw 49 rfl)) (by decide) (backOf (W := 3) (r_lenL l Z a0 hw [] cs1 fv h0 n0 O0 G0 a1 a2 k2 cs E1 F1 F2 Va hn) hZ (own_w hw 51 rfl) (own_w hw 8 rfl) (by decide) (by decide)) q3a q3c (g := (mkF m 14 #[vR (a1), vI (ch), vI ((0 : Int32))] [(.ref a1), (.int (0 : Int32)), (.int ch), (.ref a2)])) rfl (by rw [hml]; rfl) (Steps.refl _) (argsL := []) (rest := [(.int (0 : Int32)), (.int ch), (.ref a2)]) (lenOf pd_21 rfl) rfl (by show 2 * 0 + _ ≤ _; exact Nat.le_of_eq rfl) (hb hby d7_14) (fun _ _ => ⟨rfl, e2, (by decide : 0 + 0 ≤ _), (by decide : 0 + 0 ≤ _)⟩)
  dsimp only [Pt.U, Pt.locs, Pt.cells, Pt.slots] at X3 l3 y3 z3 st3 hQ3
  subst l3 y3 z3
  obtain ⟨rfl, N3q, e3⟩ := hQ3
  have N3 := Fr.app N1 N3q
  obtain ⟨_, _, ⟨T4, L4, k4, n4⟩, -, X4, ⟨Lc4, hQ4, l4, y4, z4⟩, st4⟩ := Jvm.LawKit.callS X3 hx (y := Y32_) hown (mvT hZ (own_w hw 57 rfl)) (mvT hZ (own_w hw 58 rfl)) (mvT hZ (own_w hw 59 rfl)) (mvT hZ (own_w hw 60 rfl)) (by decide) (backOf (W := 0) (r_iL l Z a0 hw [] cs1 fv h0 n0 O0 G0 a2 k2 cs ch Va hn hB hc0 hc1 hl) hZ (own_w hw 60 rfl) (own_w hw 59 rfl) (by decide) (by decide)) (g := (mkF m 17 #[vR (a1), vI (ch), vI ((0 : Int32))] [(.int cs.length.toInt32), (.int (0 : Int32)), (.int ch), (.ref a2)])) rfl (by rw [hml]; rfl) (argsL := [(.ref a2), (.int ch), (.int (0 : Int32)), (.int cs.length.toInt32)]) (rest := []) (lenOf pd_18 rfl) rfl (by show 2 * 0 + _ ≤ _; exact Nat.le_of_eq rfl) (hb hby d7_17) (fun _ _ => ⟨rfl, e3, (by decide : 0 + 0 ≤ _), (by decide : 0 + 0 ≤ _)⟩)
  dsimp only [Pt.U, Pt.locs, Pt.cells, Pt.slots] at X4 l4 y4 z4 st4 hQ4
  subst l4 y4 z4
  obtain ⟨rx4, rfl, N4q, e4, hd4⟩ := hQ4
  have N4 := Fr.app N3 N4q
  obtain ⟨fs, hr, hrun, hended, hW, hsame⟩ := X4.leave (v := some (.int rx4)) (fun h => by rw [Bd.returns] at h; cases h)
  refine ⟨_, _, pre0 _ ?_, hrun, hended, _, _, rfl, ?_, ⟨_, rfl⟩, hW, hsame.mono (by decide) (by decide)⟩
  · show own_St p e below s₁ m 0 #[vR (a1), vI (ch), vI ((0 : Int32))] [] _
    refine XS.aloadN X0.here hx rfl (hb hby d7_0) rfl rfl ?_
    show own_St p e below s₁ m 1 #[vR (a1), vI (ch), vI ((0 : Int32))] [(.ref a1)] _
    refine st1.trans ?_
    show own_St p e below T1 m 4 #[vR (a1), vI (ch), vI ((0 : Int32))] [(.int (1 : Int32))] _
    refine XS.ifNo X1.here hx rfl (hb hby d7_4) rfl ((if0 _ _).trans (feq (by decide : ¬ ((1 : Int32) = (0 : Int32)))).1) ?_
    refine XS.aloadN X1.here hx rfl (hb hby d7_7) rfl rfl ?_
    show own_St p e below T1 m 8 #[vR (a1), vI (ch), vI ((0 : Int32))] [(.ref a1)] _
    refine st2 _ ?_
    show own_St p e below T2 m 11 #[vR (a1), vI (ch), vI ((0 : Int32))] [(.ref a2)] _
    refine XS.iloadN X2.here hx rfl (hb hby d7_11) rfl ?_
    refine XS.iloadN X2.here hx rfl (hb hby d7_12) rfl ?_
    refine XS.aloadN X2.here hx rfl (hb hby d7_13) rfl rfl ?_
    show own_St p e below T2 m 14 #[vR (a1), vI (ch), vI ((0 : Int32))] [(.ref a1), (.int (0 : Int32)), (.int ch), (.ref a2)] _
    refine st3.trans ?_
    show own_St p e below T3 m 17 #[vR (a1), vI (ch), vI ((0 : Int32))] [(.int cs.length.toInt32), (.int (0 : Int32)), (.int ch), (.ref a2)] _
    refine st4 _ ?_
    show own_St p e below T4 m 20 #[vR (a1), vI (ch), vI ((0 : Int32))] [(.int rx4)] _
    refine XS.goto X4.here hx rfl (pc0 := 20) (pc' := 36) rfl (hb hby d7_20) (by decide) (by decide) ?_
    show own_St p e below T4 m 36 #[vR (a1), vI (ch), vI ((0 : Int32))] [(.int rx4)] _
    exact retI X4 hx Bd.returns (hb hby d7_36) hr
  · show own_Qix cs ch h0 n0 _ T4.heap _
    rw [e4]
    exact ⟨_, rfl, N4, rfl, hd4⟩
theorem d7_23 : D7_ 23 = .ok (.aload_n 0, 1) := by decide +kernel
theorem d7_24 : D7_ 24 = .ok (.getfield 9, 3) := by decide +kernel
theorem d7_27 : D7_ 27 = .ok (.iload_n 1, 1) := by decide +kernel
theorem d7_28 : D7_ 28 = .ok (.iload_n 2, 1) := by decide +kernel
theorem d7_29 : D7_ 29 = .ok (.aload_n 0, 1) := by decide +kernel
theorem d7_30 : D7_ 30 = .ok (.invokevirtual 505, 3) := by decide +kernel
theorem d7_33 : D7_ 33 = .ok (.invokestatic 640, 3) := by decide +kernel
theorem r_siU (l : Launch) (Z : State) (a0 : Array Value) (hw : own_HW a0 Z) (ws : List Jvm.Cond) (cs1 : Int32) (fv : Value) (h0 : Heap) (n0 : Nat) (O0 : Old Z n0 h0) (G : own_Ctx Z Z.heap cs1 fv) (a1 a2 : Addr) (k2 : ClassId) (cs : List Int32) (ch : Int32) (E1 : Exa Z h0 a1 "java/lang/String") (F1 : Fld Z h0 a1 "java/lang/String" "value" "[B" (.ref a2)) (F2 : Fld Z h0 a1 "java/lang/String" "coder" "B" (.int (1 : Int32))) (Va : Arv Z h0 a2 k2 .byte (2 * cs.length).toInt32 (cs.flatMap own_two) (.int (0 : Int32))) (hn : cs.length ≤ 4) (hB : own_Bd cs) (hc0 : ¬ (ch < (0 : Int32))) (hc1 : ¬ ((255 : Int32) < ch)) :
    own_M l Y34_ (head1 (Jvm.Cond.code Y34_ jdk_42_method_80_code 3 (some .int) :: ws) (own_rm_ 5 0 0 73)) #[(.ref a1), (.int ch), (.int (0 : Int32))] Z h0 n0 (own_Qix cs ch) (own_rm_ 5 0 0 73).cells (own_rm_ 5 0 0 73).slots := by
  have G0 := G
  refine MetFree.of_bodySF (plainFor_of_name pn_2) hisR ?_
  intro p e s m args below meth c s₁ Bd hml0 hP hK
  obtain ⟨rfl, hZ, hh⟩ := hP
  have hx := Bd.exec
  have hby := Bd.bytes
  have hml : c.maxLocals = 3 := hml0
  have hown := findClass_of_methodNamed Bd.named
  have X0 : Stand p l e (own_rm_ 5 0 0 73) s m #[(.ref a1), (.int ch), (.int (0 : Int32))] below meth c s₁ [] 0 0 := Stand.of_body Bd
  have e0 : s₁.heap = h0 := by rw [← hh, Bd.state]; rfl
  have N0 := Fr.nil n0
  have pre0 := own_pre (tb := p.tables) (e := e) (below := below) (T := s₁) (ef_7_37 m a1 ch (0 : Int32))
  obtain ⟨cq1, kq1, q1a, q1b, q1c⟩ := isOf hZ e0 E1
  obtain ⟨_, _, ⟨T1, L1, k1, n1⟩, -, X1, ⟨Lc1, hQ1, l1, y1, z1⟩, st1⟩ := X0.virtualBack hx (y := Y17_) (z := Y17_) hown (mvT hZ (own_w hw 41 rfl)) (mvT hZ (own_w hw 42 rfl)) (notFace_of_selects (args := #[]) (mvT hZ (own_w hw 44 rfl))) (mvT hZ (own_w hw 44 rfl)) (mvT hZ (own_w hw 43 rfl)) (by decide) (backOf (W := 0) (r_islU l Z a0 hw [] cs1 fv h0 n0 O0 G0 a1 a2 k2 cs E1 F1 F2 Va) hZ (own_w hw 45 rfl) (own_w hw 8 rfl) (by decide) (by decide)) q1a q1c (g := (mkF m 1 #[vR (a1), vI (ch), vI ((0 : Int32))] [(.ref a1)])) rfl (by rw [hml]; rfl) (Steps.refl _) (argsL := []) (rest := []) (lenOf pd_13 rfl) rfl (by show 2 * 0 + _ ≤ _; exact Nat.le_of_eq rfl) (hb hby d7_1) (fun _ _ => ⟨rfl, e0, (by decide : 0 + 0 ≤ _), (by decide : 0 + 0 ≤ _)⟩)
  dsimp only [Pt.U, Pt.locs, Pt.cells, Pt.slots] at X1 l1 y1 z1 st1 hQ1
  subst l1 y1 z1
  obtain ⟨rfl, N1q, e1⟩ := hQ1
  have N1 := Fr.app N0 N1q
  obtain ⟨T2, X2, e2, st2⟩ := getF X1 hx hZ hown (host := "") (Or.inl (own_w hw 25 rfl)) Via.refl e1 F1 (g := (mkF m 24 #[vR (a1), vI (ch), vI ((0 : Int32))] [(.ref a1)])) rfl rfl (hb hby d7_24)
  obtain ⟨cq3, kq3, q3a, q3b, q3c⟩ := isOf hZ e2 E1
  obtain ⟨_, _, ⟨T3, L3, k3, n3⟩, -, X3, ⟨Lc3, hQ3, l3, y3, z3⟩, st3⟩ := X2.virtualBack hx (y := Y18_) (z := Y18_) hown (mvT hZ (own_w hw 47 rfl)) (mvT hZ (own_w hw 48 rfl)) (notFace_of_selects (args := #[]) (mvT hZ (own_w hw 50 rfl))) (mvT hZ (own_w hw 50 rfl)) (mvT hZ (own_w hw 49 rfl)) (by decide) (backOf (W := 3) (r_lenU l Z a0 hw [] cs1 fv h0 n0 O0 G0 a1 a2 k2 cs E1 F1 F2 Va hn) hZ (own_w hw 51 rfl) (own_w hw 8 rfl) (by decide) (by decide)) q3a q3c (g := (mkF m 30 #[vR (a1), vI (ch), vI ((0 : Int32))] [(.ref a1), (.int (0 : Int32)), (.int ch), (.ref a2)])) rfl (by rw [hml]; rfl) (Steps.refl _) (argsL := []) (rest := [(.int (0 : Int32)), (.int ch), (.ref a2)]) (lenOf pd_21 rfl) rfl (by show 2 * 0 + _ ≤ _; exact Nat.le_of_eq rfl) (hb hby d7_30) (fun _ _ => ⟨rfl, e2, (by decide : 0 + 0 ≤ _), (by decide : 0 + 0 ≤ _)⟩)
  dsimp only [Pt.U, Pt.locs, Pt.cells, Pt.slots] at X3 l3 y3 z3 st3 hQ3
  subst l3 y3 z3
  obtain ⟨rfl, N3q, e3⟩ := hQ3
  have N3 := Fr.app N1 N3q
  obtain ⟨_, _, ⟨T4, L4, k4, n4⟩, -, X4, ⟨Lc4, hQ4, l4, y4, z4⟩, st4⟩ := Jvm.LawKit.callS X3 hx (y := Y33_) hown (mvT hZ (own_w hw 197 rfl)) (mvT hZ (own_w hw 198 rfl)) (mvT hZ (own_w hw 77 rfl)) (mvT hZ (own_w hw 199 rfl)) (by decide) (backOf (W := 0) (r_iU l Z a0 hw [] cs1 fv h0 n0 O0 G0 a2 k2 cs ch Va hn hB hc0 hc1) hZ (own_w hw 199 rfl) (own_w hw 77 rfl) (by decide) (by decide)) (g := (mkF m 33 #[vR (a1), vI (ch), vI ((0 : Int32))] [(.int cs.length.toInt32), (.int (0 : Int32)), (.int ch), (.ref a2)])) rfl (by rw [hml]; rfl) (argsL := [(.ref a2), (.int ch), (.int (0 : Int32)), (.int cs.length.toInt32)]) (rest := []) (lenOf pd_18 rfl) rfl (by show 2 * 0 + _ ≤ _; exact Nat.le_of_eq rfl) (hb hby d7_33) (fun _ _ => ⟨rfl, e3, (by decide : 0 + 0 ≤ _), (by decide : 0 + 0 ≤ _)⟩)
  dsimp only [Pt.U, Pt.locs, Pt.cells, Pt.slots] at X4 l4 y4 z4 st4 hQ4
  subst l4 y4 z4
  obtain ⟨rx4, rfl, N4q, e4, hd4⟩ := hQ4
  have N4 := Fr.app N3 N4q
  obtain ⟨fs, hr, hrun, hended, hW, hsame⟩ := X4.leave (v := some (.int rx4)) (fun h => by rw [Bd.returns] at h; cases h)
  refine ⟨_, _, pre0 _ ?_, hrun, hended, _, _, rfl, ?_, ⟨_, rfl⟩, hW, hsame.mono (by decide) (by decide)⟩
  · show own_St p e below s₁ m 0 #[vR (a1), vI (ch), vI ((0 : Int32))] [] _
    refine XS.aloadN X0.here hx rfl (hb hby d7_0) rfl rfl ?_
    show own_St p e below s₁ m 1 #[vR (a1), vI (ch), vI ((0 : Int32))] [(.ref a1)] _
    refine st1.trans ?_
    show own_St p e below T1 m 4 #[vR (a1), vI (ch), vI ((0 : Int32))] [(.int (0 : Int32))] _
    refine XS.ifYes X1.here hx rfl (pc0 := 4) (pc' := 23) rfl (hb hby d7_4) rfl ((if0 _ _).trans (teq (by decide : (0 : Int32) = (0 : Int32))).1) (by decide) (by decide) ?_
    refine XS.aloadN X1.here hx rfl (hb hby d7_23) rfl rfl ?_
    show own_St p e below T1 m 24 #[vR (a1), vI (ch), vI ((0 : Int32))] [(.ref a1)] _
    refine st2 _ ?_
    show own_St p e below T2 m 27 #[vR (a1), vI (ch), vI ((0 : Int32))] [(.ref a2)] _
    refine XS.iloadN X2.here hx rfl (hb hby d7_27) rfl ?_
    refine XS.iloadN X2.here hx rfl (hb hby d7_28) rfl ?_
    refine XS.aloadN X2.here hx rfl (hb hby d7_29) rfl rfl ?_
    show own_St p e below T2 m 30 #[vR (a1), vI (ch), vI ((0 : Int32))] [(.ref a1), (.int (0 : Int32)), (.int ch), (.ref a2)] _
    refine st3.trans ?_
    show own_St p e below T3 m 33 #[vR (a1), vI (ch), vI ((0 : Int32))] [(.int cs.length.toInt32), (.int (0 : Int32)), (.int ch), (.ref a2)] _
    refine st4 _ ?_
    show own_St p e below T4 m 36 #[vR (a1), vI (ch), vI ((0 : Int32))] [(.int rx4)] _
    exact retI X4 hx Bd.returns (hb hby d7_36) hr
  · show own_Qix cs ch h0 n0 _ T4.heap _
    rw [e4]
    exact ⟨_, rfl, N4, rfl, hd4⟩
theorem r_si (l : Launch) (Z : State) (a0 : Array Value) (hw : own_HW a0 Z) (ws : List Jvm.Cond) (cs1 : Int32) (fv : Value) (h0 : Heap) (n0 : Nat) (O0 : Old Z n0 h0) (G : own_Ctx Z Z.heap cs1 fv) (a1 : Addr) (cs : List Int32) (ch : Int32) (S : own_Str Z h0 a1 cs) (hn : cs.length ≤ 4) (hB : own_Bd cs) (hc0 : ¬ (ch < (0 : Int32))) (hc1 : ¬ ((255 : Int32) < ch)) :
    own_M l Y34_ (head1 (Jvm.Cond.code Y34_ jdk_42_method_80_code 3 (some .int) :: ws) (own_rm_ 5 0 0 73)) #[(.ref a1), (.int ch), (.int (0 : Int32))] Z h0 n0 (own_Qix cs ch) (own_rm_ 5 0 0 73).cells (own_rm_ 5 0 0 73).slots := by
  obtain ⟨b, k, E1, F1, ⟨F2, B, V⟩ | ⟨F2, V⟩⟩ := S
  · exact r_siL l Z a0 hw ws cs1 fv h0 n0 O0 G a1 b k cs ch E1 F1 F2 V hn hB hc0 hc1 B
  · exact r_siU l Z a0 hw ws cs1 fv h0 n0 O0 G a1 b k cs ch E1 F1 F2 V hn hB hc0 hc1
theorem d6_0 : D6_ 0 = .ok (.aload_n 0, 1) := by decide +kernel
theorem d6_1 : D6_ 1 = .ok (.iload_n 1, 1) := by decide +kernel
theorem d6_2 : D6_ 2 = .ok (.iconst 0, 1) := by decide +kernel
theorem d6_3 : D6_ 3 = .ok (.invokevirtual 633, 3) := by decide +kernel
theorem d6_6 : D6_ 6 = .ok (.ireturn, 1) := by decide +kernel
theorem ef_6_38 (m : MethodId) (x0 : Addr) (x1 : Int32) : entryFrame m #[(.ref x0), (.int x1)] 2 = mkF m 0 #[vR (x0), vI (x1)] [] := by first | (simp [entryFrame, mkF, argsToLocals, Value.category]; done) | rfl
theorem r_sx (l : Launch) (Z : State) (a0 : Array Value) (hw : own_HW a0 Z) (ws : List Jvm.Cond) (cs1 : Int32) (fv : Value) (h0 : Heap) (n0 : Nat) (O0 : Old Z n0 h0) (G : own_Ctx Z Z.heap cs1 fv) (a1 : Addr) (cs : List Int32) (ch : Int32) (S : own_Str Z h0 a1 cs) (hn : cs.length ≤ 4) (hB : own_Bd cs) (hc0 : ¬ (ch < (0 : Int32))) (hc1 : ¬ ((255 : Int32) < ch)) :
    own_M l Y35_ (head1 (Jvm.Cond.code Y35_ jdk_42_method_79_code 2 (some .int) :: ws) (own_rm_ 6 0 0 87)) #[(.ref a1), (.int ch)] Z h0 n0 (own_Qix cs ch) (own_rm_ 6 0 0 87).cells (own_rm_ 6 0 0 87).slots := by
  have G0 := G
  refine MetFree.of_bodySF (plainFor_of_name pn_2) hisR ?_
  intro p e s m args below meth c s₁ Bd hml0 hP hK
  obtain ⟨rfl, hZ, hh⟩ := hP
  have hx := Bd.exec
  have hby := Bd.bytes
  have hml : c.maxLocals = 2 := hml0
  have hown := findClass_of_methodNamed Bd.named
  have X0 : Stand p l e (own_rm_ 6 0 0 87) s m #[(.ref a1), (.int ch)] below meth c s₁ [] 0 0 := Stand.of_body Bd
  have e0 : s₁.heap = h0 := by rw [← hh, Bd.state]; rfl
  have N0 := Fr.nil n0
  have pre0 := own_pre (tb := p.tables) (e := e) (below := below) (T := s₁) (ef_6_38 m a1 ch)
  obtain ⟨cq1, kq1, q1a, q1b, q1c⟩ := isOf hZ e0 (own_Str_exa S)
  obtain ⟨_, _, ⟨T1, L1, k1, n1⟩, -, X1, ⟨Lc1, hQ1, l1, y1, z1⟩, st1⟩ := X0.virtualBack hx (y := Y34_) (z := Y34_) hown (mvT hZ (own_w hw 36 rfl)) (mvT hZ (own_w hw 37 rfl)) (notFace_of_selects (args := #[]) (mvT hZ (own_w hw 39 rfl))) (mvT hZ (own_w hw 39 rfl)) (mvT hZ (own_w hw 38 rfl)) (by decide) (backOf (W := 0) (r_si l Z a0 hw [] cs1 fv h0 n0 O0 G0 a1 cs ch S hn hB hc0 hc1) hZ (own_w hw 40 rfl) (own_w hw 8 rfl) (by decide) (by decide)) q1a q1c (g := (mkF m 3 #[vR (a1), vI (ch)] [(.int (0 : Int32)), (.int ch), (.ref a1)])) rfl (by rw [hml]; rfl) (Steps.refl _) (argsL := [(.int ch), (.int (0 : Int32))]) (rest := []) (lenOf pd_20 rfl) rfl (by show 2 * 0 + _ ≤ _; exact Nat.le_of_eq rfl) (hb hby d6_3) (fun _ _ => ⟨rfl, e0, (by decide : 0 + 0 ≤ _), (by decide : 0 + 0 ≤ _)⟩)
  dsimp only [Pt.U, Pt.locs, Pt.cells, Pt.slots] at X1 l1 y1 z1 st1 hQ1
  subst l1 y1 z1
  obtain ⟨rx1, rfl, N1q, e1, hd1⟩ := hQ1
  have N1 := Fr.app N0 N1q
  obtain ⟨fs, hr, hrun, hended, hW, hsame⟩ := X1.leave (v := some (.int rx1)) (fun h => by rw [Bd.returns] at h; cases h)
  refine ⟨_, _, pre0 _ ?_, hrun, hended, _, _, rfl, ?_, ⟨_, rfl⟩, hW, hsame.mono (by decide) (by decide)⟩
  · show own_St p e below s₁ m 0 #[vR (a1), vI (ch)] [] _
    refine XS.aloadN X0.here hx rfl (hb hby d6_0) rfl rfl ?_
    refine XS.iloadN X0.here hx rfl (hb hby d6_1) rfl ?_
    refine XS.iconst X0.here hx rfl (hb hby d6_2) ?_
    show own_St p e below s₁ m 3 #[vR (a1), vI (ch)] [(.int (0 : Int32)), (.int ch), (.ref a1)] _
    refine st1.trans ?_
    show own_St p e below T1 m 6 #[vR (a1), vI (ch)] [(.int rx1)] _
    exact retI X1 hx Bd.returns (hb hby d6_6) hr
  · show own_Qix cs ch h0 n0 _ T1.heap _
    rw [e1]
    exact ⟨_, rfl, N1, rfl, hd1⟩
theorem d23_0 : D23_ 0 = .ok (.aload_n 0, 1) := by decide +kernel
theorem d23_1 : D23_ 1 = .ok (.invokespecial 3, 3) := by decide +kernel
theorem d23_4 : D23_ 4 = .ok (.getstatic 18, 3) := by decide +kernel
theorem d23_7 : D23_ 7 = .ok (.ifCond .eq 18, 3) := by decide +kernel
theorem d23_10 : D23_ 10 = .ok (.aload_n 0, 1) := by decide +kernel
theorem d23_11 : D23_ 11 = .ok (.iload_n 1, 1) := by decide +kernel
theorem d23_12 : D23_ 12 = .ok (.newarray .byte, 2) := by decide +kernel
theorem d23_14 : D23_ 14 = .ok (.putfield 15, 3) := by decide +kernel
theorem d23_17 : D23_ 17 = .ok (.aload_n 0, 1) := by decide +kernel
theorem d23_18 : D23_ 18 = .ok (.iconst 0, 1) := by decide +kernel
theorem d23_19 : D23_ 19 = .ok (.putfield 22, 3) := by decide +kernel
theorem d23_22 : D23_ 22 = .ok (.goto 16, 3) := by decide +kernel
theorem d23_38 : D23_ 38 = .ok (.return_, 1) := by decide +kernel
theorem ef_23_39 (m : MethodId) (x0 : Addr) (x1 : Int32) : entryFrame m #[(.ref x0), (.int x1)] 2 = mkF m 0 #[vR (x0), vI (x1)] [] := by first | (simp [entryFrame, mkF, argsToLocals, Value.category]; done) | rfl
theorem pn_4 : plainName "java/lang/AbstractStringBuilder" = true := by first | (simp [plainName, overriddenIn]; done) | decide +kernel
theorem r_ab (l : Launch) (Z : State) (a0 : Array Value) (hw : own_HW a0 Z) (ws : List Jvm.Cond) (cs1 : Int32) (fv : Value) (h0 : Heap) (n0 : Nat) (O0 : Old Z n0 h0) (G : own_Ctx Z Z.heap cs1 fv) (a1 : Addr) (f0 : Nat) (cs : List Int32) (Ea : Exa Z h0 a1 "java/lang/StringBuilder") (ga : n0 ≤ a1) (Fv : Fld Z h0 a1 "java/lang/AbstractStringBuilder" "value" "[B" .null) (Fc : Fld Z h0 a1 "java/lang/AbstractStringBuilder" "coder" "B" (.int (0 : Int32))) (Fn : Fld Z h0 a1 "java/lang/AbstractStringBuilder" "count" "I" (.int (0 : Int32))) (Fm : Fld Z h0 a1 "java/lang/AbstractStringBuilder" "maybeLatin1" "Z" (.int (0 : Int32))) (hf : f0 ≤ a1) (hn : cs.length ≤ 4) :
    own_M l Y36_ (head1 (Jvm.Cond.code Y36_ jdk_68_method_2_code 2 none :: ws) (own_rm_ 1 1 4 12)) #[(.ref a1), (.int cs.length.toInt32)] Z h0 n0 (own_QSB Z f0 a1 cs [] none) (own_rm_ 1 1 4 12).cells (own_rm_ 1 1 4 12).slots := by
  have G0 := G
  obtain ⟨S_CS, N_CS, S_F, R_F, S_AD, S_HI, S_LO⟩ := G
  refine MetFree.of_bodySF (plainFor_of_name pn_4) hisR ?_
  intro p e s m args below meth c s₁ Bd hml0 hP hK
  obtain ⟨rfl, hZ, hh⟩ := hP
  have hx := Bd.exec
  have hby := Bd.bytes
  have hml : c.maxLocals = 2 := hml0
  have hown := findClass_of_methodNamed Bd.named
  have X0 : Stand p l e (own_rm_ 1 1 4 12) s m #[(.ref a1), (.int cs.length.toInt32)] below meth c s₁ [] 0 0 := Stand.of_body Bd
  have e0 : s₁.heap = h0 := by rw [← hh, Bd.state]; rfl
  have N0 := Fr.nil n0
  have pre0 := own_pre (tb := p.tables) (e := e) (below := below) (T := s₁) (ef_23_39 m a1 cs.length.toInt32)
  obtain ⟨T1, X1, e1, st1⟩ := initO X0 hx hZ hown (own_w hw 107 rfl) (own_w hw 17 rfl) (own_w hw 18 rfl) e0 (g := (mkF m 1 #[vR (a1), vI (cs.length.toInt32)] [(.ref a1)])) rfl (by rw [hml]; rfl) rfl (hb hby d23_1) (by decide) (W := 0) (by show 2 * 0 + _ ≤ _; exact Nat.le_of_eq rfl) (by decide)
  obtain ⟨T2, X2, e2, st2⟩ := getS2 X1 hx hZ hown (host := "") (Or.inl (own_w hw 108 rfl)) Via.refl e1 (S_CS.ext O0.2) (g := (mkF m 4 #[vR (a1), vI (cs.length.toInt32)] [])) rfl (hb hby d23_4)
  obtain ⟨T3, h3, ka3, X3, e3, E3, A3, st3⟩ := newP X2 hx hZ (own_w hw 20 rfl) e2 (g := (mkF m 12 #[vR (a1), vI (cs.length.toInt32)] [(.int cs.length.toInt32), (.ref a1)])) rfl (hb hby d23_12) rfl (own_ti (own_k hn)).2.1 (cap := 4) (own_cap hn) (by decide) (by decide) (by decide)
  obtain ⟨b3, g3⟩ : ∃ z, z = h0.size := ⟨_, rfl⟩
  have ne_a1_b3 : a1 ≠ b3 := Nat.ne_of_lt (Nat.lt_of_lt_of_le Ea.lt (Nat.le_of_eq g3.symm))
  have g_b3 : n0 ≤ b3 := Nat.le_trans (O0.1 ▸ O0.2.1) (Nat.le_of_eq g3.symm)
  have sz_b3 : h0.size ≤ b3 := Nat.le_trans (Keep.refl h0 [a1]).1 (Nat.le_of_eq g3.symm)
  rw [← g3] at A3 st3
  have f4 := Ea.ext E3
  have f5 := Fv.ext E3
  have f6 := Fc.ext E3
  have f7 := Fn.ext E3
  have f8 := Fm.ext E3
  have O3 := O0.ext E3
  have K3 : Keep h0 h3 [a1] := (Keep.refl h0 [a1]).ext E3
  have V3 : Arv Z h3 b3 ka3 .byte cs.length.toInt32 [] (.int (0 : Int32)) := Arv.new A3 (own_ti (own_k hn)).2.1
  obtain ⟨T9, h9, X9, e9, W9, st9⟩ := putF X3 hx hZ hown (host := "") (Or.inl (own_w hw 109 rfl)) Via.refl e3 f5 f4 (Or.inl (own_w hw 110 rfl)) (own_w hw 95 rfl) (ty := (.array .byte)) (by decide) rfl rfl (g := (mkF m 14 #[vR (a1), vI (cs.length.toInt32)] [(.ref b3), (.ref a1)])) rfl rfl (hb hby d23_14)
  have f10 := f4.wr W9
  have f11 := f6.other W9 (Or.inr (slot_ne (Or.inl (own_w hw 112 rfl)) (Or.inl (own_w hw 110 rfl)) (by decide) (t := .byte) (t' := (.array .byte)) (by decide) (by decide)))
  have f12 := f7.other W9 (Or.inr (slot_ne (Or.inl (own_w hw 156 rfl)) (Or.inl (own_w hw 110 rfl)) (by decide) (t := .int) (t' := (.array .byte)) (by decide) (by decide)))
  have f13 := f8.other W9 (Or.inr (slot_ne (Or.inl (own_w hw 272 rfl)) (Or.inl (own_w hw 110 rfl)) (by decide) (t := .boolean) (t' := (.array .byte)) (by decide) (by decide)))
  have f14 := V3.other W9 (Ne.symm ne_a1_b3)
  have O9 := O3.wr W9 ga
  have K9 : Keep h0 h9 [a1] := K3.wr W9 (Or.inl (List.mem_of_getElem? (i := 0) rfl))
  have N9 := Fr.snoc X9 N0 ga
  have f15 := f5.same W9
  obtain ⟨T16, h16, X16, e16, W16, st16⟩ := putFN X9 hx hZ hown (own_w hw 111 rfl) Via.refl e9 f11 f10 (Or.inl (own_w hw 112 rfl)) (own_w hw 95 rfl) (ty := .byte) (v' := (.int ((0 : Int32).toInt8.toInt32))) (by decide) rfl (fits_nar_byte _) (g := (mkF m 19 #[vR (a1), vI (cs.length.toInt32)] [(.int (0 : Int32)), (.ref a1)])) rfl rfl (hb hby d23_19)
  have f17 := f10.wr W16
  have f18 := f15.other W16 (Or.inr (slot_ne (Or.inl (own_w hw 110 rfl)) (Or.inl (own_w hw 112 rfl)) (by decide) (t := (.array .byte)) (t' := .byte) (by decide) (by decide)))
  have f19 := f12.other W16 (Or.inr (slot_ne (Or.inl (own_w hw 156 rfl)) (Or.inl (own_w hw 112 rfl)) (by decide) (t := .int) (t' := .byte) (by decide) (by decide)))
  have f20 := f13.other W16 (Or.inr (slot_ne (Or.inl (own_w hw 272 rfl)) (Or.inl (own_w hw 112 rfl)) (by decide) (t := .boolean) (t' := .byte) (by decide) (by decide)))
  have f21 := f14.other W16 (Ne.symm ne_a1_b3)
  have O16 := O9.wr W16 ga
  have K16 : Keep h0 h16 [a1] := K9.wr W16 (Or.inl (List.mem_of_getElem? (i := 0) rfl))
  have N16 := Fr.snoc X16 N9 ga
  have f22 := f11.same W16
  obtain ⟨fs, hr, hrun, hended, hW, hsame⟩ := X16.leave (v := none) (fun _ => rfl)
  refine ⟨_, _, pre0 _ ?_, hrun, hended, _, _, rfl, ?_, ⟨_, rfl⟩, hW, hsame.mono (by decide) (by decide)⟩
  · show own_St p e below s₁ m 0 #[vR (a1), vI (cs.length.toInt32)] [] _
    refine XS.aloadN X0.here hx rfl (hb hby d23_0) rfl rfl ?_
    show own_St p e below s₁ m 1 #[vR (a1), vI (cs.length.toInt32)] [(.ref a1)] _
    refine st1 _ ?_
    show own_St p e below T1 m 4 #[vR (a1), vI (cs.length.toInt32)] [] _
    refine st2 _ ?_
    show own_St p e below T2 m 7 #[vR (a1), vI (cs.length.toInt32)] [(.int cs1)] _
    refine XS.ifNo X2.here hx rfl (hb hby d23_7) rfl ((if0 _ _).trans (feq (N_CS : ¬ (cs1 = (0 : Int32)))).1) ?_
    refine XS.aloadN X2.here hx rfl (hb hby d23_10) rfl rfl ?_
    refine XS.iloadN X2.here hx rfl (hb hby d23_11) rfl ?_
    show own_St p e below T2 m 12 #[vR (a1), vI (cs.length.toInt32)] [(.int cs.length.toInt32), (.ref a1)] _
    refine st3 _ ?_
    show own_St p e below T3 m 14 #[vR (a1), vI (cs.length.toInt32)] [(.ref b3), (.ref a1)] _
    refine st9 _ ?_
    show own_St p e below T9 m 17 #[vR (a1), vI (cs.length.toInt32)] [] _
    refine XS.aloadN X9.here hx rfl (hb hby d23_17) rfl rfl ?_
    refine XS.iconst X9.here hx rfl (hb hby d23_18) ?_
    show own_St p e below T9 m 19 #[vR (a1), vI (cs.length.toInt32)] [(.int (0 : Int32)), (.ref a1)] _
    refine st16 _ ?_
    show own_St p e below T16 m 22 #[vR (a1), vI (cs.length.toInt32)] [] _
    refine XS.goto X16.here hx rfl (pc0 := 22) (pc' := 38) rfl (hb hby d23_22) (by decide) (by decide) ?_
    show own_St p e below T16 m 38 #[vR (a1), vI (cs.length.toInt32)] [] _
    exact X16.returnOut hx Bd.returns (hb hby d23_38) hr
  · show own_QSB Z f0 a1 cs [] none h0 n0 _ T16.heap _
    rw [e16]
    exact ⟨[a1], rfl, N16, allS hf all0, K16, b3, ka3, hf, Nat.le_trans (Nat.le_of_lt (Nat.lt_of_le_of_lt hf Ea.lt)) sz_b3, ne_a1_b3, f17, f18, f19, f20, Or.inl ⟨f22, own_Lat_nil, f21⟩⟩
theorem d22_0 : D22_ 0 = .ok (.aload_n 0, 1) := by decide +kernel
theorem d22_1 : D22_ 1 = .ok (.iload_n 1, 1) := by decide +kernel
theorem d22_2 : D22_ 2 = .ok (.invokespecial 1, 3) := by decide +kernel
theorem pd_22 : parseMethodDescriptor "(I)V" = some ⟨[.int], none⟩ := by decide +kernel
theorem d22_5 : D22_ 5 = .ok (.return_, 1) := by decide +kernel
theorem ef_22_40 (m : MethodId) (x0 : Addr) (x1 : Int32) : entryFrame m #[(.ref x0), (.int x1)] 2 = mkF m 0 #[vR (x0), vI (x1)] [] := by first | (simp [entryFrame, mkF, argsToLocals, Value.category]; done) | rfl
theorem pn_5 : plainName "java/lang/StringBuilder" = true := by first | (simp [plainName, overriddenIn]; done) | decide +kernel
theorem r_sbi (l : Launch) (Z : State) (a0 : Array Value) (hw : own_HW a0 Z) (ws : List Jvm.Cond) (cs1 : Int32) (fv : Value) (h0 : Heap) (n0 : Nat) (O0 : Old Z n0 h0) (G : own_Ctx Z Z.heap cs1 fv) (a1 : Addr) (f0 : Nat) (cs : List Int32) (Ea : Exa Z h0 a1 "java/lang/StringBuilder") (ga : n0 ≤ a1) (Fv : Fld Z h0 a1 "java/lang/AbstractStringBuilder" "value" "[B" .null) (Fc : Fld Z h0 a1 "java/lang/AbstractStringBuilder" "coder" "B" (.int (0 : Int32))) (Fn : Fld Z h0 a1 "java/lang/AbstractStringBuilder" "count" "I" (.int (0 : Int32))) (Fm : Fld Z h0 a1 "java/lang/AbstractStringBuilder" "maybeLatin1" "Z" (.int (0 : Int32))) (hf : f0 ≤ a1) (hn : cs.length ≤ 4) (gf : n0 ≤ f0) :
    own_M l Y37_ (head1 (Jvm.Cond.code Y37_ jdk_67_method_2_code 2 none :: ws) (own_rm_ 2 1 4 25)) #[(.ref a1), (.int cs.length.toInt32)] Z h0 n0 (own_QSB Z f0 a1 cs [] none) (own_rm_ 2 1 4 25).cells (own_rm_ 2 1 4 25).slots := by
  have G0 := G
  refine MetFree.of_bodySF (plainFor_of_name pn_5) hisR ?_
  intro p e s m args below meth c s₁ Bd hml0 hP hK
  obtain ⟨rfl, hZ, hh⟩ := hP
  have hx := Bd.exec
  have hby := Bd.bytes
  have hml : c.maxLocals = 2 := hml0
  have hown := findClass_of_methodNamed Bd.named
  have X0 : Stand p l e (own_rm_ 2 1 4 25) s m #[(.ref a1), (.int cs.length.toInt32)] below meth c s₁ [] 0 0 := Stand.of_body Bd
  have e0 : s₁.heap = h0 := by rw [← hh, Bd.state]; rfl
  have N0 := Fr.nil n0
  have pre0 := own_pre (tb := p.tables) (e := e) (below := below) (T := s₁) (ef_22_40 m a1 cs.length.toInt32)
  obtain ⟨_, _, ⟨T1, L1, k1, n1⟩, -, X1, ⟨Lc1, hQ1, l1, y1, z1⟩, st1⟩ := X0.specialBack hx (y := Y36_) rfl hown (mvT hZ (own_w hw 101 rfl)) (mvT hZ (own_w hw 102 rfl)) (mvT hZ (own_w hw 106 rfl)) (by decide) (backOf (W := 0) (r_ab l Z a0 hw [] cs1 fv h0 n0 O0 G0 a1 f0 cs Ea ga Fv Fc Fn Fm hf hn) hZ (own_w hw 106 rfl) (own_w hw 105 rfl) (by decide) (by decide)) (g := (mkF m 2 #[vR (a1), vI (cs.length.toInt32)] [(.int cs.length.toInt32), (.ref a1)])) rfl (by rw [hml]; rfl) (Steps.refl _) (a := a1) (argsL := [(.int cs.length.toInt32)]) (rest := []) (lenOf pd_22 rfl) rfl (by show 2 * 0 + _ ≤ _; exact Nat.le_of_eq rfl) (hb hby d22_2) (fun _ _ => ⟨rfl, e0, (by decide : 0 + 1 ≤ _), (by decide : 0 + 4 ≤ _)⟩)
  dsimp only [Pt.U, Pt.locs, Pt.cells, Pt.slots] at X1 l1 y1 z1 st1 hQ1
  subst l1 y1 z1
  obtain ⟨ws1, rfl, N1q, hws1, Kq1, Bq1⟩ := hQ1
  have N1 := Fr.app N0 N1q
  have O1 := O0.keep Kq1 (fun x q => Nat.le_trans gf (hws1 x q))
  obtain ⟨fs, hr, hrun, hended, hW, hsame⟩ := X1.leave (v := none) (fun _ => rfl)
  refine ⟨_, _, pre0 _ ?_, hrun, hended, _, _, rfl, ?_, ⟨_, rfl⟩, hW, hsame.mono (by decide) (by decide)⟩
  · show own_St p e below s₁ m 0 #[vR (a1), vI (cs.length.toInt32)] [] _
    refine XS.aloadN X0.here hx rfl (hb hby d22_0) rfl rfl ?_
    refine XS.iloadN X0.here hx rfl (hb hby d22_1) rfl ?_
    show own_St p e below s₁ m 2 #[vR (a1), vI (cs.length.toInt32)] [(.int cs.length.toInt32), (.ref a1)] _
    refine st1.trans ?_
    show own_St p e below T1 m 5 #[vR (a1), vI (cs.length.toInt32)] [] _
    exact X1.returnOut hx Bd.returns (hb hby d22_5) hr
  · show own_QSB Z f0 a1 cs [] none h0 n0 _ T1.heap _
    exact ⟨ws1, rfl, N1, hws1, Kq1, Bq1⟩
theorem d34_0 : D34_ 0 = .ok (.getstatic 18, 3) := by decide +kernel
theorem d34_3 : D34_ 3 = .ok (.ifCond .eq 14, 3) := by decide +kernel
theorem d34_6 : D34_ 6 = .ok (.aload_n 0, 1) := by decide +kernel
theorem d34_7 : D34_ 7 = .ok (.getfield 22, 3) := by decide +kernel
theorem d34_10 : D34_ 10 = .ok (.ifCond .ne 7, 3) := by decide +kernel
theorem d34_13 : D34_ 13 = .ok (.iconst 1, 1) := by decide +kernel
theorem d34_14 : D34_ 14 = .ok (.goto 4, 3) := by decide +kernel
theorem d34_18 : D34_ 18 = .ok (.ireturn, 1) := by decide +kernel
theorem ef_34_41 (m : MethodId) (x0 : Addr) : entryFrame m #[(.ref x0)] 1 = mkF m 0 #[vR (x0)] [] := by first | (simp [entryFrame, mkF, argsToLocals, Value.category]; done) | rfl
theorem r_ibL (l : Launch) (Z : State) (a0 : Array Value) (hw : own_HW a0 Z) (ws : List Jvm.Cond) (cs1 : Int32) (fv : Value) (h0 : Heap) (n0 : Nat) (O0 : Old Z n0 h0) (G : own_Ctx Z Z.heap cs1 fv) (a1 : Addr) (F2 : Fld Z h0 a1 "java/lang/AbstractStringBuilder" "coder" "B" (.int (0 : Int32))) :
    own_M l Y38_ (head1 (Jvm.Cond.code Y38_ jdk_68_method_68_code 1 (some .boolean) :: ws) (own_rm_ 0 0 0 0)) #[(.ref a1)] Z h0 n0 (own_Q (some (.int (1 : Int32)))) (own_rm_ 0 0 0 0).cells (own_rm_ 0 0 0 0).slots := by
  have G0 := G
  obtain ⟨S_CS, N_CS, S_F, R_F, S_AD, S_HI, S_LO⟩ := G
  refine MetFree.of_bodySF (plainFor_of_name pn_4) hisR ?_
  intro p e s m args below meth c s₁ Bd hml0 hP hK
  obtain ⟨rfl, hZ, hh⟩ := hP
  have hx := Bd.exec
  have hby := Bd.bytes
  have hml : c.maxLocals = 1 := hml0
  have hown := findClass_of_methodNamed Bd.named
  have X0 : Stand p l e (own_rm_ 0 0 0 0) s m #[(.ref a1)] below meth c s₁ [] 0 0 := Stand.of_body Bd
  have e0 : s₁.heap = h0 := by rw [← hh, Bd.state]; rfl
  have N0 := Fr.nil n0
  have pre0 := own_pre (tb := p.tables) (e := e) (below := below) (T := s₁) (ef_34_41 m a1)
  obtain ⟨T1, X1, e1, st1⟩ := getS2 X0 hx hZ hown (host := "") (Or.inl (own_w hw 108 rfl)) Via.refl e0 (S_CS.ext O0.2) (g := (mkF m 0 #[vR (a1)] [])) rfl (hb hby d34_0)
  obtain ⟨T2, X2, e2, st2⟩ := getF X1 hx hZ hown (host := "") (Or.inl (own_w hw 111 rfl)) Via.refl e1 F2 (g := (mkF m 7 #[vR (a1)] [(.ref a1)])) rfl rfl (hb hby d34_7)
  obtain ⟨fs, hr, hrun, hended, hW, hsame⟩ := X2.leave (v := some (.int (1 : Int32))) (fun h => by rw [Bd.returns] at h; cases h)
  refine ⟨_, _, pre0 _ ?_, hrun, hended, _, _, rfl, ?_, ⟨_, rfl⟩, hW, hsame.mono (by decide) (by decide)⟩
  · show own_St p e below s₁ m 0 #[vR (a1)] [] _
    refine st1 _ ?_
    show own_St p e below T1 m 3 #[vR (a1)] [(.int cs1)] _
    refine XS.ifNo X1.here hx rfl (hb hby d34_3) rfl ((if0 _ _).trans (feq (N_CS : ¬ (cs1 = (0 : Int32)))).1) ?_
    refine XS.aloadN X1.here hx rfl (hb hby d34_6) rfl rfl ?_
    show own_St p e below T1 m 7 #[vR (a1)] [(.ref a1)] _
    refine st2 _ ?_
    show own_St p e below T2 m 10 #[vR (a1)] [(.int (0 : Int32))] _
    refine XS.ifNo X2.here hx rfl (hb hby d34_10) rfl ((if0 _ _).trans (teq (by decide : (0 : Int32) = (0 : Int32))).2) ?_
    refine XS.iconst X2.here hx rfl (hb hby d34_13) ?_
    refine XS.goto X2.here hx rfl (pc0 := 14) (pc' := 18) rfl (hb hby d34_14) (by decide) (by decide) ?_
    show own_St p e below T2 m 18 #[vR (a1)] [(.int (1 : Int32))] _
    exact retN X2 hx (t := .boolean) Bd.returns (by simp) (hb hby d34_18) hr
  · show own_Q (some (.int (1 : Int32))) h0 n0 _ T2.heap _
    rw [e2]
    exact ⟨rfl, N0, rfl⟩
theorem d54_0 : D54_ 0 = .ok (.aload_n 0, 1) := by decide +kernel
theorem d54_1 : D54_ 1 = .ok (.getfield 15, 3) := by decide +kernel
theorem d54_4 : D54_ 4 = .ok (.arraylength, 1) := by decide +kernel
theorem d54_5 : D54_ 5 = .ok (.aload_n 0, 1) := by decide +kernel
theorem d54_6 : D54_ 6 = .ok (.getfield 22, 3) := by decide +kernel
theorem d54_9 : D54_ 9 = .ok (.ishr, 1) := by decide +kernel
theorem d54_10 : D54_ 10 = .ok (.istore_n 2, 1) := by decide +kernel
theorem d54_11 : D54_ 11 = .ok (.iload_n 1, 1) := by decide +kernel
theorem d54_12 : D54_ 12 = .ok (.iload_n 2, 1) := by decide +kernel
theorem d54_13 : D54_ 13 = .ok (.isub, 1) := by decide +kernel
theorem d54_14 : D54_ 14 = .ok (.ifCond .le 24, 3) := by decide +kernel
theorem d54_38 : D54_ 38 = .ok (.return_, 1) := by decide +kernel
theorem ef_54_42 (m : MethodId) (x0 : Addr) (x1 : Int32) : entryFrame m #[(.ref x0), (.int x1)] 3 = mkF m 0 #[vR (x0), vI (x1), .unset] [] := by first | (simp [entryFrame, mkF, argsToLocals, Value.category]; done) | rfl
theorem r_enL (l : Launch) (Z : State) (a0 : Array Value) (hw : own_HW a0 Z) (ws : List Jvm.Cond) (cs1 : Int32) (fv : Value) (h0 : Heap) (n0 : Nat) (O0 : Old Z n0 h0) (G : own_Ctx Z Z.heap cs1 fv) (a1 a2 : Addr) (k2 : ClassId) (f0 : Nat) (cs out : List Int32) (Ee : Exa Z h0 a1 "java/lang/StringBuilder") (F1 : Fld Z h0 a1 "java/lang/AbstractStringBuilder" "value" "[B" (.ref a2)) (F3 : Fld Z h0 a1 "java/lang/AbstractStringBuilder" "count" "I" (.int out.length.toInt32)) (F4 : Fld Z h0 a1 "java/lang/AbstractStringBuilder" "maybeLatin1" "Z" (.int (0 : Int32))) (F2 : Fld Z h0 a1 "java/lang/AbstractStringBuilder" "coder" "B" (.int (0 : Int32))) (Va : Arv Z h0 a2 k2 .byte cs.length.toInt32 (out.map (fun c => .int (nar .byte c.toInt8.toInt32))) (.int (0 : Int32))) (gf : n0 ≤ f0) (hfa : f0 ≤ a1) (hfb : f0 ≤ a2) (hne : a1 ≠ a2) (hn : cs.length ≤ 4) (ho : out.length + 1 ≤ cs.length) :
    own_M l Y39_ (head1 (Jvm.Cond.code Y39_ jdk_68_method_9_code 3 none :: ws) (own_rm_ 0 0 0 0)) #[(.ref a1), (.int (out.length.toInt32 + (1 : Int32)))] Z h0 n0 (own_Q (none)) (own_rm_ 0 0 0 0).cells (own_rm_ 0 0 0 0).slots := by
  have G0 := G
  refine MetFree.of_bodySF (plainFor_of_name pn_4) hisR ?_
  intro p e s m args below meth c s₁ Bd hml0 hP hK
  obtain ⟨rfl, hZ, hh⟩ := hP
  have hx := Bd.exec
  have hby := Bd.bytes
  have hml : c.maxLocals = 3 := hml0
  have hown := findClass_of_methodNamed Bd.named
  have X0 : Stand p l e (own_rm_ 0 0 0 0) s m #[(.ref a1), (.int (out.length.toInt32 + (1 : Int32)))] below meth c s₁ [] 0 0 := Stand.of_body Bd
  have e0 : s₁.heap = h0 := by rw [← hh, Bd.state]; rfl
  have N0 := Fr.nil n0
  have pre0 := own_pre (tb := p.tables) (e := e) (below := below) (T := s₁) (ef_54_42 m a1 (out.length.toInt32 + (1 : Int32)))
  obtain ⟨T1, X1, e1, st1⟩ := getF X0 hx hZ hown (host := "") (Or.inl (own_w hw 109 rfl)) Via.refl e0 F1 (g := (mkF m 1 #[vR (a1), vI ((out.length.toInt32 + (1 : Int32))), .unset] [(.ref a1)])) rfl rfl (hb hby d54_1)
  have vc2 := Va
  obtain ⟨cl2, Ar2, qk2, S2, Nn2, Hs2, Gf2⟩ := vc2
  obtain ⟨T3, X3, e3, st3⟩ := getF X1 hx hZ hown (host := "") (Or.inl (own_w hw 111 rfl)) Via.refl e1 F2 (g := (mkF m 6 #[vR (a1), vI ((out.length.toInt32 + (1 : Int32))), .unset] [(.ref a1), (.int cs.length.toInt32)])) rfl rfl (hb hby d54_6)
  obtain ⟨fs, hr, hrun, hended, hW, hsame⟩ := X3.leave (v := none) (fun _ => rfl)
  refine ⟨_, _, pre0 _ ?_, hrun, hended, _, _, rfl, ?_, ⟨_, rfl⟩, hW, hsame.mono (by decide) (by decide)⟩
  · show own_St p e below s₁ m 0 #[vR (a1), vI ((out.length.toInt32 + (1 : Int32))), .unset] [] _
    refine XS.aloadN X0.here hx rfl (hb hby d54_0) rfl rfl ?_
    show own_St p e below s₁ m 1 #[vR (a1), vI ((out.length.toInt32 + (1 : Int32))), .unset] [(.ref a1)] _
    refine st1 _ ?_
    show own_St p e below T1 m 4 #[vR (a1), vI ((out.length.toInt32 + (1 : Int32))), .unset] [(.ref a2)] _
    refine X1.arraylength hx (by rw [e1]; exact Ar2.1) (State.isArrayOf_alike hZ.alike Ar2.2.1) (g := (mkF m 4 #[vR (a1), vI ((out.length.toInt32 + (1 : Int32))), .unset] [(.ref a2)])) rfl rfl (hb hby d54_4) _ ?_
    rw [len_of S2 Nn2]
    show own_St p e below T1 m 5 #[vR (a1), vI ((out.length.toInt32 + (1 : Int32))), .unset] [(.int cs.length.toInt32)] _
    refine XS.aloadN X1.here hx rfl (hb hby d54_5) rfl rfl ?_
    show own_St p e below T1 m 6 #[vR (a1), vI ((out.length.toInt32 + (1 : Int32))), .unset] [(.ref a1), (.int cs.length.toInt32)] _
    refine st3 _ ?_
    show own_St p e below T3 m 9 #[vR (a1), vI ((out.length.toInt32 + (1 : Int32))), .unset] [(.int (0 : Int32)), (.int cs.length.toInt32)] _
    refine XS.ishr X3.here hx rfl (hb hby d54_9) rfl ?_
    show own_St p e below T3 m 10 #[vR (a1), vI ((out.length.toInt32 + (1 : Int32))), .unset] [(.int (cs.length.toInt32 >>> ((0 : Int32) &&& 31)))] _
    rw [own_shr0 hn]
    refine XS.istoreN X3.here hx rfl (hb hby d54_10) rfl (l' := #[vR (a1), vI ((out.length.toInt32 + (1 : Int32))), vI (cs.length.toInt32)]) rfl ?_
    refine XS.iloadN X3.here hx rfl (hb hby d54_11) rfl ?_
    refine XS.iloadN X3.here hx rfl (hb hby d54_12) rfl ?_
    refine XS.isub X3.here hx rfl (hb hby d54_13) rfl ?_
    refine XS.ifYes X3.here hx rfl (pc0 := 14) (pc' := 38) rfl (hb hby d54_14) rfl ((if0 _ _).trans (flt (own_cap1 ho hn : ¬ ((0 : Int32) < ((out.length.toInt32 + (1 : Int32)) - cs.length.toInt32)))).2.2.2) (by decide) (by decide) ?_
    show own_St p e below T3 m 38 #[vR (a1), vI ((out.length.toInt32 + (1 : Int32))), vI (cs.length.toInt32)] [] _
    exact X3.returnOut hx Bd.returns (hb hby d54_38) hr
  · show own_Q (none) h0 n0 _ T3.heap _
    rw [e3]
    exact ⟨rfl, N0, rfl⟩
theorem d34_17 : D34_ 17 = .ok (.iconst 0, 1) := by decide +kernel
theorem r_ibU (l : Launch) (Z : State) (a0 : Array Value) (hw : own_HW a0 Z) (ws : List Jvm.Cond) (cs1 : Int32) (fv : Value) (h0 : Heap) (n0 : Nat) (O0 : Old Z n0 h0) (G : own_Ctx Z Z.heap cs1 fv) (a1 : Addr) (F2 : Fld Z h0 a1 "java/lang/AbstractStringBuilder" "coder" "B" (.int (1 : Int32))) :
    own_M l Y38_ (head1 (Jvm.Cond.code Y38_ jdk_68_method_68_code 1 (some .boolean) :: ws) (own_rm_ 0 0 0 0)) #[(.ref a1)] Z h0 n0 (own_Q (some (.int (0 : Int32)))) (own_rm_ 0 0 0 0).cells (own_rm_ 0 0 0 0).slots := by
  have G0 := G
  obtain ⟨S_CS, N_CS, S_F, R_F, S_AD, S_HI, S_LO⟩ := G
  refine MetFree.of_bodySF (plainFor_of_name pn_4) hisR ?_
  intro p e s m args below meth c s₁ Bd hml0 hP hK
  obtain ⟨rfl, hZ, hh⟩ := hP
  have hx := Bd.exec
  have hby := Bd.bytes
  have hml : c.maxLocals = 1 := hml0
  have hown := findClass_of_methodNamed Bd.named
  have X0 : Stand p l e (own_rm_ 0 0 0 0) s m #[(.ref a1)] below meth c s₁ [] 0 0 := Stand.of_body Bd
  have e0 : s₁.heap = h0 := by rw [← hh, Bd.state]; rfl
  have N0 := Fr.nil n0
  have pre0 := own_pre (tb := p.tables) (e := e) (below := below) (T := s₁) (ef_34_41 m a1)
  obtain ⟨T1, X1, e1, st1⟩ := getS2 X0 hx hZ hown (host := "") (Or.inl (own_w hw 108 rfl)) Via.refl e0 (S_CS.ext O0.2) (g := (mkF m 0 #[vR (a1)] [])) rfl (hb hby d34_0)
  obtain ⟨T2, X2, e2, st2⟩ := getF X1 hx hZ hown (host := "") (Or.inl (own_w hw 111 rfl)) Via.refl e1 F2 (g := (mkF m 7 #[vR (a1)] [(.ref a1)])) rfl rfl (hb hby d34_7)
  obtain ⟨fs, hr, hrun, hended, hW, hsame⟩ := X2.leave (v := some (.int (0 : Int32))) (fun h => by rw [Bd.returns] at h; cases h)
  refine ⟨_, _, pre0 _ ?_, hrun, hended, _, _, rfl, ?_, ⟨_, rfl⟩, hW, hsame.mono (by decide) (by decide)⟩
  · show own_St p e below s₁ m 0 #[vR (a1)] [] _
    refine st1 _ ?_
    show own_St p e below T1 m 3 #[vR (a1)] [(.int cs1)] _
    refine XS.ifNo X1.here hx rfl (hb hby d34_3) rfl ((if0 _ _).trans (feq (N_CS : ¬ (cs1 = (0 : Int32)))).1) ?_
    refine XS.aloadN X1.here hx rfl (hb hby d34_6) rfl rfl ?_
    show own_St p e below T1 m 7 #[vR (a1)] [(.ref a1)] _
    refine st2 _ ?_
    show own_St p e below T2 m 10 #[vR (a1)] [(.int (1 : Int32))] _
    refine XS.ifYes X2.here hx rfl (pc0 := 10) (pc' := 17) rfl (hb hby d34_10) rfl ((if0 _ _).trans (feq (by decide : ¬ ((1 : Int32) = (0 : Int32)))).2) (by decide) (by decide) ?_
    refine XS.iconst X2.here hx rfl (hb hby d34_17) ?_
    show own_St p e below T2 m 18 #[vR (a1)] [(.int (0 : Int32))] _
    exact retN X2 hx (t := .boolean) Bd.returns (by simp) (hb hby d34_18) hr
  · show own_Q (some (.int (0 : Int32))) h0 n0 _ T2.heap _
    rw [e2]
    exact ⟨rfl, N0, rfl⟩
theorem r_enU (l : Launch) (Z : State) (a0 : Array Value) (hw : own_HW a0 Z) (ws : List Jvm.Cond) (cs1 : Int32) (fv : Value) (h0 : Heap) (n0 : Nat) (O0 : Old Z n0 h0) (G : own_Ctx Z Z.heap cs1 fv) (a1 a2 : Addr) (k2 : ClassId) (f0 : Nat) (cs out : List Int32) (Ee : Exa Z h0 a1 "java/lang/StringBuilder") (F1 : Fld Z h0 a1 "java/lang/AbstractStringBuilder" "value" "[B" (.ref a2)) (F3 : Fld Z h0 a1 "java/lang/AbstractStringBuilder" "count" "I" (.int out.length.toInt32)) (F4 : Fld Z h0 a1 "java/lang/AbstractStringBuilder" "maybeLatin1" "Z" (.int (0 : Int32))) (F2 : Fld Z h0 a1 "java/lang/AbstractStringBuilder" "coder" "B" (.int (1 : Int32))) (Va : Arv Z h0 a2 k2 .byte (2 * cs.length).toInt32 (own_u2 cs.length out) (.int (0 : Int32))) (gf : n0 ≤ f0) (hfa : f0 ≤ a1) (hfb : f0 ≤ a2) (hne : a1 ≠ a2) (hn : cs.length ≤ 4) (ho : out.length + 1 ≤ cs.length) :
    own_M l Y39_ (head1 (Jvm.Cond.code Y39_ jdk_68_method_9_code 3 none :: ws) (own_rm_ 0 0 0 0)) #[(.ref a1), (.int (out.length.toInt32 + (1 : Int32)))] Z h0 n0 (own_Q (none)) (own_rm_ 0 0 0 0).cells (own_rm_ 0 0 0 0).slots := by
  have G0 := G
  refine MetFree.of_bodySF (plainFor_of_name pn_4) hisR ?_
  intro p e s m args below meth c s₁ Bd hml0 hP hK
  obtain ⟨rfl, hZ, hh⟩ := hP
  have hx := Bd.exec
  have hby := Bd.bytes
  have hml : c.maxLocals = 3 := hml0
  have hown := findClass_of_methodNamed Bd.named
  have X0 : Stand p l e (own_rm_ 0 0 0 0) s m #[(.ref a1), (.int (out.length.toInt32 + (1 : Int32)))] below meth c s₁ [] 0 0 := Stand.of_body Bd
  have e0 : s₁.heap = h0 := by rw [← hh, Bd.state]; rfl
  have N0 := Fr.nil n0
  have pre0 := own_pre (tb := p.tables) (e := e) (below := below) (T := s₁) (ef_54_42 m a1 (out.length.toInt32 + (1 : Int32)))
  obtain ⟨T1, X1, e1, st1⟩ := getF X0 hx hZ hown (host := "") (Or.inl (own_w hw 109 rfl)) Via.refl e0 F1 (g := (mkF m 1 #[vR (a1), vI ((out.length.toInt32 + (1 : Int32))), .unset] [(.ref a1)])) rfl rfl (hb hby d54_1)
  have vc2 := Va
  obtain ⟨cl2, Ar2, qk2, S2, Nn2, Hs2, Gf2⟩ := vc2
  obtain ⟨T3, X3, e3, st3⟩ := getF X1 hx hZ hown (host := "") (Or.inl (own_w hw 111 rfl)) Via.refl e1 F2 (g := (mkF m 6 #[vR (a1), vI ((out.length.toInt32 + (1 : Int32))), .unset] [(.ref a1), (.int (2 * cs.length).toInt32)])) rfl rfl (hb hby d54_6)
  obtain ⟨fs, hr, hrun, hended, hW, hsame⟩ := X3.leave (v := none) (fun _ => rfl)
  refine ⟨_, _, pre0 _ ?_, hrun, hended, _, _, rfl, ?_, ⟨_, rfl⟩, hW, hsame.mono (by decide) (by decide)⟩
  · show own_St p e below s₁ m 0 #[vR (a1), vI ((out.length.toInt32 + (1 : Int32))), .unset] [] _
    refine XS.aloadN X0.here hx rfl (hb hby d54_0) rfl rfl ?_
    show own_St p e below s₁ m 1 #[vR (a1), vI ((out.length.toInt32 + (1 : Int32))), .unset] [(.ref a1)] _
    refine st1 _ ?_
    show own_St p e below T1 m 4 #[vR (a1), vI ((out.length.toInt32 + (1 : Int32))), .unset] [(.ref a2)] _
    refine X1.arraylength hx (by rw [e1]; exact Ar2.1) (State.isArrayOf_alike hZ.alike Ar2.2.1) (g := (mkF m 4 #[vR (a1), vI ((out.length.toInt32 + (1 : Int32))), .unset] [(.ref a2)])) rfl rfl (hb hby d54_4) _ ?_
    rw [len_of S2 Nn2]
    show own_St p e below T1 m 5 #[vR (a1), vI ((out.length.toInt32 + (1 : Int32))), .unset] [(.int (2 * cs.length).toInt32)] _
    refine XS.aloadN X1.here hx rfl (hb hby d54_5) rfl rfl ?_
    show own_St p e below T1 m 6 #[vR (a1), vI ((out.length.toInt32 + (1 : Int32))), .unset] [(.ref a1), (.int (2 * cs.length).toInt32)] _
    refine st3 _ ?_
    show own_St p e below T3 m 9 #[vR (a1), vI ((out.length.toInt32 + (1 : Int32))), .unset] [(.int (1 : Int32)), (.int (2 * cs.length).toInt32)] _
    refine XS.ishr X3.here hx rfl (hb hby d54_9) rfl ?_
    show own_St p e below T3 m 10 #[vR (a1), vI ((out.length.toInt32 + (1 : Int32))), .unset] [(.int ((2 * cs.length).toInt32 >>> ((1 : Int32) &&& 31)))] _
    rw [own_shr1 (i := cs.length) (own_4 hn)]
    refine XS.istoreN X3.here hx rfl (hb hby d54_10) rfl (l' := #[vR (a1), vI ((out.length.toInt32 + (1 : Int32))), vI (cs.length.toInt32)]) rfl ?_
    refine XS.iloadN X3.here hx rfl (hb hby d54_11) rfl ?_
    refine XS.iloadN X3.here hx rfl (hb hby d54_12) rfl ?_
    refine XS.isub X3.here hx rfl (hb hby d54_13) rfl ?_
    refine XS.ifYes X3.here hx rfl (pc0 := 14) (pc' := 38) rfl (hb hby d54_14) rfl ((if0 _ _).trans (flt (own_cap1 ho hn : ¬ ((0 : Int32) < ((out.length.toInt32 + (1 : Int32)) - cs.length.toInt32)))).2.2.2) (by decide) (by decide) ?_
    show own_St p e below T3 m 38 #[vR (a1), vI ((out.length.toInt32 + (1 : Int32))), vI (cs.length.toInt32)] [] _
    exact X3.returnOut hx Bd.returns (hb hby d54_38) hr
  · show own_Q (none) h0 n0 _ T3.heap _
    rw [e3]
    exact ⟨rfl, N0, rfl⟩
theorem d55_0 : D55_ 0 = .ok (.iload_n 0, 1) := by decide +kernel
theorem d55_1 : D55_ 1 = .ok (.sipush 255, 3) := by decide +kernel
theorem d55_4 : D55_ 4 = .ok (.if_icmp .gt 7, 3) := by decide +kernel
theorem d55_11 : D55_ 11 = .ok (.iconst 0, 1) := by decide +kernel
theorem d55_12 : D55_ 12 = .ok (.ireturn, 1) := by decide +kernel
theorem ef_55_43 (m : MethodId) (x0 : Int32) : entryFrame m #[(.int x0)] 1 = mkF m 0 #[vI (x0)] [] := by first | (simp [entryFrame, mkF, argsToLocals, Value.category]; done) | rfl
theorem r_ce0 (l : Launch) (Z : State) (a0 : Array Value) (hw : own_HW a0 Z) (ws : List Jvm.Cond) (cs1 : Int32) (fv : Value) (h0 : Heap) (n0 : Nat) (O0 : Old Z n0 h0) (G : own_Ctx Z Z.heap cs1 fv) (cc : Int32) (hc : (255 : Int32) < cc) :
    own_M l Y40_ (head1 (Jvm.Cond.code Y40_ jdk_43_method_3_code 1 (some .boolean) :: ws) (own_rm_ 0 0 0 0)) #[(.int cc)] Z h0 n0 (own_Q (some (.int (0 : Int32)))) (own_rm_ 0 0 0 0).cells (own_rm_ 0 0 0 0).slots := by
  have G0 := G
  refine MetFree.of_bodySF (plainFor_of_name pn_3) hisR ?_
  intro p e s m args below meth c s₁ Bd hml0 hP hK
  obtain ⟨rfl, hZ, hh⟩ := hP
  have hx := Bd.exec
  have hby := Bd.bytes
  have hml : c.maxLocals = 1 := hml0
  have hown := findClass_of_methodNamed Bd.named
  have X0 : Stand p l e (own_rm_ 0 0 0 0) s m #[(.int cc)] below meth c s₁ [] 0 0 := Stand.of_body Bd
  have e0 : s₁.heap = h0 := by rw [← hh, Bd.state]; rfl
  have N0 := Fr.nil n0
  have pre0 := own_pre (tb := p.tables) (e := e) (below := below) (T := s₁) (ef_55_43 m cc)
  obtain ⟨fs, hr, hrun, hended, hW, hsame⟩ := X0.leave (v := some (.int (0 : Int32))) (fun h => by rw [Bd.returns] at h; cases h)
  refine ⟨_, _, pre0 _ ?_, hrun, hended, _, _, rfl, ?_, ⟨_, rfl⟩, hW, hsame.mono (by decide) (by decide)⟩
  · show own_St p e below s₁ m 0 #[vI (cc)] [] _
    refine XS.iloadN X0.here hx rfl (hb hby d55_0) rfl ?_
    refine XS.sipush X0.here hx rfl (hb hby d55_1) ?_
    refine XS.icmpYes X0.here hx rfl (pc0 := 4) (pc' := 11) rfl (hb hby d55_4) rfl (tlt (hc : (255 : Int32) < cc)).2.2.1 (by decide) (by decide) ?_
    refine XS.iconst X0.here hx rfl (hb hby d55_11) ?_
    show own_St p e below s₁ m 12 #[vI (cc)] [(.int (0 : Int32))] _
    exact retN X0 hx (t := .boolean) Bd.returns (by simp) (hb hby d55_12) hr
  · show own_Q (some (.int (0 : Int32))) h0 n0 _ s₁.heap _
    rw [e0]
    exact ⟨rfl, N0, rfl⟩
theorem d55_7 : D55_ 7 = .ok (.iconst 1, 1) := by decide +kernel
theorem d55_8 : D55_ 8 = .ok (.goto 4, 3) := by decide +kernel
theorem r_ce1 (l : Launch) (Z : State) (a0 : Array Value) (hw : own_HW a0 Z) (ws : List Jvm.Cond) (cs1 : Int32) (fv : Value) (h0 : Heap) (n0 : Nat) (O0 : Old Z n0 h0) (G : own_Ctx Z Z.heap cs1 fv) (cc : Int32) (hc : ¬ ((255 : Int32) < cc)) :
    own_M l Y40_ (head1 (Jvm.Cond.code Y40_ jdk_43_method_3_code 1 (some .boolean) :: ws) (own_rm_ 0 0 0 0)) #[(.int cc)] Z h0 n0 (own_Q (some (.int (1 : Int32)))) (own_rm_ 0 0 0 0).cells (own_rm_ 0 0 0 0).slots := by
  have G0 := G
  refine MetFree.of_bodySF (plainFor_of_name pn_3) hisR ?_
  intro p e s m args below meth c s₁ Bd hml0 hP hK
  obtain ⟨rfl, hZ, hh⟩ := hP
  have hx := Bd.exec
  have hby := Bd.bytes
  have hml : c.maxLocals = 1 := hml0
  have hown := findClass_of_methodNamed Bd.named
  have X0 : Stand p l e (own_rm_ 0 0 0 0) s m #[(.int cc)] below meth c s₁ [] 0 0 := Stand.of_body Bd
  have e0 : s₁.heap = h0 := by rw [← hh, Bd.state]; rfl
  have N0 := Fr.nil n0
  have pre0 := own_pre (tb := p.tables) (e := e) (below := below) (T := s₁) (ef_55_43 m cc)
  obtain ⟨fs, hr, hrun, hended, hW, hsame⟩ := X0.leave (v := some (.int (1 : Int32))) (fun h => by rw [Bd.returns] at h; cases h)
  refine ⟨_, _, pre0 _ ?_, hrun, hended, _, _, rfl, ?_, ⟨_, rfl⟩, hW, hsame.mono (by decide) (by decide)⟩
  · show own_St p e below s₁ m 0 #[vI (cc)] [] _
    refine XS.iloadN X0.here hx rfl (hb hby d55_0) rfl ?_
    refine XS.sipush X0.here hx rfl (hb hby d55_1) ?_
    refine XS.icmpNo X0.here hx rfl (hb hby d55_4) rfl (flt (hc : ¬ ((255 : Int32) < cc))).2.2.1 ?_
    refine XS.iconst X0.here hx rfl (hb hby d55_7) ?_
    refine XS.goto X0.here hx rfl (pc0 := 8) (pc' := 12) rfl (hb hby d55_8) (by decide) (by decide) ?_
    show own_St p e below s₁ m 12 #[vI (cc)] [(.int (1 : Int32))] _
    exact retN X0 hx (t := .boolean) Bd.returns (by simp) (hb hby d55_12) hr
  · show own_Q (some (.int (1 : Int32))) h0 n0 _ s₁.heap _
    rw [e0]
    exact ⟨rfl, N0, rfl⟩
theorem own_in2 {i o n : Nat} (h : i < o) (ho : o ≤ n) (hn : n ≤ 4) : ¬ (i.toInt32 < 0) ∧ i.toInt32 < n.toInt32 := ⟨(own_ti (by omega)).2.1, own_tl (by omega) (by omega)⟩
theorem own_k2 {o n : Nat} (ho : o ≤ n) (hn : n ≤ 4) : o ≤ 1000 := by omega
theorem own_ki2 {i o n : Nat} (h : i < o) (ho : o ≤ n) (hn : n ≤ 4) : i ≤ 1000 := by omega
theorem d58_10 : D58_ 10 = .ok (.iload 5, 2) := by decide +kernel
theorem d58_12 : D58_ 12 = .ok (.iload 4, 2) := by decide +kernel
theorem d58_14 : D58_ 14 = .ok (.if_icmp .ge 27, 3) := by decide +kernel
theorem d58_17 : D58_ 17 = .ok (.aload_n 2, 1) := by decide +kernel
theorem d58_18 : D58_ 18 = .ok (.iload_n 3, 1) := by decide +kernel
theorem d58_19 : D58_ 19 = .ok (.iinc 3 1, 3) := by decide +kernel
theorem d58_22 : D58_ 22 = .ok (.aload_n 0, 1) := by decide +kernel
theorem d58_23 : D58_ 23 = .ok (.iload_n 1, 1) := by decide +kernel
theorem d58_24 : D58_ 24 = .ok (.iinc 1 1, 3) := by decide +kernel
theorem d58_27 : D58_ 27 = .ok (.baload, 1) := by decide +kernel
theorem d58_28 : D58_ 28 = .ok (.sipush 255, 3) := by decide +kernel
theorem d58_31 : D58_ 31 = .ok (.iand, 1) := by decide +kernel
theorem d58_32 : D58_ 32 = .ok (.invokestatic 111, 3) := by decide +kernel
theorem d58_35 : D58_ 35 = .ok (.iinc 5 1, 3) := by decide +kernel
theorem d58_38 : D58_ 38 = .ok (.goto (-28), 3) := by decide +kernel
theorem t_iu {p : Program} {l : Launch} {e : Env} {s : State} {m : MethodId} {args : Array Value} {below : List Frame} {meth : Method} {c : Code} {T0 : State} {locs : List Loc} {Z : State} {a0 : Array Value} {h0 : Heap} {n0 : Nat} (cs1 : Int32) (fv : Value) (a2 a3 : Addr) (k2 k3 : ClassId) (cs : List Int32) (nn : Nat) (i : Nat)
    (X0 : Stand p l e (own_rm_ 3 0 0 43) s m args below meth c T0 locs 0 0) (hx : p.tables.exec = Jvm.exec) (hZ : Z.Warmed39 s.vm) (hw : own_HW a0 Z) (hby : c.code = jdk_52_method_86_code) (hml : c.maxLocals = 6) (hown : s.vm.findClass "java/lang/StringUTF16" = some m.cls) (e0 : T0.heap = h0) (N0 : Fr n0 locs) (O0 : Old Z n0 h0) (G : own_Ctx Z Z.heap cs1 fv) (Va : Arv Z h0 a2 k2 .byte nn.toInt32 (cs.map (fun c => .int (nar .byte c.toInt8.toInt32))) (.int (0 : Int32))) (Vb : Arv Z h0 a3 k3 .byte (2 * nn).toInt32 (own_u2 nn (cs.take i)) (.int (0 : Int32))) (ga : n0 ≤ a3) (hne : a2 ≠ a3) (hi : i < cs.length) (hn : cs.length ≤ nn) (hk : nn ≤ 4) (hB : own_Bd cs) (hl : own_Lat cs) :
    ∃ (T' : State) (h' : Heap) (L' : List Loc), Stand p l e (own_rm_ 3 0 0 43) s m args below meth c T' L' 0 0 ∧ T'.heap = h' ∧ Fr n0 L' ∧ Old Z n0 h' ∧ Keep h0 h' [a3] ∧ (Arv Z h' a2 k2 .byte nn.toInt32 (cs.map (fun c => .int (nar .byte c.toInt8.toInt32))) (.int (0 : Int32))) ∧ (Arv Z h' a3 k3 .byte (2 * nn).toInt32 (own_u2 nn (cs.take (i + 1))) (.int (0 : Int32))) ∧ ∀ target, Steps p.tables e below (T'.setTop (mkF m 10 #[vR (a2), vI ((i.toInt32 + (1 : Int32))), vR (a3), vI ((i.toInt32 + (1 : Int32))), vI (cs.length.toInt32), vI ((i.toInt32 + (1 : Int32)))] [])) target → Steps p.tables e below (T0.setTop (mkF m 10 #[vR (a2), vI (i.toInt32), vR (a3), vI (i.toInt32), vI (cs.length.toInt32), vI (i.toInt32)] [])) target := by
  have G0 := G
  have hti : (cs.take i).length ≤ nn := by rw [(own_take1 cs hi).2]; omega
  have hi400 : i ≤ 400 := by omega
  have hpz : 2 * i + 1 < (own_u2 nn (cs.take i)).length := by rw [own_u2_len hti]; omega
  have hpl : (2 * nn).toInt32 = (own_u2 nn (cs.take i)).length.toInt32 := by rw [own_u2_len hti]
  have hp1000 : (own_u2 nn (cs.take i)).length ≤ 1000 := by rw [own_u2_len hti]; omega
  have vc1 := Va
  obtain ⟨cl1, Ar1, qk1, S1, Nn1, Hs1, Gf1⟩ := vc1
  have hin1 : ¬ (i.toInt32 < 0 ∨ cl1.slots.size ≤ (i.toInt32).toNatClampNeg) := inb_of S1 (own_in2 hi hn hk)
  have hat1 : cl1.slots[(i.toInt32).toNatClampNeg]? = some (.int (nar .byte (cs[i].toInt8.toInt32))) := Has.at Hs1 hin1 (by rw [(own_ti (own_ki2 hi hn hk)).1]; exact own_atf (fun c => nar .byte c.toInt8.toInt32) hi)
  obtain ⟨_, _, ⟨T2, L2, k2, n2⟩, -, X2, ⟨Lc2, hQ2, l2, y2, z2⟩, st2⟩ := Jvm.LawKit.callS X0 hx (y := Y2_) hown (mvT hZ (own_w hw 188 rfl)) (mvT hZ (own_w hw 189 rfl)) (mvT hZ (own_w hw 77 rfl)) (mvT hZ (own_w hw 190 rfl)) (by decide) (backOf (W := 0) (r_pc l Z a0 hw [] cs1 fv h0 n0 O0 G0 a3 k3 (own_u2 nn (cs.take i)) (2 * nn).toInt32 cs[i] i Vb ga hi400 hpz hpl hp1000) hZ (own_w hw 190 rfl) (own_w hw 77 rfl) (by decide) (by decide)) (g := (mkF m 32 #[vR (a2), vI ((i.toInt32 + (1 : Int32))), vR (a3), vI ((i.toInt32 + (1 : Int32))), vI (cs.length.toInt32), vI (i.toInt32)] [(.int cs[i]), (.int i.toInt32), (.ref a3)])) rfl (by rw [hml]; rfl) (argsL := [(.ref a3), (.int i.toInt32), (.int cs[i])]) (rest := []) (lenOf pd_1 rfl) rfl (by show 2 * 0 + _ ≤ _; exact Nat.le_of_eq rfl) (hb hby d58_32) (fun _ _ => ⟨rfl, e0, (by decide : 0 + 0 ≤ _), (by decide : 0 + 0 ≤ _)⟩)
  dsimp only [Pt.U, Pt.locs, Pt.cells, Pt.slots] at X2 l2 y2 z2 st2 hQ2
  subst l2 y2 z2
  obtain ⟨rfl, N2q, Kq2, Vb2⟩ := hQ2
  have N2 := Fr.app N0 N2q
  have f3 := Va.keep Kq2 (fun q => (List.mem_cons.mp q).elim hne (fun q => nomatch q))
  have O2 := O0.keep Kq2 (allS ga all0)
  have K2 : Keep h0 T2.heap [a3] := (Keep.refl h0 [a3]).trans Kq2 (allS (Or.inl (List.mem_of_getElem? (i := 0) rfl)) all0)
  refine ⟨T2, T2.heap, _, X2, rfl, N2, O2, K2, f3, (by have q := Vb2; rw [own_u2_turn cs hi hn] at q; exact q), fun target kt => ?_⟩
  show own_St p e below T0 m 10 #[vR (a2), vI (i.toInt32), vR (a3), vI (i.toInt32), vI (cs.length.toInt32), vI (i.toInt32)] [] _
  refine XS.iload X0.here hx rfl (hb hby d58_10) rfl ?_
  refine XS.iload X0.here hx rfl (hb hby d58_12) rfl ?_
  refine XS.icmpNo X0.here hx rfl (hb hby d58_14) rfl (tlt ((own_tl hi (own_k2 hn hk)) : i.toInt32 < cs.length.toInt32)).2.1 ?_
  refine XS.aloadN X0.here hx rfl (hb hby d58_17) rfl rfl ?_
  refine XS.iloadN X0.here hx rfl (hb hby d58_18) rfl ?_
  show own_St p e below T0 m 19 #[vR (a2), vI (i.toInt32), vR (a3), vI (i.toInt32), vI (cs.length.toInt32), vI (i.toInt32)] [(.int i.toInt32), (.ref a3)] _
  refine XS.iinc X0.here hx rfl (hb hby d58_19) rfl (l' := #[vR (a2), vI (i.toInt32), vR (a3), vI ((i.toInt32 + (1 : Int32))), vI (cs.length.toInt32), vI (i.toInt32)]) rfl ?_
  show own_St p e below T0 m 22 #[vR (a2), vI (i.toInt32), vR (a3), vI ((i.toInt32 + (1 : Int32))), vI (cs.length.toInt32), vI (i.toInt32)] [(.int i.toInt32), (.ref a3)] _
  refine XS.aloadN X0.here hx rfl (hb hby d58_22) rfl rfl ?_
  refine XS.iloadN X0.here hx rfl (hb hby d58_23) rfl ?_
  show own_St p e below T0 m 24 #[vR (a2), vI (i.toInt32), vR (a3), vI ((i.toInt32 + (1 : Int32))), vI (cs.length.toInt32), vI (i.toInt32)] [(.int i.toInt32), (.ref a2), (.int i.toInt32), (.ref a3)] _
  refine XS.iinc X0.here hx rfl (hb hby d58_24) rfl (l' := #[vR (a2), vI ((i.toInt32 + (1 : Int32))), vR (a3), vI ((i.toInt32 + (1 : Int32))), vI (cs.length.toInt32), vI (i.toInt32)]) rfl ?_
  show own_St p e below T0 m 27 #[vR (a2), vI ((i.toInt32 + (1 : Int32))), vR (a3), vI ((i.toInt32 + (1 : Int32))), vI (cs.length.toInt32), vI (i.toInt32)] [(.int i.toInt32), (.ref a2), (.int i.toInt32), (.ref a3)] _
  refine X0.baloadBytes hx (j := i.toInt32) (v := (.int (nar .byte (cs[i].toInt8.toInt32)))) (by rw [e0]; exact Ar1.1) (State.isArrayOf_alike hZ.alike Ar1.2.1) Ar1.2.2 hin1 hat1 (g := (mkF m 27 #[vR (a2), vI ((i.toInt32 + (1 : Int32))), vR (a3), vI ((i.toInt32 + (1 : Int32))), vI (cs.length.toInt32), vI (i.toInt32)] [(.int i.toInt32), (.ref a2), (.int i.toInt32), (.ref a3)])) rfl rfl (hb hby d58_27) _ ?_
  show own_St p e below T0 m 28 #[vR (a2), vI ((i.toInt32 + (1 : Int32))), vR (a3), vI ((i.toInt32 + (1 : Int32))), vI (cs.length.toInt32), vI (i.toInt32)] [(.int (nar .byte (cs[i].toInt8.toInt32))), (.int i.toInt32), (.ref a3)] _
  refine XS.sipush X0.here hx rfl (hb hby d58_28) ?_
  refine XS.iand X0.here hx rfl (hb hby d58_31) rfl ?_
  show own_St p e below T0 m 32 #[vR (a2), vI ((i.toInt32 + (1 : Int32))), vR (a3), vI ((i.toInt32 + (1 : Int32))), vI (cs.length.toInt32), vI (i.toInt32)] [(.int ((nar .byte (cs[i].toInt8.toInt32)) &&& (255 : Int32))), (.int i.toInt32), (.ref a3)] _
  rw [own_lat2 (hB i hi).1 (hl i hi)]
  show own_St p e below T0 m 32 #[vR (a2), vI ((i.toInt32 + (1 : Int32))), vR (a3), vI ((i.toInt32 + (1 : Int32))), vI (cs.length.toInt32), vI (i.toInt32)] [(.int cs[i]), (.int i.toInt32), (.ref a3)] _
  refine st2 _ ?_
  show own_St p e below T2 m 35 #[vR (a2), vI ((i.toInt32 + (1 : Int32))), vR (a3), vI ((i.toInt32 + (1 : Int32))), vI (cs.length.toInt32), vI (i.toInt32)] [] _
  refine XS.iinc X2.here hx rfl (hb hby d58_35) rfl (l' := #[vR (a2), vI ((i.toInt32 + (1 : Int32))), vR (a3), vI ((i.toInt32 + (1 : Int32))), vI (cs.length.toInt32), vI ((i.toInt32 + (1 : Int32)))]) rfl ?_
  show own_St p e below T2 m 38 #[vR (a2), vI ((i.toInt32 + (1 : Int32))), vR (a3), vI ((i.toInt32 + (1 : Int32))), vI (cs.length.toInt32), vI ((i.toInt32 + (1 : Int32)))] [] _
  refine XS.goto X2.here hx rfl (pc0 := 38) (pc' := 10) rfl (hb hby d58_38) (by decide) (by decide) ?_
  exact kt
theorem t_iue {p : Program} {l : Launch} {e : Env} {R : Room} {s : State} {m : MethodId} {args : Array Value} {below : List Frame} {meth : Method} {c : Code} {T0 : State} {locs : List Loc} {cells slots : Nat} {Z : State} {a0 : Array Value} {h0 : Heap} {n0 : Nat} (cs1 : Int32) (fv : Value) (a2 a3 : Addr) (i1 z1 : Int32)
    (X0 : Stand p l e R s m args below meth c T0 locs cells slots) (hx : p.tables.exec = Jvm.exec) (hZ : Z.Warmed39 s.vm) (hw : own_HW a0 Z) (hby : c.code = jdk_52_method_86_code) (hml : c.maxLocals = 6) (hown : s.vm.findClass "java/lang/StringUTF16" = some m.cls) (e0 : T0.heap = h0) (O0 : Old Z n0 h0) (G : own_Ctx Z Z.heap cs1 fv) (hi2 : ¬ (i1 < z1)) :
    ∃ T' : State, Stand p l e R s m args below meth c T' locs cells slots ∧ T'.heap = h0 ∧ ∀ target, Steps p.tables e below (T'.setTop (mkF m 41 #[vR (a2), vI (i1), vR (a3), vI (i1), vI (z1), vI (i1)] [])) target → Steps p.tables e below (T0.setTop (mkF m 10 #[vR (a2), vI (i1), vR (a3), vI (i1), vI (z1), vI (i1)] [])) target := by
  have G0 := G
  refine ⟨T0, X0, e0, fun target kt => ?_⟩
  show own_St p e below T0 m 10 #[vR (a2), vI (i1), vR (a3), vI (i1), vI (z1), vI (i1)] [] _
  refine XS.iload X0.here hx rfl (hb hby d58_10) rfl ?_
  refine XS.iload X0.here hx rfl (hb hby d58_12) rfl ?_
  refine XS.icmpYes X0.here hx rfl (pc0 := 14) (pc' := 41) rfl (hb hby d58_14) rfl (flt (hi2 : ¬ (i1 < z1))).2.1 (by decide) (by decide) ?_
  exact kt
theorem own_iu {p : Program} {l : Launch} {e : Env} {s : State} {m : MethodId} {args : Array Value} {below : List Frame} {meth : Method} {c : Code} {Z : State} {a0 : Array Value} {n0 : Nat} (cs1 : Int32) (fv : Value) (a2 a3 : Addr) (k2 k3 : ClassId) (cs : List Int32) (nn : Nat)
    (hx : p.tables.exec = Jvm.exec) (hZ : Z.Warmed39 s.vm) (hw : own_HW a0 Z) (hby : c.code = jdk_52_method_86_code) (hml : c.maxLocals = 6) (hown : s.vm.findClass "java/lang/StringUTF16" = some m.cls) (G : own_Ctx Z Z.heap cs1 fv) (ga : n0 ≤ a3) (hne : a2 ≠ a3) (hn : cs.length ≤ nn) (hk : nn ≤ 4) (hB : own_Bd cs) (hl : own_Lat cs) :
    ∀ (k i : Nat) (T0 : State) (h0 : Heap) (locs : List Loc), i + k = cs.length → Stand p l e (own_rm_ 3 0 0 43) s m args below meth c T0 locs 0 0 → T0.heap = h0 → Fr n0 locs → Old Z n0 h0 → Arv Z h0 a2 k2 .byte nn.toInt32 (cs.map (fun c => .int (nar .byte c.toInt8.toInt32))) (.int (0 : Int32)) → Arv Z h0 a3 k3 .byte (2 * nn).toInt32 (own_u2 nn (cs.take i)) (.int (0 : Int32)) →
    ∃ (T' : State) (h' : Heap) (L' : List Loc), Stand p l e (own_rm_ 3 0 0 43) s m args below meth c T' L' 0 0 ∧ T'.heap = h' ∧ Fr n0 L' ∧ Old Z n0 h' ∧ Keep h0 h' [a3] ∧ Arv Z h' a3 k3 .byte (2 * nn).toInt32 (own_u2 nn (cs.take cs.length)) (.int (0 : Int32)) ∧
      ∀ target, Steps p.tables e below (T'.setTop (mkF m 41 #[vR (a2), vI (cs.length.toInt32), vR (a3), vI (cs.length.toInt32), vI (cs.length.toInt32), vI (cs.length.toInt32)] [])) target → Steps p.tables e below (T0.setTop (mkF m 10 #[vR (a2), vI (i.toInt32), vR (a3), vI (i.toInt32), vI (cs.length.toInt32), vI (i.toInt32)] [])) target := by
  intro k
  induction k with
  | zero =>
    intro i T0 h0 locs hi X0 e0 N0 O0 Va Vb
    obtain rfl : i = cs.length := by omega
    obtain ⟨T1, X1, e1, st⟩ := t_iue cs1 fv a2 a3 cs.length.toInt32 cs.length.toInt32 X0 hx hZ hw hby hml hown e0 O0 G (by rw [Int32.lt_iff_toInt_lt]; omega)
    exact ⟨T1, h0, locs, X1, e1, N0, O0, Keep.refl _ _, Vb, st⟩
  | succ k ih =>
    intro i T0 h0 locs hi X0 e0 N0 O0 Va Vb
    have hlt : i < cs.length := by omega
    obtain ⟨T1, h1, L1, X1, e1, N1, O1, K1, V2, V3, st1⟩ := t_iu cs1 fv a2 a3 k2 k3 cs nn i X0 hx hZ hw hby hml hown e0 N0 O0 G Va Vb ga hne hlt hn hk hB hl
    rw [own_ts (by omega)] at st1
    obtain ⟨T', h', L', X', e', N', O', K', V', st'⟩ := ih (i + 1) T1 h1 L1 (by omega) X1 e1 N1 O1 V2 V3
    exact ⟨T', h', L', X', e', N', O', K1.trans K' (allS (Or.inl (List.mem_singleton.mpr rfl)) all0), V', fun target kt => st1 _ (st' _ kt)⟩

theorem d58_0 : D58_ 0 = .ok (.iload_n 3, 1) := by decide +kernel
theorem d58_1 : D58_ 1 = .ok (.iload 4, 2) := by decide +kernel
theorem d58_3 : D58_ 3 = .ok (.aload_n 2, 1) := by decide +kernel
theorem d58_4 : D58_ 4 = .ok (.invokestatic 173, 3) := by decide +kernel
theorem d58_7 : D58_ 7 = .ok (.iconst 0, 1) := by decide +kernel
theorem d58_8 : D58_ 8 = .ok (.istore 5, 2) := by decide +kernel
theorem d58_41 : D58_ 41 = .ok (.return_, 1) := by decide +kernel
theorem ef_58_44 (m : MethodId) (x0 : Addr) (x1 : Int32) (x2 : Addr) (x3 : Int32) (x4 : Int32) : entryFrame m #[(.ref x0), (.int x1), (.ref x2), (.int x3), (.int x4)] 6 = mkF m 0 #[vR (x0), vI (x1), vR (x2), vI (x3), vI (x4), .unset] [] := by first | (simp [entryFrame, mkF, argsToLocals, Value.category]; done) | rfl
theorem r_iu (l : Launch) (Z : State) (a0 : Array Value) (hw : own_HW a0 Z) (ws : List Jvm.Cond) (cs1 : Int32) (fv : Value) (h0 : Heap) (n0 : Nat) (O0 : Old Z n0 h0) (G : own_Ctx Z Z.heap cs1 fv) (a2 a3 : Addr) (k2 k3 : ClassId) (cs : List Int32) (nn : Nat) (Va : Arv Z h0 a2 k2 .byte nn.toInt32 (cs.map (fun c => .int (nar .byte c.toInt8.toInt32))) (.int (0 : Int32))) (Vb : Arv Z h0 a3 k3 .byte (2 * nn).toInt32 (List.replicate (2 * nn) (.int (0 : Int32))) (.int (0 : Int32))) (ga : n0 ≤ a3) (hne : a2 ≠ a3) (hn : cs.length ≤ nn) (hk : nn ≤ 4) (hB : own_Bd cs) (hl : own_Lat cs) :
    own_M l Y41_ (head1 (Jvm.Cond.code Y41_ jdk_52_method_86_code 6 none :: ws) (own_rm_ 3 0 0 43)) #[(.ref a2), (.int (0 : Int32)), (.ref a3), (.int (0 : Int32)), (.int cs.length.toInt32)] Z h0 n0 (own_QW Z none a3 k3 .byte (2 * nn).toInt32 (own_u2 nn cs)) (own_rm_ 3 0 0 43).cells (own_rm_ 3 0 0 43).slots := by
  have G0 := G
  refine MetFree.of_bodySF (plainFor_of_name pn_0) hisR ?_
  intro p e s m args below meth c s₁ Bd hml0 hP hK
  obtain ⟨rfl, hZ, hh⟩ := hP
  have hx := Bd.exec
  have hby := Bd.bytes
  have hml : c.maxLocals = 6 := hml0
  have hown := findClass_of_methodNamed Bd.named
  have X0 : Stand p l e (own_rm_ 3 0 0 43) s m #[(.ref a2), (.int (0 : Int32)), (.ref a3), (.int (0 : Int32)), (.int cs.length.toInt32)] below meth c s₁ [] 0 0 := Stand.of_body Bd
  have e0 : s₁.heap = h0 := by rw [← hh, Bd.state]; rfl
  have N0 := Fr.nil n0
  have pre0 := own_pre (tb := p.tables) (e := e) (below := below) (T := s₁) (ef_58_44 m a2 (0 : Int32) a3 (0 : Int32) cs.length.toInt32)
  obtain ⟨_, _, ⟨T1, L1, k1, n1⟩, -, X1, ⟨Lc1, hQ1, l1, y1, z1⟩, st1⟩ := Jvm.LawKit.callS X0 hx (y := Y24_) hown (mvT hZ (own_w hw 259 rfl)) (mvT hZ (own_w hw 260 rfl)) (mvT hZ (own_w hw 77 rfl)) (mvT hZ (own_w hw 261 rfl)) (by decide) (backOf (W := 0) (r_cbu l Z a0 hw [] cs1 fv h0 n0 O0 G0 a3 k3 (List.replicate (2 * nn) (.int (0 : Int32))) cs.length nn Vb hn hk) hZ (own_w hw 261 rfl) (own_w hw 77 rfl) (by decide) (by decide)) (g := (mkF m 4 #[vR (a2), vI ((0 : Int32)), vR (a3), vI ((0 : Int32)), vI (cs.length.toInt32), .unset] [(.ref a3), (.int cs.length.toInt32), (.int (0 : Int32))])) rfl (by rw [hml]; rfl) (argsL := [(.int (0 : Int32)), (.int cs.length.toInt32), (.ref a3)]) (rest := []) (lenOf pd_17 rfl) rfl (by show 2 * 0 + _ ≤ _; exact Nat.le_of_eq rfl) (hb hby d58_4) (fun _ _ => ⟨rfl, e0, (by decide : 0 + 0 ≤ _), (by decide : 0 + 0 ≤ _)⟩)
  dsimp only [Pt.U, Pt.locs, Pt.cells, Pt.slots] at X1 l1 y1 z1 st1 hQ1
  subst l1 y1 z1
  obtain ⟨rfl, N1q, e1⟩ := hQ1
  have N1 := Fr.app N0 N1q
  have vb0 : Arv Z h0 a3 k3 .byte (2 * nn).toInt32 (own_u2 nn (cs.take 0)) (.int (0 : Int32)) := by rw [List.take_zero, own_u2_nil]; exact Vb
  obtain ⟨T9, h9, L9, X9, e9, N9, O9, K9, V9, st9⟩ := own_iu cs1 fv a2 a3 k2 k3 cs nn hx hZ hw hby hml hown G0 ga hne hn hk hB hl cs.length 0 _ _ _ (Nat.zero_add _) X1 e1 N1 O0 Va vb0
  rw [List.take_length] at V9
  subst e9
  obtain ⟨fs, hr, hrun, hended, hW, hsame⟩ := X9.leave (v := none) (fun _ => rfl)
  refine ⟨_, _, pre0 _ ?_, hrun, hended, _, _, rfl, ?_, ⟨_, rfl⟩, hW, hsame.mono (by decide) (by decide)⟩
  · show own_St p e below s₁ m 0 #[vR (a2), vI ((0 : Int32)), vR (a3), vI ((0 : Int32)), vI (cs.length.toInt32), .unset] [] _
    refine XS.iloadN X0.here hx rfl (hb hby d58_0) rfl ?_
    refine XS.iload X0.here hx rfl (hb hby d58_1) rfl ?_
    refine XS.aloadN X0.here hx rfl (hb hby d58_3) rfl rfl ?_
    show own_St p e below s₁ m 4 #[vR (a2), vI ((0 : Int32)), vR (a3), vI ((0 : Int32)), vI (cs.length.toInt32), .unset] [(.ref a3), (.int cs.length.toInt32), (.int (0 : Int32))] _
    refine st1 _ ?_
    show own_St p e below T1 m 7 #[vR (a2), vI ((0 : Int32)), vR (a3), vI ((0 : Int32)), vI (cs.length.toInt32), .unset] [] _
    refine XS.iconst X1.here hx rfl (hb hby d58_7) ?_
    refine XS.istore X1.here hx rfl (hb hby d58_8) rfl (l' := #[vR (a2), vI ((0 : Int32)), vR (a3), vI ((0 : Int32)), vI (cs.length.toInt32), vI ((0 : Int32))]) rfl ?_
    show own_St p e below T1 m 10 #[vR (a2), vI ((0 : Nat).toInt32), vR (a3), vI ((0 : Nat).toInt32), vI (cs.length.toInt32), vI ((0 : Nat).toInt32)] [] _
    refine st9 _ ?_
    show own_St p e below T9 m 41 #[vR (a2), vI (cs.length.toInt32), vR (a3), vI (cs.length.toInt32), vI (cs.length.toInt32), vI (cs.length.toInt32)] [] _
    exact X9.returnOut hx Bd.returns (hb hby d58_41) hr
  · exact ⟨rfl, N9, ((Keep.refl h0 [a3]).trans K9 (allS (Or.inl (List.mem_of_getElem? (i := 0) rfl)) all0)), V9⟩
theorem d57_0 : D57_ 0 = .ok (.aload_n 0, 1) := by decide +kernel
theorem d57_1 : D57_ 1 = .ok (.iload_n 1, 1) := by decide +kernel
theorem d57_2 : D57_ 2 = .ok (.aload_n 2, 1) := by decide +kernel
theorem d57_3 : D57_ 3 = .ok (.iload_n 3, 1) := by decide +kernel
theorem d57_4 : D57_ 4 = .ok (.iload 4, 2) := by decide +kernel
theorem d57_6 : D57_ 6 = .ok (.invokestatic 240, 3) := by decide +kernel
theorem pd_23 : parseMethodDescriptor "([BI[BII)V" = some ⟨[(.array .byte), .int, (.array .byte), .int, .int], none⟩ := by decide +kernel
theorem d57_9 : D57_ 9 = .ok (.return_, 1) := by decide +kernel
theorem ef_57_45 (m : MethodId) (x0 : Addr) (x1 : Int32) (x2 : Addr) (x3 : Int32) (x4 : Int32) : entryFrame m #[(.ref x0), (.int x1), (.ref x2), (.int x3), (.int x4)] 5 = mkF m 0 #[vR (x0), vI (x1), vR (x2), vI (x3), vI (x4)] [] := by first | (simp [entryFrame, mkF, argsToLocals, Value.category]; done) | rfl
theorem r_il (l : Launch) (Z : State) (a0 : Array Value) (hw : own_HW a0 Z) (ws : List Jvm.Cond) (cs1 : Int32) (fv : Value) (h0 : Heap) (n0 : Nat) (O0 : Old Z n0 h0) (G : own_Ctx Z Z.heap cs1 fv) (a2 a3 : Addr) (k2 k3 : ClassId) (cs : List Int32) (nn : Nat) (Va : Arv Z h0 a2 k2 .byte nn.toInt32 (cs.map (fun c => .int (nar .byte c.toInt8.toInt32))) (.int (0 : Int32))) (Vb : Arv Z h0 a3 k3 .byte (2 * nn).toInt32 (List.replicate (2 * nn) (.int (0 : Int32))) (.int (0 : Int32))) (ga : n0 ≤ a3) (hne : a2 ≠ a3) (hn : cs.length ≤ nn) (hk : nn ≤ 4) (hB : own_Bd cs) (hl : own_Lat cs) :
    own_M l Y42_ (head1 (Jvm.Cond.code Y42_ jdk_43_method_50_code 5 none :: ws) (own_rm_ 4 0 0 60)) #[(.ref a2), (.int (0 : Int32)), (.ref a3), (.int (0 : Int32)), (.int cs.length.toInt32)] Z h0 n0 (own_QW Z none a3 k3 .byte (2 * nn).toInt32 (own_u2 nn cs)) (own_rm_ 4 0 0 60).cells (own_rm_ 4 0 0 60).slots := by
  have G0 := G
  refine MetFree.of_bodySF (plainFor_of_name pn_3) hisR ?_
  intro p e s m args below meth c s₁ Bd hml0 hP hK
  obtain ⟨rfl, hZ, hh⟩ := hP
  have hx := Bd.exec
  have hby := Bd.bytes
  have hml : c.maxLocals = 5 := hml0
  have hown := findClass_of_methodNamed Bd.named
  have X0 : Stand p l e (own_rm_ 4 0 0 60) s m #[(.ref a2), (.int (0 : Int32)), (.ref a3), (.int (0 : Int32)), (.int cs.length.toInt32)] below meth c s₁ [] 0 0 := Stand.of_body Bd
  have e0 : s₁.heap = h0 := by rw [← hh, Bd.state]; rfl
  have N0 := Fr.nil n0
  have pre0 := own_pre (tb := p.tables) (e := e) (below := below) (T := s₁) (ef_57_45 m a2 (0 : Int32) a3 (0 : Int32) cs.length.toInt32)
  obtain ⟨_, _, ⟨T1, L1, k1, n1⟩, -, X1, ⟨Lc1, hQ1, l1, y1, z1⟩, st1⟩ := Jvm.LawKit.callS X0 hx (y := Y41_) hown (mvT hZ (own_w hw 256 rfl)) (mvT hZ (own_w hw 257 rfl)) (mvT hZ (own_w hw 77 rfl)) (mvT hZ (own_w hw 258 rfl)) (by decide) (backOf (W := 0) (r_iu l Z a0 hw [] cs1 fv h0 n0 O0 G0 a2 a3 k2 k3 cs nn Va Vb ga hne hn hk hB hl) hZ (own_w hw 258 rfl) (own_w hw 77 rfl) (by decide) (by decide)) (g := (mkF m 6 #[vR (a2), vI ((0 : Int32)), vR (a3), vI ((0 : Int32)), vI (cs.length.toInt32)] [(.int cs.length.toInt32), (.int (0 : Int32)), (.ref a3), (.int (0 : Int32)), (.ref a2)])) rfl (by rw [hml]; rfl) (argsL := [(.ref a2), (.int (0 : Int32)), (.ref a3), (.int (0 : Int32)), (.int cs.length.toInt32)]) (rest := []) (lenOf pd_23 rfl) rfl (by show 2 * 0 + _ ≤ _; exact Nat.le_of_eq rfl) (hb hby d57_6) (fun _ _ => ⟨rfl, e0, (by decide : 0 + 0 ≤ _), (by decide : 0 + 0 ≤ _)⟩)
  dsimp only [Pt.U, Pt.locs, Pt.cells, Pt.slots] at X1 l1 y1 z1 st1 hQ1
  subst l1 y1 z1
  obtain ⟨rfl, N1q, Kq1, Vb1⟩ := hQ1
  have N1 := Fr.app N0 N1q
  have f2 := Va.keep Kq1 (fun q => (List.mem_cons.mp q).elim hne (fun q => nomatch q))
  have O1 := O0.keep Kq1 (allS ga all0)
  have K1 : Keep h0 T1.heap [a3] := (Keep.refl h0 [a3]).trans Kq1 (allS (Or.inl (List.mem_of_getElem? (i := 0) rfl)) all0)
  obtain ⟨fs, hr, hrun, hended, hW, hsame⟩ := X1.leave (v := none) (fun _ => rfl)
  refine ⟨_, _, pre0 _ ?_, hrun, hended, _, _, rfl, ?_, ⟨_, rfl⟩, hW, hsame.mono (by decide) (by decide)⟩
  · show own_St p e below s₁ m 0 #[vR (a2), vI ((0 : Int32)), vR (a3), vI ((0 : Int32)), vI (cs.length.toInt32)] [] _
    refine XS.aloadN X0.here hx rfl (hb hby d57_0) rfl rfl ?_
    refine XS.iloadN X0.here hx rfl (hb hby d57_1) rfl ?_
    refine XS.aloadN X0.here hx rfl (hb hby d57_2) rfl rfl ?_
    refine XS.iloadN X0.here hx rfl (hb hby d57_3) rfl ?_
    refine XS.iload X0.here hx rfl (hb hby d57_4) rfl ?_
    show own_St p e below s₁ m 6 #[vR (a2), vI ((0 : Int32)), vR (a3), vI ((0 : Int32)), vI (cs.length.toInt32)] [(.int cs.length.toInt32), (.int (0 : Int32)), (.ref a3), (.int (0 : Int32)), (.ref a2)] _
    refine st1 _ ?_
    show own_St p e below T1 m 9 #[vR (a2), vI ((0 : Int32)), vR (a3), vI ((0 : Int32)), vI (cs.length.toInt32)] [] _
    exact X1.returnOut hx Bd.returns (hb hby d57_9) hr
  · show own_QW Z none a3 k3 .byte (2 * nn).toInt32 (own_u2 nn cs) h0 n0 _ T1.heap _
    exact ⟨rfl, N1, K1, Vb1⟩
theorem d56_0 : D56_ 0 = .ok (.aload_n 0, 1) := by decide +kernel
theorem d56_1 : D56_ 1 = .ok (.invokevirtual 83, 3) := by decide +kernel
theorem d56_4 : D56_ 4 = .ok (.ifCond .ne 4, 3) := by decide +kernel
theorem d56_8 : D56_ 8 = .ok (.aload_n 0, 1) := by decide +kernel
theorem d56_9 : D56_ 9 = .ok (.getfield 15, 3) := by decide +kernel
theorem d56_12 : D56_ 12 = .ok (.arraylength, 1) := by decide +kernel
theorem d56_13 : D56_ 13 = .ok (.invokestatic 26, 3) := by decide +kernel
theorem d56_16 : D56_ 16 = .ok (.astore_n 1, 1) := by decide +kernel
theorem d56_17 : D56_ 17 = .ok (.aload_n 0, 1) := by decide +kernel
theorem d56_18 : D56_ 18 = .ok (.getfield 15, 3) := by decide +kernel
theorem d56_21 : D56_ 21 = .ok (.iconst 0, 1) := by decide +kernel
theorem d56_22 : D56_ 22 = .ok (.aload_n 1, 1) := by decide +kernel
theorem d56_23 : D56_ 23 = .ok (.iconst 0, 1) := by decide +kernel
theorem d56_24 : D56_ 24 = .ok (.aload_n 0, 1) := by decide +kernel
theorem d56_25 : D56_ 25 = .ok (.getfield 79, 3) := by decide +kernel
theorem d56_28 : D56_ 28 = .ok (.invokestatic 125, 3) := by decide +kernel
theorem d56_31 : D56_ 31 = .ok (.aload_n 0, 1) := by decide +kernel
theorem d56_32 : D56_ 32 = .ok (.aload_n 1, 1) := by decide +kernel
theorem d56_33 : D56_ 33 = .ok (.putfield 15, 3) := by decide +kernel
theorem d56_36 : D56_ 36 = .ok (.aload_n 0, 1) := by decide +kernel
theorem d56_37 : D56_ 37 = .ok (.iconst 1, 1) := by decide +kernel
theorem d56_38 : D56_ 38 = .ok (.putfield 22, 3) := by decide +kernel
theorem d56_41 : D56_ 41 = .ok (.return_, 1) := by decide +kernel
theorem ef_56_46 (m : MethodId) (x0 : Addr) : entryFrame m #[(.ref x0)] 2 = mkF m 0 #[vR (x0), .unset] [] := by first | (simp [entryFrame, mkF, argsToLocals, Value.category]; done) | rfl
theorem r_ai (l : Launch) (Z : State) (a0 : Array Value) (hw : own_HW a0 Z) (ws : List Jvm.Cond) (cs1 : Int32) (fv : Value) (h0 : Heap) (n0 : Nat) (O0 : Old Z n0 h0) (G : own_Ctx Z Z.heap cs1 fv) (a1 a2 : Addr) (k2 : ClassId) (f0 : Nat) (cs out : List Int32) (Ee : Exa Z h0 a1 "java/lang/StringBuilder") (F1 : Fld Z h0 a1 "java/lang/AbstractStringBuilder" "value" "[B" (.ref a2)) (F3 : Fld Z h0 a1 "java/lang/AbstractStringBuilder" "count" "I" (.int out.length.toInt32)) (F4 : Fld Z h0 a1 "java/lang/AbstractStringBuilder" "maybeLatin1" "Z" (.int (0 : Int32))) (F2 : Fld Z h0 a1 "java/lang/AbstractStringBuilder" "coder" "B" (.int (0 : Int32))) (Va : Arv Z h0 a2 k2 .byte cs.length.toInt32 (out.map (fun c => .int (nar .byte c.toInt8.toInt32))) (.int (0 : Int32))) (gf : n0 ≤ f0) (hfa : f0 ≤ a1) (hfb : f0 ≤ a2) (hne : a1 ≠ a2) (hn : cs.length ≤ 4) (hlo : out.length ≤ cs.length) (hBo : own_Bd out) (hl : own_Lat out) :
    own_M l Y43_ (head1 (Jvm.Cond.code Y43_ jdk_68_method_11_code 2 none :: ws) (own_rm_ 5 1 8 76)) #[(.ref a1)] Z h0 n0 (own_Qinf Z a1 cs out) (own_rm_ 5 1 8 76).cells (own_rm_ 5 1 8 76).slots := by
  have G0 := G
  refine MetFree.of_bodySF (plainFor_of_name pn_4) hisR ?_
  intro p e s m args below meth c s₁ Bd hml0 hP hK
  obtain ⟨rfl, hZ, hh⟩ := hP
  have hx := Bd.exec
  have hby := Bd.bytes
  have hml : c.maxLocals = 2 := hml0
  have hown := findClass_of_methodNamed Bd.named
  have X0 : Stand p l e (own_rm_ 5 1 8 76) s m #[(.ref a1)] below meth c s₁ [] 0 0 := Stand.of_body Bd
  have e0 : s₁.heap = h0 := by rw [← hh, Bd.state]; rfl
  have N0 := Fr.nil n0
  have pre0 := own_pre (tb := p.tables) (e := e) (below := below) (T := s₁) (ef_56_46 m a1)
  obtain ⟨cq1, kq1, q1a, q1b, q1c⟩ := isOf hZ e0 Ee
  obtain ⟨_, _, ⟨T1, L1, k1, n1⟩, -, X1, ⟨Lc1, hQ1, l1, y1, z1⟩, st1⟩ := X0.virtualBack hx (y := Y38_) (z := Y38_) hown (mvT hZ (own_w hw 243 rfl)) (mvT hZ (own_w hw 158 rfl)) (notFace_of_selects (args := #[]) (mvT hZ (own_w hw 160 rfl))) (mvT hZ (own_w hw 160 rfl)) (mvT hZ (own_w hw 159 rfl)) (by decide) (backOf (W := 0) (r_ibL l Z a0 hw [] cs1 fv h0 n0 O0 G0 a1 F2) hZ (own_w hw 161 rfl) (own_w hw 105 rfl) (by decide) (by decide)) q1a q1c (g := (mkF m 1 #[vR (a1), .unset] [(.ref a1)])) rfl (by rw [hml]; rfl) (Steps.refl _) (argsL := []) (rest := []) (lenOf pd_13 rfl) rfl (by show 2 * 0 + _ ≤ _; exact Nat.le_of_eq rfl) (hb hby d56_1) (fun _ _ => ⟨rfl, e0, (by decide : 0 + 0 ≤ _), (by decide : 0 + 0 ≤ _)⟩)
  dsimp only [Pt.U, Pt.locs, Pt.cells, Pt.slots] at X1 l1 y1 z1 st1 hQ1
  subst l1 y1 z1
  obtain ⟨rfl, N1q, e1⟩ := hQ1
  have N1 := Fr.app N0 N1q
  obtain ⟨T2, X2, e2, st2⟩ := getF X1 hx hZ hown (host := "") (Or.inl (own_w hw 109 rfl)) Via.refl e1 F1 (g := (mkF m 9 #[vR (a1), .unset] [(.ref a1)])) rfl rfl (hb hby d56_9)
  have vc3 := Va
  obtain ⟨cl3, Ar3, qk3, S3, Nn3, Hs3, Gf3⟩ := vc3
  obtain ⟨_, _, ⟨T4, L4, k4, n4⟩, -, X4, ⟨Lc4, hQ4, l4, y4, z4⟩, st4⟩ := Jvm.LawKit.callS X2 hx (y := Y3_) hown (mvT hZ (own_w hw 252 rfl)) (mvT hZ (own_w hw 182 rfl)) (mvT hZ (own_w hw 77 rfl)) (mvT hZ (own_w hw 183 rfl)) (by decide) (backOf (W := 0) (r_nbf l Z a0 hw [] cs1 fv h0 n0 O0 G0 cs hn) hZ (own_w hw 183 rfl) (own_w hw 77 rfl) (by decide) (by decide)) (g := (mkF m 13 #[vR (a1), .unset] [(.int cs.length.toInt32)])) rfl (by rw [hml]; rfl) (argsL := [(.int cs.length.toInt32)]) (rest := []) (lenOf pd_2 rfl) rfl (by show 2 * 0 + _ ≤ _; exact Nat.le_of_eq rfl) (hb hby d56_13) (fun _ _ => ⟨rfl, e2, (by decide : 0 + 1 ≤ _), (by decide : 0 + 8 ≤ _)⟩)
  dsimp only [Pt.U, Pt.locs, Pt.cells, Pt.slots] at X4 l4 y4 z4 st4 hQ4
  subst l4 y4 z4
  obtain ⟨t4, kt4, rfl, N4q, Kq4, gt4, Vt4⟩ := hQ4
  have N4 := Fr.app N1 N4q
  have ne_a1_t4 : a1 ≠ t4 := Nat.ne_of_lt (Nat.lt_of_lt_of_le Ee.lt gt4)
  have ne_a2_t4 : a2 ≠ t4 := Nat.ne_of_lt (Nat.lt_of_lt_of_le Va.lt gt4)
  have g_t4 : n0 ≤ t4 := Nat.le_trans (O0.1 ▸ O0.2.1) gt4
  have sz_t4 : h0.size ≤ t4 := Nat.le_trans (Keep.refl h0 [a1]).1 gt4
  have f5 := Ee.keep Kq4
  have f6 := F1.keep Kq4 (fun q => nomatch q)
  have f7 := F3.keep Kq4 (fun q => nomatch q)
  have f8 := F4.keep Kq4 (fun q => nomatch q)
  have f9 := F2.keep Kq4 (fun q => nomatch q)
  have f10 := Va.keep Kq4 (fun q => nomatch q)
  have O4 := O0.keep Kq4 all0
  have K4 : Keep h0 T4.heap [a1] := (Keep.refl h0 [a1]).trans Kq4 all0
  obtain ⟨T11, X11, e11, st11⟩ := getF X4 hx hZ hown (host := "") (Or.inl (own_w hw 109 rfl)) Via.refl rfl f6 (g := (mkF m 18 #[vR (a1), vR (t4)] [(.ref a1)])) rfl rfl (hb hby d56_18)
  obtain ⟨T12, X12, e12, st12⟩ := getF X11 hx hZ hown (host := "") (Or.inl (own_w hw 155 rfl)) Via.refl e11 f7 (g := (mkF m 25 #[vR (a1), vR (t4)] [(.ref a1), (.int (0 : Int32)), (.ref t4), (.int (0 : Int32)), (.ref a2)])) rfl rfl (hb hby d56_25)
  obtain ⟨_, _, ⟨T13, L13, k13, n13⟩, -, X13, ⟨Lc13, hQ13, l13, y13, z13⟩, st13⟩ := Jvm.LawKit.callS X12 hx (y := Y42_) hown (mvT hZ (own_w hw 253 rfl)) (mvT hZ (own_w hw 254 rfl)) (mvT hZ (own_w hw 59 rfl)) (mvT hZ (own_w hw 255 rfl)) (by decide) (backOf (W := 0) (r_il l Z a0 hw [] cs1 fv T4.heap n0 O4 G0 a2 t4 k2 kt4 out cs.length f10 Vt4 g_t4 ne_a2_t4 hlo hn hBo hl) hZ (own_w hw 255 rfl) (own_w hw 59 rfl) (by decide) (by decide)) (g := (mkF m 28 #[vR (a1), vR (t4)] [(.int out.length.toInt32), (.int (0 : Int32)), (.ref t4), (.int (0 : Int32)), (.ref a2)])) rfl (by rw [hml]; rfl) (argsL := [(.ref a2), (.int (0 : Int32)), (.ref t4), (.int (0 : Int32)), (.int out.length.toInt32)]) (rest := []) (lenOf pd_23 rfl) rfl (by show 2 * 0 + _ ≤ _; exact Nat.le_of_eq rfl) (hb hby d56_28) (fun _ _ => ⟨rfl, e12, (by decide : 1 + 0 ≤ _), (by decide : 8 + 0 ≤ _)⟩)
  dsimp only [Pt.U, Pt.locs, Pt.cells, Pt.slots] at X13 l13 y13 z13 st13 hQ13
  subst l13 y13 z13
  obtain ⟨rfl, N13q, Kq13, Vb13⟩ := hQ13
  have N13 := Fr.app N4 N13q
  have f14 := f5.keep Kq13
  have f15 := f6.keep Kq13 (fun q => (List.mem_cons.mp q).elim ne_a1_t4 (fun q => nomatch q))
  have f16 := f7.keep Kq13 (fun q => (List.mem_cons.mp q).elim ne_a1_t4 (fun q => nomatch q))
  have f17 := f8.keep Kq13 (fun q => (List.mem_cons.mp q).elim ne_a1_t4 (fun q => nomatch q))
  have f18 := f9.keep Kq13 (fun q => (List.mem_cons.mp q).elim ne_a1_t4 (fun q => nomatch q))
  have f19 := f10.keep Kq13 (fun q => (List.mem_cons.mp q).elim ne_a2_t4 (fun q => nomatch q))
  have O13 := O4.keep Kq13 (allS g_t4 all0)
  have K13 : Keep h0 T13.heap [a1] := K4.trans Kq13 (allS (Or.inr sz_t4) all0)
  obtain ⟨T20, h20, X20, e20, W20, st20⟩ := putF X13 hx hZ hown (host := "") (Or.inl (own_w hw 109 rfl)) Via.refl rfl f15 f14 (Or.inl (own_w hw 110 rfl)) (own_w hw 95 rfl) (ty := (.array .byte)) (by decide) rfl rfl (g := (mkF m 33 #[vR (a1), vR (t4)] [(.ref t4), (.ref a1)])) rfl rfl (hb hby d56_33)
  have f21 := f14.wr W20
  have f22 := f16.other W20 (Or.inr (slot_ne (Or.inl (own_w hw 156 rfl)) (Or.inl (own_w hw 110 rfl)) (by decide) (t := .int) (t' := (.array .byte)) (by decide) (by decide)))
  have f23 := f17.other W20 (Or.inr (slot_ne (Or.inl (own_w hw 272 rfl)) (Or.inl (own_w hw 110 rfl)) (by decide) (t := .boolean) (t' := (.array .byte)) (by decide) (by decide)))
  have f24 := f18.other W20 (Or.inr (slot_ne (Or.inl (own_w hw 112 rfl)) (Or.inl (own_w hw 110 rfl)) (by decide) (t := .byte) (t' := (.array .byte)) (by decide) (by decide)))
  have f25 := f19.other W20 (Ne.symm hne)
  have f26 := Vb13.other W20 (Ne.symm ne_a1_t4)
  have O20 := O13.wr W20 (Nat.le_trans gf hfa)
  have K20 : Keep h0 h20 [a1] := K13.wr W20 (Or.inl (List.mem_of_getElem? (i := 0) rfl))
  have N20 := Fr.snoc X20 N13 (Nat.le_trans gf hfa)
  have f27 := f15.same W20
  obtain ⟨T28, h28, X28, e28, W28, st28⟩ := putFN X20 hx hZ hown (own_w hw 111 rfl) Via.refl e20 f24 f21 (Or.inl (own_w hw 112 rfl)) (own_w hw 95 rfl) (ty := .byte) (v' := (.int ((1 : Int32).toInt8.toInt32))) (by decide) rfl (fits_nar_byte _) (g := (mkF m 38 #[vR (a1), vR (t4)] [(.int (1 : Int32)), (.ref a1)])) rfl rfl (hb hby d56_38)
  have f29 := f21.wr W28
  have f30 := f27.other W28 (Or.inr (slot_ne (Or.inl (own_w hw 110 rfl)) (Or.inl (own_w hw 112 rfl)) (by decide) (t := (.array .byte)) (t' := .byte) (by decide) (by decide)))
  have f31 := f22.other W28 (Or.inr (slot_ne (Or.inl (own_w hw 156 rfl)) (Or.inl (own_w hw 112 rfl)) (by decide) (t := .int) (t' := .byte) (by decide) (by decide)))
  have f32 := f23.other W28 (Or.inr (slot_ne (Or.inl (own_w hw 272 rfl)) (Or.inl (own_w hw 112 rfl)) (by decide) (t := .boolean) (t' := .byte) (by decide) (by decide)))
  have f33 := f25.other W28 (Ne.symm hne)
  have f34 := f26.other W28 (Ne.symm ne_a1_t4)
  have O28 := O20.wr W28 (Nat.le_trans gf hfa)
  have K28 : Keep h0 h28 [a1] := K20.wr W28 (Or.inl (List.mem_of_getElem? (i := 0) rfl))
  have N28 := Fr.snoc X28 N20 (Nat.le_trans gf hfa)
  have f35 := f24.same W28
  obtain ⟨fs, hr, hrun, hended, hW, hsame⟩ := X28.leave (v := none) (fun _ => rfl)
  refine ⟨_, _, pre0 _ ?_, hrun, hended, _, _, rfl, ?_, ⟨_, rfl⟩, hW, hsame.mono (by decide) (by decide)⟩
  · show own_St p e below s₁ m 0 #[vR (a1), .unset] [] _
    refine XS.aloadN X0.here hx rfl (hb hby d56_0) rfl rfl ?_
    show own_St p e below s₁ m 1 #[vR (a1), .unset] [(.ref a1)] _
    refine st1.trans ?_
    show own_St p e below T1 m 4 #[vR (a1), .unset] [(.int (1 : Int32))] _
    refine XS.ifYes X1.here hx rfl (pc0 := 4) (pc' := 8) rfl (hb hby d56_4) rfl ((if0 _ _).trans (feq (by decide : ¬ ((1 : Int32) = (0 : Int32)))).2) (by decide) (by decide) ?_
    refine XS.aloadN X1.here hx rfl (hb hby d56_8) rfl rfl ?_
    show own_St p e below T1 m 9 #[vR (a1), .unset] [(.ref a1)] _
    refine st2 _ ?_
    show own_St p e below T2 m 12 #[vR (a1), .unset] [(.ref a2)] _
    refine X2.arraylength hx (by rw [e2]; exact Ar3.1) (State.isArrayOf_alike hZ.alike Ar3.2.1) (g := (mkF m 12 #[vR (a1), .unset] [(.ref a2)])) rfl rfl (hb hby d56_12) _ ?_
    rw [len_of S3 Nn3]
    show own_St p e below T2 m 13 #[vR (a1), .unset] [(.int cs.length.toInt32)] _
    refine st4 _ ?_
    show own_St p e below T4 m 16 #[vR (a1), .unset] [(.ref t4)] _
    refine XS.astoreN X4.here hx rfl (hb hby d56_16) rfl rfl (l' := #[vR (a1), vR (t4)]) rfl ?_
    refine XS.aloadN X4.here hx rfl (hb hby d56_17) rfl rfl ?_
    show own_St p e below T4 m 18 #[vR (a1), vR (t4)] [(.ref a1)] _
    refine st11 _ ?_
    show own_St p e below T11 m 21 #[vR (a1), vR (t4)] [(.ref a2)] _
    refine XS.iconst X11.here hx rfl (hb hby d56_21) ?_
    refine XS.aloadN X11.here hx rfl (hb hby d56_22) rfl rfl ?_
    refine XS.iconst X11.here hx rfl (hb hby d56_23) ?_
    refine XS.aloadN X11.here hx rfl (hb hby d56_24) rfl rfl ?_
    show own_St p e below T11 m 25 #[vR (a1), vR (t4)] [(.ref a1), (.int (0 : Int32)), (.ref t4), (.int (0 : Int32)), (.ref a2)] _
    refine st12 _ ?_
    show own_St p e below T12 m 28 #[vR (a1), vR (t4)] [(.int out.length.toInt32), (.int (0 : Int32)), (.ref t4), (.int (0 : Int32)), (.ref a2)] _
    refine st13 _ ?_
    show own_St p e below T13 m 31 #[vR (a1), vR (t4)] [] _
    refine XS.aloadN X13.here hx rfl (hb hby d56_31) rfl rfl ?_
    refine XS.aloadN X13.here hx rfl (hb hby d56_32) rfl rfl ?_
    show own_St p e below T13 m 33 #[vR (a1), vR (t4)] [(.ref t4), (.ref a1)] _
    refine st20 _ ?_
    show own_St p e below T20 m 36 #[vR (a1), vR (t4)] [] _
    refine XS.aloadN X20.here hx rfl (hb hby d56_36) rfl rfl ?_
    refine XS.iconst X20.here hx rfl (hb hby d56_37) ?_
    show own_St p e below T20 m 38 #[vR (a1), vR (t4)] [(.int (1 : Int32)), (.ref a1)] _
    refine st28 _ ?_
    show own_St p e below T28 m 41 #[vR (a1), vR (t4)] [] _
    exact X28.returnOut hx Bd.returns (hb hby d56_41) hr
  · show own_Qinf Z a1 cs out h0 n0 _ T28.heap _
    rw [e28]
    exact ⟨t4, kt4, rfl, N28, K28, sz_t4, f34, f30, f31, f32, f35⟩
theorem d62_0 : D62_ 0 = .ok (.iload_n 1, 1) := by decide +kernel
theorem d62_1 : D62_ 1 = .ok (.aload_n 0, 1) := by decide +kernel
theorem d62_2 : D62_ 2 = .ok (.invokestatic 67, 3) := by decide +kernel
theorem d62_5 : D62_ 5 = .ok (.aload_n 0, 1) := by decide +kernel
theorem d62_6 : D62_ 6 = .ok (.iload_n 1, 1) := by decide +kernel
theorem d62_7 : D62_ 7 = .ok (.iload_n 2, 1) := by decide +kernel
theorem d62_8 : D62_ 8 = .ok (.invokestatic 111, 3) := by decide +kernel
theorem d62_11 : D62_ 11 = .ok (.return_, 1) := by decide +kernel
theorem ef_62_47 (m : MethodId) (x0 : Addr) (x1 : Int32) (x2 : Int32) : entryFrame m #[(.ref x0), (.int x1), (.int x2)] 3 = mkF m 0 #[vR (x0), vI (x1), vI (x2)] [] := by first | (simp [entryFrame, mkF, argsToLocals, Value.category]; done) | rfl
theorem r_psb (l : Launch) (Z : State) (a0 : Array Value) (hw : own_HW a0 Z) (ws : List Jvm.Cond) (cs1 : Int32) (fv : Value) (h0 : Heap) (n0 : Nat) (O0 : Old Z n0 h0) (G : own_Ctx Z Z.heap cs1 fv) (a3 : Addr) (k3 : ClassId) (cs out : List Int32) (cc : Int32) (Vb : Arv Z h0 a3 k3 .byte (2 * cs.length).toInt32 (own_u2 cs.length out) (.int (0 : Int32))) (ga : n0 ≤ a3) (ho : out.length + 1 ≤ cs.length) (hn : cs.length ≤ 4) :
    own_M l Y44_ (head1 (Jvm.Cond.code Y44_ jdk_52_method_71_code 3 none :: ws) (own_rm_ 3 0 0 40)) #[(.ref a3), (.int out.length.toInt32), (.int cc)] Z h0 n0 (own_QW Z none a3 k3 .byte (2 * cs.length).toInt32 (own_u2 cs.length (out ++ [cc]))) (own_rm_ 3 0 0 40).cells (own_rm_ 3 0 0 40).slots := by
  have G0 := G
  refine MetFree.of_bodySF (plainFor_of_name pn_0) hisR ?_
  intro p e s m args below meth c s₁ Bd hml0 hP hK
  obtain ⟨rfl, hZ, hh⟩ := hP
  have hx := Bd.exec
  have hby := Bd.bytes
  have hml : c.maxLocals = 3 := hml0
  have hown := findClass_of_methodNamed Bd.named
  have X0 : Stand p l e (own_rm_ 3 0 0 40) s m #[(.ref a3), (.int out.length.toInt32), (.int cc)] below meth c s₁ [] 0 0 := Stand.of_body Bd
  have e0 : s₁.heap = h0 := by rw [← hh, Bd.state]; rfl
  have N0 := Fr.nil n0
  have pre0 := own_pre (tb := p.tables) (e := e) (below := below) (T := s₁) (ef_62_47 m a3 out.length.toInt32 cc)
  have hto : out.length ≤ cs.length := Nat.le_of_succ_le ho
  have hi400 : out.length ≤ 400 := by omega
  have hpz : 2 * out.length + 1 < (own_u2 cs.length out).length := by rw [own_u2_len hto]; omega
  have hpl : (2 * cs.length).toInt32 = (own_u2 cs.length out).length.toInt32 := by rw [own_u2_len hto]
  have hp1000 : (own_u2 cs.length out).length ≤ 1000 := by rw [own_u2_len hto]; omega
  obtain ⟨_, _, ⟨T1, L1, k1, n1⟩, -, X1, ⟨Lc1, hQ1, l1, y1, z1⟩, st1⟩ := Jvm.LawKit.callS X0 hx (y := Y9_) hown (mvT hZ (own_w hw 225 rfl)) (mvT hZ (own_w hw 226 rfl)) (mvT hZ (own_w hw 77 rfl)) (mvT hZ (own_w hw 227 rfl)) (by decide) (backOf (W := 0) (r_uci2 l Z a0 hw [] cs1 fv h0 n0 O0 G0 a3 k3 (own_u2 cs.length out) out.length cs.length Vb ho hn) hZ (own_w hw 227 rfl) (own_w hw 77 rfl) (by decide) (by decide)) (g := (mkF m 2 #[vR (a3), vI (out.length.toInt32), vI (cc)] [(.ref a3), (.int out.length.toInt32)])) rfl (by rw [hml]; rfl) (argsL := [(.int out.length.toInt32), (.ref a3)]) (rest := []) (lenOf pd_6 rfl) rfl (by show 2 * 0 + _ ≤ _; exact Nat.le_of_eq rfl) (hb hby d62_2) (fun _ _ => ⟨rfl, e0, (by decide : 0 + 0 ≤ _), (by decide : 0 + 0 ≤ _)⟩)
  dsimp only [Pt.U, Pt.locs, Pt.cells, Pt.slots] at X1 l1 y1 z1 st1 hQ1
  subst l1 y1 z1
  obtain ⟨rfl, N1q, e1⟩ := hQ1
  have N1 := Fr.app N0 N1q
  obtain ⟨_, _, ⟨T2, L2, k2, n2⟩, -, X2, ⟨Lc2, hQ2, l2, y2, z2⟩, st2⟩ := Jvm.LawKit.callS X1 hx (y := Y2_) hown (mvT hZ (own_w hw 188 rfl)) (mvT hZ (own_w hw 189 rfl)) (mvT hZ (own_w hw 77 rfl)) (mvT hZ (own_w hw 190 rfl)) (by decide) (backOf (W := 0) (r_pc l Z a0 hw [] cs1 fv h0 n0 O0 G0 a3 k3 (own_u2 cs.length out) (2 * cs.length).toInt32 cc out.length Vb ga hi400 hpz hpl hp1000) hZ (own_w hw 190 rfl) (own_w hw 77 rfl) (by decide) (by decide)) (g := (mkF m 8 #[vR (a3), vI (out.length.toInt32), vI (cc)] [(.int cc), (.int out.length.toInt32), (.ref a3)])) rfl (by rw [hml]; rfl) (argsL := [(.ref a3), (.int out.length.toInt32), (.int cc)]) (rest := []) (lenOf pd_1 rfl) rfl (by show 2 * 0 + _ ≤ _; exact Nat.le_of_eq rfl) (hb hby d62_8) (fun _ _ => ⟨rfl, e1, (by decide : 0 + 0 ≤ _), (by decide : 0 + 0 ≤ _)⟩)
  dsimp only [Pt.U, Pt.locs, Pt.cells, Pt.slots] at X2 l2 y2 z2 st2 hQ2
  subst l2 y2 z2
  obtain ⟨rfl, N2q, Kq2, Vb2⟩ := hQ2
  have N2 := Fr.app N1 N2q
  have O2 := O0.keep Kq2 (allS ga all0)
  have K2 : Keep h0 T2.heap [a3] := (Keep.refl h0 [a3]).trans Kq2 (allS (Or.inl (List.mem_of_getElem? (i := 0) rfl)) all0)
  obtain ⟨fs, hr, hrun, hended, hW, hsame⟩ := X2.leave (v := none) (fun _ => rfl)
  refine ⟨_, _, pre0 _ ?_, hrun, hended, _, _, rfl, ?_, ⟨_, rfl⟩, hW, hsame.mono (by decide) (by decide)⟩
  · show own_St p e below s₁ m 0 #[vR (a3), vI (out.length.toInt32), vI (cc)] [] _
    refine XS.iloadN X0.here hx rfl (hb hby d62_0) rfl ?_
    refine XS.aloadN X0.here hx rfl (hb hby d62_1) rfl rfl ?_
    show own_St p e below s₁ m 2 #[vR (a3), vI (out.length.toInt32), vI (cc)] [(.ref a3), (.int out.length.toInt32)] _
    refine st1 _ ?_
    show own_St p e below T1 m 5 #[vR (a3), vI (out.length.toInt32), vI (cc)] [] _
    refine XS.aloadN X1.here hx rfl (hb hby d62_5) rfl rfl ?_
    refine XS.iloadN X1.here hx rfl (hb hby d62_6) rfl ?_
    refine XS.iloadN X1.here hx rfl (hb hby d62_7) rfl ?_
    show own_St p e below T1 m 8 #[vR (a3), vI (out.length.toInt32), vI (cc)] [(.int cc), (.int out.length.toInt32), (.ref a3)] _
    refine st2 _ ?_
    show own_St p e below T2 m 11 #[vR (a3), vI (out.length.toInt32), vI (cc)] [] _
    exact X2.returnOut hx Bd.returns (hb hby d62_11) hr
  · show own_QW Z none a3 k3 .byte (2 * cs.length).toInt32 (own_u2 cs.length (out ++ [cc])) h0 n0 _ T2.heap _
    exact ⟨rfl, N2, K2, (by have q := Vb2; rw [own_u2_put cc ho] at q; exact q)⟩
theorem d53_0 : D53_ 0 = .ok (.aload_n 0, 1) := by decide +kernel
theorem d53_1 : D53_ 1 = .ok (.aload_n 0, 1) := by decide +kernel
theorem d53_2 : D53_ 2 = .ok (.getfield 79, 3) := by decide +kernel
theorem d53_5 : D53_ 5 = .ok (.iconst 1, 1) := by decide +kernel
theorem d53_6 : D53_ 6 = .ok (.iadd, 1) := by decide +kernel
theorem d53_7 : D53_ 7 = .ok (.invokevirtual 100, 3) := by decide +kernel
theorem d53_10 : D53_ 10 = .ok (.aload_n 0, 1) := by decide +kernel
theorem d53_11 : D53_ 11 = .ok (.invokevirtual 83, 3) := by decide +kernel
theorem d53_14 : D53_ 14 = .ok (.ifCond .eq 31, 3) := by decide +kernel
theorem d53_17 : D53_ 17 = .ok (.iload_n 1, 1) := by decide +kernel
theorem d53_18 : D53_ 18 = .ok (.invokestatic 191, 3) := by decide +kernel
theorem pd_24 : parseMethodDescriptor "(C)Z" = some ⟨[.char], some .boolean⟩ := by decide +kernel
theorem d53_21 : D53_ 21 = .ok (.ifCond .eq 24, 3) := by decide +kernel
theorem d53_24 : D53_ 24 = .ok (.aload_n 0, 1) := by decide +kernel
theorem d53_25 : D53_ 25 = .ok (.getfield 15, 3) := by decide +kernel
theorem d53_28 : D53_ 28 = .ok (.aload_n 0, 1) := by decide +kernel
theorem d53_29 : D53_ 29 = .ok (.dup, 1) := by decide +kernel
theorem d53_30 : D53_ 30 = .ok (.getfield 79, 3) := by decide +kernel
theorem d53_33 : D53_ 33 = .ok (.dup_x1, 1) := by decide +kernel
theorem d53_34 : D53_ 34 = .ok (.iconst 1, 1) := by decide +kernel
theorem d53_35 : D53_ 35 = .ok (.iadd, 1) := by decide +kernel
theorem d53_36 : D53_ 36 = .ok (.putfield 79, 3) := by decide +kernel
theorem d53_39 : D53_ 39 = .ok (.iload_n 1, 1) := by decide +kernel
theorem d53_40 : D53_ 40 = .ok (.i2b, 1) := by decide +kernel
theorem d53_41 : D53_ 41 = .ok (.bastore, 1) := by decide +kernel
theorem d53_42 : D53_ 42 = .ok (.goto 33, 3) := by decide +kernel
theorem d53_75 : D53_ 75 = .ok (.aload_n 0, 1) := by decide +kernel
theorem d53_76 : D53_ 76 = .ok (.areturn, 1) := by decide +kernel
theorem ef_53_48 (m : MethodId) (x0 : Addr) (x1 : Int32) : entryFrame m #[(.ref x0), (.int x1)] 2 = mkF m 0 #[vR (x0), vI (x1)] [] := by first | (simp [entryFrame, mkF, argsToLocals, Value.category]; done) | rfl
theorem r_apLL (l : Launch) (Z : State) (a0 : Array Value) (hw : own_HW a0 Z) (ws : List Jvm.Cond) (cs1 : Int32) (fv : Value) (h0 : Heap) (n0 : Nat) (O0 : Old Z n0 h0) (G : own_Ctx Z Z.heap cs1 fv) (a1 a2 : Addr) (k2 : ClassId) (f0 : Nat) (cs out : List Int32) (cc : Int32) (Ee : Exa Z h0 a1 "java/lang/StringBuilder") (F1 : Fld Z h0 a1 "java/lang/AbstractStringBuilder" "value" "[B" (.ref a2)) (F3 : Fld Z h0 a1 "java/lang/AbstractStringBuilder" "count" "I" (.int out.length.toInt32)) (F4 : Fld Z h0 a1 "java/lang/AbstractStringBuilder" "maybeLatin1" "Z" (.int (0 : Int32))) (F2 : Fld Z h0 a1 "java/lang/AbstractStringBuilder" "coder" "B" (.int (0 : Int32))) (Va : Arv Z h0 a2 k2 .byte cs.length.toInt32 (out.map (fun c => .int (nar .byte c.toInt8.toInt32))) (.int (0 : Int32))) (gf : n0 ≤ f0) (hfa : f0 ≤ a1) (hfb : f0 ≤ a2) (hne : a1 ≠ a2) (hn : cs.length ≤ 4) (ho : out.length + 1 ≤ cs.length) (hl : own_Lat out) (hc : ¬ ((255 : Int32) < cc)) :
    own_M l Y45_ (head1 (Jvm.Cond.code Y45_ jdk_68_method_31_code 2 (some (.object "java/lang/AbstractStringBuilder")) :: ws) (own_rm_ 6 1 8 89)) #[(.ref a1), (.int cc)] Z h0 n0 (own_QSB Z f0 a1 cs (out ++ [cc]) (some (.ref a1))) (own_rm_ 6 1 8 89).cells (own_rm_ 6 1 8 89).slots := by
  have G0 := G
  refine MetFree.of_bodySF (plainFor_of_name pn_4) hisR ?_
  intro p e s m args below meth c s₁ Bd hml0 hP hK
  obtain ⟨rfl, hZ, hh⟩ := hP
  have hx := Bd.exec
  have hby := Bd.bytes
  have hml : c.maxLocals = 2 := hml0
  have hown := findClass_of_methodNamed Bd.named
  have X0 : Stand p l e (own_rm_ 6 1 8 89) s m #[(.ref a1), (.int cc)] below meth c s₁ [] 0 0 := Stand.of_body Bd
  have e0 : s₁.heap = h0 := by rw [← hh, Bd.state]; rfl
  have N0 := Fr.nil n0
  have pre0 := own_pre (tb := p.tables) (e := e) (below := below) (T := s₁) (ef_53_48 m a1 cc)
  have hk9 : out.length ≤ 1000 := by omega
  obtain ⟨T1, X1, e1, st1⟩ := getF X0 hx hZ hown (host := "") (Or.inl (own_w hw 155 rfl)) Via.refl e0 F3 (g := (mkF m 2 #[vR (a1), vI (cc)] [(.ref a1), (.ref a1)])) rfl rfl (hb hby d53_2)
  obtain ⟨cq2, q2, q2'⟩ := Ee.cell
  obtain ⟨_, _, ⟨T2, L2, k2, n2⟩, -, X2, ⟨Lc2, hQ2, l2, y2, z2⟩, st2⟩ := X1.privateBack hx (y := Y39_) hown (mvT hZ (own_w hw 238 rfl)) (mvT hZ (own_w hw 239 rfl)) (own_selQ hZ (own_w hw 241 rfl) (own_w hw 239 rfl) (own_w hw 240 rfl) (by decide)) (Cond.privateMethod_at (mvP hZ (own_w hw 240 rfl) (args := #[]))) (mvT hZ (own_w hw 242 rfl)) (by decide) (backOf (W := 0) (r_enL l Z a0 hw [] cs1 fv h0 n0 O0 G0 a1 a2 k2 f0 cs out Ee F1 F3 F4 F2 Va gf hfa hfb hne hn ho) hZ (own_w hw 242 rfl) (own_w hw 105 rfl) (by decide) (by decide)) (g := (mkF m 7 #[vR (a1), vI (cc)] [(.int (out.length.toInt32 + (1 : Int32))), (.ref a1)])) rfl (by rw [hml]; rfl) (Steps.refl _) (a := a1) (by rw [e1]; exact q2) q2' (argsL := [(.int (out.length.toInt32 + (1 : Int32)))]) (rest := []) (lenOf pd_22 rfl) rfl (by show 2 * 0 + _ ≤ _; exact Nat.le_of_eq rfl) (hb hby d53_7) (fun _ _ => ⟨rfl, e1, (by decide : 0 + 0 ≤ _), (by decide : 0 + 0 ≤ _)⟩)
  dsimp only [Pt.U, Pt.locs, Pt.cells, Pt.slots] at X2 l2 y2 z2 st2 hQ2
  subst l2 y2 z2
  obtain ⟨rfl, N2q, e2⟩ := hQ2
  have N2 := Fr.app N0 N2q
  obtain ⟨cq3, kq3, q3a, q3b, q3c⟩ := isOf hZ e2 Ee
  obtain ⟨_, _, ⟨T3, L3, k3, n3⟩, -, X3, ⟨Lc3, hQ3, l3, y3, z3⟩, st3⟩ := X2.virtualBack hx (y := Y38_) (z := Y38_) hown (mvT hZ (own_w hw 243 rfl)) (mvT hZ (own_w hw 158 rfl)) (notFace_of_selects (args := #[]) (mvT hZ (own_w hw 160 rfl))) (mvT hZ (own_w hw 160 rfl)) (mvT hZ (own_w hw 159 rfl)) (by decide) (backOf (W := 0) (r_ibL l Z a0 hw [] cs1 fv h0 n0 O0 G0 a1 F2) hZ (own_w hw 161 rfl) (own_w hw 105 rfl) (by decide) (by decide)) q3a q3c (g := (mkF m 11 #[vR (a1), vI (cc)] [(.ref a1)])) rfl (by rw [hml]; rfl) (Steps.refl _) (argsL := []) (rest := []) (lenOf pd_13 rfl) rfl (by show 2 * 0 + _ ≤ _; exact Nat.le_of_eq rfl) (hb hby d53_11) (fun _ _ => ⟨rfl, e2, (by decide : 0 + 0 ≤ _), (by decide : 0 + 0 ≤ _)⟩)
  dsimp only [Pt.U, Pt.locs, Pt.cells, Pt.slots] at X3 l3 y3 z3 st3 hQ3
  subst l3 y3 z3
  obtain ⟨rfl, N3q, e3⟩ := hQ3
  have N3 := Fr.app N2 N3q
  obtain ⟨_, _, ⟨T4, L4, k4, n4⟩, -, X4, ⟨Lc4, hQ4, l4, y4, z4⟩, st4⟩ := Jvm.LawKit.callS X3 hx (y := Y40_) hown (mvT hZ (own_w hw 244 rfl)) (mvT hZ (own_w hw 245 rfl)) (mvT hZ (own_w hw 59 rfl)) (mvT hZ (own_w hw 246 rfl)) (by decide) (backOf (W := 0) (r_ce1 l Z a0 hw [] cs1 fv h0 n0 O0 G0 cc hc) hZ (own_w hw 246 rfl) (own_w hw 59 rfl) (by decide) (by decide)) (g := (mkF m 18 #[vR (a1), vI (cc)] [(.int cc)])) rfl (by rw [hml]; rfl) (argsL := [(.int cc)]) (rest := []) (lenOf pd_24 rfl) rfl (by show 2 * 0 + _ ≤ _; exact Nat.le_of_eq rfl) (hb hby d53_18) (fun _ _ => ⟨rfl, e3, (by decide : 0 + 0 ≤ _), (by decide : 0 + 0 ≤ _)⟩)
  dsimp only [Pt.U, Pt.locs, Pt.cells, Pt.slots] at X4 l4 y4 z4 st4 hQ4
  subst l4 y4 z4
  obtain ⟨rfl, N4q, e4⟩ := hQ4
  have N4 := Fr.app N3 N4q
  obtain ⟨T5, X5, e5, st5⟩ := getF X4 hx hZ hown (host := "") (Or.inl (own_w hw 109 rfl)) Via.refl e4 F1 (g := (mkF m 25 #[vR (a1), vI (cc)] [(.ref a1)])) rfl rfl (hb hby d53_25)
  obtain ⟨T6, X6, e6, st6⟩ := getF X5 hx hZ hown (host := "") (Or.inl (own_w hw 155 rfl)) Via.refl e5 F3 (g := (mkF m 30 #[vR (a1), vI (cc)] [(.ref a1), (.ref a1), (.ref a2)])) rfl rfl (hb hby d53_30)
  obtain ⟨T7, h7, X7, e7, W7, st7⟩ := putF X6 hx hZ hown (host := "") (Or.inl (own_w hw 155 rfl)) Via.refl e6 F3 Ee (Or.inl (own_w hw 156 rfl)) (own_w hw 95 rfl) (ty := .int) (by decide) rfl rfl (g := (mkF m 36 #[vR (a1), vI (cc)] [(.int (out.length.toInt32 + (1 : Int32))), (.ref a1), (.int out.length.toInt32), (.ref a2)])) rfl rfl (hb hby d53_36)
  have f8 := Ee.wr W7
  have f9 := F1.other W7 (Or.inr (slot_ne (Or.inl (own_w hw 110 rfl)) (Or.inl (own_w hw 156 rfl)) (by decide) (t := (.array .byte)) (t' := .int) (by decide) (by decide)))
  have f10 := F4.other W7 (Or.inr (slot_ne (Or.inl (own_w hw 272 rfl)) (Or.inl (own_w hw 156 rfl)) (by decide) (t := .boolean) (t' := .int) (by decide) (by decide)))
  have f11 := F2.other W7 (Or.inr (slot_ne (Or.inl (own_w hw 112 rfl)) (Or.inl (own_w hw 156 rfl)) (by decide) (t := .byte) (t' := .int) (by decide) (by decide)))
  have f12 := Va.other W7 (Ne.symm hne)
  have O7 := O0.wr W7 (Nat.le_trans gf hfa)
  have K7 : Keep h0 h7 [a1, a2] := (Keep.refl h0 [a1, a2]).wr W7 (Or.inl (List.mem_of_getElem? (i := 0) rfl))
  have N7 := Fr.snoc X7 N4 (Nat.le_trans gf hfa)
  have f13 := F3.same W7
  have V41 : Arv Z h7 a2 k2 .byte cs.length.toInt32 ((out.map (fun (c : Int32) => Value.int (nar .byte c.toInt8.toInt32))) ++ [Value.int (0 : Int32)]) (.int (0 : Int32)) := f12.pad (pad_rep (out.map (fun (c : Int32) => Value.int (nar .byte c.toInt8.toInt32))) (.int (0 : Int32)) 1)
  have vc14 := V41
  obtain ⟨cl14, Ar14, qk14, S14, Nn14, Hs14, Gf14⟩ := vc14
  have hin14 : ¬ (out.length.toInt32 < 0 ∨ cl14.slots.size ≤ (out.length.toInt32).toNatClampNeg) := inb_of S14 (own_in2 ho (Nat.le_refl _) hn)
  obtain ⟨T15, h15, X15, e15, W15, st15⟩ := stB X7 hx hZ e7 Ar14 (j := out.length.toInt32) hin14 (g := (mkF m 41 #[vR (a1), vI (cc)] [(.int (cc.toInt8.toInt32)), (.int out.length.toInt32), (.ref a2)])) rfl rfl (hb hby d53_41)
  have f16 := f8.wr W15
  have f17 := f9.other W15 (Or.inl hne)
  have f18 := f13.other W15 (Or.inl hne)
  have f19 := f10.other W15 (Or.inl hne)
  have f20 := f11.other W15 (Or.inl hne)
  have O15 := O7.wr W15 (Nat.le_trans gf hfb)
  have K15 : Keep h0 h15 [a1, a2] := K7.wr W15 (Or.inl (List.mem_of_getElem? (i := 1) rfl))
  have N15 := Fr.snoc X15 N7 (Nat.le_trans gf hfb)
  have f21 : Arv Z h15 a2 k2 .byte cs.length.toInt32 (List.set ((out.map (fun (c : Int32) => Value.int (nar .byte c.toInt8.toInt32))) ++ [Value.int (0 : Int32)]) (out.length.toInt32).toNatClampNeg (.int (nar .byte (cc.toInt8.toInt32)))) (.int (0 : Int32)) := Arv.set Ar14 qk14 S14 Nn14 Hs14 Gf14 (fits_nar_byte _) W15 (out.length.toInt32).toNatClampNeg rfl (by rw [(own_ti hk9).1]; simp)
  obtain ⟨fs, hr, hrun, hended, hW, hsame⟩ := X15.leave (v := some (.ref a1)) (fun h => by rw [Bd.returns] at h; cases h)
  refine ⟨_, _, pre0 _ ?_, hrun, hended, _, _, rfl, ?_, ⟨_, rfl⟩, hW, hsame.mono (by decide) (by decide)⟩
  · show own_St p e below s₁ m 0 #[vR (a1), vI (cc)] [] _
    refine XS.aloadN X0.here hx rfl (hb hby d53_0) rfl rfl ?_
    refine XS.aloadN X0.here hx rfl (hb hby d53_1) rfl rfl ?_
    show own_St p e below s₁ m 2 #[vR (a1), vI (cc)] [(.ref a1), (.ref a1)] _
    refine st1 _ ?_
    show own_St p e below T1 m 5 #[vR (a1), vI (cc)] [(.int out.length.toInt32), (.ref a1)] _
    refine XS.iconst X1.here hx rfl (hb hby d53_5) ?_
    refine XS.iadd X1.here hx rfl (hb hby d53_6) rfl ?_
    show own_St p e below T1 m 7 #[vR (a1), vI (cc)] [(.int (out.length.toInt32 + (1 : Int32))), (.ref a1)] _
    refine st2.trans ?_
    show own_St p e below T2 m 10 #[vR (a1), vI (cc)] [] _
    refine XS.aloadN X2.here hx rfl (hb hby d53_10) rfl rfl ?_
    show own_St p e below T2 m 11 #[vR (a1), vI (cc)] [(.ref a1)] _
    refine st3.trans ?_
    show own_St p e below T3 m 14 #[vR (a1), vI (cc)] [(.int (1 : Int32))] _
    refine XS.ifNo X3.here hx rfl (hb hby d53_14) rfl ((if0 _ _).trans (feq (by decide : ¬ ((1 : Int32) = (0 : Int32)))).1) ?_
    refine XS.iloadN X3.here hx rfl (hb hby d53_17) rfl ?_
    show own_St p e below T3 m 18 #[vR (a1), vI (cc)] [(.int cc)] _
    refine st4 _ ?_
    show own_St p e below T4 m 21 #[vR (a1), vI (cc)] [(.int (1 : Int32))] _
    refine XS.ifNo X4.here hx rfl (hb hby d53_21) rfl ((if0 _ _).trans (feq (by decide : ¬ ((1 : Int32) = (0 : Int32)))).1) ?_
    refine XS.aloadN X4.here hx rfl (hb hby d53_24) rfl rfl ?_
    show own_St p e below T4 m 25 #[vR (a1), vI (cc)] [(.ref a1)] _
    refine st5 _ ?_
    show own_St p e below T5 m 28 #[vR (a1), vI (cc)] [(.ref a2)] _
    refine XS.aloadN X5.here hx rfl (hb hby d53_28) rfl rfl ?_
    refine XS.dup X5.here hx rfl (hb hby d53_29) rfl rfl ?_
    show own_St p e below T5 m 30 #[vR (a1), vI (cc)] [(.ref a1), (.ref a1), (.ref a2)] _
    refine st6 _ ?_
    show own_St p e below T6 m 33 #[vR (a1), vI (cc)] [(.int out.length.toInt32), (.ref a1), (.ref a2)] _
    refine XS.dupX1 X6.here hx rfl (hb hby d53_33) rfl rfl rfl ?_
    show own_St p e below T6 m 34 #[vR (a1), vI (cc)] [(.int out.length.toInt32), (.ref a1), (.int out.length.toInt32), (.ref a2)] _
    refine XS.iconst X6.here hx rfl (hb hby d53_34) ?_
    refine XS.iadd X6.here hx rfl (hb hby d53_35) rfl ?_
    show own_St p e below T6 m 36 #[vR (a1), vI (cc)] [(.int (out.length.toInt32 + (1 : Int32))), (.ref a1), (.int out.length.toInt32), (.ref a2)] _
    refine st7 _ ?_
    show own_St p e below T7 m 39 #[vR (a1), vI (cc)] [(.int out.length.toInt32), (.ref a2)] _
    refine XS.iloadN X7.here hx rfl (hb hby d53_39) rfl ?_
    refine XS.i2b X7.here hx rfl (hb hby d53_40) rfl ?_
    show own_St p e below T7 m 41 #[vR (a1), vI (cc)] [(.int (cc.toInt8.toInt32)), (.int out.length.toInt32), (.ref a2)] _
    refine st15 _ ?_
    show own_St p e below T15 m 42 #[vR (a1), vI (cc)] [] _
    refine XS.goto X15.here hx rfl (pc0 := 42) (pc' := 75) rfl (hb hby d53_42) (by decide) (by decide) ?_
    refine XS.aloadN X15.here hx rfl (hb hby d53_75) rfl rfl ?_
    show own_St p e below T15 m 76 #[vR (a1), vI (cc)] [(.ref a1)] _
    exact retOut X15 hx Bd.returns rfl (Or.inr (Or.inr (Or.inr (Or.inr ⟨rfl, rfl, rfl⟩)))) (hb hby d53_76) hr
  · show own_QSB Z f0 a1 cs (out ++ [cc]) (some (.ref a1)) h0 n0 _ T15.heap _
    rw [e15]
    exact ⟨[a1, a2], rfl, N15, (allS hfa (allS hfb all0)), K15, a2, k2, hfa, hfb, hne, f16, f17, (by have q := f18; rw [own_lenapp (c := cc) hk9] at q; exact q), f19, Or.inl ⟨f20, own_Lat_app hl hc, (by have q := f21; rw [(own_ti hk9).1, own_lbput] at q; exact q)⟩⟩
theorem d53_45 : D53_ 45 = .ok (.aload_n 0, 1) := by decide +kernel
theorem d53_46 : D53_ 46 = .ok (.invokevirtual 83, 3) := by decide +kernel
theorem d53_49 : D53_ 49 = .ok (.ifCond .eq 7, 3) := by decide +kernel
theorem d53_52 : D53_ 52 = .ok (.aload_n 0, 1) := by decide +kernel
theorem d53_53 : D53_ 53 = .ok (.invokevirtual 195, 3) := by decide +kernel
theorem pd_25 : parseMethodDescriptor "()V" = some ⟨[], none⟩ := by decide +kernel
theorem d53_56 : D53_ 56 = .ok (.aload_n 0, 1) := by decide +kernel
theorem d53_57 : D53_ 57 = .ok (.getfield 15, 3) := by decide +kernel
theorem d53_60 : D53_ 60 = .ok (.aload_n 0, 1) := by decide +kernel
theorem d53_61 : D53_ 61 = .ok (.dup, 1) := by decide +kernel
theorem d53_62 : D53_ 62 = .ok (.getfield 79, 3) := by decide +kernel
theorem d53_65 : D53_ 65 = .ok (.dup_x1, 1) := by decide +kernel
theorem d53_66 : D53_ 66 = .ok (.iconst 1, 1) := by decide +kernel
theorem d53_67 : D53_ 67 = .ok (.iadd, 1) := by decide +kernel
theorem d53_68 : D53_ 68 = .ok (.putfield 79, 3) := by decide +kernel
theorem d53_71 : D53_ 71 = .ok (.iload_n 1, 1) := by decide +kernel
theorem d53_72 : D53_ 72 = .ok (.invokestatic 197, 3) := by decide +kernel
theorem r_apLU (l : Launch) (Z : State) (a0 : Array Value) (hw : own_HW a0 Z) (ws : List Jvm.Cond) (cs1 : Int32) (fv : Value) (h0 : Heap) (n0 : Nat) (O0 : Old Z n0 h0) (G : own_Ctx Z Z.heap cs1 fv) (a1 a2 : Addr) (k2 : ClassId) (f0 : Nat) (cs out : List Int32) (cc : Int32) (Ee : Exa Z h0 a1 "java/lang/StringBuilder") (F1 : Fld Z h0 a1 "java/lang/AbstractStringBuilder" "value" "[B" (.ref a2)) (F3 : Fld Z h0 a1 "java/lang/AbstractStringBuilder" "count" "I" (.int out.length.toInt32)) (F4 : Fld Z h0 a1 "java/lang/AbstractStringBuilder" "maybeLatin1" "Z" (.int (0 : Int32))) (F2 : Fld Z h0 a1 "java/lang/AbstractStringBuilder" "coder" "B" (.int (0 : Int32))) (Va : Arv Z h0 a2 k2 .byte cs.length.toInt32 (out.map (fun c => .int (nar .byte c.toInt8.toInt32))) (.int (0 : Int32))) (gf : n0 ≤ f0) (hfa : f0 ≤ a1) (hfb : f0 ≤ a2) (hne : a1 ≠ a2) (hn : cs.length ≤ 4) (ho : out.length + 1 ≤ cs.length) (hBo : own_Bd out) (hl : own_Lat out) (hc : (255 : Int32) < cc) :
    own_M l Y45_ (head1 (Jvm.Cond.code Y45_ jdk_68_method_31_code 2 (some (.object "java/lang/AbstractStringBuilder")) :: ws) (own_rm_ 6 1 8 89)) #[(.ref a1), (.int cc)] Z h0 n0 (own_QSB Z f0 a1 cs (out ++ [cc]) (some (.ref a1))) (own_rm_ 6 1 8 89).cells (own_rm_ 6 1 8 89).slots := by
  have G0 := G
  refine MetFree.of_bodySF (plainFor_of_name pn_4) hisR ?_
  intro p e s m args below meth c s₁ Bd hml0 hP hK
  obtain ⟨rfl, hZ, hh⟩ := hP
  have hx := Bd.exec
  have hby := Bd.bytes
  have hml : c.maxLocals = 2 := hml0
  have hown := findClass_of_methodNamed Bd.named
  have X0 : Stand p l e (own_rm_ 6 1 8 89) s m #[(.ref a1), (.int cc)] below meth c s₁ [] 0 0 := Stand.of_body Bd
  have e0 : s₁.heap = h0 := by rw [← hh, Bd.state]; rfl
  have N0 := Fr.nil n0
  have pre0 := own_pre (tb := p.tables) (e := e) (below := below) (T := s₁) (ef_53_48 m a1 cc)
  have hk9 : out.length ≤ 1000 := by omega
  obtain ⟨T1, X1, e1, st1⟩ := getF X0 hx hZ hown (host := "") (Or.inl (own_w hw 155 rfl)) Via.refl e0 F3 (g := (mkF m 2 #[vR (a1), vI (cc)] [(.ref a1), (.ref a1)])) rfl rfl (hb hby d53_2)
  obtain ⟨cq2, q2, q2'⟩ := Ee.cell
  obtain ⟨_, _, ⟨T2, L2, k2, n2⟩, -, X2, ⟨Lc2, hQ2, l2, y2, z2⟩, st2⟩ := X1.privateBack hx (y := Y39_) hown (mvT hZ (own_w hw 238 rfl)) (mvT hZ (own_w hw 239 rfl)) (own_selQ hZ (own_w hw 241 rfl) (own_w hw 239 rfl) (own_w hw 240 rfl) (by decide)) (Cond.privateMethod_at (mvP hZ (own_w hw 240 rfl) (args := #[]))) (mvT hZ (own_w hw 242 rfl)) (by decide) (backOf (W := 0) (r_enL l Z a0 hw [] cs1 fv h0 n0 O0 G0 a1 a2 k2 f0 cs out Ee F1 F3 F4 F2 Va gf hfa hfb hne hn ho) hZ (own_w hw 242 rfl) (own_w hw 105 rfl) (by decide) (by decide)) (g := (mkF m 7 #[vR (a1), vI (cc)] [(.int (out.length.toInt32 + (1 : Int32))), (.ref a1)])) rfl (by rw [hml]; rfl) (Steps.refl _) (a := a1) (by rw [e1]; exact q2) q2' (argsL := [(.int (out.length.toInt32 + (1 : Int32)))]) (rest := []) (lenOf pd_22 rfl) rfl (by show 2 * 0 + _ ≤ _; exact Nat.le_of_eq rfl) (hb hby d53_7) (fun _ _ => ⟨rfl, e1, (by decide : 0 + 0 ≤ _), (by decide : 0 + 0 ≤ _)⟩)
  dsimp only [Pt.U, Pt.locs, Pt.cells, Pt.slots] at X2 l2 y2 z2 st2 hQ2
  subst l2 y2 z2
  obtain ⟨rfl, N2q, e2⟩ := hQ2
  have N2 := Fr.app N0 N2q
  obtain ⟨cq3, kq3, q3a, q3b, q3c⟩ := isOf hZ e2 Ee
  obtain ⟨_, _, ⟨T3, L3, k3, n3⟩, -, X3, ⟨Lc3, hQ3, l3, y3, z3⟩, st3⟩ := X2.virtualBack hx (y := Y38_) (z := Y38_) hown (mvT hZ (own_w hw 243 rfl)) (mvT hZ (own_w hw 158 rfl)) (notFace_of_selects (args := #[]) (mvT hZ (own_w hw 160 rfl))) (mvT hZ (own_w hw 160 rfl)) (mvT hZ (own_w hw 159 rfl)) (by decide) (backOf (W := 0) (r_ibL l Z a0 hw [] cs1 fv h0 n0 O0 G0 a1 F2) hZ (own_w hw 161 rfl) (own_w hw 105 rfl) (by decide) (by decide)) q3a q3c (g := (mkF m 11 #[vR (a1), vI (cc)] [(.ref a1)])) rfl (by rw [hml]; rfl) (Steps.refl _) (argsL := []) (rest := []) (lenOf pd_13 rfl) rfl (by show 2 * 0 + _ ≤ _; exact Nat.le_of_eq rfl) (hb hby d53_11) (fun _ _ => ⟨rfl, e2, (by decide : 0 + 0 ≤ _), (by decide : 0 + 0 ≤ _)⟩)
  dsimp only [Pt.U, Pt.locs, Pt.cells, Pt.slots] at X3 l3 y3 z3 st3 hQ3
  subst l3 y3 z3
  obtain ⟨rfl, N3q, e3⟩ := hQ3
  have N3 := Fr.app N2 N3q
  obtain ⟨_, _, ⟨T4, L4, k4, n4⟩, -, X4, ⟨Lc4, hQ4, l4, y4, z4⟩, st4⟩ := Jvm.LawKit.callS X3 hx (y := Y40_) hown (mvT hZ (own_w hw 244 rfl)) (mvT hZ (own_w hw 245 rfl)) (mvT hZ (own_w hw 59 rfl)) (mvT hZ (own_w hw 246 rfl)) (by decide) (backOf (W := 0) (r_ce0 l Z a0 hw [] cs1 fv h0 n0 O0 G0 cc hc) hZ (own_w hw 246 rfl) (own_w hw 59 rfl) (by decide) (by decide)) (g := (mkF m 18 #[vR (a1), vI (cc)] [(.int cc)])) rfl (by rw [hml]; rfl) (argsL := [(.int cc)]) (rest := []) (lenOf pd_24 rfl) rfl (by show 2 * 0 + _ ≤ _; exact Nat.le_of_eq rfl) (hb hby d53_18) (fun _ _ => ⟨rfl, e3, (by decide : 0 + 0 ≤ _), (by decide : 0 + 0 ≤ _)⟩)
  dsimp only [Pt.U, Pt.locs, Pt.cells, Pt.slots] at X4 l4 y4 z4 st4 hQ4
  subst l4 y4 z4
  obtain ⟨rfl, N4q, e4⟩ := hQ4
  have N4 := Fr.app N3 N4q
  obtain ⟨cq5, kq5, q5a, q5b, q5c⟩ := isOf hZ e4 Ee
  obtain ⟨_, _, ⟨T5, L5, k5, n5⟩, -, X5, ⟨Lc5, hQ5, l5, y5, z5⟩, st5⟩ := X4.virtualBack hx (y := Y38_) (z := Y38_) hown (mvT hZ (own_w hw 243 rfl)) (mvT hZ (own_w hw 158 rfl)) (notFace_of_selects (args := #[]) (mvT hZ (own_w hw 160 rfl))) (mvT hZ (own_w hw 160 rfl)) (mvT hZ (own_w hw 159 rfl)) (by decide) (backOf (W := 0) (r_ibL l Z a0 hw [] cs1 fv h0 n0 O0 G0 a1 F2) hZ (own_w hw 161 rfl) (own_w hw 105 rfl) (by decide) (by decide)) q5a q5c (g := (mkF m 46 #[vR (a1), vI (cc)] [(.ref a1)])) rfl (by rw [hml]; rfl) (Steps.refl _) (argsL := []) (rest := []) (lenOf pd_13 rfl) rfl (by show 2 * 0 + _ ≤ _; exact Nat.le_of_eq rfl) (hb hby d53_46) (fun _ _ => ⟨rfl, e4, (by decide : 0 + 0 ≤ _), (by decide : 0 + 0 ≤ _)⟩)
  dsimp only [Pt.U, Pt.locs, Pt.cells, Pt.slots] at X5 l5 y5 z5 st5 hQ5
  subst l5 y5 z5
  obtain ⟨rfl, N5q, e5⟩ := hQ5
  have N5 := Fr.app N4 N5q
  obtain ⟨cq6, q6, q6'⟩ := Ee.cell
  obtain ⟨_, _, ⟨T6, L6, k6, n6⟩, -, X6, ⟨Lc6, hQ6, l6, y6, z6⟩, st6⟩ := X5.privateBack hx (y := Y43_) hown (mvT hZ (own_w hw 247 rfl)) (mvT hZ (own_w hw 248 rfl)) (own_selQ hZ (own_w hw 250 rfl) (own_w hw 248 rfl) (own_w hw 249 rfl) (by decide)) (Cond.privateMethod_at (mvP hZ (own_w hw 249 rfl) (args := #[]))) (mvT hZ (own_w hw 251 rfl)) (by decide) (backOf (W := 0) (r_ai l Z a0 hw [] cs1 fv h0 n0 O0 G0 a1 a2 k2 f0 cs out Ee F1 F3 F4 F2 Va gf hfa hfb hne hn (Nat.le_of_succ_le ho) hBo hl) hZ (own_w hw 251 rfl) (own_w hw 105 rfl) (by decide) (by decide)) (g := (mkF m 53 #[vR (a1), vI (cc)] [(.ref a1)])) rfl (by rw [hml]; rfl) (Steps.refl _) (a := a1) (by rw [e5]; exact q6) q6' (argsL := []) (rest := []) (lenOf pd_25 rfl) rfl (by show 2 * 0 + _ ≤ _; exact Nat.le_of_eq rfl) (hb hby d53_53) (fun _ _ => ⟨rfl, e5, (by decide : 0 + 1 ≤ _), (by decide : 0 + 8 ≤ _)⟩)
  dsimp only [Pt.U, Pt.locs, Pt.cells, Pt.slots] at X6 l6 y6 z6 st6 hQ6
  subst l6 y6 z6
  obtain ⟨t6, kt6, rfl, N6q, Kq6, gt6, Vt6, Fv6, Fn6, Fm6, Fc6⟩ := hQ6
  have N6 := Fr.app N5 N6q
  have ne_a1_t6 : a1 ≠ t6 := Nat.ne_of_lt (Nat.lt_of_lt_of_le Ee.lt gt6)
  have ne_a2_t6 : a2 ≠ t6 := Nat.ne_of_lt (Nat.lt_of_lt_of_le Va.lt gt6)
  have g_t6 : n0 ≤ t6 := Nat.le_trans (O0.1 ▸ O0.2.1) gt6
  have sz_t6 : h0.size ≤ t6 := Nat.le_trans (Keep.refl h0 [a1]).1 gt6
  have f7 := Ee.keep Kq6
  have f8 := Va.keep Kq6 (fun q => (List.mem_cons.mp q).elim (Ne.symm hne) (fun q => nomatch q))
  have O6 := O0.keep Kq6 (allS (Nat.le_trans gf hfa) all0)
  have K6 : Keep h0 T6.heap [a1] := (Keep.refl h0 [a1]).trans Kq6 (allS (Or.inl (List.mem_of_getElem? (i := 0) rfl)) all0)
  obtain ⟨T9, X9, e9, st9⟩ := getF X6 hx hZ hown (host := "") (Or.inl (own_w hw 109 rfl)) Via.refl rfl Fv6 (g := (mkF m 57 #[vR (a1), vI (cc)] [(.ref a1)])) rfl rfl (hb hby d53_57)
  obtain ⟨T10, X10, e10, st10⟩ := getF X9 hx hZ hown (host := "") (Or.inl (own_w hw 155 rfl)) Via.refl e9 Fn6 (g := (mkF m 62 #[vR (a1), vI (cc)] [(.ref a1), (.ref a1), (.ref t6)])) rfl rfl (hb hby d53_62)
  obtain ⟨T11, h11, X11, e11, W11, st11⟩ := putF X10 hx hZ hown (host := "") (Or.inl (own_w hw 155 rfl)) Via.refl e10 Fn6 f7 (Or.inl (own_w hw 156 rfl)) (own_w hw 95 rfl) (ty := .int) (by decide) rfl rfl (g := (mkF m 68 #[vR (a1), vI (cc)] [(.int (out.length.toInt32 + (1 : Int32))), (.ref a1), (.int out.length.toInt32), (.ref t6)])) rfl rfl (hb hby d53_68)
  have f12 := f7.wr W11
  have f13 := f8.other W11 (Ne.symm hne)
  have f14 := Vt6.other W11 (Ne.symm ne_a1_t6)
  have f15 := Fv6.other W11 (Or.inr (slot_ne (Or.inl (own_w hw 110 rfl)) (Or.inl (own_w hw 156 rfl)) (by decide) (t := (.array .byte)) (t' := .int) (by decide) (by decide)))
  have f16 := Fm6.other W11 (Or.inr (slot_ne (Or.inl (own_w hw 272 rfl)) (Or.inl (own_w hw 156 rfl)) (by decide) (t := .boolean) (t' := .int) (by decide) (by decide)))
  have f17 := Fc6.other W11 (Or.inr (slot_ne (Or.inl (own_w hw 112 rfl)) (Or.inl (own_w hw 156 rfl)) (by decide) (t := .byte) (t' := .int) (by decide) (by decide)))
  have O11 := O6.wr W11 (Nat.le_trans gf hfa)
  have K11 : Keep h0 h11 [a1] := K6.wr W11 (Or.inl (List.mem_of_getElem? (i := 0) rfl))
  have N11 := Fr.snoc X11 N6 (Nat.le_trans gf hfa)
  have f18 := Fn6.same W11
  obtain ⟨LL19, X19, N19⟩ : ∃ LL, Stand p l e (own_rm_ 6 1 8 89) s m #[(.ref a1), (.int cc)] below meth c T11 LL 1 8 ∧ Fr n0 LL := ⟨_, X11, N11⟩
  obtain ⟨_, _, ⟨T20, L20, k20, n20⟩, -, X20, ⟨Lc20, hQ20, l20, y20, z20⟩, st20⟩ := Jvm.LawKit.callS X19 hx (y := Y44_) hown (mvT hZ (own_w hw 268 rfl)) (mvT hZ (own_w hw 269 rfl)) (mvT hZ (own_w hw 77 rfl)) (mvT hZ (own_w hw 270 rfl)) (by decide) (backOf (W := 0) (r_psb l Z a0 hw [] cs1 fv h11 n0 O11 G0 t6 kt6 cs out cc f14 g_t6 ho hn) hZ (own_w hw 270 rfl) (own_w hw 77 rfl) (by decide) (by decide)) (g := (mkF m 72 #[vR (a1), vI (cc)] [(.int cc), (.int out.length.toInt32), (.ref t6)])) rfl (by rw [hml]; rfl) (argsL := [(.ref t6), (.int out.length.toInt32), (.int cc)]) (rest := []) (lenOf pd_1 rfl) rfl (by show 2 * 0 + _ ≤ _; exact Nat.le_of_eq rfl) (hb hby d53_72) (fun _ _ => ⟨rfl, e11, (by decide : 1 + 0 ≤ _), (by decide : 8 + 0 ≤ _)⟩)
  dsimp only [Pt.U, Pt.locs, Pt.cells, Pt.slots] at X20 l20 y20 z20 st20 hQ20
  subst l20 y20 z20
  obtain ⟨rfl, N20q, Kq20, Vb20⟩ := hQ20
  have N20 := Fr.app N19 N20q
  have f21 := f12.keep Kq20
  have f22 := f13.keep Kq20 (fun q => (List.mem_cons.mp q).elim ne_a2_t6 (fun q => nomatch q))
  have f23 := f15.keep Kq20 (fun q => (List.mem_cons.mp q).elim ne_a1_t6 (fun q => nomatch q))
  have f24 := f18.keep Kq20 (fun q => (List.mem_cons.mp q).elim ne_a1_t6 (fun q => nomatch q))
  have f25 := f16.keep Kq20 (fun q => (List.mem_cons.mp q).elim ne_a1_t6 (fun q => nomatch q))
  have f26 := f17.keep Kq20 (fun q => (List.mem_cons.mp q).elim ne_a1_t6 (fun q => nomatch q))
  have O20 := O11.keep Kq20 (allS g_t6 all0)
  have K20 : Keep h0 T20.heap [a1] := K11.trans Kq20 (allS (Or.inr sz_t6) all0)
  obtain ⟨fs, hr, hrun, hended, hW, hsame⟩ := X20.leave (v := some (.ref a1)) (fun h => by rw [Bd.returns] at h; cases h)
  refine ⟨_, _, pre0 _ ?_, hrun, hended, _, _, rfl, ?_, ⟨_, rfl⟩, hW, hsame.mono (by decide) (by decide)⟩
  · show own_St p e below s₁ m 0 #[vR (a1), vI (cc)] [] _
    refine XS.aloadN X0.here hx rfl (hb hby d53_0) rfl rfl ?_
    refine XS.aloadN X0.here hx rfl (hb hby d53_1) rfl rfl ?_
    show own_St p e below s₁ m 2 #[vR (a1), vI (cc)] [(.ref a1), (.ref a1)] _
    refine st1 _ ?_
    show own_St p e below T1 m 5 #[vR (a1), vI (cc)] [(.int out.length.toInt32), (.ref a1)] _
    refine XS.iconst X1.here hx rfl (hb hby d53_5) ?_
    refine XS.iadd X1.here hx rfl (hb hby d53_6) rfl ?_
    show own_St p e below T1 m 7 #[vR (a1), vI (cc)] [(.int (out.length.toInt32 + (1 : Int32))), (.ref a1)] _
    refine st2.trans ?_
    show own_St p e below T2 m 10 #[vR (a1), vI (cc)] [] _
    refine XS.aloadN X2.here hx rfl (hb hby d53_10) rfl rfl ?_
    show own_St p e below T2 m 11 #[vR (a1), vI (cc)] [(.ref a1)] _
    refine st3.trans ?_
    show own_St p e below T3 m 14 #[vR (a1), vI (cc)] [(.int (1 : Int32))] _
    refine XS.ifNo X3.here hx rfl (hb hby d53_14) rfl ((if0 _ _).trans (feq (by decide : ¬ ((1 : Int32) = (0 : Int32)))).1) ?_
    refine XS.iloadN X3.here hx rfl (hb hby d53_17) rfl ?_
    show own_St p e below T3 m 18 #[vR (a1), vI (cc)] [(.int cc)] _
    refine st4 _ ?_
    show own_St p e below T4 m 21 #[vR (a1), vI (cc)] [(.int (0 : Int32))] _
    refine XS.ifYes X4.here hx rfl (pc0 := 21) (pc' := 45) rfl (hb hby d53_21) rfl ((if0 _ _).trans (teq (by decide : (0 : Int32) = (0 : Int32))).1) (by decide) (by decide) ?_
    refine XS.aloadN X4.here hx rfl (hb hby d53_45) rfl rfl ?_
    show own_St p e below T4 m 46 #[vR (a1), vI (cc)] [(.ref a1)] _
    refine st5.trans ?_
    show own_St p e below T5 m 49 #[vR (a1), vI (cc)] [(.int (1 : Int32))] _
    refine XS.ifNo X5.here hx rfl (hb hby d53_49) rfl ((if0 _ _).trans (feq (by decide : ¬ ((1 : Int32) = (0 : Int32)))).1) ?_
    refine XS.aloadN X5.here hx rfl (hb hby d53_52) rfl rfl ?_
    show own_St p e below T5 m 53 #[vR (a1), vI (cc)] [(.ref a1)] _
    refine st6.trans ?_
    show own_St p e below T6 m 56 #[vR (a1), vI (cc)] [] _
    refine XS.aloadN X6.here hx rfl (hb hby d53_56) rfl rfl ?_
    show own_St p e below T6 m 57 #[vR (a1), vI (cc)] [(.ref a1)] _
    refine st9 _ ?_
    show own_St p e below T9 m 60 #[vR (a1), vI (cc)] [(.ref t6)] _
    refine XS.aloadN X9.here hx rfl (hb hby d53_60) rfl rfl ?_
    refine XS.dup X9.here hx rfl (hb hby d53_61) rfl rfl ?_
    show own_St p e below T9 m 62 #[vR (a1), vI (cc)] [(.ref a1), (.ref a1), (.ref t6)] _
    refine st10 _ ?_
    show own_St p e below T10 m 65 #[vR (a1), vI (cc)] [(.int out.length.toInt32), (.ref a1), (.ref t6)] _
    refine XS.dupX1 X10.here hx rfl (hb hby d53_65) rfl rfl rfl ?_
    show own_St p e below T10 m 66 #[vR (a1), vI (cc)] [(.int out.length.toInt32), (.ref a1), (.int out.length.toInt32), (.ref t6)] _
    refine XS.iconst X10.here hx rfl (hb hby d53_66) ?_
    refine XS.iadd X10.here hx rfl (hb hby d53_67) rfl ?_
    show own_St p e below T10 m 68 #[vR (a1), vI (cc)] [(.int (out.length.toInt32 + (1 : Int32))), (.ref a1), (.int out.length.toInt32), (.ref t6)] _
    refine st11 _ ?_
    show own_St p e below T11 m 71 #[vR (a1), vI (cc)] [(.int out.length.toInt32), (.ref t6)] _
    refine XS.iloadN X11.here hx rfl (hb hby d53_71) rfl ?_
    show own_St p e below T11 m 72 #[vR (a1), vI (cc)] [(.int cc), (.int out.length.toInt32), (.ref t6)] _
    refine st20 _ ?_
    show own_St p e below T20 m 75 #[vR (a1), vI (cc)] [] _
    refine XS.aloadN X20.here hx rfl (hb hby d53_75) rfl rfl ?_
    show own_St p e below T20 m 76 #[vR (a1), vI (cc)] [(.ref a1)] _
    exact retOut X20 hx Bd.returns rfl (Or.inr (Or.inr (Or.inr (Or.inr ⟨rfl, rfl, rfl⟩)))) (hb hby d53_76) hr
  · show own_QSB Z f0 a1 cs (out ++ [cc]) (some (.ref a1)) h0 n0 _ T20.heap _
    exact ⟨[a1], rfl, N20, (allS hfa all0), K20, t6, kt6, hfa, (Nat.le_trans (Nat.le_of_lt (Nat.lt_of_le_of_lt hfa Ee.lt)) sz_t6), ne_a1_t6, f21, f23, (by have q := f24; rw [own_lenapp (c := cc) hk9] at q; exact q), f25, Or.inr ⟨f26, Vb20⟩⟩
theorem r_apUU (l : Launch) (Z : State) (a0 : Array Value) (hw : own_HW a0 Z) (ws : List Jvm.Cond) (cs1 : Int32) (fv : Value) (h0 : Heap) (n0 : Nat) (O0 : Old Z n0 h0) (G : own_Ctx Z Z.heap cs1 fv) (a1 a2 : Addr) (k2 : ClassId) (f0 : Nat) (cs out : List Int32) (cc : Int32) (Ee : Exa Z h0 a1 "java/lang/StringBuilder") (F1 : Fld Z h0 a1 "java/lang/AbstractStringBuilder" "value" "[B" (.ref a2)) (F3 : Fld Z h0 a1 "java/lang/AbstractStringBuilder" "count" "I" (.int out.length.toInt32)) (F4 : Fld Z h0 a1 "java/lang/AbstractStringBuilder" "maybeLatin1" "Z" (.int (0 : Int32))) (F2 : Fld Z h0 a1 "java/lang/AbstractStringBuilder" "coder" "B" (.int (1 : Int32))) (Va : Arv Z h0 a2 k2 .byte (2 * cs.length).toInt32 (own_u2 cs.length out) (.int (0 : Int32))) (gf : n0 ≤ f0) (hfa : f0 ≤ a1) (hfb : f0 ≤ a2) (hne : a1 ≠ a2) (hn : cs.length ≤ 4) (ho : out.length + 1 ≤ cs.length) :
    own_M l Y45_ (head1 (Jvm.Cond.code Y45_ jdk_68_method_31_code 2 (some (.object "java/lang/AbstractStringBuilder")) :: ws) (own_rm_ 6 1 8 89)) #[(.ref a1), (.int cc)] Z h0 n0 (own_QSB Z f0 a1 cs (out ++ [cc]) (some (.ref a1))) (own_rm_ 6 1 8 89).cells (own_rm_ 6 1 8 89).slots := by
  have G0 := G
  refine MetFree.of_bodySF (plainFor_of_name pn_4) hisR ?_
  intro p e s m args below meth c s₁ Bd hml0 hP hK
  obtain ⟨rfl, hZ, hh⟩ := hP
  have hx := Bd.exec
  have hby := Bd.bytes
  have hml : c.maxLocals = 2 := hml0
  have hown := findClass_of_methodNamed Bd.named
  have X0 : Stand p l e (own_rm_ 6 1 8 89) s m #[(.ref a1), (.int cc)] below meth c s₁ [] 0 0 := Stand.of_body Bd
  have e0 : s₁.heap = h0 := by rw [← hh, Bd.state]; rfl
  have N0 := Fr.nil n0
  have pre0 := own_pre (tb := p.tables) (e := e) (below := below) (T := s₁) (ef_53_48 m a1 cc)
  have hk9 : out.length ≤ 1000 := by omega
  obtain ⟨T1, X1, e1, st1⟩ := getF X0 hx hZ hown (host := "") (Or.inl (own_w hw 155 rfl)) Via.refl e0 F3 (g := (mkF m 2 #[vR (a1), vI (cc)] [(.ref a1), (.ref a1)])) rfl rfl (hb hby d53_2)
  obtain ⟨cq2, q2, q2'⟩ := Ee.cell
  obtain ⟨_, _, ⟨T2, L2, k2, n2⟩, -, X2, ⟨Lc2, hQ2, l2, y2, z2⟩, st2⟩ := X1.privateBack hx (y := Y39_) hown (mvT hZ (own_w hw 238 rfl)) (mvT hZ (own_w hw 239 rfl)) (own_selQ hZ (own_w hw 241 rfl) (own_w hw 239 rfl) (own_w hw 240 rfl) (by decide)) (Cond.privateMethod_at (mvP hZ (own_w hw 240 rfl) (args := #[]))) (mvT hZ (own_w hw 242 rfl)) (by decide) (backOf (W := 0) (r_enU l Z a0 hw [] cs1 fv h0 n0 O0 G0 a1 a2 k2 f0 cs out Ee F1 F3 F4 F2 Va gf hfa hfb hne hn ho) hZ (own_w hw 242 rfl) (own_w hw 105 rfl) (by decide) (by decide)) (g := (mkF m 7 #[vR (a1), vI (cc)] [(.int (out.length.toInt32 + (1 : Int32))), (.ref a1)])) rfl (by rw [hml]; rfl) (Steps.refl _) (a := a1) (by rw [e1]; exact q2) q2' (argsL := [(.int (out.length.toInt32 + (1 : Int32)))]) (rest := []) (lenOf pd_22 rfl) rfl (by show 2 * 0 + _ ≤ _; exact Nat.le_of_eq rfl) (hb hby d53_7) (fun _ _ => ⟨rfl, e1, (by decide : 0 + 0 ≤ _), (by decide : 0 + 0 ≤ _)⟩)
  dsimp only [Pt.U, Pt.locs, Pt.cells, Pt.slots] at X2 l2 y2 z2 st2 hQ2
  subst l2 y2 z2
  obtain ⟨rfl, N2q, e2⟩ := hQ2
  have N2 := Fr.app N0 N2q
  obtain ⟨cq3, kq3, q3a, q3b, q3c⟩ := isOf hZ e2 Ee
  obtain ⟨_, _, ⟨T3, L3, k3, n3⟩, -, X3, ⟨Lc3, hQ3, l3, y3, z3⟩, st3⟩ := X2.virtualBack hx (y := Y38_) (z := Y38_) hown (mvT hZ (own_w hw 243 rfl)) (mvT hZ (own_w hw 158 rfl)) (notFace_of_selects (args := #[]) (mvT hZ (own_w hw 160 rfl))) (mvT hZ (own_w hw 160 rfl)) (mvT hZ (own_w hw 159 rfl)) (by decide) (backOf (W := 0) (r_ibU l Z a0 hw [] cs1 fv h0 n0 O0 G0 a1 F2) hZ (own_w hw 161 rfl) (own_w hw 105 rfl) (by decide) (by decide)) q3a q3c (g := (mkF m 11 #[vR (a1), vI (cc)] [(.ref a1)])) rfl (by rw [hml]; rfl) (Steps.refl _) (argsL := []) (rest := []) (lenOf pd_13 rfl) rfl (by show 2 * 0 + _ ≤ _; exact Nat.le_of_eq rfl) (hb hby d53_11) (fun _ _ => ⟨rfl, e2, (by decide : 0 + 0 ≤ _), (by decide : 0 + 0 ≤ _)⟩)
  dsimp only [Pt.U, Pt.locs, Pt.cells, Pt.slots] at X3 l3 y3 z3 st3 hQ3
  subst l3 y3 z3
  obtain ⟨rfl, N3q, e3⟩ := hQ3
  have N3 := Fr.app N2 N3q
  obtain ⟨cq4, kq4, q4a, q4b, q4c⟩ := isOf hZ e3 Ee
  obtain ⟨_, _, ⟨T4, L4, k4, n4⟩, -, X4, ⟨Lc4, hQ4, l4, y4, z4⟩, st4⟩ := X3.virtualBack hx (y := Y38_) (z := Y38_) hown (mvT hZ (own_w hw 243 rfl)) (mvT hZ (own_w hw 158 rfl)) (notFace_of_selects (args := #[]) (mvT hZ (own_w hw 160 rfl))) (mvT hZ (own_w hw 160 rfl)) (mvT hZ (own_w hw 159 rfl)) (by decide) (backOf (W := 0) (r_ibU l Z a0 hw [] cs1 fv h0 n0 O0 G0 a1 F2) hZ (own_w hw 161 rfl) (own_w hw 105 rfl) (by decide) (by decide)) q4a q4c (g := (mkF m 46 #[vR (a1), vI (cc)] [(.ref a1)])) rfl (by rw [hml]; rfl) (Steps.refl _) (argsL := []) (rest := []) (lenOf pd_13 rfl) rfl (by show 2 * 0 + _ ≤ _; exact Nat.le_of_eq rfl) (hb hby d53_46) (fun _ _ => ⟨rfl, e3, (by decide : 0 + 0 ≤ _), (by decide : 0 + 0 ≤ _)⟩)
  dsimp only [Pt.U, Pt.locs, Pt.cells, Pt.slots] at X4 l4 y4 z4 st4 hQ4
  subst l4 y4 z4
  obtain ⟨rfl, N4q, e4⟩ := hQ4
  have N4 := Fr.app N3 N4q
  obtain ⟨T5, X5, e5, st5⟩ := getF X4 hx hZ hown (host := "") (Or.inl (own_w hw 109 rfl)) Via.refl e4 F1 (g := (mkF m 57 #[vR (a1), vI (cc)] [(.ref a1)])) rfl rfl (hb hby d53_57)
  obtain ⟨T6, X6, e6, st6⟩ := getF X5 hx hZ hown (host := "") (Or.inl (own_w hw 155 rfl)) Via.refl e5 F3 (g := (mkF m 62 #[vR (a1), vI (cc)] [(.ref a1), (.ref a1), (.ref a2)])) rfl rfl (hb hby d53_62)
  obtain ⟨T7, h7, X7, e7, W7, st7⟩ := putF X6 hx hZ hown (host := "") (Or.inl (own_w hw 155 rfl)) Via.refl e6 F3 Ee (Or.inl (own_w hw 156 rfl)) (own_w hw 95 rfl) (ty := .int) (by decide) rfl rfl (g := (mkF m 68 #[vR (a1), vI (cc)] [(.int (out.length.toInt32 + (1 : Int32))), (.ref a1), (.int out.length.toInt32), (.ref a2)])) rfl rfl (hb hby d53_68)
  have f8 := Ee.wr W7
  have f9 := F1.other W7 (Or.inr (slot_ne (Or.inl (own_w hw 110 rfl)) (Or.inl (own_w hw 156 rfl)) (by decide) (t := (.array .byte)) (t' := .int) (by decide) (by decide)))
  have f10 := F4.other W7 (Or.inr (slot_ne (Or.inl (own_w hw 272 rfl)) (Or.inl (own_w hw 156 rfl)) (by decide) (t := .boolean) (t' := .int) (by decide) (by decide)))
  have f11 := F2.other W7 (Or.inr (slot_ne (Or.inl (own_w hw 112 rfl)) (Or.inl (own_w hw 156 rfl)) (by decide) (t := .byte) (t' := .int) (by decide) (by decide)))
  have f12 := Va.other W7 (Ne.symm hne)
  have O7 := O0.wr W7 (Nat.le_trans gf hfa)
  have K7 : Keep h0 h7 [a1, a2] := (Keep.refl h0 [a1, a2]).wr W7 (Or.inl (List.mem_of_getElem? (i := 0) rfl))
  have N7 := Fr.snoc X7 N4 (Nat.le_trans gf hfa)
  have f13 := F3.same W7
  obtain ⟨LL14, X14, N14⟩ : ∃ LL, Stand p l e (own_rm_ 6 1 8 89) s m #[(.ref a1), (.int cc)] below meth c T7 LL 0 0 ∧ Fr n0 LL := ⟨_, X7, N7⟩
  obtain ⟨_, _, ⟨T15, L15, k15, n15⟩, -, X15, ⟨Lc15, hQ15, l15, y15, z15⟩, st15⟩ := Jvm.LawKit.callS X14 hx (y := Y44_) hown (mvT hZ (own_w hw 268 rfl)) (mvT hZ (own_w hw 269 rfl)) (mvT hZ (own_w hw 77 rfl)) (mvT hZ (own_w hw 270 rfl)) (by decide) (backOf (W := 0) (r_psb l Z a0 hw [] cs1 fv h7 n0 O7 G0 a2 k2 cs out cc f12 (Nat.le_trans gf hfb) ho hn) hZ (own_w hw 270 rfl) (own_w hw 77 rfl) (by decide) (by decide)) (g := (mkF m 72 #[vR (a1), vI (cc)] [(.int cc), (.int out.length.toInt32), (.ref a2)])) rfl (by rw [hml]; rfl) (argsL := [(.ref a2), (.int out.length.toInt32), (.int cc)]) (rest := []) (lenOf pd_1 rfl) rfl (by show 2 * 0 + _ ≤ _; exact Nat.le_of_eq rfl) (hb hby d53_72) (fun _ _ => ⟨rfl, e7, (by decide : 0 + 0 ≤ _), (by decide : 0 + 0 ≤ _)⟩)
  dsimp only [Pt.U, Pt.locs, Pt.cells, Pt.slots] at X15 l15 y15 z15 st15 hQ15
  subst l15 y15 z15
  obtain ⟨rfl, N15q, Kq15, Vb15⟩ := hQ15
  have N15 := Fr.app N14 N15q
  have f16 := f8.keep Kq15
  have f17 := f9.keep Kq15 (fun q => (List.mem_cons.mp q).elim hne (fun q => nomatch q))
  have f18 := f13.keep Kq15 (fun q => (List.mem_cons.mp q).elim hne (fun q => nomatch q))
  have f19 := f10.keep Kq15 (fun q => (List.mem_cons.mp q).elim hne (fun q => nomatch q))
  have f20 := f11.keep Kq15 (fun q => (List.mem_cons.mp q).elim hne (fun q => nomatch q))
  have O15 := O7.keep Kq15 (allS (Nat.le_trans gf hfb) all0)
  have K15 : Keep h0 T15.heap [a1, a2] := K7.trans Kq15 (allS (Or.inl (List.mem_of_getElem? (i := 1) rfl)) all0)
  obtain ⟨fs, hr, hrun, hended, hW, hsame⟩ := X15.leave (v := some (.ref a1)) (fun h => by rw [Bd.returns] at h; cases h)
  refine ⟨_, _, pre0 _ ?_, hrun, hended, _, _, rfl, ?_, ⟨_, rfl⟩, hW, hsame.mono (by decide) (by decide)⟩
  · show own_St p e below s₁ m 0 #[vR (a1), vI (cc)] [] _
    refine XS.aloadN X0.here hx rfl (hb hby d53_0) rfl rfl ?_
    refine XS.aloadN X0.here hx rfl (hb hby d53_1) rfl rfl ?_
    show own_St p e below s₁ m 2 #[vR (a1), vI (cc)] [(.ref a1), (.ref a1)] _
    refine st1 _ ?_
    show own_St p e below T1 m 5 #[vR (a1), vI (cc)] [(.int out.length.toInt32), (.ref a1)] _
    refine XS.iconst X1.here hx rfl (hb hby d53_5) ?_
    refine XS.iadd X1.here hx rfl (hb hby d53_6) rfl ?_
    show own_St p e below T1 m 7 #[vR (a1), vI (cc)] [(.int (out.length.toInt32 + (1 : Int32))), (.ref a1)] _
    refine st2.trans ?_
    show own_St p e below T2 m 10 #[vR (a1), vI (cc)] [] _
    refine XS.aloadN X2.here hx rfl (hb hby d53_10) rfl rfl ?_
    show own_St p e below T2 m 11 #[vR (a1), vI (cc)] [(.ref a1)] _
    refine st3.trans ?_
    show own_St p e below T3 m 14 #[vR (a1), vI (cc)] [(.int (0 : Int32))] _
    refine XS.ifYes X3.here hx rfl (pc0 := 14) (pc' := 45) rfl (hb hby d53_14) rfl ((if0 _ _).trans (teq (by decide : (0 : Int32) = (0 : Int32))).1) (by decide) (by decide) ?_
    refine XS.aloadN X3.here hx rfl (hb hby d53_45) rfl rfl ?_
    show own_St p e below T3 m 46 #[vR (a1), vI (cc)] [(.ref a1)] _
    refine st4.trans ?_
    show own_St p e below T4 m 49 #[vR (a1), vI (cc)] [(.int (0 : Int32))] _
    refine XS.ifYes X4.here hx rfl (pc0 := 49) (pc' := 56) rfl (hb hby d53_49) rfl ((if0 _ _).trans (teq (by decide : (0 : Int32) = (0 : Int32))).1) (by decide) (by decide) ?_
    refine XS.aloadN X4.here hx rfl (hb hby d53_56) rfl rfl ?_
    show own_St p e below T4 m 57 #[vR (a1), vI (cc)] [(.ref a1)] _
    refine st5 _ ?_
    show own_St p e below T5 m 60 #[vR (a1), vI (cc)] [(.ref a2)] _
    refine XS.aloadN X5.here hx rfl (hb hby d53_60) rfl rfl ?_
    refine XS.dup X5.here hx rfl (hb hby d53_61) rfl rfl ?_
    show own_St p e below T5 m 62 #[vR (a1), vI (cc)] [(.ref a1), (.ref a1), (.ref a2)] _
    refine st6 _ ?_
    show own_St p e below T6 m 65 #[vR (a1), vI (cc)] [(.int out.length.toInt32), (.ref a1), (.ref a2)] _
    refine XS.dupX1 X6.here hx rfl (hb hby d53_65) rfl rfl rfl ?_
    show own_St p e below T6 m 66 #[vR (a1), vI (cc)] [(.int out.length.toInt32), (.ref a1), (.int out.length.toInt32), (.ref a2)] _
    refine XS.iconst X6.here hx rfl (hb hby d53_66) ?_
    refine XS.iadd X6.here hx rfl (hb hby d53_67) rfl ?_
    show own_St p e below T6 m 68 #[vR (a1), vI (cc)] [(.int (out.length.toInt32 + (1 : Int32))), (.ref a1), (.int out.length.toInt32), (.ref a2)] _
    refine st7 _ ?_
    show own_St p e below T7 m 71 #[vR (a1), vI (cc)] [(.int out.length.toInt32), (.ref a2)] _
    refine XS.iloadN X7.here hx rfl (hb hby d53_71) rfl ?_
    show own_St p e below T7 m 72 #[vR (a1), vI (cc)] [(.int cc), (.int out.length.toInt32), (.ref a2)] _
    refine st15 _ ?_
    show own_St p e below T15 m 75 #[vR (a1), vI (cc)] [] _
    refine XS.aloadN X15.here hx rfl (hb hby d53_75) rfl rfl ?_
    show own_St p e below T15 m 76 #[vR (a1), vI (cc)] [(.ref a1)] _
    exact retOut X15 hx Bd.returns rfl (Or.inr (Or.inr (Or.inr (Or.inr ⟨rfl, rfl, rfl⟩)))) (hb hby d53_76) hr
  · show own_QSB Z f0 a1 cs (out ++ [cc]) (some (.ref a1)) h0 n0 _ T15.heap _
    exact ⟨[a1, a2], rfl, N15, (allS hfa (allS hfb all0)), K15, a2, k2, hfa, hfb, hne, f16, f17, (by have q := f18; rw [own_lenapp (c := cc) hk9] at q; exact q), f19, Or.inr ⟨f20, Vb15⟩⟩
theorem r_ap (l : Launch) (Z : State) (a0 : Array Value) (hw : own_HW a0 Z) (ws : List Jvm.Cond) (cs1 : Int32) (fv : Value) (h0 : Heap) (n0 : Nat) (O0 : Old Z n0 h0) (G : own_Ctx Z Z.heap cs1 fv) (a1 : Addr) (f0 : Nat) (cs out : List Int32) (cc : Int32) (B : own_SB Z h0 f0 a1 cs out) (gf : n0 ≤ f0) (ho : out.length + 1 ≤ cs.length) (hn : cs.length ≤ 4) (hBo : own_Bd out) :
    own_M l Y45_ (head1 (Jvm.Cond.code Y45_ jdk_68_method_31_code 2 (some (.object "java/lang/AbstractStringBuilder")) :: ws) (own_rm_ 6 1 8 89)) #[(.ref a1), (.int cc)] Z h0 n0 (own_QSB Z f0 a1 cs (out ++ [cc]) (some (.ref a1))) (own_rm_ 6 1 8 89).cells (own_rm_ 6 1 8 89).slots := by
  obtain ⟨b, k, hfa, hfb, hne, Ee, F1, F3, F4, ⟨F2, hl, V⟩ | ⟨F2, V⟩⟩ := B
  · rcases Classical.em ((255 : Int32) < cc) with hc | hc
    · exact r_apLU l Z a0 hw ws cs1 fv h0 n0 O0 G a1 b k f0 cs out cc Ee F1 F3 F4 F2 V gf hfa hfb hne hn ho hBo hl hc
    · exact r_apLL l Z a0 hw ws cs1 fv h0 n0 O0 G a1 b k f0 cs out cc Ee F1 F3 F4 F2 V gf hfa hfb hne hn ho hl hc
  · exact r_apUU l Z a0 hw ws cs1 fv h0 n0 O0 G a1 b k f0 cs out cc Ee F1 F3 F4 F2 V gf hfa hfb hne hn ho
theorem d52_0 : D52_ 0 = .ok (.aload_n 0, 1) := by decide +kernel
theorem d52_1 : D52_ 1 = .ok (.iload_n 1, 1) := by decide +kernel
theorem d52_2 : D52_ 2 = .ok (.invokespecial 50, 3) := by decide +kernel
theorem pd_26 : parseMethodDescriptor "(C)Ljava/lang/AbstractStringBuilder;" = some ⟨[.char], some (.object "java/lang/AbstractStringBuilder")⟩ := by decide +kernel
theorem d52_5 : D52_ 5 = .ok (.pop, 1) := by decide +kernel
theorem d52_6 : D52_ 6 = .ok (.aload_n 0, 1) := by decide +kernel
theorem d52_7 : D52_ 7 = .ok (.areturn, 1) := by decide +kernel
theorem ef_52_49 (m : MethodId) (x0 : Addr) (x1 : Int32) : entryFrame m #[(.ref x0), (.int x1)] 2 = mkF m 0 #[vR (x0), vI (x1)] [] := by first | (simp [entryFrame, mkF, argsToLocals, Value.category]; done) | rfl
theorem r_app (l : Launch) (Z : State) (a0 : Array Value) (hw : own_HW a0 Z) (ws : List Jvm.Cond) (cs1 : Int32) (fv : Value) (h0 : Heap) (n0 : Nat) (O0 : Old Z n0 h0) (G : own_Ctx Z Z.heap cs1 fv) (a1 : Addr) (f0 : Nat) (cs out : List Int32) (cc : Int32) (B : own_SB Z h0 f0 a1 cs out) (gf : n0 ≤ f0) (ho : out.length + 1 ≤ cs.length) (hn : cs.length ≤ 4) (hBo : own_Bd out) :
    own_M l Y46_ (head1 (Jvm.Cond.code Y46_ jdk_67_method_14_code 2 (some (.object "java/lang/StringBuilder")) :: ws) (own_rm_ 7 1 8 102)) #[(.ref a1), (.int cc)] Z h0 n0 (own_QSB Z f0 a1 cs (out ++ [cc]) (some (.ref a1))) (own_rm_ 7 1 8 102).cells (own_rm_ 7 1 8 102).slots := by
  have G0 := G
  refine MetFree.of_bodySF (plainFor_of_name pn_5) hisR ?_
  intro p e s m args below meth c s₁ Bd hml0 hP hK
  obtain ⟨rfl, hZ, hh⟩ := hP
  have hx := Bd.exec
  have hby := Bd.bytes
  have hml : c.maxLocals = 2 := hml0
  have hown := findClass_of_methodNamed Bd.named
  have X0 : Stand p l e (own_rm_ 7 1 8 102) s m #[(.ref a1), (.int cc)] below meth c s₁ [] 0 0 := Stand.of_body Bd
  have e0 : s₁.heap = h0 := by rw [← hh, Bd.state]; rfl
  have N0 := Fr.nil n0
  have pre0 := own_pre (tb := p.tables) (e := e) (below := below) (T := s₁) (ef_52_49 m a1 cc)
  obtain ⟨_, _, ⟨T1, L1, k1, n1⟩, -, X1, ⟨Lc1, hQ1, l1, y1, z1⟩, st1⟩ := superBack X0 hx hZ (y := Y45_) hown (own_w hw 234 rfl) (own_sameM (y := Y45_) (z := Y47_) (own_w hw 235 rfl) rfl (own_w hw 144 rfl) (by decide)) (own_w hw 235 rfl) (own_w hw 153 rfl) (by decide) (backOf (W := 0) (r_ap l Z a0 hw [] cs1 fv h0 n0 O0 G0 a1 f0 cs out cc B gf ho hn hBo) hZ (own_w hw 237 rfl) (own_w hw 105 rfl) (by decide) (by decide)) e0 (Ins.self (own_SB_exa B)) (g := (mkF m 2 #[vR (a1), vI (cc)] [(.int cc), (.ref a1)])) rfl (by rw [hml]; rfl) (own_w hw 237 rfl) (argsL := [(.int cc)]) (rest := []) (lenOf pd_26 rfl) rfl (by show 2 * 0 + _ ≤ _; exact Nat.le_of_eq rfl) (hb hby d52_2) (fun _ _ => ⟨rfl, e0, (by decide : 0 + 1 ≤ _), (by decide : 0 + 8 ≤ _)⟩)
  dsimp only [Pt.U, Pt.locs, Pt.cells, Pt.slots] at X1 l1 y1 z1 st1 hQ1
  subst l1 y1 z1
  obtain ⟨ws1, rfl, N1q, hws1, Kq1, Bq1⟩ := hQ1
  have N1 := Fr.app N0 N1q
  have O1 := O0.keep Kq1 (fun x q => Nat.le_trans gf (hws1 x q))
  obtain ⟨fs, hr, hrun, hended, hW, hsame⟩ := X1.leave (v := some (.ref a1)) (fun h => by rw [Bd.returns] at h; cases h)
  refine ⟨_, _, pre0 _ ?_, hrun, hended, _, _, rfl, ?_, ⟨_, rfl⟩, hW, hsame.mono (by decide) (by decide)⟩
  · show own_St p e below s₁ m 0 #[vR (a1), vI (cc)] [] _
    refine XS.aloadN X0.here hx rfl (hb hby d52_0) rfl rfl ?_
    refine XS.iloadN X0.here hx rfl (hb hby d52_1) rfl ?_
    show own_St p e below s₁ m 2 #[vR (a1), vI (cc)] [(.int cc), (.ref a1)] _
    refine st1.trans ?_
    show own_St p e below T1 m 5 #[vR (a1), vI (cc)] [(.ref a1)] _
    refine XS.pop X1.here hx rfl (hb hby d52_5) rfl rfl ?_
    show own_St p e below T1 m 6 #[vR (a1), vI (cc)] [] _
    refine XS.aloadN X1.here hx rfl (hb hby d52_6) rfl rfl ?_
    show own_St p e below T1 m 7 #[vR (a1), vI (cc)] [(.ref a1)] _
    exact retOut X1 hx Bd.returns rfl (Or.inr (Or.inr (Or.inr (Or.inr ⟨rfl, rfl, rfl⟩)))) (hb hby d52_7) hr
  · show own_QSB Z f0 a1 cs (out ++ [cc]) (some (.ref a1)) h0 n0 _ T1.heap _
    exact ⟨ws1, rfl, N1, hws1, Kq1, Bq1⟩
theorem d37_0 : D37_ 0 = .ok (.iload_n 1, 1) := by decide +kernel
theorem d37_1 : D37_ 1 = .ok (.iload_n 0, 1) := by decide +kernel
theorem d37_2 : D37_ 2 = .ok (.if_icmp .ge 35, 3) := by decide +kernel
theorem d37_37 : D37_ 37 = .ok (.return_, 1) := by decide +kernel
theorem ef_37_50 (m : MethodId) (x0 : Int32) (x1 : Int32) : entryFrame m #[(.int x0), (.int x1)] 2 = mkF m 0 #[vI (x0), vI (x1)] [] := by first | (simp [entryFrame, mkF, argsToLocals, Value.category]; done) | rfl
theorem pn_6 : plainName "java/util/Arrays" = true := by first | (simp [plainName, overriddenIn]; done) | decide +kernel
theorem r_ckl (l : Launch) (Z : State) (a0 : Array Value) (hw : own_HW a0 Z) (ws : List Jvm.Cond) (cs1 : Int32) (fv : Value) (h0 : Heap) (n0 : Nat) (O0 : Old Z n0 h0) (G : own_Ctx Z Z.heap cs1 fv) (n : Nat) (hn : n ≤ 1000) :
    own_M l Y48_ (head1 (Jvm.Cond.code Y48_ jdk_65_method_131_code 2 none :: ws) (own_rm_ 0 0 0 0)) #[(.int (0 : Int32)), (.int n.toInt32)] Z h0 n0 (own_Q (none)) (own_rm_ 0 0 0 0).cells (own_rm_ 0 0 0 0).slots := by
  have G0 := G
  refine MetFree.of_bodySF (plainFor_of_name pn_6) hisR ?_
  intro p e s m args below meth c s₁ Bd hml0 hP hK
  obtain ⟨rfl, hZ, hh⟩ := hP
  have hx := Bd.exec
  have hby := Bd.bytes
  have hml : c.maxLocals = 2 := hml0
  have hown := findClass_of_methodNamed Bd.named
  have X0 : Stand p l e (own_rm_ 0 0 0 0) s m #[(.int (0 : Int32)), (.int n.toInt32)] below meth c s₁ [] 0 0 := Stand.of_body Bd
  have e0 : s₁.heap = h0 := by rw [← hh, Bd.state]; rfl
  have N0 := Fr.nil n0
  have pre0 := own_pre (tb := p.tables) (e := e) (below := below) (T := s₁) (ef_37_50 m (0 : Int32) n.toInt32)
  obtain ⟨fs, hr, hrun, hended, hW, hsame⟩ := X0.leave (v := none) (fun _ => rfl)
  refine ⟨_, _, pre0 _ ?_, hrun, hended, _, _, rfl, ?_, ⟨_, rfl⟩, hW, hsame.mono (by decide) (by decide)⟩
  · show own_St p e below s₁ m 0 #[vI ((0 : Int32)), vI (n.toInt32)] [] _
    refine XS.iloadN X0.here hx rfl (hb hby d37_0) rfl ?_
    refine XS.iloadN X0.here hx rfl (hb hby d37_1) rfl ?_
    refine XS.icmpYes X0.here hx rfl (pc0 := 2) (pc' := 37) rfl (hb hby d37_2) rfl (flt ((own_ti hn).2.1 : ¬ (n.toInt32 < (0 : Int32)))).2.1 (by decide) (by decide) ?_
    show own_St p e below s₁ m 37 #[vI ((0 : Int32)), vI (n.toInt32)] [] _
    exact X0.returnOut hx Bd.returns (hb hby d37_37) hr
  · show own_Q (none) h0 n0 _ s₁.heap _
    rw [e0]
    exact ⟨rfl, N0, rfl⟩
theorem d36_0 : D36_ 0 = .ok (.iload_n 1, 1) := by decide +kernel
theorem d36_1 : D36_ 1 = .ok (.iload_n 2, 1) := by decide +kernel
theorem d36_2 : D36_ 2 = .ok (.invokestatic 343, 3) := by decide +kernel
theorem d36_5 : D36_ 5 = .ok (.iload_n 2, 1) := by decide +kernel
theorem d36_6 : D36_ 6 = .ok (.iload_n 1, 1) := by decide +kernel
theorem d36_7 : D36_ 7 = .ok (.isub, 1) := by decide +kernel
theorem d36_8 : D36_ 8 = .ok (.istore_n 3, 1) := by decide +kernel
theorem d36_9 : D36_ 9 = .ok (.iload_n 3, 1) := by decide +kernel
theorem d36_10 : D36_ 10 = .ok (.newarray .byte, 2) := by decide +kernel
theorem d36_12 : D36_ 12 = .ok (.astore 4, 2) := by decide +kernel
theorem d36_14 : D36_ 14 = .ok (.aload_n 0, 1) := by decide +kernel
theorem d36_15 : D36_ 15 = .ok (.iload_n 1, 1) := by decide +kernel
theorem d36_16 : D36_ 16 = .ok (.aload 4, 2) := by decide +kernel
theorem d36_18 : D36_ 18 = .ok (.iconst 0, 1) := by decide +kernel
theorem d36_19 : D36_ 19 = .ok (.aload_n 0, 1) := by decide +kernel
theorem d36_20 : D36_ 20 = .ok (.arraylength, 1) := by decide +kernel
theorem d36_21 : D36_ 21 = .ok (.iload_n 1, 1) := by decide +kernel
theorem d36_22 : D36_ 22 = .ok (.isub, 1) := by decide +kernel
theorem d36_23 : D36_ 23 = .ok (.iload_n 3, 1) := by decide +kernel
theorem d36_24 : D36_ 24 = .ok (.invokestatic 304, 3) := by decide +kernel
theorem d36_27 : D36_ 27 = .ok (.invokestatic 150, 3) := by decide +kernel
theorem d36_30 : D36_ 30 = .ok (.aload 4, 2) := by decide +kernel
theorem d36_32 : D36_ 32 = .ok (.areturn, 1) := by decide +kernel
theorem ef_36_51 (m : MethodId) (x0 : Addr) (x1 : Int32) (x2 : Int32) : entryFrame m #[(.ref x0), (.int x1), (.int x2)] 5 = mkF m 0 #[vR (x0), vI (x1), vI (x2), .unset, .unset] [] := by first | (simp [entryFrame, mkF, argsToLocals, Value.category]; done) | rfl
theorem r_crb (l : Launch) (Z : State) (a0 : Array Value) (hw : own_HW a0 Z) (ws : List Jvm.Cond) (cs1 : Int32) (fv : Value) (h0 : Heap) (n0 : Nat) (O0 : Old Z n0 h0) (G : own_Ctx Z Z.heap cs1 fv) (a2 : Addr) (k2 : ClassId) (zn cn : Nat) (va_ vb_ : List Value) (Va : Arv Z h0 a2 k2 .byte zn.toInt32 (va_ ++ vb_) (.int (0 : Int32))) (hc : cn < zn) (hz : zn ≤ 8) (hl : va_.length = cn) :
    own_M l Y49_ (head1 (Jvm.Cond.code Y49_ jdk_65_method_133_code 5 (some (.array .byte)) :: ws) (own_rm_ 1 1 8 40)) #[(.ref a2), (.int (0 : Int32)), (.int cn.toInt32)] Z h0 n0 (own_QA Z .byte cn.toInt32 va_) (own_rm_ 1 1 8 40).cells (own_rm_ 1 1 8 40).slots := by
  have G0 := G
  refine MetFree.of_bodySF (plainFor_of_name pn_6) hisR ?_
  intro p e s m args below meth c s₁ Bd hml0 hP hK
  obtain ⟨rfl, hZ, hh⟩ := hP
  have hx := Bd.exec
  have hby := Bd.bytes
  have hml : c.maxLocals = 5 := hml0
  have hown := findClass_of_methodNamed Bd.named
  have X0 : Stand p l e (own_rm_ 1 1 8 40) s m #[(.ref a2), (.int (0 : Int32)), (.int cn.toInt32)] below meth c s₁ [] 0 0 := Stand.of_body Bd
  have e0 : s₁.heap = h0 := by rw [← hh, Bd.state]; rfl
  have N0 := Fr.nil n0
  have pre0 := own_pre (tb := p.tables) (e := e) (below := below) (T := s₁) (ef_36_51 m a2 (0 : Int32) cn.toInt32)
  have hk9 : cn ≤ 1000 := by omega
  have hz9 : zn ≤ 1000 := by omega
  obtain ⟨_, _, ⟨T1, L1, k1, n1⟩, -, X1, ⟨Lc1, hQ1, l1, y1, z1⟩, st1⟩ := Jvm.LawKit.callS X0 hx (y := Y48_) hown (mvT hZ (own_w hw 169 rfl)) (mvT hZ (own_w hw 170 rfl)) (mvT hZ (own_w hw 164 rfl)) (mvT hZ (own_w hw 171 rfl)) (by decide) (backOf (W := 0) (r_ckl l Z a0 hw [] cs1 fv h0 n0 O0 G0 cn hk9) hZ (own_w hw 171 rfl) (own_w hw 164 rfl) (by decide) (by decide)) (g := (mkF m 2 #[vR (a2), vI ((0 : Int32)), vI (cn.toInt32), .unset, .unset] [(.int cn.toInt32), (.int (0 : Int32))])) rfl (by rw [hml]; rfl) (argsL := [(.int (0 : Int32)), (.int cn.toInt32)]) (rest := []) (lenOf pd_5 rfl) rfl (by show 2 * 0 + _ ≤ _; exact Nat.le_of_eq rfl) (hb hby d36_2) (fun _ _ => ⟨rfl, e0, (by decide : 0 + 0 ≤ _), (by decide : 0 + 0 ≤ _)⟩)
  dsimp only [Pt.U, Pt.locs, Pt.cells, Pt.slots] at X1 l1 y1 z1 st1 hQ1
  subst l1 y1 z1
  obtain ⟨rfl, N1q, e1⟩ := hQ1
  have N1 := Fr.app N0 N1q
  obtain ⟨T2, h2, ka2, X2, e2, E2, A2, st2⟩ := newP X1 hx hZ (own_w hw 20 rfl) e1 (g := (mkF m 10 #[vR (a2), vI ((0 : Int32)), vI (cn.toInt32), vI (cn.toInt32), .unset] [(.int cn.toInt32)])) rfl (hb hby d36_10) rfl (own_ti hk9).2.1 (cap := 8) (by rw [(own_ti hk9).1]; omega) (by decide) (by decide) (by decide)
  obtain ⟨b2, g2⟩ : ∃ z, z = h0.size := ⟨_, rfl⟩
  have ne_a2_b2 : a2 ≠ b2 := Nat.ne_of_lt (Nat.lt_of_lt_of_le Va.lt (Nat.le_of_eq g2.symm))
  have g_b2 : n0 ≤ b2 := Nat.le_trans (O0.1 ▸ O0.2.1) (Nat.le_of_eq g2.symm)
  have sz_b2 : h0.size ≤ b2 := Nat.le_trans (Keep.refl h0 []).1 (Nat.le_of_eq g2.symm)
  rw [← g2] at A2 st2
  have f3 := Va.ext E2
  have O2 := O0.ext E2
  have K2 : Keep h0 h2 [] := (Keep.refl h0 []).ext E2
  have V2 : Arv Z h2 b2 ka2 .byte cn.toInt32 (List.replicate cn (.int (0 : Int32))) (.int (0 : Int32)) := (Arv.new A2 (own_ti hk9).2.1).pad (pad_rep [] (.int (0 : Int32)) cn)
  have vc4 := f3
  obtain ⟨cl4, Ar4, qk4, S4, Nn4, Hs4, Gf4⟩ := vc4
  obtain ⟨_, _, ⟨T5, L5, k5, n5⟩, -, X5, ⟨Lc5, hQ5, l5, y5, z5⟩, st5⟩ := Jvm.LawKit.callS X2 hx (y := Y20_) hown (mvT hZ (own_w hw 172 rfl)) (mvT hZ (own_w hw 69 rfl)) (mvT hZ (own_w hw 66 rfl)) (mvT hZ (own_w hw 70 rfl)) (by decide) (backOf (W := 4) (r_minB l Z a0 hw [] cs1 fv h2 n0 O2 G0 zn.toInt32 cn.toInt32 (own_tl hc hz9)) hZ (own_w hw 70 rfl) (own_w hw 66 rfl) (by decide) (by decide)) (g := (mkF m 24 #[vR (a2), vI ((0 : Int32)), vI (cn.toInt32), vI (cn.toInt32), vR (b2)] [(.int cn.toInt32), (.int zn.toInt32), (.int (0 : Int32)), (.ref b2), (.int (0 : Int32)), (.ref a2)])) rfl (by rw [hml]; rfl) (argsL := [(.int zn.toInt32), (.int cn.toInt32)]) (rest := [(.int (0 : Int32)), (.ref b2), (.int (0 : Int32)), (.ref a2)]) (lenOf pd_20 rfl) rfl (by show 2 * 0 + _ ≤ _; exact Nat.le_of_eq rfl) (hb hby d36_24) (fun _ _ => ⟨rfl, e2, (by decide : 1 + 0 ≤ _), (by decide : 8 + 0 ≤ _)⟩)
  dsimp only [Pt.U, Pt.locs, Pt.cells, Pt.slots] at X5 l5 y5 z5 st5 hQ5
  subst l5 y5 z5
  obtain ⟨rfl, N5q, e5⟩ := hQ5
  have N5 := Fr.app N1 N5q
  obtain ⟨T6, h6, L6, X6, e6, N6, Kc6, Vc6, st6⟩ := cpA X5 hx hZ hown (own_w hw 173 rfl) (own_w hw 176 rfl) (own_w hw 174 rfl) (own_w hw 175 rfl) e5 f3 V2 (Or.inl ⟨rfl, rfl⟩) (by decide) (by decide) (own_ti hk9).2.1 (own_cp4 (Nat.le_of_lt hc) hz9) (own_cp4 (Nat.le_refl _) hk9) rfl (own_cp5 hk9) N5 g_b2 (g := (mkF m 27 #[vR (a2), vI ((0 : Int32)), vI (cn.toInt32), vI (cn.toInt32), vR (b2)] [(.int cn.toInt32), (.int (0 : Int32)), (.ref b2), (.int (0 : Int32)), (.ref a2)])) rfl (by rw [hml]; rfl) rfl (hb hby d36_27) (by decide) (W := 0) (by show 2 * 0 + _ ≤ _; exact Nat.le_of_eq rfl) (by decide)
  have f7 := f3.keep Kc6 (fun q => (List.mem_cons.mp q).elim ne_a2_b2 (fun q => nomatch q))
  have O6 := O2.keep Kc6 (allS g_b2 all0)
  have K6 : Keep h0 h6 [] := K2.trans Kc6 (allS (Or.inr sz_b2) all0)
  have f8 : Arv Z h6 b2 ka2 .byte cn.toInt32 va_ (.int (0 : Int32)) := (by have q := Vc6; rw [(own_ti hk9).1, own_cp hl (List.length_replicate)] at q; exact q)
  obtain ⟨fs, hr, hrun, hended, hW, hsame⟩ := X6.leave (v := some (.ref b2)) (fun h => by rw [Bd.returns] at h; cases h)
  refine ⟨_, _, pre0 _ ?_, hrun, hended, _, _, rfl, ?_, ⟨_, rfl⟩, hW, hsame.mono (by decide) (by decide)⟩
  · show own_St p e below s₁ m 0 #[vR (a2), vI ((0 : Int32)), vI (cn.toInt32), .unset, .unset] [] _
    refine XS.iloadN X0.here hx rfl (hb hby d36_0) rfl ?_
    refine XS.iloadN X0.here hx rfl (hb hby d36_1) rfl ?_
    show own_St p e below s₁ m 2 #[vR (a2), vI ((0 : Int32)), vI (cn.toInt32), .unset, .unset] [(.int cn.toInt32), (.int (0 : Int32))] _
    refine st1 _ ?_
    show own_St p e below T1 m 5 #[vR (a2), vI ((0 : Int32)), vI (cn.toInt32), .unset, .unset] [] _
    refine XS.iloadN X1.here hx rfl (hb hby d36_5) rfl ?_
    refine XS.iloadN X1.here hx rfl (hb hby d36_6) rfl ?_
    refine XS.isub X1.here hx rfl (hb hby d36_7) rfl ?_
    show own_St p e below T1 m 8 #[vR (a2), vI ((0 : Int32)), vI (cn.toInt32), .unset, .unset] [(.int (cn.toInt32 - (0 : Int32)))] _
    rw [own_sub0]
    refine XS.istoreN X1.here hx rfl (hb hby d36_8) rfl (l' := #[vR (a2), vI ((0 : Int32)), vI (cn.toInt32), vI (cn.toInt32), .unset]) rfl ?_
    refine XS.iloadN X1.here hx rfl (hb hby d36_9) rfl ?_
    show own_St p e below T1 m 10 #[vR (a2), vI ((0 : Int32)), vI (cn.toInt32), vI (cn.toInt32), .unset] [(.int cn.toInt32)] _
    refine st2 _ ?_
    show own_St p e below T2 m 12 #[vR (a2), vI ((0 : Int32)), vI (cn.toInt32), vI (cn.toInt32), .unset] [(.ref b2)] _
    refine XS.astore X2.here hx rfl (hb hby d36_12) rfl rfl (l' := #[vR (a2), vI ((0 : Int32)), vI (cn.toInt32), vI (cn.toInt32), vR (b2)]) rfl ?_
    refine XS.aloadN X2.here hx rfl (hb hby d36_14) rfl rfl ?_
    refine XS.iloadN X2.here hx rfl (hb hby d36_15) rfl ?_
    refine XS.aload X2.here hx rfl (hb hby d36_16) rfl rfl ?_
    refine XS.iconst X2.here hx rfl (hb hby d36_18) ?_
    refine XS.aloadN X2.here hx rfl (hb hby d36_19) rfl rfl ?_
    show own_St p e below T2 m 20 #[vR (a2), vI ((0 : Int32)), vI (cn.toInt32), vI (cn.toInt32), vR (b2)] [(.ref a2), (.int (0 : Int32)), (.ref b2), (.int (0 : Int32)), (.ref a2)] _
    refine X2.arraylength hx (by rw [e2]; exact Ar4.1) (State.isArrayOf_alike hZ.alike Ar4.2.1) (g := (mkF m 20 #[vR (a2), vI ((0 : Int32)), vI (cn.toInt32), vI (cn.toInt32), vR (b2)] [(.ref a2), (.int (0 : Int32)), (.ref b2), (.int (0 : Int32)), (.ref a2)])) rfl rfl (hb hby d36_20) _ ?_
    rw [len_of S4 Nn4]
    show own_St p e below T2 m 21 #[vR (a2), vI ((0 : Int32)), vI (cn.toInt32), vI (cn.toInt32), vR (b2)] [(.int zn.toInt32), (.int (0 : Int32)), (.ref b2), (.int (0 : Int32)), (.ref a2)] _
    refine XS.iloadN X2.here hx rfl (hb hby d36_21) rfl ?_
    refine XS.isub X2.here hx rfl (hb hby d36_22) rfl ?_
    show own_St p e below T2 m 23 #[vR (a2), vI ((0 : Int32)), vI (cn.toInt32), vI (cn.toInt32), vR (b2)] [(.int (zn.toInt32 - (0 : Int32))), (.int (0 : Int32)), (.ref b2), (.int (0 : Int32)), (.ref a2)] _
    rw [own_sub0]
    refine XS.iloadN X2.here hx rfl (hb hby d36_23) rfl ?_
    show own_St p e below T2 m 24 #[vR (a2), vI ((0 : Int32)), vI (cn.toInt32), vI (cn.toInt32), vR (b2)] [(.int cn.toInt32), (.int zn.toInt32), (.int (0 : Int32)), (.ref b2), (.int (0 : Int32)), (.ref a2)] _
    refine st5 _ ?_
    show own_St p e below T5 m 27 #[vR (a2), vI ((0 : Int32)), vI (cn.toInt32), vI (cn.toInt32), vR (b2)] [(.int cn.toInt32), (.int (0 : Int32)), (.ref b2), (.int (0 : Int32)), (.ref a2)] _
    refine st6 _ ?_
    show own_St p e below T6 m 30 #[vR (a2), vI ((0 : Int32)), vI (cn.toInt32), vI (cn.toInt32), vR (b2)] [] _
    refine XS.aload X6.here hx rfl (hb hby d36_30) rfl rfl ?_
    show own_St p e below T6 m 32 #[vR (a2), vI ((0 : Int32)), vI (cn.toInt32), vI (cn.toInt32), vR (b2)] [(.ref b2)] _
    exact retOut X6 hx Bd.returns rfl (Or.inr (Or.inr (Or.inr (Or.inr ⟨rfl, rfl, rfl⟩)))) (hb hby d36_32) hr
  · show own_QA Z .byte cn.toInt32 va_ h0 n0 _ T6.heap _
    rw [e6]
    exact ⟨b2, ka2, rfl, N6, K6, sz_b2, f8⟩
theorem d35_0 : D35_ 0 = .ok (.iload_n 1, 1) := by decide +kernel
theorem d35_1 : D35_ 1 = .ok (.ifCond .ne 9, 3) := by decide +kernel
theorem d35_4 : D35_ 4 = .ok (.iload_n 2, 1) := by decide +kernel
theorem d35_5 : D35_ 5 = .ok (.aload_n 0, 1) := by decide +kernel
theorem d35_6 : D35_ 6 = .ok (.arraylength, 1) := by decide +kernel
theorem d35_7 : D35_ 7 = .ok (.if_icmp .eq 10, 3) := by decide +kernel
theorem d35_10 : D35_ 10 = .ok (.aload_n 0, 1) := by decide +kernel
theorem d35_11 : D35_ 11 = .ok (.iload_n 1, 1) := by decide +kernel
theorem d35_12 : D35_ 12 = .ok (.iload_n 2, 1) := by decide +kernel
theorem d35_13 : D35_ 13 = .ok (.invokestatic 339, 3) := by decide +kernel
theorem pd_27 : parseMethodDescriptor "([BII)[B" = some ⟨[(.array .byte), .int, .int], some (.array .byte)⟩ := by decide +kernel
theorem d35_16 : D35_ 16 = .ok (.areturn, 1) := by decide +kernel
theorem ef_35_52 (m : MethodId) (x0 : Addr) (x1 : Int32) (x2 : Int32) : entryFrame m #[(.ref x0), (.int x1), (.int x2)] 3 = mkF m 0 #[vR (x0), vI (x1), vI (x2)] [] := by first | (simp [entryFrame, mkF, argsToLocals, Value.category]; done) | rfl
theorem r_cr (l : Launch) (Z : State) (a0 : Array Value) (hw : own_HW a0 Z) (ws : List Jvm.Cond) (cs1 : Int32) (fv : Value) (h0 : Heap) (n0 : Nat) (O0 : Old Z n0 h0) (G : own_Ctx Z Z.heap cs1 fv) (a2 : Addr) (k2 : ClassId) (zn cn : Nat) (va_ vb_ : List Value) (Va : Arv Z h0 a2 k2 .byte zn.toInt32 (va_ ++ vb_) (.int (0 : Int32))) (hc : cn < zn) (hz : zn ≤ 8) (hl : va_.length = cn) :
    own_M l Y50_ (head1 (Jvm.Cond.code Y50_ jdk_65_method_132_code 3 (some (.array .byte)) :: ws) (own_rm_ 2 1 8 56)) #[(.ref a2), (.int (0 : Int32)), (.int cn.toInt32)] Z h0 n0 (own_QA Z .byte cn.toInt32 va_) (own_rm_ 2 1 8 56).cells (own_rm_ 2 1 8 56).slots := by
  have G0 := G
  refine MetFree.of_bodySF (plainFor_of_name pn_6) hisR ?_
  intro p e s m args below meth c s₁ Bd hml0 hP hK
  obtain ⟨rfl, hZ, hh⟩ := hP
  have hx := Bd.exec
  have hby := Bd.bytes
  have hml : c.maxLocals = 3 := hml0
  have hown := findClass_of_methodNamed Bd.named
  have X0 : Stand p l e (own_rm_ 2 1 8 56) s m #[(.ref a2), (.int (0 : Int32)), (.int cn.toInt32)] below meth c s₁ [] 0 0 := Stand.of_body Bd
  have e0 : s₁.heap = h0 := by rw [← hh, Bd.state]; rfl
  have N0 := Fr.nil n0
  have pre0 := own_pre (tb := p.tables) (e := e) (below := below) (T := s₁) (ef_35_52 m a2 (0 : Int32) cn.toInt32)
  have vc1 := Va
  obtain ⟨cl1, Ar1, qk1, S1, Nn1, Hs1, Gf1⟩ := vc1
  obtain ⟨_, _, ⟨T2, L2, k2, n2⟩, -, X2, ⟨Lc2, hQ2, l2, y2, z2⟩, st2⟩ := Jvm.LawKit.callS X0 hx (y := Y49_) hown (mvT hZ (own_w hw 166 rfl)) (mvT hZ (own_w hw 167 rfl)) (mvT hZ (own_w hw 164 rfl)) (mvT hZ (own_w hw 168 rfl)) (by decide) (backOf (W := 0) (r_crb l Z a0 hw [] cs1 fv h0 n0 O0 G0 a2 k2 zn cn va_ vb_ Va hc hz hl) hZ (own_w hw 168 rfl) (own_w hw 164 rfl) (by decide) (by decide)) (g := (mkF m 13 #[vR (a2), vI ((0 : Int32)), vI (cn.toInt32)] [(.int cn.toInt32), (.int (0 : Int32)), (.ref a2)])) rfl (by rw [hml]; rfl) (argsL := [(.ref a2), (.int (0 : Int32)), (.int cn.toInt32)]) (rest := []) (lenOf pd_27 rfl) rfl (by show 2 * 0 + _ ≤ _; exact Nat.le_of_eq rfl) (hb hby d35_13) (fun _ _ => ⟨rfl, e0, (by decide : 0 + 1 ≤ _), (by decide : 0 + 8 ≤ _)⟩)
  dsimp only [Pt.U, Pt.locs, Pt.cells, Pt.slots] at X2 l2 y2 z2 st2 hQ2
  subst l2 y2 z2
  obtain ⟨t2, kt2, rfl, N2q, Kq2, gt2, Vt2⟩ := hQ2
  have N2 := Fr.app N0 N2q
  have ne_a2_t2 : a2 ≠ t2 := Nat.ne_of_lt (Nat.lt_of_lt_of_le Va.lt gt2)
  have g_t2 : n0 ≤ t2 := Nat.le_trans (O0.1 ▸ O0.2.1) gt2
  have sz_t2 : h0.size ≤ t2 := Nat.le_trans (Keep.refl h0 []).1 gt2
  have f3 := Va.keep Kq2 (fun q => nomatch q)
  have O2 := O0.keep Kq2 all0
  have K2 : Keep h0 T2.heap [] := (Keep.refl h0 []).trans Kq2 all0
  obtain ⟨fs, hr, hrun, hended, hW, hsame⟩ := X2.leave (v := some (.ref t2)) (fun h => by rw [Bd.returns] at h; cases h)
  refine ⟨_, _, pre0 _ ?_, hrun, hended, _, _, rfl, ?_, ⟨_, rfl⟩, hW, hsame.mono (by decide) (by decide)⟩
  · show own_St p e below s₁ m 0 #[vR (a2), vI ((0 : Int32)), vI (cn.toInt32)] [] _
    refine XS.iloadN X0.here hx rfl (hb hby d35_0) rfl ?_
    refine XS.ifNo X0.here hx rfl (hb hby d35_1) rfl ((if0 _ _).trans (teq (by decide : (0 : Int32) = (0 : Int32))).2) ?_
    refine XS.iloadN X0.here hx rfl (hb hby d35_4) rfl ?_
    refine XS.aloadN X0.here hx rfl (hb hby d35_5) rfl rfl ?_
    show own_St p e below s₁ m 6 #[vR (a2), vI ((0 : Int32)), vI (cn.toInt32)] [(.ref a2), (.int cn.toInt32)] _
    refine X0.arraylength hx (by rw [e0]; exact Ar1.1) (State.isArrayOf_alike hZ.alike Ar1.2.1) (g := (mkF m 6 #[vR (a2), vI ((0 : Int32)), vI (cn.toInt32)] [(.ref a2), (.int cn.toInt32)])) rfl rfl (hb hby d35_6) _ ?_
    rw [len_of S1 Nn1]
    show own_St p e below s₁ m 7 #[vR (a2), vI ((0 : Int32)), vI (cn.toInt32)] [(.int zn.toInt32), (.int cn.toInt32)] _
    refine XS.icmpNo X0.here hx rfl (hb hby d35_7) rfl (feq (own_nei hc (by omega) : ¬ (cn.toInt32 = zn.toInt32))).1 ?_
    refine XS.aloadN X0.here hx rfl (hb hby d35_10) rfl rfl ?_
    refine XS.iloadN X0.here hx rfl (hb hby d35_11) rfl ?_
    refine XS.iloadN X0.here hx rfl (hb hby d35_12) rfl ?_
    show own_St p e below s₁ m 13 #[vR (a2), vI ((0 : Int32)), vI (cn.toInt32)] [(.int cn.toInt32), (.int (0 : Int32)), (.ref a2)] _
    refine st2 _ ?_
    show own_St p e below T2 m 16 #[vR (a2), vI ((0 : Int32)), vI (cn.toInt32)] [(.ref t2)] _
    exact retOut X2 hx Bd.returns rfl (Or.inr (Or.inr (Or.inr (Or.inr ⟨rfl, rfl, rfl⟩)))) (hb hby d35_16) hr
  · show own_QA Z .byte cn.toInt32 va_ h0 n0 _ T2.heap _
    exact ⟨t2, kt2, rfl, N2, K2, sz_t2, Vt2⟩
theorem d33_0 : D33_ 0 = .ok (.aload_n 0, 1) := by decide +kernel
theorem d33_1 : D33_ 1 = .ok (.getfield 79, 3) := by decide +kernel
theorem d33_4 : D33_ 4 = .ok (.ireturn, 1) := by decide +kernel
theorem ef_33_53 (m : MethodId) (x0 : Addr) : entryFrame m #[(.ref x0)] 1 = mkF m 0 #[vR (x0)] [] := by first | (simp [entryFrame, mkF, argsToLocals, Value.category]; done) | rfl
theorem r_la (l : Launch) (Z : State) (a0 : Array Value) (hw : own_HW a0 Z) (ws : List Jvm.Cond) (cs1 : Int32) (fv : Value) (h0 : Heap) (n0 : Nat) (O0 : Old Z n0 h0) (G : own_Ctx Z Z.heap cs1 fv) (a1 : Addr) (z1 : Int32) (F3 : Fld Z h0 a1 "java/lang/AbstractStringBuilder" "count" "I" (.int z1)) :
    own_M l Y51_ (head1 (Jvm.Cond.code Y51_ jdk_68_method_6_code 1 (some .int) :: ws) (own_rm_ 0 0 0 0)) #[(.ref a1)] Z h0 n0 (own_Q (some (.int z1))) (own_rm_ 0 0 0 0).cells (own_rm_ 0 0 0 0).slots := by
  have G0 := G
  refine MetFree.of_bodySF (plainFor_of_name pn_4) hisR ?_
  intro p e s m args below meth c s₁ Bd hml0 hP hK
  obtain ⟨rfl, hZ, hh⟩ := hP
  have hx := Bd.exec
  have hby := Bd.bytes
  have hml : c.maxLocals = 1 := hml0
  have hown := findClass_of_methodNamed Bd.named
  have X0 : Stand p l e (own_rm_ 0 0 0 0) s m #[(.ref a1)] below meth c s₁ [] 0 0 := Stand.of_body Bd
  have e0 : s₁.heap = h0 := by rw [← hh, Bd.state]; rfl
  have N0 := Fr.nil n0
  have pre0 := own_pre (tb := p.tables) (e := e) (below := below) (T := s₁) (ef_33_53 m a1)
  obtain ⟨T1, X1, e1, st1⟩ := getF X0 hx hZ hown (host := "") (Or.inl (own_w hw 155 rfl)) Via.refl e0 F3 (g := (mkF m 1 #[vR (a1)] [(.ref a1)])) rfl rfl (hb hby d33_1)
  obtain ⟨fs, hr, hrun, hended, hW, hsame⟩ := X1.leave (v := some (.int z1)) (fun h => by rw [Bd.returns] at h; cases h)
  refine ⟨_, _, pre0 _ ?_, hrun, hended, _, _, rfl, ?_, ⟨_, rfl⟩, hW, hsame.mono (by decide) (by decide)⟩
  · show own_St p e below s₁ m 0 #[vR (a1)] [] _
    refine XS.aloadN X0.here hx rfl (hb hby d33_0) rfl rfl ?_
    show own_St p e below s₁ m 1 #[vR (a1)] [(.ref a1)] _
    refine st1 _ ?_
    show own_St p e below T1 m 4 #[vR (a1)] [(.int z1)] _
    exact retI X1 hx Bd.returns (hb hby d33_4) hr
  · show own_Q (some (.int z1)) h0 n0 _ T1.heap _
    rw [e1]
    exact ⟨rfl, N0, rfl⟩
theorem d32_0 : D32_ 0 = .ok (.aload_n 0, 1) := by decide +kernel
theorem d32_1 : D32_ 1 = .ok (.invokespecial 343, 3) := by decide +kernel
theorem d32_4 : D32_ 4 = .ok (.ireturn, 1) := by decide +kernel
theorem ef_32_54 (m : MethodId) (x0 : Addr) : entryFrame m #[(.ref x0)] 1 = mkF m 0 #[vR (x0)] [] := by first | (simp [entryFrame, mkF, argsToLocals, Value.category]; done) | rfl
theorem r_lb (l : Launch) (Z : State) (a0 : Array Value) (hw : own_HW a0 Z) (ws : List Jvm.Cond) (cs1 : Int32) (fv : Value) (h0 : Heap) (n0 : Nat) (O0 : Old Z n0 h0) (G : own_Ctx Z Z.heap cs1 fv) (a1 : Addr) (z1 : Int32) (Ee : Exa Z h0 a1 "java/lang/StringBuilder") (F3 : Fld Z h0 a1 "java/lang/AbstractStringBuilder" "count" "I" (.int z1)) :
    own_M l Y52_ (head1 (Jvm.Cond.code Y52_ jdk_67_method_93_code 1 (some .int) :: ws) (own_rm_ 1 0 0 12)) #[(.ref a1)] Z h0 n0 (own_Q (some (.int z1))) (own_rm_ 1 0 0 12).cells (own_rm_ 1 0 0 12).slots := by
  have G0 := G
  refine MetFree.of_bodySF (plainFor_of_name pn_5) hisR ?_
  intro p e s m args below meth c s₁ Bd hml0 hP hK
  obtain ⟨rfl, hZ, hh⟩ := hP
  have hx := Bd.exec
  have hby := Bd.bytes
  have hml : c.maxLocals = 1 := hml0
  have hown := findClass_of_methodNamed Bd.named
  have X0 : Stand p l e (own_rm_ 1 0 0 12) s m #[(.ref a1)] below meth c s₁ [] 0 0 := Stand.of_body Bd
  have e0 : s₁.heap = h0 := by rw [← hh, Bd.state]; rfl
  have N0 := Fr.nil n0
  have pre0 := own_pre (tb := p.tables) (e := e) (below := below) (T := s₁) (ef_32_54 m a1)
  obtain ⟨_, _, ⟨T1, L1, k1, n1⟩, -, X1, ⟨Lc1, hQ1, l1, y1, z1⟩, st1⟩ := superBack X0 hx hZ (y := Y51_) hown (own_w hw 152 rfl) (own_sameM (y := Y51_) (z := Y47_) (own_w hw 148 rfl) rfl (own_w hw 144 rfl) (by decide)) (own_w hw 148 rfl) (own_w hw 153 rfl) (by decide) (backOf (W := 0) (r_la l Z a0 hw [] cs1 fv h0 n0 O0 G0 a1 z1 F3) hZ (own_w hw 154 rfl) (own_w hw 105 rfl) (by decide) (by decide)) e0 (Ins.self Ee) (g := (mkF m 1 #[vR (a1)] [(.ref a1)])) rfl (by rw [hml]; rfl) (own_w hw 154 rfl) (argsL := []) (rest := []) (lenOf pd_21 rfl) rfl (by show 2 * 0 + _ ≤ _; exact Nat.le_of_eq rfl) (hb hby d32_1) (fun _ _ => ⟨rfl, e0, (by decide : 0 + 0 ≤ _), (by decide : 0 + 0 ≤ _)⟩)
  dsimp only [Pt.U, Pt.locs, Pt.cells, Pt.slots] at X1 l1 y1 z1 st1 hQ1
  subst l1 y1 z1
  obtain ⟨rfl, N1q, e1⟩ := hQ1
  have N1 := Fr.app N0 N1q
  obtain ⟨fs, hr, hrun, hended, hW, hsame⟩ := X1.leave (v := some (.int z1)) (fun h => by rw [Bd.returns] at h; cases h)
  refine ⟨_, _, pre0 _ ?_, hrun, hended, _, _, rfl, ?_, ⟨_, rfl⟩, hW, hsame.mono (by decide) (by decide)⟩
  · show own_St p e below s₁ m 0 #[vR (a1)] [] _
    refine XS.aloadN X0.here hx rfl (hb hby d32_0) rfl rfl ?_
    show own_St p e below s₁ m 1 #[vR (a1)] [(.ref a1)] _
    refine st1.trans ?_
    show own_St p e below T1 m 4 #[vR (a1)] [(.int z1)] _
    exact retI X1 hx Bd.returns (hb hby d32_4) hr
  · show own_Q (some (.int z1)) h0 n0 _ T1.heap _
    rw [e1]
    exact ⟨rfl, N1, rfl⟩
theorem d31_0 : D31_ 0 = .ok (.aload_n 0, 1) := by decide +kernel
theorem d31_1 : D31_ 1 = .ok (.getfield 15, 3) := by decide +kernel
theorem d31_4 : D31_ 4 = .ok (.areturn, 1) := by decide +kernel
theorem ef_31_55 (m : MethodId) (x0 : Addr) : entryFrame m #[(.ref x0)] 1 = mkF m 0 #[vR (x0)] [] := by first | (simp [entryFrame, mkF, argsToLocals, Value.category]; done) | rfl
theorem r_gv (l : Launch) (Z : State) (a0 : Array Value) (hw : own_HW a0 Z) (ws : List Jvm.Cond) (cs1 : Int32) (fv : Value) (h0 : Heap) (n0 : Nat) (O0 : Old Z n0 h0) (G : own_Ctx Z Z.heap cs1 fv) (a1 a2 : Addr) (F1 : Fld Z h0 a1 "java/lang/AbstractStringBuilder" "value" "[B" (.ref a2)) :
    own_M l Y47_ (head1 (Jvm.Cond.code Y47_ jdk_68_method_64_code 1 (some (.array .byte)) :: ws) (own_rm_ 0 0 0 0)) #[(.ref a1)] Z h0 n0 (own_Q (some (.ref a2))) (own_rm_ 0 0 0 0).cells (own_rm_ 0 0 0 0).slots := by
  have G0 := G
  refine MetFree.of_bodySF (plainFor_of_name pn_4) hisR ?_
  intro p e s m args below meth c s₁ Bd hml0 hP hK
  obtain ⟨rfl, hZ, hh⟩ := hP
  have hx := Bd.exec
  have hby := Bd.bytes
  have hml : c.maxLocals = 1 := hml0
  have hown := findClass_of_methodNamed Bd.named
  have X0 : Stand p l e (own_rm_ 0 0 0 0) s m #[(.ref a1)] below meth c s₁ [] 0 0 := Stand.of_body Bd
  have e0 : s₁.heap = h0 := by rw [← hh, Bd.state]; rfl
  have N0 := Fr.nil n0
  have pre0 := own_pre (tb := p.tables) (e := e) (below := below) (T := s₁) (ef_31_55 m a1)
  obtain ⟨T1, X1, e1, st1⟩ := getF X0 hx hZ hown (host := "") (Or.inl (own_w hw 109 rfl)) Via.refl e0 F1 (g := (mkF m 1 #[vR (a1)] [(.ref a1)])) rfl rfl (hb hby d31_1)
  obtain ⟨fs, hr, hrun, hended, hW, hsame⟩ := X1.leave (v := some (.ref a2)) (fun h => by rw [Bd.returns] at h; cases h)
  refine ⟨_, _, pre0 _ ?_, hrun, hended, _, _, rfl, ?_, ⟨_, rfl⟩, hW, hsame.mono (by decide) (by decide)⟩
  · show own_St p e below s₁ m 0 #[vR (a1)] [] _
    refine XS.aloadN X0.here hx rfl (hb hby d31_0) rfl rfl ?_
    show own_St p e below s₁ m 1 #[vR (a1)] [(.ref a1)] _
    refine st1 _ ?_
    show own_St p e below T1 m 4 #[vR (a1)] [(.ref a2)] _
    exact retOut X1 hx Bd.returns rfl (Or.inr (Or.inr (Or.inr (Or.inr ⟨rfl, rfl, rfl⟩)))) (hb hby d31_4) hr
  · show own_Q (some (.ref a2)) h0 n0 _ T1.heap _
    rw [e1]
    exact ⟨rfl, N0, rfl⟩
theorem d30_0 : D30_ 0 = .ok (.aload_n 0, 1) := by decide +kernel
theorem d30_1 : D30_ 1 = .ok (.invokespecial 1, 3) := by decide +kernel
theorem d30_4 : D30_ 4 = .ok (.aload_n 1, 1) := by decide +kernel
theorem d30_5 : D30_ 5 = .ok (.invokevirtual 552, 3) := by decide +kernel
theorem pd_28 : parseMethodDescriptor "()[B" = some ⟨[], some (.array .byte)⟩ := by decide +kernel
theorem d30_8 : D30_ 8 = .ok (.astore_n 3, 1) := by decide +kernel
theorem d30_9 : D30_ 9 = .ok (.aload_n 1, 1) := by decide +kernel
theorem d30_10 : D30_ 10 = .ok (.invokevirtual 549, 3) := by decide +kernel
theorem d30_13 : D30_ 13 = .ok (.istore 4, 2) := by decide +kernel
theorem d30_15 : D30_ 15 = .ok (.aload_n 1, 1) := by decide +kernel
theorem d30_16 : D30_ 16 = .ok (.invokevirtual 1047, 3) := by decide +kernel
theorem d30_19 : D30_ 19 = .ok (.ifCond .eq 22, 3) := by decide +kernel
theorem d30_22 : D30_ 22 = .ok (.aload_n 0, 1) := by decide +kernel
theorem d30_23 : D30_ 23 = .ok (.iconst 0, 1) := by decide +kernel
theorem d30_24 : D30_ 24 = .ok (.putfield 15, 3) := by decide +kernel
theorem d30_27 : D30_ 27 = .ok (.aload_n 0, 1) := by decide +kernel
theorem d30_28 : D30_ 28 = .ok (.aload_n 3, 1) := by decide +kernel
theorem d30_29 : D30_ 29 = .ok (.iconst 0, 1) := by decide +kernel
theorem d30_30 : D30_ 30 = .ok (.iload 4, 2) := by decide +kernel
theorem d30_32 : D30_ 32 = .ok (.invokestatic 54, 3) := by decide +kernel
theorem d30_35 : D30_ 35 = .ok (.putfield 9, 3) := by decide +kernel
theorem d30_38 : D30_ 38 = .ok (.goto 59, 3) := by decide +kernel
theorem d30_97 : D30_ 97 = .ok (.return_, 1) := by decide +kernel
theorem ef_30_56 (m : MethodId) (x0 : Addr) (x1 : Addr) : entryFrame m #[(.ref x0), (.ref x1), .null] 5 = mkF m 0 #[vR (x0), vR (x1), .val .null, .unset, .unset] [] := by first | (simp [entryFrame, mkF, argsToLocals, Value.category]; done) | rfl
theorem r_svL (l : Launch) (Z : State) (a0 : Array Value) (hw : own_HW a0 Z) (ws : List Jvm.Cond) (cs1 : Int32) (fv : Value) (h0 : Heap) (n0 : Nat) (O0 : Old Z n0 h0) (G : own_Ctx Z Z.heap cs1 fv) (a9 a1 a2 : Addr) (k2 : ClassId) (cs out : List Int32) (Es : Exa Z h0 a9 "java/lang/String") (gs9 : n0 ≤ a9) (Gc : Fld Z h0 a9 "java/lang/String" "coder" "B" (.int (0 : Int32))) (Gv : Fld Z h0 a9 "java/lang/String" "value" "[B" .null) (Ee : Exa Z h0 a1 "java/lang/StringBuilder") (F1 : Fld Z h0 a1 "java/lang/AbstractStringBuilder" "value" "[B" (.ref a2)) (F3 : Fld Z h0 a1 "java/lang/AbstractStringBuilder" "count" "I" (.int out.length.toInt32)) (F4 : Fld Z h0 a1 "java/lang/AbstractStringBuilder" "maybeLatin1" "Z" (.int (0 : Int32))) (F2 : Fld Z h0 a1 "java/lang/AbstractStringBuilder" "coder" "B" (.int (0 : Int32))) (Va : Arv Z h0 a2 k2 .byte cs.length.toInt32 (out.map (fun c => .int (nar .byte c.toInt8.toInt32))) (.int (0 : Int32))) (n1 : a1 ≠ a9) (n2 : a2 ≠ a9) (hlt : out.length < cs.length) (hn : cs.length ≤ 4) (hl : own_Lat out) :
    own_M l Y53_ (head1 (Jvm.Cond.code Y53_ jdk_42_method_150_code 5 none :: ws) (own_rm_ 3 1 8 71)) #[(.ref a9), (.ref a1), .null] Z h0 n0 (own_QS Z a9 out) (own_rm_ 3 1 8 71).cells (own_rm_ 3 1 8 71).slots := by
  have G0 := G
  refine MetFree.of_bodySF (plainFor_of_name pn_2) hisR ?_
  intro p e s m args below meth c s₁ Bd hml0 hP hK
  obtain ⟨rfl, hZ, hh⟩ := hP
  have hx := Bd.exec
  have hby := Bd.bytes
  have hml : c.maxLocals = 5 := hml0
  have hown := findClass_of_methodNamed Bd.named
  have hnm := (name_of_methodNamed Bd.named Bd.method).1
  have X0 : Stand p l e (own_rm_ 3 1 8 71) s m #[(.ref a9), (.ref a1), .null] below meth c s₁ [] 0 0 := Stand.of_body Bd
  have e0 : s₁.heap = h0 := by rw [← hh, Bd.state]; rfl
  have N0 := Fr.nil n0
  have pre0 := own_pre (tb := p.tables) (e := e) (below := below) (T := s₁) (ef_30_56 m a9 a1)
  obtain ⟨T1, X1, e1, st1⟩ := initO X0 hx hZ hown (own_w hw 16 rfl) (own_w hw 17 rfl) (own_w hw 18 rfl) e0 (g := (mkF m 1 #[vR (a9), vR (a1), .val .null, .unset, .unset] [(.ref a9)])) rfl (by rw [hml]; rfl) rfl (hb hby d30_1) (by decide) (W := 0) (by show 2 * 0 + _ ≤ _; exact Nat.le_of_eq rfl) (by decide)
  obtain ⟨cq2, kq2, q2a, q2b, q2c⟩ := isOf hZ e1 Ee
  obtain ⟨_, _, ⟨T2, L2, k2, n2⟩, -, X2, ⟨Lc2, hQ2, l2, y2, z2⟩, st2⟩ := X1.virtualBack hx (y := Y47_) (z := Y47_) hown (mvT hZ (own_w hw 141 rfl)) (mvT hZ (own_w hw 142 rfl)) (notFace_of_selects (args := #[]) (mvT hZ (own_w hw 144 rfl))) (mvT hZ (own_w hw 144 rfl)) (mvT hZ (own_w hw 143 rfl)) (by decide) (backOf (W := 0) (r_gv l Z a0 hw [] cs1 fv h0 n0 O0 G0 a1 a2 F1) hZ (own_w hw 145 rfl) (own_w hw 105 rfl) (by decide) (by decide)) q2a q2c (g := (mkF m 5 #[vR (a9), vR (a1), .val .null, .unset, .unset] [(.ref a1)])) rfl (by rw [hml]; rfl) (Steps.refl _) (argsL := []) (rest := []) (lenOf pd_28 rfl) rfl (by show 2 * 0 + _ ≤ _; exact Nat.le_of_eq rfl) (hb hby d30_5) (fun _ _ => ⟨rfl, e1, (by decide : 0 + 0 ≤ _), (by decide : 0 + 0 ≤ _)⟩)
  dsimp only [Pt.U, Pt.locs, Pt.cells, Pt.slots] at X2 l2 y2 z2 st2 hQ2
  subst l2 y2 z2
  obtain ⟨rfl, N2q, e2⟩ := hQ2
  have N2 := Fr.app N0 N2q
  obtain ⟨cq3, kq3, q3a, q3b, q3c⟩ := isOf hZ e2 Ee
  obtain ⟨_, _, ⟨T3, L3, k3, n3⟩, -, X3, ⟨Lc3, hQ3, l3, y3, z3⟩, st3⟩ := X2.virtualBack hx (y := Y51_) (z := Y52_) hown (mvT hZ (own_w hw 146 rfl)) (mvT hZ (own_w hw 147 rfl)) (own_nf (args := #[]) (y := Y51_) (z := Y47_) rfl (mvT hZ (own_w hw 144 rfl))) (mvT hZ (own_w hw 149 rfl)) (mvT hZ (own_w hw 150 rfl)) (by decide) (backOf (W := 0) (r_lb l Z a0 hw [] cs1 fv h0 n0 O0 G0 a1 out.length.toInt32 Ee F3) hZ (own_w hw 151 rfl) (own_w hw 96 rfl) (by decide) (by decide)) q3a q3c (g := (mkF m 10 #[vR (a9), vR (a1), .val .null, vR (a2), .unset] [(.ref a1)])) rfl (by rw [hml]; rfl) (Steps.refl _) (argsL := []) (rest := []) (lenOf pd_21 rfl) rfl (by show 2 * 0 + _ ≤ _; exact Nat.le_of_eq rfl) (hb hby d30_10) (fun _ _ => ⟨rfl, e2, (by decide : 0 + 0 ≤ _), (by decide : 0 + 0 ≤ _)⟩)
  dsimp only [Pt.U, Pt.locs, Pt.cells, Pt.slots] at X3 l3 y3 z3 st3 hQ3
  subst l3 y3 z3
  obtain ⟨rfl, N3q, e3⟩ := hQ3
  have N3 := Fr.app N2 N3q
  obtain ⟨cq4, kq4, q4a, q4b, q4c⟩ := isOf hZ e3 Ee
  obtain ⟨_, _, ⟨T4, L4, k4, n4⟩, -, X4, ⟨Lc4, hQ4, l4, y4, z4⟩, st4⟩ := X3.virtualBack hx (y := Y38_) (z := Y38_) hown (mvT hZ (own_w hw 157 rfl)) (mvT hZ (own_w hw 158 rfl)) (notFace_of_selects (args := #[]) (mvT hZ (own_w hw 160 rfl))) (mvT hZ (own_w hw 160 rfl)) (mvT hZ (own_w hw 159 rfl)) (by decide) (backOf (W := 0) (r_ibL l Z a0 hw [] cs1 fv h0 n0 O0 G0 a1 F2) hZ (own_w hw 161 rfl) (own_w hw 105 rfl) (by decide) (by decide)) q4a q4c (g := (mkF m 16 #[vR (a9), vR (a1), .val .null, vR (a2), vI (out.length.toInt32)] [(.ref a1)])) rfl (by rw [hml]; rfl) (Steps.refl _) (argsL := []) (rest := []) (lenOf pd_13 rfl) rfl (by show 2 * 0 + _ ≤ _; exact Nat.le_of_eq rfl) (hb hby d30_16) (fun _ _ => ⟨rfl, e3, (by decide : 0 + 0 ≤ _), (by decide : 0 + 0 ≤ _)⟩)
  dsimp only [Pt.U, Pt.locs, Pt.cells, Pt.slots] at X4 l4 y4 z4 st4 hQ4
  subst l4 y4 z4
  obtain ⟨rfl, N4q, e4⟩ := hQ4
  have N4 := Fr.app N3 N4q
  obtain ⟨T5, h5, X5, e5, W5, st5⟩ := putFN X4 hx hZ hown (own_w hw 26 rfl) Via.refl e4 Gc Es (Or.inr ⟨(own_w hw 22 rfl), rfl, hnm⟩) (own_w hw 7 rfl) (ty := .byte) (v' := (.int ((0 : Int32).toInt8.toInt32))) (by decide) rfl (fits_nar_byte _) (g := (mkF m 24 #[vR (a9), vR (a1), .val .null, vR (a2), vI (out.length.toInt32)] [(.int (0 : Int32)), (.ref a9)])) rfl rfl (hb hby d30_24)
  have f6 := Es.wr W5
  have f7 := Gv.other W5 (Or.inr (slot_ne (Or.inr (own_w hw 21 rfl)) (Or.inr (own_w hw 22 rfl)) (by decide) (t := (.array .byte)) (t' := .byte) (by decide) (by decide)))
  have f8 := Ee.wr W5
  have f9 := F1.other W5 (Or.inl n1)
  have f10 := F3.other W5 (Or.inl n1)
  have f11 := F4.other W5 (Or.inl n1)
  have f12 := F2.other W5 (Or.inl n1)
  have f13 := Va.other W5 n2
  have O5 := O0.wr W5 gs9
  have K5 : Keep h0 h5 [a9] := (Keep.refl h0 [a9]).wr W5 (Or.inl (List.mem_of_getElem? (i := 0) rfl))
  have N5 := Fr.snoc X5 N4 gs9
  have f14 := Gc.same W5
  obtain ⟨LL15, X15, N15⟩ : ∃ LL, Stand p l e (own_rm_ 3 1 8 71) s m #[(.ref a9), (.ref a1), .null] below meth c T5 LL 0 0 ∧ Fr n0 LL := ⟨_, X5, N5⟩
  obtain ⟨_, _, ⟨T16, L16, k16, n16⟩, -, X16, ⟨Lc16, hQ16, l16, y16, z16⟩, st16⟩ := Jvm.LawKit.callS X15 hx (y := Y50_) hown (mvT hZ (own_w hw 162 rfl)) (mvT hZ (own_w hw 163 rfl)) (mvT hZ (own_w hw 164 rfl)) (mvT hZ (own_w hw 165 rfl)) (by decide) (backOf (W := 1) (r_cr l Z a0 hw [] cs1 fv h5 n0 O5 G0 a2 k2 cs.length out.length (out.map (fun c => .int (nar .byte c.toInt8.toInt32))) [] (by rw [List.append_nil]; exact f13) (by omega) (by omega) (by simp)) hZ (own_w hw 165 rfl) (own_w hw 164 rfl) (by decide) (by decide)) (g := (mkF m 32 #[vR (a9), vR (a1), .val .null, vR (a2), vI (out.length.toInt32)] [(.int out.length.toInt32), (.int (0 : Int32)), (.ref a2), (.ref a9)])) rfl (by rw [hml]; rfl) (argsL := [(.ref a2), (.int (0 : Int32)), (.int out.length.toInt32)]) (rest := [(.ref a9)]) (lenOf pd_27 rfl) rfl (by show 2 * 0 + _ ≤ _; exact Nat.le_of_eq rfl) (hb hby d30_32) (fun _ _ => ⟨rfl, e5, (by decide : 0 + 1 ≤ _), (by decide : 0 + 8 ≤ _)⟩)
  dsimp only [Pt.U, Pt.locs, Pt.cells, Pt.slots] at X16 l16 y16 z16 st16 hQ16
  subst l16 y16 z16
  obtain ⟨t16, kt16, rfl, N16q, Kq16, gt16, Vt16⟩ := hQ16
  have N16 := Fr.app N15 N16q
  have ne_a9_t16 : a9 ≠ t16 := Nat.ne_of_lt (Nat.lt_of_lt_of_le f6.lt gt16)
  have ne_a1_t16 : a1 ≠ t16 := Nat.ne_of_lt (Nat.lt_of_lt_of_le f8.lt gt16)
  have ne_a2_t16 : a2 ≠ t16 := Nat.ne_of_lt (Nat.lt_of_lt_of_le f13.lt gt16)
  have g_t16 : n0 ≤ t16 := Nat.le_trans (O5.1 ▸ O5.2.1) gt16
  have sz_t16 : h0.size ≤ t16 := Nat.le_trans K5.1 gt16
  have f17 := f6.keep Kq16
  have f18 := f14.keep Kq16 (fun q => nomatch q)
  have f19 := f7.keep Kq16 (fun q => nomatch q)
  have f20 := f8.keep Kq16
  have f21 := f9.keep Kq16 (fun q => nomatch q)
  have f22 := f10.keep Kq16 (fun q => nomatch q)
  have f23 := f11.keep Kq16 (fun q => nomatch q)
  have f24 := f12.keep Kq16 (fun q => nomatch q)
  have f25 := f13.keep Kq16 (fun q => nomatch q)
  have O16 := O5.keep Kq16 all0
  have K16 : Keep h0 T16.heap [a9] := K5.trans Kq16 all0
  obtain ⟨T26, h26, X26, e26, W26, st26⟩ := putF X16 hx hZ hown (host := "") (Or.inl (own_w hw 25 rfl)) Via.refl rfl f19 f17 (Or.inr ⟨(own_w hw 21 rfl), rfl, hnm⟩) (own_w hw 7 rfl) (ty := (.array .byte)) (by decide) rfl rfl (g := (mkF m 35 #[vR (a9), vR (a1), .val .null, vR (a2), vI (out.length.toInt32)] [(.ref t16), (.ref a9)])) rfl rfl (hb hby d30_35)
  have f27 := f17.wr W26
  have f28 := f18.other W26 (Or.inr (slot_ne (Or.inr (own_w hw 22 rfl)) (Or.inr (own_w hw 21 rfl)) (by decide) (t := .byte) (t' := (.array .byte)) (by decide) (by decide)))
  have f29 := f20.wr W26
  have f30 := f21.other W26 (Or.inl n1)
  have f31 := f22.other W26 (Or.inl n1)
  have f32 := f23.other W26 (Or.inl n1)
  have f33 := f24.other W26 (Or.inl n1)
  have f34 := f25.other W26 n2
  have f35 := Vt16.other W26 (Ne.symm ne_a9_t16)
  have O26 := O16.wr W26 gs9
  have K26 : Keep h0 h26 [a9] := K16.wr W26 (Or.inl (List.mem_of_getElem? (i := 0) rfl))
  have N26 := Fr.snoc X26 N16 gs9
  have f36 := f19.same W26
  obtain ⟨fs, hr, hrun, hended, hW, hsame⟩ := X26.leave (v := none) (fun _ => rfl)
  refine ⟨_, _, pre0 _ ?_, hrun, hended, _, _, rfl, ?_, ⟨_, rfl⟩, hW, hsame.mono (by decide) (by decide)⟩
  · show own_St p e below s₁ m 0 #[vR (a9), vR (a1), .val .null, .unset, .unset] [] _
    refine XS.aloadN X0.here hx rfl (hb hby d30_0) rfl rfl ?_
    show own_St p e below s₁ m 1 #[vR (a9), vR (a1), .val .null, .unset, .unset] [(.ref a9)] _
    refine st1 _ ?_
    show own_St p e below T1 m 4 #[vR (a9), vR (a1), .val .null, .unset, .unset] [] _
    refine XS.aloadN X1.here hx rfl (hb hby d30_4) rfl rfl ?_
    show own_St p e below T1 m 5 #[vR (a9), vR (a1), .val .null, .unset, .unset] [(.ref a1)] _
    refine st2.trans ?_
    show own_St p e below T2 m 8 #[vR (a9), vR (a1), .val .null, .unset, .unset] [(.ref a2)] _
    refine XS.astoreN X2.here hx rfl (hb hby d30_8) rfl rfl (l' := #[vR (a9), vR (a1), .val .null, vR (a2), .unset]) rfl ?_
    refine XS.aloadN X2.here hx rfl (hb hby d30_9) rfl rfl ?_
    show own_St p e below T2 m 10 #[vR (a9), vR (a1), .val .null, vR (a2), .unset] [(.ref a1)] _
    refine st3.trans ?_
    show own_St p e below T3 m 13 #[vR (a9), vR (a1), .val .null, vR (a2), .unset] [(.int out.length.toInt32)] _
    refine XS.istore X3.here hx rfl (hb hby d30_13) rfl (l' := #[vR (a9), vR (a1), .val .null, vR (a2), vI (out.length.toInt32)]) rfl ?_
    refine XS.aloadN X3.here hx rfl (hb hby d30_15) rfl rfl ?_
    show own_St p e below T3 m 16 #[vR (a9), vR (a1), .val .null, vR (a2), vI (out.length.toInt32)] [(.ref a1)] _
    refine st4.trans ?_
    show own_St p e below T4 m 19 #[vR (a9), vR (a1), .val .null, vR (a2), vI (out.length.toInt32)] [(.int (1 : Int32))] _
    refine XS.ifNo X4.here hx rfl (hb hby d30_19) rfl ((if0 _ _).trans (feq (by decide : ¬ ((1 : Int32) = (0 : Int32)))).1) ?_
    refine XS.aloadN X4.here hx rfl (hb hby d30_22) rfl rfl ?_
    refine XS.iconst X4.here hx rfl (hb hby d30_23) ?_
    show own_St p e below T4 m 24 #[vR (a9), vR (a1), .val .null, vR (a2), vI (out.length.toInt32)] [(.int (0 : Int32)), (.ref a9)] _
    refine st5 _ ?_
    show own_St p e below T5 m 27 #[vR (a9), vR (a1), .val .null, vR (a2), vI (out.length.toInt32)] [] _
    refine XS.aloadN X5.here hx rfl (hb hby d30_27) rfl rfl ?_
    refine XS.aloadN X5.here hx rfl (hb hby d30_28) rfl rfl ?_
    refine XS.iconst X5.here hx rfl (hb hby d30_29) ?_
    refine XS.iload X5.here hx rfl (hb hby d30_30) rfl ?_
    show own_St p e below T5 m 32 #[vR (a9), vR (a1), .val .null, vR (a2), vI (out.length.toInt32)] [(.int out.length.toInt32), (.int (0 : Int32)), (.ref a2), (.ref a9)] _
    refine st16 _ ?_
    show own_St p e below T16 m 35 #[vR (a9), vR (a1), .val .null, vR (a2), vI (out.length.toInt32)] [(.ref t16), (.ref a9)] _
    refine st26 _ ?_
    show own_St p e below T26 m 38 #[vR (a9), vR (a1), .val .null, vR (a2), vI (out.length.toInt32)] [] _
    refine XS.goto X26.here hx rfl (pc0 := 38) (pc' := 97) rfl (hb hby d30_38) (by decide) (by decide) ?_
    show own_St p e below T26 m 97 #[vR (a9), vR (a1), .val .null, vR (a2), vI (out.length.toInt32)] [] _
    exact X26.returnOut hx Bd.returns (hb hby d30_97) hr
  · show own_QS Z a9 out h0 n0 _ T26.heap _
    rw [e26]
    exact ⟨rfl, N26, K26, t16, kt16, f27, f36, Or.inl ⟨f28, hl, f35⟩⟩
theorem d29_0 : D29_ 0 = .ok (.aload_n 0, 1) := by decide +kernel
theorem d29_1 : D29_ 1 = .ok (.aload_n 1, 1) := by decide +kernel
theorem d29_2 : D29_ 2 = .ok (.aconst_null, 1) := by decide +kernel
theorem d29_3 : D29_ 3 = .ok (.invokespecial 489, 3) := by decide +kernel
theorem pd_29 : parseMethodDescriptor "(Ljava/lang/AbstractStringBuilder;Ljava/lang/Void;)V" = some ⟨[(.object "java/lang/AbstractStringBuilder"), (.object "java/lang/Void")], none⟩ := by decide +kernel
theorem d29_6 : D29_ 6 = .ok (.return_, 1) := by decide +kernel
theorem ef_29_57 (m : MethodId) (x0 : Addr) (x1 : Addr) : entryFrame m #[(.ref x0), (.ref x1)] 2 = mkF m 0 #[vR (x0), vR (x1)] [] := by first | (simp [entryFrame, mkF, argsToLocals, Value.category]; done) | rfl
theorem r_swL (l : Launch) (Z : State) (a0 : Array Value) (hw : own_HW a0 Z) (ws : List Jvm.Cond) (cs1 : Int32) (fv : Value) (h0 : Heap) (n0 : Nat) (O0 : Old Z n0 h0) (G : own_Ctx Z Z.heap cs1 fv) (a9 a1 a2 : Addr) (k2 : ClassId) (cs out : List Int32) (Es : Exa Z h0 a9 "java/lang/String") (gs9 : n0 ≤ a9) (Gc : Fld Z h0 a9 "java/lang/String" "coder" "B" (.int (0 : Int32))) (Gv : Fld Z h0 a9 "java/lang/String" "value" "[B" .null) (Ee : Exa Z h0 a1 "java/lang/StringBuilder") (F1 : Fld Z h0 a1 "java/lang/AbstractStringBuilder" "value" "[B" (.ref a2)) (F3 : Fld Z h0 a1 "java/lang/AbstractStringBuilder" "count" "I" (.int out.length.toInt32)) (F4 : Fld Z h0 a1 "java/lang/AbstractStringBuilder" "maybeLatin1" "Z" (.int (0 : Int32))) (F2 : Fld Z h0 a1 "java/lang/AbstractStringBuilder" "coder" "B" (.int (0 : Int32))) (Va : Arv Z h0 a2 k2 .byte cs.length.toInt32 (out.map (fun c => .int (nar .byte c.toInt8.toInt32))) (.int (0 : Int32))) (n1 : a1 ≠ a9) (n2 : a2 ≠ a9) (hlt : out.length < cs.length) (hn : cs.length ≤ 4) (hl : own_Lat out) :
    own_M l Y54_ (head1 (Jvm.Cond.code Y54_ jdk_42_method_53_code 2 none :: ws) (own_rm_ 4 1 8 87)) #[(.ref a9), (.ref a1)] Z h0 n0 (own_QS Z a9 out) (own_rm_ 4 1 8 87).cells (own_rm_ 4 1 8 87).slots := by
  have G0 := G
  refine MetFree.of_bodySF (plainFor_of_name pn_2) hisR ?_
  intro p e s m args below meth c s₁ Bd hml0 hP hK
  obtain ⟨rfl, hZ, hh⟩ := hP
  have hx := Bd.exec
  have hby := Bd.bytes
  have hml : c.maxLocals = 2 := hml0
  have hown := findClass_of_methodNamed Bd.named
  have X0 : Stand p l e (own_rm_ 4 1 8 87) s m #[(.ref a9), (.ref a1)] below meth c s₁ [] 0 0 := Stand.of_body Bd
  have e0 : s₁.heap = h0 := by rw [← hh, Bd.state]; rfl
  have N0 := Fr.nil n0
  have pre0 := own_pre (tb := p.tables) (e := e) (below := below) (T := s₁) (ef_29_57 m a9 a1)
  obtain ⟨_, _, ⟨T1, L1, k1, n1⟩, -, X1, ⟨Lc1, hQ1, l1, y1, z1⟩, st1⟩ := X0.specialBack hx (y := Y53_) rfl hown (mvT hZ (own_w hw 138 rfl)) (mvT hZ (own_w hw 139 rfl)) (mvT hZ (own_w hw 140 rfl)) (by decide) (backOf (W := 0) (r_svL l Z a0 hw [] cs1 fv h0 n0 O0 G0 a9 a1 a2 k2 cs out Es gs9 Gc Gv Ee F1 F3 F4 F2 Va n1 n2 hlt hn hl) hZ (own_w hw 140 rfl) (own_w hw 8 rfl) (by decide) (by decide)) (g := (mkF m 3 #[vR (a9), vR (a1)] [.null, (.ref a1), (.ref a9)])) rfl (by rw [hml]; rfl) (Steps.refl _) (a := a9) (argsL := [(.ref a1), .null]) (rest := []) (lenOf pd_29 rfl) rfl (by show 2 * 0 + _ ≤ _; exact Nat.le_of_eq rfl) (hb hby d29_3) (fun _ _ => ⟨rfl, e0, (by decide : 0 + 1 ≤ _), (by decide : 0 + 8 ≤ _)⟩)
  dsimp only [Pt.U, Pt.locs, Pt.cells, Pt.slots] at X1 l1 y1 z1 st1 hQ1
  subst l1 y1 z1
  obtain ⟨rfl, N1q, Kq1, Sq1⟩ := hQ1
  have N1 := Fr.app N0 N1q
  have f2 := Es.keep Kq1
  have f3 := Ee.keep Kq1
  have f4 := F1.keep Kq1 (fun q => (List.mem_cons.mp q).elim n1 (fun q => nomatch q))
  have f5 := F3.keep Kq1 (fun q => (List.mem_cons.mp q).elim n1 (fun q => nomatch q))
  have f6 := F4.keep Kq1 (fun q => (List.mem_cons.mp q).elim n1 (fun q => nomatch q))
  have f7 := F2.keep Kq1 (fun q => (List.mem_cons.mp q).elim n1 (fun q => nomatch q))
  have f8 := Va.keep Kq1 (fun q => (List.mem_cons.mp q).elim n2 (fun q => nomatch q))
  have O1 := O0.keep Kq1 (allS gs9 all0)
  have K1 : Keep h0 T1.heap [a9] := (Keep.refl h0 [a9]).trans Kq1 (allS (Or.inl (List.mem_of_getElem? (i := 0) rfl)) all0)
  obtain ⟨fs, hr, hrun, hended, hW, hsame⟩ := X1.leave (v := none) (fun _ => rfl)
  refine ⟨_, _, pre0 _ ?_, hrun, hended, _, _, rfl, ?_, ⟨_, rfl⟩, hW, hsame.mono (by decide) (by decide)⟩
  · show own_St p e below s₁ m 0 #[vR (a9), vR (a1)] [] _
    refine XS.aloadN X0.here hx rfl (hb hby d29_0) rfl rfl ?_
    refine XS.aloadN X0.here hx rfl (hb hby d29_1) rfl rfl ?_
    refine XS.aconstNull X0.here hx rfl (hb hby d29_2) ?_
    show own_St p e below s₁ m 3 #[vR (a9), vR (a1)] [.null, (.ref a1), (.ref a9)] _
    refine st1.trans ?_
    show own_St p e below T1 m 6 #[vR (a9), vR (a1)] [] _
    exact X1.returnOut hx Bd.returns (hb hby d29_6) hr
  · show own_QS Z a9 out h0 n0 _ T1.heap _
    exact ⟨rfl, N1, K1, Sq1⟩
theorem d30_41 : D30_ 41 = .ok (.getstatic 38, 3) := by decide +kernel
theorem d30_44 : D30_ 44 = .ok (.ifCond .eq 35, 3) := by decide +kernel
theorem d30_47 : D30_ 47 = .ok (.aload_n 1, 1) := by decide +kernel
theorem d30_48 : D30_ 48 = .ok (.getfield 1048, 3) := by decide +kernel
theorem d30_51 : D30_ 51 = .ok (.ifCond .eq 28, 3) := by decide +kernel
theorem d30_79 : D30_ 79 = .ok (.aload_n 0, 1) := by decide +kernel
theorem d30_80 : D30_ 80 = .ok (.iconst 1, 1) := by decide +kernel
theorem d30_81 : D30_ 81 = .ok (.putfield 15, 3) := by decide +kernel
theorem d30_84 : D30_ 84 = .ok (.aload_n 0, 1) := by decide +kernel
theorem d30_85 : D30_ 85 = .ok (.aload_n 3, 1) := by decide +kernel
theorem d30_86 : D30_ 86 = .ok (.iconst 0, 1) := by decide +kernel
theorem d30_87 : D30_ 87 = .ok (.iload 4, 2) := by decide +kernel
theorem d30_89 : D30_ 89 = .ok (.iconst 1, 1) := by decide +kernel
theorem d30_90 : D30_ 90 = .ok (.ishl, 1) := by decide +kernel
theorem d30_91 : D30_ 91 = .ok (.invokestatic 54, 3) := by decide +kernel
theorem d30_94 : D30_ 94 = .ok (.putfield 9, 3) := by decide +kernel
theorem r_svU (l : Launch) (Z : State) (a0 : Array Value) (hw : own_HW a0 Z) (ws : List Jvm.Cond) (cs1 : Int32) (fv : Value) (h0 : Heap) (n0 : Nat) (O0 : Old Z n0 h0) (G : own_Ctx Z Z.heap cs1 fv) (a9 a1 a2 : Addr) (k2 : ClassId) (cs out : List Int32) (Es : Exa Z h0 a9 "java/lang/String") (gs9 : n0 ≤ a9) (Gc : Fld Z h0 a9 "java/lang/String" "coder" "B" (.int (0 : Int32))) (Gv : Fld Z h0 a9 "java/lang/String" "value" "[B" .null) (Ee : Exa Z h0 a1 "java/lang/StringBuilder") (F1 : Fld Z h0 a1 "java/lang/AbstractStringBuilder" "value" "[B" (.ref a2)) (F3 : Fld Z h0 a1 "java/lang/AbstractStringBuilder" "count" "I" (.int out.length.toInt32)) (F4 : Fld Z h0 a1 "java/lang/AbstractStringBuilder" "maybeLatin1" "Z" (.int (0 : Int32))) (F2 : Fld Z h0 a1 "java/lang/AbstractStringBuilder" "coder" "B" (.int (1 : Int32))) (Va : Arv Z h0 a2 k2 .byte (2 * cs.length).toInt32 (own_u2 cs.length out) (.int (0 : Int32))) (n1 : a1 ≠ a9) (n2 : a2 ≠ a9) (hlt : out.length < cs.length) (hn : cs.length ≤ 4) :
    own_M l Y53_ (head1 (Jvm.Cond.code Y53_ jdk_42_method_150_code 5 none :: ws) (own_rm_ 3 1 8 71)) #[(.ref a9), (.ref a1), .null] Z h0 n0 (own_QS Z a9 out) (own_rm_ 3 1 8 71).cells (own_rm_ 3 1 8 71).slots := by
  have G0 := G
  obtain ⟨S_CS, N_CS, S_F, R_F, S_AD, S_HI, S_LO⟩ := G
  refine MetFree.of_bodySF (plainFor_of_name pn_2) hisR ?_
  intro p e s m args below meth c s₁ Bd hml0 hP hK
  obtain ⟨rfl, hZ, hh⟩ := hP
  have hx := Bd.exec
  have hby := Bd.bytes
  have hml : c.maxLocals = 5 := hml0
  have hown := findClass_of_methodNamed Bd.named
  have hnm := (name_of_methodNamed Bd.named Bd.method).1
  have X0 : Stand p l e (own_rm_ 3 1 8 71) s m #[(.ref a9), (.ref a1), .null] below meth c s₁ [] 0 0 := Stand.of_body Bd
  have e0 : s₁.heap = h0 := by rw [← hh, Bd.state]; rfl
  have N0 := Fr.nil n0
  have pre0 := own_pre (tb := p.tables) (e := e) (below := below) (T := s₁) (ef_30_56 m a9 a1)
  obtain ⟨T1, X1, e1, st1⟩ := initO X0 hx hZ hown (own_w hw 16 rfl) (own_w hw 17 rfl) (own_w hw 18 rfl) e0 (g := (mkF m 1 #[vR (a9), vR (a1), .val .null, .unset, .unset] [(.ref a9)])) rfl (by rw [hml]; rfl) rfl (hb hby d30_1) (by decide) (W := 0) (by show 2 * 0 + _ ≤ _; exact Nat.le_of_eq rfl) (by decide)
  obtain ⟨cq2, kq2, q2a, q2b, q2c⟩ := isOf hZ e1 Ee
  obtain ⟨_, _, ⟨T2, L2, k2, n2⟩, -, X2, ⟨Lc2, hQ2, l2, y2, z2⟩, st2⟩ := X1.virtualBack hx (y := Y47_) (z := Y47_) hown (mvT hZ (own_w hw 141 rfl)) (mvT hZ (own_w hw 142 rfl)) (notFace_of_selects (args := #[]) (mvT hZ (own_w hw 144 rfl))) (mvT hZ (own_w hw 144 rfl)) (mvT hZ (own_w hw 143 rfl)) (by decide) (backOf (W := 0) (r_gv l Z a0 hw [] cs1 fv h0 n0 O0 G0 a1 a2 F1) hZ (own_w hw 145 rfl) (own_w hw 105 rfl) (by decide) (by decide)) q2a q2c (g := (mkF m 5 #[vR (a9), vR (a1), .val .null, .unset, .unset] [(.ref a1)])) rfl (by rw [hml]; rfl) (Steps.refl _) (argsL := []) (rest := []) (lenOf pd_28 rfl) rfl (by show 2 * 0 + _ ≤ _; exact Nat.le_of_eq rfl) (hb hby d30_5) (fun _ _ => ⟨rfl, e1, (by decide : 0 + 0 ≤ _), (by decide : 0 + 0 ≤ _)⟩)
  dsimp only [Pt.U, Pt.locs, Pt.cells, Pt.slots] at X2 l2 y2 z2 st2 hQ2
  subst l2 y2 z2
  obtain ⟨rfl, N2q, e2⟩ := hQ2
  have N2 := Fr.app N0 N2q
  obtain ⟨cq3, kq3, q3a, q3b, q3c⟩ := isOf hZ e2 Ee
  obtain ⟨_, _, ⟨T3, L3, k3, n3⟩, -, X3, ⟨Lc3, hQ3, l3, y3, z3⟩, st3⟩ := X2.virtualBack hx (y := Y51_) (z := Y52_) hown (mvT hZ (own_w hw 146 rfl)) (mvT hZ (own_w hw 147 rfl)) (own_nf (args := #[]) (y := Y51_) (z := Y47_) rfl (mvT hZ (own_w hw 144 rfl))) (mvT hZ (own_w hw 149 rfl)) (mvT hZ (own_w hw 150 rfl)) (by decide) (backOf (W := 0) (r_lb l Z a0 hw [] cs1 fv h0 n0 O0 G0 a1 out.length.toInt32 Ee F3) hZ (own_w hw 151 rfl) (own_w hw 96 rfl) (by decide) (by decide)) q3a q3c (g := (mkF m 10 #[vR (a9), vR (a1), .val .null, vR (a2), .unset] [(.ref a1)])) rfl (by rw [hml]; rfl) (Steps.refl _) (argsL := []) (rest := []) (lenOf pd_21 rfl) rfl (by show 2 * 0 + _ ≤ _; exact Nat.le_of_eq rfl) (hb hby d30_10) (fun _ _ => ⟨rfl, e2, (by decide : 0 + 0 ≤ _), (by decide : 0 + 0 ≤ _)⟩)
  dsimp only [Pt.U, Pt.locs, Pt.cells, Pt.slots] at X3 l3 y3 z3 st3 hQ3
  subst l3 y3 z3
  obtain ⟨rfl, N3q, e3⟩ := hQ3
  have N3 := Fr.app N2 N3q
  obtain ⟨cq4, kq4, q4a, q4b, q4c⟩ := isOf hZ e3 Ee
  obtain ⟨_, _, ⟨T4, L4, k4, n4⟩, -, X4, ⟨Lc4, hQ4, l4, y4, z4⟩, st4⟩ := X3.virtualBack hx (y := Y38_) (z := Y38_) hown (mvT hZ (own_w hw 157 rfl)) (mvT hZ (own_w hw 158 rfl)) (notFace_of_selects (args := #[]) (mvT hZ (own_w hw 160 rfl))) (mvT hZ (own_w hw 160 rfl)) (mvT hZ (own_w hw 159 rfl)) (by decide) (backOf (W := 0) (r_ibU l Z a0 hw [] cs1 fv h0 n0 O0 G0 a1 F2) hZ (own_w hw 161 rfl) (own_w hw 105 rfl) (by decide) (by decide)) q4a q4c (g := (mkF m 16 #[vR (a9), vR (a1), .val .null, vR (a2), vI (out.length.toInt32)] [(.ref a1)])) rfl (by rw [hml]; rfl) (Steps.refl _) (argsL := []) (rest := []) (lenOf pd_13 rfl) rfl (by show 2 * 0 + _ ≤ _; exact Nat.le_of_eq rfl) (hb hby d30_16) (fun _ _ => ⟨rfl, e3, (by decide : 0 + 0 ≤ _), (by decide : 0 + 0 ≤ _)⟩)
  dsimp only [Pt.U, Pt.locs, Pt.cells, Pt.slots] at X4 l4 y4 z4 st4 hQ4
  subst l4 y4 z4
  obtain ⟨rfl, N4q, e4⟩ := hQ4
  have N4 := Fr.app N3 N4q
  obtain ⟨T5, X5, e5, st5⟩ := getS2 X4 hx hZ hown (host := "") (Or.inl (own_w hw 46 rfl)) Via.refl e4 (S_CS.ext O0.2) (g := (mkF m 41 #[vR (a9), vR (a1), .val .null, vR (a2), vI (out.length.toInt32)] [])) rfl (hb hby d30_41)
  obtain ⟨T6, X6, e6, st6⟩ := getF X5 hx hZ hown (host := "") (Or.inl (own_w hw 271 rfl)) Via.refl e5 F4 (g := (mkF m 48 #[vR (a9), vR (a1), .val .null, vR (a2), vI (out.length.toInt32)] [(.ref a1)])) rfl rfl (hb hby d30_48)
  obtain ⟨T7, h7, X7, e7, W7, st7⟩ := putFN X6 hx hZ hown (own_w hw 26 rfl) Via.refl e6 Gc Es (Or.inr ⟨(own_w hw 22 rfl), rfl, hnm⟩) (own_w hw 7 rfl) (ty := .byte) (v' := (.int ((1 : Int32).toInt8.toInt32))) (by decide) rfl (fits_nar_byte _) (g := (mkF m 81 #[vR (a9), vR (a1), .val .null, vR (a2), vI (out.length.toInt32)] [(.int (1 : Int32)), (.ref a9)])) rfl rfl (hb hby d30_81)
  have f8 := Es.wr W7
  have f9 := Gv.other W7 (Or.inr (slot_ne (Or.inr (own_w hw 21 rfl)) (Or.inr (own_w hw 22 rfl)) (by decide) (t := (.array .byte)) (t' := .byte) (by decide) (by decide)))
  have f10 := Ee.wr W7
  have f11 := F1.other W7 (Or.inl n1)
  have f12 := F3.other W7 (Or.inl n1)
  have f13 := F4.other W7 (Or.inl n1)
  have f14 := F2.other W7 (Or.inl n1)
  have f15 := Va.other W7 n2
  have O7 := O0.wr W7 gs9
  have K7 : Keep h0 h7 [a9] := (Keep.refl h0 [a9]).wr W7 (Or.inl (List.mem_of_getElem? (i := 0) rfl))
  have N7 := Fr.snoc X7 N4 gs9
  have f16 := Gc.same W7
  obtain ⟨LL17, X17, N17⟩ : ∃ LL, Stand p l e (own_rm_ 3 1 8 71) s m #[(.ref a9), (.ref a1), .null] below meth c T7 LL 0 0 ∧ Fr n0 LL := ⟨_, X7, N7⟩
  obtain ⟨_, _, ⟨T18, L18, k18, n18⟩, -, X18, ⟨Lc18, hQ18, l18, y18, z18⟩, st18⟩ := Jvm.LawKit.callS X17 hx (y := Y50_) hown (mvT hZ (own_w hw 162 rfl)) (mvT hZ (own_w hw 163 rfl)) (mvT hZ (own_w hw 164 rfl)) (mvT hZ (own_w hw 165 rfl)) (by decide) (backOf (W := 1) (r_cr l Z a0 hw [] cs1 fv h7 n0 O7 G0 a2 k2 (2 * cs.length) (2 * out.length) (out.flatMap own_two) (List.replicate (2 * cs.length - 2 * out.length) (.int (0 : Int32))) f15 (by omega) (by omega) (own_twl out)) hZ (own_w hw 165 rfl) (own_w hw 164 rfl) (by decide) (by decide)) (g := (mkF m 91 #[vR (a9), vR (a1), .val .null, vR (a2), vI (out.length.toInt32)] [(.int (2 * out.length).toInt32), (.int (0 : Int32)), (.ref a2), (.ref a9)])) rfl (by rw [hml]; rfl) (argsL := [(.ref a2), (.int (0 : Int32)), (.int (2 * out.length).toInt32)]) (rest := [(.ref a9)]) (lenOf pd_27 rfl) rfl (by show 2 * 0 + _ ≤ _; exact Nat.le_of_eq rfl) (hb hby d30_91) (fun _ _ => ⟨rfl, e7, (by decide : 0 + 1 ≤ _), (by decide : 0 + 8 ≤ _)⟩)
  dsimp only [Pt.U, Pt.locs, Pt.cells, Pt.slots] at X18 l18 y18 z18 st18 hQ18
  subst l18 y18 z18
  obtain ⟨t18, kt18, rfl, N18q, Kq18, gt18, Vt18⟩ := hQ18
  have N18 := Fr.app N17 N18q
  have ne_a9_t18 : a9 ≠ t18 := Nat.ne_of_lt (Nat.lt_of_lt_of_le f8.lt gt18)
  have ne_a1_t18 : a1 ≠ t18 := Nat.ne_of_lt (Nat.lt_of_lt_of_le f10.lt gt18)
  have ne_a2_t18 : a2 ≠ t18 := Nat.ne_of_lt (Nat.lt_of_lt_of_le f15.lt gt18)
  have g_t18 : n0 ≤ t18 := Nat.le_trans (O7.1 ▸ O7.2.1) gt18
  have sz_t18 : h0.size ≤ t18 := Nat.le_trans K7.1 gt18
  have f19 := f8.keep Kq18
  have f20 := f16.keep Kq18 (fun q => nomatch q)
  have f21 := f9.keep Kq18 (fun q => nomatch q)
  have f22 := f10.keep Kq18
  have f23 := f11.keep Kq18 (fun q => nomatch q)
  have f24 := f12.keep Kq18 (fun q => nomatch q)
  have f25 := f13.keep Kq18 (fun q => nomatch q)
  have f26 := f14.keep Kq18 (fun q => nomatch q)
  have f27 := f15.keep Kq18 (fun q => nomatch q)
  have O18 := O7.keep Kq18 all0
  have K18 : Keep h0 T18.heap [a9] := K7.trans Kq18 all0
  obtain ⟨T28, h28, X28, e28, W28, st28⟩ := putF X18 hx hZ hown (host := "") (Or.inl (own_w hw 25 rfl)) Via.refl rfl f21 f19 (Or.inr ⟨(own_w hw 21 rfl), rfl, hnm⟩) (own_w hw 7 rfl) (ty := (.array .byte)) (by decide) rfl rfl (g := (mkF m 94 #[vR (a9), vR (a1), .val .null, vR (a2), vI (out.length.toInt32)] [(.ref t18), (.ref a9)])) rfl rfl (hb hby d30_94)
  have f29 := f19.wr W28
  have f30 := f20.other W28 (Or.inr (slot_ne (Or.inr (own_w hw 22 rfl)) (Or.inr (own_w hw 21 rfl)) (by decide) (t := .byte) (t' := (.array .byte)) (by decide) (by decide)))
  have f31 := f22.wr W28
  have f32 := f23.other W28 (Or.inl n1)
  have f33 := f24.other W28 (Or.inl n1)
  have f34 := f25.other W28 (Or.inl n1)
  have f35 := f26.other W28 (Or.inl n1)
  have f36 := f27.other W28 n2
  have f37 := Vt18.other W28 (Ne.symm ne_a9_t18)
  have O28 := O18.wr W28 gs9
  have K28 : Keep h0 h28 [a9] := K18.wr W28 (Or.inl (List.mem_of_getElem? (i := 0) rfl))
  have N28 := Fr.snoc X28 N18 gs9
  have f38 := f21.same W28
  obtain ⟨fs, hr, hrun, hended, hW, hsame⟩ := X28.leave (v := none) (fun _ => rfl)
  refine ⟨_, _, pre0 _ ?_, hrun, hended, _, _, rfl, ?_, ⟨_, rfl⟩, hW, hsame.mono (by decide) (by decide)⟩
  · show own_St p e below s₁ m 0 #[vR (a9), vR (a1), .val .null, .unset, .unset] [] _
    refine XS.aloadN X0.here hx rfl (hb hby d30_0) rfl rfl ?_
    show own_St p e below s₁ m 1 #[vR (a9), vR (a1), .val .null, .unset, .unset] [(.ref a9)] _
    refine st1 _ ?_
    show own_St p e below T1 m 4 #[vR (a9), vR (a1), .val .null, .unset, .unset] [] _
    refine XS.aloadN X1.here hx rfl (hb hby d30_4) rfl rfl ?_
    show own_St p e below T1 m 5 #[vR (a9), vR (a1), .val .null, .unset, .unset] [(.ref a1)] _
    refine st2.trans ?_
    show own_St p e below T2 m 8 #[vR (a9), vR (a1), .val .null, .unset, .unset] [(.ref a2)] _
    refine XS.astoreN X2.here hx rfl (hb hby d30_8) rfl rfl (l' := #[vR (a9), vR (a1), .val .null, vR (a2), .unset]) rfl ?_
    refine XS.aloadN X2.here hx rfl (hb hby d30_9) rfl rfl ?_
    show own_St p e below T2 m 10 #[vR (a9), vR (a1), .val .null, vR (a2), .unset] [(.ref a1)] _
    refine st3.trans ?_
    show own_St p e below T3 m 13 #[vR (a9), vR (a1), .val .null, vR (a2), .unset] [(.int out.length.toInt32)] _
    refine XS.istore X3.here hx rfl (hb hby d30_13) rfl (l' := #[vR (a9), vR (a1), .val .null, vR (a2), vI (out.length.toInt32)]) rfl ?_
    refine XS.aloadN X3.here hx rfl (hb hby d30_15) rfl rfl ?_
    show own_St p e below T3 m 16 #[vR (a9), vR (a1), .val .null, vR (a2), vI (out.length.toInt32)] [(.ref a1)] _
    refine st4.trans ?_
    show own_St p e below T4 m 19 #[vR (a9), vR (a1), .val .null, vR (a2), vI (out.length.toInt32)] [(.int (0 : Int32))] _
    refine XS.ifYes X4.here hx rfl (pc0 := 19) (pc' := 41) rfl (hb hby d30_19) rfl ((if0 _ _).trans (teq (by decide : (0 : Int32) = (0 : Int32))).1) (by decide) (by decide) ?_
    show own_St p e below T4 m 41 #[vR (a9), vR (a1), .val .null, vR (a2), vI (out.length.toInt32)] [] _
    refine st5 _ ?_
    show own_St p e below T5 m 44 #[vR (a9), vR (a1), .val .null, vR (a2), vI (out.length.toInt32)] [(.int cs1)] _
    refine XS.ifNo X5.here hx rfl (hb hby d30_44) rfl ((if0 _ _).trans (feq (N_CS : ¬ (cs1 = (0 : Int32)))).1) ?_
    refine XS.aloadN X5.here hx rfl (hb hby d30_47) rfl rfl ?_
    show own_St p e below T5 m 48 #[vR (a9), vR (a1), .val .null, vR (a2), vI (out.length.toInt32)] [(.ref a1)] _
    refine st6 _ ?_
    show own_St p e below T6 m 51 #[vR (a9), vR (a1), .val .null, vR (a2), vI (out.length.toInt32)] [(.int (0 : Int32))] _
    refine XS.ifYes X6.here hx rfl (pc0 := 51) (pc' := 79) rfl (hb hby d30_51) rfl ((if0 _ _).trans (teq (by decide : (0 : Int32) = (0 : Int32))).1) (by decide) (by decide) ?_
    refine XS.aloadN X6.here hx rfl (hb hby d30_79) rfl rfl ?_
    refine XS.iconst X6.here hx rfl (hb hby d30_80) ?_
    show own_St p e below T6 m 81 #[vR (a9), vR (a1), .val .null, vR (a2), vI (out.length.toInt32)] [(.int (1 : Int32)), (.ref a9)] _
    refine st7 _ ?_
    show own_St p e below T7 m 84 #[vR (a9), vR (a1), .val .null, vR (a2), vI (out.length.toInt32)] [] _
    refine XS.aloadN X7.here hx rfl (hb hby d30_84) rfl rfl ?_
    refine XS.aloadN X7.here hx rfl (hb hby d30_85) rfl rfl ?_
    refine XS.iconst X7.here hx rfl (hb hby d30_86) ?_
    refine XS.iload X7.here hx rfl (hb hby d30_87) rfl ?_
    refine XS.iconst X7.here hx rfl (hb hby d30_89) ?_
    show own_St p e below T7 m 90 #[vR (a9), vR (a1), .val .null, vR (a2), vI (out.length.toInt32)] [(.int (1 : Int32)), (.int out.length.toInt32), (.int (0 : Int32)), (.ref a2), (.ref a9)] _
    refine XS.ishl X7.here hx rfl (hb hby d30_90) rfl ?_
    show own_St p e below T7 m 91 #[vR (a9), vR (a1), .val .null, vR (a2), vI (out.length.toInt32)] [(.int (out.length.toInt32 <<< ((1 : Int32) &&& 31))), (.int (0 : Int32)), (.ref a2), (.ref a9)] _
    rw [own_shl1 (i := out.length) (by omega)]
    show own_St p e below T7 m 91 #[vR (a9), vR (a1), .val .null, vR (a2), vI (out.length.toInt32)] [(.int (2 * out.length).toInt32), (.int (0 : Int32)), (.ref a2), (.ref a9)] _
    refine st18 _ ?_
    show own_St p e below T18 m 94 #[vR (a9), vR (a1), .val .null, vR (a2), vI (out.length.toInt32)] [(.ref t18), (.ref a9)] _
    refine st28 _ ?_
    show own_St p e below T28 m 97 #[vR (a9), vR (a1), .val .null, vR (a2), vI (out.length.toInt32)] [] _
    exact X28.returnOut hx Bd.returns (hb hby d30_97) hr
  · show own_QS Z a9 out h0 n0 _ T28.heap _
    rw [e28]
    exact ⟨rfl, N28, K28, t18, kt18, f29, f38, Or.inr ⟨f30, f37⟩⟩
theorem r_swU (l : Launch) (Z : State) (a0 : Array Value) (hw : own_HW a0 Z) (ws : List Jvm.Cond) (cs1 : Int32) (fv : Value) (h0 : Heap) (n0 : Nat) (O0 : Old Z n0 h0) (G : own_Ctx Z Z.heap cs1 fv) (a9 a1 a2 : Addr) (k2 : ClassId) (cs out : List Int32) (Es : Exa Z h0 a9 "java/lang/String") (gs9 : n0 ≤ a9) (Gc : Fld Z h0 a9 "java/lang/String" "coder" "B" (.int (0 : Int32))) (Gv : Fld Z h0 a9 "java/lang/String" "value" "[B" .null) (Ee : Exa Z h0 a1 "java/lang/StringBuilder") (F1 : Fld Z h0 a1 "java/lang/AbstractStringBuilder" "value" "[B" (.ref a2)) (F3 : Fld Z h0 a1 "java/lang/AbstractStringBuilder" "count" "I" (.int out.length.toInt32)) (F4 : Fld Z h0 a1 "java/lang/AbstractStringBuilder" "maybeLatin1" "Z" (.int (0 : Int32))) (F2 : Fld Z h0 a1 "java/lang/AbstractStringBuilder" "coder" "B" (.int (1 : Int32))) (Va : Arv Z h0 a2 k2 .byte (2 * cs.length).toInt32 (own_u2 cs.length out) (.int (0 : Int32))) (n1 : a1 ≠ a9) (n2 : a2 ≠ a9) (hlt : out.length < cs.length) (hn : cs.length ≤ 4) :
    own_M l Y54_ (head1 (Jvm.Cond.code Y54_ jdk_42_method_53_code 2 none :: ws) (own_rm_ 4 1 8 87)) #[(.ref a9), (.ref a1)] Z h0 n0 (own_QS Z a9 out) (own_rm_ 4 1 8 87).cells (own_rm_ 4 1 8 87).slots := by
  have G0 := G
  refine MetFree.of_bodySF (plainFor_of_name pn_2) hisR ?_
  intro p e s m args below meth c s₁ Bd hml0 hP hK
  obtain ⟨rfl, hZ, hh⟩ := hP
  have hx := Bd.exec
  have hby := Bd.bytes
  have hml : c.maxLocals = 2 := hml0
  have hown := findClass_of_methodNamed Bd.named
  have X0 : Stand p l e (own_rm_ 4 1 8 87) s m #[(.ref a9), (.ref a1)] below meth c s₁ [] 0 0 := Stand.of_body Bd
  have e0 : s₁.heap = h0 := by rw [← hh, Bd.state]; rfl
  have N0 := Fr.nil n0
  have pre0 := own_pre (tb := p.tables) (e := e) (below := below) (T := s₁) (ef_29_57 m a9 a1)
  obtain ⟨_, _, ⟨T1, L1, k1, n1⟩, -, X1, ⟨Lc1, hQ1, l1, y1, z1⟩, st1⟩ := X0.specialBack hx (y := Y53_) rfl hown (mvT hZ (own_w hw 138 rfl)) (mvT hZ (own_w hw 139 rfl)) (mvT hZ (own_w hw 140 rfl)) (by decide) (backOf (W := 0) (r_svU l Z a0 hw [] cs1 fv h0 n0 O0 G0 a9 a1 a2 k2 cs out Es gs9 Gc Gv Ee F1 F3 F4 F2 Va n1 n2 hlt hn) hZ (own_w hw 140 rfl) (own_w hw 8 rfl) (by decide) (by decide)) (g := (mkF m 3 #[vR (a9), vR (a1)] [.null, (.ref a1), (.ref a9)])) rfl (by rw [hml]; rfl) (Steps.refl _) (a := a9) (argsL := [(.ref a1), .null]) (rest := []) (lenOf pd_29 rfl) rfl (by show 2 * 0 + _ ≤ _; exact Nat.le_of_eq rfl) (hb hby d29_3) (fun _ _ => ⟨rfl, e0, (by decide : 0 + 1 ≤ _), (by decide : 0 + 8 ≤ _)⟩)
  dsimp only [Pt.U, Pt.locs, Pt.cells, Pt.slots] at X1 l1 y1 z1 st1 hQ1
  subst l1 y1 z1
  obtain ⟨rfl, N1q, Kq1, Sq1⟩ := hQ1
  have N1 := Fr.app N0 N1q
  have f2 := Es.keep Kq1
  have f3 := Ee.keep Kq1
  have f4 := F1.keep Kq1 (fun q => (List.mem_cons.mp q).elim n1 (fun q => nomatch q))
  have f5 := F3.keep Kq1 (fun q => (List.mem_cons.mp q).elim n1 (fun q => nomatch q))
  have f6 := F4.keep Kq1 (fun q => (List.mem_cons.mp q).elim n1 (fun q => nomatch q))
  have f7 := F2.keep Kq1 (fun q => (List.mem_cons.mp q).elim n1 (fun q => nomatch q))
  have f8 := Va.keep Kq1 (fun q => (List.mem_cons.mp q).elim n2 (fun q => nomatch q))
  have O1 := O0.keep Kq1 (allS gs9 all0)
  have K1 : Keep h0 T1.heap [a9] := (Keep.refl h0 [a9]).trans Kq1 (allS (Or.inl (List.mem_of_getElem? (i := 0) rfl)) all0)
  obtain ⟨fs, hr, hrun, hended, hW, hsame⟩ := X1.leave (v := none) (fun _ => rfl)
  refine ⟨_, _, pre0 _ ?_, hrun, hended, _, _, rfl, ?_, ⟨_, rfl⟩, hW, hsame.mono (by decide) (by decide)⟩
  · show own_St p e below s₁ m 0 #[vR (a9), vR (a1)] [] _
    refine XS.aloadN X0.here hx rfl (hb hby d29_0) rfl rfl ?_
    refine XS.aloadN X0.here hx rfl (hb hby d29_1) rfl rfl ?_
    refine XS.aconstNull X0.here hx rfl (hb hby d29_2) ?_
    show own_St p e below s₁ m 3 #[vR (a9), vR (a1)] [.null, (.ref a1), (.ref a9)] _
    refine st1.trans ?_
    show own_St p e below T1 m 6 #[vR (a9), vR (a1)] [] _
    exact X1.returnOut hx Bd.returns (hb hby d29_6) hr
  · show own_QS Z a9 out h0 n0 _ T1.heap _
    exact ⟨rfl, N1, K1, Sq1⟩
def own_Qts (Z : State) (out : List Int32) (h0 : Heap) (n0 : Nat) (v : Option Value) (h : Heap) (L : List Loc) : Prop := ∃ b : Addr, v = some (.ref b) ∧ Fr n0 L ∧ Keep h0 h [] ∧ own_Str Z h b out
theorem d28_0 : D28_ 0 = .ok (.new 18, 3) := by decide +kernel
theorem d28_3 : D28_ 3 = .ok (.dup, 1) := by decide +kernel
theorem d28_4 : D28_ 4 = .ok (.aload_n 0, 1) := by decide +kernel
theorem d28_5 : D28_ 5 = .ok (.invokespecial 137, 3) := by decide +kernel
theorem pd_30 : parseMethodDescriptor "(Ljava/lang/StringBuilder;)V" = some ⟨[(.object "java/lang/StringBuilder")], none⟩ := by decide +kernel
theorem d28_8 : D28_ 8 = .ok (.areturn, 1) := by decide +kernel
theorem ef_28_58 (m : MethodId) (x0 : Addr) : entryFrame m #[(.ref x0)] 1 = mkF m 0 #[vR (x0)] [] := by first | (simp [entryFrame, mkF, argsToLocals, Value.category]; done) | rfl
theorem r_tsL (l : Launch) (Z : State) (a0 : Array Value) (hw : own_HW a0 Z) (ws : List Jvm.Cond) (cs1 : Int32) (fv : Value) (h0 : Heap) (n0 : Nat) (O0 : Old Z n0 h0) (G : own_Ctx Z Z.heap cs1 fv) (a1 a2 : Addr) (k2 : ClassId) (cs out : List Int32) (Ee : Exa Z h0 a1 "java/lang/StringBuilder") (F1 : Fld Z h0 a1 "java/lang/AbstractStringBuilder" "value" "[B" (.ref a2)) (F3 : Fld Z h0 a1 "java/lang/AbstractStringBuilder" "count" "I" (.int out.length.toInt32)) (F4 : Fld Z h0 a1 "java/lang/AbstractStringBuilder" "maybeLatin1" "Z" (.int (0 : Int32))) (F2 : Fld Z h0 a1 "java/lang/AbstractStringBuilder" "coder" "B" (.int (0 : Int32))) (Va : Arv Z h0 a2 k2 .byte cs.length.toInt32 (out.map (fun c => .int (nar .byte c.toInt8.toInt32))) (.int (0 : Int32))) (hlt : out.length < cs.length) (hn : cs.length ≤ 4) (hl : own_Lat out) :
    own_M l Y55_ (head1 (Jvm.Cond.code Y55_ jdk_67_method_42_code 1 (some (.object "java/lang/String")) :: ws) (own_rm_ 5 2 12 101)) #[(.ref a1)] Z h0 n0 (own_Qts Z out) (own_rm_ 5 2 12 101).cells (own_rm_ 5 2 12 101).slots := by
  have G0 := G
  refine MetFree.of_bodySF (plainFor_of_name pn_5) hisR ?_
  intro p e s m args below meth c s₁ Bd hml0 hP hK
  obtain ⟨rfl, hZ, hh⟩ := hP
  have hx := Bd.exec
  have hby := Bd.bytes
  have hml : c.maxLocals = 1 := hml0
  have hown := findClass_of_methodNamed Bd.named
  have X0 : Stand p l e (own_rm_ 5 2 12 101) s m #[(.ref a1)] below meth c s₁ [] 0 0 := Stand.of_body Bd
  have e0 : s₁.heap = h0 := by rw [← hh, Bd.state]; rfl
  have N0 := Fr.nil n0
  have pre0 := own_pre (tb := p.tables) (e := e) (below := below) (T := s₁) (ef_28_58 m a1)
  obtain ⟨T1, h1, X1, e1, E1, A1, D1, -, st1⟩ := newO X0 hx hZ hown (own_w hw 134 rfl) (own_w hw 7 rfl) (own_w hw 8 rfl) e0 (g := (mkF m 0 #[vR (a1)] [])) rfl (hb hby d28_0) (by decide) (by decide)
  obtain ⟨b1, g1⟩ : ∃ z, z = h0.size := ⟨_, rfl⟩
  have ne_a1_b1 : a1 ≠ b1 := Nat.ne_of_lt (Nat.lt_of_lt_of_le Ee.lt (Nat.le_of_eq g1.symm))
  have ne_a2_b1 : a2 ≠ b1 := Nat.ne_of_lt (Nat.lt_of_lt_of_le Va.lt (Nat.le_of_eq g1.symm))
  have g_b1 : n0 ≤ b1 := Nat.le_trans (O0.1 ▸ O0.2.1) (Nat.le_of_eq g1.symm)
  have sz_b1 : h0.size ≤ b1 := Nat.le_trans (Keep.refl h0 []).1 (Nat.le_of_eq g1.symm)
  rw [← g1] at A1 D1 st1
  have f2 := Ee.ext E1
  have f3 := F1.ext E1
  have f4 := F3.ext E1
  have f5 := F4.ext E1
  have f6 := F2.ext E1
  have f7 := Va.ext E1
  have O1 := O0.ext E1
  have K1 : Keep h0 h1 [] := (Keep.refl h0 []).ext E1
  have F1_21 : Fld Z h1 b1 "java/lang/String" "value" "[B" .null := D1 (Or.inr (own_w hw 21 rfl)) (ty := (.array .byte)) (by decide)
  have F1_22 : Fld Z h1 b1 "java/lang/String" "coder" "B" (.int (0 : Int32)) := D1 (Or.inr (own_w hw 22 rfl)) (ty := .byte) (by decide)
  obtain ⟨_, _, ⟨T8, L8, k8, n8⟩, -, X8, ⟨Lc8, hQ8, l8, y8, z8⟩, st8⟩ := X1.specialBack hx (y := Y54_) rfl hown (mvT hZ (own_w hw 135 rfl)) (mvT hZ (own_w hw 136 rfl)) (mvT hZ (own_w hw 137 rfl)) (by decide) (backOf (W := 1) (r_swL l Z a0 hw [] cs1 fv h1 n0 O1 G0 b1 a1 a2 k2 cs out A1 g_b1 F1_22 F1_21 f2 f3 f4 f5 f6 f7 ne_a1_b1 ne_a2_b1 hlt hn hl) hZ (own_w hw 137 rfl) (own_w hw 8 rfl) (by decide) (by decide)) (g := (mkF m 5 #[vR (a1)] [(.ref a1), (.ref b1), (.ref b1)])) rfl (by rw [hml]; rfl) (Steps.refl _) (a := b1) (argsL := [(.ref a1)]) (rest := [(.ref b1)]) (lenOf pd_30 rfl) rfl (by show 2 * 0 + _ ≤ _; exact Nat.le_of_eq rfl) (hb hby d28_5) (fun _ _ => ⟨rfl, e1, (by decide : 1 + 1 ≤ _), (by decide : 4 + 8 ≤ _)⟩)
  dsimp only [Pt.U, Pt.locs, Pt.cells, Pt.slots] at X8 l8 y8 z8 st8 hQ8
  subst l8 y8 z8
  obtain ⟨rfl, N8q, Kq8, Sq8⟩ := hQ8
  have N8 := Fr.app N0 N8q
  have f9 := f2.keep Kq8
  have f10 := f3.keep Kq8 (fun q => (List.mem_cons.mp q).elim ne_a1_b1 (fun q => nomatch q))
  have f11 := f4.keep Kq8 (fun q => (List.mem_cons.mp q).elim ne_a1_b1 (fun q => nomatch q))
  have f12 := f5.keep Kq8 (fun q => (List.mem_cons.mp q).elim ne_a1_b1 (fun q => nomatch q))
  have f13 := f6.keep Kq8 (fun q => (List.mem_cons.mp q).elim ne_a1_b1 (fun q => nomatch q))
  have f14 := f7.keep Kq8 (fun q => (List.mem_cons.mp q).elim ne_a2_b1 (fun q => nomatch q))
  have f15 := A1.keep Kq8
  have O8 := O1.keep Kq8 (allS g_b1 all0)
  have K8 : Keep h0 T8.heap [] := K1.trans Kq8 (allS (Or.inr sz_b1) all0)
  obtain ⟨fs, hr, hrun, hended, hW, hsame⟩ := X8.leave (v := some (.ref b1)) (fun h => by rw [Bd.returns] at h; cases h)
  refine ⟨_, _, pre0 _ ?_, hrun, hended, _, _, rfl, ?_, ⟨_, rfl⟩, hW, hsame.mono (by decide) (by decide)⟩
  · show own_St p e below s₁ m 0 #[vR (a1)] [] _
    refine st1 _ ?_
    show own_St p e below T1 m 3 #[vR (a1)] [(.ref b1)] _
    refine XS.dup X1.here hx rfl (hb hby d28_3) rfl rfl ?_
    refine XS.aloadN X1.here hx rfl (hb hby d28_4) rfl rfl ?_
    show own_St p e below T1 m 5 #[vR (a1)] [(.ref a1), (.ref b1), (.ref b1)] _
    refine st8.trans ?_
    show own_St p e below T8 m 8 #[vR (a1)] [(.ref b1)] _
    exact retOut X8 hx Bd.returns rfl (Or.inr (Or.inr (Or.inr (Or.inr ⟨rfl, rfl, rfl⟩)))) (hb hby d28_8) hr
  · show own_Qts Z out h0 n0 _ T8.heap _
    exact ⟨b1, rfl, N8, K8, Sq8⟩
theorem r_tsU (l : Launch) (Z : State) (a0 : Array Value) (hw : own_HW a0 Z) (ws : List Jvm.Cond) (cs1 : Int32) (fv : Value) (h0 : Heap) (n0 : Nat) (O0 : Old Z n0 h0) (G : own_Ctx Z Z.heap cs1 fv) (a1 a2 : Addr) (k2 : ClassId) (cs out : List Int32) (Ee : Exa Z h0 a1 "java/lang/StringBuilder") (F1 : Fld Z h0 a1 "java/lang/AbstractStringBuilder" "value" "[B" (.ref a2)) (F3 : Fld Z h0 a1 "java/lang/AbstractStringBuilder" "count" "I" (.int out.length.toInt32)) (F4 : Fld Z h0 a1 "java/lang/AbstractStringBuilder" "maybeLatin1" "Z" (.int (0 : Int32))) (F2 : Fld Z h0 a1 "java/lang/AbstractStringBuilder" "coder" "B" (.int (1 : Int32))) (Va : Arv Z h0 a2 k2 .byte (2 * cs.length).toInt32 (own_u2 cs.length out) (.int (0 : Int32))) (hlt : out.length < cs.length) (hn : cs.length ≤ 4) :
    own_M l Y55_ (head1 (Jvm.Cond.code Y55_ jdk_67_method_42_code 1 (some (.object "java/lang/String")) :: ws) (own_rm_ 5 2 12 101)) #[(.ref a1)] Z h0 n0 (own_Qts Z out) (own_rm_ 5 2 12 101).cells (own_rm_ 5 2 12 101).slots := by
  have G0 := G
  refine MetFree.of_bodySF (plainFor_of_name pn_5) hisR ?_
  intro p e s m args below meth c s₁ Bd hml0 hP hK
  obtain ⟨rfl, hZ, hh⟩ := hP
  have hx := Bd.exec
  have hby := Bd.bytes
  have hml : c.maxLocals = 1 := hml0
  have hown := findClass_of_methodNamed Bd.named
  have X0 : Stand p l e (own_rm_ 5 2 12 101) s m #[(.ref a1)] below meth c s₁ [] 0 0 := Stand.of_body Bd
  have e0 : s₁.heap = h0 := by rw [← hh, Bd.state]; rfl
  have N0 := Fr.nil n0
  have pre0 := own_pre (tb := p.tables) (e := e) (below := below) (T := s₁) (ef_28_58 m a1)
  obtain ⟨T1, h1, X1, e1, E1, A1, D1, -, st1⟩ := newO X0 hx hZ hown (own_w hw 134 rfl) (own_w hw 7 rfl) (own_w hw 8 rfl) e0 (g := (mkF m 0 #[vR (a1)] [])) rfl (hb hby d28_0) (by decide) (by decide)
  obtain ⟨b1, g1⟩ : ∃ z, z = h0.size := ⟨_, rfl⟩
  have ne_a1_b1 : a1 ≠ b1 := Nat.ne_of_lt (Nat.lt_of_lt_of_le Ee.lt (Nat.le_of_eq g1.symm))
  have ne_a2_b1 : a2 ≠ b1 := Nat.ne_of_lt (Nat.lt_of_lt_of_le Va.lt (Nat.le_of_eq g1.symm))
  have g_b1 : n0 ≤ b1 := Nat.le_trans (O0.1 ▸ O0.2.1) (Nat.le_of_eq g1.symm)
  have sz_b1 : h0.size ≤ b1 := Nat.le_trans (Keep.refl h0 []).1 (Nat.le_of_eq g1.symm)
  rw [← g1] at A1 D1 st1
  have f2 := Ee.ext E1
  have f3 := F1.ext E1
  have f4 := F3.ext E1
  have f5 := F4.ext E1
  have f6 := F2.ext E1
  have f7 := Va.ext E1
  have O1 := O0.ext E1
  have K1 : Keep h0 h1 [] := (Keep.refl h0 []).ext E1
  have F1_21 : Fld Z h1 b1 "java/lang/String" "value" "[B" .null := D1 (Or.inr (own_w hw 21 rfl)) (ty := (.array .byte)) (by decide)
  have F1_22 : Fld Z h1 b1 "java/lang/String" "coder" "B" (.int (0 : Int32)) := D1 (Or.inr (own_w hw 22 rfl)) (ty := .byte) (by decide)
  obtain ⟨_, _, ⟨T8, L8, k8, n8⟩, -, X8, ⟨Lc8, hQ8, l8, y8, z8⟩, st8⟩ := X1.specialBack hx (y := Y54_) rfl hown (mvT hZ (own_w hw 135 rfl)) (mvT hZ (own_w hw 136 rfl)) (mvT hZ (own_w hw 137 rfl)) (by decide) (backOf (W := 1) (r_swU l Z a0 hw [] cs1 fv h1 n0 O1 G0 b1 a1 a2 k2 cs out A1 g_b1 F1_22 F1_21 f2 f3 f4 f5 f6 f7 ne_a1_b1 ne_a2_b1 hlt hn) hZ (own_w hw 137 rfl) (own_w hw 8 rfl) (by decide) (by decide)) (g := (mkF m 5 #[vR (a1)] [(.ref a1), (.ref b1), (.ref b1)])) rfl (by rw [hml]; rfl) (Steps.refl _) (a := b1) (argsL := [(.ref a1)]) (rest := [(.ref b1)]) (lenOf pd_30 rfl) rfl (by show 2 * 0 + _ ≤ _; exact Nat.le_of_eq rfl) (hb hby d28_5) (fun _ _ => ⟨rfl, e1, (by decide : 1 + 1 ≤ _), (by decide : 4 + 8 ≤ _)⟩)
  dsimp only [Pt.U, Pt.locs, Pt.cells, Pt.slots] at X8 l8 y8 z8 st8 hQ8
  subst l8 y8 z8
  obtain ⟨rfl, N8q, Kq8, Sq8⟩ := hQ8
  have N8 := Fr.app N0 N8q
  have f9 := f2.keep Kq8
  have f10 := f3.keep Kq8 (fun q => (List.mem_cons.mp q).elim ne_a1_b1 (fun q => nomatch q))
  have f11 := f4.keep Kq8 (fun q => (List.mem_cons.mp q).elim ne_a1_b1 (fun q => nomatch q))
  have f12 := f5.keep Kq8 (fun q => (List.mem_cons.mp q).elim ne_a1_b1 (fun q => nomatch q))
  have f13 := f6.keep Kq8 (fun q => (List.mem_cons.mp q).elim ne_a1_b1 (fun q => nomatch q))
  have f14 := f7.keep Kq8 (fun q => (List.mem_cons.mp q).elim ne_a2_b1 (fun q => nomatch q))
  have f15 := A1.keep Kq8
  have O8 := O1.keep Kq8 (allS g_b1 all0)
  have K8 : Keep h0 T8.heap [] := K1.trans Kq8 (allS (Or.inr sz_b1) all0)
  obtain ⟨fs, hr, hrun, hended, hW, hsame⟩ := X8.leave (v := some (.ref b1)) (fun h => by rw [Bd.returns] at h; cases h)
  refine ⟨_, _, pre0 _ ?_, hrun, hended, _, _, rfl, ?_, ⟨_, rfl⟩, hW, hsame.mono (by decide) (by decide)⟩
  · show own_St p e below s₁ m 0 #[vR (a1)] [] _
    refine st1 _ ?_
    show own_St p e below T1 m 3 #[vR (a1)] [(.ref b1)] _
    refine XS.dup X1.here hx rfl (hb hby d28_3) rfl rfl ?_
    refine XS.aloadN X1.here hx rfl (hb hby d28_4) rfl rfl ?_
    show own_St p e below T1 m 5 #[vR (a1)] [(.ref a1), (.ref b1), (.ref b1)] _
    refine st8.trans ?_
    show own_St p e below T8 m 8 #[vR (a1)] [(.ref b1)] _
    exact retOut X8 hx Bd.returns rfl (Or.inr (Or.inr (Or.inr (Or.inr ⟨rfl, rfl, rfl⟩)))) (hb hby d28_8) hr
  · show own_Qts Z out h0 n0 _ T8.heap _
    exact ⟨b1, rfl, N8, K8, Sq8⟩
theorem r_ts (l : Launch) (Z : State) (a0 : Array Value) (hw : own_HW a0 Z) (ws : List Jvm.Cond) (cs1 : Int32) (fv : Value) (h0 : Heap) (n0 : Nat) (O0 : Old Z n0 h0) (G : own_Ctx Z Z.heap cs1 fv) (a1 : Addr) (f0 : Nat) (cs out : List Int32) (B : own_SB Z h0 f0 a1 cs out) (hlt : out.length < cs.length) (hn : cs.length ≤ 4) :
    own_M l Y55_ (head1 (Jvm.Cond.code Y55_ jdk_67_method_42_code 1 (some (.object "java/lang/String")) :: ws) (own_rm_ 5 2 12 101)) #[(.ref a1)] Z h0 n0 (own_Qts Z out) (own_rm_ 5 2 12 101).cells (own_rm_ 5 2 12 101).slots := by
  obtain ⟨b, k, hfa, hfb, hne, Ee, F1, F3, F4, ⟨F2, hl, V⟩ | ⟨F2, V⟩⟩ := B
  · exact r_tsL l Z a0 hw ws cs1 fv h0 n0 O0 G a1 b k cs out Ee F1 F3 F4 F2 V hlt hn hl
  · exact r_tsU l Z a0 hw ws cs1 fv h0 n0 O0 G a1 b k cs out Ee F1 F3 F4 F2 V hlt hn
def own_mk (c : Int32) : Prop := c = (152 : Int32) ∨ c = (156 : Int32)
def own_pt (out : List Int32) (c : Int32) : List Int32 := if (c = (152 : Int32) ∨ c = (156 : Int32)) then out else out ++ [c]
theorem own_ptT {out : List Int32} {c : Int32} (h : own_mk c) : own_pt out c = out := if_pos h
theorem own_ptF {out : List Int32} {c : Int32} (h : ¬ own_mk c) : own_pt out c = out ++ [c] := if_neg h
def own_flt (cs : List Int32) : List Int32 := cs.foldl own_pt []
theorem own_flt_take (cs : List Int32) {i : Nat} (h : i < cs.length) : own_flt (cs.take (i + 1)) = own_pt (own_flt (cs.take i)) cs[i] := by
  rw [← (own_take1 cs h).1, own_flt, List.foldl_append]; rfl
theorem own_pt_len (out : List Int32) (c : Int32) : (own_pt out c).length ≤ out.length + 1 ∧ (own_mk c → (own_pt out c).length = out.length) := by
  rcases Classical.em (own_mk c) with q | q
  · rw [own_ptT q]; exact ⟨Nat.le_succ _, fun _ => rfl⟩
  · rw [own_ptF q]; exact ⟨by simp, fun r => absurd r q⟩
theorem own_fold_len (cs out : List Int32) : (cs.foldl own_pt out).length ≤ out.length + cs.length ∧ ((∃ j, ∃ hj : j < cs.length, own_mk cs[j]) → (cs.foldl own_pt out).length < out.length + cs.length) := by
  induction cs generalizing out with
  | nil => exact ⟨Nat.le_refl _, fun ⟨j, hj, _⟩ => absurd hj (Nat.not_lt_zero _)⟩
  | cons c cs ih =>
    have h1 := own_pt_len out c
    have h2 := ih (own_pt out c)
    have hl : (c :: cs).length = cs.length + 1 := rfl
    rw [List.foldl_cons]
    refine ⟨by omega, fun ⟨j, hj, q⟩ => ?_⟩
    cases j with
    | zero => have h3 := h1.2 q; omega
    | succ j => have h3 := h2.2 ⟨j, Nat.lt_of_succ_lt_succ hj, q⟩; omega
theorem own_flt_len (cs : List Int32) (i : Nat) : (own_flt (cs.take i)).length ≤ i := by
  have h := (own_fold_len (cs.take i) []).1
  rw [List.length_take, List.length_nil] at h
  show (List.foldl own_pt [] (cs.take i)).length ≤ i
  omega
theorem own_flt_lt {cs : List Int32} (h : ∃ j, ∃ hj : j < cs.length, own_mk cs[j]) : (own_flt cs).length < cs.length := by
  have q := (own_fold_len cs []).2 h
  rw [List.length_nil, Nat.zero_add] at q; exact q
theorem own_fold_same (cs out : List Int32) (h : ∀ j (hj : j < cs.length), ¬ own_mk cs[j]) : cs.foldl own_pt out = out ++ cs := by
  induction cs generalizing out with
  | nil => simp
  | cons c cs ih =>
    have h0 : ¬ own_mk c := h 0 (by simp)
    rw [List.foldl_cons, ih (own_pt out c) (fun j hj => h (j + 1) (Nat.succ_lt_succ hj)), own_ptF h0, List.append_assoc]; rfl
theorem own_flt_same {cs : List Int32} (h : ∀ j (hj : j < cs.length), ¬ own_mk cs[j]) : own_flt cs = cs := own_fold_same cs [] h
theorem own_fold_all {P : Int32 → Prop} (cs out : List Int32) (h1 : ∀ c ∈ out, P c) (h2 : ∀ c ∈ cs, P c) : ∀ c ∈ cs.foldl own_pt out, P c := by
  induction cs generalizing out with
  | nil => exact h1
  | cons d cs ih =>
    rw [List.foldl_cons]
    refine ih (own_pt out d) (fun c hc => ?_) (fun c hc => h2 c (List.mem_cons_of_mem _ hc))
    rcases Classical.em (own_mk d) with q | q
    · rw [own_ptT q] at hc; exact h1 c hc
    · rw [own_ptF q] at hc
      rcases List.mem_append.mp hc with r | r
      · exact h1 c r
      · rw [List.mem_singleton.mp r]; exact h2 d (List.mem_cons_self)
theorem own_Bd_mem {cs : List Int32} : own_Bd cs ↔ ∀ c ∈ cs, ¬ (c < (0 : Int32)) ∧ ¬ ((65535 : Int32) < c) := by
  constructor
  · intro h c hc
    obtain ⟨j, hj, rfl⟩ := List.getElem_of_mem hc
    exact h j hj
  · intro h j hj
    exact h _ (List.getElem_mem hj)
theorem own_Bd_flt {cs : List Int32} (h : own_Bd cs) : own_Bd (own_flt cs) := own_Bd_mem.mpr (own_fold_all cs [] (fun c hc => absurd hc (List.not_mem_nil)) (own_Bd_mem.mp h))
theorem own_Bd_take {cs : List Int32} (h : own_Bd cs) (i : Nat) : own_Bd (own_flt (cs.take i)) := own_Bd_flt (own_Bd_mem.mpr fun c hc => own_Bd_mem.mp h c (List.mem_of_mem_take hc))
theorem own_flt_all (cs : List Int32) : own_flt (cs.take cs.length) = own_flt cs := by rw [List.take_length]
theorem own_mk_ex {cs : List Int32} (h : ∃ j, ∃ hj : j < cs.length, cs[j] = (152 : Int32)) : ∃ j, ∃ hj : j < cs.length, own_mk cs[j] := by obtain ⟨j, hj, q⟩ := h; exact ⟨j, hj, Or.inl q⟩
theorem own_mk_ex2 {cs : List Int32} (h : ∃ j, ∃ hj : j < cs.length, cs[j] = (156 : Int32)) : ∃ j, ∃ hj : j < cs.length, own_mk cs[j] := by obtain ⟨j, hj, q⟩ := h; exact ⟨j, hj, Or.inr q⟩
def own_dr (x : Int32) : Int32 := if (((x.toUInt32 >>> ((16 : Int32) &&& 31).toUInt32).toInt32) &&& (3 : Int32)) = (0 : Int32) then (152 : Int32) else if (((x.toUInt32 >>> ((16 : Int32) &&& 31).toUInt32).toInt32) &&& (3 : Int32)) = (1 : Int32) then (156 : Int32) else ((x &&& (65535 : Int32)).toUInt32.toUInt16.toUInt32.toInt32)
theorem own_c16 (x : Int32) : ¬ ((x.toUInt32.toUInt16.toUInt32.toInt32) < (0 : Int32)) ∧ ¬ ((65535 : Int32) < (x.toUInt32.toUInt16.toUInt32.toInt32)) := by
  have q := c_i2c x
  have z0 : (0 : Int32).toInt = 0 := rfl
  have z1 : (65535 : Int32).toInt = 65535 := rfl
  rw [Int32.lt_iff_toInt_lt, Int32.lt_iff_toInt_lt]
  omega
theorem own_drB (x : Int32) : ¬ (own_dr x < (0 : Int32)) ∧ ¬ ((65535 : Int32) < own_dr x) := by
  unfold own_dr
  split
  · decide
  · split
    · decide
    · exact own_c16 _
theorem own_all0 {P : Int32 → Prop} : ∀ j (hj : j < ([] : List Int32).length), P ([] : List Int32)[j] := fun j hj => absurd hj (Nat.not_lt_zero _)
theorem own_all1 {P : Int32 → Prop} {x : Int32} (hx : P x) : ∀ j (hj : j < [x].length), P [x][j]
  | 0, _ => hx
  | _ + 1, h => absurd h (by simp)
theorem own_all2 {P : Int32 → Prop} {x y : Int32} (hx : P x) (hy : P y) : ∀ j (hj : j < [x, y].length), P [x, y][j]
  | 0, _ => hx
  | 1, _ => hy
  | _ + 2, h => absurd h (by simp)
theorem own_all3 {P : Int32 → Prop} {x y z : Int32} (hx : P x) (hy : P y) (hz : P z) : ∀ j (hj : j < [x, y, z].length), P [x, y, z][j]
  | 0, _ => hx
  | 1, _ => hy
  | 2, _ => hz
  | _ + 3, h => absurd h (by simp)
theorem own_all4 {P : Int32 → Prop} {x y z w : Int32} (hx : P x) (hy : P y) (hz : P z) (hw : P w) : ∀ j (hj : j < [x, y, z, w].length), P [x, y, z, w][j]
  | 0, _ => hx
  | 1, _ => hy
  | 2, _ => hz
  | 3, _ => hw
  | _ + 4, h => absurd h (by simp)

def own_Qrm (Z : State) (a1 : Addr) (cs : List Int32) (h0 : Heap) (n0 : Nat) (v : Option Value) (h : Heap) (L : List Loc) : Prop := ∃ b : Addr, v = some (.ref b) ∧ Fr n0 L ∧ Keep h0 h [] ∧ own_Str Z h b (own_flt cs) ∧ ((own_flt cs).length = cs.length → b = a1)
theorem d5_36 : D5_ 36 = .ok (.iload_n 2, 1) := by decide +kernel
theorem d5_37 : D5_ 37 = .ok (.aload_n 0, 1) := by decide +kernel
theorem d5_38 : D5_ 38 = .ok (.invokevirtual 17, 3) := by decide +kernel
theorem d5_41 : D5_ 41 = .ok (.if_icmp .ge 35, 3) := by decide +kernel
theorem d5_44 : D5_ 44 = .ok (.aload_n 0, 1) := by decide +kernel
theorem d5_45 : D5_ 45 = .ok (.iload_n 2, 1) := by decide +kernel
theorem d5_46 : D5_ 46 = .ok (.invokevirtual 24, 3) := by decide +kernel
theorem pd_31 : parseMethodDescriptor "(I)C" = some ⟨[.int], some .char⟩ := by decide +kernel
theorem d5_49 : D5_ 49 = .ok (.istore_n 3, 1) := by decide +kernel
theorem os5_49 {z0 : Value} {z1 : Value} {z2 : Value} {s3 : Slot} {v : Int32} (h : One s3) : storeLocals #[.val z0, .val z1, .val z2, s3] 3 (.int v) = some #[.val z0, .val z1, .val z2, vI (v)] := by
  rcases h with rfl | ⟨w, rfl, hw⟩
  · rfl
  · cases w <;> first | rfl | (simp [Value.category] at hw)
theorem d5_50 : D5_ 50 = .ok (.iload_n 3, 1) := by decide +kernel
theorem d5_51 : D5_ 51 = .ok (.sipush 152, 3) := by decide +kernel
theorem d5_54 : D5_ 54 = .ok (.if_icmp .eq 16, 3) := by decide +kernel
theorem d5_70 : D5_ 70 = .ok (.iinc 2 1, 3) := by decide +kernel
theorem d5_73 : D5_ 73 = .ok (.goto (-37), 3) := by decide +kernel
theorem t_rm1 {p : Program} {l : Launch} {e : Env} {s : State} {m : MethodId} {args : Array Value} {below : List Frame} {meth : Method} {c : Code} {T0 : State} {locs : List Loc} {Z : State} {a0 : Array Value} {h0 : Heap} {n0 : Nat} (cs1 : Int32) (fv : Value) (a1 a3 : Addr) (cs : List Int32) (i : Nat) (hp_ : Heap) (s3 : Slot) (cells slots : Nat) (hce : cells + 0 ≤ 8) (hsl : slots + 0 ≤ 52)
    (X0 : Stand p l e (own_rm_ 8 8 52 115) s m args below meth c T0 locs cells slots) (hx : p.tables.exec = Jvm.exec) (hZ : Z.Warmed39 s.vm) (hw : own_HW a0 Z) (hby : c.code = prog_42_method_2_code) (hml : c.maxLocals = 4) (hown : s.vm.findClass "com/example/rubrique/rubrique/render/NonSortMarkers" = some m.cls) (e0 : T0.heap = h0) (N0 : Fr n0 locs) (O0 : Old Z n0 h0) (G : own_Ctx Z Z.heap cs1 fv) (hs3 : One s3) (S : own_Str Z hp_ a1 cs) (Kb : Keep hp_ h0 []) (hi : i < cs.length) (hn : cs.length ≤ 4) (hB : own_Bd cs) (q1 : cs[i] = (152 : Int32)) :
    ∃ (T' : State) (h' : Heap) (L' : List Loc), Stand p l e (own_rm_ 8 8 52 115) s m args below meth c T' L' cells slots ∧ T'.heap = h' ∧ Fr n0 L' ∧ Old Z n0 h' ∧ (h' = h0) ∧ ∀ target, Steps p.tables e below (T'.setTop (mkF m 36 #[vR (a1), vR (a3), vI ((i.toInt32 + (1 : Int32))), vI (cs[i])] [])) target → Steps p.tables e below (T0.setTop (mkF m 36 #[vR (a1), vR (a3), vI (i.toInt32), s3] [])) target := by
  have G0 := G
  obtain ⟨cq1, kq1, q1a, q1b, q1c⟩ := isOf hZ e0 (own_Str_exa (own_Str_keep Kb S))
  obtain ⟨_, _, ⟨T1, L1, k1, n1⟩, -, X1, ⟨Lc1, hQ1, l1, y1, z1⟩, st1⟩ := X0.virtualBack hx (y := Y18_) (z := Y18_) hown (mvT hZ (own_w hw 97 rfl)) (mvT hZ (own_w hw 48 rfl)) (notFace_of_selects (args := #[]) (mvT hZ (own_w hw 50 rfl))) (mvT hZ (own_w hw 50 rfl)) (mvT hZ (own_w hw 49 rfl)) (by decide) (backOf (W := 1) (r_len l Z a0 hw [] cs1 fv h0 n0 O0 G0 a1 cs (own_Str_keep Kb S) hn) hZ (own_w hw 51 rfl) (own_w hw 8 rfl) (by decide) (by decide)) q1a q1c (g := (mkF m 38 #[vR (a1), vR (a3), vI (i.toInt32), s3] [(.ref a1), (.int i.toInt32)])) rfl (by rw [hml]; rfl) (Steps.refl _) (argsL := []) (rest := [(.int i.toInt32)]) (lenOf pd_21 rfl) rfl (by show 2 * 0 + _ ≤ _; exact Nat.le_of_eq rfl) (hb hby d5_38) (fun _ _ => ⟨rfl, e0, (own_room hce (by decide)), (own_room hsl (by decide))⟩)
  dsimp only [Pt.U, Pt.locs, Pt.cells, Pt.slots] at X1 l1 y1 z1 st1 hQ1
  subst l1 y1 z1
  obtain ⟨rfl, N1q, e1⟩ := hQ1
  have N1 := Fr.app N0 N1q
  obtain ⟨cq2, kq2, q2a, q2b, q2c⟩ := isOf hZ e1 (own_Str_exa (own_Str_keep Kb S))
  obtain ⟨_, _, ⟨T2, L2, k2, n2⟩, -, X2, ⟨Lc2, hQ2, l2, y2, z2⟩, st2⟩ := X1.virtualBack hx (y := Y19_) (z := Y19_) hown (mvT hZ (own_w hw 113 rfl)) (mvT hZ (own_w hw 114 rfl)) (notFace_of_selects (args := #[]) (mvT hZ (own_w hw 116 rfl))) (mvT hZ (own_w hw 116 rfl)) (mvT hZ (own_w hw 115 rfl)) (by decide) (backOf (W := 0) (r_ch l Z a0 hw [] cs1 fv h0 n0 O0 G0 a1 cs (own_Str_keep Kb S) i hi hn hB) hZ (own_w hw 117 rfl) (own_w hw 8 rfl) (by decide) (by decide)) q2a q2c (g := (mkF m 46 #[vR (a1), vR (a3), vI (i.toInt32), s3] [(.int i.toInt32), (.ref a1)])) rfl (by rw [hml]; rfl) (Steps.refl _) (argsL := [(.int i.toInt32)]) (rest := []) (lenOf pd_31 rfl) rfl (by show 2 * 0 + _ ≤ _; exact Nat.le_of_eq rfl) (hb hby d5_46) (fun _ _ => ⟨rfl, e1, (own_room hce (by decide)), (own_room hsl (by decide))⟩)
  dsimp only [Pt.U, Pt.locs, Pt.cells, Pt.slots] at X2 l2 y2 z2 st2 hQ2
  subst l2 y2 z2
  obtain ⟨rfl, N2q, e2⟩ := hQ2
  have N2 := Fr.app N1 N2q
  refine ⟨T2, h0, _, X2, e2, N2, O0, rfl, fun target kt => ?_⟩
  show own_St p e below T0 m 36 #[vR (a1), vR (a3), vI (i.toInt32), s3] [] _
  refine XS.iloadN X0.here hx rfl (hb hby d5_36) rfl ?_
  refine XS.aloadN X0.here hx rfl (hb hby d5_37) rfl rfl ?_
  show own_St p e below T0 m 38 #[vR (a1), vR (a3), vI (i.toInt32), s3] [(.ref a1), (.int i.toInt32)] _
  refine st1.trans ?_
  show own_St p e below T1 m 41 #[vR (a1), vR (a3), vI (i.toInt32), s3] [(.int cs.length.toInt32), (.int i.toInt32)] _
  refine XS.icmpNo X1.here hx rfl (hb hby d5_41) rfl (tlt ((own_tl hi (own_k hn)) : i.toInt32 < cs.length.toInt32)).2.1 ?_
  refine XS.aloadN X1.here hx rfl (hb hby d5_44) rfl rfl ?_
  refine XS.iloadN X1.here hx rfl (hb hby d5_45) rfl ?_
  show own_St p e below T1 m 46 #[vR (a1), vR (a3), vI (i.toInt32), s3] [(.int i.toInt32), (.ref a1)] _
  refine st2.trans ?_
  show own_St p e below T2 m 49 #[vR (a1), vR (a3), vI (i.toInt32), s3] [(.int cs[i])] _
  refine XS.istoreN X2.here hx rfl (hb hby d5_49) rfl (l' := #[vR (a1), vR (a3), vI (i.toInt32), vI (cs[i])]) (os5_49 hs3) ?_
  refine XS.iloadN X2.here hx rfl (hb hby d5_50) rfl ?_
  refine XS.sipush X2.here hx rfl (hb hby d5_51) ?_
  refine XS.icmpYes X2.here hx rfl (pc0 := 54) (pc' := 70) rfl (hb hby d5_54) rfl (teq (q1 : cs[i] = (152 : Int32))).1 (by decide) (by decide) ?_
  show own_St p e below T2 m 70 #[vR (a1), vR (a3), vI (i.toInt32), vI (cs[i])] [] _
  refine XS.iinc X2.here hx rfl (hb hby d5_70) rfl (l' := #[vR (a1), vR (a3), vI ((i.toInt32 + (1 : Int32))), vI (cs[i])]) rfl ?_
  show own_St p e below T2 m 73 #[vR (a1), vR (a3), vI ((i.toInt32 + (1 : Int32))), vI (cs[i])] [] _
  refine XS.goto X2.here hx rfl (pc0 := 73) (pc' := 36) rfl (hb hby d5_73) (by decide) (by decide) ?_
  exact kt
theorem d5_57 : D5_ 57 = .ok (.iload_n 3, 1) := by decide +kernel
theorem d5_58 : D5_ 58 = .ok (.sipush 156, 3) := by decide +kernel
theorem d5_61 : D5_ 61 = .ok (.if_icmp .eq 9, 3) := by decide +kernel
theorem t_rm2 {p : Program} {l : Launch} {e : Env} {s : State} {m : MethodId} {args : Array Value} {below : List Frame} {meth : Method} {c : Code} {T0 : State} {locs : List Loc} {Z : State} {a0 : Array Value} {h0 : Heap} {n0 : Nat} (cs1 : Int32) (fv : Value) (a1 a3 : Addr) (cs : List Int32) (i : Nat) (hp_ : Heap) (s3 : Slot) (cells slots : Nat) (hce : cells + 0 ≤ 8) (hsl : slots + 0 ≤ 52)
    (X0 : Stand p l e (own_rm_ 8 8 52 115) s m args below meth c T0 locs cells slots) (hx : p.tables.exec = Jvm.exec) (hZ : Z.Warmed39 s.vm) (hw : own_HW a0 Z) (hby : c.code = prog_42_method_2_code) (hml : c.maxLocals = 4) (hown : s.vm.findClass "com/example/rubrique/rubrique/render/NonSortMarkers" = some m.cls) (e0 : T0.heap = h0) (N0 : Fr n0 locs) (O0 : Old Z n0 h0) (G : own_Ctx Z Z.heap cs1 fv) (hs3 : One s3) (S : own_Str Z hp_ a1 cs) (Kb : Keep hp_ h0 []) (hi : i < cs.length) (hn : cs.length ≤ 4) (hB : own_Bd cs) (q1 : ¬ (cs[i] = (152 : Int32))) (q2 : cs[i] = (156 : Int32)) :
    ∃ (T' : State) (h' : Heap) (L' : List Loc), Stand p l e (own_rm_ 8 8 52 115) s m args below meth c T' L' cells slots ∧ T'.heap = h' ∧ Fr n0 L' ∧ Old Z n0 h' ∧ (h' = h0) ∧ ∀ target, Steps p.tables e below (T'.setTop (mkF m 36 #[vR (a1), vR (a3), vI ((i.toInt32 + (1 : Int32))), vI (cs[i])] [])) target → Steps p.tables e below (T0.setTop (mkF m 36 #[vR (a1), vR (a3), vI (i.toInt32), s3] [])) target := by
  have G0 := G
  obtain ⟨cq1, kq1, q1a, q1b, q1c⟩ := isOf hZ e0 (own_Str_exa (own_Str_keep Kb S))
  obtain ⟨_, _, ⟨T1, L1, k1, n1⟩, -, X1, ⟨Lc1, hQ1, l1, y1, z1⟩, st1⟩ := X0.virtualBack hx (y := Y18_) (z := Y18_) hown (mvT hZ (own_w hw 97 rfl)) (mvT hZ (own_w hw 48 rfl)) (notFace_of_selects (args := #[]) (mvT hZ (own_w hw 50 rfl))) (mvT hZ (own_w hw 50 rfl)) (mvT hZ (own_w hw 49 rfl)) (by decide) (backOf (W := 1) (r_len l Z a0 hw [] cs1 fv h0 n0 O0 G0 a1 cs (own_Str_keep Kb S) hn) hZ (own_w hw 51 rfl) (own_w hw 8 rfl) (by decide) (by decide)) q1a q1c (g := (mkF m 38 #[vR (a1), vR (a3), vI (i.toInt32), s3] [(.ref a1), (.int i.toInt32)])) rfl (by rw [hml]; rfl) (Steps.refl _) (argsL := []) (rest := [(.int i.toInt32)]) (lenOf pd_21 rfl) rfl (by show 2 * 0 + _ ≤ _; exact Nat.le_of_eq rfl) (hb hby d5_38) (fun _ _ => ⟨rfl, e0, (own_room hce (by decide)), (own_room hsl (by decide))⟩)
  dsimp only [Pt.U, Pt.locs, Pt.cells, Pt.slots] at X1 l1 y1 z1 st1 hQ1
  subst l1 y1 z1
  obtain ⟨rfl, N1q, e1⟩ := hQ1
  have N1 := Fr.app N0 N1q
  obtain ⟨cq2, kq2, q2a, q2b, q2c⟩ := isOf hZ e1 (own_Str_exa (own_Str_keep Kb S))
  obtain ⟨_, _, ⟨T2, L2, k2, n2⟩, -, X2, ⟨Lc2, hQ2, l2, y2, z2⟩, st2⟩ := X1.virtualBack hx (y := Y19_) (z := Y19_) hown (mvT hZ (own_w hw 113 rfl)) (mvT hZ (own_w hw 114 rfl)) (notFace_of_selects (args := #[]) (mvT hZ (own_w hw 116 rfl))) (mvT hZ (own_w hw 116 rfl)) (mvT hZ (own_w hw 115 rfl)) (by decide) (backOf (W := 0) (r_ch l Z a0 hw [] cs1 fv h0 n0 O0 G0 a1 cs (own_Str_keep Kb S) i hi hn hB) hZ (own_w hw 117 rfl) (own_w hw 8 rfl) (by decide) (by decide)) q2a q2c (g := (mkF m 46 #[vR (a1), vR (a3), vI (i.toInt32), s3] [(.int i.toInt32), (.ref a1)])) rfl (by rw [hml]; rfl) (Steps.refl _) (argsL := [(.int i.toInt32)]) (rest := []) (lenOf pd_31 rfl) rfl (by show 2 * 0 + _ ≤ _; exact Nat.le_of_eq rfl) (hb hby d5_46) (fun _ _ => ⟨rfl, e1, (own_room hce (by decide)), (own_room hsl (by decide))⟩)
  dsimp only [Pt.U, Pt.locs, Pt.cells, Pt.slots] at X2 l2 y2 z2 st2 hQ2
  subst l2 y2 z2
  obtain ⟨rfl, N2q, e2⟩ := hQ2
  have N2 := Fr.app N1 N2q
  refine ⟨T2, h0, _, X2, e2, N2, O0, rfl, fun target kt => ?_⟩
  show own_St p e below T0 m 36 #[vR (a1), vR (a3), vI (i.toInt32), s3] [] _
  refine XS.iloadN X0.here hx rfl (hb hby d5_36) rfl ?_
  refine XS.aloadN X0.here hx rfl (hb hby d5_37) rfl rfl ?_
  show own_St p e below T0 m 38 #[vR (a1), vR (a3), vI (i.toInt32), s3] [(.ref a1), (.int i.toInt32)] _
  refine st1.trans ?_
  show own_St p e below T1 m 41 #[vR (a1), vR (a3), vI (i.toInt32), s3] [(.int cs.length.toInt32), (.int i.toInt32)] _
  refine XS.icmpNo X1.here hx rfl (hb hby d5_41) rfl (tlt ((own_tl hi (own_k hn)) : i.toInt32 < cs.length.toInt32)).2.1 ?_
  refine XS.aloadN X1.here hx rfl (hb hby d5_44) rfl rfl ?_
  refine XS.iloadN X1.here hx rfl (hb hby d5_45) rfl ?_
  show own_St p e below T1 m 46 #[vR (a1), vR (a3), vI (i.toInt32), s3] [(.int i.toInt32), (.ref a1)] _
  refine st2.trans ?_
  show own_St p e below T2 m 49 #[vR (a1), vR (a3), vI (i.toInt32), s3] [(.int cs[i])] _
  refine XS.istoreN X2.here hx rfl (hb hby d5_49) rfl (l' := #[vR (a1), vR (a3), vI (i.toInt32), vI (cs[i])]) (os5_49 hs3) ?_
  refine XS.iloadN X2.here hx rfl (hb hby d5_50) rfl ?_
  refine XS.sipush X2.here hx rfl (hb hby d5_51) ?_
  refine XS.icmpNo X2.here hx rfl (hb hby d5_54) rfl (feq (q1 : ¬ (cs[i] = (152 : Int32)))).1 ?_
  refine XS.iloadN X2.here hx rfl (hb hby d5_57) rfl ?_
  refine XS.sipush X2.here hx rfl (hb hby d5_58) ?_
  refine XS.icmpYes X2.here hx rfl (pc0 := 61) (pc' := 70) rfl (hb hby d5_61) rfl (teq (q2 : cs[i] = (156 : Int32))).1 (by decide) (by decide) ?_
  show own_St p e below T2 m 70 #[vR (a1), vR (a3), vI (i.toInt32), vI (cs[i])] [] _
  refine XS.iinc X2.here hx rfl (hb hby d5_70) rfl (l' := #[vR (a1), vR (a3), vI ((i.toInt32 + (1 : Int32))), vI (cs[i])]) rfl ?_
  show own_St p e below T2 m 73 #[vR (a1), vR (a3), vI ((i.toInt32 + (1 : Int32))), vI (cs[i])] [] _
  refine XS.goto X2.here hx rfl (pc0 := 73) (pc' := 36) rfl (hb hby d5_73) (by decide) (by decide) ?_
  exact kt
theorem d5_64 : D5_ 64 = .ok (.aload_n 1, 1) := by decide +kernel
theorem d5_65 : D5_ 65 = .ok (.iload_n 3, 1) := by decide +kernel
theorem d5_66 : D5_ 66 = .ok (.invokevirtual 28, 3) := by decide +kernel
theorem pd_32 : parseMethodDescriptor "(C)Ljava/lang/StringBuilder;" = some ⟨[.char], some (.object "java/lang/StringBuilder")⟩ := by decide +kernel
theorem d5_69 : D5_ 69 = .ok (.pop, 1) := by decide +kernel
theorem t_rm3 {p : Program} {l : Launch} {e : Env} {s : State} {m : MethodId} {args : Array Value} {below : List Frame} {meth : Method} {c : Code} {T0 : State} {locs : List Loc} {Z : State} {a0 : Array Value} {h0 : Heap} {n0 : Nat} (cs1 : Int32) (fv : Value) (a1 a3 : Addr) (cs : List Int32) (i : Nat) (hp_ : Heap) (s3 : Slot) (cells slots : Nat) (hce : cells + 1 ≤ 8) (hsl : slots + 8 ≤ 52)
    (X0 : Stand p l e (own_rm_ 8 8 52 115) s m args below meth c T0 locs cells slots) (hx : p.tables.exec = Jvm.exec) (hZ : Z.Warmed39 s.vm) (hw : own_HW a0 Z) (hby : c.code = prog_42_method_2_code) (hml : c.maxLocals = 4) (hown : s.vm.findClass "com/example/rubrique/rubrique/render/NonSortMarkers" = some m.cls) (e0 : T0.heap = h0) (N0 : Fr n0 locs) (O0 : Old Z n0 h0) (G : own_Ctx Z Z.heap cs1 fv) (hs3 : One s3) (S : own_Str Z hp_ a1 cs) (Kb : Keep hp_ h0 []) (hi : i < cs.length) (hn : cs.length ≤ 4) (hB : own_Bd cs) (q1 : ¬ (cs[i] = (152 : Int32))) (q2 : ¬ (cs[i] = (156 : Int32))) (B : own_SB Z h0 hp_.size a3 cs (own_flt (cs.take i))) (gf : n0 ≤ hp_.size) :
    ∃ (T' : State) (h' : Heap) (L' : List Loc), Stand p l e (own_rm_ 8 8 52 115) s m args below meth c T' L' (cells + 1) (slots + 8) ∧ T'.heap = h' ∧ Fr n0 L' ∧ Old Z n0 h' ∧ (Keep hp_ h' []) ∧ (own_SB Z h' hp_.size a3 cs (own_flt (cs.take i) ++ [cs[i]])) ∧ ∀ target, Steps p.tables e below (T'.setTop (mkF m 36 #[vR (a1), vR (a3), vI ((i.toInt32 + (1 : Int32))), vI (cs[i])] [])) target → Steps p.tables e below (T0.setTop (mkF m 36 #[vR (a1), vR (a3), vI (i.toInt32), s3] [])) target := by
  have G0 := G
  obtain ⟨cq1, kq1, q1a, q1b, q1c⟩ := isOf hZ e0 (own_Str_exa (own_Str_keep Kb S))
  obtain ⟨_, _, ⟨T1, L1, k1, n1⟩, -, X1, ⟨Lc1, hQ1, l1, y1, z1⟩, st1⟩ := X0.virtualBack hx (y := Y18_) (z := Y18_) hown (mvT hZ (own_w hw 97 rfl)) (mvT hZ (own_w hw 48 rfl)) (notFace_of_selects (args := #[]) (mvT hZ (own_w hw 50 rfl))) (mvT hZ (own_w hw 50 rfl)) (mvT hZ (own_w hw 49 rfl)) (by decide) (backOf (W := 1) (r_len l Z a0 hw [] cs1 fv h0 n0 O0 G0 a1 cs (own_Str_keep Kb S) hn) hZ (own_w hw 51 rfl) (own_w hw 8 rfl) (by decide) (by decide)) q1a q1c (g := (mkF m 38 #[vR (a1), vR (a3), vI (i.toInt32), s3] [(.ref a1), (.int i.toInt32)])) rfl (by rw [hml]; rfl) (Steps.refl _) (argsL := []) (rest := [(.int i.toInt32)]) (lenOf pd_21 rfl) rfl (by show 2 * 0 + _ ≤ _; exact Nat.le_of_eq rfl) (hb hby d5_38) (fun _ _ => ⟨rfl, e0, (own_room hce (by decide)), (own_room hsl (by decide))⟩)
  dsimp only [Pt.U, Pt.locs, Pt.cells, Pt.slots] at X1 l1 y1 z1 st1 hQ1
  subst l1 y1 z1
  obtain ⟨rfl, N1q, e1⟩ := hQ1
  have N1 := Fr.app N0 N1q
  obtain ⟨cq2, kq2, q2a, q2b, q2c⟩ := isOf hZ e1 (own_Str_exa (own_Str_keep Kb S))
  obtain ⟨_, _, ⟨T2, L2, k2, n2⟩, -, X2, ⟨Lc2, hQ2, l2, y2, z2⟩, st2⟩ := X1.virtualBack hx (y := Y19_) (z := Y19_) hown (mvT hZ (own_w hw 113 rfl)) (mvT hZ (own_w hw 114 rfl)) (notFace_of_selects (args := #[]) (mvT hZ (own_w hw 116 rfl))) (mvT hZ (own_w hw 116 rfl)) (mvT hZ (own_w hw 115 rfl)) (by decide) (backOf (W := 0) (r_ch l Z a0 hw [] cs1 fv h0 n0 O0 G0 a1 cs (own_Str_keep Kb S) i hi hn hB) hZ (own_w hw 117 rfl) (own_w hw 8 rfl) (by decide) (by decide)) q2a q2c (g := (mkF m 46 #[vR (a1), vR (a3), vI (i.toInt32), s3] [(.int i.toInt32), (.ref a1)])) rfl (by rw [hml]; rfl) (Steps.refl _) (argsL := [(.int i.toInt32)]) (rest := []) (lenOf pd_31 rfl) rfl (by show 2 * 0 + _ ≤ _; exact Nat.le_of_eq rfl) (hb hby d5_46) (fun _ _ => ⟨rfl, e1, (own_room hce (by decide)), (own_room hsl (by decide))⟩)
  dsimp only [Pt.U, Pt.locs, Pt.cells, Pt.slots] at X2 l2 y2 z2 st2 hQ2
  subst l2 y2 z2
  obtain ⟨rfl, N2q, e2⟩ := hQ2
  have N2 := Fr.app N1 N2q
  obtain ⟨cq3, kq3, q3a, q3b, q3c⟩ := isOf hZ e2 (own_SB_exa B)
  obtain ⟨_, _, ⟨T3, L3, k3, n3⟩, -, X3, ⟨Lc3, hQ3, l3, y3, z3⟩, st3⟩ := X2.virtualBack hx (y := Y46_) (z := Y46_) hown (mvT hZ (own_w hw 229 rfl)) (mvT hZ (own_w hw 230 rfl)) (notFace_of_selects (args := #[]) (mvT hZ (own_w hw 232 rfl))) (mvT hZ (own_w hw 232 rfl)) (mvT hZ (own_w hw 231 rfl)) (by decide) (backOf (W := 0) (r_app l Z a0 hw [] cs1 fv h0 n0 O0 G0 a3 hp_.size cs (own_flt (cs.take i)) cs[i] B gf (by have := own_flt_len cs i; omega) hn (own_Bd_take hB i)) hZ (own_w hw 233 rfl) (own_w hw 96 rfl) (by decide) (by decide)) q3a q3c (g := (mkF m 66 #[vR (a1), vR (a3), vI (i.toInt32), vI (cs[i])] [(.int cs[i]), (.ref a3)])) rfl (by rw [hml]; rfl) (Steps.refl _) (argsL := [(.int cs[i])]) (rest := []) (lenOf pd_32 rfl) rfl (by show 2 * 0 + _ ≤ _; exact Nat.le_of_eq rfl) (hb hby d5_66) (fun _ _ => ⟨rfl, e2, (own_room hce (by decide)), (own_room hsl (by decide))⟩)
  dsimp only [Pt.U, Pt.locs, Pt.cells, Pt.slots] at X3 l3 y3 z3 st3 hQ3
  subst l3 y3 z3
  obtain ⟨ws3, rfl, N3q, hws3, Kq3, Bq3⟩ := hQ3
  have N3 := Fr.app N2 N3q
  have O3 := O0.keep Kq3 (fun x q => Nat.le_trans gf (hws3 x q))
  refine ⟨T3, T3.heap, _, X3, rfl, N3, O3, (Keep.trans Kb Kq3 (fun x q => Or.inr (hws3 x q))), Bq3, fun target kt => ?_⟩
  show own_St p e below T0 m 36 #[vR (a1), vR (a3), vI (i.toInt32), s3] [] _
  refine XS.iloadN X0.here hx rfl (hb hby d5_36) rfl ?_
  refine XS.aloadN X0.here hx rfl (hb hby d5_37) rfl rfl ?_
  show own_St p e below T0 m 38 #[vR (a1), vR (a3), vI (i.toInt32), s3] [(.ref a1), (.int i.toInt32)] _
  refine st1.trans ?_
  show own_St p e below T1 m 41 #[vR (a1), vR (a3), vI (i.toInt32), s3] [(.int cs.length.toInt32), (.int i.toInt32)] _
  refine XS.icmpNo X1.here hx rfl (hb hby d5_41) rfl (tlt ((own_tl hi (own_k hn)) : i.toInt32 < cs.length.toInt32)).2.1 ?_
  refine XS.aloadN X1.here hx rfl (hb hby d5_44) rfl rfl ?_
  refine XS.iloadN X1.here hx rfl (hb hby d5_45) rfl ?_
  show own_St p e below T1 m 46 #[vR (a1), vR (a3), vI (i.toInt32), s3] [(.int i.toInt32), (.ref a1)] _
  refine st2.trans ?_
  show own_St p e below T2 m 49 #[vR (a1), vR (a3), vI (i.toInt32), s3] [(.int cs[i])] _
  refine XS.istoreN X2.here hx rfl (hb hby d5_49) rfl (l' := #[vR (a1), vR (a3), vI (i.toInt32), vI (cs[i])]) (os5_49 hs3) ?_
  refine XS.iloadN X2.here hx rfl (hb hby d5_50) rfl ?_
  refine XS.sipush X2.here hx rfl (hb hby d5_51) ?_
  refine XS.icmpNo X2.here hx rfl (hb hby d5_54) rfl (feq (q1 : ¬ (cs[i] = (152 : Int32)))).1 ?_
  refine XS.iloadN X2.here hx rfl (hb hby d5_57) rfl ?_
  refine XS.sipush X2.here hx rfl (hb hby d5_58) ?_
  refine XS.icmpNo X2.here hx rfl (hb hby d5_61) rfl (feq (q2 : ¬ (cs[i] = (156 : Int32)))).1 ?_
  refine XS.aloadN X2.here hx rfl (hb hby d5_64) rfl rfl ?_
  refine XS.iloadN X2.here hx rfl (hb hby d5_65) rfl ?_
  show own_St p e below T2 m 66 #[vR (a1), vR (a3), vI (i.toInt32), vI (cs[i])] [(.int cs[i]), (.ref a3)] _
  refine st3.trans ?_
  show own_St p e below T3 m 69 #[vR (a1), vR (a3), vI (i.toInt32), vI (cs[i])] [(.ref a3)] _
  refine XS.pop X3.here hx rfl (hb hby d5_69) rfl rfl ?_
  show own_St p e below T3 m 70 #[vR (a1), vR (a3), vI (i.toInt32), vI (cs[i])] [] _
  refine XS.iinc X3.here hx rfl (hb hby d5_70) rfl (l' := #[vR (a1), vR (a3), vI ((i.toInt32 + (1 : Int32))), vI (cs[i])]) rfl ?_
  show own_St p e below T3 m 73 #[vR (a1), vR (a3), vI ((i.toInt32 + (1 : Int32))), vI (cs[i])] [] _
  refine XS.goto X3.here hx rfl (pc0 := 73) (pc' := 36) rfl (hb hby d5_73) (by decide) (by decide) ?_
  exact kt
theorem t_rme {p : Program} {l : Launch} {e : Env} {s : State} {m : MethodId} {args : Array Value} {below : List Frame} {meth : Method} {c : Code} {T0 : State} {locs : List Loc} {Z : State} {a0 : Array Value} {h0 : Heap} {n0 : Nat} (cs1 : Int32) (fv : Value) (a1 a3 : Addr) (cs : List Int32) (hp_ : Heap) (s3 : Slot) (cells slots : Nat) (hce : cells + 0 ≤ 8) (hsl : slots + 0 ≤ 52)
    (X0 : Stand p l e (own_rm_ 8 8 52 115) s m args below meth c T0 locs cells slots) (hx : p.tables.exec = Jvm.exec) (hZ : Z.Warmed39 s.vm) (hw : own_HW a0 Z) (hby : c.code = prog_42_method_2_code) (hml : c.maxLocals = 4) (hown : s.vm.findClass "com/example/rubrique/rubrique/render/NonSortMarkers" = some m.cls) (e0 : T0.heap = h0) (N0 : Fr n0 locs) (O0 : Old Z n0 h0) (G : own_Ctx Z Z.heap cs1 fv) (S : own_Str Z hp_ a1 cs) (Kb : Keep hp_ h0 []) (hn : cs.length ≤ 4) :
    ∃ (T' : State) (h' : Heap) (L' : List Loc), Stand p l e (own_rm_ 8 8 52 115) s m args below meth c T' L' cells slots ∧ T'.heap = h' ∧ Fr n0 L' ∧ Old Z n0 h' ∧ (h' = h0) ∧ ∀ target, Steps p.tables e below (T'.setTop (mkF m 76 #[vR (a1), vR (a3), vI (cs.length.toInt32), s3] [])) target → Steps p.tables e below (T0.setTop (mkF m 36 #[vR (a1), vR (a3), vI (cs.length.toInt32), s3] [])) target := by
  have G0 := G
  obtain ⟨cq1, kq1, q1a, q1b, q1c⟩ := isOf hZ e0 (own_Str_exa (own_Str_keep Kb S))
  obtain ⟨_, _, ⟨T1, L1, k1, n1⟩, -, X1, ⟨Lc1, hQ1, l1, y1, z1⟩, st1⟩ := X0.virtualBack hx (y := Y18_) (z := Y18_) hown (mvT hZ (own_w hw 97 rfl)) (mvT hZ (own_w hw 48 rfl)) (notFace_of_selects (args := #[]) (mvT hZ (own_w hw 50 rfl))) (mvT hZ (own_w hw 50 rfl)) (mvT hZ (own_w hw 49 rfl)) (by decide) (backOf (W := 1) (r_len l Z a0 hw [] cs1 fv h0 n0 O0 G0 a1 cs (own_Str_keep Kb S) hn) hZ (own_w hw 51 rfl) (own_w hw 8 rfl) (by decide) (by decide)) q1a q1c (g := (mkF m 38 #[vR (a1), vR (a3), vI (cs.length.toInt32), s3] [(.ref a1), (.int cs.length.toInt32)])) rfl (by rw [hml]; rfl) (Steps.refl _) (argsL := []) (rest := [(.int cs.length.toInt32)]) (lenOf pd_21 rfl) rfl (by show 2 * 0 + _ ≤ _; exact Nat.le_of_eq rfl) (hb hby d5_38) (fun _ _ => ⟨rfl, e0, (own_room hce (by decide)), (own_room hsl (by decide))⟩)
  dsimp only [Pt.U, Pt.locs, Pt.cells, Pt.slots] at X1 l1 y1 z1 st1 hQ1
  subst l1 y1 z1
  obtain ⟨rfl, N1q, e1⟩ := hQ1
  have N1 := Fr.app N0 N1q
  refine ⟨T1, h0, _, X1, e1, N1, O0, rfl, fun target kt => ?_⟩
  show own_St p e below T0 m 36 #[vR (a1), vR (a3), vI (cs.length.toInt32), s3] [] _
  refine XS.iloadN X0.here hx rfl (hb hby d5_36) rfl ?_
  refine XS.aloadN X0.here hx rfl (hb hby d5_37) rfl rfl ?_
  show own_St p e below T0 m 38 #[vR (a1), vR (a3), vI (cs.length.toInt32), s3] [(.ref a1), (.int cs.length.toInt32)] _
  refine st1.trans ?_
  show own_St p e below T1 m 41 #[vR (a1), vR (a3), vI (cs.length.toInt32), s3] [(.int cs.length.toInt32), (.int cs.length.toInt32)] _
  refine XS.icmpYes X1.here hx rfl (pc0 := 41) (pc' := 76) rfl (hb hby d5_41) rfl (flt (own_irr _ : ¬ (cs.length.toInt32 < cs.length.toInt32))).2.1 (by decide) (by decide) ?_
  exact kt
theorem own_rm {p : Program} {l : Launch} {e : Env} {s : State} {m : MethodId} {args : Array Value} {below : List Frame} {meth : Method} {c : Code} {Z : State} {a0 : Array Value} {n0 : Nat} (cs1 : Int32) (fv : Value) (a1 a3 : Addr) (cs : List Int32) (hp_ : Heap)
    (hx : p.tables.exec = Jvm.exec) (hZ : Z.Warmed39 s.vm) (hw : own_HW a0 Z) (hby : c.code = prog_42_method_2_code) (hml : c.maxLocals = 4) (hown : s.vm.findClass "com/example/rubrique/rubrique/render/NonSortMarkers" = some m.cls) (G : own_Ctx Z Z.heap cs1 fv) (S : own_Str Z hp_ a1 cs) (gf : n0 ≤ hp_.size) (hn : cs.length ≤ 4) (hB : own_Bd cs) :
    ∀ (k i : Nat) (T0 : State) (h0 : Heap) (locs : List Loc) (s3 : Slot) (cells slots : Nat), i + k = cs.length → cells + 1 * k ≤ 8 → slots + 8 * k ≤ 52 → One s3 → Stand p l e (own_rm_ 8 8 52 115) s m args below meth c T0 locs cells slots → T0.heap = h0 → Fr n0 locs → Old Z n0 h0 → Keep hp_ h0 [] → own_SB Z h0 hp_.size a3 cs (own_flt (cs.take i)) →
    ∃ (T' : State) (h' : Heap) (L' : List Loc) (s3' : Slot), Stand p l e (own_rm_ 8 8 52 115) s m args below meth c T' L' (cells + 1 * k) (slots + 8 * k) ∧ T'.heap = h' ∧ Fr n0 L' ∧ Old Z n0 h' ∧ Keep hp_ h' [] ∧ own_SB Z h' hp_.size a3 cs (own_flt cs) ∧
      ∀ target, Steps p.tables e below (T'.setTop (mkF m 76 #[vR (a1), vR (a3), vI (cs.length.toInt32), s3'] [])) target → Steps p.tables e below (T0.setTop (mkF m 36 #[vR (a1), vR (a3), vI (i.toInt32), s3] [])) target := by
  intro k
  induction k with
  | zero =>
    intro i T0 h0 locs s3 cells slots hi hce hsl hs3 X0 e0 N0 O0 Kb B
    obtain rfl : i = cs.length := by omega
    obtain ⟨T1, h1, L1, X1, e1, N1, O1, q1, st⟩ := t_rme cs1 fv a1 a3 cs hp_ s3 cells slots (by omega) (by omega) X0 hx hZ hw hby hml hown e0 N0 O0 G S Kb hn
    subst q1
    rw [own_flt_all] at B
    exact ⟨T1, _, L1, s3, X1, e1, N1, O1, Kb, B, st⟩
  | succ k ih =>
    intro i T0 h0 locs s3 cells slots hi hce hsl hs3 X0 e0 N0 O0 Kb B
    have hlt : i < cs.length := by omega
    have hc1 : cells + 1 ≤ 8 := by omega
    have hs1 : slots + 8 ≤ 52 := by omega
    obtain ⟨T1, h1, L1, X1, e1, N1, O1, Kb1, B1, st1⟩ : ∃ (T1 : State) (h1 : Heap) (L1 : List Loc), Stand p l e (own_rm_ 8 8 52 115) s m args below meth c T1 L1 (cells + 1) (slots + 8) ∧ T1.heap = h1 ∧ Fr n0 L1 ∧ Old Z n0 h1 ∧ Keep hp_ h1 [] ∧ own_SB Z h1 hp_.size a3 cs (own_flt (cs.take (i + 1))) ∧ ∀ target, Steps p.tables e below (T1.setTop (mkF m 36 #[vR (a1), vR (a3), vI ((i.toInt32 + (1 : Int32))), vI (cs[i])] [])) target → Steps p.tables e below (T0.setTop (mkF m 36 #[vR (a1), vR (a3), vI (i.toInt32), s3] [])) target := by
      rcases Classical.em (cs[i] = (152 : Int32)) with q1 | q1
      · obtain ⟨T1, h1, L1, X1, e1, N1, O1, w1, st⟩ := t_rm1 cs1 fv a1 a3 cs i hp_ s3 cells slots (by omega) (by omega) X0 hx hZ hw hby hml hown e0 N0 O0 G hs3 S Kb hlt hn hB q1
        subst w1
        exact ⟨T1, _, L1, X1.wide (fun _ q _ => q) (by omega) (by omega), e1, N1, O1, Kb, by rw [own_flt_take cs hlt, own_ptT (Or.inl q1)]; exact B, st⟩
      · rcases Classical.em (cs[i] = (156 : Int32)) with q2 | q2
        · obtain ⟨T1, h1, L1, X1, e1, N1, O1, w1, st⟩ := t_rm2 cs1 fv a1 a3 cs i hp_ s3 cells slots (by omega) (by omega) X0 hx hZ hw hby hml hown e0 N0 O0 G hs3 S Kb hlt hn hB q1 q2
          subst w1
          exact ⟨T1, _, L1, X1.wide (fun _ q _ => q) (by omega) (by omega), e1, N1, O1, Kb, by rw [own_flt_take cs hlt, own_ptT (Or.inr q2)]; exact B, st⟩
        · obtain ⟨T1, h1, L1, X1, e1, N1, O1, K1, B1, st⟩ := t_rm3 cs1 fv a1 a3 cs i hp_ s3 cells slots hc1 hs1 X0 hx hZ hw hby hml hown e0 N0 O0 G hs3 S Kb hlt hn hB q1 q2 B gf
          exact ⟨T1, h1, L1, X1, e1, N1, O1, K1, by rw [own_flt_take cs hlt, own_ptF (fun q => q.elim q1 q2)]; exact B1, st⟩
    rw [own_ts (by omega)] at st1
    obtain ⟨T', h', L', s3', X', e', N', O', K', B', st'⟩ := ih (i + 1) T1 h1 L1 (vI (cs[i])) (cells + 1) (slots + 8) (by omega) (by omega) (by omega) (One.val (w := .int cs[i]) rfl) X1 e1 N1 O1 Kb1 B1
    refine ⟨T', h', L', s3', ?_, e', N', O', K', B', fun target kt => st1 _ (st' _ kt)⟩
    rw [show cells + 1 * (k + 1) = cells + 1 + 1 * k by omega, show slots + 8 * (k + 1) = slots + 8 + 8 * k by omega]; exact X'

theorem d5_0 : D5_ 0 = .ok (.aload_n 0, 1) := by decide +kernel
theorem d5_1 : D5_ 1 = .ok (.sipush 152, 3) := by decide +kernel
theorem d5_4 : D5_ 4 = .ok (.invokevirtual 9, 3) := by decide +kernel
theorem d5_7 : D5_ 7 = .ok (.ifCond .ge 15, 3) := by decide +kernel
theorem d5_10 : D5_ 10 = .ok (.aload_n 0, 1) := by decide +kernel
theorem d5_11 : D5_ 11 = .ok (.sipush 156, 3) := by decide +kernel
theorem d5_14 : D5_ 14 = .ok (.invokevirtual 9, 3) := by decide +kernel
theorem d5_17 : D5_ 17 = .ok (.ifCond .ge 5, 3) := by decide +kernel
theorem d5_20 : D5_ 20 = .ok (.aload_n 0, 1) := by decide +kernel
theorem d5_21 : D5_ 21 = .ok (.areturn, 1) := by decide +kernel
theorem ef_5_59 (m : MethodId) (x0 : Addr) : entryFrame m #[(.ref x0)] 4 = mkF m 0 #[vR (x0), .unset, .unset, .unset] [] := by first | (simp [entryFrame, mkF, argsToLocals, Value.category]; done) | rfl
theorem pn_7 : plainName "com/example/rubrique/rubrique/render/NonSortMarkers" = true := by first | (simp [plainName, overriddenIn]; done) | decide +kernel
theorem r_rmN (l : Launch) (Z : State) (a0 : Array Value) (hw : own_HW a0 Z) (ws : List Jvm.Cond) (cs1 : Int32) (fv : Value) (h0 : Heap) (n0 : Nat) (O0 : Old Z n0 h0) (G : own_Ctx Z Z.heap cs1 fv) (a1 : Addr) (cs : List Int32) (S : own_Str Z h0 a1 cs) (hn : cs.length ≤ 4) (hB : own_Bd cs) (k1 : ∀ j (hj : j < cs.length), ¬ (cs[j] = (152 : Int32))) (k2 : ∀ j (hj : j < cs.length), ¬ (cs[j] = (156 : Int32))) :
    own_M l Y56_ (head1 (Jvm.Cond.code Y56_ prog_42_method_2_code 4 (some (.object "java/lang/String")) :: ws) (own_rm_ 8 8 52 115)) #[(.ref a1)] Z h0 n0 (own_Qrm Z a1 cs) (own_rm_ 8 8 52 115).cells (own_rm_ 8 8 52 115).slots := by
  have G0 := G
  refine MetFree.of_bodySF (plainFor_of_name pn_7) hisR ?_
  intro p e s m args below meth c s₁ Bd hml0 hP hK
  obtain ⟨rfl, hZ, hh⟩ := hP
  have hx := Bd.exec
  have hby := Bd.bytes
  have hml : c.maxLocals = 4 := hml0
  have hown := findClass_of_methodNamed Bd.named
  have X0 : Stand p l e (own_rm_ 8 8 52 115) s m #[(.ref a1)] below meth c s₁ [] 0 0 := Stand.of_body Bd
  have e0 : s₁.heap = h0 := by rw [← hh, Bd.state]; rfl
  have N0 := Fr.nil n0
  have pre0 := own_pre (tb := p.tables) (e := e) (below := below) (T := s₁) (ef_5_59 m a1)
  have gf : n0 ≤ h0.size := O0.1 ▸ O0.2.1
  have hno : ∀ j (hj : j < cs.length), ¬ own_mk cs[j] := fun j hj q => q.elim (k1 j hj) (k2 j hj)
  obtain ⟨cq1, kq1, q1a, q1b, q1c⟩ := isOf hZ e0 (own_Str_exa S)
  obtain ⟨_, _, ⟨T1, L1, k1, n1⟩, -, X1, ⟨Lc1, hQ1, l1, y1, z1⟩, st1⟩ := X0.virtualBack hx (y := Y35_) (z := Y35_) hown (mvT hZ (own_w hw 31 rfl)) (mvT hZ (own_w hw 32 rfl)) (notFace_of_selects (args := #[]) (mvT hZ (own_w hw 34 rfl))) (mvT hZ (own_w hw 34 rfl)) (mvT hZ (own_w hw 33 rfl)) (by decide) (backOf (W := 0) (r_sx l Z a0 hw [] cs1 fv h0 n0 O0 G0 a1 cs (152 : Int32) S hn hB (by decide) (by decide)) hZ (own_w hw 35 rfl) (own_w hw 8 rfl) (by decide) (by decide)) q1a q1c (g := (mkF m 4 #[vR (a1), .unset, .unset, .unset] [(.int (152 : Int32)), (.ref a1)])) rfl (by rw [hml]; rfl) (Steps.refl _) (argsL := [(.int (152 : Int32))]) (rest := []) (lenOf pd_0 rfl) rfl (by show 2 * 0 + _ ≤ _; exact Nat.le_of_eq rfl) (hb hby d5_4) (fun _ _ => ⟨rfl, e0, (by decide : 0 + 0 ≤ _), (by decide : 0 + 0 ≤ _)⟩)
  dsimp only [Pt.U, Pt.locs, Pt.cells, Pt.slots] at X1 l1 y1 z1 st1 hQ1
  subst l1 y1 z1
  obtain ⟨rx1, rfl, N1q, e1, hd1⟩ := hQ1
  have N1 := Fr.app N0 N1q
  obtain ⟨cq2, kq2, q2a, q2b, q2c⟩ := isOf hZ e1 (own_Str_exa S)
  obtain ⟨_, _, ⟨T2, L2, k2, n2⟩, -, X2, ⟨Lc2, hQ2, l2, y2, z2⟩, st2⟩ := X1.virtualBack hx (y := Y35_) (z := Y35_) hown (mvT hZ (own_w hw 31 rfl)) (mvT hZ (own_w hw 32 rfl)) (notFace_of_selects (args := #[]) (mvT hZ (own_w hw 34 rfl))) (mvT hZ (own_w hw 34 rfl)) (mvT hZ (own_w hw 33 rfl)) (by decide) (backOf (W := 0) (r_sx l Z a0 hw [] cs1 fv h0 n0 O0 G0 a1 cs (156 : Int32) S hn hB (by decide) (by decide)) hZ (own_w hw 35 rfl) (own_w hw 8 rfl) (by decide) (by decide)) q2a q2c (g := (mkF m 14 #[vR (a1), .unset, .unset, .unset] [(.int (156 : Int32)), (.ref a1)])) rfl (by rw [hml]; rfl) (Steps.refl _) (argsL := [(.int (156 : Int32))]) (rest := []) (lenOf pd_0 rfl) rfl (by show 2 * 0 + _ ≤ _; exact Nat.le_of_eq rfl) (hb hby d5_14) (fun _ _ => ⟨rfl, e1, (by decide : 0 + 0 ≤ _), (by decide : 0 + 0 ≤ _)⟩)
  dsimp only [Pt.U, Pt.locs, Pt.cells, Pt.slots] at X2 l2 y2 z2 st2 hQ2
  subst l2 y2 z2
  obtain ⟨rx2, rfl, N2q, e2, hd2⟩ := hQ2
  have N2 := Fr.app N1 N2q
  obtain ⟨fs, hr, hrun, hended, hW, hsame⟩ := X2.leave (v := some (.ref a1)) (fun h => by rw [Bd.returns] at h; cases h)
  refine ⟨_, _, pre0 _ ?_, hrun, hended, _, _, rfl, ?_, ⟨_, rfl⟩, hW, hsame.mono (by decide) (by decide)⟩
  · show own_St p e below s₁ m 0 #[vR (a1), .unset, .unset, .unset] [] _
    refine XS.aloadN X0.here hx rfl (hb hby d5_0) rfl rfl ?_
    refine XS.sipush X0.here hx rfl (hb hby d5_1) ?_
    show own_St p e below s₁ m 4 #[vR (a1), .unset, .unset, .unset] [(.int (152 : Int32)), (.ref a1)] _
    refine st1.trans ?_
    show own_St p e below T1 m 7 #[vR (a1), .unset, .unset, .unset] [(.int rx1)] _
    refine XS.ifNo X1.here hx rfl (hb hby d5_7) rfl ((if0 _ _).trans (tlt ((hd1.elim (fun q => by obtain ⟨j, hj, hc⟩ := q.2; exact absurd hc (k1 j hj)) (fun q => q.1)) : rx1 < (0 : Int32))).2.1) ?_
    refine XS.aloadN X1.here hx rfl (hb hby d5_10) rfl rfl ?_
    refine XS.sipush X1.here hx rfl (hb hby d5_11) ?_
    show own_St p e below T1 m 14 #[vR (a1), .unset, .unset, .unset] [(.int (156 : Int32)), (.ref a1)] _
    refine st2.trans ?_
    show own_St p e below T2 m 17 #[vR (a1), .unset, .unset, .unset] [(.int rx2)] _
    refine XS.ifNo X2.here hx rfl (hb hby d5_17) rfl ((if0 _ _).trans (tlt ((hd2.elim (fun q => by obtain ⟨j, hj, hc⟩ := q.2; exact absurd hc (k2 j hj)) (fun q => q.1)) : rx2 < (0 : Int32))).2.1) ?_
    refine XS.aloadN X2.here hx rfl (hb hby d5_20) rfl rfl ?_
    show own_St p e below T2 m 21 #[vR (a1), .unset, .unset, .unset] [(.ref a1)] _
    exact retOut X2 hx Bd.returns rfl (Or.inr (Or.inr (Or.inr (Or.inr ⟨rfl, rfl, rfl⟩)))) (hb hby d5_21) hr
  · show own_Qrm Z a1 cs h0 n0 _ T2.heap _
    rw [e2]
    exact ⟨a1, rfl, N2, (Keep.refl h0 []), by rw [own_flt_same hno]; exact S, fun _ => rfl⟩
theorem d5_22 : D5_ 22 = .ok (.new 15, 3) := by decide +kernel
theorem d5_25 : D5_ 25 = .ok (.dup, 1) := by decide +kernel
theorem d5_26 : D5_ 26 = .ok (.aload_n 0, 1) := by decide +kernel
theorem d5_27 : D5_ 27 = .ok (.invokevirtual 17, 3) := by decide +kernel
theorem d5_30 : D5_ 30 = .ok (.invokespecial 21, 3) := by decide +kernel
theorem d5_33 : D5_ 33 = .ok (.astore_n 1, 1) := by decide +kernel
theorem d5_34 : D5_ 34 = .ok (.iconst 0, 1) := by decide +kernel
theorem d5_35 : D5_ 35 = .ok (.istore_n 2, 1) := by decide +kernel
theorem d5_76 : D5_ 76 = .ok (.aload_n 1, 1) := by decide +kernel
theorem d5_77 : D5_ 77 = .ok (.invokevirtual 32, 3) := by decide +kernel
theorem pd_33 : parseMethodDescriptor "()Ljava/lang/String;" = some ⟨[], some (.object "java/lang/String")⟩ := by decide +kernel
theorem d5_80 : D5_ 80 = .ok (.areturn, 1) := by decide +kernel
theorem r_rm1 (l : Launch) (Z : State) (a0 : Array Value) (hw : own_HW a0 Z) (ws : List Jvm.Cond) (cs1 : Int32) (fv : Value) (h0 : Heap) (n0 : Nat) (O0 : Old Z n0 h0) (G : own_Ctx Z Z.heap cs1 fv) (a1 : Addr) (cs : List Int32) (S : own_Str Z h0 a1 cs) (hn : cs.length ≤ 4) (hB : own_Bd cs) (k1 : ∃ j, ∃ hj : j < cs.length, cs[j] = (152 : Int32)) :
    own_M l Y56_ (head1 (Jvm.Cond.code Y56_ prog_42_method_2_code 4 (some (.object "java/lang/String")) :: ws) (own_rm_ 8 8 52 115)) #[(.ref a1)] Z h0 n0 (own_Qrm Z a1 cs) (own_rm_ 8 8 52 115).cells (own_rm_ 8 8 52 115).slots := by
  have G0 := G
  refine MetFree.of_bodySF (plainFor_of_name pn_7) hisR ?_
  intro p e s m args below meth c s₁ Bd hml0 hP hK
  obtain ⟨rfl, hZ, hh⟩ := hP
  have hx := Bd.exec
  have hby := Bd.bytes
  have hml : c.maxLocals = 4 := hml0
  have hown := findClass_of_methodNamed Bd.named
  have X0 : Stand p l e (own_rm_ 8 8 52 115) s m #[(.ref a1)] below meth c s₁ [] 0 0 := Stand.of_body Bd
  have e0 : s₁.heap = h0 := by rw [← hh, Bd.state]; rfl
  have N0 := Fr.nil n0
  have pre0 := own_pre (tb := p.tables) (e := e) (below := below) (T := s₁) (ef_5_59 m a1)
  have gf : n0 ≤ h0.size := O0.1 ▸ O0.2.1
  have hlt : (own_flt cs).length < cs.length := own_flt_lt (own_mk_ex k1)
  obtain ⟨cq1, kq1, q1a, q1b, q1c⟩ := isOf hZ e0 (own_Str_exa S)
  obtain ⟨_, _, ⟨T1, L1, k1, n1⟩, -, X1, ⟨Lc1, hQ1, l1, y1, z1⟩, st1⟩ := X0.virtualBack hx (y := Y35_) (z := Y35_) hown (mvT hZ (own_w hw 31 rfl)) (mvT hZ (own_w hw 32 rfl)) (notFace_of_selects (args := #[]) (mvT hZ (own_w hw 34 rfl))) (mvT hZ (own_w hw 34 rfl)) (mvT hZ (own_w hw 33 rfl)) (by decide) (backOf (W := 0) (r_sx l Z a0 hw [] cs1 fv h0 n0 O0 G0 a1 cs (152 : Int32) S hn hB (by decide) (by decide)) hZ (own_w hw 35 rfl) (own_w hw 8 rfl) (by decide) (by decide)) q1a q1c (g := (mkF m 4 #[vR (a1), .unset, .unset, .unset] [(.int (152 : Int32)), (.ref a1)])) rfl (by rw [hml]; rfl) (Steps.refl _) (argsL := [(.int (152 : Int32))]) (rest := []) (lenOf pd_0 rfl) rfl (by show 2 * 0 + _ ≤ _; exact Nat.le_of_eq rfl) (hb hby d5_4) (fun _ _ => ⟨rfl, e0, (by decide : 0 + 0 ≤ _), (by decide : 0 + 0 ≤ _)⟩)
  dsimp only [Pt.U, Pt.locs, Pt.cells, Pt.slots] at X1 l1 y1 z1 st1 hQ1
  subst l1 y1 z1
  obtain ⟨rx1, rfl, N1q, e1, hd1⟩ := hQ1
  have N1 := Fr.app N0 N1q
  obtain ⟨T2, h2, X2, e2, E2, A2, D2, -, st2⟩ := newO X1 hx hZ hown (own_w hw 94 rfl) (own_w hw 95 rfl) (own_w hw 96 rfl) e1 (g := (mkF m 22 #[vR (a1), .unset, .unset, .unset] [])) rfl (hb hby d5_22) (by decide) (by decide)
  obtain ⟨b2, g2⟩ : ∃ z, z = h0.size := ⟨_, rfl⟩
  have g_b2 : n0 ≤ b2 := Nat.le_trans (O0.1 ▸ O0.2.1) (Nat.le_of_eq g2.symm)
  have sz_b2 : h0.size ≤ b2 := Nat.le_trans (Keep.refl h0 []).1 (Nat.le_of_eq g2.symm)
  rw [← g2] at A2 D2 st2
  have O2 := O0.ext E2
  have K2 : Keep h0 h2 [] := (Keep.refl h0 []).ext E2
  have f3 := own_Str_ext E2 S
  have F2_110 : Fld Z h2 b2 "java/lang/AbstractStringBuilder" "value" "[B" .null := D2 (Or.inl (own_w hw 110 rfl)) (ty := (.array .byte)) (by decide)
  have F2_112 : Fld Z h2 b2 "java/lang/AbstractStringBuilder" "coder" "B" (.int (0 : Int32)) := D2 (Or.inl (own_w hw 112 rfl)) (ty := .byte) (by decide)
  have F2_156 : Fld Z h2 b2 "java/lang/AbstractStringBuilder" "count" "I" (.int (0 : Int32)) := D2 (Or.inl (own_w hw 156 rfl)) (ty := .int) (by decide)
  have F2_272 : Fld Z h2 b2 "java/lang/AbstractStringBuilder" "maybeLatin1" "Z" (.int (0 : Int32)) := D2 (Or.inl (own_w hw 272 rfl)) (ty := .boolean) (by decide)
  obtain ⟨cq4, kq4, q4a, q4b, q4c⟩ := isOf hZ e2 (own_Str_exa f3)
  obtain ⟨_, _, ⟨T4, L4, k4, n4⟩, -, X4, ⟨Lc4, hQ4, l4, y4, z4⟩, st4⟩ := X2.virtualBack hx (y := Y18_) (z := Y18_) hown (mvT hZ (own_w hw 97 rfl)) (mvT hZ (own_w hw 48 rfl)) (notFace_of_selects (args := #[]) (mvT hZ (own_w hw 50 rfl))) (mvT hZ (own_w hw 50 rfl)) (mvT hZ (own_w hw 49 rfl)) (by decide) (backOf (W := 2) (r_len l Z a0 hw [] cs1 fv h2 n0 O2 G0 a1 cs f3 hn) hZ (own_w hw 51 rfl) (own_w hw 8 rfl) (by decide) (by decide)) q4a q4c (g := (mkF m 27 #[vR (a1), .unset, .unset, .unset] [(.ref a1), (.ref b2), (.ref b2)])) rfl (by rw [hml]; rfl) (Steps.refl _) (argsL := []) (rest := [(.ref b2), (.ref b2)]) (lenOf pd_21 rfl) rfl (by show 2 * 0 + _ ≤ _; exact Nat.le_of_eq rfl) (hb hby d5_27) (fun _ _ => ⟨rfl, e2, (by decide : 1 + 0 ≤ _), (by decide : 4 + 0 ≤ _)⟩)
  dsimp only [Pt.U, Pt.locs, Pt.cells, Pt.slots] at X4 l4 y4 z4 st4 hQ4
  subst l4 y4 z4
  obtain ⟨rfl, N4q, e4⟩ := hQ4
  have N4 := Fr.app N1 N4q
  obtain ⟨_, _, ⟨T5, L5, k5, n5⟩, -, X5, ⟨Lc5, hQ5, l5, y5, z5⟩, st5⟩ := X4.specialBack hx (y := Y37_) rfl hown (mvT hZ (own_w hw 98 rfl)) (mvT hZ (own_w hw 99 rfl)) (mvT hZ (own_w hw 100 rfl)) (by decide) (backOf (W := 1) (r_sbi l Z a0 hw [] cs1 fv h2 n0 O2 G0 b2 h0.size cs A2 g_b2 F2_110 F2_112 F2_156 F2_272 sz_b2 hn gf) hZ (own_w hw 100 rfl) (own_w hw 96 rfl) (by decide) (by decide)) (g := (mkF m 30 #[vR (a1), .unset, .unset, .unset] [(.int cs.length.toInt32), (.ref b2), (.ref b2)])) rfl (by rw [hml]; rfl) (Steps.refl _) (a := b2) (argsL := [(.int cs.length.toInt32)]) (rest := [(.ref b2)]) (lenOf pd_22 rfl) rfl (by show 2 * 0 + _ ≤ _; exact Nat.le_of_eq rfl) (hb hby d5_30) (fun _ _ => ⟨rfl, e4, (by decide : 1 + 1 ≤ _), (by decide : 4 + 4 ≤ _)⟩)
  dsimp only [Pt.U, Pt.locs, Pt.cells, Pt.slots] at X5 l5 y5 z5 st5 hQ5
  subst l5 y5 z5
  obtain ⟨ws5, rfl, N5q, hws5, Kq5, Bq5⟩ := hQ5
  have N5 := Fr.app N4 N5q
  have O5 := O2.keep Kq5 (fun x q => Nat.le_trans gf (hws5 x q))
  have K5 : Keep h0 T5.heap [] := K2.trans Kq5 (fun x q => Or.inr (hws5 x q))
  obtain ⟨T9, h9, L9, s39, X9, e9, N9, O9, K9, B9, st9⟩ := own_rm cs1 fv a1 b2 cs h0 hx hZ hw hby hml hown G0 S gf hn hB cs.length 0 _ _ _ .unset 2 8 (Nat.zero_add _) (by omega) (by omega) One.u X5 rfl N5 O5 K5 Bq5
  have X8 := X9.wide (cells' := 6) (slots' := 40) (fun _ q _ => q) (by omega) (by omega)
  obtain ⟨cq6, kq6, q6a, q6b, q6c⟩ := isOf hZ e9 (own_SB_exa B9)
  obtain ⟨_, _, ⟨T6, L6, k6, n6⟩, -, X6, ⟨Lc6, hQ6, l6, y6, z6⟩, st6⟩ := X8.virtualBack hx (y := Y55_) (z := Y55_) hown (mvT hZ (own_w hw 129 rfl)) (mvT hZ (own_w hw 130 rfl)) (notFace_of_selects (args := #[]) (mvT hZ (own_w hw 132 rfl))) (mvT hZ (own_w hw 132 rfl)) (mvT hZ (own_w hw 131 rfl)) (by decide) (backOf (W := 0) (r_ts l Z a0 hw [] cs1 fv h9 n0 O9 G0 b2 h0.size cs (own_flt cs) B9 hlt hn) hZ (own_w hw 133 rfl) (own_w hw 96 rfl) (by decide) (by decide)) q6a q6c (g := (mkF m 77 #[vR (a1), vR (b2), vI (cs.length.toInt32), s39] [(.ref b2)])) rfl (by rw [hml]; rfl) (Steps.refl _) (argsL := []) (rest := []) (lenOf pd_33 rfl) rfl (by show 2 * 0 + _ ≤ _; exact Nat.le_of_eq rfl) (hb hby d5_77) (fun _ _ => ⟨rfl, e9, (by decide : 6 + 2 ≤ _), (by decide : 40 + 12 ≤ _)⟩)
  dsimp only [Pt.U, Pt.locs, Pt.cells, Pt.slots] at X6 l6 y6 z6 st6 hQ6
  subst l6 y6 z6
  obtain ⟨t6, rfl, N6q, Kq6, Sq6⟩ := hQ6
  have N6 := Fr.app N9 N6q
  have f7 := (own_SB_exa B9).keep Kq6
  have O6 := O9.keep Kq6 all0
  have K6 : Keep h0 T6.heap [] := K9.trans Kq6 all0
  obtain ⟨fs, hr, hrun, hended, hW, hsame⟩ := X6.leave (v := some (.ref t6)) (fun h => by rw [Bd.returns] at h; cases h)
  refine ⟨_, _, pre0 _ ?_, hrun, hended, _, _, rfl, ?_, ⟨_, rfl⟩, hW, hsame.mono (by decide) (by decide)⟩
  · show own_St p e below s₁ m 0 #[vR (a1), .unset, .unset, .unset] [] _
    refine XS.aloadN X0.here hx rfl (hb hby d5_0) rfl rfl ?_
    refine XS.sipush X0.here hx rfl (hb hby d5_1) ?_
    show own_St p e below s₁ m 4 #[vR (a1), .unset, .unset, .unset] [(.int (152 : Int32)), (.ref a1)] _
    refine st1.trans ?_
    show own_St p e below T1 m 7 #[vR (a1), .unset, .unset, .unset] [(.int rx1)] _
    refine XS.ifYes X1.here hx rfl (pc0 := 7) (pc' := 22) rfl (hb hby d5_7) rfl ((if0 _ _).trans (flt ((hd1.elim (fun q => q.1) (fun q => by obtain ⟨j, hj, hc⟩ := k1; exact absurd hc (q.2 j hj))) : ¬ (rx1 < (0 : Int32)))).2.1) (by decide) (by decide) ?_
    show own_St p e below T1 m 22 #[vR (a1), .unset, .unset, .unset] [] _
    refine st2 _ ?_
    show own_St p e below T2 m 25 #[vR (a1), .unset, .unset, .unset] [(.ref b2)] _
    refine XS.dup X2.here hx rfl (hb hby d5_25) rfl rfl ?_
    refine XS.aloadN X2.here hx rfl (hb hby d5_26) rfl rfl ?_
    show own_St p e below T2 m 27 #[vR (a1), .unset, .unset, .unset] [(.ref a1), (.ref b2), (.ref b2)] _
    refine st4.trans ?_
    show own_St p e below T4 m 30 #[vR (a1), .unset, .unset, .unset] [(.int cs.length.toInt32), (.ref b2), (.ref b2)] _
    refine st5.trans ?_
    show own_St p e below T5 m 33 #[vR (a1), .unset, .unset, .unset] [(.ref b2)] _
    refine XS.astoreN X5.here hx rfl (hb hby d5_33) rfl rfl (l' := #[vR (a1), vR (b2), .unset, .unset]) rfl ?_
    refine XS.iconst X5.here hx rfl (hb hby d5_34) ?_
    refine XS.istoreN X5.here hx rfl (hb hby d5_35) rfl (l' := #[vR (a1), vR (b2), vI ((0 : Int32)), .unset]) rfl ?_
    show own_St p e below T5 m 36 #[vR (a1), vR (b2), vI ((0 : Nat).toInt32), .unset] [] _
    refine st9 _ ?_
    refine XS.aloadN X8.here hx rfl (hb hby d5_76) rfl rfl ?_
    show own_St p e below T9 m 77 #[vR (a1), vR (b2), vI (cs.length.toInt32), s39] [(.ref b2)] _
    refine st6.trans ?_
    show own_St p e below T6 m 80 #[vR (a1), vR (b2), vI (cs.length.toInt32), s39] [(.ref t6)] _
    exact retOut X6 hx Bd.returns rfl (Or.inr (Or.inr (Or.inr (Or.inr ⟨rfl, rfl, rfl⟩)))) (hb hby d5_80) hr
  · show own_Qrm Z a1 cs h0 n0 _ T6.heap _
    exact ⟨t6, rfl, N6, K6, Sq6, fun q => absurd q (Nat.ne_of_lt hlt)⟩
theorem r_rm2 (l : Launch) (Z : State) (a0 : Array Value) (hw : own_HW a0 Z) (ws : List Jvm.Cond) (cs1 : Int32) (fv : Value) (h0 : Heap) (n0 : Nat) (O0 : Old Z n0 h0) (G : own_Ctx Z Z.heap cs1 fv) (a1 : Addr) (cs : List Int32) (S : own_Str Z h0 a1 cs) (hn : cs.length ≤ 4) (hB : own_Bd cs) (k1 : ∀ j (hj : j < cs.length), ¬ (cs[j] = (152 : Int32))) (k2 : ∃ j, ∃ hj : j < cs.length, cs[j] = (156 : Int32)) :
    own_M l Y56_ (head1 (Jvm.Cond.code Y56_ prog_42_method_2_code 4 (some (.object "java/lang/String")) :: ws) (own_rm_ 8 8 52 115)) #[(.ref a1)] Z h0 n0 (own_Qrm Z a1 cs) (own_rm_ 8 8 52 115).cells (own_rm_ 8 8 52 115).slots := by
  have G0 := G
  refine MetFree.of_bodySF (plainFor_of_name pn_7) hisR ?_
  intro p e s m args below meth c s₁ Bd hml0 hP hK
  obtain ⟨rfl, hZ, hh⟩ := hP
  have hx := Bd.exec
  have hby := Bd.bytes
  have hml : c.maxLocals = 4 := hml0
  have hown := findClass_of_methodNamed Bd.named
  have X0 : Stand p l e (own_rm_ 8 8 52 115) s m #[(.ref a1)] below meth c s₁ [] 0 0 := Stand.of_body Bd
  have e0 : s₁.heap = h0 := by rw [← hh, Bd.state]; rfl
  have N0 := Fr.nil n0
  have pre0 := own_pre (tb := p.tables) (e := e) (below := below) (T := s₁) (ef_5_59 m a1)
  have gf : n0 ≤ h0.size := O0.1 ▸ O0.2.1
  have hlt : (own_flt cs).length < cs.length := own_flt_lt (own_mk_ex2 k2)
  obtain ⟨cq1, kq1, q1a, q1b, q1c⟩ := isOf hZ e0 (own_Str_exa S)
  obtain ⟨_, _, ⟨T1, L1, k1, n1⟩, -, X1, ⟨Lc1, hQ1, l1, y1, z1⟩, st1⟩ := X0.virtualBack hx (y := Y35_) (z := Y35_) hown (mvT hZ (own_w hw 31 rfl)) (mvT hZ (own_w hw 32 rfl)) (notFace_of_selects (args := #[]) (mvT hZ (own_w hw 34 rfl))) (mvT hZ (own_w hw 34 rfl)) (mvT hZ (own_w hw 33 rfl)) (by decide) (backOf (W := 0) (r_sx l Z a0 hw [] cs1 fv h0 n0 O0 G0 a1 cs (152 : Int32) S hn hB (by decide) (by decide)) hZ (own_w hw 35 rfl) (own_w hw 8 rfl) (by decide) (by decide)) q1a q1c (g := (mkF m 4 #[vR (a1), .unset, .unset, .unset] [(.int (152 : Int32)), (.ref a1)])) rfl (by rw [hml]; rfl) (Steps.refl _) (argsL := [(.int (152 : Int32))]) (rest := []) (lenOf pd_0 rfl) rfl (by show 2 * 0 + _ ≤ _; exact Nat.le_of_eq rfl) (hb hby d5_4) (fun _ _ => ⟨rfl, e0, (by decide : 0 + 0 ≤ _), (by decide : 0 + 0 ≤ _)⟩)
  dsimp only [Pt.U, Pt.locs, Pt.cells, Pt.slots] at X1 l1 y1 z1 st1 hQ1
  subst l1 y1 z1
  obtain ⟨rx1, rfl, N1q, e1, hd1⟩ := hQ1
  have N1 := Fr.app N0 N1q
  obtain ⟨cq2, kq2, q2a, q2b, q2c⟩ := isOf hZ e1 (own_Str_exa S)
  obtain ⟨_, _, ⟨T2, L2, k2, n2⟩, -, X2, ⟨Lc2, hQ2, l2, y2, z2⟩, st2⟩ := X1.virtualBack hx (y := Y35_) (z := Y35_) hown (mvT hZ (own_w hw 31 rfl)) (mvT hZ (own_w hw 32 rfl)) (notFace_of_selects (args := #[]) (mvT hZ (own_w hw 34 rfl))) (mvT hZ (own_w hw 34 rfl)) (mvT hZ (own_w hw 33 rfl)) (by decide) (backOf (W := 0) (r_sx l Z a0 hw [] cs1 fv h0 n0 O0 G0 a1 cs (156 : Int32) S hn hB (by decide) (by decide)) hZ (own_w hw 35 rfl) (own_w hw 8 rfl) (by decide) (by decide)) q2a q2c (g := (mkF m 14 #[vR (a1), .unset, .unset, .unset] [(.int (156 : Int32)), (.ref a1)])) rfl (by rw [hml]; rfl) (Steps.refl _) (argsL := [(.int (156 : Int32))]) (rest := []) (lenOf pd_0 rfl) rfl (by show 2 * 0 + _ ≤ _; exact Nat.le_of_eq rfl) (hb hby d5_14) (fun _ _ => ⟨rfl, e1, (by decide : 0 + 0 ≤ _), (by decide : 0 + 0 ≤ _)⟩)
  dsimp only [Pt.U, Pt.locs, Pt.cells, Pt.slots] at X2 l2 y2 z2 st2 hQ2
  subst l2 y2 z2
  obtain ⟨rx2, rfl, N2q, e2, hd2⟩ := hQ2
  have N2 := Fr.app N1 N2q
  obtain ⟨T3, h3, X3, e3, E3, A3, D3, -, st3⟩ := newO X2 hx hZ hown (own_w hw 94 rfl) (own_w hw 95 rfl) (own_w hw 96 rfl) e2 (g := (mkF m 22 #[vR (a1), .unset, .unset, .unset] [])) rfl (hb hby d5_22) (by decide) (by decide)
  obtain ⟨b3, g3⟩ : ∃ z, z = h0.size := ⟨_, rfl⟩
  have g_b3 : n0 ≤ b3 := Nat.le_trans (O0.1 ▸ O0.2.1) (Nat.le_of_eq g3.symm)
  have sz_b3 : h0.size ≤ b3 := Nat.le_trans (Keep.refl h0 []).1 (Nat.le_of_eq g3.symm)
  rw [← g3] at A3 D3 st3
  have O3 := O0.ext E3
  have K3 : Keep h0 h3 [] := (Keep.refl h0 []).ext E3
  have f4 := own_Str_ext E3 S
  have F3_110 : Fld Z h3 b3 "java/lang/AbstractStringBuilder" "value" "[B" .null := D3 (Or.inl (own_w hw 110 rfl)) (ty := (.array .byte)) (by decide)
  have F3_112 : Fld Z h3 b3 "java/lang/AbstractStringBuilder" "coder" "B" (.int (0 : Int32)) := D3 (Or.inl (own_w hw 112 rfl)) (ty := .byte) (by decide)
  have F3_156 : Fld Z h3 b3 "java/lang/AbstractStringBuilder" "count" "I" (.int (0 : Int32)) := D3 (Or.inl (own_w hw 156 rfl)) (ty := .int) (by decide)
  have F3_272 : Fld Z h3 b3 "java/lang/AbstractStringBuilder" "maybeLatin1" "Z" (.int (0 : Int32)) := D3 (Or.inl (own_w hw 272 rfl)) (ty := .boolean) (by decide)
  obtain ⟨cq5, kq5, q5a, q5b, q5c⟩ := isOf hZ e3 (own_Str_exa f4)
  obtain ⟨_, _, ⟨T5, L5, k5, n5⟩, -, X5, ⟨Lc5, hQ5, l5, y5, z5⟩, st5⟩ := X3.virtualBack hx (y := Y18_) (z := Y18_) hown (mvT hZ (own_w hw 97 rfl)) (mvT hZ (own_w hw 48 rfl)) (notFace_of_selects (args := #[]) (mvT hZ (own_w hw 50 rfl))) (mvT hZ (own_w hw 50 rfl)) (mvT hZ (own_w hw 49 rfl)) (by decide) (backOf (W := 2) (r_len l Z a0 hw [] cs1 fv h3 n0 O3 G0 a1 cs f4 hn) hZ (own_w hw 51 rfl) (own_w hw 8 rfl) (by decide) (by decide)) q5a q5c (g := (mkF m 27 #[vR (a1), .unset, .unset, .unset] [(.ref a1), (.ref b3), (.ref b3)])) rfl (by rw [hml]; rfl) (Steps.refl _) (argsL := []) (rest := [(.ref b3), (.ref b3)]) (lenOf pd_21 rfl) rfl (by show 2 * 0 + _ ≤ _; exact Nat.le_of_eq rfl) (hb hby d5_27) (fun _ _ => ⟨rfl, e3, (by decide : 1 + 0 ≤ _), (by decide : 4 + 0 ≤ _)⟩)
  dsimp only [Pt.U, Pt.locs, Pt.cells, Pt.slots] at X5 l5 y5 z5 st5 hQ5
  subst l5 y5 z5
  obtain ⟨rfl, N5q, e5⟩ := hQ5
  have N5 := Fr.app N2 N5q
  obtain ⟨_, _, ⟨T6, L6, k6, n6⟩, -, X6, ⟨Lc6, hQ6, l6, y6, z6⟩, st6⟩ := X5.specialBack hx (y := Y37_) rfl hown (mvT hZ (own_w hw 98 rfl)) (mvT hZ (own_w hw 99 rfl)) (mvT hZ (own_w hw 100 rfl)) (by decide) (backOf (W := 1) (r_sbi l Z a0 hw [] cs1 fv h3 n0 O3 G0 b3 h0.size cs A3 g_b3 F3_110 F3_112 F3_156 F3_272 sz_b3 hn gf) hZ (own_w hw 100 rfl) (own_w hw 96 rfl) (by decide) (by decide)) (g := (mkF m 30 #[vR (a1), .unset, .unset, .unset] [(.int cs.length.toInt32), (.ref b3), (.ref b3)])) rfl (by rw [hml]; rfl) (Steps.refl _) (a := b3) (argsL := [(.int cs.length.toInt32)]) (rest := [(.ref b3)]) (lenOf pd_22 rfl) rfl (by show 2 * 0 + _ ≤ _; exact Nat.le_of_eq rfl) (hb hby d5_30) (fun _ _ => ⟨rfl, e5, (by decide : 1 + 1 ≤ _), (by decide : 4 + 4 ≤ _)⟩)
  dsimp only [Pt.U, Pt.locs, Pt.cells, Pt.slots] at X6 l6 y6 z6 st6 hQ6
  subst l6 y6 z6
  obtain ⟨ws6, rfl, N6q, hws6, Kq6, Bq6⟩ := hQ6
  have N6 := Fr.app N5 N6q
  have O6 := O3.keep Kq6 (fun x q => Nat.le_trans gf (hws6 x q))
  have K6 : Keep h0 T6.heap [] := K3.trans Kq6 (fun x q => Or.inr (hws6 x q))
  obtain ⟨T9, h9, L9, s39, X9, e9, N9, O9, K9, B9, st9⟩ := own_rm cs1 fv a1 b3 cs h0 hx hZ hw hby hml hown G0 S gf hn hB cs.length 0 _ _ _ .unset 2 8 (Nat.zero_add _) (by omega) (by omega) One.u X6 rfl N6 O6 K6 Bq6
  have X8 := X9.wide (cells' := 6) (slots' := 40) (fun _ q _ => q) (by omega) (by omega)
  obtain ⟨cq7, kq7, q7a, q7b, q7c⟩ := isOf hZ e9 (own_SB_exa B9)
  obtain ⟨_, _, ⟨T7, L7, k7, n7⟩, -, X7, ⟨Lc7, hQ7, l7, y7, z7⟩, st7⟩ := X8.virtualBack hx (y := Y55_) (z := Y55_) hown (mvT hZ (own_w hw 129 rfl)) (mvT hZ (own_w hw 130 rfl)) (notFace_of_selects (args := #[]) (mvT hZ (own_w hw 132 rfl))) (mvT hZ (own_w hw 132 rfl)) (mvT hZ (own_w hw 131 rfl)) (by decide) (backOf (W := 0) (r_ts l Z a0 hw [] cs1 fv h9 n0 O9 G0 b3 h0.size cs (own_flt cs) B9 hlt hn) hZ (own_w hw 133 rfl) (own_w hw 96 rfl) (by decide) (by decide)) q7a q7c (g := (mkF m 77 #[vR (a1), vR (b3), vI (cs.length.toInt32), s39] [(.ref b3)])) rfl (by rw [hml]; rfl) (Steps.refl _) (argsL := []) (rest := []) (lenOf pd_33 rfl) rfl (by show 2 * 0 + _ ≤ _; exact Nat.le_of_eq rfl) (hb hby d5_77) (fun _ _ => ⟨rfl, e9, (by decide : 6 + 2 ≤ _), (by decide : 40 + 12 ≤ _)⟩)
  dsimp only [Pt.U, Pt.locs, Pt.cells, Pt.slots] at X7 l7 y7 z7 st7 hQ7
  subst l7 y7 z7
  obtain ⟨t7, rfl, N7q, Kq7, Sq7⟩ := hQ7
  have N7 := Fr.app N9 N7q
  have f8 := (own_SB_exa B9).keep Kq7
  have O7 := O9.keep Kq7 all0
  have K7 : Keep h0 T7.heap [] := K9.trans Kq7 all0
  obtain ⟨fs, hr, hrun, hended, hW, hsame⟩ := X7.leave (v := some (.ref t7)) (fun h => by rw [Bd.returns] at h; cases h)
  refine ⟨_, _, pre0 _ ?_, hrun, hended, _, _, rfl, ?_, ⟨_, rfl⟩, hW, hsame.mono (by decide) (by decide)⟩
  · show own_St p e below s₁ m 0 #[vR (a1), .unset, .unset, .unset] [] _
    refine XS.aloadN X0.here hx rfl (hb hby d5_0) rfl rfl ?_
    refine XS.sipush X0.here hx rfl (hb hby d5_1) ?_
    show own_St p e below s₁ m 4 #[vR (a1), .unset, .unset, .unset] [(.int (152 : Int32)), (.ref a1)] _
    refine st1.trans ?_
    show own_St p e below T1 m 7 #[vR (a1), .unset, .unset, .unset] [(.int rx1)] _
    refine XS.ifNo X1.here hx rfl (hb hby d5_7) rfl ((if0 _ _).trans (tlt ((hd1.elim (fun q => by obtain ⟨j, hj, hc⟩ := q.2; exact absurd hc (k1 j hj)) (fun q => q.1)) : rx1 < (0 : Int32))).2.1) ?_
    refine XS.aloadN X1.here hx rfl (hb hby d5_10) rfl rfl ?_
    refine XS.sipush X1.here hx rfl (hb hby d5_11) ?_
    show own_St p e below T1 m 14 #[vR (a1), .unset, .unset, .unset] [(.int (156 : Int32)), (.ref a1)] _
    refine st2.trans ?_
    show own_St p e below T2 m 17 #[vR (a1), .unset, .unset, .unset] [(.int rx2)] _
    refine XS.ifYes X2.here hx rfl (pc0 := 17) (pc' := 22) rfl (hb hby d5_17) rfl ((if0 _ _).trans (flt ((hd2.elim (fun q => q.1) (fun q => by obtain ⟨j, hj, hc⟩ := k2; exact absurd hc (q.2 j hj))) : ¬ (rx2 < (0 : Int32)))).2.1) (by decide) (by decide) ?_
    show own_St p e below T2 m 22 #[vR (a1), .unset, .unset, .unset] [] _
    refine st3 _ ?_
    show own_St p e below T3 m 25 #[vR (a1), .unset, .unset, .unset] [(.ref b3)] _
    refine XS.dup X3.here hx rfl (hb hby d5_25) rfl rfl ?_
    refine XS.aloadN X3.here hx rfl (hb hby d5_26) rfl rfl ?_
    show own_St p e below T3 m 27 #[vR (a1), .unset, .unset, .unset] [(.ref a1), (.ref b3), (.ref b3)] _
    refine st5.trans ?_
    show own_St p e below T5 m 30 #[vR (a1), .unset, .unset, .unset] [(.int cs.length.toInt32), (.ref b3), (.ref b3)] _
    refine st6.trans ?_
    show own_St p e below T6 m 33 #[vR (a1), .unset, .unset, .unset] [(.ref b3)] _
    refine XS.astoreN X6.here hx rfl (hb hby d5_33) rfl rfl (l' := #[vR (a1), vR (b3), .unset, .unset]) rfl ?_
    refine XS.iconst X6.here hx rfl (hb hby d5_34) ?_
    refine XS.istoreN X6.here hx rfl (hb hby d5_35) rfl (l' := #[vR (a1), vR (b3), vI ((0 : Int32)), .unset]) rfl ?_
    show own_St p e below T6 m 36 #[vR (a1), vR (b3), vI ((0 : Nat).toInt32), .unset] [] _
    refine st9 _ ?_
    refine XS.aloadN X8.here hx rfl (hb hby d5_76) rfl rfl ?_
    show own_St p e below T9 m 77 #[vR (a1), vR (b3), vI (cs.length.toInt32), s39] [(.ref b3)] _
    refine st7.trans ?_
    show own_St p e below T7 m 80 #[vR (a1), vR (b3), vI (cs.length.toInt32), s39] [(.ref t7)] _
    exact retOut X7 hx Bd.returns rfl (Or.inr (Or.inr (Or.inr (Or.inr ⟨rfl, rfl, rfl⟩)))) (hb hby d5_80) hr
  · show own_Qrm Z a1 cs h0 n0 _ T7.heap _
    exact ⟨t7, rfl, N7, K7, Sq7, fun q => absurd q (Nat.ne_of_lt hlt)⟩
theorem r_rm (l : Launch) (Z : State) (a0 : Array Value) (hw : own_HW a0 Z) (ws : List Jvm.Cond) (cs1 : Int32) (fv : Value) (h0 : Heap) (n0 : Nat) (O0 : Old Z n0 h0) (G : own_Ctx Z Z.heap cs1 fv) (a1 : Addr) (cs : List Int32) (S : own_Str Z h0 a1 cs) (hn : cs.length ≤ 4) (hB : own_Bd cs) :
    own_M l Y56_ (head1 (Jvm.Cond.code Y56_ prog_42_method_2_code 4 (some (.object "java/lang/String")) :: ws) (own_rm_ 8 8 52 115)) #[(.ref a1)] Z h0 n0 (own_Qrm Z a1 cs) (own_rm_ 8 8 52 115).cells (own_rm_ 8 8 52 115).slots := by
  rcases Classical.em (∃ j, ∃ hj : j < cs.length, cs[j] = (152 : Int32)) with k1 | k1
  · exact r_rm1 l Z a0 hw ws cs1 fv h0 n0 O0 G a1 cs S hn hB k1
  · rcases Classical.em (∃ j, ∃ hj : j < cs.length, cs[j] = (156 : Int32)) with k2 | k2
    · exact r_rm2 l Z a0 hw ws cs1 fv h0 n0 O0 G a1 cs S hn hB (fun j hj q => k1 ⟨j, hj, q⟩) k2
    · exact r_rmN l Z a0 hw ws cs1 fv h0 n0 O0 G a1 cs S hn hB (fun j hj q => k1 ⟨j, hj, q⟩) (fun j hj q => k2 ⟨j, hj, q⟩)
theorem d1_0 : D1_ 0 = .ok (.iload_n 0, 1) := by decide +kernel
theorem d1_1 : D1_ 1 = .ok (.bipush 16, 2) := by decide +kernel
theorem d1_3 : D1_ 3 = .ok (.iushr, 1) := by decide +kernel
theorem d1_4 : D1_ 4 = .ok (.iconst 3, 1) := by decide +kernel
theorem d1_5 : D1_ 5 = .ok (.iand, 1) := by decide +kernel
theorem d1_6 : D1_ 6 = .ok (.istore_n 1, 1) := by decide +kernel
theorem d1_7 : D1_ 7 = .ok (.iload_n 1, 1) := by decide +kernel
theorem d1_8 : D1_ 8 = .ok (.ifCond .ne 7, 3) := by decide +kernel
theorem d1_11 : D1_ 11 = .ok (.sipush 152, 3) := by decide +kernel
theorem d1_14 : D1_ 14 = .ok (.ireturn, 1) := by decide +kernel
theorem ef_1_60 (m : MethodId) (x0 : Int32) : entryFrame m #[(.int x0)] 2 = mkF m 0 #[vI (x0), .unset] [] := by first | (simp [entryFrame, mkF, argsToLocals, Value.category]; done) | rfl
theorem pn_8 : plainName "com/example/rubrique/rubrique/render/NonSortMarkersRemovePinLaw" = true := by first | (simp [plainName, overriddenIn]; done) | decide +kernel
theorem r_dr0 (l : Launch) (Z : State) (a0 : Array Value) (hw : own_HW a0 Z) (ws : List Jvm.Cond) (cs1 : Int32) (fv : Value) (h0 : Heap) (n0 : Nat) (O0 : Old Z n0 h0) (G : own_Ctx Z Z.heap cs1 fv) (x : Int32) (h0_ : (((x.toUInt32 >>> ((16 : Int32) &&& 31).toUInt32).toInt32) &&& (3 : Int32)) = (0 : Int32)) :
    own_M l Y57_ (head1 (Jvm.Cond.code Y57_ method_3_code 2 (some .char) :: ws) (own_rm_ 0 0 0 0)) #[(.int x)] Z h0 n0 (own_Q (some (.int (own_dr x)))) (own_rm_ 0 0 0 0).cells (own_rm_ 0 0 0 0).slots := by
  have G0 := G
  refine MetFree.of_bodySF (plainFor_of_name pn_8) hisR ?_
  intro p e s m args below meth c s₁ Bd hml0 hP hK
  obtain ⟨rfl, hZ, hh⟩ := hP
  have hx := Bd.exec
  have hby := Bd.bytes
  have hml : c.maxLocals = 2 := hml0
  have hown := findClass_of_methodNamed Bd.named
  have X0 : Stand p l e (own_rm_ 0 0 0 0) s m #[(.int x)] below meth c s₁ [] 0 0 := Stand.of_body Bd
  have e0 : s₁.heap = h0 := by rw [← hh, Bd.state]; rfl
  have N0 := Fr.nil n0
  have pre0 := own_pre (tb := p.tables) (e := e) (below := below) (T := s₁) (ef_1_60 m x)
  obtain ⟨fs, hr, hrun, hended, hW, hsame⟩ := X0.leave (v := some (.int (152 : Int32))) (fun h => by rw [Bd.returns] at h; cases h)
  refine ⟨_, _, pre0 _ ?_, hrun, hended, _, _, rfl, ?_, ⟨_, rfl⟩, hW, hsame.mono (by decide) (by decide)⟩
  · show own_St p e below s₁ m 0 #[vI (x), .unset] [] _
    refine XS.iloadN X0.here hx rfl (hb hby d1_0) rfl ?_
    refine XS.bipush X0.here hx rfl (hb hby d1_1) ?_
    show own_St p e below s₁ m 3 #[vI (x), .unset] [(.int (16 : Int32)), (.int x)] _
    refine XS.iushr X0.here hx rfl (hb hby d1_3) rfl ?_
    show own_St p e below s₁ m 4 #[vI (x), .unset] [(.int ((x.toUInt32 >>> ((16 : Int32) &&& 31).toUInt32).toInt32))] _
    refine XS.iconst X0.here hx rfl (hb hby d1_4) ?_
    refine XS.iand X0.here hx rfl (hb hby d1_5) rfl ?_
    refine XS.istoreN X0.here hx rfl (hb hby d1_6) rfl (l' := #[vI (x), vI ((((x.toUInt32 >>> ((16 : Int32) &&& 31).toUInt32).toInt32) &&& (3 : Int32)))]) rfl ?_
    refine XS.iloadN X0.here hx rfl (hb hby d1_7) rfl ?_
    refine XS.ifNo X0.here hx rfl (hb hby d1_8) rfl ((if0 _ _).trans (teq (h0_ : (((x.toUInt32 >>> ((16 : Int32) &&& 31).toUInt32).toInt32) &&& (3 : Int32)) = (0 : Int32))).2) ?_
    refine XS.sipush X0.here hx rfl (hb hby d1_11) ?_
    show own_St p e below s₁ m 14 #[vI (x), vI ((((x.toUInt32 >>> ((16 : Int32) &&& 31).toUInt32).toInt32) &&& (3 : Int32)))] [(.int (152 : Int32))] _
    exact retN X0 hx (t := .char) Bd.returns (by simp) (hb hby d1_14) hr
  · show own_Q (some (.int (own_dr x))) h0 n0 _ s₁.heap _
    rw [e0]
    exact ⟨by unfold own_dr; rw [if_pos h0_], N0, rfl⟩
theorem d1_15 : D1_ 15 = .ok (.iload_n 1, 1) := by decide +kernel
theorem d1_16 : D1_ 16 = .ok (.iconst 1, 1) := by decide +kernel
theorem d1_17 : D1_ 17 = .ok (.if_icmp .ne 7, 3) := by decide +kernel
theorem d1_20 : D1_ 20 = .ok (.sipush 156, 3) := by decide +kernel
theorem d1_23 : D1_ 23 = .ok (.ireturn, 1) := by decide +kernel
theorem r_dr1 (l : Launch) (Z : State) (a0 : Array Value) (hw : own_HW a0 Z) (ws : List Jvm.Cond) (cs1 : Int32) (fv : Value) (h0 : Heap) (n0 : Nat) (O0 : Old Z n0 h0) (G : own_Ctx Z Z.heap cs1 fv) (x : Int32) (h0_ : ¬ ((((x.toUInt32 >>> ((16 : Int32) &&& 31).toUInt32).toInt32) &&& (3 : Int32)) = (0 : Int32))) (h1_ : (((x.toUInt32 >>> ((16 : Int32) &&& 31).toUInt32).toInt32) &&& (3 : Int32)) = (1 : Int32)) :
    own_M l Y57_ (head1 (Jvm.Cond.code Y57_ method_3_code 2 (some .char) :: ws) (own_rm_ 0 0 0 0)) #[(.int x)] Z h0 n0 (own_Q (some (.int (own_dr x)))) (own_rm_ 0 0 0 0).cells (own_rm_ 0 0 0 0).slots := by
  have G0 := G
  refine MetFree.of_bodySF (plainFor_of_name pn_8) hisR ?_
  intro p e s m args below meth c s₁ Bd hml0 hP hK
  obtain ⟨rfl, hZ, hh⟩ := hP
  have hx := Bd.exec
  have hby := Bd.bytes
  have hml : c.maxLocals = 2 := hml0
  have hown := findClass_of_methodNamed Bd.named
  have X0 : Stand p l e (own_rm_ 0 0 0 0) s m #[(.int x)] below meth c s₁ [] 0 0 := Stand.of_body Bd
  have e0 : s₁.heap = h0 := by rw [← hh, Bd.state]; rfl
  have N0 := Fr.nil n0
  have pre0 := own_pre (tb := p.tables) (e := e) (below := below) (T := s₁) (ef_1_60 m x)
  obtain ⟨fs, hr, hrun, hended, hW, hsame⟩ := X0.leave (v := some (.int (156 : Int32))) (fun h => by rw [Bd.returns] at h; cases h)
  refine ⟨_, _, pre0 _ ?_, hrun, hended, _, _, rfl, ?_, ⟨_, rfl⟩, hW, hsame.mono (by decide) (by decide)⟩
  · show own_St p e below s₁ m 0 #[vI (x), .unset] [] _
    refine XS.iloadN X0.here hx rfl (hb hby d1_0) rfl ?_
    refine XS.bipush X0.here hx rfl (hb hby d1_1) ?_
    show own_St p e below s₁ m 3 #[vI (x), .unset] [(.int (16 : Int32)), (.int x)] _
    refine XS.iushr X0.here hx rfl (hb hby d1_3) rfl ?_
    show own_St p e below s₁ m 4 #[vI (x), .unset] [(.int ((x.toUInt32 >>> ((16 : Int32) &&& 31).toUInt32).toInt32))] _
    refine XS.iconst X0.here hx rfl (hb hby d1_4) ?_
    refine XS.iand X0.here hx rfl (hb hby d1_5) rfl ?_
    refine XS.istoreN X0.here hx rfl (hb hby d1_6) rfl (l' := #[vI (x), vI ((((x.toUInt32 >>> ((16 : Int32) &&& 31).toUInt32).toInt32) &&& (3 : Int32)))]) rfl ?_
    refine XS.iloadN X0.here hx rfl (hb hby d1_7) rfl ?_
    refine XS.ifYes X0.here hx rfl (pc0 := 8) (pc' := 15) rfl (hb hby d1_8) rfl ((if0 _ _).trans (feq (h0_ : ¬ ((((x.toUInt32 >>> ((16 : Int32) &&& 31).toUInt32).toInt32) &&& (3 : Int32)) = (0 : Int32)))).2) (by decide) (by decide) ?_
    refine XS.iloadN X0.here hx rfl (hb hby d1_15) rfl ?_
    refine XS.iconst X0.here hx rfl (hb hby d1_16) ?_
    refine XS.icmpNo X0.here hx rfl (hb hby d1_17) rfl (teq (h1_ : (((x.toUInt32 >>> ((16 : Int32) &&& 31).toUInt32).toInt32) &&& (3 : Int32)) = (1 : Int32))).2 ?_
    refine XS.sipush X0.here hx rfl (hb hby d1_20) ?_
    show own_St p e below s₁ m 23 #[vI (x), vI ((((x.toUInt32 >>> ((16 : Int32) &&& 31).toUInt32).toInt32) &&& (3 : Int32)))] [(.int (156 : Int32))] _
    exact retN X0 hx (t := .char) Bd.returns (by simp) (hb hby d1_23) hr
  · show own_Q (some (.int (own_dr x))) h0 n0 _ s₁.heap _
    rw [e0]
    exact ⟨by unfold own_dr; rw [if_neg h0_, if_pos h1_], N0, rfl⟩
theorem d1_24 : D1_ 24 = .ok (.iload_n 0, 1) := by decide +kernel
theorem d1_25 : D1_ 25 = .ok (.ldc 7, 2) := by decide +kernel
theorem d1_27 : D1_ 27 = .ok (.iand, 1) := by decide +kernel
theorem d1_28 : D1_ 28 = .ok (.i2c, 1) := by decide +kernel
theorem d1_29 : D1_ 29 = .ok (.ireturn, 1) := by decide +kernel
theorem r_dr2 (l : Launch) (Z : State) (a0 : Array Value) (hw : own_HW a0 Z) (ws : List Jvm.Cond) (cs1 : Int32) (fv : Value) (h0 : Heap) (n0 : Nat) (O0 : Old Z n0 h0) (G : own_Ctx Z Z.heap cs1 fv) (x : Int32) (h0_ : ¬ ((((x.toUInt32 >>> ((16 : Int32) &&& 31).toUInt32).toInt32) &&& (3 : Int32)) = (0 : Int32))) (h1_ : ¬ ((((x.toUInt32 >>> ((16 : Int32) &&& 31).toUInt32).toInt32) &&& (3 : Int32)) = (1 : Int32))) :
    own_M l Y57_ (head1 (Jvm.Cond.code Y57_ method_3_code 2 (some .char) :: ws) (own_rm_ 0 0 0 0)) #[(.int x)] Z h0 n0 (own_Q (some (.int (own_dr x)))) (own_rm_ 0 0 0 0).cells (own_rm_ 0 0 0 0).slots := by
  have G0 := G
  refine MetFree.of_bodySF (plainFor_of_name pn_8) hisR ?_
  intro p e s m args below meth c s₁ Bd hml0 hP hK
  obtain ⟨rfl, hZ, hh⟩ := hP
  have hx := Bd.exec
  have hby := Bd.bytes
  have hml : c.maxLocals = 2 := hml0
  have hown := findClass_of_methodNamed Bd.named
  have X0 : Stand p l e (own_rm_ 0 0 0 0) s m #[(.int x)] below meth c s₁ [] 0 0 := Stand.of_body Bd
  have e0 : s₁.heap = h0 := by rw [← hh, Bd.state]; rfl
  have N0 := Fr.nil n0
  have pre0 := own_pre (tb := p.tables) (e := e) (below := below) (T := s₁) (ef_1_60 m x)
  obtain ⟨fs, hr, hrun, hended, hW, hsame⟩ := X0.leave (v := some (.int (nar .char ((x &&& (65535 : Int32)).toUInt32.toUInt16.toUInt32.toInt32)))) (fun h => by rw [Bd.returns] at h; cases h)
  refine ⟨_, _, pre0 _ ?_, hrun, hended, _, _, rfl, ?_, ⟨_, rfl⟩, hW, hsame.mono (by decide) (by decide)⟩
  · show own_St p e below s₁ m 0 #[vI (x), .unset] [] _
    refine XS.iloadN X0.here hx rfl (hb hby d1_0) rfl ?_
    refine XS.bipush X0.here hx rfl (hb hby d1_1) ?_
    show own_St p e below s₁ m 3 #[vI (x), .unset] [(.int (16 : Int32)), (.int x)] _
    refine XS.iushr X0.here hx rfl (hb hby d1_3) rfl ?_
    show own_St p e below s₁ m 4 #[vI (x), .unset] [(.int ((x.toUInt32 >>> ((16 : Int32) &&& 31).toUInt32).toInt32))] _
    refine XS.iconst X0.here hx rfl (hb hby d1_4) ?_
    refine XS.iand X0.here hx rfl (hb hby d1_5) rfl ?_
    refine XS.istoreN X0.here hx rfl (hb hby d1_6) rfl (l' := #[vI (x), vI ((((x.toUInt32 >>> ((16 : Int32) &&& 31).toUInt32).toInt32) &&& (3 : Int32)))]) rfl ?_
    refine XS.iloadN X0.here hx rfl (hb hby d1_7) rfl ?_
    refine XS.ifYes X0.here hx rfl (pc0 := 8) (pc' := 15) rfl (hb hby d1_8) rfl ((if0 _ _).trans (feq (h0_ : ¬ ((((x.toUInt32 >>> ((16 : Int32) &&& 31).toUInt32).toInt32) &&& (3 : Int32)) = (0 : Int32)))).2) (by decide) (by decide) ?_
    refine XS.iloadN X0.here hx rfl (hb hby d1_15) rfl ?_
    refine XS.iconst X0.here hx rfl (hb hby d1_16) ?_
    refine XS.icmpYes X0.here hx rfl (pc0 := 17) (pc' := 24) rfl (hb hby d1_17) rfl (feq (h1_ : ¬ ((((x.toUInt32 >>> ((16 : Int32) &&& 31).toUInt32).toInt32) &&& (3 : Int32)) = (1 : Int32)))).2 (by decide) (by decide) ?_
    refine XS.iloadN X0.here hx rfl (hb hby d1_24) rfl ?_
    show own_St p e below s₁ m 25 #[vI (x), vI ((((x.toUInt32 >>> ((16 : Int32) &&& 31).toUInt32).toInt32) &&& (3 : Int32)))] [(.int x)] _
    refine X0.ldcInt hx hown (mvT hZ (own_w hw 177 rfl)) (g := (mkF m 25 #[vI (x), vI ((((x.toUInt32 >>> ((16 : Int32) &&& 31).toUInt32).toInt32) &&& (3 : Int32)))] [(.int x)])) rfl (hb hby d1_25) _ ?_
    show own_St p e below s₁ m 27 #[vI (x), vI ((((x.toUInt32 >>> ((16 : Int32) &&& 31).toUInt32).toInt32) &&& (3 : Int32)))] [(.int (65535 : Int32)), (.int x)] _
    refine XS.iand X0.here hx rfl (hb hby d1_27) rfl ?_
    refine XS.i2c X0.here hx rfl (hb hby d1_28) rfl ?_
    show own_St p e below s₁ m 29 #[vI (x), vI ((((x.toUInt32 >>> ((16 : Int32) &&& 31).toUInt32).toInt32) &&& (3 : Int32)))] [(.int ((x &&& (65535 : Int32)).toUInt32.toUInt16.toUInt32.toInt32))] _
    exact retN X0 hx (t := .char) Bd.returns (by simp) (hb hby d1_29) hr
  · show own_Q (some (.int (own_dr x))) h0 n0 _ s₁.heap _
    rw [e0]
    exact ⟨by unfold own_dr; rw [if_neg h0_, if_neg h1_]; exact own_nch (own_c16 _).1 (own_c16 _).2, N0, rfl⟩
theorem r_dr (l : Launch) (Z : State) (a0 : Array Value) (hw : own_HW a0 Z) (ws : List Jvm.Cond) (cs1 : Int32) (fv : Value) (h0 : Heap) (n0 : Nat) (O0 : Old Z n0 h0) (G : own_Ctx Z Z.heap cs1 fv) (x : Int32)  :
    own_M l Y57_ (head1 (Jvm.Cond.code Y57_ method_3_code 2 (some .char) :: ws) (own_rm_ 0 0 0 0)) #[(.int x)] Z h0 n0 (own_Q (some (.int (own_dr x)))) (own_rm_ 0 0 0 0).cells (own_rm_ 0 0 0 0).slots := by
  rcases Classical.em ((((x.toUInt32 >>> ((16 : Int32) &&& 31).toUInt32).toInt32) &&& (3 : Int32)) = (0 : Int32)) with a | a
  · exact r_dr0 l Z a0 hw ws cs1 fv h0 n0 O0 G x a
  · rcases Classical.em ((((x.toUInt32 >>> ((16 : Int32) &&& 31).toUInt32).toInt32) &&& (3 : Int32)) = (1 : Int32)) with b | b
    · exact r_dr1 l Z a0 hw ws cs1 fv h0 n0 O0 G x a b
    · exact r_dr2 l Z a0 hw ws cs1 fv h0 n0 O0 G x a b
theorem d20_0 : D20_ 0 = .ok (.iload_n 0, 1) := by decide +kernel
theorem d20_1 : D20_ 1 = .ok (.sipush 152, 3) := by decide +kernel
theorem d20_4 : D20_ 4 = .ok (.if_icmp .eq 10, 3) := by decide +kernel
theorem d20_14 : D20_ 14 = .ok (.iconst 1, 1) := by decide +kernel
theorem d20_15 : D20_ 15 = .ok (.goto 4, 3) := by decide +kernel
theorem d20_19 : D20_ 19 = .ok (.ireturn, 1) := by decide +kernel
theorem ef_20_61 (m : MethodId) (x0 : Int32) : entryFrame m #[(.int x0)] 1 = mkF m 0 #[vI (x0)] [] := by first | (simp [entryFrame, mkF, argsToLocals, Value.category]; done) | rfl
theorem r_im0 (l : Launch) (Z : State) (a0 : Array Value) (hw : own_HW a0 Z) (ws : List Jvm.Cond) (cs1 : Int32) (fv : Value) (h0 : Heap) (n0 : Nat) (O0 : Old Z n0 h0) (G : own_Ctx Z Z.heap cs1 fv) (cc : Int32) (q1 : cc = (152 : Int32)) :
    own_M l Y58_ (head1 (Jvm.Cond.code Y58_ method_2_code 1 (some .boolean) :: ws) (own_rm_ 0 0 0 0)) #[(.int cc)] Z h0 n0 (own_Q (some (.int (1 : Int32)))) (own_rm_ 0 0 0 0).cells (own_rm_ 0 0 0 0).slots := by
  have G0 := G
  refine MetFree.of_bodySF (plainFor_of_name pn_8) hisR ?_
  intro p e s m args below meth c s₁ Bd hml0 hP hK
  obtain ⟨rfl, hZ, hh⟩ := hP
  have hx := Bd.exec
  have hby := Bd.bytes
  have hml : c.maxLocals = 1 := hml0
  have hown := findClass_of_methodNamed Bd.named
  have X0 : Stand p l e (own_rm_ 0 0 0 0) s m #[(.int cc)] below meth c s₁ [] 0 0 := Stand.of_body Bd
  have e0 : s₁.heap = h0 := by rw [← hh, Bd.state]; rfl
  have N0 := Fr.nil n0
  have pre0 := own_pre (tb := p.tables) (e := e) (below := below) (T := s₁) (ef_20_61 m cc)
  obtain ⟨fs, hr, hrun, hended, hW, hsame⟩ := X0.leave (v := some (.int (1 : Int32))) (fun h => by rw [Bd.returns] at h; cases h)
  refine ⟨_, _, pre0 _ ?_, hrun, hended, _, _, rfl, ?_, ⟨_, rfl⟩, hW, hsame.mono (by decide) (by decide)⟩
  · show own_St p e below s₁ m 0 #[vI (cc)] [] _
    refine XS.iloadN X0.here hx rfl (hb hby d20_0) rfl ?_
    refine XS.sipush X0.here hx rfl (hb hby d20_1) ?_
    refine XS.icmpYes X0.here hx rfl (pc0 := 4) (pc' := 14) rfl (hb hby d20_4) rfl (teq (q1 : cc = (152 : Int32))).1 (by decide) (by decide) ?_
    refine XS.iconst X0.here hx rfl (hb hby d20_14) ?_
    refine XS.goto X0.here hx rfl (pc0 := 15) (pc' := 19) rfl (hb hby d20_15) (by decide) (by decide) ?_
    show own_St p e below s₁ m 19 #[vI (cc)] [(.int (1 : Int32))] _
    exact retN X0 hx (t := .boolean) Bd.returns (by simp) (hb hby d20_19) hr
  · show own_Q (some (.int (1 : Int32))) h0 n0 _ s₁.heap _
    rw [e0]
    exact ⟨rfl, N0, rfl⟩
theorem d20_7 : D20_ 7 = .ok (.iload_n 0, 1) := by decide +kernel
theorem d20_8 : D20_ 8 = .ok (.sipush 156, 3) := by decide +kernel
theorem d20_11 : D20_ 11 = .ok (.if_icmp .ne 7, 3) := by decide +kernel
theorem r_im1 (l : Launch) (Z : State) (a0 : Array Value) (hw : own_HW a0 Z) (ws : List Jvm.Cond) (cs1 : Int32) (fv : Value) (h0 : Heap) (n0 : Nat) (O0 : Old Z n0 h0) (G : own_Ctx Z Z.heap cs1 fv) (cc : Int32) (q1 : ¬ (cc = (152 : Int32))) (q2 : cc = (156 : Int32)) :
    own_M l Y58_ (head1 (Jvm.Cond.code Y58_ method_2_code 1 (some .boolean) :: ws) (own_rm_ 0 0 0 0)) #[(.int cc)] Z h0 n0 (own_Q (some (.int (1 : Int32)))) (own_rm_ 0 0 0 0).cells (own_rm_ 0 0 0 0).slots := by
  have G0 := G
  refine MetFree.of_bodySF (plainFor_of_name pn_8) hisR ?_
  intro p e s m args below meth c s₁ Bd hml0 hP hK
  obtain ⟨rfl, hZ, hh⟩ := hP
  have hx := Bd.exec
  have hby := Bd.bytes
  have hml : c.maxLocals = 1 := hml0
  have hown := findClass_of_methodNamed Bd.named
  have X0 : Stand p l e (own_rm_ 0 0 0 0) s m #[(.int cc)] below meth c s₁ [] 0 0 := Stand.of_body Bd
  have e0 : s₁.heap = h0 := by rw [← hh, Bd.state]; rfl
  have N0 := Fr.nil n0
  have pre0 := own_pre (tb := p.tables) (e := e) (below := below) (T := s₁) (ef_20_61 m cc)
  obtain ⟨fs, hr, hrun, hended, hW, hsame⟩ := X0.leave (v := some (.int (1 : Int32))) (fun h => by rw [Bd.returns] at h; cases h)
  refine ⟨_, _, pre0 _ ?_, hrun, hended, _, _, rfl, ?_, ⟨_, rfl⟩, hW, hsame.mono (by decide) (by decide)⟩
  · show own_St p e below s₁ m 0 #[vI (cc)] [] _
    refine XS.iloadN X0.here hx rfl (hb hby d20_0) rfl ?_
    refine XS.sipush X0.here hx rfl (hb hby d20_1) ?_
    refine XS.icmpNo X0.here hx rfl (hb hby d20_4) rfl (feq (q1 : ¬ (cc = (152 : Int32)))).1 ?_
    refine XS.iloadN X0.here hx rfl (hb hby d20_7) rfl ?_
    refine XS.sipush X0.here hx rfl (hb hby d20_8) ?_
    refine XS.icmpNo X0.here hx rfl (hb hby d20_11) rfl (teq (q2 : cc = (156 : Int32))).2 ?_
    refine XS.iconst X0.here hx rfl (hb hby d20_14) ?_
    refine XS.goto X0.here hx rfl (pc0 := 15) (pc' := 19) rfl (hb hby d20_15) (by decide) (by decide) ?_
    show own_St p e below s₁ m 19 #[vI (cc)] [(.int (1 : Int32))] _
    exact retN X0 hx (t := .boolean) Bd.returns (by simp) (hb hby d20_19) hr
  · show own_Q (some (.int (1 : Int32))) h0 n0 _ s₁.heap _
    rw [e0]
    exact ⟨rfl, N0, rfl⟩
theorem d20_18 : D20_ 18 = .ok (.iconst 0, 1) := by decide +kernel
theorem r_im2 (l : Launch) (Z : State) (a0 : Array Value) (hw : own_HW a0 Z) (ws : List Jvm.Cond) (cs1 : Int32) (fv : Value) (h0 : Heap) (n0 : Nat) (O0 : Old Z n0 h0) (G : own_Ctx Z Z.heap cs1 fv) (cc : Int32) (q1 : ¬ (cc = (152 : Int32))) (q2 : ¬ (cc = (156 : Int32))) :
    own_M l Y58_ (head1 (Jvm.Cond.code Y58_ method_2_code 1 (some .boolean) :: ws) (own_rm_ 0 0 0 0)) #[(.int cc)] Z h0 n0 (own_Q (some (.int (0 : Int32)))) (own_rm_ 0 0 0 0).cells (own_rm_ 0 0 0 0).slots := by
  have G0 := G
  refine MetFree.of_bodySF (plainFor_of_name pn_8) hisR ?_
  intro p e s m args below meth c s₁ Bd hml0 hP hK
  obtain ⟨rfl, hZ, hh⟩ := hP
  have hx := Bd.exec
  have hby := Bd.bytes
  have hml : c.maxLocals = 1 := hml0
  have hown := findClass_of_methodNamed Bd.named
  have X0 : Stand p l e (own_rm_ 0 0 0 0) s m #[(.int cc)] below meth c s₁ [] 0 0 := Stand.of_body Bd
  have e0 : s₁.heap = h0 := by rw [← hh, Bd.state]; rfl
  have N0 := Fr.nil n0
  have pre0 := own_pre (tb := p.tables) (e := e) (below := below) (T := s₁) (ef_20_61 m cc)
  obtain ⟨fs, hr, hrun, hended, hW, hsame⟩ := X0.leave (v := some (.int (0 : Int32))) (fun h => by rw [Bd.returns] at h; cases h)
  refine ⟨_, _, pre0 _ ?_, hrun, hended, _, _, rfl, ?_, ⟨_, rfl⟩, hW, hsame.mono (by decide) (by decide)⟩
  · show own_St p e below s₁ m 0 #[vI (cc)] [] _
    refine XS.iloadN X0.here hx rfl (hb hby d20_0) rfl ?_
    refine XS.sipush X0.here hx rfl (hb hby d20_1) ?_
    refine XS.icmpNo X0.here hx rfl (hb hby d20_4) rfl (feq (q1 : ¬ (cc = (152 : Int32)))).1 ?_
    refine XS.iloadN X0.here hx rfl (hb hby d20_7) rfl ?_
    refine XS.sipush X0.here hx rfl (hb hby d20_8) ?_
    refine XS.icmpYes X0.here hx rfl (pc0 := 11) (pc' := 18) rfl (hb hby d20_11) rfl (feq (q2 : ¬ (cc = (156 : Int32)))).2 (by decide) (by decide) ?_
    refine XS.iconst X0.here hx rfl (hb hby d20_18) ?_
    show own_St p e below s₁ m 19 #[vI (cc)] [(.int (0 : Int32))] _
    exact retN X0 hx (t := .boolean) Bd.returns (by simp) (hb hby d20_19) hr
  · show own_Q (some (.int (0 : Int32))) h0 n0 _ s₁.heap _
    rw [e0]
    exact ⟨rfl, N0, rfl⟩
theorem r_imT (l : Launch) (Z : State) (a0 : Array Value) (hw : own_HW a0 Z) (ws : List Jvm.Cond) (cs1 : Int32) (fv : Value) (h0 : Heap) (n0 : Nat) (O0 : Old Z n0 h0) (G : own_Ctx Z Z.heap cs1 fv) (cc : Int32) (hk : own_mk cc) :
    own_M l Y58_ (head1 (Jvm.Cond.code Y58_ method_2_code 1 (some .boolean) :: ws) (own_rm_ 0 0 0 0)) #[(.int cc)] Z h0 n0 (own_Q (some (.int (1 : Int32)))) (own_rm_ 0 0 0 0).cells (own_rm_ 0 0 0 0).slots := by
  rcases Classical.em (cc = (152 : Int32)) with q1 | q1
  · exact r_im0 l Z a0 hw ws cs1 fv h0 n0 O0 G cc q1
  · exact r_im1 l Z a0 hw ws cs1 fv h0 n0 O0 G cc q1 (hk.resolve_left q1)
theorem r_imF (l : Launch) (Z : State) (a0 : Array Value) (hw : own_HW a0 Z) (ws : List Jvm.Cond) (cs1 : Int32) (fv : Value) (h0 : Heap) (n0 : Nat) (O0 : Old Z n0 h0) (G : own_Ctx Z Z.heap cs1 fv) (cc : Int32) (hk : ¬ own_mk cc) :
    own_M l Y58_ (head1 (Jvm.Cond.code Y58_ method_2_code 1 (some .boolean) :: ws) (own_rm_ 0 0 0 0)) #[(.int cc)] Z h0 n0 (own_Q (some (.int (0 : Int32)))) (own_rm_ 0 0 0 0).cells (own_rm_ 0 0 0 0).slots := by
  exact r_im2 l Z a0 hw ws cs1 fv h0 n0 O0 G cc (fun q => hk (Or.inl q)) (fun q => hk (Or.inr q))
theorem d19_0 : D19_ 0 = .ok (.iload_n 2, 1) := by decide +kernel
theorem d19_1 : D19_ 1 = .ok (.invokestatic 8, 3) := by decide +kernel
theorem d19_4 : D19_ 4 = .ok (.ifCond .eq 5, 3) := by decide +kernel
theorem d19_9 : D19_ 9 = .ok (.aload_n 0, 1) := by decide +kernel
theorem d19_10 : D19_ 10 = .ok (.iload_n 1, 1) := by decide +kernel
theorem d19_11 : D19_ 11 = .ok (.iload_n 2, 1) := by decide +kernel
theorem d19_12 : D19_ 12 = .ok (.castore, 1) := by decide +kernel
theorem d19_13 : D19_ 13 = .ok (.iload_n 1, 1) := by decide +kernel
theorem d19_14 : D19_ 14 = .ok (.iconst 1, 1) := by decide +kernel
theorem d19_15 : D19_ 15 = .ok (.iadd, 1) := by decide +kernel
theorem d19_16 : D19_ 16 = .ok (.ireturn, 1) := by decide +kernel
theorem ef_19_62 (m : MethodId) (x0 : Addr) (x1 : Int32) (x2 : Int32) : entryFrame m #[(.ref x0), (.int x1), (.int x2)] 3 = mkF m 0 #[vR (x0), vI (x1), vI (x2)] [] := by first | (simp [entryFrame, mkF, argsToLocals, Value.category]; done) | rfl
theorem r_pt0 (l : Launch) (Z : State) (a0 : Array Value) (hw : own_HW a0 Z) (ws : List Jvm.Cond) (cs1 : Int32) (fv : Value) (h0 : Heap) (n0 : Nat) (O0 : Old Z n0 h0) (G : own_Ctx Z Z.heap cs1 fv) (a3 : Addr) (k3 : ClassId) (out : List Int32) (cc : Int32) (Vb : Arv Z h0 a3 k3 .char (4 : Int32) (out.map Value.int) (.int (0 : Int32))) (ga : n0 ≤ a3) (ho : out.length < 4) (hz : ¬ (cc < (0 : Int32))) (hm : ¬ ((65535 : Int32) < cc)) (hk : ¬ own_mk cc) :
    own_M l Y59_ (head1 (Jvm.Cond.code Y59_ method_4_code 3 (some .int) :: ws) (own_rm_ 1 0 0 12)) #[(.ref a3), (.int out.length.toInt32), (.int cc)] Z h0 n0 (own_QW Z (some (.int (own_pt out cc).length.toInt32)) a3 k3 .char (4 : Int32) ((own_pt out cc).map Value.int)) (own_rm_ 1 0 0 12).cells (own_rm_ 1 0 0 12).slots := by
  have G0 := G
  refine MetFree.of_bodySF (plainFor_of_name pn_8) hisR ?_
  intro p e s m args below meth c s₁ Bd hml0 hP hK
  obtain ⟨rfl, hZ, hh⟩ := hP
  have hx := Bd.exec
  have hby := Bd.bytes
  have hml : c.maxLocals = 3 := hml0
  have hown := findClass_of_methodNamed Bd.named
  have X0 : Stand p l e (own_rm_ 1 0 0 12) s m #[(.ref a3), (.int out.length.toInt32), (.int cc)] below meth c s₁ [] 0 0 := Stand.of_body Bd
  have e0 : s₁.heap = h0 := by rw [← hh, Bd.state]; rfl
  have N0 := Fr.nil n0
  have pre0 := own_pre (tb := p.tables) (e := e) (below := below) (T := s₁) (ef_19_62 m a3 out.length.toInt32 cc)
  have hk9 : out.length ≤ 1000 := by omega
  obtain ⟨_, _, ⟨T1, L1, k1, n1⟩, -, X1, ⟨Lc1, hQ1, l1, y1, z1⟩, st1⟩ := Jvm.LawKit.callS X0 hx (y := Y58_) hown (mvT hZ (own_w hw 88 rfl)) (mvT hZ (own_w hw 89 rfl)) (mvT hZ (own_w hw 3 rfl)) (mvT hZ (own_w hw 90 rfl)) (by decide) (backOf (W := 0) (r_imF l Z a0 hw [] cs1 fv h0 n0 O0 G0 cc hk) hZ (own_w hw 90 rfl) (own_w hw 3 rfl) (by decide) (by decide)) (g := (mkF m 1 #[vR (a3), vI (out.length.toInt32), vI (cc)] [(.int cc)])) rfl (by rw [hml]; rfl) (argsL := [(.int cc)]) (rest := []) (lenOf pd_24 rfl) rfl (by show 2 * 0 + _ ≤ _; exact Nat.le_of_eq rfl) (hb hby d19_1) (fun _ _ => ⟨rfl, e0, (by decide : 0 + 0 ≤ _), (by decide : 0 + 0 ≤ _)⟩)
  dsimp only [Pt.U, Pt.locs, Pt.cells, Pt.slots] at X1 l1 y1 z1 st1 hQ1
  subst l1 y1 z1
  obtain ⟨rfl, N1q, e1⟩ := hQ1
  have N1 := Fr.app N0 N1q
  have V12 : Arv Z h0 a3 k3 .char (4 : Int32) (out.map Value.int ++ [Value.int (0 : Int32)]) (.int (0 : Int32)) := Vb.pad (pad_rep (out.map Value.int) (.int (0 : Int32)) 1)
  have vc2 := V12
  obtain ⟨cl2, Ar2, qk2, S2, Nn2, Hs2, Gf2⟩ := vc2
  have hin2 : ¬ (out.length.toInt32 < 0 ∨ cl2.slots.size ≤ (out.length.toInt32).toNatClampNeg) := inb_of S2 ⟨(own_ti hk9).2.1, own_tl ho (by decide)⟩
  obtain ⟨T3, h3, X3, e3, W3, st3⟩ := stC X1 hx hZ e1 Ar2 (j := out.length.toInt32) hin2 (g := (mkF m 12 #[vR (a3), vI (out.length.toInt32), vI (cc)] [(.int cc), (.int out.length.toInt32), (.ref a3)])) rfl rfl (hb hby d19_12)
  have O3 := O0.wr W3 ga
  have K3 : Keep h0 h3 [a3] := (Keep.refl h0 [a3]).wr W3 (Or.inl (List.mem_of_getElem? (i := 0) rfl))
  have N3 := Fr.snoc X3 N1 ga
  have f4 : Arv Z h3 a3 k3 .char (4 : Int32) (List.set (out.map Value.int ++ [Value.int (0 : Int32)]) (out.length.toInt32).toNatClampNeg (.int (nar .char cc))) (.int (0 : Int32)) := Arv.set Ar2 qk2 S2 Nn2 Hs2 Gf2 (fits_nar_char _) W3 (out.length.toInt32).toNatClampNeg rfl (by rw [(own_ti hk9).1]; simp)
  obtain ⟨fs, hr, hrun, hended, hW, hsame⟩ := X3.leave (v := some (.int (out.length.toInt32 + (1 : Int32)))) (fun h => by rw [Bd.returns] at h; cases h)
  refine ⟨_, _, pre0 _ ?_, hrun, hended, _, _, rfl, ?_, ⟨_, rfl⟩, hW, hsame.mono (by decide) (by decide)⟩
  · show own_St p e below s₁ m 0 #[vR (a3), vI (out.length.toInt32), vI (cc)] [] _
    refine XS.iloadN X0.here hx rfl (hb hby d19_0) rfl ?_
    show own_St p e below s₁ m 1 #[vR (a3), vI (out.length.toInt32), vI (cc)] [(.int cc)] _
    refine st1 _ ?_
    show own_St p e below T1 m 4 #[vR (a3), vI (out.length.toInt32), vI (cc)] [(.int (0 : Int32))] _
    refine XS.ifYes X1.here hx rfl (pc0 := 4) (pc' := 9) rfl (hb hby d19_4) rfl ((if0 _ _).trans (teq (by decide : (0 : Int32) = (0 : Int32))).1) (by decide) (by decide) ?_
    refine XS.aloadN X1.here hx rfl (hb hby d19_9) rfl rfl ?_
    refine XS.iloadN X1.here hx rfl (hb hby d19_10) rfl ?_
    refine XS.iloadN X1.here hx rfl (hb hby d19_11) rfl ?_
    show own_St p e below T1 m 12 #[vR (a3), vI (out.length.toInt32), vI (cc)] [(.int cc), (.int out.length.toInt32), (.ref a3)] _
    refine st3 _ ?_
    show own_St p e below T3 m 13 #[vR (a3), vI (out.length.toInt32), vI (cc)] [] _
    refine XS.iloadN X3.here hx rfl (hb hby d19_13) rfl ?_
    refine XS.iconst X3.here hx rfl (hb hby d19_14) ?_
    refine XS.iadd X3.here hx rfl (hb hby d19_15) rfl ?_
    show own_St p e below T3 m 16 #[vR (a3), vI (out.length.toInt32), vI (cc)] [(.int (out.length.toInt32 + (1 : Int32)))] _
    exact retI X3 hx Bd.returns (hb hby d19_16) hr
  · show own_QW Z (some (.int (own_pt out cc).length.toInt32)) a3 k3 .char (4 : Int32) ((own_pt out cc).map Value.int) h0 n0 _ T3.heap _
    rw [e3]
    exact ⟨by rw [own_ptF hk, ← own_lenapp (c := cc) hk9], N3, K3, by rw [own_ptF hk]; have q := f4; rw [(own_ti hk9).1, own_nc hz hm, own_chput] at q; exact q⟩
theorem d19_7 : D19_ 7 = .ok (.iload_n 1, 1) := by decide +kernel
theorem d19_8 : D19_ 8 = .ok (.ireturn, 1) := by decide +kernel
theorem r_pt1 (l : Launch) (Z : State) (a0 : Array Value) (hw : own_HW a0 Z) (ws : List Jvm.Cond) (cs1 : Int32) (fv : Value) (h0 : Heap) (n0 : Nat) (O0 : Old Z n0 h0) (G : own_Ctx Z Z.heap cs1 fv) (a3 : Addr) (k3 : ClassId) (out : List Int32) (cc : Int32) (Vb : Arv Z h0 a3 k3 .char (4 : Int32) (out.map Value.int) (.int (0 : Int32))) (ga : n0 ≤ a3) (ho : out.length < 4) (hz : ¬ (cc < (0 : Int32))) (hm : ¬ ((65535 : Int32) < cc)) (hk : own_mk cc) :
    own_M l Y59_ (head1 (Jvm.Cond.code Y59_ method_4_code 3 (some .int) :: ws) (own_rm_ 1 0 0 12)) #[(.ref a3), (.int out.length.toInt32), (.int cc)] Z h0 n0 (own_QW Z (some (.int (own_pt out cc).length.toInt32)) a3 k3 .char (4 : Int32) ((own_pt out cc).map Value.int)) (own_rm_ 1 0 0 12).cells (own_rm_ 1 0 0 12).slots := by
  have G0 := G
  refine MetFree.of_bodySF (plainFor_of_name pn_8) hisR ?_
  intro p e s m args below meth c s₁ Bd hml0 hP hK
  obtain ⟨rfl, hZ, hh⟩ := hP
  have hx := Bd.exec
  have hby := Bd.bytes
  have hml : c.maxLocals = 3 := hml0
  have hown := findClass_of_methodNamed Bd.named
  have X0 : Stand p l e (own_rm_ 1 0 0 12) s m #[(.ref a3), (.int out.length.toInt32), (.int cc)] below meth c s₁ [] 0 0 := Stand.of_body Bd
  have e0 : s₁.heap = h0 := by rw [← hh, Bd.state]; rfl
  have N0 := Fr.nil n0
  have pre0 := own_pre (tb := p.tables) (e := e) (below := below) (T := s₁) (ef_19_62 m a3 out.length.toInt32 cc)
  have hk9 : out.length ≤ 1000 := by omega
  obtain ⟨_, _, ⟨T1, L1, k1, n1⟩, -, X1, ⟨Lc1, hQ1, l1, y1, z1⟩, st1⟩ := Jvm.LawKit.callS X0 hx (y := Y58_) hown (mvT hZ (own_w hw 88 rfl)) (mvT hZ (own_w hw 89 rfl)) (mvT hZ (own_w hw 3 rfl)) (mvT hZ (own_w hw 90 rfl)) (by decide) (backOf (W := 0) (r_imT l Z a0 hw [] cs1 fv h0 n0 O0 G0 cc hk) hZ (own_w hw 90 rfl) (own_w hw 3 rfl) (by decide) (by decide)) (g := (mkF m 1 #[vR (a3), vI (out.length.toInt32), vI (cc)] [(.int cc)])) rfl (by rw [hml]; rfl) (argsL := [(.int cc)]) (rest := []) (lenOf pd_24 rfl) rfl (by show 2 * 0 + _ ≤ _; exact Nat.le_of_eq rfl) (hb hby d19_1) (fun _ _ => ⟨rfl, e0, (by decide : 0 + 0 ≤ _), (by decide : 0 + 0 ≤ _)⟩)
  dsimp only [Pt.U, Pt.locs, Pt.cells, Pt.slots] at X1 l1 y1 z1 st1 hQ1
  subst l1 y1 z1
  obtain ⟨rfl, N1q, e1⟩ := hQ1
  have N1 := Fr.app N0 N1q
  obtain ⟨fs, hr, hrun, hended, hW, hsame⟩ := X1.leave (v := some (.int out.length.toInt32)) (fun h => by rw [Bd.returns] at h; cases h)
  refine ⟨_, _, pre0 _ ?_, hrun, hended, _, _, rfl, ?_, ⟨_, rfl⟩, hW, hsame.mono (by decide) (by decide)⟩
  · show own_St p e below s₁ m 0 #[vR (a3), vI (out.length.toInt32), vI (cc)] [] _
    refine XS.iloadN X0.here hx rfl (hb hby d19_0) rfl ?_
    show own_St p e below s₁ m 1 #[vR (a3), vI (out.length.toInt32), vI (cc)] [(.int cc)] _
    refine st1 _ ?_
    show own_St p e below T1 m 4 #[vR (a3), vI (out.length.toInt32), vI (cc)] [(.int (1 : Int32))] _
    refine XS.ifNo X1.here hx rfl (hb hby d19_4) rfl ((if0 _ _).trans (feq (by decide : ¬ ((1 : Int32) = (0 : Int32)))).1) ?_
    refine XS.iloadN X1.here hx rfl (hb hby d19_7) rfl ?_
    show own_St p e below T1 m 8 #[vR (a3), vI (out.length.toInt32), vI (cc)] [(.int out.length.toInt32)] _
    exact retI X1 hx Bd.returns (hb hby d19_8) hr
  · show own_QW Z (some (.int (own_pt out cc).length.toInt32)) a3 k3 .char (4 : Int32) ((own_pt out cc).map Value.int) h0 n0 _ T1.heap _
    rw [e1]
    exact ⟨by rw [own_ptT hk], N1, Keep.refl _ _, by rw [own_ptT hk]; exact Vb⟩
theorem r_pt (l : Launch) (Z : State) (a0 : Array Value) (hw : own_HW a0 Z) (ws : List Jvm.Cond) (cs1 : Int32) (fv : Value) (h0 : Heap) (n0 : Nat) (O0 : Old Z n0 h0) (G : own_Ctx Z Z.heap cs1 fv) (a3 : Addr) (k3 : ClassId) (out : List Int32) (cc : Int32) (Vb : Arv Z h0 a3 k3 .char (4 : Int32) (out.map Value.int) (.int (0 : Int32))) (ga : n0 ≤ a3) (ho : out.length < 4) (hz : ¬ (cc < (0 : Int32))) (hm : ¬ ((65535 : Int32) < cc)) :
    own_M l Y59_ (head1 (Jvm.Cond.code Y59_ method_4_code 3 (some .int) :: ws) (own_rm_ 1 0 0 12)) #[(.ref a3), (.int out.length.toInt32), (.int cc)] Z h0 n0 (own_QW Z (some (.int (own_pt out cc).length.toInt32)) a3 k3 .char (4 : Int32) ((own_pt out cc).map Value.int)) (own_rm_ 1 0 0 12).cells (own_rm_ 1 0 0 12).slots := by
  rcases Classical.em (own_mk cc) with hk | hk
  · exact r_pt1 l Z a0 hw ws cs1 fv h0 n0 O0 G a3 k3 out cc Vb ga ho hz hm hk
  · exact r_pt0 l Z a0 hw ws cs1 fv h0 n0 O0 G a3 k3 out cc Vb ga ho hz hm hk
theorem own_ge {i n : Nat} (h : ¬ (i < n)) (hi : i < 4) : ¬ (i.toInt32 < n.toInt32) := own_le (by omega) (by omega)
theorem own_c4 {i : Nat} (h : i < 4) : ¬ (i.toInt32 < 0) ∧ i.toInt32 < (4 : Int32) := ⟨(own_ti (by omega)).2.1, own_tl h (by decide)⟩
theorem d15_0 : D15_ 0 = .ok (.iload_n 2, 1) := by decide +kernel
theorem d15_1 : D15_ 1 = .ok (.iload_n 3, 1) := by decide +kernel
theorem d15_2 : D15_ 2 = .ok (.if_icmp .ge 14, 3) := by decide +kernel
theorem d15_16 : D15_ 16 = .ok (.iconst 1, 1) := by decide +kernel
theorem d15_17 : D15_ 17 = .ok (.goto 4, 3) := by decide +kernel
theorem d15_21 : D15_ 21 = .ok (.ireturn, 1) := by decide +kernel
theorem ef_15_63 (m : MethodId) (x0 : Addr) (x1 : Addr) (x2 : Int32) (x3 : Int32) : entryFrame m #[(.ref x0), (.ref x1), (.int x2), (.int x3)] 4 = mkF m 0 #[vR (x0), vR (x1), vI (x2), vI (x3)] [] := by first | (simp [entryFrame, mkF, argsToLocals, Value.category]; done) | rfl
theorem r_sm0 (l : Launch) (Z : State) (a0 : Array Value) (hw : own_HW a0 Z) (ws : List Jvm.Cond) (cs1 : Int32) (fv : Value) (h0 : Heap) (n0 : Nat) (O0 : Old Z n0 h0) (G : own_Ctx Z Z.heap cs1 fv) (a1 a3 : Addr) (k3 : ClassId) (cs : List Int32) (i : Nat) (S : own_Str Z h0 a1 cs) (Vb : Arv Z h0 a3 k3 .char (4 : Int32) (cs.map Value.int) (.int (0 : Int32))) (hn : cs.length ≤ 4) (hB : own_Bd cs) (h4 : i < 4) (hi : ¬ (i < cs.length)) :
    own_M l Y60_ (head1 (Jvm.Cond.code Y60_ method_5_code 4 (some .boolean) :: ws) (own_rm_ 5 0 0 66)) #[(.ref a1), (.ref a3), (.int i.toInt32), (.int cs.length.toInt32)] Z h0 n0 (own_Q (some (.int (1 : Int32)))) (own_rm_ 5 0 0 66).cells (own_rm_ 5 0 0 66).slots := by
  have G0 := G
  refine MetFree.of_bodySF (plainFor_of_name pn_8) hisR ?_
  intro p e s m args below meth c s₁ Bd hml0 hP hK
  obtain ⟨rfl, hZ, hh⟩ := hP
  have hx := Bd.exec
  have hby := Bd.bytes
  have hml : c.maxLocals = 4 := hml0
  have hown := findClass_of_methodNamed Bd.named
  have X0 : Stand p l e (own_rm_ 5 0 0 66) s m #[(.ref a1), (.ref a3), (.int i.toInt32), (.int cs.length.toInt32)] below meth c s₁ [] 0 0 := Stand.of_body Bd
  have e0 : s₁.heap = h0 := by rw [← hh, Bd.state]; rfl
  have N0 := Fr.nil n0
  have pre0 := own_pre (tb := p.tables) (e := e) (below := below) (T := s₁) (ef_15_63 m a1 a3 i.toInt32 cs.length.toInt32)
  obtain ⟨fs, hr, hrun, hended, hW, hsame⟩ := X0.leave (v := some (.int (1 : Int32))) (fun h => by rw [Bd.returns] at h; cases h)
  refine ⟨_, _, pre0 _ ?_, hrun, hended, _, _, rfl, ?_, ⟨_, rfl⟩, hW, hsame.mono (by decide) (by decide)⟩
  · show own_St p e below s₁ m 0 #[vR (a1), vR (a3), vI (i.toInt32), vI (cs.length.toInt32)] [] _
    refine XS.iloadN X0.here hx rfl (hb hby d15_0) rfl ?_
    refine XS.iloadN X0.here hx rfl (hb hby d15_1) rfl ?_
    refine XS.icmpYes X0.here hx rfl (pc0 := 2) (pc' := 16) rfl (hb hby d15_2) rfl (flt (own_ge hi h4 : ¬ (i.toInt32 < cs.length.toInt32))).2.1 (by decide) (by decide) ?_
    refine XS.iconst X0.here hx rfl (hb hby d15_16) ?_
    refine XS.goto X0.here hx rfl (pc0 := 17) (pc' := 21) rfl (hb hby d15_17) (by decide) (by decide) ?_
    show own_St p e below s₁ m 21 #[vR (a1), vR (a3), vI (i.toInt32), vI (cs.length.toInt32)] [(.int (1 : Int32))] _
    exact retN X0 hx (t := .boolean) Bd.returns (by simp) (hb hby d15_21) hr
  · show own_Q (some (.int (1 : Int32))) h0 n0 _ s₁.heap _
    rw [e0]
    exact ⟨rfl, N0, rfl⟩
theorem d15_5 : D15_ 5 = .ok (.aload_n 0, 1) := by decide +kernel
theorem d15_6 : D15_ 6 = .ok (.iload_n 2, 1) := by decide +kernel
theorem d15_7 : D15_ 7 = .ok (.invokevirtual 14, 3) := by decide +kernel
theorem d15_10 : D15_ 10 = .ok (.aload_n 1, 1) := by decide +kernel
theorem d15_11 : D15_ 11 = .ok (.iload_n 2, 1) := by decide +kernel
theorem d15_12 : D15_ 12 = .ok (.caload, 1) := by decide +kernel
theorem d15_13 : D15_ 13 = .ok (.if_icmp .ne 7, 3) := by decide +kernel
theorem r_sm1 (l : Launch) (Z : State) (a0 : Array Value) (hw : own_HW a0 Z) (ws : List Jvm.Cond) (cs1 : Int32) (fv : Value) (h0 : Heap) (n0 : Nat) (O0 : Old Z n0 h0) (G : own_Ctx Z Z.heap cs1 fv) (a1 a3 : Addr) (k3 : ClassId) (cs : List Int32) (i : Nat) (S : own_Str Z h0 a1 cs) (Vb : Arv Z h0 a3 k3 .char (4 : Int32) (cs.map Value.int) (.int (0 : Int32))) (hn : cs.length ≤ 4) (hB : own_Bd cs) (h4 : i < 4) (hi : i < cs.length) :
    own_M l Y60_ (head1 (Jvm.Cond.code Y60_ method_5_code 4 (some .boolean) :: ws) (own_rm_ 5 0 0 66)) #[(.ref a1), (.ref a3), (.int i.toInt32), (.int cs.length.toInt32)] Z h0 n0 (own_Q (some (.int (1 : Int32)))) (own_rm_ 5 0 0 66).cells (own_rm_ 5 0 0 66).slots := by
  have G0 := G
  refine MetFree.of_bodySF (plainFor_of_name pn_8) hisR ?_
  intro p e s m args below meth c s₁ Bd hml0 hP hK
  obtain ⟨rfl, hZ, hh⟩ := hP
  have hx := Bd.exec
  have hby := Bd.bytes
  have hml : c.maxLocals = 4 := hml0
  have hown := findClass_of_methodNamed Bd.named
  have X0 : Stand p l e (own_rm_ 5 0 0 66) s m #[(.ref a1), (.ref a3), (.int i.toInt32), (.int cs.length.toInt32)] below meth c s₁ [] 0 0 := Stand.of_body Bd
  have e0 : s₁.heap = h0 := by rw [← hh, Bd.state]; rfl
  have N0 := Fr.nil n0
  have pre0 := own_pre (tb := p.tables) (e := e) (below := below) (T := s₁) (ef_15_63 m a1 a3 i.toInt32 cs.length.toInt32)
  obtain ⟨cq1, kq1, q1a, q1b, q1c⟩ := isOf hZ e0 (own_Str_exa S)
  obtain ⟨_, _, ⟨T1, L1, k1, n1⟩, -, X1, ⟨Lc1, hQ1, l1, y1, z1⟩, st1⟩ := X0.virtualBack hx (y := Y19_) (z := Y19_) hown (mvT hZ (own_w hw 221 rfl)) (mvT hZ (own_w hw 114 rfl)) (notFace_of_selects (args := #[]) (mvT hZ (own_w hw 116 rfl))) (mvT hZ (own_w hw 116 rfl)) (mvT hZ (own_w hw 115 rfl)) (by decide) (backOf (W := 0) (r_ch l Z a0 hw [] cs1 fv h0 n0 O0 G0 a1 cs S i hi hn hB) hZ (own_w hw 117 rfl) (own_w hw 8 rfl) (by decide) (by decide)) q1a q1c (g := (mkF m 7 #[vR (a1), vR (a3), vI (i.toInt32), vI (cs.length.toInt32)] [(.int i.toInt32), (.ref a1)])) rfl (by rw [hml]; rfl) (Steps.refl _) (argsL := [(.int i.toInt32)]) (rest := []) (lenOf pd_31 rfl) rfl (by show 2 * 0 + _ ≤ _; exact Nat.le_of_eq rfl) (hb hby d15_7) (fun _ _ => ⟨rfl, e0, (by decide : 0 + 0 ≤ _), (by decide : 0 + 0 ≤ _)⟩)
  dsimp only [Pt.U, Pt.locs, Pt.cells, Pt.slots] at X1 l1 y1 z1 st1 hQ1
  subst l1 y1 z1
  obtain ⟨rfl, N1q, e1⟩ := hQ1
  have N1 := Fr.app N0 N1q
  have vc2 := Vb
  obtain ⟨cl2, Ar2, qk2, S2, Nn2, Hs2, Gf2⟩ := vc2
  have hin2 : ¬ (i.toInt32 < 0 ∨ cl2.slots.size ≤ (i.toInt32).toNatClampNeg) := inb_of S2 (own_c4 h4)
  have hat2 : cl2.slots[(i.toInt32).toNatClampNeg]? = some (.int cs[i]) := Has.at Hs2 hin2 (by rw [(own_ti (own_ki hi hn)).1]; exact own_at hi)
  obtain ⟨fs, hr, hrun, hended, hW, hsame⟩ := X1.leave (v := some (.int (1 : Int32))) (fun h => by rw [Bd.returns] at h; cases h)
  refine ⟨_, _, pre0 _ ?_, hrun, hended, _, _, rfl, ?_, ⟨_, rfl⟩, hW, hsame.mono (by decide) (by decide)⟩
  · show own_St p e below s₁ m 0 #[vR (a1), vR (a3), vI (i.toInt32), vI (cs.length.toInt32)] [] _
    refine XS.iloadN X0.here hx rfl (hb hby d15_0) rfl ?_
    refine XS.iloadN X0.here hx rfl (hb hby d15_1) rfl ?_
    refine XS.icmpNo X0.here hx rfl (hb hby d15_2) rfl (tlt (own_tl hi (own_k hn) : i.toInt32 < cs.length.toInt32)).2.1 ?_
    refine XS.aloadN X0.here hx rfl (hb hby d15_5) rfl rfl ?_
    refine XS.iloadN X0.here hx rfl (hb hby d15_6) rfl ?_
    show own_St p e below s₁ m 7 #[vR (a1), vR (a3), vI (i.toInt32), vI (cs.length.toInt32)] [(.int i.toInt32), (.ref a1)] _
    refine st1.trans ?_
    show own_St p e below T1 m 10 #[vR (a1), vR (a3), vI (i.toInt32), vI (cs.length.toInt32)] [(.int cs[i])] _
    refine XS.aloadN X1.here hx rfl (hb hby d15_10) rfl rfl ?_
    refine XS.iloadN X1.here hx rfl (hb hby d15_11) rfl ?_
    show own_St p e below T1 m 12 #[vR (a1), vR (a3), vI (i.toInt32), vI (cs.length.toInt32)] [(.int i.toInt32), (.ref a3), (.int cs[i])] _
    refine X1.caload hx (j := i.toInt32) (v := (.int cs[i])) (by rw [e1]; exact Ar2.1) (State.isArrayOf_alike hZ.alike Ar2.2.1) Ar2.2.2 hin2 hat2 (g := (mkF m 12 #[vR (a1), vR (a3), vI (i.toInt32), vI (cs.length.toInt32)] [(.int i.toInt32), (.ref a3), (.int cs[i])])) rfl rfl (hb hby d15_12) _ ?_
    show own_St p e below T1 m 13 #[vR (a1), vR (a3), vI (i.toInt32), vI (cs.length.toInt32)] [(.int cs[i]), (.int cs[i])] _
    refine XS.icmpNo X1.here hx rfl (hb hby d15_13) rfl (teq (rfl : cs[i] = cs[i])).2 ?_
    refine XS.iconst X1.here hx rfl (hb hby d15_16) ?_
    refine XS.goto X1.here hx rfl (pc0 := 17) (pc' := 21) rfl (hb hby d15_17) (by decide) (by decide) ?_
    show own_St p e below T1 m 21 #[vR (a1), vR (a3), vI (i.toInt32), vI (cs.length.toInt32)] [(.int (1 : Int32))] _
    exact retN X1 hx (t := .boolean) Bd.returns (by simp) (hb hby d15_21) hr
  · show own_Q (some (.int (1 : Int32))) h0 n0 _ T1.heap _
    rw [e1]
    exact ⟨rfl, N1, rfl⟩
theorem r_sm (l : Launch) (Z : State) (a0 : Array Value) (hw : own_HW a0 Z) (ws : List Jvm.Cond) (cs1 : Int32) (fv : Value) (h0 : Heap) (n0 : Nat) (O0 : Old Z n0 h0) (G : own_Ctx Z Z.heap cs1 fv) (a1 a3 : Addr) (k3 : ClassId) (cs : List Int32) (i : Nat) (S : own_Str Z h0 a1 cs) (Vb : Arv Z h0 a3 k3 .char (4 : Int32) (cs.map Value.int) (.int (0 : Int32))) (hn : cs.length ≤ 4) (hB : own_Bd cs) (h4 : i < 4) :
    own_M l Y60_ (head1 (Jvm.Cond.code Y60_ method_5_code 4 (some .boolean) :: ws) (own_rm_ 5 0 0 66)) #[(.ref a1), (.ref a3), (.int i.toInt32), (.int cs.length.toInt32)] Z h0 n0 (own_Q (some (.int (1 : Int32)))) (own_rm_ 5 0 0 66).cells (own_rm_ 5 0 0 66).slots := by
  rcases Classical.em (i < cs.length) with hi | hi
  · exact r_sm1 l Z a0 hw ws cs1 fv h0 n0 O0 G a1 a3 k3 cs i S Vb hn hB h4 hi
  · exact r_sm0 l Z a0 hw ws cs1 fv h0 n0 O0 G a1 a3 k3 cs i S Vb hn hB h4 hi
theorem d3_8 : D3_ 8 = .ok (.aload_n 0, 1) := by decide +kernel
theorem d3_9 : D3_ 9 = .ok (.ldc 7, 2) := by decide +kernel
theorem d3_11 : D3_ 11 = .ok (.getfield 9, 3) := by decide +kernel
theorem d3_14 : D3_ 14 = .ok (.putfield 9, 3) := by decide +kernel
theorem d3_17 : D3_ 17 = .ok (.aload_n 0, 1) := by decide +kernel
theorem d3_18 : D3_ 18 = .ok (.ldc 7, 2) := by decide +kernel
theorem d3_20 : D3_ 20 = .ok (.getfield 15, 3) := by decide +kernel
theorem d3_23 : D3_ 23 = .ok (.putfield 15, 3) := by decide +kernel
theorem d3_26 : D3_ 26 = .ok (.return_, 1) := by decide +kernel
theorem r_sv0 (l : Launch) (Z : State) (a0 : Array Value) (hw : own_HW a0 Z) (ws : List Jvm.Cond) (cs1 : Int32) (fv : Value) (h0 : Heap) (n0 : Nat) (O0 : Old Z n0 h0) (G : own_Ctx Z Z.heap cs1 fv) (hEL : EW Z a0 own_EL) (wS : ∀ a ∈ Bundle.stringAtoms, a.before a0 Z = true) (a1 a2 : Addr) (Ea : Exa Z h0 a1 "java/lang/String") (ga : n0 ≤ a1) (Fc : Fld Z h0 a1 "java/lang/String" "coder" "B" (.int (0 : Int32))) (Fv : Fld Z h0 a1 "java/lang/String" "value" "[B" .null) :
    MetFree l Y14_ (head1 (Jvm.Cond.code Y14_ jdk_42_method_149_code 6 none :: ws) (own_rm_ 1 2 4 12)) (fun a U => a = #[(.ref a1), (.ref a2), (.int (0 : Int32)), (.int (0 : Int32)), .null] ∧ Z.Warmed39 U.vm ∧ U.heap = h0 ∧ CHv Z own_EL U.vm h0) (fun _ _ _ _ _ => True) (fun _ U o U' => ∃ v L, o = .returned v ∧ own_QS Z a1 ([] : List Int32) h0 n0 v U'.heap L ∧ CHr Z own_EL U.vm U.heap U'.vm U'.heap ∧ ReturnedEndW U o U' L (own_rm_ 1 2 4 12).cells (own_rm_ 1 2 4 12).slots) := by
  have G0 := G
  refine MetFree.of_bodySF (plainFor_of_name pn_2) hisR ?_
  intro p e s m args below meth c s₁ Bd hml0 hP hK
  obtain ⟨rfl, hZ, hh, hC⟩ := hP
  have hx := Bd.exec
  have hby := Bd.bytes
  have hml : c.maxLocals = 6 := hml0
  have hown := findClass_of_methodNamed Bd.named
  have hnm := (name_of_methodNamed Bd.named Bd.method).1
  have X0 : Stand p l e (own_rm_ 1 2 4 12) (s.setVm s.vm) m #[(.ref a1), (.ref a2), (.int (0 : Int32)), (.int (0 : Int32)), .null] below meth c s₁ [] 0 0 := Stand.of_body Bd
  have e0 : s₁.heap = h0 := by rw [← hh, Bd.state]; rfl
  have N0 := Fr.nil n0
  have hS0 : s.Since s.vm h0.size := State.WarmedH.since (State.WarmedH.refl s) _
  have hk0 : h0.size ≤ h0.size := Nat.le_refl _
  have pre0 := own_pre (tb := p.tables) (e := e) (below := below) (T := s₁) (ef_3_15 m a1 a2 (0 : Int32) (0 : Int32))
  obtain ⟨T1, X1, e1, st1⟩ := initO X0 hx hZ hown (own_w hw 16 rfl) (own_w hw 17 rfl) (own_w hw 18 rfl) e0 (g := (mkF m 1 #[vR (a1), vR (a2), vI ((0 : Int32)), vI ((0 : Int32)), .val .null, .unset] [(.ref a1)])) rfl (by rw [hml]; rfl) rfl (hb hby d3_1) (by decide) (W := 0) (by show 2 * 0 + _ ≤ _; exact Nat.le_of_eq rfl) (by decide)
  have sf2 : Safe Z own_EL s.vm h0 a1 := own_safeS hZ.alike Ea Fv
  obtain ⟨la3, T3, h3, k3, lb3, kk3, X3, e3, E3, S3, hk3, hZ3, hown3, A3, Fc3, Fv3, V3, -, -, R3q, L3, ne3, st3⟩ := ldcCH (s := s) (vm0 := s.vm) (EL := own_EL) X1 hx hZ hown (own_w hw 19 rfl) wS e1 hS0 hk0 hEL (List.mem_of_getElem? (i := 0) rfl) hC (vs := []) (z := (0 : Int32)) ⟨fun c h => by simp at h, rfl⟩ (by decide) rfl (g := (mkF m 9 #[vR (a1), vR (a2), vI ((0 : Int32)), vI ((0 : Int32)), .val .null, .unset] [(.ref a1)])) rfl (hb hby d3_9) (n := 0) (by decide) (by decide) (by decide) (by decide)
  have f4 := Ea.ext E3
  have f5 := Fc.ext E3
  have f6 := Fv.ext E3
  have O3 := O0.ext E3
  have K3 : Keep h0 h3 [a1] := (Keep.refl h0 [a1]).ext E3
  have sf7 := R3q.safe Ea.lt sf2
  have R3 : CHr Z own_EL s.vm h0 T3.vm h3 := (CHr.refl hC).trans R3q
  have C3 := R3q.1
  obtain ⟨T8, X8, e8, st8⟩ := getF X3 hx hZ3 hown3 (host := "") (Or.inl (own_w hw 25 rfl)) Via.refl e3 Fv3 (g := (mkF m 11 #[vR (a1), vR (a2), vI ((0 : Int32)), vI ((0 : Int32)), .val .null, .unset] [(.ref la3), (.ref a1)])) rfl rfl (hb hby d3_11)
  obtain ⟨T9, h9, X9, e9, W9, st9⟩ := putF X8 hx hZ3 hown3 (host := "") (Or.inl (own_w hw 25 rfl)) Via.refl e8 f6 f4 (Or.inr ⟨(own_w hw 21 rfl), rfl, hnm⟩) (own_w hw 7 rfl) (ty := (.array .byte)) (by decide) rfl rfl (g := (mkF m 14 #[vR (a1), vR (a2), vI ((0 : Int32)), vI ((0 : Int32)), .val .null, .unset] [(.ref lb3), (.ref a1)])) rfl rfl (hb hby d3_14)
  have f10 := f4.wr W9
  have f11 := f5.other W9 (Or.inr (slot_ne (Or.inr (own_w hw 22 rfl)) (Or.inr (own_w hw 21 rfl)) (by decide) (t := .byte) (t' := (.array .byte)) (by decide) (by decide)))
  have f12 := A3.wr W9
  have f13 := Fc3.other W9 (Or.inl (Ne.symm (ne3 a1 sf7).1))
  have f14 := Fv3.other W9 (Or.inl (Ne.symm (ne3 a1 sf7).1))
  have f15 := V3.other W9 (Ne.symm (ne3 a1 sf7).2)
  have O9 := O3.wr W9 ga
  have K9 : Keep h0 h9 [a1] := K3.wr W9 (Or.inl (List.mem_of_getElem? (i := 0) rfl))
  have N9 := Fr.snoc X9 N0 ga
  have sf16 := Safe.wr W9 sf7 C3 sf7
  have C9 : CHv Z own_EL T3.vm h9 := C3.wr W9 sf7
  have R9 : CHr Z own_EL s.vm h0 T3.vm h9 := R3.trans (CHr.wr W9 sf7 C3)
  have hk9 := Nat.le_trans hk3 (Keep.of_wr W9).1
  have f17 := f6.same W9
  obtain ⟨T18, X18, e18, st18⟩ := getF X9 hx hZ3 hown3 (host := "") (Or.inl (own_w hw 26 rfl)) Via.refl e9 f13 (g := (mkF m 20 #[vR (a1), vR (a2), vI ((0 : Int32)), vI ((0 : Int32)), .val .null, .unset] [(.ref la3), (.ref a1)])) rfl rfl (hb hby d3_20)
  obtain ⟨T19, h19, X19, e19, W19, st19⟩ := putFN X18 hx hZ3 hown3 (own_w hw 26 rfl) Via.refl e18 f11 f10 (Or.inr ⟨(own_w hw 22 rfl), rfl, hnm⟩) (own_w hw 7 rfl) (ty := .byte) (v' := (.int ((0 : Int32).toInt8.toInt32))) (by decide) rfl (fits_nar_byte _) (g := (mkF m 23 #[vR (a1), vR (a2), vI ((0 : Int32)), vI ((0 : Int32)), .val .null, .unset] [(.int (0 : Int32)), (.ref a1)])) rfl rfl (hb hby d3_23)
  have f20 := f10.wr W19
  have f21 := f17.other W19 (Or.inr (slot_ne (Or.inr (own_w hw 21 rfl)) (Or.inr (own_w hw 22 rfl)) (by decide) (t := (.array .byte)) (t' := .byte) (by decide) (by decide)))
  have f22 := f12.wr W19
  have f23 := f13.other W19 (Or.inl (Ne.symm (ne3 a1 sf7).1))
  have f24 := f14.other W19 (Or.inl (Ne.symm (ne3 a1 sf7).1))
  have f25 := f15.other W19 (Ne.symm (ne3 a1 sf7).2)
  have O19 := O9.wr W19 ga
  have K19 : Keep h0 h19 [a1] := K9.wr W19 (Or.inl (List.mem_of_getElem? (i := 0) rfl))
  have N19 := Fr.snoc X19 N9 ga
  have sf26 := Safe.wr W19 sf16 C9 sf16
  have C19 : CHv Z own_EL T3.vm h19 := C9.wr W19 sf16
  have R19 : CHr Z own_EL s.vm h0 T3.vm h19 := R9.trans (CHr.wr W19 sf16 C9)
  have hk19 := Nat.le_trans hk9 (Keep.of_wr W19).1
  have f27 := f11.same W19
  obtain ⟨fs, hr, hrun, hended, hRW⟩ := X19.leaveW S3 (by rw [e19]; exact hk19) (v := none) (fun _ => rfl)
  refine ⟨_, _, pre0 _ ?_, hrun, hended, _, _, rfl, ?_, ?_, hRW.1, hRW.2.1, hRW.2.2.1, hRW.2.2.2.mono (by decide) (by decide)⟩
  · show own_St p e below s₁ m 0 #[vR (a1), vR (a2), vI ((0 : Int32)), vI ((0 : Int32)), .val .null, .unset] [] _
    refine XS.aloadN X0.here hx rfl (hb hby d3_0) rfl rfl ?_
    show own_St p e below s₁ m 1 #[vR (a1), vR (a2), vI ((0 : Int32)), vI ((0 : Int32)), .val .null, .unset] [(.ref a1)] _
    refine st1 _ ?_
    show own_St p e below T1 m 4 #[vR (a1), vR (a2), vI ((0 : Int32)), vI ((0 : Int32)), .val .null, .unset] [] _
    refine XS.iloadN X1.here hx rfl (hb hby d3_4) rfl ?_
    refine XS.ifNo X1.here hx rfl (hb hby d3_5) rfl ((if0 _ _).trans (teq (by decide : (0 : Int32) = (0 : Int32))).2) ?_
    refine XS.aloadN X1.here hx rfl (hb hby d3_8) rfl rfl ?_
    show own_St p e below T1 m 9 #[vR (a1), vR (a2), vI ((0 : Int32)), vI ((0 : Int32)), .val .null, .unset] [(.ref a1)] _
    refine st3 _ ?_
    show own_St p e below T3 m 11 #[vR (a1), vR (a2), vI ((0 : Int32)), vI ((0 : Int32)), .val .null, .unset] [(.ref la3), (.ref a1)] _
    refine st8 _ ?_
    show own_St p e below T8 m 14 #[vR (a1), vR (a2), vI ((0 : Int32)), vI ((0 : Int32)), .val .null, .unset] [(.ref lb3), (.ref a1)] _
    refine st9 _ ?_
    show own_St p e below T9 m 17 #[vR (a1), vR (a2), vI ((0 : Int32)), vI ((0 : Int32)), .val .null, .unset] [] _
    refine XS.aloadN X9.here hx rfl (hb hby d3_17) rfl rfl ?_
    show own_St p e below T9 m 18 #[vR (a1), vR (a2), vI ((0 : Int32)), vI ((0 : Int32)), .val .null, .unset] [(.ref a1)] _
    refine (ldcAgain (s := s) (vm0 := T3.vm) X9 hx hZ3 hown3 (own_w hw 19 rfl) L3 (g := (mkF m 18 #[vR (a1), vR (a2), vI ((0 : Int32)), vI ((0 : Int32)), .val .null, .unset] [(.ref a1)])) rfl (hb hby d3_18)) _ ?_
    show own_St p e below T9 m 20 #[vR (a1), vR (a2), vI ((0 : Int32)), vI ((0 : Int32)), .val .null, .unset] [(.ref la3), (.ref a1)] _
    refine st18 _ ?_
    show own_St p e below T18 m 23 #[vR (a1), vR (a2), vI ((0 : Int32)), vI ((0 : Int32)), .val .null, .unset] [(.int (0 : Int32)), (.ref a1)] _
    refine st19 _ ?_
    show own_St p e below T19 m 26 #[vR (a1), vR (a2), vI ((0 : Int32)), vI ((0 : Int32)), .val .null, .unset] [] _
    exact X19.returnOut hx Bd.returns (hb hby d3_26) hr
  · show own_QS Z a1 ([] : List Int32) h0 n0 _ T19.heap _
    rw [e19]
    exact ⟨rfl, N19, K19, lb3, kk3, f20, f21, Or.inl ⟨f27, own_all0 (P := fun z => ¬ ((255 : Int32) < z)), f25⟩⟩
  · show CHr Z own_EL s.vm s.heap T19.vm T19.heap
    rw [hh, e19]
    exact R19.trans (CHv.at (s := s) (vm0 := T3.vm) X19 hZ3 hEL C19)
theorem r_s0 (l : Launch) (Z : State) (a0 : Array Value) (hw : own_HW a0 Z) (ws : List Jvm.Cond) (cs1 : Int32) (fv : Value) (h0 : Heap) (n0 : Nat) (O0 : Old Z n0 h0) (G : own_Ctx Z Z.heap cs1 fv) (hEL : EW Z a0 own_EL) (wS : ∀ a ∈ Bundle.stringAtoms, a.before a0 Z = true) (a1 a2 : Addr) (k2 : ClassId) (Ea : Exa Z h0 a1 "java/lang/String") (ga : n0 ≤ a1) (Fc : Fld Z h0 a1 "java/lang/String" "coder" "B" (.int (0 : Int32))) (Fv : Fld Z h0 a1 "java/lang/String" "value" "[B" .null) (Va : Arv Z h0 a2 k2 .char (0 : Int32) [] (.int (0 : Int32))) (hne : a2 ≠ a1) :
    MetFree l Y15_ (head1 (Jvm.Cond.code Y15_ jdk_42_method_3_code 2 none :: ws) (own_rm_ 2 2 4 29)) (fun a U => a = #[(.ref a1), (.ref a2)] ∧ Z.Warmed39 U.vm ∧ U.heap = h0 ∧ CHv Z own_EL U.vm h0) (fun _ _ _ _ _ => True) (fun _ U o U' => ∃ v L, o = .returned v ∧ own_QS Z a1 ([] : List Int32) h0 n0 v U'.heap L ∧ CHr Z own_EL U.vm U.heap U'.vm U'.heap ∧ ReturnedEndW U o U' L (own_rm_ 2 2 4 29).cells (own_rm_ 2 2 4 29).slots) := by
  have G0 := G
  refine MetFree.of_bodySF (plainFor_of_name pn_2) hisR ?_
  intro p e s m args below meth c s₁ Bd hml0 hP hK
  obtain ⟨rfl, hZ, hh, hC⟩ := hP
  have hx := Bd.exec
  have hby := Bd.bytes
  have hml : c.maxLocals = 2 := hml0
  have hown := findClass_of_methodNamed Bd.named
  have X0 : Stand p l e (own_rm_ 2 2 4 29) (s.setVm s.vm) m #[(.ref a1), (.ref a2)] below meth c s₁ [] 0 0 := Stand.of_body Bd
  have e0 : s₁.heap = h0 := by rw [← hh, Bd.state]; rfl
  have N0 := Fr.nil n0
  have hS0 : s.Since s.vm h0.size := State.WarmedH.since (State.WarmedH.refl s) _
  have hk0 : h0.size ≤ h0.size := Nat.le_refl _
  have pre0 := own_pre (tb := p.tables) (e := e) (below := below) (T := s₁) (ef_2_16 m a1 a2)
  have vc1 := Va
  obtain ⟨cl1, Ar1, qk1, S1, Nn1, Hs1, Gf1⟩ := vc1
  obtain ⟨_, _, ⟨T2, L2, k2, n2⟩, -, X2, S2a, z2a, ⟨Lc2, hQ2, l2, y2, z2, R2q⟩, st2⟩ := X0.specialBackS hx (y := Y14_) rfl hown (mvT hZ (own_w hw 12 rfl)) (mvT hZ (own_w hw 13 rfl)) (mvT hZ (own_w hw 15 rfl)) (by decide) (backOfSH (s := s) (vm0 := s.vm) (EL := own_EL) (W := 0) (r_sv0 l Z a0 hw [] cs1 fv h0 n0 O0 G0 hEL wS a1 a2 Ea ga Fc Fv) hZ (own_w hw 15 rfl) (own_w hw 8 rfl) (by decide) (by decide) hEL hC) (g := (mkF m 6 #[vR (a1), vR (a2)] [.null, (.int (0 : Int32)), (.int (0 : Int32)), (.ref a2), (.ref a1)])) rfl (by rw [hml]; rfl) (Steps.refl _) (a := a1) (argsL := [(.ref a2), (.int (0 : Int32)), (.int (0 : Int32)), .null]) (rest := []) (lenOf pd_11 rfl) rfl (by show 2 * 0 + _ ≤ _; exact Nat.le_of_eq rfl) (hb hby d2_6) (fun _ _ => ⟨rfl, e0, (by decide : 0 + 2 ≤ _), (by decide : 0 + 4 ≤ _)⟩)
  dsimp only [Pt.U, Pt.locs, Pt.cells, Pt.slots] at X2 S2a z2a l2 y2 z2 st2 hQ2 R2q
  subst l2 y2 z2
  have X2 : Stand p l e (own_rm_ 2 2 4 29) (s.setVm T2.vm) m #[(.ref a1), (.ref a2)] below meth c T2 _ _ _ := X2
  have S2f : s.Since T2.vm T2.heap.size := foldS (T := s₁) hS0 (by rw [e0]; exact hk0) S2a z2a
  have hZ2 : Z.Warmed39 T2.vm := State.Warmed39.trans (t := s.setVm s.vm) hZ S2a.1
  have hown2 : (s.setVm T2.vm).vm.findClass "java/lang/String" = some m.cls := by rw [show (s.setVm T2.vm).vm = T2.vm from rfl, S2a.1.alike.findClass]; exact hown
  obtain ⟨rfl, N2q, Kq2, Sq2⟩ := hQ2
  have N2 := Fr.app N0 N2q
  have f3 := Ea.keep Kq2
  have f4 := Va.keep Kq2 (fun q => (List.mem_cons.mp q).elim hne (fun q => nomatch q))
  have O2 := O0.keep Kq2 (allS ga all0)
  have K2 : Keep h0 T2.heap [a1] := (Keep.refl h0 [a1]).trans Kq2 (allS (Or.inl (List.mem_of_getElem? (i := 0) rfl)) all0)
  have R2 : CHr Z own_EL s.vm h0 T2.vm T2.heap := (CHr.refl hC).trans R2q
  have C2 := R2q.1
  obtain ⟨fs, hr, hrun, hended, hRW⟩ := X2.leaveW S2f (Nat.le_refl _) (v := none) (fun _ => rfl)
  refine ⟨_, _, pre0 _ ?_, hrun, hended, _, _, rfl, ?_, ?_, hRW.1, hRW.2.1, hRW.2.2.1, hRW.2.2.2.mono (by decide) (by decide)⟩
  · show own_St p e below s₁ m 0 #[vR (a1), vR (a2)] [] _
    refine XS.aloadN X0.here hx rfl (hb hby d2_0) rfl rfl ?_
    refine XS.aloadN X0.here hx rfl (hb hby d2_1) rfl rfl ?_
    refine XS.iconst X0.here hx rfl (hb hby d2_2) ?_
    refine XS.aloadN X0.here hx rfl (hb hby d2_3) rfl rfl ?_
    show own_St p e below s₁ m 4 #[vR (a1), vR (a2)] [(.ref a2), (.int (0 : Int32)), (.ref a2), (.ref a1)] _
    refine X0.arraylength hx (by rw [e0]; exact Ar1.1) (State.isArrayOf_alike hZ.alike Ar1.2.1) (g := (mkF m 4 #[vR (a1), vR (a2)] [(.ref a2), (.int (0 : Int32)), (.ref a2), (.ref a1)])) rfl rfl (hb hby d2_4) _ ?_
    rw [len_of S1 Nn1]
    show own_St p e below s₁ m 5 #[vR (a1), vR (a2)] [(.int (0 : Int32)), (.int (0 : Int32)), (.ref a2), (.ref a1)] _
    refine XS.aconstNull X0.here hx rfl (hb hby d2_5) ?_
    show own_St p e below s₁ m 6 #[vR (a1), vR (a2)] [.null, (.int (0 : Int32)), (.int (0 : Int32)), (.ref a2), (.ref a1)] _
    refine st2.trans ?_
    show own_St p e below T2 m 9 #[vR (a1), vR (a2)] [] _
    exact X2.returnOut hx Bd.returns (hb hby d2_9) hr
  · show own_QS Z a1 ([] : List Int32) h0 n0 _ T2.heap _
    exact ⟨rfl, N2, K2, Sq2⟩
  · show CHr Z own_EL s.vm s.heap T2.vm T2.heap
    rw [hh]
    exact R2.trans (CHv.at (s := s) (vm0 := T2.vm) X2 hZ2 hEL C2)
theorem own_mod5 (p : Int32) : (p &&& (2147483647 : Int32)) % (5 : Int32) = (0 : Int32) ∨ (p &&& (2147483647 : Int32)) % (5 : Int32) = (1 : Int32) ∨ (p &&& (2147483647 : Int32)) % (5 : Int32) = (2 : Int32) ∨ (p &&& (2147483647 : Int32)) % (5 : Int32) = (3 : Int32) ∨ (p &&& (2147483647 : Int32)) % (5 : Int32) = (4 : Int32) := by
  have h1 := c_and p (2147483647 : Int32) (by decide)
  have h2 := (c_irem (p &&& (2147483647 : Int32)) (5 : Int32) 5 rfl).1 h1.1
  have h3 : ((p &&& (2147483647 : Int32)) % (5 : Int32)).toInt = 0 ∨ ((p &&& (2147483647 : Int32)) % (5 : Int32)).toInt = 1 ∨ ((p &&& (2147483647 : Int32)) % (5 : Int32)).toInt = 2 ∨ ((p &&& (2147483647 : Int32)) % (5 : Int32)).toInt = 3 ∨ ((p &&& (2147483647 : Int32)) % (5 : Int32)).toInt = 4 := by omega
  rcases h3 with h | h | h | h | h
  · exact Or.inl (Int32.toInt_inj.mp (h.trans rfl))
  · exact Or.inr (Or.inl (Int32.toInt_inj.mp (h.trans rfl)))
  · exact Or.inr (Or.inr (Or.inl (Int32.toInt_inj.mp (h.trans rfl))))
  · exact Or.inr (Or.inr (Or.inr (Or.inl (Int32.toInt_inj.mp (h.trans rfl)))))
  · exact Or.inr (Or.inr (Or.inr (Or.inr ((Int32.toInt_inj.mp (h.trans rfl))))))
theorem t_pre {p : Program} {l : Launch} {e : Env} {s : State} {m : MethodId} {args : Array Value} {below : List Frame} {meth : Method} {c : Code} {T0 : State} {locs : List Loc} {Z : State} {a0 : Array Value} {h0 : Heap} {n0 : Nat} (cs1 : Int32) (fv : Value) (p1 p2 p3 p4 p5 nv_ c0_ c1_ c2_ c3_ : Int32) (cells slots : Nat) (hce : cells + 0 ≤ 32) (hsl : slots + 0 ≤ 1216)
    (X0 : Stand p l e (own_rm_ 12 32 1216 256) s m args below meth c T0 locs cells slots) (hx : p.tables.exec = Jvm.exec) (hZ : Z.Warmed39 s.vm) (hw : own_HW a0 Z) (hby : c.code = code) (hml : c.maxLocals = 15) (hown : s.vm.findClass "com/example/rubrique/rubrique/render/NonSortMarkersRemovePinLaw" = some m.cls) (e0 : T0.heap = h0) (N0 : Fr n0 locs) (O0 : Old Z n0 h0) (G : own_Ctx Z Z.heap cs1 fv) (hl : (p1 &&& (2147483647 : Int32)) % (5 : Int32) = nv_) (he0 : own_dr p2 = c0_) (he1 : own_dr p3 = c1_) (he2 : own_dr p4 = c2_) (he3 : own_dr p5 = c3_) :
    ∃ (T' : State) (h' : Heap) (L' : List Loc), Stand p l e (own_rm_ 12 32 1216 256) s m args below meth c T' L' cells slots ∧ T'.heap = h' ∧ Fr n0 L' ∧ Old Z n0 h' ∧ (h' = h0) ∧ ∀ target, Steps p.tables e below (T'.setTop (mkF m 33 #[vI (p1), vI (p2), vI (p3), vI (p4), vI (p5), vI (nv_), vI (c0_), vI (c1_), vI (c2_), vI (c3_), .unset, .unset, .unset, .unset, .unset] [])) target → Steps p.tables e below (T0.setTop (mkF m 0 #[vI (p1), vI (p2), vI (p3), vI (p4), vI (p5), .unset, .unset, .unset, .unset, .unset, .unset, .unset, .unset, .unset, .unset] [])) target := by
  have G0 := G
  obtain ⟨_, _, ⟨T1, L1, k1, n1⟩, -, X1, ⟨Lc1, hQ1, l1, y1, z1⟩, st1⟩ := Jvm.LawKit.callS X0 hx (y := Y57_) hown (mvT hZ (own_w hw 1 rfl)) (mvT hZ (own_w hw 2 rfl)) (mvT hZ (own_w hw 3 rfl)) (mvT hZ (own_w hw 4 rfl)) (by decide) (backOf (W := 0) (r_dr l Z a0 hw [] cs1 fv h0 n0 O0 G0 p2) hZ (own_w hw 4 rfl) (own_w hw 3 rfl) (by decide) (by decide)) (g := (mkF m 9 #[vI (p1), vI (p2), vI (p3), vI (p4), vI (p5), vI (nv_), .unset, .unset, .unset, .unset, .unset, .unset, .unset, .unset, .unset] [(.int p2)])) rfl (by rw [hml]; rfl) (argsL := [(.int p2)]) (rest := []) (lenOf pd_31 rfl) rfl (by show 2 * 0 + _ ≤ _; exact Nat.le_of_eq rfl) (hb hby at_9) (fun _ _ => ⟨rfl, e0, (own_room hce (by decide)), (own_room hsl (by decide))⟩)
  dsimp only [Pt.U, Pt.locs, Pt.cells, Pt.slots] at X1 l1 y1 z1 st1 hQ1
  subst l1 y1 z1
  obtain ⟨rfl, N1q, e1⟩ := hQ1
  have N1 := Fr.app N0 N1q
  obtain ⟨_, _, ⟨T2, L2, k2, n2⟩, -, X2, ⟨Lc2, hQ2, l2, y2, z2⟩, st2⟩ := Jvm.LawKit.callS X1 hx (y := Y57_) hown (mvT hZ (own_w hw 1 rfl)) (mvT hZ (own_w hw 2 rfl)) (mvT hZ (own_w hw 3 rfl)) (mvT hZ (own_w hw 4 rfl)) (by decide) (backOf (W := 0) (r_dr l Z a0 hw [] cs1 fv h0 n0 O0 G0 p3) hZ (own_w hw 4 rfl) (own_w hw 3 rfl) (by decide) (by decide)) (g := (mkF m 15 #[vI (p1), vI (p2), vI (p3), vI (p4), vI (p5), vI (nv_), vI (c0_), .unset, .unset, .unset, .unset, .unset, .unset, .unset, .unset] [(.int p3)])) rfl (by rw [hml]; rfl) (argsL := [(.int p3)]) (rest := []) (lenOf pd_31 rfl) rfl (by show 2 * 0 + _ ≤ _; exact Nat.le_of_eq rfl) (hb hby at_15) (fun _ _ => ⟨rfl, e1, (own_room hce (by decide)), (own_room hsl (by decide))⟩)
  dsimp only [Pt.U, Pt.locs, Pt.cells, Pt.slots] at X2 l2 y2 z2 st2 hQ2
  subst l2 y2 z2
  obtain ⟨rfl, N2q, e2⟩ := hQ2
  have N2 := Fr.app N1 N2q
  obtain ⟨_, _, ⟨T3, L3, k3, n3⟩, -, X3, ⟨Lc3, hQ3, l3, y3, z3⟩, st3⟩ := Jvm.LawKit.callS X2 hx (y := Y57_) hown (mvT hZ (own_w hw 1 rfl)) (mvT hZ (own_w hw 2 rfl)) (mvT hZ (own_w hw 3 rfl)) (mvT hZ (own_w hw 4 rfl)) (by decide) (backOf (W := 0) (r_dr l Z a0 hw [] cs1 fv h0 n0 O0 G0 p4) hZ (own_w hw 4 rfl) (own_w hw 3 rfl) (by decide) (by decide)) (g := (mkF m 21 #[vI (p1), vI (p2), vI (p3), vI (p4), vI (p5), vI (nv_), vI (c0_), vI (c1_), .unset, .unset, .unset, .unset, .unset, .unset, .unset] [(.int p4)])) rfl (by rw [hml]; rfl) (argsL := [(.int p4)]) (rest := []) (lenOf pd_31 rfl) rfl (by show 2 * 0 + _ ≤ _; exact Nat.le_of_eq rfl) (hb hby at_21) (fun _ _ => ⟨rfl, e2, (own_room hce (by decide)), (own_room hsl (by decide))⟩)
  dsimp only [Pt.U, Pt.locs, Pt.cells, Pt.slots] at X3 l3 y3 z3 st3 hQ3
  subst l3 y3 z3
  obtain ⟨rfl, N3q, e3⟩ := hQ3
  have N3 := Fr.app N2 N3q
  obtain ⟨_, _, ⟨T4, L4, k4, n4⟩, -, X4, ⟨Lc4, hQ4, l4, y4, z4⟩, st4⟩ := Jvm.LawKit.callS X3 hx (y := Y57_) hown (mvT hZ (own_w hw 1 rfl)) (mvT hZ (own_w hw 2 rfl)) (mvT hZ (own_w hw 3 rfl)) (mvT hZ (own_w hw 4 rfl)) (by decide) (backOf (W := 0) (r_dr l Z a0 hw [] cs1 fv h0 n0 O0 G0 p5) hZ (own_w hw 4 rfl) (own_w hw 3 rfl) (by decide) (by decide)) (g := (mkF m 28 #[vI (p1), vI (p2), vI (p3), vI (p4), vI (p5), vI (nv_), vI (c0_), vI (c1_), vI (c2_), .unset, .unset, .unset, .unset, .unset, .unset] [(.int p5)])) rfl (by rw [hml]; rfl) (argsL := [(.int p5)]) (rest := []) (lenOf pd_31 rfl) rfl (by show 2 * 0 + _ ≤ _; exact Nat.le_of_eq rfl) (hb hby at_28) (fun _ _ => ⟨rfl, e3, (own_room hce (by decide)), (own_room hsl (by decide))⟩)
  dsimp only [Pt.U, Pt.locs, Pt.cells, Pt.slots] at X4 l4 y4 z4 st4 hQ4
  subst l4 y4 z4
  obtain ⟨rfl, N4q, e4⟩ := hQ4
  have N4 := Fr.app N3 N4q
  refine ⟨T4, h0, _, X4, e4, N4, O0, rfl, fun target kt => ?_⟩
  show own_St p e below T0 m 0 #[vI (p1), vI (p2), vI (p3), vI (p4), vI (p5), .unset, .unset, .unset, .unset, .unset, .unset, .unset, .unset, .unset, .unset] [] _
  refine XS.iloadN X0.here hx rfl (hb hby at_0) rfl ?_
  show own_St p e below T0 m 1 #[vI (p1), vI (p2), vI (p3), vI (p4), vI (p5), .unset, .unset, .unset, .unset, .unset, .unset, .unset, .unset, .unset, .unset] [(.int p1)] _
  refine X0.ldcInt hx hown (mvT hZ (own_w hw 0 rfl)) (g := (mkF m 1 #[vI (p1), vI (p2), vI (p3), vI (p4), vI (p5), .unset, .unset, .unset, .unset, .unset, .unset, .unset, .unset, .unset, .unset] [(.int p1)])) rfl (hb hby at_1) _ ?_
  show own_St p e below T0 m 3 #[vI (p1), vI (p2), vI (p3), vI (p4), vI (p5), .unset, .unset, .unset, .unset, .unset, .unset, .unset, .unset, .unset, .unset] [(.int (2147483647 : Int32)), (.int p1)] _
  refine XS.iand X0.here hx rfl (hb hby at_3) rfl ?_
  refine XS.iconst X0.here hx rfl (hb hby at_4) ?_
  show own_St p e below T0 m 5 #[vI (p1), vI (p2), vI (p3), vI (p4), vI (p5), .unset, .unset, .unset, .unset, .unset, .unset, .unset, .unset, .unset, .unset] [(.int (5 : Int32)), (.int (p1 &&& (2147483647 : Int32)))] _
  refine iremM X0 hx rfl (hb hby at_5) rfl (by decide) ?_
  show own_St p e below T0 m 6 #[vI (p1), vI (p2), vI (p3), vI (p4), vI (p5), .unset, .unset, .unset, .unset, .unset, .unset, .unset, .unset, .unset, .unset] [(.int ((p1 &&& (2147483647 : Int32)) % (5 : Int32)))] _
  rw [hl]
  show own_St p e below T0 m 6 #[vI (p1), vI (p2), vI (p3), vI (p4), vI (p5), .unset, .unset, .unset, .unset, .unset, .unset, .unset, .unset, .unset, .unset] [(.int nv_)] _
  refine XS.istore X0.here hx rfl (hb hby at_6) rfl (l' := #[vI (p1), vI (p2), vI (p3), vI (p4), vI (p5), vI (nv_), .unset, .unset, .unset, .unset, .unset, .unset, .unset, .unset, .unset]) rfl ?_
  refine XS.iloadN X0.here hx rfl (hb hby at_8) rfl ?_
  show own_St p e below T0 m 9 #[vI (p1), vI (p2), vI (p3), vI (p4), vI (p5), vI (nv_), .unset, .unset, .unset, .unset, .unset, .unset, .unset, .unset, .unset] [(.int p2)] _
  refine st1 _ ?_
  show own_St p e below T1 m 12 #[vI (p1), vI (p2), vI (p3), vI (p4), vI (p5), vI (nv_), .unset, .unset, .unset, .unset, .unset, .unset, .unset, .unset, .unset] [(.int (own_dr p2))] _
  rw [he0]
  show own_St p e below T1 m 12 #[vI (p1), vI (p2), vI (p3), vI (p4), vI (p5), vI (nv_), .unset, .unset, .unset, .unset, .unset, .unset, .unset, .unset, .unset] [(.int c0_)] _
  refine XS.istore X1.here hx rfl (hb hby at_12) rfl (l' := #[vI (p1), vI (p2), vI (p3), vI (p4), vI (p5), vI (nv_), vI (c0_), .unset, .unset, .unset, .unset, .unset, .unset, .unset, .unset]) rfl ?_
  refine XS.iloadN X1.here hx rfl (hb hby at_14) rfl ?_
  show own_St p e below T1 m 15 #[vI (p1), vI (p2), vI (p3), vI (p4), vI (p5), vI (nv_), vI (c0_), .unset, .unset, .unset, .unset, .unset, .unset, .unset, .unset] [(.int p3)] _
  refine st2 _ ?_
  show own_St p e below T2 m 18 #[vI (p1), vI (p2), vI (p3), vI (p4), vI (p5), vI (nv_), vI (c0_), .unset, .unset, .unset, .unset, .unset, .unset, .unset, .unset] [(.int (own_dr p3))] _
  rw [he1]
  show own_St p e below T2 m 18 #[vI (p1), vI (p2), vI (p3), vI (p4), vI (p5), vI (nv_), vI (c0_), .unset, .unset, .unset, .unset, .unset, .unset, .unset, .unset] [(.int c1_)] _
  refine XS.istore X2.here hx rfl (hb hby at_18) rfl (l' := #[vI (p1), vI (p2), vI (p3), vI (p4), vI (p5), vI (nv_), vI (c0_), vI (c1_), .unset, .unset, .unset, .unset, .unset, .unset, .unset]) rfl ?_
  refine XS.iloadN X2.here hx rfl (hb hby at_20) rfl ?_
  show own_St p e below T2 m 21 #[vI (p1), vI (p2), vI (p3), vI (p4), vI (p5), vI (nv_), vI (c0_), vI (c1_), .unset, .unset, .unset, .unset, .unset, .unset, .unset] [(.int p4)] _
  refine st3 _ ?_
  show own_St p e below T3 m 24 #[vI (p1), vI (p2), vI (p3), vI (p4), vI (p5), vI (nv_), vI (c0_), vI (c1_), .unset, .unset, .unset, .unset, .unset, .unset, .unset] [(.int (own_dr p4))] _
  rw [he2]
  show own_St p e below T3 m 24 #[vI (p1), vI (p2), vI (p3), vI (p4), vI (p5), vI (nv_), vI (c0_), vI (c1_), .unset, .unset, .unset, .unset, .unset, .unset, .unset] [(.int c2_)] _
  refine XS.istore X3.here hx rfl (hb hby at_24) rfl (l' := #[vI (p1), vI (p2), vI (p3), vI (p4), vI (p5), vI (nv_), vI (c0_), vI (c1_), vI (c2_), .unset, .unset, .unset, .unset, .unset, .unset]) rfl ?_
  refine XS.iload X3.here hx rfl (hb hby at_26) rfl ?_
  show own_St p e below T3 m 28 #[vI (p1), vI (p2), vI (p3), vI (p4), vI (p5), vI (nv_), vI (c0_), vI (c1_), vI (c2_), .unset, .unset, .unset, .unset, .unset, .unset] [(.int p5)] _
  refine st4 _ ?_
  show own_St p e below T4 m 31 #[vI (p1), vI (p2), vI (p3), vI (p4), vI (p5), vI (nv_), vI (c0_), vI (c1_), vI (c2_), .unset, .unset, .unset, .unset, .unset, .unset] [(.int (own_dr p5))] _
  rw [he3]
  show own_St p e below T4 m 31 #[vI (p1), vI (p2), vI (p3), vI (p4), vI (p5), vI (nv_), vI (c0_), vI (c1_), vI (c2_), .unset, .unset, .unset, .unset, .unset, .unset] [(.int c3_)] _
  refine XS.istore X4.here hx rfl (hb hby at_31) rfl (l' := #[vI (p1), vI (p2), vI (p3), vI (p4), vI (p5), vI (nv_), vI (c0_), vI (c1_), vI (c2_), vI (c3_), .unset, .unset, .unset, .unset, .unset]) rfl ?_
  exact kt
theorem t_mnA {p : Program} {l : Launch} {e : Env} {R : Room} {s : State} {m : MethodId} {args : Array Value} {below : List Frame} {meth : Method} {c : Code} {T0 : State} {locs : List Loc} {cells slots : Nat} {Z : State} {a0 : Array Value} {h0 : Heap} {n0 : Nat} (cs1 : Int32) (fv : Value) (u1 u2 u3 u4 u5 nv_ v0 v1 v2 v3 : Int32) (a10 a11 a12 : Addr) (m1 : Int32)
    (X0 : Stand p l e R s m args below meth c T0 locs cells slots) (hx : p.tables.exec = Jvm.exec) (hZ : Z.Warmed39 s.vm) (hw : own_HW a0 Z) (hby : c.code = code) (hml : c.maxLocals = 15) (hown : s.vm.findClass "com/example/rubrique/rubrique/render/NonSortMarkersRemovePinLaw" = some m.cls) (e0 : T0.heap = h0) (O0 : Old Z n0 h0) (G : own_Ctx Z Z.heap cs1 fv) (hq : m1 = nv_) :
    ∃ T' : State, Stand p l e R s m args below meth c T' locs cells slots ∧ T'.heap = h0 ∧ ∀ target, Steps p.tables e below (T'.setTop (mkF m 212 #[vI (u1), vI (u2), vI (u3), vI (u4), vI (u5), vI (nv_), vI (v0), vI (v1), vI (v2), vI (v3), vR (a10), vR (a11), vR (a12), vI (m1), vR (a11)] [])) target → Steps p.tables e below (T0.setTop (mkF m 196 #[vI (u1), vI (u2), vI (u3), vI (u4), vI (u5), vI (nv_), vI (v0), vI (v1), vI (v2), vI (v3), vR (a10), vR (a11), vR (a12), vI (m1), vR (a11)] [])) target := by
  have G0 := G
  refine ⟨T0, X0, e0, fun target kt => ?_⟩
  show own_St p e below T0 m 196 #[vI (u1), vI (u2), vI (u3), vI (u4), vI (u5), vI (nv_), vI (v0), vI (v1), vI (v2), vI (v3), vR (a10), vR (a11), vR (a12), vI (m1), vR (a11)] [] _
  refine XS.iload X0.here hx rfl (hb hby at_196) rfl ?_
  refine XS.iload X0.here hx rfl (hb hby at_198) rfl ?_
  refine XS.icmpNo X0.here hx rfl (hb hby at_200) rfl (teq (hq : m1 = nv_)).2 ?_
  refine XS.aload X0.here hx rfl (hb hby at_203) rfl rfl ?_
  refine XS.aload X0.here hx rfl (hb hby at_205) rfl rfl ?_
  show own_St p e below T0 m 207 #[vI (u1), vI (u2), vI (u3), vI (u4), vI (u5), vI (nv_), vI (v0), vI (v1), vI (v2), vI (v3), vR (a10), vR (a11), vR (a12), vI (m1), vR (a11)] [(.ref a11), (.ref a11)] _
  refine Jvm.RoadKit.acmp (g := (mkF m 207 #[vI (u1), vI (u2), vI (u3), vI (u4), vI (u5), vI (nv_), vI (v0), vI (v1), vI (v2), vI (v3), vR (a10), vR (a11), vR (a12), vI (m1), vR (a11)] [(.ref a11), (.ref a11)])) X0 hx rfl rfl rfl (pc0 := 207) (pc' := 212) (same := true) rfl (hb hby at_207) rfl (decide_eq_true rfl) (by decide) (by decide) ?_
  exact kt
theorem t_mnB {p : Program} {l : Launch} {e : Env} {R : Room} {s : State} {m : MethodId} {args : Array Value} {below : List Frame} {meth : Method} {c : Code} {T0 : State} {locs : List Loc} {cells slots : Nat} {Z : State} {a0 : Array Value} {h0 : Heap} {n0 : Nat} (cs1 : Int32) (fv : Value) (u1 u2 u3 u4 u5 nv_ v0 v1 v2 v3 : Int32) (a10 a11 a12 a14 : Addr) (m1 : Int32)
    (X0 : Stand p l e R s m args below meth c T0 locs cells slots) (hx : p.tables.exec = Jvm.exec) (hZ : Z.Warmed39 s.vm) (hw : own_HW a0 Z) (hby : c.code = code) (hml : c.maxLocals = 15) (hown : s.vm.findClass "com/example/rubrique/rubrique/render/NonSortMarkersRemovePinLaw" = some m.cls) (e0 : T0.heap = h0) (O0 : Old Z n0 h0) (G : own_Ctx Z Z.heap cs1 fv) (hq : ¬ (m1 = nv_)) :
    ∃ T' : State, Stand p l e R s m args below meth c T' locs cells slots ∧ T'.heap = h0 ∧ ∀ target, Steps p.tables e below (T'.setTop (mkF m 212 #[vI (u1), vI (u2), vI (u3), vI (u4), vI (u5), vI (nv_), vI (v0), vI (v1), vI (v2), vI (v3), vR (a10), vR (a11), vR (a12), vI (m1), vR (a14)] [])) target → Steps p.tables e below (T0.setTop (mkF m 196 #[vI (u1), vI (u2), vI (u3), vI (u4), vI (u5), vI (nv_), vI (v0), vI (v1), vI (v2), vI (v3), vR (a10), vR (a11), vR (a12), vI (m1), vR (a14)] [])) target := by
  have G0 := G
  refine ⟨T0, X0, e0, fun target kt => ?_⟩
  show own_St p e below T0 m 196 #[vI (u1), vI (u2), vI (u3), vI (u4), vI (u5), vI (nv_), vI (v0), vI (v1), vI (v2), vI (v3), vR (a10), vR (a11), vR (a12), vI (m1), vR (a14)] [] _
  refine XS.iload X0.here hx rfl (hb hby at_196) rfl ?_
  refine XS.iload X0.here hx rfl (hb hby at_198) rfl ?_
  refine XS.icmpYes X0.here hx rfl (pc0 := 200) (pc' := 212) rfl (hb hby at_200) rfl (feq (hq : ¬ (m1 = nv_))).2 (by decide) (by decide) ?_
  exact kt
theorem own_inj4 {a b : Nat} (ha : a ≤ 4) (hb : b ≤ 4) (h : a.toInt32 = b.toInt32) : a = b := by
  have e := len_toInt (n := a) (by omega)
  have e1 := len_toInt (n := b) (by omega)
  have q := congrArg Int32.toInt h
  omega
theorem own_mn {p : Program} {l : Launch} {e : Env} {R : Room} {s : State} {m : MethodId} {args : Array Value} {below : List Frame} {meth : Method} {c : Code} {T0 : State} {locs : List Loc} {cells slots : Nat} {Z : State} {a0 : Array Value} {h0 : Heap} {n0 : Nat} (cs1 : Int32) (fv : Value) (u1 u2 u3 u4 u5 nv_ v0 v1 v2 v3 : Int32) (a10 a11 a12 a14 : Addr) (cs : List Int32)
    (X0 : Stand p l e R s m args below meth c T0 locs cells slots) (hx : p.tables.exec = Jvm.exec) (hZ : Z.Warmed39 s.vm) (hw : own_HW a0 Z) (hby : c.code = code) (hml : c.maxLocals = 15) (hown : s.vm.findClass "com/example/rubrique/rubrique/render/NonSortMarkersRemovePinLaw" = some m.cls) (e0 : T0.heap = h0) (O0 : Old Z n0 h0) (G : own_Ctx Z Z.heap cs1 fv) (hs : (own_flt cs).length = cs.length → a14 = a11) (hn : cs.length ≤ 4) (hf : (own_flt cs).length ≤ 4) (h5 : cs.length.toInt32 = nv_) :
    ∃ T' : State, Stand p l e R s m args below meth c T' locs cells slots ∧ T'.heap = h0 ∧ ∀ target, Steps p.tables e below (T'.setTop (mkF m 212 #[vI (u1), vI (u2), vI (u3), vI (u4), vI (u5), vI (nv_), vI (v0), vI (v1), vI (v2), vI (v3), vR (a10), vR (a11), vR (a12), vI ((own_flt cs).length.toInt32), vR (a14)] [])) target → Steps p.tables e below (T0.setTop (mkF m 196 #[vI (u1), vI (u2), vI (u3), vI (u4), vI (u5), vI (nv_), vI (v0), vI (v1), vI (v2), vI (v3), vR (a10), vR (a11), vR (a12), vI ((own_flt cs).length.toInt32), vR (a14)] [])) target := by
  rcases Classical.em ((own_flt cs).length = cs.length) with q | q
  · obtain rfl := hs q
    exact t_mnA cs1 fv u1 u2 u3 u4 u5 nv_ v0 v1 v2 v3 a10 a14 a12 (own_flt cs).length.toInt32 X0 hx hZ hw hby hml hown e0 O0 G (by rw [q]; exact h5)
  · exact t_mnB cs1 fv u1 u2 u3 u4 u5 nv_ v0 v1 v2 v3 a10 a11 a12 a14 (own_flt cs).length.toInt32 X0 hx hZ hw hby hml hown e0 O0 G (fun r => q (own_inj4 hf hn (r.trans h5.symm)))

theorem pd_34 : parseMethodDescriptor "(Ljava/lang/String;[CII)Z" = some ⟨[(.object "java/lang/String"), (.array .char), .int, .int], some .boolean⟩ := by decide +kernel
theorem t_suf {p : Program} {l : Launch} {e : Env} {s : State} {m : MethodId} {args : Array Value} {below : List Frame} {meth : Method} {c : Code} {T0 : State} {locs : List Loc} {Z : State} {a0 : Array Value} {h0 : Heap} {n0 : Nat} (cs1 : Int32) (fv : Value) (u1 u2 u3 u4 u5 nv_ v0 v1 v2 v3 : Int32) (a10 a11 a12 a14 : Addr) (kz_ : ClassId) (cs : List Int32) (cells slots : Nat) (hce : cells + 0 ≤ 32) (hsl : slots + 0 ≤ 1216)
    (X0 : Stand p l e (own_rm_ 12 32 1216 256) s m args below meth c T0 locs cells slots) (hx : p.tables.exec = Jvm.exec) (hZ : Z.Warmed39 s.vm) (hw : own_HW a0 Z) (hby : c.code = code) (hml : c.maxLocals = 15) (hown : s.vm.findClass "com/example/rubrique/rubrique/render/NonSortMarkersRemovePinLaw" = some m.cls) (e0 : T0.heap = h0) (N0 : Fr n0 locs) (O0 : Old Z n0 h0) (G : own_Ctx Z Z.heap cs1 fv) (S : own_Str Z h0 a14 cs) (Vb : Arv Z h0 a12 kz_ .char (4 : Int32) (cs.map Value.int) (.int (0 : Int32))) (hn : cs.length ≤ 4) (hB : own_Bd cs) :
    ∃ (T' : State) (h' : Heap) (L' : List Loc), Stand p l e (own_rm_ 12 32 1216 256) s m args below meth c T' L' cells slots ∧ T'.heap = h' ∧ Fr n0 L' ∧ Old Z n0 h' ∧ (h' = h0) ∧ ∀ target, Steps p.tables e below (T'.setTop (mkF m 269 #[vI (u1), vI (u2), vI (u3), vI (u4), vI (u5), vI (nv_), vI (v0), vI (v1), vI (v2), vI (v3), vR (a10), vR (a11), vR (a12), vI (cs.length.toInt32), vR (a14)] [(.int (1 : Int32))])) target → Steps p.tables e below (T0.setTop (mkF m 212 #[vI (u1), vI (u2), vI (u3), vI (u4), vI (u5), vI (nv_), vI (v0), vI (v1), vI (v2), vI (v3), vR (a10), vR (a11), vR (a12), vI (cs.length.toInt32), vR (a14)] [])) target := by
  have G0 := G
  obtain ⟨_, _, ⟨T1, L1, k1, n1⟩, -, X1, ⟨Lc1, hQ1, l1, y1, z1⟩, st1⟩ := Jvm.LawKit.callS X0 hx (y := Y60_) hown (mvT hZ (own_w hw 72 rfl)) (mvT hZ (own_w hw 73 rfl)) (mvT hZ (own_w hw 3 rfl)) (mvT hZ (own_w hw 74 rfl)) (by decide) (backOf (W := 0) (r_sm l Z a0 hw [] cs1 fv h0 n0 O0 G0 a14 a12 kz_ cs 0 S Vb hn hB (by decide)) hZ (own_w hw 74 rfl) (own_w hw 3 rfl) (by decide) (by decide)) (g := (mkF m 219 #[vI (u1), vI (u2), vI (u3), vI (u4), vI (u5), vI (nv_), vI (v0), vI (v1), vI (v2), vI (v3), vR (a10), vR (a11), vR (a12), vI (cs.length.toInt32), vR (a14)] [(.int cs.length.toInt32), (.int (0 : Int32)), (.ref a12), (.ref a14)])) rfl (by rw [hml]; rfl) (argsL := [(.ref a14), (.ref a12), (.int (0 : Int32)), (.int cs.length.toInt32)]) (rest := []) (lenOf pd_34 rfl) rfl (by show 2 * 0 + _ ≤ _; exact Nat.le_of_eq rfl) (hb hby at_219) (fun _ _ => ⟨rfl, e0, (own_room hce (by decide)), (own_room hsl (by decide))⟩)
  dsimp only [Pt.U, Pt.locs, Pt.cells, Pt.slots] at X1 l1 y1 z1 st1 hQ1
  subst l1 y1 z1
  obtain ⟨rfl, N1q, e1⟩ := hQ1
  have N1 := Fr.app N0 N1q
  obtain ⟨_, _, ⟨T2, L2, k2, n2⟩, -, X2, ⟨Lc2, hQ2, l2, y2, z2⟩, st2⟩ := Jvm.LawKit.callS X1 hx (y := Y60_) hown (mvT hZ (own_w hw 72 rfl)) (mvT hZ (own_w hw 73 rfl)) (mvT hZ (own_w hw 3 rfl)) (mvT hZ (own_w hw 74 rfl)) (by decide) (backOf (W := 0) (r_sm l Z a0 hw [] cs1 fv h0 n0 O0 G0 a14 a12 kz_ cs 1 S Vb hn hB (by decide)) hZ (own_w hw 74 rfl) (own_w hw 3 rfl) (by decide) (by decide)) (g := (mkF m 232 #[vI (u1), vI (u2), vI (u3), vI (u4), vI (u5), vI (nv_), vI (v0), vI (v1), vI (v2), vI (v3), vR (a10), vR (a11), vR (a12), vI (cs.length.toInt32), vR (a14)] [(.int cs.length.toInt32), (.int (1 : Int32)), (.ref a12), (.ref a14)])) rfl (by rw [hml]; rfl) (argsL := [(.ref a14), (.ref a12), (.int (1 : Int32)), (.int cs.length.toInt32)]) (rest := []) (lenOf pd_34 rfl) rfl (by show 2 * 0 + _ ≤ _; exact Nat.le_of_eq rfl) (hb hby at_232) (fun _ _ => ⟨rfl, e1, (own_room hce (by decide)), (own_room hsl (by decide))⟩)
  dsimp only [Pt.U, Pt.locs, Pt.cells, Pt.slots] at X2 l2 y2 z2 st2 hQ2
  subst l2 y2 z2
  obtain ⟨rfl, N2q, e2⟩ := hQ2
  have N2 := Fr.app N1 N2q
  obtain ⟨_, _, ⟨T3, L3, k3, n3⟩, -, X3, ⟨Lc3, hQ3, l3, y3, z3⟩, st3⟩ := Jvm.LawKit.callS X2 hx (y := Y60_) hown (mvT hZ (own_w hw 72 rfl)) (mvT hZ (own_w hw 73 rfl)) (mvT hZ (own_w hw 3 rfl)) (mvT hZ (own_w hw 74 rfl)) (by decide) (backOf (W := 0) (r_sm l Z a0 hw [] cs1 fv h0 n0 O0 G0 a14 a12 kz_ cs 2 S Vb hn hB (by decide)) hZ (own_w hw 74 rfl) (own_w hw 3 rfl) (by decide) (by decide)) (g := (mkF m 245 #[vI (u1), vI (u2), vI (u3), vI (u4), vI (u5), vI (nv_), vI (v0), vI (v1), vI (v2), vI (v3), vR (a10), vR (a11), vR (a12), vI (cs.length.toInt32), vR (a14)] [(.int cs.length.toInt32), (.int (2 : Int32)), (.ref a12), (.ref a14)])) rfl (by rw [hml]; rfl) (argsL := [(.ref a14), (.ref a12), (.int (2 : Int32)), (.int cs.length.toInt32)]) (rest := []) (lenOf pd_34 rfl) rfl (by show 2 * 0 + _ ≤ _; exact Nat.le_of_eq rfl) (hb hby at_245) (fun _ _ => ⟨rfl, e2, (own_room hce (by decide)), (own_room hsl (by decide))⟩)
  dsimp only [Pt.U, Pt.locs, Pt.cells, Pt.slots] at X3 l3 y3 z3 st3 hQ3
  subst l3 y3 z3
  obtain ⟨rfl, N3q, e3⟩ := hQ3
  have N3 := Fr.app N2 N3q
  obtain ⟨_, _, ⟨T4, L4, k4, n4⟩, -, X4, ⟨Lc4, hQ4, l4, y4, z4⟩, st4⟩ := Jvm.LawKit.callS X3 hx (y := Y60_) hown (mvT hZ (own_w hw 72 rfl)) (mvT hZ (own_w hw 73 rfl)) (mvT hZ (own_w hw 3 rfl)) (mvT hZ (own_w hw 74 rfl)) (by decide) (backOf (W := 0) (r_sm l Z a0 hw [] cs1 fv h0 n0 O0 G0 a14 a12 kz_ cs 3 S Vb hn hB (by decide)) hZ (own_w hw 74 rfl) (own_w hw 3 rfl) (by decide) (by decide)) (g := (mkF m 258 #[vI (u1), vI (u2), vI (u3), vI (u4), vI (u5), vI (nv_), vI (v0), vI (v1), vI (v2), vI (v3), vR (a10), vR (a11), vR (a12), vI (cs.length.toInt32), vR (a14)] [(.int cs.length.toInt32), (.int (3 : Int32)), (.ref a12), (.ref a14)])) rfl (by rw [hml]; rfl) (argsL := [(.ref a14), (.ref a12), (.int (3 : Int32)), (.int cs.length.toInt32)]) (rest := []) (lenOf pd_34 rfl) rfl (by show 2 * 0 + _ ≤ _; exact Nat.le_of_eq rfl) (hb hby at_258) (fun _ _ => ⟨rfl, e3, (own_room hce (by decide)), (own_room hsl (by decide))⟩)
  dsimp only [Pt.U, Pt.locs, Pt.cells, Pt.slots] at X4 l4 y4 z4 st4 hQ4
  subst l4 y4 z4
  obtain ⟨rfl, N4q, e4⟩ := hQ4
  have N4 := Fr.app N3 N4q
  refine ⟨T4, h0, _, X4, e4, N4, O0, rfl, fun target kt => ?_⟩
  show own_St p e below T0 m 212 #[vI (u1), vI (u2), vI (u3), vI (u4), vI (u5), vI (nv_), vI (v0), vI (v1), vI (v2), vI (v3), vR (a10), vR (a11), vR (a12), vI (cs.length.toInt32), vR (a14)] [] _
  refine XS.aload X0.here hx rfl (hb hby at_212) rfl rfl ?_
  refine XS.aload X0.here hx rfl (hb hby at_214) rfl rfl ?_
  refine XS.iconst X0.here hx rfl (hb hby at_216) ?_
  refine XS.iload X0.here hx rfl (hb hby at_217) rfl ?_
  show own_St p e below T0 m 219 #[vI (u1), vI (u2), vI (u3), vI (u4), vI (u5), vI (nv_), vI (v0), vI (v1), vI (v2), vI (v3), vR (a10), vR (a11), vR (a12), vI (cs.length.toInt32), vR (a14)] [(.int cs.length.toInt32), (.int (0 : Int32)), (.ref a12), (.ref a14)] _
  refine st1 _ ?_
  show own_St p e below T1 m 222 #[vI (u1), vI (u2), vI (u3), vI (u4), vI (u5), vI (nv_), vI (v0), vI (v1), vI (v2), vI (v3), vR (a10), vR (a11), vR (a12), vI (cs.length.toInt32), vR (a14)] [(.int (1 : Int32))] _
  refine XS.ifNo X1.here hx rfl (hb hby at_222) rfl ((if0 _ _).trans (feq (by decide : ¬ ((1 : Int32) = (0 : Int32)))).1) ?_
  refine XS.aload X1.here hx rfl (hb hby at_225) rfl rfl ?_
  refine XS.aload X1.here hx rfl (hb hby at_227) rfl rfl ?_
  refine XS.iconst X1.here hx rfl (hb hby at_229) ?_
  refine XS.iload X1.here hx rfl (hb hby at_230) rfl ?_
  show own_St p e below T1 m 232 #[vI (u1), vI (u2), vI (u3), vI (u4), vI (u5), vI (nv_), vI (v0), vI (v1), vI (v2), vI (v3), vR (a10), vR (a11), vR (a12), vI (cs.length.toInt32), vR (a14)] [(.int cs.length.toInt32), (.int (1 : Int32)), (.ref a12), (.ref a14)] _
  refine st2 _ ?_
  show own_St p e below T2 m 235 #[vI (u1), vI (u2), vI (u3), vI (u4), vI (u5), vI (nv_), vI (v0), vI (v1), vI (v2), vI (v3), vR (a10), vR (a11), vR (a12), vI (cs.length.toInt32), vR (a14)] [(.int (1 : Int32))] _
  refine XS.ifNo X2.here hx rfl (hb hby at_235) rfl ((if0 _ _).trans (feq (by decide : ¬ ((1 : Int32) = (0 : Int32)))).1) ?_
  refine XS.aload X2.here hx rfl (hb hby at_238) rfl rfl ?_
  refine XS.aload X2.here hx rfl (hb hby at_240) rfl rfl ?_
  refine XS.iconst X2.here hx rfl (hb hby at_242) ?_
  refine XS.iload X2.here hx rfl (hb hby at_243) rfl ?_
  show own_St p e below T2 m 245 #[vI (u1), vI (u2), vI (u3), vI (u4), vI (u5), vI (nv_), vI (v0), vI (v1), vI (v2), vI (v3), vR (a10), vR (a11), vR (a12), vI (cs.length.toInt32), vR (a14)] [(.int cs.length.toInt32), (.int (2 : Int32)), (.ref a12), (.ref a14)] _
  refine st3 _ ?_
  show own_St p e below T3 m 248 #[vI (u1), vI (u2), vI (u3), vI (u4), vI (u5), vI (nv_), vI (v0), vI (v1), vI (v2), vI (v3), vR (a10), vR (a11), vR (a12), vI (cs.length.toInt32), vR (a14)] [(.int (1 : Int32))] _
  refine XS.ifNo X3.here hx rfl (hb hby at_248) rfl ((if0 _ _).trans (feq (by decide : ¬ ((1 : Int32) = (0 : Int32)))).1) ?_
  refine XS.aload X3.here hx rfl (hb hby at_251) rfl rfl ?_
  refine XS.aload X3.here hx rfl (hb hby at_253) rfl rfl ?_
  refine XS.iconst X3.here hx rfl (hb hby at_255) ?_
  refine XS.iload X3.here hx rfl (hb hby at_256) rfl ?_
  show own_St p e below T3 m 258 #[vI (u1), vI (u2), vI (u3), vI (u4), vI (u5), vI (nv_), vI (v0), vI (v1), vI (v2), vI (v3), vR (a10), vR (a11), vR (a12), vI (cs.length.toInt32), vR (a14)] [(.int cs.length.toInt32), (.int (3 : Int32)), (.ref a12), (.ref a14)] _
  refine st4 _ ?_
  show own_St p e below T4 m 261 #[vI (u1), vI (u2), vI (u3), vI (u4), vI (u5), vI (nv_), vI (v0), vI (v1), vI (v2), vI (v3), vR (a10), vR (a11), vR (a12), vI (cs.length.toInt32), vR (a14)] [(.int (1 : Int32))] _
  refine XS.ifNo X4.here hx rfl (hb hby at_261) rfl ((if0 _ _).trans (feq (by decide : ¬ ((1 : Int32) = (0 : Int32)))).1) ?_
  refine XS.iconst X4.here hx rfl (hb hby at_264) ?_
  refine XS.goto X4.here hx rfl (pc0 := 265) (pc' := 269) rfl (hb hby at_265) (by decide) (by decide) ?_
  exact kt
theorem pd_35 : parseMethodDescriptor "([C)V" = some ⟨[(.array .char)], none⟩ := by decide +kernel
theorem pd_36 : parseMethodDescriptor "(Ljava/lang/String;)Ljava/lang/String;" = some ⟨[(.object "java/lang/String")], some (.object "java/lang/String")⟩ := by decide +kernel
theorem ef_0_64 (m : MethodId) (x0 : Int32) (x1 : Int32) (x2 : Int32) (x3 : Int32) (x4 : Int32) : entryFrame m #[(.int x0), (.int x1), (.int x2), (.int x3), (.int x4)] maxLocals = mkF m 0 #[vI (x0), vI (x1), vI (x2), vI (x3), vI (x4), .unset, .unset, .unset, .unset, .unset, .unset, .unset, .unset, .unset, .unset] [] := by first | (simp [entryFrame, mkF, argsToLocals, Value.category, maxLocals]; done) | rfl
theorem r_law0 (l : Launch) (Z : State) (a0 : Array Value) (hw : own_HW a0 Z) (ws : List Jvm.Cond) (cs1 : Int32) (fv : Value) (h0 : Heap) (n0 : Nat) (O0 : Old Z n0 h0) (G : own_Ctx Z Z.heap cs1 fv) (hEL : EW Z a0 own_EL) (wS : ∀ a ∈ Bundle.stringAtoms, a.before a0 Z = true) (p1 p2 p3 p4 p5 c0_ c1_ c2_ c3_ : Int32) (hl : (p1 &&& (2147483647 : Int32)) % (5 : Int32) = (0 : Int32)) (he0 : own_dr p2 = c0_) (hz0_ : ¬ (c0_ < (0 : Int32))) (hm0_ : ¬ ((65535 : Int32) < c0_)) (he1 : own_dr p3 = c1_) (hz1_ : ¬ (c1_ < (0 : Int32))) (hm1_ : ¬ ((65535 : Int32) < c1_)) (he2 : own_dr p4 = c2_) (hz2_ : ¬ (c2_ < (0 : Int32))) (hm2_ : ¬ ((65535 : Int32) < c2_)) (he3 : own_dr p5 = c3_) (hz3_ : ¬ (c3_ < (0 : Int32))) (hm3_ : ¬ ((65535 : Int32) < c3_)) :
    MetFree l x (head1 (Jvm.Cond.code x code maxLocals ret :: ws) room_1) (fun a U => a = #[(.int p1), (.int p2), (.int p3), (.int p4), (.int p5)] ∧ Z.Warmed39 U.vm ∧ U.heap = h0 ∧ CHv Z own_EL U.vm h0) (fun _ _ _ _ _ => True) (fun _ U o U' => ∃ v L, o = .returned v ∧ own_Qk (some (.int (1 : Int32))) [] h0 n0 v U'.heap L ∧ CHr Z own_EL U.vm U.heap U'.vm U'.heap ∧ ReturnedEndW U o U' L 32 1216) := by
  have G0 := G
  refine MetFree.of_bodySF (plainFor_of_name pn_8) hisR ?_
  intro p e s m args below meth c s₁ Bd hml0 hP hK
  obtain ⟨rfl, hZ, hh, hC⟩ := hP
  have hx := Bd.exec
  have hby := Bd.bytes
  have hml : c.maxLocals = 15 := hml0
  have hown := findClass_of_methodNamed Bd.named
  have X0 : Stand p l e room_1 (s.setVm s.vm) m #[(.int p1), (.int p2), (.int p3), (.int p4), (.int p5)] below meth c s₁ [] 0 0 := Stand.of_body Bd
  have e0 : s₁.heap = h0 := by rw [← hh, Bd.state]; rfl
  have N0 := Fr.nil n0
  have hS0 : s.Since s.vm h0.size := State.WarmedH.since (State.WarmedH.refl s) _
  have hk0 : h0.size ≤ h0.size := Nat.le_refl _
  have pre0 := own_pre (tb := p.tables) (e := e) (below := below) (T := s₁) (ef_0_64 m p1 p2 p3 p4 p5)
  obtain ⟨T1, h1, L1, X1, e1, N1, O1, q1h, st1⟩ := t_pre cs1 fv p1 p2 p3 p4 p5 (0 : Int32) c0_ c1_ c2_ c3_ 0 0 (by decide) (by decide) X0 hx hZ hw hby hml hown e0 N0 O0 G0 hl he0 he1 he2 he3
  obtain rfl : h0 = h1 := q1h.symm
  obtain ⟨T2, h2, ka2, X2, e2, E2, A2, st2⟩ := newP X1 hx hZ (own_w hw 5 rfl) e1 (g := (mkF m 35 #[vI (p1), vI (p2), vI (p3), vI (p4), vI (p5), vI ((0 : Int32)), vI (c0_), vI (c1_), vI (c2_), vI (c3_), .unset, .unset, .unset, .unset, .unset] [(.int (0 : Int32))])) rfl (hb hby at_35) rfl (by decide) (cap := 0) (by decide) (by decide) (by decide) (by decide)
  obtain ⟨b2, g2⟩ : ∃ z, z = h0.size := ⟨_, rfl⟩
  have g_b2 : n0 ≤ b2 := Nat.le_trans (O1.1 ▸ O1.2.1) (Nat.le_of_eq g2.symm)
  have sz_b2 : h0.size ≤ b2 := Nat.le_trans (Keep.refl h0 []).1 (Nat.le_of_eq g2.symm)
  have sn2 : Safe Z own_EL s.vm h0 b2 := Safe.new (Nat.le_of_eq g2.symm)
  rw [← g2] at A2 st2
  have O2 := O1.ext E2
  have K2 : Keep h0 h2 [] := (Keep.refl h0 []).ext E2
  have sf3 := Safe.ext E2 hC sn2
  have C2 : CHv Z own_EL s.vm h2 := hC.ext E2
  have R2 : CHr Z own_EL s.vm h0 s.vm h2 := (CHr.refl hC).trans (CHr.ext E2 hC)
  have hk2 := Nat.le_trans hk0 E2.1
  have V2 : Arv Z h2 b2 ka2 .char (0 : Int32) [] (.int (0 : Int32)) := Arv.new A2 (by decide)
  have hn_ : ([] : List Int32).length ≤ 4 := Nat.le_of_ble_eq_true rfl
  have hB_ : own_Bd ([] : List Int32) := own_all0 (P := fun z => ¬ (z < (0 : Int32)) ∧ ¬ ((65535 : Int32) < z)) 
  have hf_ : (own_flt ([] : List Int32)).length ≤ 4 := Nat.le_trans (own_fold_len ([] : List Int32) []).1 (by rw [List.length_nil, Nat.zero_add]; exact hn_)
  obtain ⟨T4, h4, X4, e4, E4, A4, D4, -, st4⟩ := newO X2 hx hZ hown (own_w hw 6 rfl) (own_w hw 7 rfl) (own_w hw 8 rfl) e2 (g := (mkF m 86 #[vI (p1), vI (p2), vI (p3), vI (p4), vI (p5), vI ((0 : Int32)), vI (c0_), vI (c1_), vI (c2_), vI (c3_), vR (b2), .unset, .unset, .unset, .unset] [])) rfl (hb hby at_86) (by decide) (by decide)
  obtain ⟨b4, g4⟩ : ∃ z, z = h2.size := ⟨_, rfl⟩
  have ne_b2_b4 : b2 ≠ b4 := Nat.ne_of_lt (Nat.lt_of_lt_of_le V2.lt (Nat.le_of_eq g4.symm))
  have g_b4 : n0 ≤ b4 := Nat.le_trans (O2.1 ▸ O2.2.1) (Nat.le_of_eq g4.symm)
  have sz_b4 : h0.size ≤ b4 := Nat.le_trans K2.1 (Nat.le_of_eq g4.symm)
  have sn4 : Safe Z own_EL s.vm h2 b4 := Safe.new (Nat.le_of_eq g4.symm)
  rw [← g4] at A4 D4 st4
  have f5 := V2.ext E4
  have O4 := O2.ext E4
  have K4 : Keep h0 h4 [] := K2.ext E4
  have sf6 := Safe.ext E4 C2 sf3
  have sf7 := Safe.ext E4 C2 sn4
  have C4 : CHv Z own_EL s.vm h4 := C2.ext E4
  have R4 : CHr Z own_EL s.vm h0 s.vm h4 := R2.trans (CHr.ext E4 C2)
  have hk4 := Nat.le_trans hk2 E4.1
  have F4_21 : Fld Z h4 b4 "java/lang/String" "value" "[B" .null := D4 (Or.inr (own_w hw 21 rfl)) (ty := (.array .byte)) (by decide)
  have F4_22 : Fld Z h4 b4 "java/lang/String" "coder" "B" (.int (0 : Int32)) := D4 (Or.inr (own_w hw 22 rfl)) (ty := .byte) (by decide)
  obtain ⟨_, _, ⟨T8, L8, k8, n8⟩, -, X8, S8a, z8a, ⟨Lc8, hQ8, l8, y8, z8, R8q⟩, st8⟩ := X4.specialBackS hx (y := Y15_) rfl hown (mvT hZ (own_w hw 9 rfl)) (mvT hZ (own_w hw 10 rfl)) (mvT hZ (own_w hw 11 rfl)) (by decide) (backOfSH (s := s) (vm0 := s.vm) (EL := own_EL) (W := 1) (r_s0 l Z a0 hw [] cs1 fv h4 n0 O4 G0 hEL wS b4 b2 ka2 A4 g_b4 F4_22 F4_21 f5 ne_b2_b4) hZ (own_w hw 11 rfl) (own_w hw 8 rfl) (by decide) (by decide) hEL C4) (g := (mkF m 92 #[vI (p1), vI (p2), vI (p3), vI (p4), vI (p5), vI ((0 : Int32)), vI (c0_), vI (c1_), vI (c2_), vI (c3_), vR (b2), .unset, .unset, .unset, .unset] [(.ref b2), (.ref b4), (.ref b4)])) rfl (by rw [hml]; rfl) (Steps.refl _) (a := b4) (argsL := [(.ref b2)]) (rest := [(.ref b4)]) (lenOf pd_35 rfl) rfl (by show 2 * 0 + _ ≤ _; exact Nat.le_of_eq rfl) (hb hby at_92) (fun _ _ => ⟨rfl, e4, (by decide : 2 + 2 ≤ _), (by decide : 4 + 4 ≤ _)⟩)
  dsimp only [Pt.U, Pt.locs, Pt.cells, Pt.slots] at X8 S8a z8a l8 y8 z8 st8 hQ8 R8q
  subst l8 y8 z8
  have X8 : Stand p l e room_1 (s.setVm T8.vm) m #[(.int p1), (.int p2), (.int p3), (.int p4), (.int p5)] below meth c T8 _ _ _ := X8
  have S8f : s.Since T8.vm T8.heap.size := foldS (T := T4) hS0 (by rw [e4]; exact hk4) S8a z8a
  have hZ8 : Z.Warmed39 T8.vm := State.Warmed39.trans (t := s.setVm s.vm) hZ S8a.1
  have hown8 : (s.setVm T8.vm).vm.findClass "com/example/rubrique/rubrique/render/NonSortMarkersRemovePinLaw" = some m.cls := by rw [show (s.setVm T8.vm).vm = T8.vm from rfl, S8a.1.alike.findClass]; exact hown
  obtain ⟨rfl, N8q, Kq8, Sq8⟩ := hQ8
  have N8 := Fr.app N1 N8q
  have f9 := f5.keep Kq8 (fun q => (List.mem_cons.mp q).elim ne_b2_b4 (fun q => nomatch q))
  have f10 := A4.keep Kq8
  have O8 := O4.keep Kq8 (allS g_b4 all0)
  have K8 : Keep h0 T8.heap [] := K4.trans Kq8 (allS (Or.inr sz_b4) all0)
  have sf11 := R8q.safe f5.lt sf6
  have sf12 := R8q.safe A4.lt sf7
  have R8 : CHr Z own_EL s.vm h0 T8.vm T8.heap := R4.trans R8q
  have C8 := R8q.1
  obtain ⟨T13, h13, ka13, X13, e13, E13, A13, st13⟩ := newP X8 hx hZ8 (own_w hw 5 rfl) rfl (g := (mkF m 98 #[vI (p1), vI (p2), vI (p3), vI (p4), vI (p5), vI ((0 : Int32)), vI (c0_), vI (c1_), vI (c2_), vI (c3_), vR (b2), vR (b4), .unset, .unset, .unset] [(.int (4 : Int32))])) rfl (hb hby at_98) rfl (by decide) (cap := 4) (by decide) (by decide) (by decide) (by decide)
  obtain ⟨b13, g13⟩ : ∃ z, z = T8.heap.size := ⟨_, rfl⟩
  have ne_b2_b13 : b2 ≠ b13 := Nat.ne_of_lt (Nat.lt_of_lt_of_le f9.lt (Nat.le_of_eq g13.symm))
  have ne_b4_b13 : b4 ≠ b13 := Nat.ne_of_lt (Nat.lt_of_lt_of_le f10.lt (Nat.le_of_eq g13.symm))
  have g_b13 : n0 ≤ b13 := Nat.le_trans (O8.1 ▸ O8.2.1) (Nat.le_of_eq g13.symm)
  have sz_b13 : h0.size ≤ b13 := Nat.le_trans K8.1 (Nat.le_of_eq g13.symm)
  have sn13 : Safe Z own_EL T8.vm T8.heap b13 := Safe.new (Nat.le_of_eq g13.symm)
  rw [← g13] at A13 st13
  have f14 := f9.ext E13
  have f15 := f10.ext E13
  have O13 := O8.ext E13
  have K13 : Keep h0 h13 [] := K8.ext E13
  have f16 := own_Str_ext E13 Sq8
  have sf17 := Safe.ext E13 C8 sf11
  have sf18 := Safe.ext E13 C8 sf12
  have sf19 := Safe.ext E13 C8 sn13
  have C13 : CHv Z own_EL T8.vm h13 := C8.ext E13
  have R13 : CHr Z own_EL s.vm h0 T8.vm h13 := R8.trans (CHr.ext E13 C8)
  have hk13 := Nat.le_trans (Nat.le_refl _) E13.1
  have V13 : Arv Z h13 b13 ka13 .char (4 : Int32) [(.int (0 : Int32)), (.int (0 : Int32)), (.int (0 : Int32)), (.int (0 : Int32))] (.int (0 : Int32)) := (Arv.new A13 (by decide)).pad (pad_rep [] (.int (0 : Int32)) 4)
  have V102 : Arv Z h13 b13 ka13 .char (4 : Int32) (([] : List Int32).map Value.int) (.int (0 : Int32)) := V13.pad (fun i => (pad_rep [] (.int (0 : Int32)) 4 i).symm)
  obtain ⟨_, _, ⟨T20, L20, k20, n20⟩, -, X20, ⟨Lc20, hQ20, l20, y20, z20⟩, st20⟩ := Jvm.LawKit.callS X13 hx (y := Y56_) hown8 (mvT hZ8 (own_w hw 27 rfl)) (mvT hZ8 (own_w hw 28 rfl)) (mvT hZ8 (own_w hw 29 rfl)) (mvT hZ8 (own_w hw 30 rfl)) (by decide) (backOf (W := 0) (r_rm l Z a0 hw [] cs1 fv h13 n0 O13 G0 b4 ([] : List Int32) (own_Str_keep (Keep.ext (Keep.refl T8.heap []) E13) Sq8) hn_ hB_) hZ8 (own_w hw 30 rfl) (own_w hw 29 rfl) (by decide) (by decide)) (g := (mkF m 174 #[vI (p1), vI (p2), vI (p3), vI (p4), vI (p5), vI ((0 : Int32)), vI (c0_), vI (c1_), vI (c2_), vI (c3_), vR (b2), vR (b4), vR (b13), vI ((0 : Int32)), .unset] [(.ref b4)])) rfl (by rw [hml]; rfl) (argsL := [(.ref b4)]) (rest := []) (lenOf pd_36 rfl) rfl (by show 2 * 0 + _ ≤ _; exact Nat.le_of_eq rfl) (hb hby at_174) (fun _ _ => ⟨rfl, e13, (by decide : 5 + 8 ≤ _), (by decide : 12 + 52 ≤ _)⟩)
  dsimp only [Pt.U, Pt.locs, Pt.cells, Pt.slots] at X20 l20 y20 z20 st20 hQ20
  subst l20 y20 z20
  obtain ⟨t20, rfl, N20q, Kq20, So20, hs20⟩ := hQ20
  have N20 := Fr.app N8 N20q
  have f21 := f14.keep Kq20 (fun q => nomatch q)
  have f22 := f15.keep Kq20
  have f23 := V102.keep Kq20 (fun q => nomatch q)
  have O20 := O13.keep Kq20 all0
  have K20 : Keep h0 T20.heap [] := K13.trans Kq20 all0
  have f24 := own_Str_keep Kq20 f16
  have sf25 := Safe.keep Kq20 sf0 C13 sf17
  have sf26 := Safe.keep Kq20 sf0 C13 sf18
  have sf27 := Safe.keep Kq20 sf0 C13 sf19
  have C20 : CHv Z own_EL T8.vm T20.heap := C13.keep Kq20 sf0
  have R20 : CHr Z own_EL s.vm h0 T8.vm T20.heap := R13.trans (CHr.keep Kq20 sf0 C13)
  have hk20 := Nat.le_trans hk13 Kq20.1
  obtain rfl : b4 = t20 := (hs20 rfl).symm
  obtain ⟨cq28, kq28, q28a, q28b, q28c⟩ := isOf hZ8 rfl f22
  obtain ⟨_, _, ⟨T28, L28, k28, n28⟩, -, X28, ⟨Lc28, hQ28, l28, y28, z28⟩, st28⟩ := X20.virtualBack hx (y := Y18_) (z := Y18_) hown8 (mvT hZ8 (own_w hw 71 rfl)) (mvT hZ8 (own_w hw 48 rfl)) (notFace_of_selects (args := #[]) (mvT hZ8 (own_w hw 50 rfl))) (mvT hZ8 (own_w hw 50 rfl)) (mvT hZ8 (own_w hw 49 rfl)) (by decide) (backOf (W := 0) (r_len l Z a0 hw [] cs1 fv T20.heap n0 O20 G0 b4 (own_flt ([] : List Int32)) So20 hf_) hZ8 (own_w hw 51 rfl) (own_w hw 8 rfl) (by decide) (by decide)) q28a q28c (g := (mkF m 186 #[vI (p1), vI (p2), vI (p3), vI (p4), vI (p5), vI ((0 : Int32)), vI (c0_), vI (c1_), vI (c2_), vI (c3_), vR (b2), vR (b4), vR (b13), vI ((0 : Int32)), vR (b4)] [(.ref b4)])) rfl (by rw [hml]; rfl) (Steps.refl _) (argsL := []) (rest := []) (lenOf pd_21 rfl) rfl (by show 2 * 0 + _ ≤ _; exact Nat.le_of_eq rfl) (hb hby at_186) (fun _ _ => ⟨rfl, rfl, (by decide : 13 + 0 ≤ _), (by decide : 64 + 0 ≤ _)⟩)
  dsimp only [Pt.U, Pt.locs, Pt.cells, Pt.slots] at X28 l28 y28 z28 st28 hQ28
  subst l28 y28 z28
  obtain ⟨rfl, N28q, e28⟩ := hQ28
  have N28 := Fr.app N20 N28q
  obtain ⟨T29, h29, L29, X29, e29, N29, O29, q29h, st29⟩ := t_suf cs1 fv p1 p2 p3 p4 p5 (0 : Int32) c0_ c1_ c2_ c3_ b2 b4 b13 b4 ka13 (own_flt ([] : List Int32)) 13 64 (by decide) (by decide) X28 hx hZ8 hw hby hml hown8 e28 N28 O20 G0 So20 f23 hf_ (own_Bd_flt hB_)
  obtain rfl : T20.heap = h29 := q29h.symm
  obtain ⟨fs, hr, hrun, hended, hRW⟩ := X29.leaveW S8f (by rw [e29]; exact hk20) (v := some (.int (1 : Int32))) (fun h => by rw [Bd.returns] at h; cases h)
  refine ⟨_, _, pre0 _ ?_, hrun, hended, _, _, rfl, ?_, ?_, hRW.1, hRW.2.1, hRW.2.2.1, hRW.2.2.2.mono (by decide) (by decide)⟩
  · show own_St p e below s₁ m 0 #[vI (p1), vI (p2), vI (p3), vI (p4), vI (p5), .unset, .unset, .unset, .unset, .unset, .unset, .unset, .unset, .unset, .unset] [] _
    refine st1 _ ?_
    show own_St p e below T1 m 33 #[vI (p1), vI (p2), vI (p3), vI (p4), vI (p5), vI ((0 : Int32)), vI (c0_), vI (c1_), vI (c2_), vI (c3_), .unset, .unset, .unset, .unset, .unset] [] _
    refine XS.iload X1.here hx rfl (hb hby at_33) rfl ?_
    show own_St p e below T1 m 35 #[vI (p1), vI (p2), vI (p3), vI (p4), vI (p5), vI ((0 : Int32)), vI (c0_), vI (c1_), vI (c2_), vI (c3_), .unset, .unset, .unset, .unset, .unset] [(.int (0 : Int32))] _
    refine st2 _ ?_
    show own_St p e below T2 m 37 #[vI (p1), vI (p2), vI (p3), vI (p4), vI (p5), vI ((0 : Int32)), vI (c0_), vI (c1_), vI (c2_), vI (c3_), .unset, .unset, .unset, .unset, .unset] [(.ref b2)] _
    refine XS.astore X2.here hx rfl (hb hby at_37) rfl rfl (l' := #[vI (p1), vI (p2), vI (p3), vI (p4), vI (p5), vI ((0 : Int32)), vI (c0_), vI (c1_), vI (c2_), vI (c3_), vR (b2), .unset, .unset, .unset, .unset]) rfl ?_
    refine XS.iload X2.here hx rfl (hb hby at_39) rfl ?_
    refine XS.ifYes X2.here hx rfl (pc0 := 41) (pc' := 50) rfl (hb hby at_41) rfl ((if0 _ _).trans (flt (by decide : ¬ ((0 : Int32) < (0 : Int32)))).2.2.2) (by decide) (by decide) ?_
    refine XS.iload X2.here hx rfl (hb hby at_50) rfl ?_
    refine XS.iconst X2.here hx rfl (hb hby at_52) ?_
    refine XS.icmpYes X2.here hx rfl (pc0 := 53) (pc' := 62) rfl (hb hby at_53) rfl (flt (by decide : ¬ ((1 : Int32) < (0 : Int32)))).2.2.2 (by decide) (by decide) ?_
    refine XS.iload X2.here hx rfl (hb hby at_62) rfl ?_
    refine XS.iconst X2.here hx rfl (hb hby at_64) ?_
    refine XS.icmpYes X2.here hx rfl (pc0 := 65) (pc' := 74) rfl (hb hby at_65) rfl (flt (by decide : ¬ ((2 : Int32) < (0 : Int32)))).2.2.2 (by decide) (by decide) ?_
    refine XS.iload X2.here hx rfl (hb hby at_74) rfl ?_
    show own_St p e below T2 m 76 #[vI (p1), vI (p2), vI (p3), vI (p4), vI (p5), vI ((0 : Int32)), vI (c0_), vI (c1_), vI (c2_), vI (c3_), vR (b2), .unset, .unset, .unset, .unset] [(.int (0 : Int32))] _
    refine XS.iconst X2.here hx rfl (hb hby at_76) ?_
    refine XS.icmpYes X2.here hx rfl (pc0 := 77) (pc' := 86) rfl (hb hby at_77) rfl (flt (by decide : ¬ ((3 : Int32) < (0 : Int32)))).2.2.2 (by decide) (by decide) ?_
    show own_St p e below T2 m 86 #[vI (p1), vI (p2), vI (p3), vI (p4), vI (p5), vI ((0 : Int32)), vI (c0_), vI (c1_), vI (c2_), vI (c3_), vR (b2), .unset, .unset, .unset, .unset] [] _
    refine st4 _ ?_
    show own_St p e below T4 m 89 #[vI (p1), vI (p2), vI (p3), vI (p4), vI (p5), vI ((0 : Int32)), vI (c0_), vI (c1_), vI (c2_), vI (c3_), vR (b2), .unset, .unset, .unset, .unset] [(.ref b4)] _
    refine XS.dup X4.here hx rfl (hb hby at_89) rfl rfl ?_
    refine XS.aload X4.here hx rfl (hb hby at_90) rfl rfl ?_
    show own_St p e below T4 m 92 #[vI (p1), vI (p2), vI (p3), vI (p4), vI (p5), vI ((0 : Int32)), vI (c0_), vI (c1_), vI (c2_), vI (c3_), vR (b2), .unset, .unset, .unset, .unset] [(.ref b2), (.ref b4), (.ref b4)] _
    refine st8.trans ?_
    show own_St p e below T8 m 95 #[vI (p1), vI (p2), vI (p3), vI (p4), vI (p5), vI ((0 : Int32)), vI (c0_), vI (c1_), vI (c2_), vI (c3_), vR (b2), .unset, .unset, .unset, .unset] [(.ref b4)] _
    refine XS.astore X8.here hx rfl (hb hby at_95) rfl rfl (l' := #[vI (p1), vI (p2), vI (p3), vI (p4), vI (p5), vI ((0 : Int32)), vI (c0_), vI (c1_), vI (c2_), vI (c3_), vR (b2), vR (b4), .unset, .unset, .unset]) rfl ?_
    refine XS.iconst X8.here hx rfl (hb hby at_97) ?_
    show own_St p e below T8 m 98 #[vI (p1), vI (p2), vI (p3), vI (p4), vI (p5), vI ((0 : Int32)), vI (c0_), vI (c1_), vI (c2_), vI (c3_), vR (b2), vR (b4), .unset, .unset, .unset] [(.int (4 : Int32))] _
    refine st13 _ ?_
    show own_St p e below T13 m 100 #[vI (p1), vI (p2), vI (p3), vI (p4), vI (p5), vI ((0 : Int32)), vI (c0_), vI (c1_), vI (c2_), vI (c3_), vR (b2), vR (b4), .unset, .unset, .unset] [(.ref b13)] _
    refine XS.astore X13.here hx rfl (hb hby at_100) rfl rfl (l' := #[vI (p1), vI (p2), vI (p3), vI (p4), vI (p5), vI ((0 : Int32)), vI (c0_), vI (c1_), vI (c2_), vI (c3_), vR (b2), vR (b4), vR (b13), .unset, .unset]) rfl ?_
    refine XS.iconst X13.here hx rfl (hb hby at_102) ?_
    refine XS.istore X13.here hx rfl (hb hby at_103) rfl (l' := #[vI (p1), vI (p2), vI (p3), vI (p4), vI (p5), vI ((0 : Int32)), vI (c0_), vI (c1_), vI (c2_), vI (c3_), vR (b2), vR (b4), vR (b13), vI ((0 : Int32)), .unset]) rfl ?_
    refine XS.iload X13.here hx rfl (hb hby at_105) rfl ?_
    refine XS.ifYes X13.here hx rfl (pc0 := 107) (pc' := 121) rfl (hb hby at_107) rfl ((if0 _ _).trans (flt (by decide : ¬ ((0 : Int32) < (0 : Int32)))).2.2.2) (by decide) (by decide) ?_
    refine XS.iload X13.here hx rfl (hb hby at_121) rfl ?_
    refine XS.iconst X13.here hx rfl (hb hby at_123) ?_
    refine XS.icmpYes X13.here hx rfl (pc0 := 124) (pc' := 138) rfl (hb hby at_124) rfl (flt (by decide : ¬ ((1 : Int32) < (0 : Int32)))).2.2.2 (by decide) (by decide) ?_
    refine XS.iload X13.here hx rfl (hb hby at_138) rfl ?_
    refine XS.iconst X13.here hx rfl (hb hby at_140) ?_
    show own_St p e below T13 m 141 #[vI (p1), vI (p2), vI (p3), vI (p4), vI (p5), vI ((0 : Int32)), vI (c0_), vI (c1_), vI (c2_), vI (c3_), vR (b2), vR (b4), vR (b13), vI ((0 : Int32)), .unset] [(.int (2 : Int32)), (.int (0 : Int32))] _
    refine XS.icmpYes X13.here hx rfl (pc0 := 141) (pc' := 155) rfl (hb hby at_141) rfl (flt (by decide : ¬ ((2 : Int32) < (0 : Int32)))).2.2.2 (by decide) (by decide) ?_
    refine XS.iload X13.here hx rfl (hb hby at_155) rfl ?_
    refine XS.iconst X13.here hx rfl (hb hby at_157) ?_
    refine XS.icmpYes X13.here hx rfl (pc0 := 158) (pc' := 172) rfl (hb hby at_158) rfl (flt (by decide : ¬ ((3 : Int32) < (0 : Int32)))).2.2.2 (by decide) (by decide) ?_
    refine XS.aload X13.here hx rfl (hb hby at_172) rfl rfl ?_
    show own_St p e below T13 m 174 #[vI (p1), vI (p2), vI (p3), vI (p4), vI (p5), vI ((0 : Int32)), vI (c0_), vI (c1_), vI (c2_), vI (c3_), vR (b2), vR (b4), vR (b13), vI ((0 : Int32)), .unset] [(.ref b4)] _
    refine st20 _ ?_
    show own_St p e below T20 m 177 #[vI (p1), vI (p2), vI (p3), vI (p4), vI (p5), vI ((0 : Int32)), vI (c0_), vI (c1_), vI (c2_), vI (c3_), vR (b2), vR (b4), vR (b13), vI ((0 : Int32)), .unset] [(.ref b4)] _
    refine XS.astore X20.here hx rfl (hb hby at_177) rfl rfl (l' := #[vI (p1), vI (p2), vI (p3), vI (p4), vI (p5), vI ((0 : Int32)), vI (c0_), vI (c1_), vI (c2_), vI (c3_), vR (b2), vR (b4), vR (b13), vI ((0 : Int32)), vR (b4)]) rfl ?_
    refine XS.aload X20.here hx rfl (hb hby at_179) rfl rfl ?_
    refine XS.ifnullNo X20.here hx rfl (hb hby at_181) rfl ?_
    refine XS.aload X20.here hx rfl (hb hby at_184) rfl rfl ?_
    show own_St p e below T20 m 186 #[vI (p1), vI (p2), vI (p3), vI (p4), vI (p5), vI ((0 : Int32)), vI (c0_), vI (c1_), vI (c2_), vI (c3_), vR (b2), vR (b4), vR (b13), vI ((0 : Int32)), vR (b4)] [(.ref b4)] _
    refine st28.trans ?_
    show own_St p e below T28 m 189 #[vI (p1), vI (p2), vI (p3), vI (p4), vI (p5), vI ((0 : Int32)), vI (c0_), vI (c1_), vI (c2_), vI (c3_), vR (b2), vR (b4), vR (b13), vI ((0 : Int32)), vR (b4)] [(.int (0 : Int32))] _
    refine XS.iload X28.here hx rfl (hb hby at_189) rfl ?_
    refine XS.icmpYes X28.here hx rfl (pc0 := 191) (pc' := 196) rfl (hb hby at_191) rfl (teq (by decide : (0 : Int32) = (0 : Int32))).1 (by decide) (by decide) ?_
    refine XS.iload X28.here hx rfl (hb hby at_196) rfl ?_
    refine XS.iload X28.here hx rfl (hb hby at_198) rfl ?_
    refine XS.icmpNo X28.here hx rfl (hb hby at_200) rfl (teq (by decide : (0 : Int32) = (0 : Int32))).2 ?_
    refine XS.aload X28.here hx rfl (hb hby at_203) rfl rfl ?_
    refine XS.aload X28.here hx rfl (hb hby at_205) rfl rfl ?_
    show own_St p e below T28 m 207 #[vI (p1), vI (p2), vI (p3), vI (p4), vI (p5), vI ((0 : Int32)), vI (c0_), vI (c1_), vI (c2_), vI (c3_), vR (b2), vR (b4), vR (b13), vI ((0 : Int32)), vR (b4)] [(.ref b4), (.ref b4)] _
    refine Jvm.RoadKit.acmp (g := (mkF m 207 #[vI (p1), vI (p2), vI (p3), vI (p4), vI (p5), vI ((0 : Int32)), vI (c0_), vI (c1_), vI (c2_), vI (c3_), vR (b2), vR (b4), vR (b13), vI ((0 : Int32)), vR (b4)] [(.ref b4), (.ref b4)])) X28 hx rfl rfl rfl (pc0 := 207) (pc' := 212) (same := true) rfl (hb hby at_207) rfl (decide_eq_true rfl) (by decide) (by decide) ?_
    show own_St p e below T28 m 212 #[vI (p1), vI (p2), vI (p3), vI (p4), vI (p5), vI ((0 : Int32)), vI (c0_), vI (c1_), vI (c2_), vI (c3_), vR (b2), vR (b4), vR (b13), vI ((0 : Int32)), vR (b4)] [] _
    refine st29 _ ?_
    show own_St p e below T29 m 269 #[vI (p1), vI (p2), vI (p3), vI (p4), vI (p5), vI ((0 : Int32)), vI (c0_), vI (c1_), vI (c2_), vI (c3_), vR (b2), vR (b4), vR (b13), vI ((0 : Int32)), vR (b4)] [(.int (1 : Int32))] _
    exact retN X29 hx (t := .boolean) Bd.returns (by simp) (hb hby at_269) hr
  · show own_Qk (some (.int (1 : Int32))) [] h0 n0 _ T29.heap _
    rw [e29]
    exact ⟨rfl, N29, K20⟩
  · show CHr Z own_EL s.vm s.heap T29.vm T29.heap
    rw [hh, e29]
    exact R20.trans (CHv.at (s := s) (vm0 := T8.vm) X29 hZ8 hEL C20)
theorem pd_37 : parseMethodDescriptor "([CIC)I" = some ⟨[(.array .char), .int, .char], some .int⟩ := by decide +kernel
theorem r_law1 (l : Launch) (Z : State) (a0 : Array Value) (hw : own_HW a0 Z) (ws : List Jvm.Cond) (cs1 : Int32) (fv : Value) (h0 : Heap) (n0 : Nat) (O0 : Old Z n0 h0) (G : own_Ctx Z Z.heap cs1 fv) (p1 p2 p3 p4 p5 c0_ c1_ c2_ c3_ : Int32) (hl : (p1 &&& (2147483647 : Int32)) % (5 : Int32) = (1 : Int32)) (he0 : own_dr p2 = c0_) (hz0_ : ¬ (c0_ < (0 : Int32))) (hm0_ : ¬ ((65535 : Int32) < c0_)) (he1 : own_dr p3 = c1_) (hz1_ : ¬ (c1_ < (0 : Int32))) (hm1_ : ¬ ((65535 : Int32) < c1_)) (he2 : own_dr p4 = c2_) (hz2_ : ¬ (c2_ < (0 : Int32))) (hm2_ : ¬ ((65535 : Int32) < c2_)) (he3 : own_dr p5 = c3_) (hz3_ : ¬ (c3_ < (0 : Int32))) (hm3_ : ¬ ((65535 : Int32) < c3_)) :
    own_M l x (head1 (Jvm.Cond.code x code maxLocals ret :: ws) room_1) #[(.int p1), (.int p2), (.int p3), (.int p4), (.int p5)] Z h0 n0 (own_Qk (some (.int (1 : Int32))) []) 32 1216 := by
  have G0 := G
  refine MetFree.of_bodySF (plainFor_of_name pn_8) hisR ?_
  intro p e s m args below meth c s₁ Bd hml0 hP hK
  obtain ⟨rfl, hZ, hh⟩ := hP
  have hx := Bd.exec
  have hby := Bd.bytes
  have hml : c.maxLocals = 15 := hml0
  have hown := findClass_of_methodNamed Bd.named
  have X0 : Stand p l e room_1 s m #[(.int p1), (.int p2), (.int p3), (.int p4), (.int p5)] below meth c s₁ [] 0 0 := Stand.of_body Bd
  have e0 : s₁.heap = h0 := by rw [← hh, Bd.state]; rfl
  have N0 := Fr.nil n0
  have pre0 := own_pre (tb := p.tables) (e := e) (below := below) (T := s₁) (ef_0_64 m p1 p2 p3 p4 p5)
  obtain ⟨T1, h1, L1, X1, e1, N1, O1, q1h, st1⟩ := t_pre cs1 fv p1 p2 p3 p4 p5 (1 : Int32) c0_ c1_ c2_ c3_ 0 0 (by decide) (by decide) X0 hx hZ hw hby hml hown e0 N0 O0 G0 hl he0 he1 he2 he3
  obtain rfl : h0 = h1 := q1h.symm
  obtain ⟨T2, h2, ka2, X2, e2, E2, A2, st2⟩ := newP X1 hx hZ (own_w hw 5 rfl) e1 (g := (mkF m 35 #[vI (p1), vI (p2), vI (p3), vI (p4), vI (p5), vI ((1 : Int32)), vI (c0_), vI (c1_), vI (c2_), vI (c3_), .unset, .unset, .unset, .unset, .unset] [(.int (1 : Int32))])) rfl (hb hby at_35) rfl (by decide) (cap := 1) (by decide) (by decide) (by decide) (by decide)
  obtain ⟨b2, g2⟩ : ∃ z, z = h0.size := ⟨_, rfl⟩
  have g_b2 : n0 ≤ b2 := Nat.le_trans (O1.1 ▸ O1.2.1) (Nat.le_of_eq g2.symm)
  have sz_b2 : h0.size ≤ b2 := Nat.le_trans (Keep.refl h0 []).1 (Nat.le_of_eq g2.symm)
  rw [← g2] at A2 st2
  have O2 := O1.ext E2
  have K2 : Keep h0 h2 [] := (Keep.refl h0 []).ext E2
  have V2 : Arv Z h2 b2 ka2 .char (1 : Int32) [(.int (0 : Int32))] (.int (0 : Int32)) := (Arv.new A2 (by decide)).pad (pad_rep [] (.int (0 : Int32)) 1)
  have vc3 := V2
  obtain ⟨cl3, Ar3, qk3, S3, Nn3, Hs3, Gf3⟩ := vc3
  have hin3 : ¬ ((0 : Int32) < 0 ∨ cl3.slots.size ≤ ((0 : Int32)).toNatClampNeg) := inb_of S3 ⟨by decide, by decide⟩
  obtain ⟨T4, h4, X4, e4, W4, st4⟩ := stC X2 hx hZ e2 Ar3 (j := (0 : Int32)) hin3 (g := (mkF m 49 #[vI (p1), vI (p2), vI (p3), vI (p4), vI (p5), vI ((1 : Int32)), vI (c0_), vI (c1_), vI (c2_), vI (c3_), vR (b2), .unset, .unset, .unset, .unset] [(.int c0_), (.int (0 : Int32)), (.ref b2)])) rfl rfl (hb hby at_49)
  have O4 := O2.wr W4 g_b2
  have K4 : Keep h0 h4 [] := K2.wr W4 (Or.inr sz_b2)
  have N4 := Fr.snoc X4 N1 g_b2
  have f5 : Arv Z h4 b2 ka2 .char (1 : Int32) [(.int (nar .char c0_))] (.int (0 : Int32)) := Arv.set Ar3 qk3 S3 Nn3 Hs3 Gf3 (fits_nar_char _) W4 0 rfl (Nat.le_of_ble_eq_true rfl)
  have hn_ : [c0_].length ≤ 4 := Nat.le_of_ble_eq_true rfl
  have hB_ : own_Bd [c0_] := own_all1 (P := fun z => ¬ (z < (0 : Int32)) ∧ ¬ ((65535 : Int32) < z)) ⟨hz0_, hm0_⟩
  have hf_ : (own_flt [c0_]).length ≤ 4 := Nat.le_trans (own_fold_len [c0_] []).1 (by rw [List.length_nil, Nat.zero_add]; exact hn_)
  have h1_ : 1 ≤ [c0_].length := Nat.le_of_ble_eq_true rfl
  have V86 : Arv Z h4 b2 ka2 .char [c0_].length.toInt32 ([c0_].map Value.int) (.int (0 : Int32)) := by
    have q := f5
    rw [own_nc hz0_ hm0_] at q
    exact q
  obtain ⟨T6, h6, X6, e6, E6, A6, D6, -, st6⟩ := newO X4 hx hZ hown (own_w hw 6 rfl) (own_w hw 7 rfl) (own_w hw 8 rfl) e4 (g := (mkF m 86 #[vI (p1), vI (p2), vI (p3), vI (p4), vI (p5), vI ((1 : Int32)), vI (c0_), vI (c1_), vI (c2_), vI (c3_), vR (b2), .unset, .unset, .unset, .unset] [])) rfl (hb hby at_86) (by decide) (by decide)
  obtain ⟨b6, g6⟩ : ∃ z, z = h4.size := ⟨_, rfl⟩
  have ne_b2_b6 : b2 ≠ b6 := Nat.ne_of_lt (Nat.lt_of_lt_of_le V86.lt (Nat.le_of_eq g6.symm))
  have g_b6 : n0 ≤ b6 := Nat.le_trans (O4.1 ▸ O4.2.1) (Nat.le_of_eq g6.symm)
  have sz_b6 : h0.size ≤ b6 := Nat.le_trans K4.1 (Nat.le_of_eq g6.symm)
  rw [← g6] at A6 D6 st6
  have f7 := V86.ext E6
  have O6 := O4.ext E6
  have K6 : Keep h0 h6 [] := K4.ext E6
  have F6_21 : Fld Z h6 b6 "java/lang/String" "value" "[B" .null := D6 (Or.inr (own_w hw 21 rfl)) (ty := (.array .byte)) (by decide)
  have F6_22 : Fld Z h6 b6 "java/lang/String" "coder" "B" (.int (0 : Int32)) := D6 (Or.inr (own_w hw 22 rfl)) (ty := .byte) (by decide)
  obtain ⟨LL8, X8, N8⟩ : ∃ LL, Stand p l e room_1 s m #[(.int p1), (.int p2), (.int p3), (.int p4), (.int p5)] below meth c T6 LL 2 5 ∧ Fr n0 LL := ⟨_, X6, N4⟩
  obtain ⟨_, _, ⟨T9, L9, k9, n9⟩, -, X9, ⟨Lc9, hQ9, l9, y9, z9⟩, st9⟩ := X8.specialBack hx (y := Y15_) rfl hown (mvT hZ (own_w hw 9 rfl)) (mvT hZ (own_w hw 10 rfl)) (mvT hZ (own_w hw 11 rfl)) (by decide) (backOf (W := 1) (r_new l Z a0 hw [] cs1 fv h6 n0 O6 G0 b6 b2 ka2 [c0_] A6 g_b6 F6_22 F6_21 f7 ne_b2_b6 hn_ h1_ hB_) hZ (own_w hw 11 rfl) (own_w hw 8 rfl) (by decide) (by decide)) (g := (mkF m 92 #[vI (p1), vI (p2), vI (p3), vI (p4), vI (p5), vI ((1 : Int32)), vI (c0_), vI (c1_), vI (c2_), vI (c3_), vR (b2), .unset, .unset, .unset, .unset] [(.ref b2), (.ref b6), (.ref b6)])) rfl (by rw [hml]; rfl) (Steps.refl _) (a := b6) (argsL := [(.ref b2)]) (rest := [(.ref b6)]) (lenOf pd_35 rfl) rfl (by show 2 * 0 + _ ≤ _; exact Nat.le_of_eq rfl) (hb hby at_92) (fun _ _ => ⟨rfl, e6, (by decide : 2 + 2 ≤ _), (by decide : 5 + 12 ≤ _)⟩)
  dsimp only [Pt.U, Pt.locs, Pt.cells, Pt.slots] at X9 l9 y9 z9 st9 hQ9
  subst l9 y9 z9
  obtain ⟨rfl, N9q, Kq9, Sq9⟩ := hQ9
  have N9 := Fr.app N8 N9q
  have f10 := f7.keep Kq9 (fun q => (List.mem_cons.mp q).elim ne_b2_b6 (fun q => nomatch q))
  have f11 := A6.keep Kq9
  have O9 := O6.keep Kq9 (allS g_b6 all0)
  have K9 : Keep h0 T9.heap [] := K6.trans Kq9 (allS (Or.inr sz_b6) all0)
  obtain ⟨T12, h12, ka12, X12, e12, E12, A12, st12⟩ := newP X9 hx hZ (own_w hw 5 rfl) rfl (g := (mkF m 98 #[vI (p1), vI (p2), vI (p3), vI (p4), vI (p5), vI ((1 : Int32)), vI (c0_), vI (c1_), vI (c2_), vI (c3_), vR (b2), vR (b6), .unset, .unset, .unset] [(.int (4 : Int32))])) rfl (hb hby at_98) rfl (by decide) (cap := 4) (by decide) (by decide) (by decide) (by decide)
  obtain ⟨b12, g12⟩ : ∃ z, z = T9.heap.size := ⟨_, rfl⟩
  have ne_b2_b12 : b2 ≠ b12 := Nat.ne_of_lt (Nat.lt_of_lt_of_le f10.lt (Nat.le_of_eq g12.symm))
  have ne_b6_b12 : b6 ≠ b12 := Nat.ne_of_lt (Nat.lt_of_lt_of_le f11.lt (Nat.le_of_eq g12.symm))
  have g_b12 : n0 ≤ b12 := Nat.le_trans (O9.1 ▸ O9.2.1) (Nat.le_of_eq g12.symm)
  have sz_b12 : h0.size ≤ b12 := Nat.le_trans K9.1 (Nat.le_of_eq g12.symm)
  rw [← g12] at A12 st12
  have f13 := f10.ext E12
  have f14 := f11.ext E12
  have O12 := O9.ext E12
  have K12 : Keep h0 h12 [] := K9.ext E12
  have f15 := own_Str_ext E12 Sq9
  have V12 : Arv Z h12 b12 ka12 .char (4 : Int32) [(.int (0 : Int32)), (.int (0 : Int32)), (.int (0 : Int32)), (.int (0 : Int32))] (.int (0 : Int32)) := (Arv.new A12 (by decide)).pad (pad_rep [] (.int (0 : Int32)) 4)
  have V102 : Arv Z h12 b12 ka12 .char (4 : Int32) (([] : List Int32).map Value.int) (.int (0 : Int32)) := V12.pad (fun i => (pad_rep [] (.int (0 : Int32)) 4 i).symm)
  obtain ⟨_, _, ⟨T16, L16, k16, n16⟩, -, X16, ⟨Lc16, hQ16, l16, y16, z16⟩, st16⟩ := Jvm.LawKit.callS X12 hx (y := Y59_) hown (mvT hZ (own_w hw 85 rfl)) (mvT hZ (own_w hw 86 rfl)) (mvT hZ (own_w hw 3 rfl)) (mvT hZ (own_w hw 87 rfl)) (by decide) (backOf (W := 0) (r_pt l Z a0 hw [] cs1 fv h12 n0 O12 G0 b12 ka12 [] c0_ V102 g_b12 (by have := (own_fold_len [] []).1; exact Nat.lt_of_le_of_lt this (Nat.le_of_ble_eq_true rfl)) hz0_ hm0_) hZ (own_w hw 87 rfl) (own_w hw 3 rfl) (by decide) (by decide)) (g := (mkF m 116 #[vI (p1), vI (p2), vI (p3), vI (p4), vI (p5), vI ((1 : Int32)), vI (c0_), vI (c1_), vI (c2_), vI (c3_), vR (b2), vR (b6), vR (b12), vI ((0 : Int32)), .unset] [(.int c0_), (.int (0 : Int32)), (.ref b12)])) rfl (by rw [hml]; rfl) (argsL := [(.ref b12), (.int (0 : Int32)), (.int c0_)]) (rest := []) (lenOf pd_37 rfl) rfl (by show 2 * 0 + _ ≤ _; exact Nat.le_of_eq rfl) (hb hby at_116) (fun _ _ => ⟨rfl, e12, (by decide : 5 + 0 ≤ _), (by decide : 21 + 0 ≤ _)⟩)
  dsimp only [Pt.U, Pt.locs, Pt.cells, Pt.slots] at X16 l16 y16 z16 st16 hQ16
  subst l16 y16 z16
  have Kb16 : Keep T9.heap T16.heap [] := (Keep.ext (Keep.refl T9.heap []) E12).trans hQ16.2.2.1 (allS (Or.inr (Nat.le_of_eq g12.symm)) all0)
  obtain ⟨rfl, N16q, Kq16, Ve16⟩ := hQ16
  have N16 := Fr.app N9 N16q
  have f17 := f13.keep Kq16 (fun q => (List.mem_cons.mp q).elim ne_b2_b12 (fun q => nomatch q))
  have f18 := f14.keep Kq16
  have O16 := O12.keep Kq16 (allS g_b12 all0)
  have K16 : Keep h0 T16.heap [] := K12.trans Kq16 (allS (Or.inr sz_b12) all0)
  obtain ⟨_, _, ⟨T19, L19, k19, n19⟩, -, X19, ⟨Lc19, hQ19, l19, y19, z19⟩, st19⟩ := Jvm.LawKit.callS X16 hx (y := Y56_) hown (mvT hZ (own_w hw 27 rfl)) (mvT hZ (own_w hw 28 rfl)) (mvT hZ (own_w hw 29 rfl)) (mvT hZ (own_w hw 30 rfl)) (by decide) (backOf (W := 0) (r_rm l Z a0 hw [] cs1 fv T16.heap n0 O16 G0 b6 [c0_] (own_Str_keep Kb16 Sq9) hn_ hB_) hZ (own_w hw 30 rfl) (own_w hw 29 rfl) (by decide) (by decide)) (g := (mkF m 174 #[vI (p1), vI (p2), vI (p3), vI (p4), vI (p5), vI ((1 : Int32)), vI (c0_), vI (c1_), vI (c2_), vI (c3_), vR (b2), vR (b6), vR (b12), vI ((own_pt [] c0_).length.toInt32), .unset] [(.ref b6)])) rfl (by rw [hml]; rfl) (argsL := [(.ref b6)]) (rest := []) (lenOf pd_36 rfl) rfl (by show 2 * 0 + _ ≤ _; exact Nat.le_of_eq rfl) (hb hby at_174) (fun _ _ => ⟨rfl, rfl, (by decide : 5 + 8 ≤ _), (by decide : 21 + 52 ≤ _)⟩)
  dsimp only [Pt.U, Pt.locs, Pt.cells, Pt.slots] at X19 l19 y19 z19 st19 hQ19
  subst l19 y19 z19
  obtain ⟨t19, rfl, N19q, Kq19, So19, hs19⟩ := hQ19
  have N19 := Fr.app N16 N19q
  have f20 := f17.keep Kq19 (fun q => nomatch q)
  have f21 := f18.keep Kq19
  have f22 := Ve16.keep Kq19 (fun q => nomatch q)
  have O19 := O16.keep Kq19 all0
  have K19 : Keep h0 T19.heap [] := K16.trans Kq19 all0
  have V179 : Arv Z T19.heap b12 ka12 .char (4 : Int32) ((own_flt [c0_]).map Value.int) (.int (0 : Int32)) := f22
  obtain ⟨cq23, kq23, q23a, q23b, q23c⟩ := isOf hZ rfl (own_Str_exa So19)
  obtain ⟨_, _, ⟨T23, L23, k23, n23⟩, -, X23, ⟨Lc23, hQ23, l23, y23, z23⟩, st23⟩ := X19.virtualBack hx (y := Y18_) (z := Y18_) hown (mvT hZ (own_w hw 71 rfl)) (mvT hZ (own_w hw 48 rfl)) (notFace_of_selects (args := #[]) (mvT hZ (own_w hw 50 rfl))) (mvT hZ (own_w hw 50 rfl)) (mvT hZ (own_w hw 49 rfl)) (by decide) (backOf (W := 0) (r_len l Z a0 hw [] cs1 fv T19.heap n0 O19 G0 t19 (own_flt [c0_]) So19 hf_) hZ (own_w hw 51 rfl) (own_w hw 8 rfl) (by decide) (by decide)) q23a q23c (g := (mkF m 186 #[vI (p1), vI (p2), vI (p3), vI (p4), vI (p5), vI ((1 : Int32)), vI (c0_), vI (c1_), vI (c2_), vI (c3_), vR (b2), vR (b6), vR (b12), vI ((own_flt [c0_]).length.toInt32), vR (t19)] [(.ref t19)])) rfl (by rw [hml]; rfl) (Steps.refl _) (argsL := []) (rest := []) (lenOf pd_21 rfl) rfl (by show 2 * 0 + _ ≤ _; exact Nat.le_of_eq rfl) (hb hby at_186) (fun _ _ => ⟨rfl, rfl, (by decide : 13 + 0 ≤ _), (by decide : 73 + 0 ≤ _)⟩)
  dsimp only [Pt.U, Pt.locs, Pt.cells, Pt.slots] at X23 l23 y23 z23 st23 hQ23
  subst l23 y23 z23
  obtain ⟨rfl, N23q, e23⟩ := hQ23
  have N23 := Fr.app N19 N23q
  obtain ⟨T24, X24, e24, st24⟩ := own_mn cs1 fv p1 p2 p3 p4 p5 (1 : Int32) c0_ c1_ c2_ c3_ b2 b6 b12 t19 [c0_] X23 hx hZ hw hby hml hown e23 O19 G0 hs19 hn_ hf_ rfl
  obtain ⟨T25, h25, L25, X25, e25, N25, O25, q25h, st25⟩ := t_suf cs1 fv p1 p2 p3 p4 p5 (1 : Int32) c0_ c1_ c2_ c3_ b2 b6 b12 t19 ka12 (own_flt [c0_]) 13 73 (by decide) (by decide) X24 hx hZ hw hby hml hown e24 N23 O19 G0 So19 V179 hf_ (own_Bd_flt hB_)
  obtain rfl : T19.heap = h25 := q25h.symm
  obtain ⟨fs, hr, hrun, hended, hW, hsame⟩ := X25.leave (v := some (.int (1 : Int32))) (fun h => by rw [Bd.returns] at h; cases h)
  refine ⟨_, _, pre0 _ ?_, hrun, hended, _, _, rfl, ?_, ⟨_, rfl⟩, hW, hsame.mono (by decide) (by decide)⟩
  · show own_St p e below s₁ m 0 #[vI (p1), vI (p2), vI (p3), vI (p4), vI (p5), .unset, .unset, .unset, .unset, .unset, .unset, .unset, .unset, .unset, .unset] [] _
    refine st1 _ ?_
    show own_St p e below T1 m 33 #[vI (p1), vI (p2), vI (p3), vI (p4), vI (p5), vI ((1 : Int32)), vI (c0_), vI (c1_), vI (c2_), vI (c3_), .unset, .unset, .unset, .unset, .unset] [] _
    refine XS.iload X1.here hx rfl (hb hby at_33) rfl ?_
    show own_St p e below T1 m 35 #[vI (p1), vI (p2), vI (p3), vI (p4), vI (p5), vI ((1 : Int32)), vI (c0_), vI (c1_), vI (c2_), vI (c3_), .unset, .unset, .unset, .unset, .unset] [(.int (1 : Int32))] _
    refine st2 _ ?_
    show own_St p e below T2 m 37 #[vI (p1), vI (p2), vI (p3), vI (p4), vI (p5), vI ((1 : Int32)), vI (c0_), vI (c1_), vI (c2_), vI (c3_), .unset, .unset, .unset, .unset, .unset] [(.ref b2)] _
    refine XS.astore X2.here hx rfl (hb hby at_37) rfl rfl (l' := #[vI (p1), vI (p2), vI (p3), vI (p4), vI (p5), vI ((1 : Int32)), vI (c0_), vI (c1_), vI (c2_), vI (c3_), vR (b2), .unset, .unset, .unset, .unset]) rfl ?_
    refine XS.iload X2.here hx rfl (hb hby at_39) rfl ?_
    refine XS.ifNo X2.here hx rfl (hb hby at_41) rfl ((if0 _ _).trans (tlt (by decide : (0 : Int32) < (1 : Int32))).2.2.2) ?_
    refine XS.aload X2.here hx rfl (hb hby at_44) rfl rfl ?_
    refine XS.iconst X2.here hx rfl (hb hby at_46) ?_
    refine XS.iload X2.here hx rfl (hb hby at_47) rfl ?_
    show own_St p e below T2 m 49 #[vI (p1), vI (p2), vI (p3), vI (p4), vI (p5), vI ((1 : Int32)), vI (c0_), vI (c1_), vI (c2_), vI (c3_), vR (b2), .unset, .unset, .unset, .unset] [(.int c0_), (.int (0 : Int32)), (.ref b2)] _
    refine st4 _ ?_
    show own_St p e below T4 m 50 #[vI (p1), vI (p2), vI (p3), vI (p4), vI (p5), vI ((1 : Int32)), vI (c0_), vI (c1_), vI (c2_), vI (c3_), vR (b2), .unset, .unset, .unset, .unset] [] _
    refine XS.iload X4.here hx rfl (hb hby at_50) rfl ?_
    refine XS.iconst X4.here hx rfl (hb hby at_52) ?_
    refine XS.icmpYes X4.here hx rfl (pc0 := 53) (pc' := 62) rfl (hb hby at_53) rfl (flt (by decide : ¬ ((1 : Int32) < (1 : Int32)))).2.2.2 (by decide) (by decide) ?_
    refine XS.iload X4.here hx rfl (hb hby at_62) rfl ?_
    refine XS.iconst X4.here hx rfl (hb hby at_64) ?_
    refine XS.icmpYes X4.here hx rfl (pc0 := 65) (pc' := 74) rfl (hb hby at_65) rfl (flt (by decide : ¬ ((2 : Int32) < (1 : Int32)))).2.2.2 (by decide) (by decide) ?_
    refine XS.iload X4.here hx rfl (hb hby at_74) rfl ?_
    refine XS.iconst X4.here hx rfl (hb hby at_76) ?_
    refine XS.icmpYes X4.here hx rfl (pc0 := 77) (pc' := 86) rfl (hb hby at_77) rfl (flt (by decide : ¬ ((3 : Int32) < (1 : Int32)))).2.2.2 (by decide) (by decide) ?_
    show own_St p e below T4 m 86 #[vI (p1), vI (p2), vI (p3), vI (p4), vI (p5), vI ((1 : Int32)), vI (c0_), vI (c1_), vI (c2_), vI (c3_), vR (b2), .unset, .unset, .unset, .unset] [] _
    refine st6 _ ?_
    show own_St p e below T6 m 89 #[vI (p1), vI (p2), vI (p3), vI (p4), vI (p5), vI ((1 : Int32)), vI (c0_), vI (c1_), vI (c2_), vI (c3_), vR (b2), .unset, .unset, .unset, .unset] [(.ref b6)] _
    refine XS.dup X6.here hx rfl (hb hby at_89) rfl rfl ?_
    refine XS.aload X6.here hx rfl (hb hby at_90) rfl rfl ?_
    show own_St p e below T6 m 92 #[vI (p1), vI (p2), vI (p3), vI (p4), vI (p5), vI ((1 : Int32)), vI (c0_), vI (c1_), vI (c2_), vI (c3_), vR (b2), .unset, .unset, .unset, .unset] [(.ref b2), (.ref b6), (.ref b6)] _
    refine st9.trans ?_
    show own_St p e below T9 m 95 #[vI (p1), vI (p2), vI (p3), vI (p4), vI (p5), vI ((1 : Int32)), vI (c0_), vI (c1_), vI (c2_), vI (c3_), vR (b2), .unset, .unset, .unset, .unset] [(.ref b6)] _
    refine XS.astore X9.here hx rfl (hb hby at_95) rfl rfl (l' := #[vI (p1), vI (p2), vI (p3), vI (p4), vI (p5), vI ((1 : Int32)), vI (c0_), vI (c1_), vI (c2_), vI (c3_), vR (b2), vR (b6), .unset, .unset, .unset]) rfl ?_
    refine XS.iconst X9.here hx rfl (hb hby at_97) ?_
    show own_St p e below T9 m 98 #[vI (p1), vI (p2), vI (p3), vI (p4), vI (p5), vI ((1 : Int32)), vI (c0_), vI (c1_), vI (c2_), vI (c3_), vR (b2), vR (b6), .unset, .unset, .unset] [(.int (4 : Int32))] _
    refine st12 _ ?_
    show own_St p e below T12 m 100 #[vI (p1), vI (p2), vI (p3), vI (p4), vI (p5), vI ((1 : Int32)), vI (c0_), vI (c1_), vI (c2_), vI (c3_), vR (b2), vR (b6), .unset, .unset, .unset] [(.ref b12)] _
    refine XS.astore X12.here hx rfl (hb hby at_100) rfl rfl (l' := #[vI (p1), vI (p2), vI (p3), vI (p4), vI (p5), vI ((1 : Int32)), vI (c0_), vI (c1_), vI (c2_), vI (c3_), vR (b2), vR (b6), vR (b12), .unset, .unset]) rfl ?_
    refine XS.iconst X12.here hx rfl (hb hby at_102) ?_
    refine XS.istore X12.here hx rfl (hb hby at_103) rfl (l' := #[vI (p1), vI (p2), vI (p3), vI (p4), vI (p5), vI ((1 : Int32)), vI (c0_), vI (c1_), vI (c2_), vI (c3_), vR (b2), vR (b6), vR (b12), vI ((0 : Int32)), .unset]) rfl ?_
    refine XS.iload X12.here hx rfl (hb hby at_105) rfl ?_
    refine XS.ifNo X12.here hx rfl (hb hby at_107) rfl ((if0 _ _).trans (tlt (by decide : (0 : Int32) < (1 : Int32))).2.2.2) ?_
    refine XS.aload X12.here hx rfl (hb hby at_110) rfl rfl ?_
    refine XS.iload X12.here hx rfl (hb hby at_112) rfl ?_
    refine XS.iload X12.here hx rfl (hb hby at_114) rfl ?_
    show own_St p e below T12 m 116 #[vI (p1), vI (p2), vI (p3), vI (p4), vI (p5), vI ((1 : Int32)), vI (c0_), vI (c1_), vI (c2_), vI (c3_), vR (b2), vR (b6), vR (b12), vI ((0 : Int32)), .unset] [(.int c0_), (.int (0 : Int32)), (.ref b12)] _
    refine st16 _ ?_
    show own_St p e below T16 m 119 #[vI (p1), vI (p2), vI (p3), vI (p4), vI (p5), vI ((1 : Int32)), vI (c0_), vI (c1_), vI (c2_), vI (c3_), vR (b2), vR (b6), vR (b12), vI ((0 : Int32)), .unset] [(.int (own_pt [] c0_).length.toInt32)] _
    refine XS.istore X16.here hx rfl (hb hby at_119) rfl (l' := #[vI (p1), vI (p2), vI (p3), vI (p4), vI (p5), vI ((1 : Int32)), vI (c0_), vI (c1_), vI (c2_), vI (c3_), vR (b2), vR (b6), vR (b12), vI ((own_pt [] c0_).length.toInt32), .unset]) rfl ?_
    refine XS.iload X16.here hx rfl (hb hby at_121) rfl ?_
    refine XS.iconst X16.here hx rfl (hb hby at_123) ?_
    refine XS.icmpYes X16.here hx rfl (pc0 := 124) (pc' := 138) rfl (hb hby at_124) rfl (flt (by decide : ¬ ((1 : Int32) < (1 : Int32)))).2.2.2 (by decide) (by decide) ?_
    refine XS.iload X16.here hx rfl (hb hby at_138) rfl ?_
    refine XS.iconst X16.here hx rfl (hb hby at_140) ?_
    refine XS.icmpYes X16.here hx rfl (pc0 := 141) (pc' := 155) rfl (hb hby at_141) rfl (flt (by decide : ¬ ((2 : Int32) < (1 : Int32)))).2.2.2 (by decide) (by decide) ?_
    refine XS.iload X16.here hx rfl (hb hby at_155) rfl ?_
    refine XS.iconst X16.here hx rfl (hb hby at_157) ?_
    refine XS.icmpYes X16.here hx rfl (pc0 := 158) (pc' := 172) rfl (hb hby at_158) rfl (flt (by decide : ¬ ((3 : Int32) < (1 : Int32)))).2.2.2 (by decide) (by decide) ?_
    show own_St p e below T16 m 172 #[vI (p1), vI (p2), vI (p3), vI (p4), vI (p5), vI ((1 : Int32)), vI (c0_), vI (c1_), vI (c2_), vI (c3_), vR (b2), vR (b6), vR (b12), vI ((own_pt [] c0_).length.toInt32), .unset] [] _
    refine XS.aload X16.here hx rfl (hb hby at_172) rfl rfl ?_
    show own_St p e below T16 m 174 #[vI (p1), vI (p2), vI (p3), vI (p4), vI (p5), vI ((1 : Int32)), vI (c0_), vI (c1_), vI (c2_), vI (c3_), vR (b2), vR (b6), vR (b12), vI ((own_pt [] c0_).length.toInt32), .unset] [(.ref b6)] _
    refine st19 _ ?_
    show own_St p e below T19 m 177 #[vI (p1), vI (p2), vI (p3), vI (p4), vI (p5), vI ((1 : Int32)), vI (c0_), vI (c1_), vI (c2_), vI (c3_), vR (b2), vR (b6), vR (b12), vI ((own_pt [] c0_).length.toInt32), .unset] [(.ref t19)] _
    refine XS.astore X19.here hx rfl (hb hby at_177) rfl rfl (l' := #[vI (p1), vI (p2), vI (p3), vI (p4), vI (p5), vI ((1 : Int32)), vI (c0_), vI (c1_), vI (c2_), vI (c3_), vR (b2), vR (b6), vR (b12), vI ((own_pt [] c0_).length.toInt32), vR (t19)]) rfl ?_
    show own_St p e below T19 m 179 #[vI (p1), vI (p2), vI (p3), vI (p4), vI (p5), vI ((1 : Int32)), vI (c0_), vI (c1_), vI (c2_), vI (c3_), vR (b2), vR (b6), vR (b12), vI ((own_flt [c0_]).length.toInt32), vR (t19)] [] _
    refine XS.aload X19.here hx rfl (hb hby at_179) rfl rfl ?_
    refine XS.ifnullNo X19.here hx rfl (hb hby at_181) rfl ?_
    refine XS.aload X19.here hx rfl (hb hby at_184) rfl rfl ?_
    show own_St p e below T19 m 186 #[vI (p1), vI (p2), vI (p3), vI (p4), vI (p5), vI ((1 : Int32)), vI (c0_), vI (c1_), vI (c2_), vI (c3_), vR (b2), vR (b6), vR (b12), vI ((own_flt [c0_]).length.toInt32), vR (t19)] [(.ref t19)] _
    refine st23.trans ?_
    show own_St p e below T23 m 189 #[vI (p1), vI (p2), vI (p3), vI (p4), vI (p5), vI ((1 : Int32)), vI (c0_), vI (c1_), vI (c2_), vI (c3_), vR (b2), vR (b6), vR (b12), vI ((own_flt [c0_]).length.toInt32), vR (t19)] [(.int (own_flt [c0_]).length.toInt32)] _
    refine XS.iload X23.here hx rfl (hb hby at_189) rfl ?_
    refine XS.icmpYes X23.here hx rfl (pc0 := 191) (pc' := 196) rfl (hb hby at_191) rfl (teq (rfl : (own_flt [c0_]).length.toInt32 = (own_flt [c0_]).length.toInt32)).1 (by decide) (by decide) ?_
    show own_St p e below T23 m 196 #[vI (p1), vI (p2), vI (p3), vI (p4), vI (p5), vI ((1 : Int32)), vI (c0_), vI (c1_), vI (c2_), vI (c3_), vR (b2), vR (b6), vR (b12), vI ((own_flt [c0_]).length.toInt32), vR (t19)] [] _
    refine st24 _ ?_
    show own_St p e below T24 m 212 #[vI (p1), vI (p2), vI (p3), vI (p4), vI (p5), vI ((1 : Int32)), vI (c0_), vI (c1_), vI (c2_), vI (c3_), vR (b2), vR (b6), vR (b12), vI ((own_flt [c0_]).length.toInt32), vR (t19)] [] _
    refine st25 _ ?_
    show own_St p e below T25 m 269 #[vI (p1), vI (p2), vI (p3), vI (p4), vI (p5), vI ((1 : Int32)), vI (c0_), vI (c1_), vI (c2_), vI (c3_), vR (b2), vR (b6), vR (b12), vI ((own_flt [c0_]).length.toInt32), vR (t19)] [(.int (1 : Int32))] _
    exact retN X25 hx (t := .boolean) Bd.returns (by simp) (hb hby at_269) hr
  · show own_Qk (some (.int (1 : Int32))) [] h0 n0 _ T25.heap _
    rw [e25]
    exact ⟨rfl, N25, K19⟩
theorem r_law2 (l : Launch) (Z : State) (a0 : Array Value) (hw : own_HW a0 Z) (ws : List Jvm.Cond) (cs1 : Int32) (fv : Value) (h0 : Heap) (n0 : Nat) (O0 : Old Z n0 h0) (G : own_Ctx Z Z.heap cs1 fv) (p1 p2 p3 p4 p5 c0_ c1_ c2_ c3_ : Int32) (hl : (p1 &&& (2147483647 : Int32)) % (5 : Int32) = (2 : Int32)) (he0 : own_dr p2 = c0_) (hz0_ : ¬ (c0_ < (0 : Int32))) (hm0_ : ¬ ((65535 : Int32) < c0_)) (he1 : own_dr p3 = c1_) (hz1_ : ¬ (c1_ < (0 : Int32))) (hm1_ : ¬ ((65535 : Int32) < c1_)) (he2 : own_dr p4 = c2_) (hz2_ : ¬ (c2_ < (0 : Int32))) (hm2_ : ¬ ((65535 : Int32) < c2_)) (he3 : own_dr p5 = c3_) (hz3_ : ¬ (c3_ < (0 : Int32))) (hm3_ : ¬ ((65535 : Int32) < c3_)) :
    own_M l x (head1 (Jvm.Cond.code x code maxLocals ret :: ws) room_1) #[(.int p1), (.int p2), (.int p3), (.int p4), (.int p5)] Z h0 n0 (own_Qk (some (.int (1 : Int32))) []) 32 1216 := by
  have G0 := G
  refine MetFree.of_bodySF (plainFor_of_name pn_8) hisR ?_
  intro p e s m args below meth c s₁ Bd hml0 hP hK
  obtain ⟨rfl, hZ, hh⟩ := hP
  have hx := Bd.exec
  have hby := Bd.bytes
  have hml : c.maxLocals = 15 := hml0
  have hown := findClass_of_methodNamed Bd.named
  have X0 : Stand p l e room_1 s m #[(.int p1), (.int p2), (.int p3), (.int p4), (.int p5)] below meth c s₁ [] 0 0 := Stand.of_body Bd
  have e0 : s₁.heap = h0 := by rw [← hh, Bd.state]; rfl
  have N0 := Fr.nil n0
  have pre0 := own_pre (tb := p.tables) (e := e) (below := below) (T := s₁) (ef_0_64 m p1 p2 p3 p4 p5)
  obtain ⟨T1, h1, L1, X1, e1, N1, O1, q1h, st1⟩ := t_pre cs1 fv p1 p2 p3 p4 p5 (2 : Int32) c0_ c1_ c2_ c3_ 0 0 (by decide) (by decide) X0 hx hZ hw hby hml hown e0 N0 O0 G0 hl he0 he1 he2 he3
  obtain rfl : h0 = h1 := q1h.symm
  obtain ⟨T2, h2, ka2, X2, e2, E2, A2, st2⟩ := newP X1 hx hZ (own_w hw 5 rfl) e1 (g := (mkF m 35 #[vI (p1), vI (p2), vI (p3), vI (p4), vI (p5), vI ((2 : Int32)), vI (c0_), vI (c1_), vI (c2_), vI (c3_), .unset, .unset, .unset, .unset, .unset] [(.int (2 : Int32))])) rfl (hb hby at_35) rfl (by decide) (cap := 2) (by decide) (by decide) (by decide) (by decide)
  obtain ⟨b2, g2⟩ : ∃ z, z = h0.size := ⟨_, rfl⟩
  have g_b2 : n0 ≤ b2 := Nat.le_trans (O1.1 ▸ O1.2.1) (Nat.le_of_eq g2.symm)
  have sz_b2 : h0.size ≤ b2 := Nat.le_trans (Keep.refl h0 []).1 (Nat.le_of_eq g2.symm)
  rw [← g2] at A2 st2
  have O2 := O1.ext E2
  have K2 : Keep h0 h2 [] := (Keep.refl h0 []).ext E2
  have V2 : Arv Z h2 b2 ka2 .char (2 : Int32) [(.int (0 : Int32)), (.int (0 : Int32))] (.int (0 : Int32)) := (Arv.new A2 (by decide)).pad (pad_rep [] (.int (0 : Int32)) 2)
  have vc3 := V2
  obtain ⟨cl3, Ar3, qk3, S3, Nn3, Hs3, Gf3⟩ := vc3
  have hin3 : ¬ ((0 : Int32) < 0 ∨ cl3.slots.size ≤ ((0 : Int32)).toNatClampNeg) := inb_of S3 ⟨by decide, by decide⟩
  obtain ⟨T4, h4, X4, e4, W4, st4⟩ := stC X2 hx hZ e2 Ar3 (j := (0 : Int32)) hin3 (g := (mkF m 49 #[vI (p1), vI (p2), vI (p3), vI (p4), vI (p5), vI ((2 : Int32)), vI (c0_), vI (c1_), vI (c2_), vI (c3_), vR (b2), .unset, .unset, .unset, .unset] [(.int c0_), (.int (0 : Int32)), (.ref b2)])) rfl rfl (hb hby at_49)
  have O4 := O2.wr W4 g_b2
  have K4 : Keep h0 h4 [] := K2.wr W4 (Or.inr sz_b2)
  have N4 := Fr.snoc X4 N1 g_b2
  have f5 : Arv Z h4 b2 ka2 .char (2 : Int32) [(.int (nar .char c0_)), (.int (0 : Int32))] (.int (0 : Int32)) := Arv.set Ar3 qk3 S3 Nn3 Hs3 Gf3 (fits_nar_char _) W4 0 rfl (Nat.le_of_ble_eq_true rfl)
  have vc6 := f5
  obtain ⟨cl6, Ar6, qk6, S6, Nn6, Hs6, Gf6⟩ := vc6
  have hin6 : ¬ ((1 : Int32) < 0 ∨ cl6.slots.size ≤ ((1 : Int32)).toNatClampNeg) := inb_of S6 ⟨by decide, by decide⟩
  obtain ⟨T7, h7, X7, e7, W7, st7⟩ := stC X4 hx hZ e4 Ar6 (j := (1 : Int32)) hin6 (g := (mkF m 61 #[vI (p1), vI (p2), vI (p3), vI (p4), vI (p5), vI ((2 : Int32)), vI (c0_), vI (c1_), vI (c2_), vI (c3_), vR (b2), .unset, .unset, .unset, .unset] [(.int c1_), (.int (1 : Int32)), (.ref b2)])) rfl rfl (hb hby at_61)
  have O7 := O4.wr W7 g_b2
  have K7 : Keep h0 h7 [] := K4.wr W7 (Or.inr sz_b2)
  have N7 := Fr.snoc X7 N4 g_b2
  have f8 : Arv Z h7 b2 ka2 .char (2 : Int32) [(.int (nar .char c0_)), (.int (nar .char c1_))] (.int (0 : Int32)) := Arv.set Ar6 qk6 S6 Nn6 Hs6 Gf6 (fits_nar_char _) W7 1 rfl (Nat.le_of_ble_eq_true rfl)
  have hn_ : [c0_, c1_].length ≤ 4 := Nat.le_of_ble_eq_true rfl
  have hB_ : own_Bd [c0_, c1_] := own_all2 (P := fun z => ¬ (z < (0 : Int32)) ∧ ¬ ((65535 : Int32) < z)) ⟨hz0_, hm0_⟩ ⟨hz1_, hm1_⟩
  have hf_ : (own_flt [c0_, c1_]).length ≤ 4 := Nat.le_trans (own_fold_len [c0_, c1_] []).1 (by rw [List.length_nil, Nat.zero_add]; exact hn_)
  have h1_ : 1 ≤ [c0_, c1_].length := Nat.le_of_ble_eq_true rfl
  have V86 : Arv Z h7 b2 ka2 .char [c0_, c1_].length.toInt32 ([c0_, c1_].map Value.int) (.int (0 : Int32)) := by
    have q := f8
    rw [own_nc hz0_ hm0_, own_nc hz1_ hm1_] at q
    exact q
  obtain ⟨T9, h9, X9, e9, E9, A9, D9, -, st9⟩ := newO X7 hx hZ hown (own_w hw 6 rfl) (own_w hw 7 rfl) (own_w hw 8 rfl) e7 (g := (mkF m 86 #[vI (p1), vI (p2), vI (p3), vI (p4), vI (p5), vI ((2 : Int32)), vI (c0_), vI (c1_), vI (c2_), vI (c3_), vR (b2), .unset, .unset, .unset, .unset] [])) rfl (hb hby at_86) (by decide) (by decide)
  obtain ⟨b9, g9⟩ : ∃ z, z = h7.size := ⟨_, rfl⟩
  have ne_b2_b9 : b2 ≠ b9 := Nat.ne_of_lt (Nat.lt_of_lt_of_le V86.lt (Nat.le_of_eq g9.symm))
  have g_b9 : n0 ≤ b9 := Nat.le_trans (O7.1 ▸ O7.2.1) (Nat.le_of_eq g9.symm)
  have sz_b9 : h0.size ≤ b9 := Nat.le_trans K7.1 (Nat.le_of_eq g9.symm)
  rw [← g9] at A9 D9 st9
  have f10 := V86.ext E9
  have O9 := O7.ext E9
  have K9 : Keep h0 h9 [] := K7.ext E9
  have F9_21 : Fld Z h9 b9 "java/lang/String" "value" "[B" .null := D9 (Or.inr (own_w hw 21 rfl)) (ty := (.array .byte)) (by decide)
  have F9_22 : Fld Z h9 b9 "java/lang/String" "coder" "B" (.int (0 : Int32)) := D9 (Or.inr (own_w hw 22 rfl)) (ty := .byte) (by decide)
  obtain ⟨LL11, X11, N11⟩ : ∃ LL, Stand p l e room_1 s m #[(.int p1), (.int p2), (.int p3), (.int p4), (.int p5)] below meth c T9 LL 2 6 ∧ Fr n0 LL := ⟨_, X9, N7⟩
  obtain ⟨_, _, ⟨T12, L12, k12, n12⟩, -, X12, ⟨Lc12, hQ12, l12, y12, z12⟩, st12⟩ := X11.specialBack hx (y := Y15_) rfl hown (mvT hZ (own_w hw 9 rfl)) (mvT hZ (own_w hw 10 rfl)) (mvT hZ (own_w hw 11 rfl)) (by decide) (backOf (W := 1) (r_new l Z a0 hw [] cs1 fv h9 n0 O9 G0 b9 b2 ka2 [c0_, c1_] A9 g_b9 F9_22 F9_21 f10 ne_b2_b9 hn_ h1_ hB_) hZ (own_w hw 11 rfl) (own_w hw 8 rfl) (by decide) (by decide)) (g := (mkF m 92 #[vI (p1), vI (p2), vI (p3), vI (p4), vI (p5), vI ((2 : Int32)), vI (c0_), vI (c1_), vI (c2_), vI (c3_), vR (b2), .unset, .unset, .unset, .unset] [(.ref b2), (.ref b9), (.ref b9)])) rfl (by rw [hml]; rfl) (Steps.refl _) (a := b9) (argsL := [(.ref b2)]) (rest := [(.ref b9)]) (lenOf pd_35 rfl) rfl (by show 2 * 0 + _ ≤ _; exact Nat.le_of_eq rfl) (hb hby at_92) (fun _ _ => ⟨rfl, e9, (by decide : 2 + 2 ≤ _), (by decide : 6 + 12 ≤ _)⟩)
  dsimp only [Pt.U, Pt.locs, Pt.cells, Pt.slots] at X12 l12 y12 z12 st12 hQ12
  subst l12 y12 z12
  obtain ⟨rfl, N12q, Kq12, Sq12⟩ := hQ12
  have N12 := Fr.app N11 N12q
  have f13 := f10.keep Kq12 (fun q => (List.mem_cons.mp q).elim ne_b2_b9 (fun q => nomatch q))
  have f14 := A9.keep Kq12
  have O12 := O9.keep Kq12 (allS g_b9 all0)
  have K12 : Keep h0 T12.heap [] := K9.trans Kq12 (allS (Or.inr sz_b9) all0)
  obtain ⟨T15, h15, ka15, X15, e15, E15, A15, st15⟩ := newP X12 hx hZ (own_w hw 5 rfl) rfl (g := (mkF m 98 #[vI (p1), vI (p2), vI (p3), vI (p4), vI (p5), vI ((2 : Int32)), vI (c0_), vI (c1_), vI (c2_), vI (c3_), vR (b2), vR (b9), .unset, .unset, .unset] [(.int (4 : Int32))])) rfl (hb hby at_98) rfl (by decide) (cap := 4) (by decide) (by decide) (by decide) (by decide)
  obtain ⟨b15, g15⟩ : ∃ z, z = T12.heap.size := ⟨_, rfl⟩
  have ne_b2_b15 : b2 ≠ b15 := Nat.ne_of_lt (Nat.lt_of_lt_of_le f13.lt (Nat.le_of_eq g15.symm))
  have ne_b9_b15 : b9 ≠ b15 := Nat.ne_of_lt (Nat.lt_of_lt_of_le f14.lt (Nat.le_of_eq g15.symm))
  have g_b15 : n0 ≤ b15 := Nat.le_trans (O12.1 ▸ O12.2.1) (Nat.le_of_eq g15.symm)
  have sz_b15 : h0.size ≤ b15 := Nat.le_trans K12.1 (Nat.le_of_eq g15.symm)
  rw [← g15] at A15 st15
  have f16 := f13.ext E15
  have f17 := f14.ext E15
  have O15 := O12.ext E15
  have K15 : Keep h0 h15 [] := K12.ext E15
  have f18 := own_Str_ext E15 Sq12
  have V15 : Arv Z h15 b15 ka15 .char (4 : Int32) [(.int (0 : Int32)), (.int (0 : Int32)), (.int (0 : Int32)), (.int (0 : Int32))] (.int (0 : Int32)) := (Arv.new A15 (by decide)).pad (pad_rep [] (.int (0 : Int32)) 4)
  have V102 : Arv Z h15 b15 ka15 .char (4 : Int32) (([] : List Int32).map Value.int) (.int (0 : Int32)) := V15.pad (fun i => (pad_rep [] (.int (0 : Int32)) 4 i).symm)
  obtain ⟨_, _, ⟨T19, L19, k19, n19⟩, -, X19, ⟨Lc19, hQ19, l19, y19, z19⟩, st19⟩ := Jvm.LawKit.callS X15 hx (y := Y59_) hown (mvT hZ (own_w hw 85 rfl)) (mvT hZ (own_w hw 86 rfl)) (mvT hZ (own_w hw 3 rfl)) (mvT hZ (own_w hw 87 rfl)) (by decide) (backOf (W := 0) (r_pt l Z a0 hw [] cs1 fv h15 n0 O15 G0 b15 ka15 [] c0_ V102 g_b15 (by have := (own_fold_len [] []).1; exact Nat.lt_of_le_of_lt this (Nat.le_of_ble_eq_true rfl)) hz0_ hm0_) hZ (own_w hw 87 rfl) (own_w hw 3 rfl) (by decide) (by decide)) (g := (mkF m 116 #[vI (p1), vI (p2), vI (p3), vI (p4), vI (p5), vI ((2 : Int32)), vI (c0_), vI (c1_), vI (c2_), vI (c3_), vR (b2), vR (b9), vR (b15), vI ((0 : Int32)), .unset] [(.int c0_), (.int (0 : Int32)), (.ref b15)])) rfl (by rw [hml]; rfl) (argsL := [(.ref b15), (.int (0 : Int32)), (.int c0_)]) (rest := []) (lenOf pd_37 rfl) rfl (by show 2 * 0 + _ ≤ _; exact Nat.le_of_eq rfl) (hb hby at_116) (fun _ _ => ⟨rfl, e15, (by decide : 5 + 0 ≤ _), (by decide : 22 + 0 ≤ _)⟩)
  dsimp only [Pt.U, Pt.locs, Pt.cells, Pt.slots] at X19 l19 y19 z19 st19 hQ19
  subst l19 y19 z19
  have Kb19 : Keep T12.heap T19.heap [] := (Keep.ext (Keep.refl T12.heap []) E15).trans hQ19.2.2.1 (allS (Or.inr (Nat.le_of_eq g15.symm)) all0)
  obtain ⟨rfl, N19q, Kq19, Ve19⟩ := hQ19
  have N19 := Fr.app N12 N19q
  have f20 := f16.keep Kq19 (fun q => (List.mem_cons.mp q).elim ne_b2_b15 (fun q => nomatch q))
  have f21 := f17.keep Kq19
  have O19 := O15.keep Kq19 (allS g_b15 all0)
  have K19 : Keep h0 T19.heap [] := K15.trans Kq19 (allS (Or.inr sz_b15) all0)
  obtain ⟨_, _, ⟨T22, L22, k22, n22⟩, -, X22, ⟨Lc22, hQ22, l22, y22, z22⟩, st22⟩ := Jvm.LawKit.callS X19 hx (y := Y59_) hown (mvT hZ (own_w hw 85 rfl)) (mvT hZ (own_w hw 86 rfl)) (mvT hZ (own_w hw 3 rfl)) (mvT hZ (own_w hw 87 rfl)) (by decide) (backOf (W := 0) (r_pt l Z a0 hw [] cs1 fv T19.heap n0 O19 G0 b15 ka15 (own_pt [] c0_) c1_ Ve19 g_b15 (by have := (own_fold_len [c0_] []).1; exact Nat.lt_of_le_of_lt this (Nat.le_of_ble_eq_true rfl)) hz1_ hm1_) hZ (own_w hw 87 rfl) (own_w hw 3 rfl) (by decide) (by decide)) (g := (mkF m 133 #[vI (p1), vI (p2), vI (p3), vI (p4), vI (p5), vI ((2 : Int32)), vI (c0_), vI (c1_), vI (c2_), vI (c3_), vR (b2), vR (b9), vR (b15), vI ((own_pt [] c0_).length.toInt32), .unset] [(.int c1_), (.int (own_pt [] c0_).length.toInt32), (.ref b15)])) rfl (by rw [hml]; rfl) (argsL := [(.ref b15), (.int (own_pt [] c0_).length.toInt32), (.int c1_)]) (rest := []) (lenOf pd_37 rfl) rfl (by show 2 * 0 + _ ≤ _; exact Nat.le_of_eq rfl) (hb hby at_133) (fun _ _ => ⟨rfl, rfl, (by decide : 5 + 0 ≤ _), (by decide : 22 + 0 ≤ _)⟩)
  dsimp only [Pt.U, Pt.locs, Pt.cells, Pt.slots] at X22 l22 y22 z22 st22 hQ22
  subst l22 y22 z22
  have Kb22 : Keep T12.heap T22.heap [] := Kb19.trans hQ22.2.2.1 (allS (Or.inr (Nat.le_of_eq g15.symm)) all0)
  obtain ⟨rfl, N22q, Kq22, Ve22⟩ := hQ22
  have N22 := Fr.app N19 N22q
  have f23 := f20.keep Kq22 (fun q => (List.mem_cons.mp q).elim ne_b2_b15 (fun q => nomatch q))
  have f24 := f21.keep Kq22
  have O22 := O19.keep Kq22 (allS g_b15 all0)
  have K22 : Keep h0 T22.heap [] := K19.trans Kq22 (allS (Or.inr sz_b15) all0)
  obtain ⟨_, _, ⟨T25, L25, k25, n25⟩, -, X25, ⟨Lc25, hQ25, l25, y25, z25⟩, st25⟩ := Jvm.LawKit.callS X22 hx (y := Y56_) hown (mvT hZ (own_w hw 27 rfl)) (mvT hZ (own_w hw 28 rfl)) (mvT hZ (own_w hw 29 rfl)) (mvT hZ (own_w hw 30 rfl)) (by decide) (backOf (W := 0) (r_rm l Z a0 hw [] cs1 fv T22.heap n0 O22 G0 b9 [c0_, c1_] (own_Str_keep Kb22 Sq12) hn_ hB_) hZ (own_w hw 30 rfl) (own_w hw 29 rfl) (by decide) (by decide)) (g := (mkF m 174 #[vI (p1), vI (p2), vI (p3), vI (p4), vI (p5), vI ((2 : Int32)), vI (c0_), vI (c1_), vI (c2_), vI (c3_), vR (b2), vR (b9), vR (b15), vI ((own_pt (own_pt [] c0_) c1_).length.toInt32), .unset] [(.ref b9)])) rfl (by rw [hml]; rfl) (argsL := [(.ref b9)]) (rest := []) (lenOf pd_36 rfl) rfl (by show 2 * 0 + _ ≤ _; exact Nat.le_of_eq rfl) (hb hby at_174) (fun _ _ => ⟨rfl, rfl, (by decide : 5 + 8 ≤ _), (by decide : 22 + 52 ≤ _)⟩)
  dsimp only [Pt.U, Pt.locs, Pt.cells, Pt.slots] at X25 l25 y25 z25 st25 hQ25
  subst l25 y25 z25
  obtain ⟨t25, rfl, N25q, Kq25, So25, hs25⟩ := hQ25
  have N25 := Fr.app N22 N25q
  have f26 := f23.keep Kq25 (fun q => nomatch q)
  have f27 := f24.keep Kq25
  have f28 := Ve22.keep Kq25 (fun q => nomatch q)
  have O25 := O22.keep Kq25 all0
  have K25 : Keep h0 T25.heap [] := K22.trans Kq25 all0
  have V179 : Arv Z T25.heap b15 ka15 .char (4 : Int32) ((own_flt [c0_, c1_]).map Value.int) (.int (0 : Int32)) := f28
  obtain ⟨cq29, kq29, q29a, q29b, q29c⟩ := isOf hZ rfl (own_Str_exa So25)
  obtain ⟨_, _, ⟨T29, L29, k29, n29⟩, -, X29, ⟨Lc29, hQ29, l29, y29, z29⟩, st29⟩ := X25.virtualBack hx (y := Y18_) (z := Y18_) hown (mvT hZ (own_w hw 71 rfl)) (mvT hZ (own_w hw 48 rfl)) (notFace_of_selects (args := #[]) (mvT hZ (own_w hw 50 rfl))) (mvT hZ (own_w hw 50 rfl)) (mvT hZ (own_w hw 49 rfl)) (by decide) (backOf (W := 0) (r_len l Z a0 hw [] cs1 fv T25.heap n0 O25 G0 t25 (own_flt [c0_, c1_]) So25 hf_) hZ (own_w hw 51 rfl) (own_w hw 8 rfl) (by decide) (by decide)) q29a q29c (g := (mkF m 186 #[vI (p1), vI (p2), vI (p3), vI (p4), vI (p5), vI ((2 : Int32)), vI (c0_), vI (c1_), vI (c2_), vI (c3_), vR (b2), vR (b9), vR (b15), vI ((own_flt [c0_, c1_]).length.toInt32), vR (t25)] [(.ref t25)])) rfl (by rw [hml]; rfl) (Steps.refl _) (argsL := []) (rest := []) (lenOf pd_21 rfl) rfl (by show 2 * 0 + _ ≤ _; exact Nat.le_of_eq rfl) (hb hby at_186) (fun _ _ => ⟨rfl, rfl, (by decide : 13 + 0 ≤ _), (by decide : 74 + 0 ≤ _)⟩)
  dsimp only [Pt.U, Pt.locs, Pt.cells, Pt.slots] at X29 l29 y29 z29 st29 hQ29
  subst l29 y29 z29
  obtain ⟨rfl, N29q, e29⟩ := hQ29
  have N29 := Fr.app N25 N29q
  obtain ⟨T30, X30, e30, st30⟩ := own_mn cs1 fv p1 p2 p3 p4 p5 (2 : Int32) c0_ c1_ c2_ c3_ b2 b9 b15 t25 [c0_, c1_] X29 hx hZ hw hby hml hown e29 O25 G0 hs25 hn_ hf_ rfl
  obtain ⟨T31, h31, L31, X31, e31, N31, O31, q31h, st31⟩ := t_suf cs1 fv p1 p2 p3 p4 p5 (2 : Int32) c0_ c1_ c2_ c3_ b2 b9 b15 t25 ka15 (own_flt [c0_, c1_]) 13 74 (by decide) (by decide) X30 hx hZ hw hby hml hown e30 N29 O25 G0 So25 V179 hf_ (own_Bd_flt hB_)
  obtain rfl : T25.heap = h31 := q31h.symm
  obtain ⟨fs, hr, hrun, hended, hW, hsame⟩ := X31.leave (v := some (.int (1 : Int32))) (fun h => by rw [Bd.returns] at h; cases h)
  refine ⟨_, _, pre0 _ ?_, hrun, hended, _, _, rfl, ?_, ⟨_, rfl⟩, hW, hsame.mono (by decide) (by decide)⟩
  · show own_St p e below s₁ m 0 #[vI (p1), vI (p2), vI (p3), vI (p4), vI (p5), .unset, .unset, .unset, .unset, .unset, .unset, .unset, .unset, .unset, .unset] [] _
    refine st1 _ ?_
    show own_St p e below T1 m 33 #[vI (p1), vI (p2), vI (p3), vI (p4), vI (p5), vI ((2 : Int32)), vI (c0_), vI (c1_), vI (c2_), vI (c3_), .unset, .unset, .unset, .unset, .unset] [] _
    refine XS.iload X1.here hx rfl (hb hby at_33) rfl ?_
    show own_St p e below T1 m 35 #[vI (p1), vI (p2), vI (p3), vI (p4), vI (p5), vI ((2 : Int32)), vI (c0_), vI (c1_), vI (c2_), vI (c3_), .unset, .unset, .unset, .unset, .unset] [(.int (2 : Int32))] _
    refine st2 _ ?_
    show own_St p e below T2 m 37 #[vI (p1), vI (p2), vI (p3), vI (p4), vI (p5), vI ((2 : Int32)), vI (c0_), vI (c1_), vI (c2_), vI (c3_), .unset, .unset, .unset, .unset, .unset] [(.ref b2)] _
    refine XS.astore X2.here hx rfl (hb hby at_37) rfl rfl (l' := #[vI (p1), vI (p2), vI (p3), vI (p4), vI (p5), vI ((2 : Int32)), vI (c0_), vI (c1_), vI (c2_), vI (c3_), vR (b2), .unset, .unset, .unset, .unset]) rfl ?_
    refine XS.iload X2.here hx rfl (hb hby at_39) rfl ?_
    refine XS.ifNo X2.here hx rfl (hb hby at_41) rfl ((if0 _ _).trans (tlt (by decide : (0 : Int32) < (2 : Int32))).2.2.2) ?_
    refine XS.aload X2.here hx rfl (hb hby at_44) rfl rfl ?_
    refine XS.iconst X2.here hx rfl (hb hby at_46) ?_
    refine XS.iload X2.here hx rfl (hb hby at_47) rfl ?_
    show own_St p e below T2 m 49 #[vI (p1), vI (p2), vI (p3), vI (p4), vI (p5), vI ((2 : Int32)), vI (c0_), vI (c1_), vI (c2_), vI (c3_), vR (b2), .unset, .unset, .unset, .unset] [(.int c0_), (.int (0 : Int32)), (.ref b2)] _
    refine st4 _ ?_
    show own_St p e below T4 m 50 #[vI (p1), vI (p2), vI (p3), vI (p4), vI (p5), vI ((2 : Int32)), vI (c0_), vI (c1_), vI (c2_), vI (c3_), vR (b2), .unset, .unset, .unset, .unset] [] _
    refine XS.iload X4.here hx rfl (hb hby at_50) rfl ?_
    refine XS.iconst X4.here hx rfl (hb hby at_52) ?_
    refine XS.icmpNo X4.here hx rfl (hb hby at_53) rfl (tlt (by decide : (1 : Int32) < (2 : Int32))).2.2.2 ?_
    refine XS.aload X4.here hx rfl (hb hby at_56) rfl rfl ?_
    refine XS.iconst X4.here hx rfl (hb hby at_58) ?_
    refine XS.iload X4.here hx rfl (hb hby at_59) rfl ?_
    show own_St p e below T4 m 61 #[vI (p1), vI (p2), vI (p3), vI (p4), vI (p5), vI ((2 : Int32)), vI (c0_), vI (c1_), vI (c2_), vI (c3_), vR (b2), .unset, .unset, .unset, .unset] [(.int c1_), (.int (1 : Int32)), (.ref b2)] _
    refine st7 _ ?_
    show own_St p e below T7 m 62 #[vI (p1), vI (p2), vI (p3), vI (p4), vI (p5), vI ((2 : Int32)), vI (c0_), vI (c1_), vI (c2_), vI (c3_), vR (b2), .unset, .unset, .unset, .unset] [] _
    refine XS.iload X7.here hx rfl (hb hby at_62) rfl ?_
    refine XS.iconst X7.here hx rfl (hb hby at_64) ?_
    refine XS.icmpYes X7.here hx rfl (pc0 := 65) (pc' := 74) rfl (hb hby at_65) rfl (flt (by decide : ¬ ((2 : Int32) < (2 : Int32)))).2.2.2 (by decide) (by decide) ?_
    refine XS.iload X7.here hx rfl (hb hby at_74) rfl ?_
    refine XS.iconst X7.here hx rfl (hb hby at_76) ?_
    refine XS.icmpYes X7.here hx rfl (pc0 := 77) (pc' := 86) rfl (hb hby at_77) rfl (flt (by decide : ¬ ((3 : Int32) < (2 : Int32)))).2.2.2 (by decide) (by decide) ?_
    show own_St p e below T7 m 86 #[vI (p1), vI (p2), vI (p3), vI (p4), vI (p5), vI ((2 : Int32)), vI (c0_), vI (c1_), vI (c2_), vI (c3_), vR (b2), .unset, .unset, .unset, .unset] [] _
    refine st9 _ ?_
    show own_St p e below T9 m 89 #[vI (p1), vI (p2), vI (p3), vI (p4), vI (p5), vI ((2 : Int32)), vI (c0_), vI (c1_), vI (c2_), vI (c3_), vR (b2), .unset, .unset, .unset, .unset] [(.ref b9)] _
    refine XS.dup X9.here hx rfl (hb hby at_89) rfl rfl ?_
    refine XS.aload X9.here hx rfl (hb hby at_90) rfl rfl ?_
    show own_St p e below T9 m 92 #[vI (p1), vI (p2), vI (p3), vI (p4), vI (p5), vI ((2 : Int32)), vI (c0_), vI (c1_), vI (c2_), vI (c3_), vR (b2), .unset, .unset, .unset, .unset] [(.ref b2), (.ref b9), (.ref b9)] _
    refine st12.trans ?_
    show own_St p e below T12 m 95 #[vI (p1), vI (p2), vI (p3), vI (p4), vI (p5), vI ((2 : Int32)), vI (c0_), vI (c1_), vI (c2_), vI (c3_), vR (b2), .unset, .unset, .unset, .unset] [(.ref b9)] _
    refine XS.astore X12.here hx rfl (hb hby at_95) rfl rfl (l' := #[vI (p1), vI (p2), vI (p3), vI (p4), vI (p5), vI ((2 : Int32)), vI (c0_), vI (c1_), vI (c2_), vI (c3_), vR (b2), vR (b9), .unset, .unset, .unset]) rfl ?_
    refine XS.iconst X12.here hx rfl (hb hby at_97) ?_
    show own_St p e below T12 m 98 #[vI (p1), vI (p2), vI (p3), vI (p4), vI (p5), vI ((2 : Int32)), vI (c0_), vI (c1_), vI (c2_), vI (c3_), vR (b2), vR (b9), .unset, .unset, .unset] [(.int (4 : Int32))] _
    refine st15 _ ?_
    show own_St p e below T15 m 100 #[vI (p1), vI (p2), vI (p3), vI (p4), vI (p5), vI ((2 : Int32)), vI (c0_), vI (c1_), vI (c2_), vI (c3_), vR (b2), vR (b9), .unset, .unset, .unset] [(.ref b15)] _
    refine XS.astore X15.here hx rfl (hb hby at_100) rfl rfl (l' := #[vI (p1), vI (p2), vI (p3), vI (p4), vI (p5), vI ((2 : Int32)), vI (c0_), vI (c1_), vI (c2_), vI (c3_), vR (b2), vR (b9), vR (b15), .unset, .unset]) rfl ?_
    refine XS.iconst X15.here hx rfl (hb hby at_102) ?_
    refine XS.istore X15.here hx rfl (hb hby at_103) rfl (l' := #[vI (p1), vI (p2), vI (p3), vI (p4), vI (p5), vI ((2 : Int32)), vI (c0_), vI (c1_), vI (c2_), vI (c3_), vR (b2), vR (b9), vR (b15), vI ((0 : Int32)), .unset]) rfl ?_
    refine XS.iload X15.here hx rfl (hb hby at_105) rfl ?_
    refine XS.ifNo X15.here hx rfl (hb hby at_107) rfl ((if0 _ _).trans (tlt (by decide : (0 : Int32) < (2 : Int32))).2.2.2) ?_
    refine XS.aload X15.here hx rfl (hb hby at_110) rfl rfl ?_
    refine XS.iload X15.here hx rfl (hb hby at_112) rfl ?_
    refine XS.iload X15.here hx rfl (hb hby at_114) rfl ?_
    show own_St p e below T15 m 116 #[vI (p1), vI (p2), vI (p3), vI (p4), vI (p5), vI ((2 : Int32)), vI (c0_), vI (c1_), vI (c2_), vI (c3_), vR (b2), vR (b9), vR (b15), vI ((0 : Int32)), .unset] [(.int c0_), (.int (0 : Int32)), (.ref b15)] _
    refine st19 _ ?_
    show own_St p e below T19 m 119 #[vI (p1), vI (p2), vI (p3), vI (p4), vI (p5), vI ((2 : Int32)), vI (c0_), vI (c1_), vI (c2_), vI (c3_), vR (b2), vR (b9), vR (b15), vI ((0 : Int32)), .unset] [(.int (own_pt [] c0_).length.toInt32)] _
    refine XS.istore X19.here hx rfl (hb hby at_119) rfl (l' := #[vI (p1), vI (p2), vI (p3), vI (p4), vI (p5), vI ((2 : Int32)), vI (c0_), vI (c1_), vI (c2_), vI (c3_), vR (b2), vR (b9), vR (b15), vI ((own_pt [] c0_).length.toInt32), .unset]) rfl ?_
    refine XS.iload X19.here hx rfl (hb hby at_121) rfl ?_
    refine XS.iconst X19.here hx rfl (hb hby at_123) ?_
    refine XS.icmpNo X19.here hx rfl (hb hby at_124) rfl (tlt (by decide : (1 : Int32) < (2 : Int32))).2.2.2 ?_
    refine XS.aload X19.here hx rfl (hb hby at_127) rfl rfl ?_
    refine XS.iload X19.here hx rfl (hb hby at_129) rfl ?_
    refine XS.iload X19.here hx rfl (hb hby at_131) rfl ?_
    show own_St p e below T19 m 133 #[vI (p1), vI (p2), vI (p3), vI (p4), vI (p5), vI ((2 : Int32)), vI (c0_), vI (c1_), vI (c2_), vI (c3_), vR (b2), vR (b9), vR (b15), vI ((own_pt [] c0_).length.toInt32), .unset] [(.int c1_), (.int (own_pt [] c0_).length.toInt32), (.ref b15)] _
    refine st22 _ ?_
    show own_St p e below T22 m 136 #[vI (p1), vI (p2), vI (p3), vI (p4), vI (p5), vI ((2 : Int32)), vI (c0_), vI (c1_), vI (c2_), vI (c3_), vR (b2), vR (b9), vR (b15), vI ((own_pt [] c0_).length.toInt32), .unset] [(.int (own_pt (own_pt [] c0_) c1_).length.toInt32)] _
    refine XS.istore X22.here hx rfl (hb hby at_136) rfl (l' := #[vI (p1), vI (p2), vI (p3), vI (p4), vI (p5), vI ((2 : Int32)), vI (c0_), vI (c1_), vI (c2_), vI (c3_), vR (b2), vR (b9), vR (b15), vI ((own_pt (own_pt [] c0_) c1_).length.toInt32), .unset]) rfl ?_
    refine XS.iload X22.here hx rfl (hb hby at_138) rfl ?_
    refine XS.iconst X22.here hx rfl (hb hby at_140) ?_
    refine XS.icmpYes X22.here hx rfl (pc0 := 141) (pc' := 155) rfl (hb hby at_141) rfl (flt (by decide : ¬ ((2 : Int32) < (2 : Int32)))).2.2.2 (by decide) (by decide) ?_
    refine XS.iload X22.here hx rfl (hb hby at_155) rfl ?_
    refine XS.iconst X22.here hx rfl (hb hby at_157) ?_
    refine XS.icmpYes X22.here hx rfl (pc0 := 158) (pc' := 172) rfl (hb hby at_158) rfl (flt (by decide : ¬ ((3 : Int32) < (2 : Int32)))).2.2.2 (by decide) (by decide) ?_
    refine XS.aload X22.here hx rfl (hb hby at_172) rfl rfl ?_
    show own_St p e below T22 m 174 #[vI (p1), vI (p2), vI (p3), vI (p4), vI (p5), vI ((2 : Int32)), vI (c0_), vI (c1_), vI (c2_), vI (c3_), vR (b2), vR (b9), vR (b15), vI ((own_pt (own_pt [] c0_) c1_).length.toInt32), .unset] [(.ref b9)] _
    refine st25 _ ?_
    show own_St p e below T25 m 177 #[vI (p1), vI (p2), vI (p3), vI (p4), vI (p5), vI ((2 : Int32)), vI (c0_), vI (c1_), vI (c2_), vI (c3_), vR (b2), vR (b9), vR (b15), vI ((own_pt (own_pt [] c0_) c1_).length.toInt32), .unset] [(.ref t25)] _
    refine XS.astore X25.here hx rfl (hb hby at_177) rfl rfl (l' := #[vI (p1), vI (p2), vI (p3), vI (p4), vI (p5), vI ((2 : Int32)), vI (c0_), vI (c1_), vI (c2_), vI (c3_), vR (b2), vR (b9), vR (b15), vI ((own_pt (own_pt [] c0_) c1_).length.toInt32), vR (t25)]) rfl ?_
    show own_St p e below T25 m 179 #[vI (p1), vI (p2), vI (p3), vI (p4), vI (p5), vI ((2 : Int32)), vI (c0_), vI (c1_), vI (c2_), vI (c3_), vR (b2), vR (b9), vR (b15), vI ((own_flt [c0_, c1_]).length.toInt32), vR (t25)] [] _
    refine XS.aload X25.here hx rfl (hb hby at_179) rfl rfl ?_
    refine XS.ifnullNo X25.here hx rfl (hb hby at_181) rfl ?_
    refine XS.aload X25.here hx rfl (hb hby at_184) rfl rfl ?_
    show own_St p e below T25 m 186 #[vI (p1), vI (p2), vI (p3), vI (p4), vI (p5), vI ((2 : Int32)), vI (c0_), vI (c1_), vI (c2_), vI (c3_), vR (b2), vR (b9), vR (b15), vI ((own_flt [c0_, c1_]).length.toInt32), vR (t25)] [(.ref t25)] _
    refine st29.trans ?_
    show own_St p e below T29 m 189 #[vI (p1), vI (p2), vI (p3), vI (p4), vI (p5), vI ((2 : Int32)), vI (c0_), vI (c1_), vI (c2_), vI (c3_), vR (b2), vR (b9), vR (b15), vI ((own_flt [c0_, c1_]).length.toInt32), vR (t25)] [(.int (own_flt [c0_, c1_]).length.toInt32)] _
    refine XS.iload X29.here hx rfl (hb hby at_189) rfl ?_
    refine XS.icmpYes X29.here hx rfl (pc0 := 191) (pc' := 196) rfl (hb hby at_191) rfl (teq (rfl : (own_flt [c0_, c1_]).length.toInt32 = (own_flt [c0_, c1_]).length.toInt32)).1 (by decide) (by decide) ?_
    show own_St p e below T29 m 196 #[vI (p1), vI (p2), vI (p3), vI (p4), vI (p5), vI ((2 : Int32)), vI (c0_), vI (c1_), vI (c2_), vI (c3_), vR (b2), vR (b9), vR (b15), vI ((own_flt [c0_, c1_]).length.toInt32), vR (t25)] [] _
    refine st30 _ ?_
    show own_St p e below T30 m 212 #[vI (p1), vI (p2), vI (p3), vI (p4), vI (p5), vI ((2 : Int32)), vI (c0_), vI (c1_), vI (c2_), vI (c3_), vR (b2), vR (b9), vR (b15), vI ((own_flt [c0_, c1_]).length.toInt32), vR (t25)] [] _
    refine st31 _ ?_
    show own_St p e below T31 m 269 #[vI (p1), vI (p2), vI (p3), vI (p4), vI (p5), vI ((2 : Int32)), vI (c0_), vI (c1_), vI (c2_), vI (c3_), vR (b2), vR (b9), vR (b15), vI ((own_flt [c0_, c1_]).length.toInt32), vR (t25)] [(.int (1 : Int32))] _
    exact retN X31 hx (t := .boolean) Bd.returns (by simp) (hb hby at_269) hr
  · show own_Qk (some (.int (1 : Int32))) [] h0 n0 _ T31.heap _
    rw [e31]
    exact ⟨rfl, N31, K25⟩
theorem r_law3 (l : Launch) (Z : State) (a0 : Array Value) (hw : own_HW a0 Z) (ws : List Jvm.Cond) (cs1 : Int32) (fv : Value) (h0 : Heap) (n0 : Nat) (O0 : Old Z n0 h0) (G : own_Ctx Z Z.heap cs1 fv) (p1 p2 p3 p4 p5 c0_ c1_ c2_ c3_ : Int32) (hl : (p1 &&& (2147483647 : Int32)) % (5 : Int32) = (3 : Int32)) (he0 : own_dr p2 = c0_) (hz0_ : ¬ (c0_ < (0 : Int32))) (hm0_ : ¬ ((65535 : Int32) < c0_)) (he1 : own_dr p3 = c1_) (hz1_ : ¬ (c1_ < (0 : Int32))) (hm1_ : ¬ ((65535 : Int32) < c1_)) (he2 : own_dr p4 = c2_) (hz2_ : ¬ (c2_ < (0 : Int32))) (hm2_ : ¬ ((65535 : Int32) < c2_)) (he3 : own_dr p5 = c3_) (hz3_ : ¬ (c3_ < (0 : Int32))) (hm3_ : ¬ ((65535 : Int32) < c3_)) :
    own_M l x (head1 (Jvm.Cond.code x code maxLocals ret :: ws) room_1) #[(.int p1), (.int p2), (.int p3), (.int p4), (.int p5)] Z h0 n0 (own_Qk (some (.int (1 : Int32))) []) 32 1216 := by
  have G0 := G
  refine MetFree.of_bodySF (plainFor_of_name pn_8) hisR ?_
  intro p e s m args below meth c s₁ Bd hml0 hP hK
  obtain ⟨rfl, hZ, hh⟩ := hP
  have hx := Bd.exec
  have hby := Bd.bytes
  have hml : c.maxLocals = 15 := hml0
  have hown := findClass_of_methodNamed Bd.named
  have X0 : Stand p l e room_1 s m #[(.int p1), (.int p2), (.int p3), (.int p4), (.int p5)] below meth c s₁ [] 0 0 := Stand.of_body Bd
  have e0 : s₁.heap = h0 := by rw [← hh, Bd.state]; rfl
  have N0 := Fr.nil n0
  have pre0 := own_pre (tb := p.tables) (e := e) (below := below) (T := s₁) (ef_0_64 m p1 p2 p3 p4 p5)
  obtain ⟨T1, h1, L1, X1, e1, N1, O1, q1h, st1⟩ := t_pre cs1 fv p1 p2 p3 p4 p5 (3 : Int32) c0_ c1_ c2_ c3_ 0 0 (by decide) (by decide) X0 hx hZ hw hby hml hown e0 N0 O0 G0 hl he0 he1 he2 he3
  obtain rfl : h0 = h1 := q1h.symm
  obtain ⟨T2, h2, ka2, X2, e2, E2, A2, st2⟩ := newP X1 hx hZ (own_w hw 5 rfl) e1 (g := (mkF m 35 #[vI (p1), vI (p2), vI (p3), vI (p4), vI (p5), vI ((3 : Int32)), vI (c0_), vI (c1_), vI (c2_), vI (c3_), .unset, .unset, .unset, .unset, .unset] [(.int (3 : Int32))])) rfl (hb hby at_35) rfl (by decide) (cap := 3) (by decide) (by decide) (by decide) (by decide)
  obtain ⟨b2, g2⟩ : ∃ z, z = h0.size := ⟨_, rfl⟩
  have g_b2 : n0 ≤ b2 := Nat.le_trans (O1.1 ▸ O1.2.1) (Nat.le_of_eq g2.symm)
  have sz_b2 : h0.size ≤ b2 := Nat.le_trans (Keep.refl h0 []).1 (Nat.le_of_eq g2.symm)
  rw [← g2] at A2 st2
  have O2 := O1.ext E2
  have K2 : Keep h0 h2 [] := (Keep.refl h0 []).ext E2
  have V2 : Arv Z h2 b2 ka2 .char (3 : Int32) [(.int (0 : Int32)), (.int (0 : Int32)), (.int (0 : Int32))] (.int (0 : Int32)) := (Arv.new A2 (by decide)).pad (pad_rep [] (.int (0 : Int32)) 3)
  have vc3 := V2
  obtain ⟨cl3, Ar3, qk3, S3, Nn3, Hs3, Gf3⟩ := vc3
  have hin3 : ¬ ((0 : Int32) < 0 ∨ cl3.slots.size ≤ ((0 : Int32)).toNatClampNeg) := inb_of S3 ⟨by decide, by decide⟩
  obtain ⟨T4, h4, X4, e4, W4, st4⟩ := stC X2 hx hZ e2 Ar3 (j := (0 : Int32)) hin3 (g := (mkF m 49 #[vI (p1), vI (p2), vI (p3), vI (p4), vI (p5), vI ((3 : Int32)), vI (c0_), vI (c1_), vI (c2_), vI (c3_), vR (b2), .unset, .unset, .unset, .unset] [(.int c0_), (.int (0 : Int32)), (.ref b2)])) rfl rfl (hb hby at_49)
  have O4 := O2.wr W4 g_b2
  have K4 : Keep h0 h4 [] := K2.wr W4 (Or.inr sz_b2)
  have N4 := Fr.snoc X4 N1 g_b2
  have f5 : Arv Z h4 b2 ka2 .char (3 : Int32) [(.int (nar .char c0_)), (.int (0 : Int32)), (.int (0 : Int32))] (.int (0 : Int32)) := Arv.set Ar3 qk3 S3 Nn3 Hs3 Gf3 (fits_nar_char _) W4 0 rfl (Nat.le_of_ble_eq_true rfl)
  have vc6 := f5
  obtain ⟨cl6, Ar6, qk6, S6, Nn6, Hs6, Gf6⟩ := vc6
  have hin6 : ¬ ((1 : Int32) < 0 ∨ cl6.slots.size ≤ ((1 : Int32)).toNatClampNeg) := inb_of S6 ⟨by decide, by decide⟩
  obtain ⟨T7, h7, X7, e7, W7, st7⟩ := stC X4 hx hZ e4 Ar6 (j := (1 : Int32)) hin6 (g := (mkF m 61 #[vI (p1), vI (p2), vI (p3), vI (p4), vI (p5), vI ((3 : Int32)), vI (c0_), vI (c1_), vI (c2_), vI (c3_), vR (b2), .unset, .unset, .unset, .unset] [(.int c1_), (.int (1 : Int32)), (.ref b2)])) rfl rfl (hb hby at_61)
  have O7 := O4.wr W7 g_b2
  have K7 : Keep h0 h7 [] := K4.wr W7 (Or.inr sz_b2)
  have N7 := Fr.snoc X7 N4 g_b2
  have f8 : Arv Z h7 b2 ka2 .char (3 : Int32) [(.int (nar .char c0_)), (.int (nar .char c1_)), (.int (0 : Int32))] (.int (0 : Int32)) := Arv.set Ar6 qk6 S6 Nn6 Hs6 Gf6 (fits_nar_char _) W7 1 rfl (Nat.le_of_ble_eq_true rfl)
  have vc9 := f8
  obtain ⟨cl9, Ar9, qk9, S9, Nn9, Hs9, Gf9⟩ := vc9
  have hin9 : ¬ ((2 : Int32) < 0 ∨ cl9.slots.size ≤ ((2 : Int32)).toNatClampNeg) := inb_of S9 ⟨by decide, by decide⟩
  obtain ⟨T10, h10, X10, e10, W10, st10⟩ := stC X7 hx hZ e7 Ar9 (j := (2 : Int32)) hin9 (g := (mkF m 73 #[vI (p1), vI (p2), vI (p3), vI (p4), vI (p5), vI ((3 : Int32)), vI (c0_), vI (c1_), vI (c2_), vI (c3_), vR (b2), .unset, .unset, .unset, .unset] [(.int c2_), (.int (2 : Int32)), (.ref b2)])) rfl rfl (hb hby at_73)
  have O10 := O7.wr W10 g_b2
  have K10 : Keep h0 h10 [] := K7.wr W10 (Or.inr sz_b2)
  have N10 := Fr.snoc X10 N7 g_b2
  have f11 : Arv Z h10 b2 ka2 .char (3 : Int32) [(.int (nar .char c0_)), (.int (nar .char c1_)), (.int (nar .char c2_))] (.int (0 : Int32)) := Arv.set Ar9 qk9 S9 Nn9 Hs9 Gf9 (fits_nar_char _) W10 2 rfl (Nat.le_of_ble_eq_true rfl)
  have hn_ : [c0_, c1_, c2_].length ≤ 4 := Nat.le_of_ble_eq_true rfl
  have hB_ : own_Bd [c0_, c1_, c2_] := own_all3 (P := fun z => ¬ (z < (0 : Int32)) ∧ ¬ ((65535 : Int32) < z)) ⟨hz0_, hm0_⟩ ⟨hz1_, hm1_⟩ ⟨hz2_, hm2_⟩
  have hf_ : (own_flt [c0_, c1_, c2_]).length ≤ 4 := Nat.le_trans (own_fold_len [c0_, c1_, c2_] []).1 (by rw [List.length_nil, Nat.zero_add]; exact hn_)
  have h1_ : 1 ≤ [c0_, c1_, c2_].length := Nat.le_of_ble_eq_true rfl
  have V86 : Arv Z h10 b2 ka2 .char [c0_, c1_, c2_].length.toInt32 ([c0_, c1_, c2_].map Value.int) (.int (0 : Int32)) := by
    have q := f11
    rw [own_nc hz0_ hm0_, own_nc hz1_ hm1_, own_nc hz2_ hm2_] at q
    exact q
  obtain ⟨T12, h12, X12, e12, E12, A12, D12, -, st12⟩ := newO X10 hx hZ hown (own_w hw 6 rfl) (own_w hw 7 rfl) (own_w hw 8 rfl) e10 (g := (mkF m 86 #[vI (p1), vI (p2), vI (p3), vI (p4), vI (p5), vI ((3 : Int32)), vI (c0_), vI (c1_), vI (c2_), vI (c3_), vR (b2), .unset, .unset, .unset, .unset] [])) rfl (hb hby at_86) (by decide) (by decide)
  obtain ⟨b12, g12⟩ : ∃ z, z = h10.size := ⟨_, rfl⟩
  have ne_b2_b12 : b2 ≠ b12 := Nat.ne_of_lt (Nat.lt_of_lt_of_le V86.lt (Nat.le_of_eq g12.symm))
  have g_b12 : n0 ≤ b12 := Nat.le_trans (O10.1 ▸ O10.2.1) (Nat.le_of_eq g12.symm)
  have sz_b12 : h0.size ≤ b12 := Nat.le_trans K10.1 (Nat.le_of_eq g12.symm)
  rw [← g12] at A12 D12 st12
  have f13 := V86.ext E12
  have O12 := O10.ext E12
  have K12 : Keep h0 h12 [] := K10.ext E12
  have F12_21 : Fld Z h12 b12 "java/lang/String" "value" "[B" .null := D12 (Or.inr (own_w hw 21 rfl)) (ty := (.array .byte)) (by decide)
  have F12_22 : Fld Z h12 b12 "java/lang/String" "coder" "B" (.int (0 : Int32)) := D12 (Or.inr (own_w hw 22 rfl)) (ty := .byte) (by decide)
  obtain ⟨LL14, X14, N14⟩ : ∃ LL, Stand p l e room_1 s m #[(.int p1), (.int p2), (.int p3), (.int p4), (.int p5)] below meth c T12 LL 2 7 ∧ Fr n0 LL := ⟨_, X12, N10⟩
  obtain ⟨_, _, ⟨T15, L15, k15, n15⟩, -, X15, ⟨Lc15, hQ15, l15, y15, z15⟩, st15⟩ := X14.specialBack hx (y := Y15_) rfl hown (mvT hZ (own_w hw 9 rfl)) (mvT hZ (own_w hw 10 rfl)) (mvT hZ (own_w hw 11 rfl)) (by decide) (backOf (W := 1) (r_new l Z a0 hw [] cs1 fv h12 n0 O12 G0 b12 b2 ka2 [c0_, c1_, c2_] A12 g_b12 F12_22 F12_21 f13 ne_b2_b12 hn_ h1_ hB_) hZ (own_w hw 11 rfl) (own_w hw 8 rfl) (by decide) (by decide)) (g := (mkF m 92 #[vI (p1), vI (p2), vI (p3), vI (p4), vI (p5), vI ((3 : Int32)), vI (c0_), vI (c1_), vI (c2_), vI (c3_), vR (b2), .unset, .unset, .unset, .unset] [(.ref b2), (.ref b12), (.ref b12)])) rfl (by rw [hml]; rfl) (Steps.refl _) (a := b12) (argsL := [(.ref b2)]) (rest := [(.ref b12)]) (lenOf pd_35 rfl) rfl (by show 2 * 0 + _ ≤ _; exact Nat.le_of_eq rfl) (hb hby at_92) (fun _ _ => ⟨rfl, e12, (by decide : 2 + 2 ≤ _), (by decide : 7 + 12 ≤ _)⟩)
  dsimp only [Pt.U, Pt.locs, Pt.cells, Pt.slots] at X15 l15 y15 z15 st15 hQ15
  subst l15 y15 z15
  obtain ⟨rfl, N15q, Kq15, Sq15⟩ := hQ15
  have N15 := Fr.app N14 N15q
  have f16 := f13.keep Kq15 (fun q => (List.mem_cons.mp q).elim ne_b2_b12 (fun q => nomatch q))
  have f17 := A12.keep Kq15
  have O15 := O12.keep Kq15 (allS g_b12 all0)
  have K15 : Keep h0 T15.heap [] := K12.trans Kq15 (allS (Or.inr sz_b12) all0)
  obtain ⟨T18, h18, ka18, X18, e18, E18, A18, st18⟩ := newP X15 hx hZ (own_w hw 5 rfl) rfl (g := (mkF m 98 #[vI (p1), vI (p2), vI (p3), vI (p4), vI (p5), vI ((3 : Int32)), vI (c0_), vI (c1_), vI (c2_), vI (c3_), vR (b2), vR (b12), .unset, .unset, .unset] [(.int (4 : Int32))])) rfl (hb hby at_98) rfl (by decide) (cap := 4) (by decide) (by decide) (by decide) (by decide)
  obtain ⟨b18, g18⟩ : ∃ z, z = T15.heap.size := ⟨_, rfl⟩
  have ne_b2_b18 : b2 ≠ b18 := Nat.ne_of_lt (Nat.lt_of_lt_of_le f16.lt (Nat.le_of_eq g18.symm))
  have ne_b12_b18 : b12 ≠ b18 := Nat.ne_of_lt (Nat.lt_of_lt_of_le f17.lt (Nat.le_of_eq g18.symm))
  have g_b18 : n0 ≤ b18 := Nat.le_trans (O15.1 ▸ O15.2.1) (Nat.le_of_eq g18.symm)
  have sz_b18 : h0.size ≤ b18 := Nat.le_trans K15.1 (Nat.le_of_eq g18.symm)
  rw [← g18] at A18 st18
  have f19 := f16.ext E18
  have f20 := f17.ext E18
  have O18 := O15.ext E18
  have K18 : Keep h0 h18 [] := K15.ext E18
  have f21 := own_Str_ext E18 Sq15
  have V18 : Arv Z h18 b18 ka18 .char (4 : Int32) [(.int (0 : Int32)), (.int (0 : Int32)), (.int (0 : Int32)), (.int (0 : Int32))] (.int (0 : Int32)) := (Arv.new A18 (by decide)).pad (pad_rep [] (.int (0 : Int32)) 4)
  have V102 : Arv Z h18 b18 ka18 .char (4 : Int32) (([] : List Int32).map Value.int) (.int (0 : Int32)) := V18.pad (fun i => (pad_rep [] (.int (0 : Int32)) 4 i).symm)
  obtain ⟨_, _, ⟨T22, L22, k22, n22⟩, -, X22, ⟨Lc22, hQ22, l22, y22, z22⟩, st22⟩ := Jvm.LawKit.callS X18 hx (y := Y59_) hown (mvT hZ (own_w hw 85 rfl)) (mvT hZ (own_w hw 86 rfl)) (mvT hZ (own_w hw 3 rfl)) (mvT hZ (own_w hw 87 rfl)) (by decide) (backOf (W := 0) (r_pt l Z a0 hw [] cs1 fv h18 n0 O18 G0 b18 ka18 [] c0_ V102 g_b18 (by have := (own_fold_len [] []).1; exact Nat.lt_of_le_of_lt this (Nat.le_of_ble_eq_true rfl)) hz0_ hm0_) hZ (own_w hw 87 rfl) (own_w hw 3 rfl) (by decide) (by decide)) (g := (mkF m 116 #[vI (p1), vI (p2), vI (p3), vI (p4), vI (p5), vI ((3 : Int32)), vI (c0_), vI (c1_), vI (c2_), vI (c3_), vR (b2), vR (b12), vR (b18), vI ((0 : Int32)), .unset] [(.int c0_), (.int (0 : Int32)), (.ref b18)])) rfl (by rw [hml]; rfl) (argsL := [(.ref b18), (.int (0 : Int32)), (.int c0_)]) (rest := []) (lenOf pd_37 rfl) rfl (by show 2 * 0 + _ ≤ _; exact Nat.le_of_eq rfl) (hb hby at_116) (fun _ _ => ⟨rfl, e18, (by decide : 5 + 0 ≤ _), (by decide : 23 + 0 ≤ _)⟩)
  dsimp only [Pt.U, Pt.locs, Pt.cells, Pt.slots] at X22 l22 y22 z22 st22 hQ22
  subst l22 y22 z22
  have Kb22 : Keep T15.heap T22.heap [] := (Keep.ext (Keep.refl T15.heap []) E18).trans hQ22.2.2.1 (allS (Or.inr (Nat.le_of_eq g18.symm)) all0)
  obtain ⟨rfl, N22q, Kq22, Ve22⟩ := hQ22
  have N22 := Fr.app N15 N22q
  have f23 := f19.keep Kq22 (fun q => (List.mem_cons.mp q).elim ne_b2_b18 (fun q => nomatch q))
  have f24 := f20.keep Kq22
  have O22 := O18.keep Kq22 (allS g_b18 all0)
  have K22 : Keep h0 T22.heap [] := K18.trans Kq22 (allS (Or.inr sz_b18) all0)
  obtain ⟨_, _, ⟨T25, L25, k25, n25⟩, -, X25, ⟨Lc25, hQ25, l25, y25, z25⟩, st25⟩ := Jvm.LawKit.callS X22 hx (y := Y59_) hown (mvT hZ (own_w hw 85 rfl)) (mvT hZ (own_w hw 86 rfl)) (mvT hZ (own_w hw 3 rfl)) (mvT hZ (own_w hw 87 rfl)) (by decide) (backOf (W := 0) (r_pt l Z a0 hw [] cs1 fv T22.heap n0 O22 G0 b18 ka18 (own_pt [] c0_) c1_ Ve22 g_b18 (by have := (own_fold_len [c0_] []).1; exact Nat.lt_of_le_of_lt this (Nat.le_of_ble_eq_true rfl)) hz1_ hm1_) hZ (own_w hw 87 rfl) (own_w hw 3 rfl) (by decide) (by decide)) (g := (mkF m 133 #[vI (p1), vI (p2), vI (p3), vI (p4), vI (p5), vI ((3 : Int32)), vI (c0_), vI (c1_), vI (c2_), vI (c3_), vR (b2), vR (b12), vR (b18), vI ((own_pt [] c0_).length.toInt32), .unset] [(.int c1_), (.int (own_pt [] c0_).length.toInt32), (.ref b18)])) rfl (by rw [hml]; rfl) (argsL := [(.ref b18), (.int (own_pt [] c0_).length.toInt32), (.int c1_)]) (rest := []) (lenOf pd_37 rfl) rfl (by show 2 * 0 + _ ≤ _; exact Nat.le_of_eq rfl) (hb hby at_133) (fun _ _ => ⟨rfl, rfl, (by decide : 5 + 0 ≤ _), (by decide : 23 + 0 ≤ _)⟩)
  dsimp only [Pt.U, Pt.locs, Pt.cells, Pt.slots] at X25 l25 y25 z25 st25 hQ25
  subst l25 y25 z25
  have Kb25 : Keep T15.heap T25.heap [] := Kb22.trans hQ25.2.2.1 (allS (Or.inr (Nat.le_of_eq g18.symm)) all0)
  obtain ⟨rfl, N25q, Kq25, Ve25⟩ := hQ25
  have N25 := Fr.app N22 N25q
  have f26 := f23.keep Kq25 (fun q => (List.mem_cons.mp q).elim ne_b2_b18 (fun q => nomatch q))
  have f27 := f24.keep Kq25
  have O25 := O22.keep Kq25 (allS g_b18 all0)
  have K25 : Keep h0 T25.heap [] := K22.trans Kq25 (allS (Or.inr sz_b18) all0)
  obtain ⟨_, _, ⟨T28, L28, k28, n28⟩, -, X28, ⟨Lc28, hQ28, l28, y28, z28⟩, st28⟩ := Jvm.LawKit.callS X25 hx (y := Y59_) hown (mvT hZ (own_w hw 85 rfl)) (mvT hZ (own_w hw 86 rfl)) (mvT hZ (own_w hw 3 rfl)) (mvT hZ (own_w hw 87 rfl)) (by decide) (backOf (W := 0) (r_pt l Z a0 hw [] cs1 fv T25.heap n0 O25 G0 b18 ka18 (own_pt (own_pt [] c0_) c1_) c2_ Ve25 g_b18 (by have := (own_fold_len [c0_, c1_] []).1; exact Nat.lt_of_le_of_lt this (Nat.le_of_ble_eq_true rfl)) hz2_ hm2_) hZ (own_w hw 87 rfl) (own_w hw 3 rfl) (by decide) (by decide)) (g := (mkF m 150 #[vI (p1), vI (p2), vI (p3), vI (p4), vI (p5), vI ((3 : Int32)), vI (c0_), vI (c1_), vI (c2_), vI (c3_), vR (b2), vR (b12), vR (b18), vI ((own_pt (own_pt [] c0_) c1_).length.toInt32), .unset] [(.int c2_), (.int (own_pt (own_pt [] c0_) c1_).length.toInt32), (.ref b18)])) rfl (by rw [hml]; rfl) (argsL := [(.ref b18), (.int (own_pt (own_pt [] c0_) c1_).length.toInt32), (.int c2_)]) (rest := []) (lenOf pd_37 rfl) rfl (by show 2 * 0 + _ ≤ _; exact Nat.le_of_eq rfl) (hb hby at_150) (fun _ _ => ⟨rfl, rfl, (by decide : 5 + 0 ≤ _), (by decide : 23 + 0 ≤ _)⟩)
  dsimp only [Pt.U, Pt.locs, Pt.cells, Pt.slots] at X28 l28 y28 z28 st28 hQ28
  subst l28 y28 z28
  have Kb28 : Keep T15.heap T28.heap [] := Kb25.trans hQ28.2.2.1 (allS (Or.inr (Nat.le_of_eq g18.symm)) all0)
  obtain ⟨rfl, N28q, Kq28, Ve28⟩ := hQ28
  have N28 := Fr.app N25 N28q
  have f29 := f26.keep Kq28 (fun q => (List.mem_cons.mp q).elim ne_b2_b18 (fun q => nomatch q))
  have f30 := f27.keep Kq28
  have O28 := O25.keep Kq28 (allS g_b18 all0)
  have K28 : Keep h0 T28.heap [] := K25.trans Kq28 (allS (Or.inr sz_b18) all0)
  obtain ⟨_, _, ⟨T31, L31, k31, n31⟩, -, X31, ⟨Lc31, hQ31, l31, y31, z31⟩, st31⟩ := Jvm.LawKit.callS X28 hx (y := Y56_) hown (mvT hZ (own_w hw 27 rfl)) (mvT hZ (own_w hw 28 rfl)) (mvT hZ (own_w hw 29 rfl)) (mvT hZ (own_w hw 30 rfl)) (by decide) (backOf (W := 0) (r_rm l Z a0 hw [] cs1 fv T28.heap n0 O28 G0 b12 [c0_, c1_, c2_] (own_Str_keep Kb28 Sq15) hn_ hB_) hZ (own_w hw 30 rfl) (own_w hw 29 rfl) (by decide) (by decide)) (g := (mkF m 174 #[vI (p1), vI (p2), vI (p3), vI (p4), vI (p5), vI ((3 : Int32)), vI (c0_), vI (c1_), vI (c2_), vI (c3_), vR (b2), vR (b12), vR (b18), vI ((own_pt (own_pt (own_pt [] c0_) c1_) c2_).length.toInt32), .unset] [(.ref b12)])) rfl (by rw [hml]; rfl) (argsL := [(.ref b12)]) (rest := []) (lenOf pd_36 rfl) rfl (by show 2 * 0 + _ ≤ _; exact Nat.le_of_eq rfl) (hb hby at_174) (fun _ _ => ⟨rfl, rfl, (by decide : 5 + 8 ≤ _), (by decide : 23 + 52 ≤ _)⟩)
  dsimp only [Pt.U, Pt.locs, Pt.cells, Pt.slots] at X31 l31 y31 z31 st31 hQ31
  subst l31 y31 z31
  obtain ⟨t31, rfl, N31q, Kq31, So31, hs31⟩ := hQ31
  have N31 := Fr.app N28 N31q
  have f32 := f29.keep Kq31 (fun q => nomatch q)
  have f33 := f30.keep Kq31
  have f34 := Ve28.keep Kq31 (fun q => nomatch q)
  have O31 := O28.keep Kq31 all0
  have K31 : Keep h0 T31.heap [] := K28.trans Kq31 all0
  have V179 : Arv Z T31.heap b18 ka18 .char (4 : Int32) ((own_flt [c0_, c1_, c2_]).map Value.int) (.int (0 : Int32)) := f34
  obtain ⟨cq35, kq35, q35a, q35b, q35c⟩ := isOf hZ rfl (own_Str_exa So31)
  obtain ⟨_, _, ⟨T35, L35, k35, n35⟩, -, X35, ⟨Lc35, hQ35, l35, y35, z35⟩, st35⟩ := X31.virtualBack hx (y := Y18_) (z := Y18_) hown (mvT hZ (own_w hw 71 rfl)) (mvT hZ (own_w hw 48 rfl)) (notFace_of_selects (args := #[]) (mvT hZ (own_w hw 50 rfl))) (mvT hZ (own_w hw 50 rfl)) (mvT hZ (own_w hw 49 rfl)) (by decide) (backOf (W := 0) (r_len l Z a0 hw [] cs1 fv T31.heap n0 O31 G0 t31 (own_flt [c0_, c1_, c2_]) So31 hf_) hZ (own_w hw 51 rfl) (own_w hw 8 rfl) (by decide) (by decide)) q35a q35c (g := (mkF m 186 #[vI (p1), vI (p2), vI (p3), vI (p4), vI (p5), vI ((3 : Int32)), vI (c0_), vI (c1_), vI (c2_), vI (c3_), vR (b2), vR (b12), vR (b18), vI ((own_flt [c0_, c1_, c2_]).length.toInt32), vR (t31)] [(.ref t31)])) rfl (by rw [hml]; rfl) (Steps.refl _) (argsL := []) (rest := []) (lenOf pd_21 rfl) rfl (by show 2 * 0 + _ ≤ _; exact Nat.le_of_eq rfl) (hb hby at_186) (fun _ _ => ⟨rfl, rfl, (by decide : 13 + 0 ≤ _), (by decide : 75 + 0 ≤ _)⟩)
  dsimp only [Pt.U, Pt.locs, Pt.cells, Pt.slots] at X35 l35 y35 z35 st35 hQ35
  subst l35 y35 z35
  obtain ⟨rfl, N35q, e35⟩ := hQ35
  have N35 := Fr.app N31 N35q
  obtain ⟨T36, X36, e36, st36⟩ := own_mn cs1 fv p1 p2 p3 p4 p5 (3 : Int32) c0_ c1_ c2_ c3_ b2 b12 b18 t31 [c0_, c1_, c2_] X35 hx hZ hw hby hml hown e35 O31 G0 hs31 hn_ hf_ rfl
  obtain ⟨T37, h37, L37, X37, e37, N37, O37, q37h, st37⟩ := t_suf cs1 fv p1 p2 p3 p4 p5 (3 : Int32) c0_ c1_ c2_ c3_ b2 b12 b18 t31 ka18 (own_flt [c0_, c1_, c2_]) 13 75 (by decide) (by decide) X36 hx hZ hw hby hml hown e36 N35 O31 G0 So31 V179 hf_ (own_Bd_flt hB_)
  obtain rfl : T31.heap = h37 := q37h.symm
  obtain ⟨fs, hr, hrun, hended, hW, hsame⟩ := X37.leave (v := some (.int (1 : Int32))) (fun h => by rw [Bd.returns] at h; cases h)
  refine ⟨_, _, pre0 _ ?_, hrun, hended, _, _, rfl, ?_, ⟨_, rfl⟩, hW, hsame.mono (by decide) (by decide)⟩
  · show own_St p e below s₁ m 0 #[vI (p1), vI (p2), vI (p3), vI (p4), vI (p5), .unset, .unset, .unset, .unset, .unset, .unset, .unset, .unset, .unset, .unset] [] _
    refine st1 _ ?_
    show own_St p e below T1 m 33 #[vI (p1), vI (p2), vI (p3), vI (p4), vI (p5), vI ((3 : Int32)), vI (c0_), vI (c1_), vI (c2_), vI (c3_), .unset, .unset, .unset, .unset, .unset] [] _
    refine XS.iload X1.here hx rfl (hb hby at_33) rfl ?_
    show own_St p e below T1 m 35 #[vI (p1), vI (p2), vI (p3), vI (p4), vI (p5), vI ((3 : Int32)), vI (c0_), vI (c1_), vI (c2_), vI (c3_), .unset, .unset, .unset, .unset, .unset] [(.int (3 : Int32))] _
    refine st2 _ ?_
    show own_St p e below T2 m 37 #[vI (p1), vI (p2), vI (p3), vI (p4), vI (p5), vI ((3 : Int32)), vI (c0_), vI (c1_), vI (c2_), vI (c3_), .unset, .unset, .unset, .unset, .unset] [(.ref b2)] _
    refine XS.astore X2.here hx rfl (hb hby at_37) rfl rfl (l' := #[vI (p1), vI (p2), vI (p3), vI (p4), vI (p5), vI ((3 : Int32)), vI (c0_), vI (c1_), vI (c2_), vI (c3_), vR (b2), .unset, .unset, .unset, .unset]) rfl ?_
    refine XS.iload X2.here hx rfl (hb hby at_39) rfl ?_
    refine XS.ifNo X2.here hx rfl (hb hby at_41) rfl ((if0 _ _).trans (tlt (by decide : (0 : Int32) < (3 : Int32))).2.2.2) ?_
    refine XS.aload X2.here hx rfl (hb hby at_44) rfl rfl ?_
    refine XS.iconst X2.here hx rfl (hb hby at_46) ?_
    refine XS.iload X2.here hx rfl (hb hby at_47) rfl ?_
    show own_St p e below T2 m 49 #[vI (p1), vI (p2), vI (p3), vI (p4), vI (p5), vI ((3 : Int32)), vI (c0_), vI (c1_), vI (c2_), vI (c3_), vR (b2), .unset, .unset, .unset, .unset] [(.int c0_), (.int (0 : Int32)), (.ref b2)] _
    refine st4 _ ?_
    show own_St p e below T4 m 50 #[vI (p1), vI (p2), vI (p3), vI (p4), vI (p5), vI ((3 : Int32)), vI (c0_), vI (c1_), vI (c2_), vI (c3_), vR (b2), .unset, .unset, .unset, .unset] [] _
    refine XS.iload X4.here hx rfl (hb hby at_50) rfl ?_
    refine XS.iconst X4.here hx rfl (hb hby at_52) ?_
    refine XS.icmpNo X4.here hx rfl (hb hby at_53) rfl (tlt (by decide : (1 : Int32) < (3 : Int32))).2.2.2 ?_
    refine XS.aload X4.here hx rfl (hb hby at_56) rfl rfl ?_
    refine XS.iconst X4.here hx rfl (hb hby at_58) ?_
    refine XS.iload X4.here hx rfl (hb hby at_59) rfl ?_
    show own_St p e below T4 m 61 #[vI (p1), vI (p2), vI (p3), vI (p4), vI (p5), vI ((3 : Int32)), vI (c0_), vI (c1_), vI (c2_), vI (c3_), vR (b2), .unset, .unset, .unset, .unset] [(.int c1_), (.int (1 : Int32)), (.ref b2)] _
    refine st7 _ ?_
    show own_St p e below T7 m 62 #[vI (p1), vI (p2), vI (p3), vI (p4), vI (p5), vI ((3 : Int32)), vI (c0_), vI (c1_), vI (c2_), vI (c3_), vR (b2), .unset, .unset, .unset, .unset] [] _
    refine XS.iload X7.here hx rfl (hb hby at_62) rfl ?_
    refine XS.iconst X7.here hx rfl (hb hby at_64) ?_
    refine XS.icmpNo X7.here hx rfl (hb hby at_65) rfl (tlt (by decide : (2 : Int32) < (3 : Int32))).2.2.2 ?_
    refine XS.aload X7.here hx rfl (hb hby at_68) rfl rfl ?_
    refine XS.iconst X7.here hx rfl (hb hby at_70) ?_
    refine XS.iload X7.here hx rfl (hb hby at_71) rfl ?_
    show own_St p e below T7 m 73 #[vI (p1), vI (p2), vI (p3), vI (p4), vI (p5), vI ((3 : Int32)), vI (c0_), vI (c1_), vI (c2_), vI (c3_), vR (b2), .unset, .unset, .unset, .unset] [(.int c2_), (.int (2 : Int32)), (.ref b2)] _
    refine st10 _ ?_
    show own_St p e below T10 m 74 #[vI (p1), vI (p2), vI (p3), vI (p4), vI (p5), vI ((3 : Int32)), vI (c0_), vI (c1_), vI (c2_), vI (c3_), vR (b2), .unset, .unset, .unset, .unset] [] _
    refine XS.iload X10.here hx rfl (hb hby at_74) rfl ?_
    refine XS.iconst X10.here hx rfl (hb hby at_76) ?_
    refine XS.icmpYes X10.here hx rfl (pc0 := 77) (pc' := 86) rfl (hb hby at_77) rfl (flt (by decide : ¬ ((3 : Int32) < (3 : Int32)))).2.2.2 (by decide) (by decide) ?_
    show own_St p e below T10 m 86 #[vI (p1), vI (p2), vI (p3), vI (p4), vI (p5), vI ((3 : Int32)), vI (c0_), vI (c1_), vI (c2_), vI (c3_), vR (b2), .unset, .unset, .unset, .unset] [] _
    refine st12 _ ?_
    show own_St p e below T12 m 89 #[vI (p1), vI (p2), vI (p3), vI (p4), vI (p5), vI ((3 : Int32)), vI (c0_), vI (c1_), vI (c2_), vI (c3_), vR (b2), .unset, .unset, .unset, .unset] [(.ref b12)] _
    refine XS.dup X12.here hx rfl (hb hby at_89) rfl rfl ?_
    refine XS.aload X12.here hx rfl (hb hby at_90) rfl rfl ?_
    show own_St p e below T12 m 92 #[vI (p1), vI (p2), vI (p3), vI (p4), vI (p5), vI ((3 : Int32)), vI (c0_), vI (c1_), vI (c2_), vI (c3_), vR (b2), .unset, .unset, .unset, .unset] [(.ref b2), (.ref b12), (.ref b12)] _
    refine st15.trans ?_
    show own_St p e below T15 m 95 #[vI (p1), vI (p2), vI (p3), vI (p4), vI (p5), vI ((3 : Int32)), vI (c0_), vI (c1_), vI (c2_), vI (c3_), vR (b2), .unset, .unset, .unset, .unset] [(.ref b12)] _
    refine XS.astore X15.here hx rfl (hb hby at_95) rfl rfl (l' := #[vI (p1), vI (p2), vI (p3), vI (p4), vI (p5), vI ((3 : Int32)), vI (c0_), vI (c1_), vI (c2_), vI (c3_), vR (b2), vR (b12), .unset, .unset, .unset]) rfl ?_
    refine XS.iconst X15.here hx rfl (hb hby at_97) ?_
    show own_St p e below T15 m 98 #[vI (p1), vI (p2), vI (p3), vI (p4), vI (p5), vI ((3 : Int32)), vI (c0_), vI (c1_), vI (c2_), vI (c3_), vR (b2), vR (b12), .unset, .unset, .unset] [(.int (4 : Int32))] _
    refine st18 _ ?_
    show own_St p e below T18 m 100 #[vI (p1), vI (p2), vI (p3), vI (p4), vI (p5), vI ((3 : Int32)), vI (c0_), vI (c1_), vI (c2_), vI (c3_), vR (b2), vR (b12), .unset, .unset, .unset] [(.ref b18)] _
    refine XS.astore X18.here hx rfl (hb hby at_100) rfl rfl (l' := #[vI (p1), vI (p2), vI (p3), vI (p4), vI (p5), vI ((3 : Int32)), vI (c0_), vI (c1_), vI (c2_), vI (c3_), vR (b2), vR (b12), vR (b18), .unset, .unset]) rfl ?_
    refine XS.iconst X18.here hx rfl (hb hby at_102) ?_
    refine XS.istore X18.here hx rfl (hb hby at_103) rfl (l' := #[vI (p1), vI (p2), vI (p3), vI (p4), vI (p5), vI ((3 : Int32)), vI (c0_), vI (c1_), vI (c2_), vI (c3_), vR (b2), vR (b12), vR (b18), vI ((0 : Int32)), .unset]) rfl ?_
    refine XS.iload X18.here hx rfl (hb hby at_105) rfl ?_
    refine XS.ifNo X18.here hx rfl (hb hby at_107) rfl ((if0 _ _).trans (tlt (by decide : (0 : Int32) < (3 : Int32))).2.2.2) ?_
    refine XS.aload X18.here hx rfl (hb hby at_110) rfl rfl ?_
    refine XS.iload X18.here hx rfl (hb hby at_112) rfl ?_
    refine XS.iload X18.here hx rfl (hb hby at_114) rfl ?_
    show own_St p e below T18 m 116 #[vI (p1), vI (p2), vI (p3), vI (p4), vI (p5), vI ((3 : Int32)), vI (c0_), vI (c1_), vI (c2_), vI (c3_), vR (b2), vR (b12), vR (b18), vI ((0 : Int32)), .unset] [(.int c0_), (.int (0 : Int32)), (.ref b18)] _
    refine st22 _ ?_
    show own_St p e below T22 m 119 #[vI (p1), vI (p2), vI (p3), vI (p4), vI (p5), vI ((3 : Int32)), vI (c0_), vI (c1_), vI (c2_), vI (c3_), vR (b2), vR (b12), vR (b18), vI ((0 : Int32)), .unset] [(.int (own_pt [] c0_).length.toInt32)] _
    refine XS.istore X22.here hx rfl (hb hby at_119) rfl (l' := #[vI (p1), vI (p2), vI (p3), vI (p4), vI (p5), vI ((3 : Int32)), vI (c0_), vI (c1_), vI (c2_), vI (c3_), vR (b2), vR (b12), vR (b18), vI ((own_pt [] c0_).length.toInt32), .unset]) rfl ?_
    refine XS.iload X22.here hx rfl (hb hby at_121) rfl ?_
    refine XS.iconst X22.here hx rfl (hb hby at_123) ?_
    refine XS.icmpNo X22.here hx rfl (hb hby at_124) rfl (tlt (by decide : (1 : Int32) < (3 : Int32))).2.2.2 ?_
    refine XS.aload X22.here hx rfl (hb hby at_127) rfl rfl ?_
    refine XS.iload X22.here hx rfl (hb hby at_129) rfl ?_
    refine XS.iload X22.here hx rfl (hb hby at_131) rfl ?_
    show own_St p e below T22 m 133 #[vI (p1), vI (p2), vI (p3), vI (p4), vI (p5), vI ((3 : Int32)), vI (c0_), vI (c1_), vI (c2_), vI (c3_), vR (b2), vR (b12), vR (b18), vI ((own_pt [] c0_).length.toInt32), .unset] [(.int c1_), (.int (own_pt [] c0_).length.toInt32), (.ref b18)] _
    refine st25 _ ?_
    show own_St p e below T25 m 136 #[vI (p1), vI (p2), vI (p3), vI (p4), vI (p5), vI ((3 : Int32)), vI (c0_), vI (c1_), vI (c2_), vI (c3_), vR (b2), vR (b12), vR (b18), vI ((own_pt [] c0_).length.toInt32), .unset] [(.int (own_pt (own_pt [] c0_) c1_).length.toInt32)] _
    refine XS.istore X25.here hx rfl (hb hby at_136) rfl (l' := #[vI (p1), vI (p2), vI (p3), vI (p4), vI (p5), vI ((3 : Int32)), vI (c0_), vI (c1_), vI (c2_), vI (c3_), vR (b2), vR (b12), vR (b18), vI ((own_pt (own_pt [] c0_) c1_).length.toInt32), .unset]) rfl ?_
    refine XS.iload X25.here hx rfl (hb hby at_138) rfl ?_
    refine XS.iconst X25.here hx rfl (hb hby at_140) ?_
    refine XS.icmpNo X25.here hx rfl (hb hby at_141) rfl (tlt (by decide : (2 : Int32) < (3 : Int32))).2.2.2 ?_
    refine XS.aload X25.here hx rfl (hb hby at_144) rfl rfl ?_
    refine XS.iload X25.here hx rfl (hb hby at_146) rfl ?_
    refine XS.iload X25.here hx rfl (hb hby at_148) rfl ?_
    show own_St p e below T25 m 150 #[vI (p1), vI (p2), vI (p3), vI (p4), vI (p5), vI ((3 : Int32)), vI (c0_), vI (c1_), vI (c2_), vI (c3_), vR (b2), vR (b12), vR (b18), vI ((own_pt (own_pt [] c0_) c1_).length.toInt32), .unset] [(.int c2_), (.int (own_pt (own_pt [] c0_) c1_).length.toInt32), (.ref b18)] _
    refine st28 _ ?_
    show own_St p e below T28 m 153 #[vI (p1), vI (p2), vI (p3), vI (p4), vI (p5), vI ((3 : Int32)), vI (c0_), vI (c1_), vI (c2_), vI (c3_), vR (b2), vR (b12), vR (b18), vI ((own_pt (own_pt [] c0_) c1_).length.toInt32), .unset] [(.int (own_pt (own_pt (own_pt [] c0_) c1_) c2_).length.toInt32)] _
    refine XS.istore X28.here hx rfl (hb hby at_153) rfl (l' := #[vI (p1), vI (p2), vI (p3), vI (p4), vI (p5), vI ((3 : Int32)), vI (c0_), vI (c1_), vI (c2_), vI (c3_), vR (b2), vR (b12), vR (b18), vI ((own_pt (own_pt (own_pt [] c0_) c1_) c2_).length.toInt32), .unset]) rfl ?_
    refine XS.iload X28.here hx rfl (hb hby at_155) rfl ?_
    refine XS.iconst X28.here hx rfl (hb hby at_157) ?_
    refine XS.icmpYes X28.here hx rfl (pc0 := 158) (pc' := 172) rfl (hb hby at_158) rfl (flt (by decide : ¬ ((3 : Int32) < (3 : Int32)))).2.2.2 (by decide) (by decide) ?_
    refine XS.aload X28.here hx rfl (hb hby at_172) rfl rfl ?_
    show own_St p e below T28 m 174 #[vI (p1), vI (p2), vI (p3), vI (p4), vI (p5), vI ((3 : Int32)), vI (c0_), vI (c1_), vI (c2_), vI (c3_), vR (b2), vR (b12), vR (b18), vI ((own_pt (own_pt (own_pt [] c0_) c1_) c2_).length.toInt32), .unset] [(.ref b12)] _
    refine st31 _ ?_
    show own_St p e below T31 m 177 #[vI (p1), vI (p2), vI (p3), vI (p4), vI (p5), vI ((3 : Int32)), vI (c0_), vI (c1_), vI (c2_), vI (c3_), vR (b2), vR (b12), vR (b18), vI ((own_pt (own_pt (own_pt [] c0_) c1_) c2_).length.toInt32), .unset] [(.ref t31)] _
    refine XS.astore X31.here hx rfl (hb hby at_177) rfl rfl (l' := #[vI (p1), vI (p2), vI (p3), vI (p4), vI (p5), vI ((3 : Int32)), vI (c0_), vI (c1_), vI (c2_), vI (c3_), vR (b2), vR (b12), vR (b18), vI ((own_pt (own_pt (own_pt [] c0_) c1_) c2_).length.toInt32), vR (t31)]) rfl ?_
    show own_St p e below T31 m 179 #[vI (p1), vI (p2), vI (p3), vI (p4), vI (p5), vI ((3 : Int32)), vI (c0_), vI (c1_), vI (c2_), vI (c3_), vR (b2), vR (b12), vR (b18), vI ((own_flt [c0_, c1_, c2_]).length.toInt32), vR (t31)] [] _
    refine XS.aload X31.here hx rfl (hb hby at_179) rfl rfl ?_
    refine XS.ifnullNo X31.here hx rfl (hb hby at_181) rfl ?_
    refine XS.aload X31.here hx rfl (hb hby at_184) rfl rfl ?_
    show own_St p e below T31 m 186 #[vI (p1), vI (p2), vI (p3), vI (p4), vI (p5), vI ((3 : Int32)), vI (c0_), vI (c1_), vI (c2_), vI (c3_), vR (b2), vR (b12), vR (b18), vI ((own_flt [c0_, c1_, c2_]).length.toInt32), vR (t31)] [(.ref t31)] _
    refine st35.trans ?_
    show own_St p e below T35 m 189 #[vI (p1), vI (p2), vI (p3), vI (p4), vI (p5), vI ((3 : Int32)), vI (c0_), vI (c1_), vI (c2_), vI (c3_), vR (b2), vR (b12), vR (b18), vI ((own_flt [c0_, c1_, c2_]).length.toInt32), vR (t31)] [(.int (own_flt [c0_, c1_, c2_]).length.toInt32)] _
    refine XS.iload X35.here hx rfl (hb hby at_189) rfl ?_
    refine XS.icmpYes X35.here hx rfl (pc0 := 191) (pc' := 196) rfl (hb hby at_191) rfl (teq (rfl : (own_flt [c0_, c1_, c2_]).length.toInt32 = (own_flt [c0_, c1_, c2_]).length.toInt32)).1 (by decide) (by decide) ?_
    show own_St p e below T35 m 196 #[vI (p1), vI (p2), vI (p3), vI (p4), vI (p5), vI ((3 : Int32)), vI (c0_), vI (c1_), vI (c2_), vI (c3_), vR (b2), vR (b12), vR (b18), vI ((own_flt [c0_, c1_, c2_]).length.toInt32), vR (t31)] [] _
    refine st36 _ ?_
    show own_St p e below T36 m 212 #[vI (p1), vI (p2), vI (p3), vI (p4), vI (p5), vI ((3 : Int32)), vI (c0_), vI (c1_), vI (c2_), vI (c3_), vR (b2), vR (b12), vR (b18), vI ((own_flt [c0_, c1_, c2_]).length.toInt32), vR (t31)] [] _
    refine st37 _ ?_
    show own_St p e below T37 m 269 #[vI (p1), vI (p2), vI (p3), vI (p4), vI (p5), vI ((3 : Int32)), vI (c0_), vI (c1_), vI (c2_), vI (c3_), vR (b2), vR (b12), vR (b18), vI ((own_flt [c0_, c1_, c2_]).length.toInt32), vR (t31)] [(.int (1 : Int32))] _
    exact retN X37 hx (t := .boolean) Bd.returns (by simp) (hb hby at_269) hr
  · show own_Qk (some (.int (1 : Int32))) [] h0 n0 _ T37.heap _
    rw [e37]
    exact ⟨rfl, N37, K31⟩
theorem r_law4 (l : Launch) (Z : State) (a0 : Array Value) (hw : own_HW a0 Z) (ws : List Jvm.Cond) (cs1 : Int32) (fv : Value) (h0 : Heap) (n0 : Nat) (O0 : Old Z n0 h0) (G : own_Ctx Z Z.heap cs1 fv) (p1 p2 p3 p4 p5 c0_ c1_ c2_ c3_ : Int32) (hl : (p1 &&& (2147483647 : Int32)) % (5 : Int32) = (4 : Int32)) (he0 : own_dr p2 = c0_) (hz0_ : ¬ (c0_ < (0 : Int32))) (hm0_ : ¬ ((65535 : Int32) < c0_)) (he1 : own_dr p3 = c1_) (hz1_ : ¬ (c1_ < (0 : Int32))) (hm1_ : ¬ ((65535 : Int32) < c1_)) (he2 : own_dr p4 = c2_) (hz2_ : ¬ (c2_ < (0 : Int32))) (hm2_ : ¬ ((65535 : Int32) < c2_)) (he3 : own_dr p5 = c3_) (hz3_ : ¬ (c3_ < (0 : Int32))) (hm3_ : ¬ ((65535 : Int32) < c3_)) :
    own_M l x (head1 (Jvm.Cond.code x code maxLocals ret :: ws) room_1) #[(.int p1), (.int p2), (.int p3), (.int p4), (.int p5)] Z h0 n0 (own_Qk (some (.int (1 : Int32))) []) 32 1216 := by
  have G0 := G
  refine MetFree.of_bodySF (plainFor_of_name pn_8) hisR ?_
  intro p e s m args below meth c s₁ Bd hml0 hP hK
  obtain ⟨rfl, hZ, hh⟩ := hP
  have hx := Bd.exec
  have hby := Bd.bytes
  have hml : c.maxLocals = 15 := hml0
  have hown := findClass_of_methodNamed Bd.named
  have X0 : Stand p l e room_1 s m #[(.int p1), (.int p2), (.int p3), (.int p4), (.int p5)] below meth c s₁ [] 0 0 := Stand.of_body Bd
  have e0 : s₁.heap = h0 := by rw [← hh, Bd.state]; rfl
  have N0 := Fr.nil n0
  have pre0 := own_pre (tb := p.tables) (e := e) (below := below) (T := s₁) (ef_0_64 m p1 p2 p3 p4 p5)
  obtain ⟨T1, h1, L1, X1, e1, N1, O1, q1h, st1⟩ := t_pre cs1 fv p1 p2 p3 p4 p5 (4 : Int32) c0_ c1_ c2_ c3_ 0 0 (by decide) (by decide) X0 hx hZ hw hby hml hown e0 N0 O0 G0 hl he0 he1 he2 he3
  obtain rfl : h0 = h1 := q1h.symm
  obtain ⟨T2, h2, ka2, X2, e2, E2, A2, st2⟩ := newP X1 hx hZ (own_w hw 5 rfl) e1 (g := (mkF m 35 #[vI (p1), vI (p2), vI (p3), vI (p4), vI (p5), vI ((4 : Int32)), vI (c0_), vI (c1_), vI (c2_), vI (c3_), .unset, .unset, .unset, .unset, .unset] [(.int (4 : Int32))])) rfl (hb hby at_35) rfl (by decide) (cap := 4) (by decide) (by decide) (by decide) (by decide)
  obtain ⟨b2, g2⟩ : ∃ z, z = h0.size := ⟨_, rfl⟩
  have g_b2 : n0 ≤ b2 := Nat.le_trans (O1.1 ▸ O1.2.1) (Nat.le_of_eq g2.symm)
  have sz_b2 : h0.size ≤ b2 := Nat.le_trans (Keep.refl h0 []).1 (Nat.le_of_eq g2.symm)
  rw [← g2] at A2 st2
  have O2 := O1.ext E2
  have K2 : Keep h0 h2 [] := (Keep.refl h0 []).ext E2
  have V2 : Arv Z h2 b2 ka2 .char (4 : Int32) [(.int (0 : Int32)), (.int (0 : Int32)), (.int (0 : Int32)), (.int (0 : Int32))] (.int (0 : Int32)) := (Arv.new A2 (by decide)).pad (pad_rep [] (.int (0 : Int32)) 4)
  have vc3 := V2
  obtain ⟨cl3, Ar3, qk3, S3, Nn3, Hs3, Gf3⟩ := vc3
  have hin3 : ¬ ((0 : Int32) < 0 ∨ cl3.slots.size ≤ ((0 : Int32)).toNatClampNeg) := inb_of S3 ⟨by decide, by decide⟩
  obtain ⟨T4, h4, X4, e4, W4, st4⟩ := stC X2 hx hZ e2 Ar3 (j := (0 : Int32)) hin3 (g := (mkF m 49 #[vI (p1), vI (p2), vI (p3), vI (p4), vI (p5), vI ((4 : Int32)), vI (c0_), vI (c1_), vI (c2_), vI (c3_), vR (b2), .unset, .unset, .unset, .unset] [(.int c0_), (.int (0 : Int32)), (.ref b2)])) rfl rfl (hb hby at_49)
  have O4 := O2.wr W4 g_b2
  have K4 : Keep h0 h4 [] := K2.wr W4 (Or.inr sz_b2)
  have N4 := Fr.snoc X4 N1 g_b2
  have f5 : Arv Z h4 b2 ka2 .char (4 : Int32) [(.int (nar .char c0_)), (.int (0 : Int32)), (.int (0 : Int32)), (.int (0 : Int32))] (.int (0 : Int32)) := Arv.set Ar3 qk3 S3 Nn3 Hs3 Gf3 (fits_nar_char _) W4 0 rfl (Nat.le_of_ble_eq_true rfl)
  have vc6 := f5
  obtain ⟨cl6, Ar6, qk6, S6, Nn6, Hs6, Gf6⟩ := vc6
  have hin6 : ¬ ((1 : Int32) < 0 ∨ cl6.slots.size ≤ ((1 : Int32)).toNatClampNeg) := inb_of S6 ⟨by decide, by decide⟩
  obtain ⟨T7, h7, X7, e7, W7, st7⟩ := stC X4 hx hZ e4 Ar6 (j := (1 : Int32)) hin6 (g := (mkF m 61 #[vI (p1), vI (p2), vI (p3), vI (p4), vI (p5), vI ((4 : Int32)), vI (c0_), vI (c1_), vI (c2_), vI (c3_), vR (b2), .unset, .unset, .unset, .unset] [(.int c1_), (.int (1 : Int32)), (.ref b2)])) rfl rfl (hb hby at_61)
  have O7 := O4.wr W7 g_b2
  have K7 : Keep h0 h7 [] := K4.wr W7 (Or.inr sz_b2)
  have N7 := Fr.snoc X7 N4 g_b2
  have f8 : Arv Z h7 b2 ka2 .char (4 : Int32) [(.int (nar .char c0_)), (.int (nar .char c1_)), (.int (0 : Int32)), (.int (0 : Int32))] (.int (0 : Int32)) := Arv.set Ar6 qk6 S6 Nn6 Hs6 Gf6 (fits_nar_char _) W7 1 rfl (Nat.le_of_ble_eq_true rfl)
  have vc9 := f8
  obtain ⟨cl9, Ar9, qk9, S9, Nn9, Hs9, Gf9⟩ := vc9
  have hin9 : ¬ ((2 : Int32) < 0 ∨ cl9.slots.size ≤ ((2 : Int32)).toNatClampNeg) := inb_of S9 ⟨by decide, by decide⟩
  obtain ⟨T10, h10, X10, e10, W10, st10⟩ := stC X7 hx hZ e7 Ar9 (j := (2 : Int32)) hin9 (g := (mkF m 73 #[vI (p1), vI (p2), vI (p3), vI (p4), vI (p5), vI ((4 : Int32)), vI (c0_), vI (c1_), vI (c2_), vI (c3_), vR (b2), .unset, .unset, .unset, .unset] [(.int c2_), (.int (2 : Int32)), (.ref b2)])) rfl rfl (hb hby at_73)
  have O10 := O7.wr W10 g_b2
  have K10 : Keep h0 h10 [] := K7.wr W10 (Or.inr sz_b2)
  have N10 := Fr.snoc X10 N7 g_b2
  have f11 : Arv Z h10 b2 ka2 .char (4 : Int32) [(.int (nar .char c0_)), (.int (nar .char c1_)), (.int (nar .char c2_)), (.int (0 : Int32))] (.int (0 : Int32)) := Arv.set Ar9 qk9 S9 Nn9 Hs9 Gf9 (fits_nar_char _) W10 2 rfl (Nat.le_of_ble_eq_true rfl)
  have vc12 := f11
  obtain ⟨cl12, Ar12, qk12, S12, Nn12, Hs12, Gf12⟩ := vc12
  have hin12 : ¬ ((3 : Int32) < 0 ∨ cl12.slots.size ≤ ((3 : Int32)).toNatClampNeg) := inb_of S12 ⟨by decide, by decide⟩
  obtain ⟨T13, h13, X13, e13, W13, st13⟩ := stC X10 hx hZ e10 Ar12 (j := (3 : Int32)) hin12 (g := (mkF m 85 #[vI (p1), vI (p2), vI (p3), vI (p4), vI (p5), vI ((4 : Int32)), vI (c0_), vI (c1_), vI (c2_), vI (c3_), vR (b2), .unset, .unset, .unset, .unset] [(.int c3_), (.int (3 : Int32)), (.ref b2)])) rfl rfl (hb hby at_85)
  have O13 := O10.wr W13 g_b2
  have K13 : Keep h0 h13 [] := K10.wr W13 (Or.inr sz_b2)
  have N13 := Fr.snoc X13 N10 g_b2
  have f14 : Arv Z h13 b2 ka2 .char (4 : Int32) [(.int (nar .char c0_)), (.int (nar .char c1_)), (.int (nar .char c2_)), (.int (nar .char c3_))] (.int (0 : Int32)) := Arv.set Ar12 qk12 S12 Nn12 Hs12 Gf12 (fits_nar_char _) W13 3 rfl (Nat.le_of_ble_eq_true rfl)
  have hn_ : [c0_, c1_, c2_, c3_].length ≤ 4 := Nat.le_of_ble_eq_true rfl
  have hB_ : own_Bd [c0_, c1_, c2_, c3_] := own_all4 (P := fun z => ¬ (z < (0 : Int32)) ∧ ¬ ((65535 : Int32) < z)) ⟨hz0_, hm0_⟩ ⟨hz1_, hm1_⟩ ⟨hz2_, hm2_⟩ ⟨hz3_, hm3_⟩
  have hf_ : (own_flt [c0_, c1_, c2_, c3_]).length ≤ 4 := Nat.le_trans (own_fold_len [c0_, c1_, c2_, c3_] []).1 (by rw [List.length_nil, Nat.zero_add]; exact hn_)
  have h1_ : 1 ≤ [c0_, c1_, c2_, c3_].length := Nat.le_of_ble_eq_true rfl
  have V86 : Arv Z h13 b2 ka2 .char [c0_, c1_, c2_, c3_].length.toInt32 ([c0_, c1_, c2_, c3_].map Value.int) (.int (0 : Int32)) := by
    have q := f14
    rw [own_nc hz0_ hm0_, own_nc hz1_ hm1_, own_nc hz2_ hm2_, own_nc hz3_ hm3_] at q
    exact q
  obtain ⟨T15, h15, X15, e15, E15, A15, D15, -, st15⟩ := newO X13 hx hZ hown (own_w hw 6 rfl) (own_w hw 7 rfl) (own_w hw 8 rfl) e13 (g := (mkF m 86 #[vI (p1), vI (p2), vI (p3), vI (p4), vI (p5), vI ((4 : Int32)), vI (c0_), vI (c1_), vI (c2_), vI (c3_), vR (b2), .unset, .unset, .unset, .unset] [])) rfl (hb hby at_86) (by decide) (by decide)
  obtain ⟨b15, g15⟩ : ∃ z, z = h13.size := ⟨_, rfl⟩
  have ne_b2_b15 : b2 ≠ b15 := Nat.ne_of_lt (Nat.lt_of_lt_of_le V86.lt (Nat.le_of_eq g15.symm))
  have g_b15 : n0 ≤ b15 := Nat.le_trans (O13.1 ▸ O13.2.1) (Nat.le_of_eq g15.symm)
  have sz_b15 : h0.size ≤ b15 := Nat.le_trans K13.1 (Nat.le_of_eq g15.symm)
  rw [← g15] at A15 D15 st15
  have f16 := V86.ext E15
  have O15 := O13.ext E15
  have K15 : Keep h0 h15 [] := K13.ext E15
  have F15_21 : Fld Z h15 b15 "java/lang/String" "value" "[B" .null := D15 (Or.inr (own_w hw 21 rfl)) (ty := (.array .byte)) (by decide)
  have F15_22 : Fld Z h15 b15 "java/lang/String" "coder" "B" (.int (0 : Int32)) := D15 (Or.inr (own_w hw 22 rfl)) (ty := .byte) (by decide)
  obtain ⟨LL17, X17, N17⟩ : ∃ LL, Stand p l e room_1 s m #[(.int p1), (.int p2), (.int p3), (.int p4), (.int p5)] below meth c T15 LL 2 8 ∧ Fr n0 LL := ⟨_, X15, N13⟩
  obtain ⟨_, _, ⟨T18, L18, k18, n18⟩, -, X18, ⟨Lc18, hQ18, l18, y18, z18⟩, st18⟩ := X17.specialBack hx (y := Y15_) rfl hown (mvT hZ (own_w hw 9 rfl)) (mvT hZ (own_w hw 10 rfl)) (mvT hZ (own_w hw 11 rfl)) (by decide) (backOf (W := 1) (r_new l Z a0 hw [] cs1 fv h15 n0 O15 G0 b15 b2 ka2 [c0_, c1_, c2_, c3_] A15 g_b15 F15_22 F15_21 f16 ne_b2_b15 hn_ h1_ hB_) hZ (own_w hw 11 rfl) (own_w hw 8 rfl) (by decide) (by decide)) (g := (mkF m 92 #[vI (p1), vI (p2), vI (p3), vI (p4), vI (p5), vI ((4 : Int32)), vI (c0_), vI (c1_), vI (c2_), vI (c3_), vR (b2), .unset, .unset, .unset, .unset] [(.ref b2), (.ref b15), (.ref b15)])) rfl (by rw [hml]; rfl) (Steps.refl _) (a := b15) (argsL := [(.ref b2)]) (rest := [(.ref b15)]) (lenOf pd_35 rfl) rfl (by show 2 * 0 + _ ≤ _; exact Nat.le_of_eq rfl) (hb hby at_92) (fun _ _ => ⟨rfl, e15, (by decide : 2 + 2 ≤ _), (by decide : 8 + 12 ≤ _)⟩)
  dsimp only [Pt.U, Pt.locs, Pt.cells, Pt.slots] at X18 l18 y18 z18 st18 hQ18
  subst l18 y18 z18
  obtain ⟨rfl, N18q, Kq18, Sq18⟩ := hQ18
  have N18 := Fr.app N17 N18q
  have f19 := f16.keep Kq18 (fun q => (List.mem_cons.mp q).elim ne_b2_b15 (fun q => nomatch q))
  have f20 := A15.keep Kq18
  have O18 := O15.keep Kq18 (allS g_b15 all0)
  have K18 : Keep h0 T18.heap [] := K15.trans Kq18 (allS (Or.inr sz_b15) all0)
  obtain ⟨T21, h21, ka21, X21, e21, E21, A21, st21⟩ := newP X18 hx hZ (own_w hw 5 rfl) rfl (g := (mkF m 98 #[vI (p1), vI (p2), vI (p3), vI (p4), vI (p5), vI ((4 : Int32)), vI (c0_), vI (c1_), vI (c2_), vI (c3_), vR (b2), vR (b15), .unset, .unset, .unset] [(.int (4 : Int32))])) rfl (hb hby at_98) rfl (by decide) (cap := 4) (by decide) (by decide) (by decide) (by decide)
  obtain ⟨b21, g21⟩ : ∃ z, z = T18.heap.size := ⟨_, rfl⟩
  have ne_b2_b21 : b2 ≠ b21 := Nat.ne_of_lt (Nat.lt_of_lt_of_le f19.lt (Nat.le_of_eq g21.symm))
  have ne_b15_b21 : b15 ≠ b21 := Nat.ne_of_lt (Nat.lt_of_lt_of_le f20.lt (Nat.le_of_eq g21.symm))
  have g_b21 : n0 ≤ b21 := Nat.le_trans (O18.1 ▸ O18.2.1) (Nat.le_of_eq g21.symm)
  have sz_b21 : h0.size ≤ b21 := Nat.le_trans K18.1 (Nat.le_of_eq g21.symm)
  rw [← g21] at A21 st21
  have f22 := f19.ext E21
  have f23 := f20.ext E21
  have O21 := O18.ext E21
  have K21 : Keep h0 h21 [] := K18.ext E21
  have f24 := own_Str_ext E21 Sq18
  have V21 : Arv Z h21 b21 ka21 .char (4 : Int32) [(.int (0 : Int32)), (.int (0 : Int32)), (.int (0 : Int32)), (.int (0 : Int32))] (.int (0 : Int32)) := (Arv.new A21 (by decide)).pad (pad_rep [] (.int (0 : Int32)) 4)
  have V102 : Arv Z h21 b21 ka21 .char (4 : Int32) (([] : List Int32).map Value.int) (.int (0 : Int32)) := V21.pad (fun i => (pad_rep [] (.int (0 : Int32)) 4 i).symm)
  obtain ⟨_, _, ⟨T25, L25, k25, n25⟩, -, X25, ⟨Lc25, hQ25, l25, y25, z25⟩, st25⟩ := Jvm.LawKit.callS X21 hx (y := Y59_) hown (mvT hZ (own_w hw 85 rfl)) (mvT hZ (own_w hw 86 rfl)) (mvT hZ (own_w hw 3 rfl)) (mvT hZ (own_w hw 87 rfl)) (by decide) (backOf (W := 0) (r_pt l Z a0 hw [] cs1 fv h21 n0 O21 G0 b21 ka21 [] c0_ V102 g_b21 (by have := (own_fold_len [] []).1; exact Nat.lt_of_le_of_lt this (Nat.le_of_ble_eq_true rfl)) hz0_ hm0_) hZ (own_w hw 87 rfl) (own_w hw 3 rfl) (by decide) (by decide)) (g := (mkF m 116 #[vI (p1), vI (p2), vI (p3), vI (p4), vI (p5), vI ((4 : Int32)), vI (c0_), vI (c1_), vI (c2_), vI (c3_), vR (b2), vR (b15), vR (b21), vI ((0 : Int32)), .unset] [(.int c0_), (.int (0 : Int32)), (.ref b21)])) rfl (by rw [hml]; rfl) (argsL := [(.ref b21), (.int (0 : Int32)), (.int c0_)]) (rest := []) (lenOf pd_37 rfl) rfl (by show 2 * 0 + _ ≤ _; exact Nat.le_of_eq rfl) (hb hby at_116) (fun _ _ => ⟨rfl, e21, (by decide : 5 + 0 ≤ _), (by decide : 24 + 0 ≤ _)⟩)
  dsimp only [Pt.U, Pt.locs, Pt.cells, Pt.slots] at X25 l25 y25 z25 st25 hQ25
  subst l25 y25 z25
  have Kb25 : Keep T18.heap T25.heap [] := (Keep.ext (Keep.refl T18.heap []) E21).trans hQ25.2.2.1 (allS (Or.inr (Nat.le_of_eq g21.symm)) all0)
  obtain ⟨rfl, N25q, Kq25, Ve25⟩ := hQ25
  have N25 := Fr.app N18 N25q
  have f26 := f22.keep Kq25 (fun q => (List.mem_cons.mp q).elim ne_b2_b21 (fun q => nomatch q))
  have f27 := f23.keep Kq25
  have O25 := O21.keep Kq25 (allS g_b21 all0)
  have K25 : Keep h0 T25.heap [] := K21.trans Kq25 (allS (Or.inr sz_b21) all0)
  obtain ⟨_, _, ⟨T28, L28, k28, n28⟩, -, X28, ⟨Lc28, hQ28, l28, y28, z28⟩, st28⟩ := Jvm.LawKit.callS X25 hx (y := Y59_) hown (mvT hZ (own_w hw 85 rfl)) (mvT hZ (own_w hw 86 rfl)) (mvT hZ (own_w hw 3 rfl)) (mvT hZ (own_w hw 87 rfl)) (by decide) (backOf (W := 0) (r_pt l Z a0 hw [] cs1 fv T25.heap n0 O25 G0 b21 ka21 (own_pt [] c0_) c1_ Ve25 g_b21 (by have := (own_fold_len [c0_] []).1; exact Nat.lt_of_le_of_lt this (Nat.le_of_ble_eq_true rfl)) hz1_ hm1_) hZ (own_w hw 87 rfl) (own_w hw 3 rfl) (by decide) (by decide)) (g := (mkF m 133 #[vI (p1), vI (p2), vI (p3), vI (p4), vI (p5), vI ((4 : Int32)), vI (c0_), vI (c1_), vI (c2_), vI (c3_), vR (b2), vR (b15), vR (b21), vI ((own_pt [] c0_).length.toInt32), .unset] [(.int c1_), (.int (own_pt [] c0_).length.toInt32), (.ref b21)])) rfl (by rw [hml]; rfl) (argsL := [(.ref b21), (.int (own_pt [] c0_).length.toInt32), (.int c1_)]) (rest := []) (lenOf pd_37 rfl) rfl (by show 2 * 0 + _ ≤ _; exact Nat.le_of_eq rfl) (hb hby at_133) (fun _ _ => ⟨rfl, rfl, (by decide : 5 + 0 ≤ _), (by decide : 24 + 0 ≤ _)⟩)
  dsimp only [Pt.U, Pt.locs, Pt.cells, Pt.slots] at X28 l28 y28 z28 st28 hQ28
  subst l28 y28 z28
  have Kb28 : Keep T18.heap T28.heap [] := Kb25.trans hQ28.2.2.1 (allS (Or.inr (Nat.le_of_eq g21.symm)) all0)
  obtain ⟨rfl, N28q, Kq28, Ve28⟩ := hQ28
  have N28 := Fr.app N25 N28q
  have f29 := f26.keep Kq28 (fun q => (List.mem_cons.mp q).elim ne_b2_b21 (fun q => nomatch q))
  have f30 := f27.keep Kq28
  have O28 := O25.keep Kq28 (allS g_b21 all0)
  have K28 : Keep h0 T28.heap [] := K25.trans Kq28 (allS (Or.inr sz_b21) all0)
  obtain ⟨_, _, ⟨T31, L31, k31, n31⟩, -, X31, ⟨Lc31, hQ31, l31, y31, z31⟩, st31⟩ := Jvm.LawKit.callS X28 hx (y := Y59_) hown (mvT hZ (own_w hw 85 rfl)) (mvT hZ (own_w hw 86 rfl)) (mvT hZ (own_w hw 3 rfl)) (mvT hZ (own_w hw 87 rfl)) (by decide) (backOf (W := 0) (r_pt l Z a0 hw [] cs1 fv T28.heap n0 O28 G0 b21 ka21 (own_pt (own_pt [] c0_) c1_) c2_ Ve28 g_b21 (by have := (own_fold_len [c0_, c1_] []).1; exact Nat.lt_of_le_of_lt this (Nat.le_of_ble_eq_true rfl)) hz2_ hm2_) hZ (own_w hw 87 rfl) (own_w hw 3 rfl) (by decide) (by decide)) (g := (mkF m 150 #[vI (p1), vI (p2), vI (p3), vI (p4), vI (p5), vI ((4 : Int32)), vI (c0_), vI (c1_), vI (c2_), vI (c3_), vR (b2), vR (b15), vR (b21), vI ((own_pt (own_pt [] c0_) c1_).length.toInt32), .unset] [(.int c2_), (.int (own_pt (own_pt [] c0_) c1_).length.toInt32), (.ref b21)])) rfl (by rw [hml]; rfl) (argsL := [(.ref b21), (.int (own_pt (own_pt [] c0_) c1_).length.toInt32), (.int c2_)]) (rest := []) (lenOf pd_37 rfl) rfl (by show 2 * 0 + _ ≤ _; exact Nat.le_of_eq rfl) (hb hby at_150) (fun _ _ => ⟨rfl, rfl, (by decide : 5 + 0 ≤ _), (by decide : 24 + 0 ≤ _)⟩)
  dsimp only [Pt.U, Pt.locs, Pt.cells, Pt.slots] at X31 l31 y31 z31 st31 hQ31
  subst l31 y31 z31
  have Kb31 : Keep T18.heap T31.heap [] := Kb28.trans hQ31.2.2.1 (allS (Or.inr (Nat.le_of_eq g21.symm)) all0)
  obtain ⟨rfl, N31q, Kq31, Ve31⟩ := hQ31
  have N31 := Fr.app N28 N31q
  have f32 := f29.keep Kq31 (fun q => (List.mem_cons.mp q).elim ne_b2_b21 (fun q => nomatch q))
  have f33 := f30.keep Kq31
  have O31 := O28.keep Kq31 (allS g_b21 all0)
  have K31 : Keep h0 T31.heap [] := K28.trans Kq31 (allS (Or.inr sz_b21) all0)
  obtain ⟨_, _, ⟨T34, L34, k34, n34⟩, -, X34, ⟨Lc34, hQ34, l34, y34, z34⟩, st34⟩ := Jvm.LawKit.callS X31 hx (y := Y59_) hown (mvT hZ (own_w hw 85 rfl)) (mvT hZ (own_w hw 86 rfl)) (mvT hZ (own_w hw 3 rfl)) (mvT hZ (own_w hw 87 rfl)) (by decide) (backOf (W := 0) (r_pt l Z a0 hw [] cs1 fv T31.heap n0 O31 G0 b21 ka21 (own_pt (own_pt (own_pt [] c0_) c1_) c2_) c3_ Ve31 g_b21 (by have := (own_fold_len [c0_, c1_, c2_] []).1; exact Nat.lt_of_le_of_lt this (Nat.le_of_ble_eq_true rfl)) hz3_ hm3_) hZ (own_w hw 87 rfl) (own_w hw 3 rfl) (by decide) (by decide)) (g := (mkF m 167 #[vI (p1), vI (p2), vI (p3), vI (p4), vI (p5), vI ((4 : Int32)), vI (c0_), vI (c1_), vI (c2_), vI (c3_), vR (b2), vR (b15), vR (b21), vI ((own_pt (own_pt (own_pt [] c0_) c1_) c2_).length.toInt32), .unset] [(.int c3_), (.int (own_pt (own_pt (own_pt [] c0_) c1_) c2_).length.toInt32), (.ref b21)])) rfl (by rw [hml]; rfl) (argsL := [(.ref b21), (.int (own_pt (own_pt (own_pt [] c0_) c1_) c2_).length.toInt32), (.int c3_)]) (rest := []) (lenOf pd_37 rfl) rfl (by show 2 * 0 + _ ≤ _; exact Nat.le_of_eq rfl) (hb hby at_167) (fun _ _ => ⟨rfl, rfl, (by decide : 5 + 0 ≤ _), (by decide : 24 + 0 ≤ _)⟩)
  dsimp only [Pt.U, Pt.locs, Pt.cells, Pt.slots] at X34 l34 y34 z34 st34 hQ34
  subst l34 y34 z34
  have Kb34 : Keep T18.heap T34.heap [] := Kb31.trans hQ34.2.2.1 (allS (Or.inr (Nat.le_of_eq g21.symm)) all0)
  obtain ⟨rfl, N34q, Kq34, Ve34⟩ := hQ34
  have N34 := Fr.app N31 N34q
  have f35 := f32.keep Kq34 (fun q => (List.mem_cons.mp q).elim ne_b2_b21 (fun q => nomatch q))
  have f36 := f33.keep Kq34
  have O34 := O31.keep Kq34 (allS g_b21 all0)
  have K34 : Keep h0 T34.heap [] := K31.trans Kq34 (allS (Or.inr sz_b21) all0)
  obtain ⟨_, _, ⟨T37, L37, k37, n37⟩, -, X37, ⟨Lc37, hQ37, l37, y37, z37⟩, st37⟩ := Jvm.LawKit.callS X34 hx (y := Y56_) hown (mvT hZ (own_w hw 27 rfl)) (mvT hZ (own_w hw 28 rfl)) (mvT hZ (own_w hw 29 rfl)) (mvT hZ (own_w hw 30 rfl)) (by decide) (backOf (W := 0) (r_rm l Z a0 hw [] cs1 fv T34.heap n0 O34 G0 b15 [c0_, c1_, c2_, c3_] (own_Str_keep Kb34 Sq18) hn_ hB_) hZ (own_w hw 30 rfl) (own_w hw 29 rfl) (by decide) (by decide)) (g := (mkF m 174 #[vI (p1), vI (p2), vI (p3), vI (p4), vI (p5), vI ((4 : Int32)), vI (c0_), vI (c1_), vI (c2_), vI (c3_), vR (b2), vR (b15), vR (b21), vI ((own_pt (own_pt (own_pt (own_pt [] c0_) c1_) c2_) c3_).length.toInt32), .unset] [(.ref b15)])) rfl (by rw [hml]; rfl) (argsL := [(.ref b15)]) (rest := []) (lenOf pd_36 rfl) rfl (by show 2 * 0 + _ ≤ _; exact Nat.le_of_eq rfl) (hb hby at_174) (fun _ _ => ⟨rfl, rfl, (by decide : 5 + 8 ≤ _), (by decide : 24 + 52 ≤ _)⟩)
  dsimp only [Pt.U, Pt.locs, Pt.cells, Pt.slots] at X37 l37 y37 z37 st37 hQ37
  subst l37 y37 z37
  obtain ⟨t37, rfl, N37q, Kq37, So37, hs37⟩ := hQ37
  have N37 := Fr.app N34 N37q
  have f38 := f35.keep Kq37 (fun q => nomatch q)
  have f39 := f36.keep Kq37
  have f40 := Ve34.keep Kq37 (fun q => nomatch q)
  have O37 := O34.keep Kq37 all0
  have K37 : Keep h0 T37.heap [] := K34.trans Kq37 all0
  have V179 : Arv Z T37.heap b21 ka21 .char (4 : Int32) ((own_flt [c0_, c1_, c2_, c3_]).map Value.int) (.int (0 : Int32)) := f40
  obtain ⟨cq41, kq41, q41a, q41b, q41c⟩ := isOf hZ rfl (own_Str_exa So37)
  obtain ⟨_, _, ⟨T41, L41, k41, n41⟩, -, X41, ⟨Lc41, hQ41, l41, y41, z41⟩, st41⟩ := X37.virtualBack hx (y := Y18_) (z := Y18_) hown (mvT hZ (own_w hw 71 rfl)) (mvT hZ (own_w hw 48 rfl)) (notFace_of_selects (args := #[]) (mvT hZ (own_w hw 50 rfl))) (mvT hZ (own_w hw 50 rfl)) (mvT hZ (own_w hw 49 rfl)) (by decide) (backOf (W := 0) (r_len l Z a0 hw [] cs1 fv T37.heap n0 O37 G0 t37 (own_flt [c0_, c1_, c2_, c3_]) So37 hf_) hZ (own_w hw 51 rfl) (own_w hw 8 rfl) (by decide) (by decide)) q41a q41c (g := (mkF m 186 #[vI (p1), vI (p2), vI (p3), vI (p4), vI (p5), vI ((4 : Int32)), vI (c0_), vI (c1_), vI (c2_), vI (c3_), vR (b2), vR (b15), vR (b21), vI ((own_flt [c0_, c1_, c2_, c3_]).length.toInt32), vR (t37)] [(.ref t37)])) rfl (by rw [hml]; rfl) (Steps.refl _) (argsL := []) (rest := []) (lenOf pd_21 rfl) rfl (by show 2 * 0 + _ ≤ _; exact Nat.le_of_eq rfl) (hb hby at_186) (fun _ _ => ⟨rfl, rfl, (by decide : 13 + 0 ≤ _), (by decide : 76 + 0 ≤ _)⟩)
  dsimp only [Pt.U, Pt.locs, Pt.cells, Pt.slots] at X41 l41 y41 z41 st41 hQ41
  subst l41 y41 z41
  obtain ⟨rfl, N41q, e41⟩ := hQ41
  have N41 := Fr.app N37 N41q
  obtain ⟨T42, X42, e42, st42⟩ := own_mn cs1 fv p1 p2 p3 p4 p5 (4 : Int32) c0_ c1_ c2_ c3_ b2 b15 b21 t37 [c0_, c1_, c2_, c3_] X41 hx hZ hw hby hml hown e41 O37 G0 hs37 hn_ hf_ rfl
  obtain ⟨T43, h43, L43, X43, e43, N43, O43, q43h, st43⟩ := t_suf cs1 fv p1 p2 p3 p4 p5 (4 : Int32) c0_ c1_ c2_ c3_ b2 b15 b21 t37 ka21 (own_flt [c0_, c1_, c2_, c3_]) 13 76 (by decide) (by decide) X42 hx hZ hw hby hml hown e42 N41 O37 G0 So37 V179 hf_ (own_Bd_flt hB_)
  obtain rfl : T37.heap = h43 := q43h.symm
  obtain ⟨fs, hr, hrun, hended, hW, hsame⟩ := X43.leave (v := some (.int (1 : Int32))) (fun h => by rw [Bd.returns] at h; cases h)
  refine ⟨_, _, pre0 _ ?_, hrun, hended, _, _, rfl, ?_, ⟨_, rfl⟩, hW, hsame.mono (by decide) (by decide)⟩
  · show own_St p e below s₁ m 0 #[vI (p1), vI (p2), vI (p3), vI (p4), vI (p5), .unset, .unset, .unset, .unset, .unset, .unset, .unset, .unset, .unset, .unset] [] _
    refine st1 _ ?_
    show own_St p e below T1 m 33 #[vI (p1), vI (p2), vI (p3), vI (p4), vI (p5), vI ((4 : Int32)), vI (c0_), vI (c1_), vI (c2_), vI (c3_), .unset, .unset, .unset, .unset, .unset] [] _
    refine XS.iload X1.here hx rfl (hb hby at_33) rfl ?_
    show own_St p e below T1 m 35 #[vI (p1), vI (p2), vI (p3), vI (p4), vI (p5), vI ((4 : Int32)), vI (c0_), vI (c1_), vI (c2_), vI (c3_), .unset, .unset, .unset, .unset, .unset] [(.int (4 : Int32))] _
    refine st2 _ ?_
    show own_St p e below T2 m 37 #[vI (p1), vI (p2), vI (p3), vI (p4), vI (p5), vI ((4 : Int32)), vI (c0_), vI (c1_), vI (c2_), vI (c3_), .unset, .unset, .unset, .unset, .unset] [(.ref b2)] _
    refine XS.astore X2.here hx rfl (hb hby at_37) rfl rfl (l' := #[vI (p1), vI (p2), vI (p3), vI (p4), vI (p5), vI ((4 : Int32)), vI (c0_), vI (c1_), vI (c2_), vI (c3_), vR (b2), .unset, .unset, .unset, .unset]) rfl ?_
    refine XS.iload X2.here hx rfl (hb hby at_39) rfl ?_
    refine XS.ifNo X2.here hx rfl (hb hby at_41) rfl ((if0 _ _).trans (tlt (by decide : (0 : Int32) < (4 : Int32))).2.2.2) ?_
    refine XS.aload X2.here hx rfl (hb hby at_44) rfl rfl ?_
    refine XS.iconst X2.here hx rfl (hb hby at_46) ?_
    refine XS.iload X2.here hx rfl (hb hby at_47) rfl ?_
    show own_St p e below T2 m 49 #[vI (p1), vI (p2), vI (p3), vI (p4), vI (p5), vI ((4 : Int32)), vI (c0_), vI (c1_), vI (c2_), vI (c3_), vR (b2), .unset, .unset, .unset, .unset] [(.int c0_), (.int (0 : Int32)), (.ref b2)] _
    refine st4 _ ?_
    show own_St p e below T4 m 50 #[vI (p1), vI (p2), vI (p3), vI (p4), vI (p5), vI ((4 : Int32)), vI (c0_), vI (c1_), vI (c2_), vI (c3_), vR (b2), .unset, .unset, .unset, .unset] [] _
    refine XS.iload X4.here hx rfl (hb hby at_50) rfl ?_
    refine XS.iconst X4.here hx rfl (hb hby at_52) ?_
    refine XS.icmpNo X4.here hx rfl (hb hby at_53) rfl (tlt (by decide : (1 : Int32) < (4 : Int32))).2.2.2 ?_
    refine XS.aload X4.here hx rfl (hb hby at_56) rfl rfl ?_
    refine XS.iconst X4.here hx rfl (hb hby at_58) ?_
    refine XS.iload X4.here hx rfl (hb hby at_59) rfl ?_
    show own_St p e below T4 m 61 #[vI (p1), vI (p2), vI (p3), vI (p4), vI (p5), vI ((4 : Int32)), vI (c0_), vI (c1_), vI (c2_), vI (c3_), vR (b2), .unset, .unset, .unset, .unset] [(.int c1_), (.int (1 : Int32)), (.ref b2)] _
    refine st7 _ ?_
    show own_St p e below T7 m 62 #[vI (p1), vI (p2), vI (p3), vI (p4), vI (p5), vI ((4 : Int32)), vI (c0_), vI (c1_), vI (c2_), vI (c3_), vR (b2), .unset, .unset, .unset, .unset] [] _
    refine XS.iload X7.here hx rfl (hb hby at_62) rfl ?_
    refine XS.iconst X7.here hx rfl (hb hby at_64) ?_
    refine XS.icmpNo X7.here hx rfl (hb hby at_65) rfl (tlt (by decide : (2 : Int32) < (4 : Int32))).2.2.2 ?_
    refine XS.aload X7.here hx rfl (hb hby at_68) rfl rfl ?_
    refine XS.iconst X7.here hx rfl (hb hby at_70) ?_
    refine XS.iload X7.here hx rfl (hb hby at_71) rfl ?_
    show own_St p e below T7 m 73 #[vI (p1), vI (p2), vI (p3), vI (p4), vI (p5), vI ((4 : Int32)), vI (c0_), vI (c1_), vI (c2_), vI (c3_), vR (b2), .unset, .unset, .unset, .unset] [(.int c2_), (.int (2 : Int32)), (.ref b2)] _
    refine st10 _ ?_
    show own_St p e below T10 m 74 #[vI (p1), vI (p2), vI (p3), vI (p4), vI (p5), vI ((4 : Int32)), vI (c0_), vI (c1_), vI (c2_), vI (c3_), vR (b2), .unset, .unset, .unset, .unset] [] _
    refine XS.iload X10.here hx rfl (hb hby at_74) rfl ?_
    refine XS.iconst X10.here hx rfl (hb hby at_76) ?_
    refine XS.icmpNo X10.here hx rfl (hb hby at_77) rfl (tlt (by decide : (3 : Int32) < (4 : Int32))).2.2.2 ?_
    refine XS.aload X10.here hx rfl (hb hby at_80) rfl rfl ?_
    refine XS.iconst X10.here hx rfl (hb hby at_82) ?_
    refine XS.iload X10.here hx rfl (hb hby at_83) rfl ?_
    show own_St p e below T10 m 85 #[vI (p1), vI (p2), vI (p3), vI (p4), vI (p5), vI ((4 : Int32)), vI (c0_), vI (c1_), vI (c2_), vI (c3_), vR (b2), .unset, .unset, .unset, .unset] [(.int c3_), (.int (3 : Int32)), (.ref b2)] _
    refine st13 _ ?_
    show own_St p e below T13 m 86 #[vI (p1), vI (p2), vI (p3), vI (p4), vI (p5), vI ((4 : Int32)), vI (c0_), vI (c1_), vI (c2_), vI (c3_), vR (b2), .unset, .unset, .unset, .unset] [] _
    refine st15 _ ?_
    show own_St p e below T15 m 89 #[vI (p1), vI (p2), vI (p3), vI (p4), vI (p5), vI ((4 : Int32)), vI (c0_), vI (c1_), vI (c2_), vI (c3_), vR (b2), .unset, .unset, .unset, .unset] [(.ref b15)] _
    refine XS.dup X15.here hx rfl (hb hby at_89) rfl rfl ?_
    refine XS.aload X15.here hx rfl (hb hby at_90) rfl rfl ?_
    show own_St p e below T15 m 92 #[vI (p1), vI (p2), vI (p3), vI (p4), vI (p5), vI ((4 : Int32)), vI (c0_), vI (c1_), vI (c2_), vI (c3_), vR (b2), .unset, .unset, .unset, .unset] [(.ref b2), (.ref b15), (.ref b15)] _
    refine st18.trans ?_
    show own_St p e below T18 m 95 #[vI (p1), vI (p2), vI (p3), vI (p4), vI (p5), vI ((4 : Int32)), vI (c0_), vI (c1_), vI (c2_), vI (c3_), vR (b2), .unset, .unset, .unset, .unset] [(.ref b15)] _
    refine XS.astore X18.here hx rfl (hb hby at_95) rfl rfl (l' := #[vI (p1), vI (p2), vI (p3), vI (p4), vI (p5), vI ((4 : Int32)), vI (c0_), vI (c1_), vI (c2_), vI (c3_), vR (b2), vR (b15), .unset, .unset, .unset]) rfl ?_
    refine XS.iconst X18.here hx rfl (hb hby at_97) ?_
    show own_St p e below T18 m 98 #[vI (p1), vI (p2), vI (p3), vI (p4), vI (p5), vI ((4 : Int32)), vI (c0_), vI (c1_), vI (c2_), vI (c3_), vR (b2), vR (b15), .unset, .unset, .unset] [(.int (4 : Int32))] _
    refine st21 _ ?_
    show own_St p e below T21 m 100 #[vI (p1), vI (p2), vI (p3), vI (p4), vI (p5), vI ((4 : Int32)), vI (c0_), vI (c1_), vI (c2_), vI (c3_), vR (b2), vR (b15), .unset, .unset, .unset] [(.ref b21)] _
    refine XS.astore X21.here hx rfl (hb hby at_100) rfl rfl (l' := #[vI (p1), vI (p2), vI (p3), vI (p4), vI (p5), vI ((4 : Int32)), vI (c0_), vI (c1_), vI (c2_), vI (c3_), vR (b2), vR (b15), vR (b21), .unset, .unset]) rfl ?_
    refine XS.iconst X21.here hx rfl (hb hby at_102) ?_
    refine XS.istore X21.here hx rfl (hb hby at_103) rfl (l' := #[vI (p1), vI (p2), vI (p3), vI (p4), vI (p5), vI ((4 : Int32)), vI (c0_), vI (c1_), vI (c2_), vI (c3_), vR (b2), vR (b15), vR (b21), vI ((0 : Int32)), .unset]) rfl ?_
    refine XS.iload X21.here hx rfl (hb hby at_105) rfl ?_
    refine XS.ifNo X21.here hx rfl (hb hby at_107) rfl ((if0 _ _).trans (tlt (by decide : (0 : Int32) < (4 : Int32))).2.2.2) ?_
    refine XS.aload X21.here hx rfl (hb hby at_110) rfl rfl ?_
    refine XS.iload X21.here hx rfl (hb hby at_112) rfl ?_
    refine XS.iload X21.here hx rfl (hb hby at_114) rfl ?_
    show own_St p e below T21 m 116 #[vI (p1), vI (p2), vI (p3), vI (p4), vI (p5), vI ((4 : Int32)), vI (c0_), vI (c1_), vI (c2_), vI (c3_), vR (b2), vR (b15), vR (b21), vI ((0 : Int32)), .unset] [(.int c0_), (.int (0 : Int32)), (.ref b21)] _
    refine st25 _ ?_
    show own_St p e below T25 m 119 #[vI (p1), vI (p2), vI (p3), vI (p4), vI (p5), vI ((4 : Int32)), vI (c0_), vI (c1_), vI (c2_), vI (c3_), vR (b2), vR (b15), vR (b21), vI ((0 : Int32)), .unset] [(.int (own_pt [] c0_).length.toInt32)] _
    refine XS.istore X25.here hx rfl (hb hby at_119) rfl (l' := #[vI (p1), vI (p2), vI (p3), vI (p4), vI (p5), vI ((4 : Int32)), vI (c0_), vI (c1_), vI (c2_), vI (c3_), vR (b2), vR (b15), vR (b21), vI ((own_pt [] c0_).length.toInt32), .unset]) rfl ?_
    refine XS.iload X25.here hx rfl (hb hby at_121) rfl ?_
    refine XS.iconst X25.here hx rfl (hb hby at_123) ?_
    refine XS.icmpNo X25.here hx rfl (hb hby at_124) rfl (tlt (by decide : (1 : Int32) < (4 : Int32))).2.2.2 ?_
    refine XS.aload X25.here hx rfl (hb hby at_127) rfl rfl ?_
    refine XS.iload X25.here hx rfl (hb hby at_129) rfl ?_
    refine XS.iload X25.here hx rfl (hb hby at_131) rfl ?_
    show own_St p e below T25 m 133 #[vI (p1), vI (p2), vI (p3), vI (p4), vI (p5), vI ((4 : Int32)), vI (c0_), vI (c1_), vI (c2_), vI (c3_), vR (b2), vR (b15), vR (b21), vI ((own_pt [] c0_).length.toInt32), .unset] [(.int c1_), (.int (own_pt [] c0_).length.toInt32), (.ref b21)] _
    refine st28 _ ?_
    show own_St p e below T28 m 136 #[vI (p1), vI (p2), vI (p3), vI (p4), vI (p5), vI ((4 : Int32)), vI (c0_), vI (c1_), vI (c2_), vI (c3_), vR (b2), vR (b15), vR (b21), vI ((own_pt [] c0_).length.toInt32), .unset] [(.int (own_pt (own_pt [] c0_) c1_).length.toInt32)] _
    refine XS.istore X28.here hx rfl (hb hby at_136) rfl (l' := #[vI (p1), vI (p2), vI (p3), vI (p4), vI (p5), vI ((4 : Int32)), vI (c0_), vI (c1_), vI (c2_), vI (c3_), vR (b2), vR (b15), vR (b21), vI ((own_pt (own_pt [] c0_) c1_).length.toInt32), .unset]) rfl ?_
    refine XS.iload X28.here hx rfl (hb hby at_138) rfl ?_
    refine XS.iconst X28.here hx rfl (hb hby at_140) ?_
    refine XS.icmpNo X28.here hx rfl (hb hby at_141) rfl (tlt (by decide : (2 : Int32) < (4 : Int32))).2.2.2 ?_
    refine XS.aload X28.here hx rfl (hb hby at_144) rfl rfl ?_
    refine XS.iload X28.here hx rfl (hb hby at_146) rfl ?_
    refine XS.iload X28.here hx rfl (hb hby at_148) rfl ?_
    show own_St p e below T28 m 150 #[vI (p1), vI (p2), vI (p3), vI (p4), vI (p5), vI ((4 : Int32)), vI (c0_), vI (c1_), vI (c2_), vI (c3_), vR (b2), vR (b15), vR (b21), vI ((own_pt (own_pt [] c0_) c1_).length.toInt32), .unset] [(.int c2_), (.int (own_pt (own_pt [] c0_) c1_).length.toInt32), (.ref b21)] _
    refine st31 _ ?_
    show own_St p e below T31 m 153 #[vI (p1), vI (p2), vI (p3), vI (p4), vI (p5), vI ((4 : Int32)), vI (c0_), vI (c1_), vI (c2_), vI (c3_), vR (b2), vR (b15), vR (b21), vI ((own_pt (own_pt [] c0_) c1_).length.toInt32), .unset] [(.int (own_pt (own_pt (own_pt [] c0_) c1_) c2_).length.toInt32)] _
    refine XS.istore X31.here hx rfl (hb hby at_153) rfl (l' := #[vI (p1), vI (p2), vI (p3), vI (p4), vI (p5), vI ((4 : Int32)), vI (c0_), vI (c1_), vI (c2_), vI (c3_), vR (b2), vR (b15), vR (b21), vI ((own_pt (own_pt (own_pt [] c0_) c1_) c2_).length.toInt32), .unset]) rfl ?_
    refine XS.iload X31.here hx rfl (hb hby at_155) rfl ?_
    refine XS.iconst X31.here hx rfl (hb hby at_157) ?_
    refine XS.icmpNo X31.here hx rfl (hb hby at_158) rfl (tlt (by decide : (3 : Int32) < (4 : Int32))).2.2.2 ?_
    refine XS.aload X31.here hx rfl (hb hby at_161) rfl rfl ?_
    refine XS.iload X31.here hx rfl (hb hby at_163) rfl ?_
    refine XS.iload X31.here hx rfl (hb hby at_165) rfl ?_
    show own_St p e below T31 m 167 #[vI (p1), vI (p2), vI (p3), vI (p4), vI (p5), vI ((4 : Int32)), vI (c0_), vI (c1_), vI (c2_), vI (c3_), vR (b2), vR (b15), vR (b21), vI ((own_pt (own_pt (own_pt [] c0_) c1_) c2_).length.toInt32), .unset] [(.int c3_), (.int (own_pt (own_pt (own_pt [] c0_) c1_) c2_).length.toInt32), (.ref b21)] _
    refine st34 _ ?_
    show own_St p e below T34 m 170 #[vI (p1), vI (p2), vI (p3), vI (p4), vI (p5), vI ((4 : Int32)), vI (c0_), vI (c1_), vI (c2_), vI (c3_), vR (b2), vR (b15), vR (b21), vI ((own_pt (own_pt (own_pt [] c0_) c1_) c2_).length.toInt32), .unset] [(.int (own_pt (own_pt (own_pt (own_pt [] c0_) c1_) c2_) c3_).length.toInt32)] _
    refine XS.istore X34.here hx rfl (hb hby at_170) rfl (l' := #[vI (p1), vI (p2), vI (p3), vI (p4), vI (p5), vI ((4 : Int32)), vI (c0_), vI (c1_), vI (c2_), vI (c3_), vR (b2), vR (b15), vR (b21), vI ((own_pt (own_pt (own_pt (own_pt [] c0_) c1_) c2_) c3_).length.toInt32), .unset]) rfl ?_
    refine XS.aload X34.here hx rfl (hb hby at_172) rfl rfl ?_
    show own_St p e below T34 m 174 #[vI (p1), vI (p2), vI (p3), vI (p4), vI (p5), vI ((4 : Int32)), vI (c0_), vI (c1_), vI (c2_), vI (c3_), vR (b2), vR (b15), vR (b21), vI ((own_pt (own_pt (own_pt (own_pt [] c0_) c1_) c2_) c3_).length.toInt32), .unset] [(.ref b15)] _
    refine st37 _ ?_
    show own_St p e below T37 m 177 #[vI (p1), vI (p2), vI (p3), vI (p4), vI (p5), vI ((4 : Int32)), vI (c0_), vI (c1_), vI (c2_), vI (c3_), vR (b2), vR (b15), vR (b21), vI ((own_pt (own_pt (own_pt (own_pt [] c0_) c1_) c2_) c3_).length.toInt32), .unset] [(.ref t37)] _
    refine XS.astore X37.here hx rfl (hb hby at_177) rfl rfl (l' := #[vI (p1), vI (p2), vI (p3), vI (p4), vI (p5), vI ((4 : Int32)), vI (c0_), vI (c1_), vI (c2_), vI (c3_), vR (b2), vR (b15), vR (b21), vI ((own_pt (own_pt (own_pt (own_pt [] c0_) c1_) c2_) c3_).length.toInt32), vR (t37)]) rfl ?_
    show own_St p e below T37 m 179 #[vI (p1), vI (p2), vI (p3), vI (p4), vI (p5), vI ((4 : Int32)), vI (c0_), vI (c1_), vI (c2_), vI (c3_), vR (b2), vR (b15), vR (b21), vI ((own_flt [c0_, c1_, c2_, c3_]).length.toInt32), vR (t37)] [] _
    refine XS.aload X37.here hx rfl (hb hby at_179) rfl rfl ?_
    refine XS.ifnullNo X37.here hx rfl (hb hby at_181) rfl ?_
    refine XS.aload X37.here hx rfl (hb hby at_184) rfl rfl ?_
    show own_St p e below T37 m 186 #[vI (p1), vI (p2), vI (p3), vI (p4), vI (p5), vI ((4 : Int32)), vI (c0_), vI (c1_), vI (c2_), vI (c3_), vR (b2), vR (b15), vR (b21), vI ((own_flt [c0_, c1_, c2_, c3_]).length.toInt32), vR (t37)] [(.ref t37)] _
    refine st41.trans ?_
    show own_St p e below T41 m 189 #[vI (p1), vI (p2), vI (p3), vI (p4), vI (p5), vI ((4 : Int32)), vI (c0_), vI (c1_), vI (c2_), vI (c3_), vR (b2), vR (b15), vR (b21), vI ((own_flt [c0_, c1_, c2_, c3_]).length.toInt32), vR (t37)] [(.int (own_flt [c0_, c1_, c2_, c3_]).length.toInt32)] _
    refine XS.iload X41.here hx rfl (hb hby at_189) rfl ?_
    refine XS.icmpYes X41.here hx rfl (pc0 := 191) (pc' := 196) rfl (hb hby at_191) rfl (teq (rfl : (own_flt [c0_, c1_, c2_, c3_]).length.toInt32 = (own_flt [c0_, c1_, c2_, c3_]).length.toInt32)).1 (by decide) (by decide) ?_
    show own_St p e below T41 m 196 #[vI (p1), vI (p2), vI (p3), vI (p4), vI (p5), vI ((4 : Int32)), vI (c0_), vI (c1_), vI (c2_), vI (c3_), vR (b2), vR (b15), vR (b21), vI ((own_flt [c0_, c1_, c2_, c3_]).length.toInt32), vR (t37)] [] _
    refine st42 _ ?_
    show own_St p e below T42 m 212 #[vI (p1), vI (p2), vI (p3), vI (p4), vI (p5), vI ((4 : Int32)), vI (c0_), vI (c1_), vI (c2_), vI (c3_), vR (b2), vR (b15), vR (b21), vI ((own_flt [c0_, c1_, c2_, c3_]).length.toInt32), vR (t37)] [] _
    refine st43 _ ?_
    show own_St p e below T43 m 269 #[vI (p1), vI (p2), vI (p3), vI (p4), vI (p5), vI ((4 : Int32)), vI (c0_), vI (c1_), vI (c2_), vI (c3_), vR (b2), vR (b15), vR (b21), vI ((own_flt [c0_, c1_, c2_, c3_]).length.toInt32), vR (t37)] [(.int (1 : Int32))] _
    exact retN X43 hx (t := .boolean) Bd.returns (by simp) (hb hby at_269) hr
  · show own_Qk (some (.int (1 : Int32))) [] h0 n0 _ T43.heap _
    rw [e43]
    exact ⟨rfl, N43, K37⟩
theorem own_wide {l : Launch} {Z : State} {h0 : Heap} {n0 : Nat} {S : Spec} {A : Array Value} {k n : Nat} (h : MetFree l x S (fun a U => a = A ∧ Z.Warmed39 U.vm ∧ U.heap = h0) (fun _ _ _ _ _ => True) (fun _ U o U' => ∃ v L, o = .returned v ∧ own_Qk (some (.int (1 : Int32))) [] h0 n0 v U'.heap L ∧ FrameEnd U o U' L k n)) : MetFree l x S (fun a U => a = A ∧ Z.Warmed39 U.vm ∧ U.heap = h0 ∧ CHv Z own_EL U.vm h0) (fun _ _ _ _ _ => True) (fun _ U o U' => ∃ v L, o = .returned v ∧ own_Qk (some (.int (1 : Int32))) [] h0 n0 v U'.heap L ∧ ReturnedEndW U o U' L k n) :=
  h.mono (fun _ _ q => ⟨q.1, q.2.1, q.2.2.1⟩) (fun _ _ _ _ _ q => q) (fun _ _ _ _ _ ⟨v, L, h1, h2, h3⟩ => ⟨v, L, h1, h2, ReturnedEndW.of_narrow h3.1 h3.2.1 h3.2.2⟩)
theorem own_drop {l : Launch} {Z : State} {h0 : Heap} {n0 : Nat} {S : Spec} {A : Array Value} {k n : Nat} (h : MetFree l x S (fun a U => a = A ∧ Z.Warmed39 U.vm ∧ U.heap = h0 ∧ CHv Z own_EL U.vm h0) (fun _ _ _ _ _ => True) (fun _ U o U' => ∃ v L, o = .returned v ∧ own_Qk (some (.int (1 : Int32))) [] h0 n0 v U'.heap L ∧ CHr Z own_EL U.vm U.heap U'.vm U'.heap ∧ ReturnedEndW U o U' L k n)) : MetFree l x S (fun a U => a = A ∧ Z.Warmed39 U.vm ∧ U.heap = h0 ∧ CHv Z own_EL U.vm h0) (fun _ _ _ _ _ => True) (fun _ U o U' => ∃ v L, o = .returned v ∧ own_Qk (some (.int (1 : Int32))) [] h0 n0 v U'.heap L ∧ ReturnedEndW U o U' L k n) :=
  h.mono (fun _ _ q => q) (fun _ _ _ _ _ q => q) (fun _ _ _ _ _ ⟨v, L, h1, h2, _, h3⟩ => ⟨v, L, h1, h2, h3⟩)
theorem own_law (l : Launch) (Z : State) (a0 : Array Value) (hw : own_HW a0 Z) (ws : List Jvm.Cond) (cs1 : Int32) (fv : Value) (h0 : Heap) (n0 : Nat) (O0 : Old Z n0 h0) (G : own_Ctx Z Z.heap cs1 fv) (hEL : EW Z a0 own_EL) (wS : ∀ a ∈ Bundle.stringAtoms, a.before a0 Z = true) (p1 p2 p3 p4 p5 : Int32) : MetFree l x (head1 (Jvm.Cond.code x code maxLocals ret :: ws) room_1) (fun a U => a = #[(.int p1), (.int p2), (.int p3), (.int p4), (.int p5)] ∧ Z.Warmed39 U.vm ∧ U.heap = h0 ∧ CHv Z own_EL U.vm h0) (fun _ _ _ _ _ => True) (fun _ U o U' => ∃ v L, o = .returned v ∧ own_Qk (some (.int (1 : Int32))) [] h0 n0 v U'.heap L ∧ ReturnedEndW U o U' L 32 1216) := by
  rcases own_mod5 p1 with hl | hl | hl | hl | hl
  · exact own_drop (r_law0 l Z a0 hw ws cs1 fv h0 n0 O0 G hEL wS p1 p2 p3 p4 p5 _ _ _ _ hl rfl (own_drB p2).1 (own_drB p2).2 rfl (own_drB p3).1 (own_drB p3).2 rfl (own_drB p4).1 (own_drB p4).2 rfl (own_drB p5).1 (own_drB p5).2)
  · exact own_wide (r_law1 l Z a0 hw ws cs1 fv h0 n0 O0 G p1 p2 p3 p4 p5 _ _ _ _ hl rfl (own_drB p2).1 (own_drB p2).2 rfl (own_drB p3).1 (own_drB p3).2 rfl (own_drB p4).1 (own_drB p4).2 rfl (own_drB p5).1 (own_drB p5).2)
  · exact own_wide (r_law2 l Z a0 hw ws cs1 fv h0 n0 O0 G p1 p2 p3 p4 p5 _ _ _ _ hl rfl (own_drB p2).1 (own_drB p2).2 rfl (own_drB p3).1 (own_drB p3).2 rfl (own_drB p4).1 (own_drB p4).2 rfl (own_drB p5).1 (own_drB p5).2)
  · exact own_wide (r_law3 l Z a0 hw ws cs1 fv h0 n0 O0 G p1 p2 p3 p4 p5 _ _ _ _ hl rfl (own_drB p2).1 (own_drB p2).2 rfl (own_drB p3).1 (own_drB p3).2 rfl (own_drB p4).1 (own_drB p4).2 rfl (own_drB p5).1 (own_drB p5).2)
  · exact own_wide (r_law4 l Z a0 hw ws cs1 fv h0 n0 O0 G p1 p2 p3 p4 p5 _ _ _ _ hl rfl (own_drB p2).1 (own_drB p2).2 rfl (own_drB p3).1 (own_drB p3).2 rfl (own_drB p4).1 (own_drB p4).2 rfl (own_drB p5).1 (own_drB p5).2)
theorem comes_1 {Post : Tables → Env → Array Value → State → Outcome → State → Prop} (hpost : ∀ tb e args s v u, (limb_1_1.after args s (.returned v) u = true ∧ limb_1_2.after args s (.returned v) u = true ∧ True) → ReturnedEndW s (.returned v) u (Jvm.fieldLocs frame_1_writes args s ++ Jvm.arrayLocs frame_1_arrays args s ++ Jvm.staticLocs frame_1_statics s) 32 1216 → Post tb e args s (.returned v) u) :
    ArmFor flags0 classFile x code maxLocals ret World_1 tables_1 room_1 Calls_1 rest_1 Pre_1 Post := by
  intro l hfl _ _ p e ha hc hk s m args below hf hA hF happ hP
  obtain ⟨hcalls, hrest, hpre⟩ := hP
  obtain ⟨-, -, -, hnamed, -, -, -, hat⟩ := (Spec.applies_iff hf).mp happ
  obtain ⟨hg, hn⟩ := and_e (Cond.before_iff.mp (show (Jvm.Cond.and given_1 narrow_1).before args s = true from hpre))
  obtain ⟨hg0, hg1⟩ := and_e hg
  obtain ⟨hg10, hg11⟩ := and_e hg1
  obtain ⟨hg110, hg111⟩ := and_e hg11
  obtain ⟨hg1110, hg1111⟩ := and_e hg111
  obtain ⟨hg11110, hg11111⟩ := and_e hg1111
  obtain ⟨w0, w1, w2, w3, w4, rfl⟩ : ∃ w0 w1 w2 w3 w4 : Value, args = #[w0, w1, w2, w3, w4] := by
    have hs : args.size = 5 := by simpa [Cond.value, given_1] using hg0
    obtain ⟨L⟩ := args
    match L, hs with
    | [w0, w1, w2, w3, w4], _ => exact ⟨w0, w1, w2, w3, w4, rfl⟩
  obtain ⟨i0, ei0⟩ := is_v hg10
  obtain rfl : w0 = (.int i0) := Option.some.inj ei0
  obtain ⟨i1, ei1⟩ := is_v hg110
  obtain rfl : w1 = (.int i1) := Option.some.inj ei1
  obtain ⟨i2, ei2⟩ := is_v hg1110
  obtain rfl : w2 = (.int i2) := Option.some.inj ei2
  obtain ⟨i3, ei3⟩ := is_v hg11110
  obtain rfl : w3 = (.int i3) := Option.some.inj ei3
  obtain ⟨i4, ei4⟩ := is_v hg11111
  obtain rfl : w4 = (.int i4) := Option.some.inj ei4
  have hw := fun d (hd : d ∈ tables_1) => atoms_spec (ws := Jvm.Cond.code x code maxLocals ret :: tables_1) hat d (List.mem_cons_of_mem _ hd)
  have hfit : Fit s := fun {y c} hc i hi => by
    obtain ⟨ha, rfl⟩ := Array.getElem?_eq_some_iff.mp hc
    have q := List.all_eq_true.mp ((Array.all_eq_true_iff_forall_mem.mp hF) _ (Array.getElem_mem ha)) i (List.mem_range.mpr hi)
    simpa [Array.getElem?_eq_getElem hi] using q
  obtain ⟨hsets, hown0⟩ := atoms_of _ (rest_1_c_eq ▸ (show rest_1_c.before _ s = true from hrest))
  obtain ⟨cs1, ev_cs⟩ := is_v (Cond.before_iff.mp (hsets _ (List.mem_of_getElem? (i := 1) rfl)))
  have S_CS := Sta.start ev_cs (Or.inl (hsets _ (List.mem_of_getElem? (i := 0) rfl)))
  have N_CS : ¬ (cs1 = (0 : Int32)) := fun q => by
    have z := not_v (Cond.before_iff.mp (hsets _ (List.mem_of_getElem? (i := 2) rfl)))
    rw [eq_i ev_cs (Term.int_eval 0) (congrArg Value.int q)] at z
    simp at z
  obtain ⟨fv, ev_fv, R_F⟩ := isR_v (Cond.before_iff.mp (hsets _ (List.mem_of_getElem? (i := 8) rfl)))
  have S_F := Sta.start ev_fv (Or.inl (hsets _ (List.mem_of_getElem? (i := 7) rfl)))
  have S_AD := Sta.start (own_eqI (Cond.before_iff.mp (hsets _ (List.mem_of_getElem? (i := 12) rfl)))) (Or.inl (hsets _ (List.mem_of_getElem? (i := 11) rfl)))
  have S_HI := Sta.start (own_eqI (Cond.before_iff.mp (hsets _ (List.mem_of_getElem? (i := 15) rfl)))) (Or.inl (hsets _ (List.mem_of_getElem? (i := 14) rfl)))
  have S_LO := Sta.start (own_eqI (Cond.before_iff.mp (hsets _ (List.mem_of_getElem? (i := 18) rfl)))) (Or.inl (hsets _ (List.mem_of_getElem? (i := 17) rfl)))
  have G : own_Ctx s s.heap cs1 fv := ⟨S_CS, N_CS, S_F, R_F, S_AD, S_HI, S_LO⟩
  have hEL : EW s #[(.int i0), (.int i1), (.int i2), (.int i3), (.int i4)] own_EL := EW.cons (own_w hw 19 rfl) (fun c h => by simp at h) EW.nil
  have wS : ∀ a ∈ Bundle.stringAtoms, a.before #[(.int i0), (.int i1), (.int i2), (.int i3), (.int i4)] s = true := fun a ha => by
    simp only [Bundle.stringAtoms, List.mem_cons, List.not_mem_nil, or_false] at ha
    rcases ha with rfl | rfl | rfl | rfl | rfl | rfl | rfl
    · exact (own_w hw 8 rfl)
    · exact (own_w hw 7 rfl)
    · exact (own_w hw 20 rfl)
    · exact (own_w hw 21 rfl)
    · exact (own_w hw 22 rfl)
    · exact (own_w hw 23 rfl)
    · exact (own_w hw 24 rfl)
  have hCH : CHv s own_EL s.vm s.heap := CHv.start hEL (fun q hq => by
    obtain rfl : q = ("java/lang/String", 7) := List.mem_singleton.mp hq
    exact hcalls.1 _ (List.mem_singleton.mpr rfl)) (hsets _ (List.mem_of_getElem? (i := 2) rfl)) (own_w hw 20 rfl) (own_w hw 7 rfl)
  obtain ⟨n, o, h1, h2, h3, _, L, rfl, ⟨rfl, N, -⟩, hq⟩ := own_law l s _ hw tables_1 cs1 fv s.heap s.heap.size (Old.start s) G hEL wS i0 i1 i2 i3 i4 p e ha hc hk s m _ below hf ((Spec.applies_iff_loose hf).mp happ).1 ⟨rfl, State.Warmed39.refl s, rfl, hCH⟩ trivial
  refine ⟨n, _, h1, h2, h3, hpost _ _ _ _ _ _ ⟨Cond.after_iff.mpr rfl, Cond.after_iff.mpr (eq_i res_at (Term.int_eval (1)) rfl), trivial⟩ ⟨hq.1, hq.2.1, hq.2.2.1, (hq.2.2.2.sift fun y hy => Or.inr (N y hy)).mono (by decide) (by decide)⟩⟩
theorem main_1_1 : Claimed_1_1 := comes_1 fun _ _ _ _ _ _ h hF => ⟨h.1, hF⟩
theorem main_1_2 : Claimed_1_2 := comes_1 fun _ _ _ _ _ _ h hF => ⟨h.2.1, hF⟩
end Jvm.Pilot.@@N@@
namespace Jvm.Pilot.@@N@@
open Jvm Jvm.ClassFile Sem Op Lib Jvm.Free Jvm.Stand Jvm.Pilot.@@N@@.Jvm.D
/-! MADE BY PROGRAM (witnessworld.py) out of the Statement's table words and the real class files: 26 classes; the members and pool entries that the words name. The judged class is class 1, her method 5. -/
namespace start1
open Jvm.ClassFile
def u (s : String) : CpInfo := .utf8 (stringToUtf16 s)
/-- a pool by its gaps: so many unusable entries, then the entry; so many at the end -/
def gap : Nat → List CpInfo → List CpInfo
  | 0, r => r
  | n + 1, r => .unusable :: gap n r
def poolList (es : List (Nat × CpInfo)) (last : Nat) : List CpInfo := es.foldr (fun e r => gap e.1 (e.2 :: r)) (gap last [])
def pool (es : List (Nat × CpInfo)) (last : Nat) : Array CpInfo := ⟨poolList es last⟩
def fileOf (pool : Array CpInfo) (this : Nat) (attrs : Array Attribute := #[]) (ms : Array MethodInfo := #[]) (fl : Nat := 33) (sup : Nat := 0) (ifs : Array Nat := #[]) (fds : Array FieldInfo := #[]) : ClassFile where
  minorVersion := 0
  majorVersion := 65
  constantPool := pool
  accessFlags := fl
  thisClass := this
  superClass := sup
  interfaces := ifs
  fields := fds
  methods := ms
  attributes := attrs
def plain (name : String) (sup : Option ClassId) : Class where
  name := name
  kind := .ordinary
  loader := none
  accessFlags := 33
  super := sup
  interfaces := #[]
  cf := none
  fields := #[]
  methods := #[]
  instanceTypes := #[]
  staticTypes := #[]
  resolved := #[]
  callSites := []
  init := .initialized
  statics := none
  mirror := none

def pool0 : Array CpInfo := pool [(5, u "<init>"), (0, u "()V"), (1, .class_ 10), (1, u "java/lang/Object")] 113

def k0c0 : Code := { maxStack := 0, maxLocals := 1, code := object_method_1_code, exceptionTable := #[], attributes := #[] }
def k0m0 : Method := { name := "<init>", desc := "()V", sig := { parameters := [], returnType := none }, accessFlags := 1, code := some k0c0 }
/-- java/lang/Object -/
def k0 : Class := { plain "java/lang/Object" none with
  accessFlags := 33
  interfaces := #[]
  cf := some (fileOf pool0 8 #[] #[{ accessFlags := 1, nameIndex := 5, descriptorIndex := 6, attributes := #[] }] 33 0 #[] #[])
  fields := #[]
  methods := #[k0m0]
  instanceTypes := #[]
  staticTypes := #[]
  resolved := Array.replicate 124 none
  statics := none }

def pool1 : Array CpInfo := pool [(2, .class_ 4), (1, u "java/lang/Object"), (0, u "<init>"), (0, u "()V"), (0, .integer 65535), (0, .methodref 9 10), (0, .class_ 11), (0, .nameAndType 12 13), (0, u "com/example/rubrique/rubrique/render/NonSortMarkersRemovePinLaw"), (0, u "isMarker"), (0, u "(C)Z"), (0, .methodref 15 16), (0, .class_ 17), (0, .nameAndType 18 19), (0, u "java/lang/String"), (0, u "charAt"), (0, u "(I)C"), (0, .integer 2147483647), (0, .methodref 9 22), (0, .nameAndType 23 19), (0, u "draw"), (0, .methodref 15 25), (0, .nameAndType 5 26), (0, u "([C)V"), (0, .methodref 9 28), (0, .nameAndType 29 30), (0, u "put"), (0, u "([CIC)I"), (0, .methodref 32 33), (0, .class_ 34), (0, .nameAndType 35 36), (0, u "com/example/rubrique/rubrique/render/NonSortMarkers"), (0, u "remove"), (0, u "(Ljava/lang/String;)Ljava/lang/String;"), (0, .methodref 15 38), (0, .nameAndType 39 40), (0, u "length"), (0, u "()I"), (0, .methodref 9 42), (0, .nameAndType 43 44), (0, u "same"), (0, u "(Ljava/lang/String;[CII)Z"), (3, u "law"), (0, u "(IIIII)Z")] 4

def k1m0 : Method := { name := "<init>", desc := "()V", sig := { parameters := [], returnType := none }, accessFlags := 2, code := none }
def k1c1 : Code := { maxStack := 2, maxLocals := 1, code := method_2_code, exceptionTable := #[], attributes := #[] }
def k1m1 : Method := { name := "isMarker", desc := "(C)Z", sig := { parameters := [.char], returnType := some .boolean }, accessFlags := 10, code := some k1c1 }
def k1c2 : Code := { maxStack := 2, maxLocals := 2, code := method_3_code, exceptionTable := #[], attributes := #[] }
def k1m2 : Method := { name := "draw", desc := "(I)C", sig := { parameters := [.int], returnType := some .char }, accessFlags := 10, code := some k1c2 }
def k1c3 : Code := { maxStack := 3, maxLocals := 3, code := method_4_code, exceptionTable := #[], attributes := #[] }
def k1m3 : Method := { name := "put", desc := "([CIC)I", sig := { parameters := [(.array .char), .int, .char], returnType := some .int }, accessFlags := 10, code := some k1c3 }
def k1c4 : Code := { maxStack := 3, maxLocals := 4, code := method_5_code, exceptionTable := #[], attributes := #[] }
def k1m4 : Method := { name := "same", desc := "(Ljava/lang/String;[CII)Z", sig := { parameters := [(.object "java/lang/String"), (.array .char), .int, .int], returnType := some .boolean }, accessFlags := 10, code := some k1c4 }
def k1c5 : Code := { maxStack := 4, maxLocals := 15, code := code, exceptionTable := #[], attributes := #[] }
def k1m5 : Method := { name := "law", desc := "(IIIII)Z", sig := { parameters := [.int, .int, .int, .int, .int], returnType := some .boolean }, accessFlags := 9, code := some k1c5 }
/-- com/example/rubrique/rubrique/render/NonSortMarkersRemovePinLaw -/
def k1 : Class := { plain "com/example/rubrique/rubrique/render/NonSortMarkersRemovePinLaw" (some 0) with
  accessFlags := 49
  interfaces := #[]
  cf := some (fileOf pool1 9 #[] #[{ accessFlags := 2, nameIndex := 5, descriptorIndex := 6, attributes := #[] }, { accessFlags := 10, nameIndex := 12, descriptorIndex := 13, attributes := #[] }, { accessFlags := 10, nameIndex := 23, descriptorIndex := 19, attributes := #[] }, { accessFlags := 10, nameIndex := 29, descriptorIndex := 30, attributes := #[] }, { accessFlags := 10, nameIndex := 43, descriptorIndex := 44, attributes := #[] }, { accessFlags := 9, nameIndex := 48, descriptorIndex := 49, attributes := #[] }] 49 2 #[] #[])
  fields := #[]
  methods := #[k1m0, k1m1, k1m2, k1m3, k1m4, k1m5]
  instanceTypes := #[]
  staticTypes := #[]
  resolved := Array.replicate 54 none
  statics := none }

def pool2 : Array CpInfo := pool [(1, .class_ 2), (0, u "java/io/Serializable"), (0, .class_ 4), (0, u "java/lang/Object")] 2

/-- java/io/Serializable -/
def k2 : Class := { plain "java/io/Serializable" (some 0) with
  accessFlags := 1537
  interfaces := #[]
  cf := some (fileOf pool2 1 #[] #[] 1537 3 #[] #[])
  fields := #[]
  methods := #[]
  instanceTypes := #[]
  staticTypes := #[]
  resolved := Array.replicate 7 none
  statics := none }

def pool3 : Array CpInfo := pool [(1, .class_ 2), (0, u "java/lang/Comparable"), (0, .class_ 4), (0, u "java/lang/Object")] 7

/-- java/lang/Comparable -/
def k3 : Class := { plain "java/lang/Comparable" (some 0) with
  accessFlags := 1537
  interfaces := #[]
  cf := some (fileOf pool3 1 #[] #[] 1537 3 #[] #[])
  fields := #[]
  methods := #[]
  instanceTypes := #[]
  staticTypes := #[]
  resolved := Array.replicate 12 none
  statics := none }

def pool4 : Array CpInfo := pool [(2, .class_ 4), (1, u "java/lang/CharSequence"), (42, .class_ 48), (0, u "java/lang/CharSequence$1CodePointIterator"), (10, .class_ 60), (0, u "java/lang/CharSequence$1CharIterator"), (5, .class_ 67), (0, u "java/lang/Object")] 63

/-- java/lang/CharSequence -/
def k4 : Class := { plain "java/lang/CharSequence" (some 0) with
  accessFlags := 1537
  interfaces := #[]
  cf := some (fileOf pool4 2 #[.nestMembers #[47, 59]] #[] 1537 66 #[] #[])
  fields := #[]
  methods := #[]
  instanceTypes := #[]
  staticTypes := #[]
  resolved := Array.replicate 131 none
  statics := none }

def pool5 : Array CpInfo := pool [(1, .class_ 2), (0, u "java/lang/constant/Constable"), (0, .class_ 4), (0, u "java/lang/Object")] 6

/-- java/lang/constant/Constable -/
def k5 : Class := { plain "java/lang/constant/Constable" (some 0) with
  accessFlags := 1537
  interfaces := #[]
  cf := some (fileOf pool5 1 #[] #[] 1537 3 #[] #[])
  fields := #[]
  methods := #[]
  instanceTypes := #[]
  staticTypes := #[]
  resolved := Array.replicate 11 none
  statics := none }

def pool6 : Array CpInfo := pool [(1, .class_ 2), (0, u "java/lang/constant/ConstantDesc"), (0, .class_ 4), (0, u "java/lang/Object")] 32

/-- java/lang/constant/ConstantDesc -/
def k6 : Class := { plain "java/lang/constant/ConstantDesc" (some 0) with
  accessFlags := 1537
  interfaces := #[]
  cf := some (fileOf pool6 1 #[] #[] 1537 3 #[] #[])
  fields := #[]
  methods := #[]
  instanceTypes := #[]
  staticTypes := #[]
  resolved := Array.replicate 37 none
  statics := none }

def pool7 : Array CpInfo := pool [(1, .methodref 2 3), (0, .class_ 4), (0, .nameAndType 5 6), (0, u "java/lang/Object"), (0, u "<init>"), (0, u "()V"), (0, .string 8), (0, u ""), (0, .fieldref 10 11), (0, .class_ 12), (0, .nameAndType 13 14), (0, u "java/lang/String"), (0, u "value"), (0, u "[B"), (0, .fieldref 10 16), (0, .nameAndType 17 18), (0, u "coder"), (0, u "B"), (2, u "hash"), (0, u "I"), (2, u "hashIsZero"), (0, u "Z"), (0, .methodref 10 28), (0, .nameAndType 5 29), (0, u "([CIILjava/lang/Void;)V"), (6, u "checkBoundsOffCount"), (0, u "(III)I"), (0, .fieldref 10 39), (0, .nameAndType 40 26), (0, u "COMPACT_STRINGS"), (1, .class_ 44), (1, u "java/lang/StringUTF16"), (0, u "compress"), (1, .methodref 42 48), (0, .nameAndType 49 50), (0, u "coderFromArrayLen"), (0, u "([BI)B"), (3, .methodref 55 56), (0, .class_ 57), (0, .nameAndType 58 59), (0, u "java/util/Arrays"), (0, u "copyOfRange"), (0, u "([BII)[B"), (47, .class_ 109), (1, u "java/lang/StringLatin1"), (32, u "()Z"), (34, .methodref 42 178), (0, .nameAndType 45 179), (0, u "([CII)[B"), (154, u "()I"), (0, .methodref 10 336), (0, .nameAndType 17 337), (0, u "()B"), (2, u "()[B"), (22, u "([BI)C"), (27, u "(II)V"), (35, u "(I)C"), (61, .methodref 10 490), (0, .nameAndType 5 491), (0, u "(Ljava/lang/AbstractStringBuilder;Ljava/lang/Void;)V"), (0, .methodref 10 493), (0, .nameAndType 494 142), (0, u "isLatin1"), (0, .methodref 107 496), (0, .nameAndType 497 363), (0, u "charAt"), (0, .methodref 42 496), (2, u "checkIndex"), (3, .methodref 10 506), (0, .nameAndType 507 334), (0, u "length"), (5, u "checkFromToIndex"), (9, u "checkBoundsBeginEnd"), (0, u "(III)V"), (24, .methodref 550 506), (0, .class_ 551), (0, u "java/lang/AbstractStringBuilder"), (0, .methodref 550 553), (0, .nameAndType 554 340), (0, u "getValue"), (20, .class_ 576), (0, u "java/lang/CharSequence"), (22, u "CASE_INSENSITIVE_ORDER"), (0, u "Ljava/util/Comparator;"), (32, .methodref 10 634), (0, .nameAndType 635 636), (0, u "indexOf"), (0, u "(II)I"), (0, .methodref 107 638), (0, .nameAndType 635 639), (0, u "([BIII)I"), (0, .methodref 42 638), (124, u "(I)I"), (244, u "([C)V"), (36, .methodref 550 493), (0, .fieldref 550 1049), (0, .nameAndType 1050 26), (0, u "maybeLatin1"), (2, .fieldref 1054 1055), (0, .class_ 1056), (0, .nameAndType 1057 1058), (0, u "jdk/internal/util/Preconditions"), (0, u "SIOOBE_FORMATTER"), (0, u "Ljava/util/function/BiFunction;"), (0, .methodref 1054 1060), (0, .nameAndType 501 1061), (0, u "(IILjava/util/function/BiFunction;)I"), (0, .methodref 1054 1063), (0, .nameAndType 513 1064), (0, u "(IIILjava/util/function/BiFunction;)I"), (0, .methodref 1054 1066), (0, .nameAndType 1067 1064), (0, u "checkFromIndexSize"), (33, u "serialPersistentFields"), (0, u "[Ljava/io/ObjectStreamField;"), (0, .class_ 1104), (0, u "java/lang/String$CaseInsensitiveComparator"), (1, .class_ 1107), (0, u "java/io/Serializable"), (0, .class_ 1109), (0, u "java/lang/Comparable"), (0, .class_ 1111), (0, u "java/lang/constant/Constable"), (0, .class_ 1113), (0, u "java/lang/constant/ConstantDesc"), (2, u "serialVersionUID"), (0, u "J"), (3, u "REPL"), (0, u "C"), (2, u "LATIN1"), (1, u "UTF16"), (105, u "(Ljava/lang/StringBuilder;)V")] 217

def k7m0 : Method := { name := "<init>", desc := "()V", sig := { parameters := [], returnType := none }, accessFlags := 1, code := none }
def k7c1 : Code := { maxStack := 5, maxLocals := 2, code := jdk_42_method_3_code, exceptionTable := #[], attributes := #[] }
def k7m1 : Method := { name := "<init>", desc := "([C)V", sig := { parameters := [(.array .char)], returnType := none }, accessFlags := 1, code := some k7c1 }
def k7c2 : Code := { maxStack := 3, maxLocals := 2, code := jdk_42_method_53_code, exceptionTable := #[], attributes := #[] }
def k7m2 : Method := { name := "<init>", desc := "(Ljava/lang/StringBuilder;)V", sig := { parameters := [(.object "java/lang/StringBuilder")], returnType := none }, accessFlags := 1, code := some k7c2 }
def k7c3 : Code := { maxStack := 2, maxLocals := 1, code := jdk_42_method_54_code, exceptionTable := #[], attributes := #[] }
def k7m3 : Method := { name := "length", desc := "()I", sig := { parameters := [], returnType := some .int }, accessFlags := 1, code := some k7c3 }
def k7c4 : Code := { maxStack := 2, maxLocals := 2, code := jdk_42_method_56_code, exceptionTable := #[], attributes := #[] }
def k7m4 : Method := { name := "charAt", desc := "(I)C", sig := { parameters := [.int], returnType := some .char }, accessFlags := 1, code := some k7c4 }
def k7c5 : Code := { maxStack := 3, maxLocals := 2, code := jdk_42_method_79_code, exceptionTable := #[], attributes := #[] }
def k7m5 : Method := { name := "indexOf", desc := "(I)I", sig := { parameters := [.int], returnType := some .int }, accessFlags := 1, code := some k7c5 }
def k7c6 : Code := { maxStack := 4, maxLocals := 3, code := jdk_42_method_80_code, exceptionTable := #[], attributes := #[] }
def k7m6 : Method := { name := "indexOf", desc := "(II)I", sig := { parameters := [.int, .int], returnType := some .int }, accessFlags := 1, code := some k7c6 }
def k7c7 : Code := { maxStack := 4, maxLocals := 6, code := jdk_42_method_149_code, exceptionTable := #[], attributes := #[] }
def k7m7 : Method := { name := "<init>", desc := "([CIILjava/lang/Void;)V", sig := { parameters := [(.array .char), .int, .int, (.object "java/lang/Void")], returnType := none }, accessFlags := 2, code := some k7c7 }
def k7c8 : Code := { maxStack := 5, maxLocals := 5, code := jdk_42_method_150_code, exceptionTable := #[], attributes := #[] }
def k7m8 : Method := { name := "<init>", desc := "(Ljava/lang/AbstractStringBuilder;Ljava/lang/Void;)V", sig := { parameters := [(.object "java/lang/AbstractStringBuilder"), (.object "java/lang/Void")], returnType := none }, accessFlags := 0, code := some k7c8 }
def k7c9 : Code := { maxStack := 1, maxLocals := 1, code := jdk_42_method_152_code, exceptionTable := #[], attributes := #[] }
def k7m9 : Method := { name := "coder", desc := "()B", sig := { parameters := [], returnType := some .byte }, accessFlags := 0, code := some k7c9 }
def k7c10 : Code := { maxStack := 1, maxLocals := 1, code := jdk_42_method_154_code, exceptionTable := #[], attributes := #[] }
def k7m10 : Method := { name := "isLatin1", desc := "()Z", sig := { parameters := [], returnType := some .boolean }, accessFlags := 0, code := some k7c10 }
def k7c11 : Code := { maxStack := 3, maxLocals := 2, code := jdk_42_method_155_code, exceptionTable := #[], attributes := #[] }
def k7m11 : Method := { name := "checkIndex", desc := "(II)V", sig := { parameters := [.int, .int], returnType := none }, accessFlags := 8, code := some k7c11 }
def k7c12 : Code := { maxStack := 4, maxLocals := 3, code := jdk_42_method_157_code, exceptionTable := #[], attributes := #[] }
def k7m12 : Method := { name := "checkBoundsOffCount", desc := "(III)I", sig := { parameters := [.int, .int, .int], returnType := some .int }, accessFlags := 8, code := some k7c12 }
def k7c13 : Code := { maxStack := 4, maxLocals := 3, code := jdk_42_method_158_code, exceptionTable := #[], attributes := #[] }
def k7m13 : Method := { name := "checkBoundsBeginEnd", desc := "(III)V", sig := { parameters := [.int, .int, .int], returnType := none }, accessFlags := 8, code := some k7c13 }
/-- java/lang/String -/
def k7 : Class := { plain "java/lang/String" (some 0) with
  accessFlags := 49
  interfaces := #[2, 3, 4, 5, 6]
  cf := some (fileOf pool7 10 #[.nestMembers #[1103]] #[{ accessFlags := 1, nameIndex := 5, descriptorIndex := 6, attributes := #[] }, { accessFlags := 1, nameIndex := 5, descriptorIndex := 1010, attributes := #[] }, { accessFlags := 1, nameIndex := 5, descriptorIndex := 1233, attributes := #[] }, { accessFlags := 1, nameIndex := 507, descriptorIndex := 334, attributes := #[] }, { accessFlags := 1, nameIndex := 497, descriptorIndex := 427, attributes := #[] }, { accessFlags := 1, nameIndex := 635, descriptorIndex := 765, attributes := #[] }, { accessFlags := 1, nameIndex := 635, descriptorIndex := 636, attributes := #[] }, { accessFlags := 2, nameIndex := 5, descriptorIndex := 29, attributes := #[] }, { accessFlags := 0, nameIndex := 5, descriptorIndex := 491, attributes := #[] }, { accessFlags := 0, nameIndex := 17, descriptorIndex := 337, attributes := #[] }, { accessFlags := 0, nameIndex := 494, descriptorIndex := 142, attributes := #[] }, { accessFlags := 8, nameIndex := 501, descriptorIndex := 391, attributes := #[] }, { accessFlags := 8, nameIndex := 36, descriptorIndex := 37, attributes := #[] }, { accessFlags := 8, nameIndex := 523, descriptorIndex := 524, attributes := #[] }] 49 2 #[1106, 1108, 575, 1110, 1112] #[{ accessFlags := 18, nameIndex := 13, descriptorIndex := 14, attributes := #[] }, { accessFlags := 18, nameIndex := 17, descriptorIndex := 18, attributes := #[] }, { accessFlags := 2, nameIndex := 21, descriptorIndex := 22, attributes := #[] }, { accessFlags := 2, nameIndex := 25, descriptorIndex := 26, attributes := #[] }, { accessFlags := 26, nameIndex := 1116, descriptorIndex := 1117, attributes := #[] }, { accessFlags := 24, nameIndex := 40, descriptorIndex := 26, attributes := #[] }, { accessFlags := 26, nameIndex := 1101, descriptorIndex := 1102, attributes := #[] }, { accessFlags := 26, nameIndex := 1121, descriptorIndex := 1122, attributes := #[] }, { accessFlags := 25, nameIndex := 599, descriptorIndex := 600, attributes := #[] }, { accessFlags := 24, nameIndex := 1125, descriptorIndex := 18, attributes := #[] }, { accessFlags := 24, nameIndex := 1127, descriptorIndex := 18, attributes := #[] }])
  fields := #[{ name := "value", type := (.array .byte), accessFlags := 18, slot := 0, constantValue := 0 }, { name := "coder", type := .byte, accessFlags := 18, slot := 1, constantValue := 0 }, { name := "hash", type := .int, accessFlags := 2, slot := 2, constantValue := 0 }, { name := "hashIsZero", type := .boolean, accessFlags := 2, slot := 3, constantValue := 0 }, { name := "serialVersionUID", type := .long, accessFlags := 26, slot := 0, constantValue := 0 }, { name := "COMPACT_STRINGS", type := .boolean, accessFlags := 24, slot := 1, constantValue := 0 }, { name := "serialPersistentFields", type := (.array (.object "java/io/ObjectStreamField")), accessFlags := 26, slot := 2, constantValue := 0 }, { name := "REPL", type := .char, accessFlags := 26, slot := 3, constantValue := 0 }, { name := "CASE_INSENSITIVE_ORDER", type := (.object "java/util/Comparator"), accessFlags := 25, slot := 4, constantValue := 0 }, { name := "LATIN1", type := .byte, accessFlags := 24, slot := 5, constantValue := 0 }, { name := "UTF16", type := .byte, accessFlags := 24, slot := 6, constantValue := 0 }]
  methods := #[k7m0, k7m1, k7m2, k7m3, k7m4, k7m5, k7m6, k7m7, k7m8, k7m9, k7m10, k7m11, k7m12, k7m13]
  instanceTypes := #[(.array .byte), .byte, .int, .boolean]
  staticTypes := #[.long, .boolean, (.array (.object "java/io/ObjectStreamField")), .char, (.object "java/util/Comparator"), .byte, .byte]
  resolved := Array.replicate 1451 none
  statics := some 0 }

def pool8 : Array CpInfo := pool [(2, .class_ 4), (1, u "java/lang/Object"), (0, u "<init>"), (0, u "()V"), (0, .class_ 8), (0, u "com/example/rubrique/rubrique/render/NonSortMarkers"), (0, .methodref 10 11), (0, .class_ 12), (0, .nameAndType 13 14), (0, u "java/lang/String"), (0, u "indexOf"), (0, u "(I)I"), (0, .class_ 16), (0, u "java/lang/StringBuilder"), (0, .methodref 10 18), (0, .nameAndType 19 20), (0, u "length"), (0, u "()I"), (0, .methodref 15 22), (0, .nameAndType 5 23), (0, u "(I)V"), (0, .methodref 10 25), (0, .nameAndType 26 27), (0, u "charAt"), (0, u "(I)C"), (0, .methodref 15 29), (0, .nameAndType 30 31), (0, u "append"), (0, u "(C)Ljava/lang/StringBuilder;"), (0, .methodref 15 33), (0, .nameAndType 34 35), (0, u "toString"), (0, u "()Ljava/lang/String;"), (0, u "BEGIN"), (0, u "C"), (2, u "END"), (3, u "remove"), (0, u "(Ljava/lang/String;)Ljava/lang/String;")] 3

def k8m0 : Method := { name := "<init>", desc := "()V", sig := { parameters := [], returnType := none }, accessFlags := 2, code := none }
def k8c1 : Code := { maxStack := 3, maxLocals := 4, code := prog_42_method_2_code, exceptionTable := #[], attributes := #[] }
def k8m1 : Method := { name := "remove", desc := "(Ljava/lang/String;)Ljava/lang/String;", sig := { parameters := [(.object "java/lang/String")], returnType := some (.object "java/lang/String") }, accessFlags := 8, code := some k8c1 }
/-- com/example/rubrique/rubrique/render/NonSortMarkers -/
def k8 : Class := { plain "com/example/rubrique/rubrique/render/NonSortMarkers" (some 0) with
  accessFlags := 48
  interfaces := #[]
  cf := some (fileOf pool8 7 #[] #[{ accessFlags := 2, nameIndex := 5, descriptorIndex := 6, attributes := #[] }, { accessFlags := 8, nameIndex := 44, descriptorIndex := 45, attributes := #[] }] 48 2 #[] #[{ accessFlags := 26, nameIndex := 36, descriptorIndex := 37, attributes := #[] }, { accessFlags := 26, nameIndex := 40, descriptorIndex := 37, attributes := #[] }])
  fields := #[{ name := "BEGIN", type := .char, accessFlags := 26, slot := 0, constantValue := 0 }, { name := "END", type := .char, accessFlags := 26, slot := 1, constantValue := 0 }]
  methods := #[k8m0, k8m1]
  instanceTypes := #[]
  staticTypes := #[.char, .char]
  resolved := Array.replicate 49 none
  statics := none }

def pool9 : Array CpInfo := pool [(1, .class_ 2), (0, u "java/lang/String"), (1, .class_ 6), (1, u "java/lang/Object"), (0, u "<init>"), (0, u "()V"), (0, .methodref 1 10), (0, .nameAndType 11 12), (0, u "checkIndex"), (0, u "(II)V"), (1, .class_ 16), (1, u "java/lang/StringLatin1"), (0, u "inflate"), (2, .class_ 22), (1, u "java/lang/StringUTF16"), (3, .nameAndType 17 27), (0, u "([BI[BII)V"), (10, .methodref 39 40), (0, .class_ 41), (0, .nameAndType 42 43), (0, u "java/lang/Math"), (0, u "min"), (0, u "(II)I"), (9, u "([BI)C"), (34, .methodref 14 89), (0, .nameAndType 90 91), (0, u "canEncode"), (0, u "(I)Z"), (0, .methodref 39 93), (0, .nameAndType 94 43), (0, u "max"), (0, .methodref 14 96), (0, .nameAndType 97 98), (0, u "indexOfChar"), (0, u "([BIII)I"), (2, u "indexOf"), (3, u "(C)Z"), (15, u "$assertionsDisabled"), (0, u "Z"), (98, .class_ 223), (1, u "java/lang/StringLatin1$LinesSpliterator"), (16, .methodref 20 26), (11, u "charAt"), (137, .class_ 391), (0, u "java/lang/StringLatin1$CharsSpliterator")] 3

def k9m0 : Method := { name := "<init>", desc := "()V", sig := { parameters := [], returnType := none }, accessFlags := 0, code := none }
def k9c1 : Code := { maxStack := 2, maxLocals := 2, code := jdk_43_method_2_code, exceptionTable := #[], attributes := #[] }
def k9m1 : Method := { name := "charAt", desc := "([BI)C", sig := { parameters := [(.array .byte), .int], returnType := some .char }, accessFlags := 9, code := some k9c1 }
def k9c2 : Code := { maxStack := 2, maxLocals := 1, code := jdk_43_method_3_code, exceptionTable := #[], attributes := #[] }
def k9m2 : Method := { name := "canEncode", desc := "(C)Z", sig := { parameters := [.char], returnType := some .boolean }, accessFlags := 9, code := some k9c2 }
def k9c3 : Code := { maxStack := 2, maxLocals := 1, code := jdk_43_method_4_code, exceptionTable := #[], attributes := #[] }
def k9m3 : Method := { name := "canEncode", desc := "(I)Z", sig := { parameters := [.int], returnType := some .boolean }, accessFlags := 9, code := some k9c3 }
def k9c4 : Code := { maxStack := 4, maxLocals := 4, code := jdk_43_method_22_code, exceptionTable := #[], attributes := #[] }
def k9m4 : Method := { name := "indexOf", desc := "([BIII)I", sig := { parameters := [(.array .byte), .int, .int, .int], returnType := some .int }, accessFlags := 9, code := some k9c4 }
def k9c5 : Code := { maxStack := 2, maxLocals := 6, code := jdk_43_method_23_code, exceptionTable := #[], attributes := #[] }
def k9m5 : Method := { name := "indexOfChar", desc := "([BIII)I", sig := { parameters := [(.array .byte), .int, .int, .int], returnType := some .int }, accessFlags := 10, code := some k9c5 }
def k9c6 : Code := { maxStack := 5, maxLocals := 5, code := jdk_43_method_50_code, exceptionTable := #[], attributes := #[] }
def k9m6 : Method := { name := "inflate", desc := "([BI[BII)V", sig := { parameters := [(.array .byte), .int, (.array .byte), .int, .int], returnType := none }, accessFlags := 9, code := some k9c6 }
/-- java/lang/StringLatin1 -/
def k9 : Class := { plain "java/lang/StringLatin1" (some 0) with
  accessFlags := 48
  interfaces := #[]
  cf := some (fileOf pool9 14 #[.nestMembers #[390, 221]] #[{ accessFlags := 0, nameIndex := 7, descriptorIndex := 8, attributes := #[] }, { accessFlags := 9, nameIndex := 252, descriptorIndex := 53, attributes := #[] }, { accessFlags := 9, nameIndex := 90, descriptorIndex := 105, attributes := #[] }, { accessFlags := 9, nameIndex := 90, descriptorIndex := 91, attributes := #[] }, { accessFlags := 9, nameIndex := 101, descriptorIndex := 98, attributes := #[] }, { accessFlags := 10, nameIndex := 97, descriptorIndex := 98, attributes := #[] }, { accessFlags := 9, nameIndex := 17, descriptorIndex := 27, attributes := #[] }] 48 4 #[] #[{ accessFlags := 4120, nameIndex := 121, descriptorIndex := 122, attributes := #[] }])
  fields := #[{ name := "$assertionsDisabled", type := .boolean, accessFlags := 4120, slot := 0, constantValue := 0 }]
  methods := #[k9m0, k9m1, k9m2, k9m3, k9m4, k9m5, k9m6]
  instanceTypes := #[]
  staticTypes := #[.boolean]
  resolved := Array.replicate 395 none
  statics := none }

def pool10 : Array CpInfo := pool [(1, .class_ 2), (0, u "java/lang/Math"), (1, .class_ 6), (1, u "java/lang/Object"), (0, u "<init>"), (0, u "()V"), (89, .class_ 100), (1, u "java/lang/Math$RandomNumberGeneratorHolder"), (71, u "negativeZeroFloatBits"), (0, u "J"), (2, u "negativeZeroDoubleBits"), (21, u "max"), (2, u "min"), (43, u "$assertionsDisabled"), (0, u "Z"), (88, u "(II)I"), (2, u "twoToTheDoubleScaleDown"), (0, u "D"), (4, u "twoToTheDoubleScaleUp"), (9, u "E"), (3, u "PI"), (2, u "TAU"), (2, u "DEGREES_TO_RADIANS"), (0, u "RADIANS_TO_DEGREES")] 94

def k10m0 : Method := { name := "<init>", desc := "()V", sig := { parameters := [], returnType := none }, accessFlags := 2, code := none }
def k10c1 : Code := { maxStack := 2, maxLocals := 2, code := jdk_29_method_65_code, exceptionTable := #[], attributes := #[] }
def k10m1 : Method := { name := "max", desc := "(II)I", sig := { parameters := [.int, .int], returnType := some .int }, accessFlags := 9, code := some k10c1 }
def k10c2 : Code := { maxStack := 2, maxLocals := 2, code := jdk_29_method_69_code, exceptionTable := #[], attributes := #[] }
def k10m2 : Method := { name := "min", desc := "(II)I", sig := { parameters := [.int, .int], returnType := some .int }, accessFlags := 9, code := some k10c2 }
/-- java/lang/Math -/
def k10 : Class := { plain "java/lang/Math" (some 0) with
  accessFlags := 49
  interfaces := #[]
  cf := some (fileOf pool10 1 #[.nestMembers #[98]] #[{ accessFlags := 2, nameIndex := 7, descriptorIndex := 8, attributes := #[] }, { accessFlags := 9, nameIndex := 198, descriptorIndex := 335, attributes := #[] }, { accessFlags := 9, nameIndex := 201, descriptorIndex := 335, attributes := #[] }] 49 4 #[] #[{ accessFlags := 25, nameIndex := 354, descriptorIndex := 339, attributes := #[] }, { accessFlags := 25, nameIndex := 358, descriptorIndex := 339, attributes := #[] }, { accessFlags := 25, nameIndex := 361, descriptorIndex := 339, attributes := #[] }, { accessFlags := 26, nameIndex := 364, descriptorIndex := 339, attributes := #[] }, { accessFlags := 26, nameIndex := 365, descriptorIndex := 339, attributes := #[] }, { accessFlags := 26, nameIndex := 172, descriptorIndex := 173, attributes := #[] }, { accessFlags := 26, nameIndex := 176, descriptorIndex := 173, attributes := #[] }, { accessFlags := 8, nameIndex := 344, descriptorIndex := 339, attributes := #[] }, { accessFlags := 8, nameIndex := 338, descriptorIndex := 339, attributes := #[] }, { accessFlags := 4120, nameIndex := 245, descriptorIndex := 246, attributes := #[] }])
  fields := #[{ name := "E", type := .double, accessFlags := 25, slot := 0, constantValue := 0 }, { name := "PI", type := .double, accessFlags := 25, slot := 1, constantValue := 0 }, { name := "TAU", type := .double, accessFlags := 25, slot := 2, constantValue := 0 }, { name := "DEGREES_TO_RADIANS", type := .double, accessFlags := 26, slot := 3, constantValue := 0 }, { name := "RADIANS_TO_DEGREES", type := .double, accessFlags := 26, slot := 4, constantValue := 0 }, { name := "negativeZeroFloatBits", type := .long, accessFlags := 26, slot := 5, constantValue := 0 }, { name := "negativeZeroDoubleBits", type := .long, accessFlags := 26, slot := 6, constantValue := 0 }, { name := "twoToTheDoubleScaleUp", type := .double, accessFlags := 8, slot := 7, constantValue := 0 }, { name := "twoToTheDoubleScaleDown", type := .double, accessFlags := 8, slot := 8, constantValue := 0 }, { name := "$assertionsDisabled", type := .boolean, accessFlags := 4120, slot := 9, constantValue := 0 }]
  methods := #[k10m0, k10m1, k10m2]
  instanceTypes := #[]
  staticTypes := #[.double, .double, .double, .double, .double, .long, .long, .double, .double, .boolean]
  resolved := Array.replicate 460 none
  statics := none }

def pool11 : Array CpInfo := pool [(3, .class_ 4), (0, u "java/lang/String"), (1, .class_ 8), (1, u "java/lang/Object"), (0, u "<init>"), (0, u "()V"), (0, .methodref 12 13), (0, .class_ 14), (0, .nameAndType 15 16), (0, u "java/lang/StringUTF16"), (0, u "newBytesLength"), (0, u "(I)I"), (3, .integer 1073741823), (23, .fieldref 12 45), (0, .nameAndType 46 47), (0, u "$assertionsDisabled"), (0, u "Z"), (0, .methodref 12 49), (0, .nameAndType 50 51), (0, u "length"), (0, u "([B)I"), (7, .fieldref 12 60), (0, .nameAndType 61 62), (0, u "HI_BYTE_SHIFT"), (0, u "I"), (0, .fieldref 12 64), (0, .nameAndType 65 62), (0, u "LO_BYTE_SHIFT"), (1, .methodref 12 68), (0, .nameAndType 69 70), (0, u "checkIndex"), (0, u "(I[B)V"), (0, .methodref 12 72), (0, .nameAndType 73 74), (0, u "getChar"), (0, u "([BI)C"), (21, .methodref 12 97), (0, .nameAndType 98 99), (0, u "checkBoundsBeginEnd"), (0, u "(II[B)V"), (7, .methodref 12 108), (0, .nameAndType 109 110), (0, u "newBytesFor"), (0, u "(I)[B"), (0, .methodref 12 112), (0, .nameAndType 113 114), (0, u "putChar"), (0, u "([BII)V"), (0, .methodref 12 116), (0, .nameAndType 117 118), (0, u "compress"), (0, u "([CI[BII)I"), (0, .methodref 12 120), (0, .nameAndType 121 122), (0, u "toBytes"), (0, u "([CII)[B"), (17, u "inflate"), (0, u "([BI[BII)V"), (31, .methodref 12 174), (0, .nameAndType 175 99), (0, u "checkBoundsOffCount"), (7, .methodref 184 185), (0, .class_ 186), (0, .nameAndType 187 188), (0, u "java/lang/Math"), (0, u "min"), (0, u "(II)I"), (35, .methodref 184 225), (0, .nameAndType 226 188), (0, u "max"), (0, .integer 65536), (0, .methodref 12 229), (0, .nameAndType 230 231), (0, u "indexOfChar"), (0, u "([BIII)I"), (9, .methodref 3 242), (0, .nameAndType 98 243), (0, u "(III)V"), (0, .methodref 12 245), (0, .nameAndType 246 231), (0, u "indexOfCharUnsafe"), (14, u "coderFromArrayLen"), (0, u "([BI)B"), (5, u "indexOf"), (12, u "(III)I"), (87, .class_ 371), (1, u "java/lang/StringUTF16$LinesSpliterator"), (20, u "charAt"), (21, .methodref 3 415), (0, .nameAndType 69 416), (0, u "(II)V"), (2, .methodref 3 420), (0, .nameAndType 175 281), (9, u "MAX_LENGTH"), (155, u "putCharSB"), (40, .class_ 628), (0, u "java/lang/StringUTF16$CodePointsSpliterator"), (0, .class_ 630), (0, u "java/lang/StringUTF16$CharsSpliterator")] 4

def k11m0 : Method := { name := "<init>", desc := "()V", sig := { parameters := [], returnType := none }, accessFlags := 0, code := none }
def k11c1 : Code := { maxStack := 1, maxLocals := 1, code := jdk_52_method_2_code, exceptionTable := #[], attributes := #[] }
def k11m1 : Method := { name := "newBytesFor", desc := "(I)[B", sig := { parameters := [.int], returnType := some (.array .byte) }, accessFlags := 9, code := some k11c1 }
def k11c2 : Code := { maxStack := 4, maxLocals := 1, code := jdk_52_method_3_code, exceptionTable := #[], attributes := #[] }
def k11m2 : Method := { name := "newBytesLength", desc := "(I)I", sig := { parameters := [.int], returnType := some .int }, accessFlags := 9, code := some k11c2 }
def k11c3 : Code := { maxStack := 4, maxLocals := 3, code := jdk_52_method_4_code, exceptionTable := #[], attributes := #[] }
def k11m3 : Method := { name := "putChar", desc := "([BII)V", sig := { parameters := [(.array .byte), .int, .int], returnType := none }, accessFlags := 8, code := some k11c3 }
def k11c4 : Code := { maxStack := 3, maxLocals := 2, code := jdk_52_method_5_code, exceptionTable := #[], attributes := #[] }
def k11m4 : Method := { name := "getChar", desc := "([BI)C", sig := { parameters := [(.array .byte), .int], returnType := some .char }, accessFlags := 8, code := some k11c4 }
def k11c5 : Code := { maxStack := 2, maxLocals := 1, code := jdk_52_method_6_code, exceptionTable := #[], attributes := #[] }
def k11m5 : Method := { name := "length", desc := "([B)I", sig := { parameters := [(.array .byte)], returnType := some .int }, accessFlags := 9, code := some k11c5 }
def k11c6 : Code := { maxStack := 4, maxLocals := 5, code := jdk_52_method_14_code, exceptionTable := #[], attributes := #[] }
def k11m6 : Method := { name := "toBytes", desc := "([CII)[B", sig := { parameters := [(.array .char), .int, .int], returnType := some (.array .byte) }, accessFlags := 9, code := some k11c6 }
def k11c7 : Code := { maxStack := 2, maxLocals := 2, code := jdk_52_method_15_code, exceptionTable := #[], attributes := #[] }
def k11m7 : Method := { name := "coderFromArrayLen", desc := "([BI)B", sig := { parameters := [(.array .byte), .int], returnType := some .byte }, accessFlags := 8, code := some k11c7 }
def k11c8 : Code := { maxStack := 5, maxLocals := 6, code := jdk_52_method_16_code, exceptionTable := #[], attributes := #[] }
def k11m8 : Method := { name := "compress", desc := "([CII)[B", sig := { parameters := [(.array .char), .int, .int], returnType := some (.array .byte) }, accessFlags := 9, code := some k11c8 }
def k11c9 : Code := { maxStack := 3, maxLocals := 7, code := jdk_52_method_21_code, exceptionTable := #[], attributes := #[] }
def k11m9 : Method := { name := "compress", desc := "([CI[BII)I", sig := { parameters := [(.array .char), .int, (.array .byte), .int, .int], returnType := some .int }, accessFlags := 9, code := some k11c9 }
def k11c10 : Code := { maxStack := 4, maxLocals := 4, code := jdk_52_method_40_code, exceptionTable := #[], attributes := #[] }
def k11m10 : Method := { name := "indexOf", desc := "([BIII)I", sig := { parameters := [(.array .byte), .int, .int, .int], returnType := some .int }, accessFlags := 9, code := some k11c10 }
def k11c11 : Code := { maxStack := 4, maxLocals := 4, code := jdk_52_method_47_code, exceptionTable := #[], attributes := #[] }
def k11m11 : Method := { name := "indexOfChar", desc := "([BIII)I", sig := { parameters := [(.array .byte), .int, .int, .int], returnType := some .int }, accessFlags := 10, code := some k11c11 }
def k11c12 : Code := { maxStack := 2, maxLocals := 5, code := jdk_52_method_48_code, exceptionTable := #[], attributes := #[] }
def k11m12 : Method := { name := "indexOfCharUnsafe", desc := "([BIII)I", sig := { parameters := [(.array .byte), .int, .int, .int], returnType := some .int }, accessFlags := 10, code := some k11c12 }
def k11c13 : Code := { maxStack := 3, maxLocals := 3, code := jdk_52_method_71_code, exceptionTable := #[], attributes := #[] }
def k11m13 : Method := { name := "putCharSB", desc := "([BII)V", sig := { parameters := [(.array .byte), .int, .int], returnType := none }, accessFlags := 9, code := some k11c13 }
def k11c14 : Code := { maxStack := 2, maxLocals := 2, code := jdk_52_method_83_code, exceptionTable := #[], attributes := #[] }
def k11m14 : Method := { name := "charAt", desc := "([BI)C", sig := { parameters := [(.array .byte), .int], returnType := some .char }, accessFlags := 9, code := some k11c14 }
def k11c15 : Code := { maxStack := 4, maxLocals := 6, code := jdk_52_method_86_code, exceptionTable := #[], attributes := #[] }
def k11m15 : Method := { name := "inflate", desc := "([BI[BII)V", sig := { parameters := [(.array .byte), .int, (.array .byte), .int, .int], returnType := none }, accessFlags := 9, code := some k11c15 }
def k11c16 : Code := { maxStack := 2, maxLocals := 2, code := jdk_52_method_91_code, exceptionTable := #[], attributes := #[] }
def k11m16 : Method := { name := "checkIndex", desc := "(I[B)V", sig := { parameters := [.int, (.array .byte)], returnType := none }, accessFlags := 9, code := some k11c16 }
def k11c17 : Code := { maxStack := 3, maxLocals := 3, code := jdk_52_method_93_code, exceptionTable := #[], attributes := #[] }
def k11m17 : Method := { name := "checkBoundsBeginEnd", desc := "(II[B)V", sig := { parameters := [.int, .int, (.array .byte)], returnType := none }, accessFlags := 9, code := some k11c17 }
def k11c18 : Code := { maxStack := 3, maxLocals := 3, code := jdk_52_method_94_code, exceptionTable := #[], attributes := #[] }
def k11m18 : Method := { name := "checkBoundsOffCount", desc := "(II[B)V", sig := { parameters := [.int, .int, (.array .byte)], returnType := none }, accessFlags := 9, code := some k11c18 }
/-- java/lang/StringUTF16 -/
def k11 : Class := { plain "java/lang/StringUTF16" (some 0) with
  accessFlags := 48
  interfaces := #[]
  cf := some (fileOf pool11 12 #[.nestMembers #[627, 629, 369]] #[{ accessFlags := 0, nameIndex := 9, descriptorIndex := 10, attributes := #[] }, { accessFlags := 9, nameIndex := 109, descriptorIndex := 110, attributes := #[] }, { accessFlags := 9, nameIndex := 15, descriptorIndex := 16, attributes := #[] }, { accessFlags := 8, nameIndex := 113, descriptorIndex := 114, attributes := #[] }, { accessFlags := 8, nameIndex := 73, descriptorIndex := 74, attributes := #[] }, { accessFlags := 9, nameIndex := 50, descriptorIndex := 51, attributes := #[] }, { accessFlags := 9, nameIndex := 121, descriptorIndex := 122, attributes := #[] }, { accessFlags := 8, nameIndex := 261, descriptorIndex := 262, attributes := #[] }, { accessFlags := 9, nameIndex := 117, descriptorIndex := 122, attributes := #[] }, { accessFlags := 9, nameIndex := 117, descriptorIndex := 118, attributes := #[] }, { accessFlags := 9, nameIndex := 268, descriptorIndex := 231, attributes := #[] }, { accessFlags := 10, nameIndex := 230, descriptorIndex := 231, attributes := #[] }, { accessFlags := 10, nameIndex := 246, descriptorIndex := 231, attributes := #[] }, { accessFlags := 9, nameIndex := 586, descriptorIndex := 114, attributes := #[] }, { accessFlags := 9, nameIndex := 392, descriptorIndex := 74, attributes := #[] }, { accessFlags := 9, nameIndex := 140, descriptorIndex := 141, attributes := #[] }, { accessFlags := 9, nameIndex := 69, descriptorIndex := 70, attributes := #[] }, { accessFlags := 9, nameIndex := 98, descriptorIndex := 99, attributes := #[] }, { accessFlags := 9, nameIndex := 175, descriptorIndex := 99, attributes := #[] }] 48 6 #[] #[{ accessFlags := 26, nameIndex := 61, descriptorIndex := 62, attributes := #[] }, { accessFlags := 26, nameIndex := 65, descriptorIndex := 62, attributes := #[] }, { accessFlags := 24, nameIndex := 430, descriptorIndex := 62, attributes := #[] }, { accessFlags := 4120, nameIndex := 46, descriptorIndex := 47, attributes := #[] }])
  fields := #[{ name := "HI_BYTE_SHIFT", type := .int, accessFlags := 26, slot := 0, constantValue := 0 }, { name := "LO_BYTE_SHIFT", type := .int, accessFlags := 26, slot := 1, constantValue := 0 }, { name := "MAX_LENGTH", type := .int, accessFlags := 24, slot := 2, constantValue := 0 }, { name := "$assertionsDisabled", type := .boolean, accessFlags := 4120, slot := 3, constantValue := 0 }]
  methods := #[k11m0, k11m1, k11m2, k11m3, k11m4, k11m5, k11m6, k11m7, k11m8, k11m9, k11m10, k11m11, k11m12, k11m13, k11m14, k11m15, k11m16, k11m17, k11m18]
  instanceTypes := #[]
  staticTypes := #[.int, .int, .int, .boolean]
  resolved := Array.replicate 635 none
  statics := some 1 }

def pool12 : Array CpInfo := pool [(1, .class_ 2), (0, u "java/lang/Appendable"), (0, .class_ 4), (0, u "java/lang/Object")] 9

/-- java/lang/Appendable -/
def k12 : Class := { plain "java/lang/Appendable" (some 0) with
  accessFlags := 1537
  interfaces := #[]
  cf := some (fileOf pool12 1 #[] #[] 1537 3 #[] #[])
  fields := #[]
  methods := #[]
  instanceTypes := #[]
  staticTypes := #[]
  resolved := Array.replicate 14 none
  statics := none }

def pool13 : Array CpInfo := pool [(1, .class_ 2), (0, u "java/lang/String"), (0, .methodref 4 5), (0, .class_ 6), (0, .nameAndType 7 8), (0, u "java/lang/Object"), (0, u "<init>"), (0, u "()V"), (1, .class_ 12), (1, u "java/lang/AbstractStringBuilder"), (0, u "EMPTYVALUE"), (0, u "[B"), (0, .fieldref 10 16), (0, .nameAndType 17 14), (0, u "value"), (0, .fieldref 1 19), (0, .nameAndType 20 21), (0, u "COMPACT_STRINGS"), (0, u "Z"), (0, .fieldref 10 23), (0, .nameAndType 24 25), (0, u "coder"), (0, u "B"), (0, .methodref 27 28), (0, .class_ 29), (0, .nameAndType 30 31), (0, u "java/lang/StringUTF16"), (0, u "newBytesFor"), (0, u "(I)[B"), (2, u "length"), (0, u "()I"), (9, u "append"), (2, .class_ 49), (0, u "java/lang/CharSequence"), (25, u "maybeLatin1"), (3, .fieldref 10 80), (0, .nameAndType 81 82), (0, u "count"), (0, u "I"), (0, .methodref 10 84), (0, .nameAndType 85 86), (0, u "isLatin1"), (0, u "()Z"), (1, .class_ 90), (1, u "java/lang/StringLatin1"), (9, .methodref 10 101), (0, .nameAndType 102 103), (0, u "ensureCapacityInternal"), (0, u "(I)V"), (21, .methodref 88 126), (0, .nameAndType 127 128), (0, u "inflate"), (0, u "([BI[BII)V"), (7, u "([BII)V"), (54, .methodref 88 192), (0, .nameAndType 193 194), (0, u "canEncode"), (0, u "(C)Z"), (0, .methodref 10 196), (0, .nameAndType 127 8), (0, .methodref 27 198), (0, .nameAndType 199 136), (0, u "putCharSB"), (92, u "(C)Ljava/lang/AbstractStringBuilder;"), (110, u "()[B"), (40, .class_ 445), (0, u "java/lang/Appendable"), (106, u "getValue")] 56

def k13m0 : Method := { name := "<init>", desc := "()V", sig := { parameters := [], returnType := none }, accessFlags := 0, code := none }
def k13c1 : Code := { maxStack := 2, maxLocals := 2, code := jdk_68_method_2_code, exceptionTable := #[], attributes := #[] }
def k13m1 : Method := { name := "<init>", desc := "(I)V", sig := { parameters := [.int], returnType := none }, accessFlags := 0, code := some k13c1 }
def k13c2 : Code := { maxStack := 1, maxLocals := 1, code := jdk_68_method_6_code, exceptionTable := #[], attributes := #[] }
def k13m2 : Method := { name := "length", desc := "()I", sig := { parameters := [], returnType := some .int }, accessFlags := 1, code := some k13c2 }
def k13c3 : Code := { maxStack := 4, maxLocals := 3, code := jdk_68_method_9_code, exceptionTable := #[], attributes := #[] }
def k13m3 : Method := { name := "ensureCapacityInternal", desc := "(I)V", sig := { parameters := [.int], returnType := none }, accessFlags := 2, code := some k13c3 }
def k13c4 : Code := { maxStack := 5, maxLocals := 2, code := jdk_68_method_11_code, exceptionTable := #[], attributes := #[] }
def k13m4 : Method := { name := "inflate", desc := "()V", sig := { parameters := [], returnType := none }, accessFlags := 2, code := some k13c4 }
def k13c5 : Code := { maxStack := 5, maxLocals := 2, code := jdk_68_method_31_code, exceptionTable := #[], attributes := #[] }
def k13m5 : Method := { name := "append", desc := "(C)Ljava/lang/AbstractStringBuilder;", sig := { parameters := [.char], returnType := some (.object "java/lang/AbstractStringBuilder") }, accessFlags := 1, code := some k13c5 }
def k13c6 : Code := { maxStack := 1, maxLocals := 1, code := jdk_68_method_64_code, exceptionTable := #[], attributes := #[] }
def k13m6 : Method := { name := "getValue", desc := "()[B", sig := { parameters := [], returnType := some (.array .byte) }, accessFlags := 16, code := some k13c6 }
def k13c7 : Code := { maxStack := 1, maxLocals := 1, code := jdk_68_method_68_code, exceptionTable := #[], attributes := #[] }
def k13m7 : Method := { name := "isLatin1", desc := "()Z", sig := { parameters := [], returnType := some .boolean }, accessFlags := 16, code := some k13c7 }
/-- java/lang/AbstractStringBuilder -/
def k13 : Class := { plain "java/lang/AbstractStringBuilder" (some 0) with
  accessFlags := 1056
  interfaces := #[12, 4]
  cf := some (fileOf pool13 10 #[] #[{ accessFlags := 0, nameIndex := 7, descriptorIndex := 8, attributes := #[] }, { accessFlags := 0, nameIndex := 7, descriptorIndex := 103, attributes := #[] }, { accessFlags := 1, nameIndex := 34, descriptorIndex := 35, attributes := #[] }, { accessFlags := 2, nameIndex := 102, descriptorIndex := 103, attributes := #[] }, { accessFlags := 2, nameIndex := 127, descriptorIndex := 8, attributes := #[] }, { accessFlags := 1, nameIndex := 45, descriptorIndex := 292, attributes := #[] }, { accessFlags := 16, nameIndex := 552, descriptorIndex := 403, attributes := #[] }, { accessFlags := 16, nameIndex := 85, descriptorIndex := 86, attributes := #[] }] 1056 4 #[444, 48] #[{ accessFlags := 0, nameIndex := 17, descriptorIndex := 14, attributes := #[] }, { accessFlags := 0, nameIndex := 24, descriptorIndex := 25, attributes := #[] }, { accessFlags := 0, nameIndex := 75, descriptorIndex := 21, attributes := #[] }, { accessFlags := 0, nameIndex := 81, descriptorIndex := 82, attributes := #[] }, { accessFlags := 26, nameIndex := 13, descriptorIndex := 14, attributes := #[] }])
  fields := #[{ name := "value", type := (.array .byte), accessFlags := 0, slot := 0, constantValue := 0 }, { name := "coder", type := .byte, accessFlags := 0, slot := 1, constantValue := 0 }, { name := "maybeLatin1", type := .boolean, accessFlags := 0, slot := 2, constantValue := 0 }, { name := "count", type := .int, accessFlags := 0, slot := 3, constantValue := 0 }, { name := "EMPTYVALUE", type := (.array .byte), accessFlags := 26, slot := 0, constantValue := 0 }]
  methods := #[k13m0, k13m1, k13m2, k13m3, k13m4, k13m5, k13m6, k13m7]
  instanceTypes := #[(.array .byte), .byte, .boolean, .int]
  staticTypes := #[(.array .byte)]
  resolved := Array.replicate 609 none
  statics := none }

def pool14 : Array CpInfo := pool [(1, .methodref 2 3), (0, .class_ 4), (0, .nameAndType 5 6), (0, u "java/lang/AbstractStringBuilder"), (0, u "<init>"), (0, u "(I)V"), (11, .class_ 20), (1, u "java/lang/String"), (3, .class_ 26), (1, u "java/lang/StringBuilder"), (0, u "append"), (22, .methodref 2 51), (0, .nameAndType 27 52), (0, u "(C)Ljava/lang/AbstractStringBuilder;"), (84, .methodref 18 138), (0, .nameAndType 5 139), (0, u "(Ljava/lang/StringBuilder;)V"), (5, u "()V"), (10, u "()I"), (129, u "(C)Ljava/lang/StringBuilder;"), (56, .methodref 2 344), (0, .nameAndType 345 156), (0, u "length"), (3, .class_ 350), (0, u "java/lang/Appendable"), (0, .class_ 352), (0, u "java/io/Serializable"), (0, .class_ 354), (0, u "java/lang/Comparable"), (0, .class_ 356), (0, u "java/lang/CharSequence"), (0, u "serialVersionUID"), (0, u "J"), (40, u "toString"), (0, u "()Ljava/lang/String;")] 21

def k14m0 : Method := { name := "<init>", desc := "()V", sig := { parameters := [], returnType := none }, accessFlags := 1, code := none }
def k14c1 : Code := { maxStack := 2, maxLocals := 2, code := jdk_67_method_2_code, exceptionTable := #[], attributes := #[] }
def k14m1 : Method := { name := "<init>", desc := "(I)V", sig := { parameters := [.int], returnType := none }, accessFlags := 1, code := some k14c1 }
def k14c2 : Code := { maxStack := 2, maxLocals := 2, code := jdk_67_method_14_code, exceptionTable := #[], attributes := #[] }
def k14m2 : Method := { name := "append", desc := "(C)Ljava/lang/StringBuilder;", sig := { parameters := [.char], returnType := some (.object "java/lang/StringBuilder") }, accessFlags := 1, code := some k14c2 }
def k14c3 : Code := { maxStack := 3, maxLocals := 1, code := jdk_67_method_42_code, exceptionTable := #[], attributes := #[] }
def k14m3 : Method := { name := "toString", desc := "()Ljava/lang/String;", sig := { parameters := [], returnType := some (.object "java/lang/String") }, accessFlags := 1, code := some k14c3 }
def k14c4 : Code := { maxStack := 1, maxLocals := 1, code := jdk_67_method_93_code, exceptionTable := #[], attributes := #[] }
def k14m4 : Method := { name := "length", desc := "()I", sig := { parameters := [], returnType := some .int }, accessFlags := 4161, code := some k14c4 }
/-- java/lang/StringBuilder -/
def k14 : Class := { plain "java/lang/StringBuilder" (some 13) with
  accessFlags := 49
  interfaces := #[12, 2, 3, 4]
  cf := some (fileOf pool14 24 #[] #[{ accessFlags := 1, nameIndex := 5, descriptorIndex := 145, attributes := #[] }, { accessFlags := 1, nameIndex := 5, descriptorIndex := 6, attributes := #[] }, { accessFlags := 1, nameIndex := 27, descriptorIndex := 286, attributes := #[] }, { accessFlags := 1, nameIndex := 399, descriptorIndex := 400, attributes := #[] }, { accessFlags := 4161, nameIndex := 345, descriptorIndex := 156, attributes := #[] }] 49 2 #[349, 351, 353, 355] #[{ accessFlags := 24, nameIndex := 357, descriptorIndex := 358, attributes := #[] }])
  fields := #[{ name := "serialVersionUID", type := .long, accessFlags := 24, slot := 0, constantValue := 0 }]
  methods := #[k14m0, k14m1, k14m2, k14m3, k14m4]
  instanceTypes := #[(.array .byte), .byte, .boolean, .int]
  staticTypes := #[.long]
  resolved := Array.replicate 422 none
  statics := none }

def pool15 : Array CpInfo := pool [(2, .class_ 4), (1, u "java/lang/Object"), (0, u "<init>"), (0, u "()V"), (17, .class_ 26), (1, u "jdk/internal/util/Preconditions"), (6, u "checkIndex"), (13, u "checkFromToIndex"), (1, u "checkFromIndexSize"), (5, .class_ 56), (0, u "jdk/internal/util/Preconditions$4"), (57, .class_ 115), (0, u "jdk/internal/util/Preconditions$1"), (7, u "SIOOBE_FORMATTER"), (0, u "Ljava/util/function/BiFunction;"), (0, .class_ 126), (0, u "jdk/internal/util/Preconditions$2"), (3, u "AIOOBE_FORMATTER"), (0, .class_ 132), (0, u "jdk/internal/util/Preconditions$3"), (3, u "IOOBE_FORMATTER"), (41, u "(IILjava/util/function/BiFunction;)I"), (4, u "(IIILjava/util/function/BiFunction;)I")] 10

def k15m0 : Method := { name := "<init>", desc := "()V", sig := { parameters := [], returnType := none }, accessFlags := 1, code := none }
def k15c1 : Code := { maxStack := 3, maxLocals := 3, code := jdk_41_method_11_code, exceptionTable := #[], attributes := #[] }
def k15m1 : Method := { name := "checkIndex", desc := "(IILjava/util/function/BiFunction;)I", sig := { parameters := [.int, .int, (.object "java/util/function/BiFunction")], returnType := some .int }, accessFlags := 9, code := some k15c1 }
def k15c2 : Code := { maxStack := 4, maxLocals := 4, code := jdk_41_method_12_code, exceptionTable := #[], attributes := #[] }
def k15m2 : Method := { name := "checkFromToIndex", desc := "(IIILjava/util/function/BiFunction;)I", sig := { parameters := [.int, .int, .int, (.object "java/util/function/BiFunction")], returnType := some .int }, accessFlags := 9, code := some k15c2 }
def k15c3 : Code := { maxStack := 4, maxLocals := 4, code := jdk_41_method_13_code, exceptionTable := #[], attributes := #[] }
def k15m3 : Method := { name := "checkFromIndexSize", desc := "(IIILjava/util/function/BiFunction;)I", sig := { parameters := [.int, .int, .int, (.object "java/util/function/BiFunction")], returnType := some .int }, accessFlags := 9, code := some k15c3 }
/-- jdk/internal/util/Preconditions -/
def k15 : Class := { plain "jdk/internal/util/Preconditions" (some 0) with
  accessFlags := 33
  interfaces := #[]
  cf := some (fileOf pool15 24 #[.nestMembers #[55, 131, 125, 114]] #[{ accessFlags := 1, nameIndex := 5, descriptorIndex := 6, attributes := #[] }, { accessFlags := 9, nameIndex := 33, descriptorIndex := 178, attributes := #[] }, { accessFlags := 9, nameIndex := 47, descriptorIndex := 183, attributes := #[] }, { accessFlags := 9, nameIndex := 49, descriptorIndex := 183, attributes := #[] }] 33 2 #[] #[{ accessFlags := 25, nameIndex := 123, descriptorIndex := 124, attributes := #[] }, { accessFlags := 25, nameIndex := 130, descriptorIndex := 124, attributes := #[] }, { accessFlags := 25, nameIndex := 136, descriptorIndex := 124, attributes := #[] }])
  fields := #[{ name := "SIOOBE_FORMATTER", type := (.object "java/util/function/BiFunction"), accessFlags := 25, slot := 0, constantValue := 0 }, { name := "AIOOBE_FORMATTER", type := (.object "java/util/function/BiFunction"), accessFlags := 25, slot := 1, constantValue := 0 }, { name := "IOOBE_FORMATTER", type := (.object "java/util/function/BiFunction"), accessFlags := 25, slot := 2, constantValue := 0 }]
  methods := #[k15m0, k15m1, k15m2, k15m3]
  instanceTypes := #[]
  staticTypes := #[(.object "java/util/function/BiFunction"), (.object "java/util/function/BiFunction"), (.object "java/util/function/BiFunction")]
  resolved := Array.replicate 194 none
  statics := some 2 }

def pool16 : Array CpInfo := pool [(2, .class_ 4), (1, u "java/lang/Object"), (0, u "<init>"), (0, u "()V"), (7, .class_ 16), (1, u "java/util/Arrays"), (57, .class_ 76), (1, u "java/util/Arrays$NaturalOrder"), (36, .class_ 115), (1, u "java/util/Arrays$LegacyMergeSort"), (1, u "Z"), (21, u "copyOfRange"), (10, .methodref 151 152), (0, .class_ 153), (0, .nameAndType 154 155), (0, u "java/lang/System"), (0, u "arraycopy"), (0, u "(Ljava/lang/Object;ILjava/lang/Object;II)V"), (148, .methodref 305 306), (0, .class_ 307), (0, .nameAndType 308 309), (0, u "java/lang/Math"), (0, u "min"), (0, u "(II)I"), (29, .methodref 14 340), (0, .nameAndType 341 342), (0, u "copyOfRangeByte"), (0, u "([BII)[B"), (0, .methodref 14 344), (0, .nameAndType 345 346), (0, u "checkLength"), (0, u "(II)V"), (28, .class_ 376), (0, u "java/util/Arrays$ArrayList"), (68, u "$assertionsDisabled"), (269, u "MIN_ARRAY_SORT_GRAN"), (0, u "I"), (2, u "INSERTIONSORT_THRESHOLD"), (255, .class_ 976), (0, u "java/util/Arrays$ArrayItr")] 52

def k16m0 : Method := { name := "<init>", desc := "()V", sig := { parameters := [], returnType := none }, accessFlags := 2, code := none }
def k16c1 : Code := { maxStack := 4, maxLocals := 2, code := jdk_65_method_131_code, exceptionTable := #[], attributes := #[] }
def k16m1 : Method := { name := "checkLength", desc := "(II)V", sig := { parameters := [.int, .int], returnType := none }, accessFlags := 10, code := some k16c1 }
def k16c2 : Code := { maxStack := 3, maxLocals := 3, code := jdk_65_method_132_code, exceptionTable := #[], attributes := #[] }
def k16m2 : Method := { name := "copyOfRange", desc := "([BII)[B", sig := { parameters := [(.array .byte), .int, .int], returnType := some (.array .byte) }, accessFlags := 9, code := some k16c2 }
def k16c3 : Code := { maxStack := 6, maxLocals := 5, code := jdk_65_method_133_code, exceptionTable := #[], attributes := #[] }
def k16m3 : Method := { name := "copyOfRangeByte", desc := "([BII)[B", sig := { parameters := [(.array .byte), .int, .int], returnType := some (.array .byte) }, accessFlags := 10, code := some k16c3 }
/-- java/util/Arrays -/
def k16 : Class := { plain "java/util/Arrays" (some 0) with
  accessFlags := 49
  interfaces := #[]
  cf := some (fileOf pool16 14 #[.nestMembers #[975, 375, 113, 74]] #[{ accessFlags := 2, nameIndex := 5, descriptorIndex := 6, attributes := #[] }, { accessFlags := 10, nameIndex := 345, descriptorIndex := 346, attributes := #[] }, { accessFlags := 9, nameIndex := 139, descriptorIndex := 342, attributes := #[] }, { accessFlags := 10, nameIndex := 341, descriptorIndex := 342, attributes := #[] }] 49 2 #[] #[{ accessFlags := 26, nameIndex := 715, descriptorIndex := 716, attributes := #[] }, { accessFlags := 26, nameIndex := 719, descriptorIndex := 716, attributes := #[] }, { accessFlags := 4120, nameIndex := 445, descriptorIndex := 117, attributes := #[] }])
  fields := #[{ name := "MIN_ARRAY_SORT_GRAN", type := .int, accessFlags := 26, slot := 0, constantValue := 0 }, { name := "INSERTIONSORT_THRESHOLD", type := .int, accessFlags := 26, slot := 1, constantValue := 0 }, { name := "$assertionsDisabled", type := .boolean, accessFlags := 4120, slot := 2, constantValue := 0 }]
  methods := #[k16m0, k16m1, k16m2, k16m3]
  instanceTypes := #[]
  staticTypes := #[.int, .int, .boolean]
  resolved := Array.replicate 1029 none
  statics := none }

def pool17 : Array CpInfo := pool [(2, .class_ 4), (1, u "java/lang/Object"), (0, u "<init>"), (0, u "()V"), (1, .class_ 10), (1, u "java/lang/System"), (0, u "allowSecurityManager"), (0, u "I"), (16, u "cons"), (0, u "Ljava/io/Console;"), (77, .class_ 110), (1, u "java/lang/System$CallersHolder"), (43, u "initialErrStream"), (0, u "Ljava/io/PrintStream;"), (19, u "security"), (0, u "Ljava/lang/SecurityManager;"), (31, .class_ 209), (0, u "java/lang/System$1"), (7, u "props"), (0, u "Ljava/util/Properties;"), (2, u "lineSeparator"), (0, u "Ljava/lang/String;"), (96, .class_ 321), (1, u "java/lang/System$LoggerFinder"), (5, .class_ 328), (0, u "java/lang/System$Logger"), (67, u "err"), (2, u "out"), (91, u "notSupportedJnuEncoding"), (15, u "in"), (17, u "initialIn"), (0, u "Ljava/io/InputStream;"), (35, u "bootLayer"), (0, u "Ljava/lang/ModuleLayer;"), (99, .class_ 664), (0, u "java/lang/System$2"), (9, u "NEVER"), (2, u "MAYBE"), (49, u "arraycopy"), (0, u "(Ljava/lang/Object;ILjava/lang/Object;II)V"), (72, .class_ 802), (0, u "java/lang/System$Logger$Level")] 31

def k17m0 : Method := { name := "<init>", desc := "()V", sig := { parameters := [], returnType := none }, accessFlags := 2, code := none }
def k17m1 : Method := { name := "arraycopy", desc := "(Ljava/lang/Object;ILjava/lang/Object;II)V", sig := { parameters := [(.object "java/lang/Object"), .int, (.object "java/lang/Object"), .int, .int], returnType := none }, accessFlags := 265, code := none }
/-- java/lang/System -/
def k17 : Class := { plain "java/lang/System" (some 0) with
  accessFlags := 49
  interfaces := #[]
  cf := some (fileOf pool17 8 #[.nestMembers #[319, 327, 801, 108, 663, 208]] #[{ accessFlags := 2, nameIndex := 5, descriptorIndex := 6, attributes := #[] }, { accessFlags := 265, nameIndex := 727, descriptorIndex := 728, attributes := #[] }] 49 2 #[] #[{ accessFlags := 25, nameIndex := 507, descriptorIndex := 526, attributes := #[] }, { accessFlags := 25, nameIndex := 399, descriptorIndex := 155, attributes := #[] }, { accessFlags := 25, nameIndex := 396, descriptorIndex := 155, attributes := #[] }, { accessFlags := 10, nameIndex := 525, descriptorIndex := 526, attributes := #[] }, { accessFlags := 26, nameIndex := 674, descriptorIndex := 12, attributes := #[] }, { accessFlags := 26, nameIndex := 677, descriptorIndex := 12, attributes := #[] }, { accessFlags := 10, nameIndex := 11, descriptorIndex := 12, attributes := #[] }, { accessFlags := 74, nameIndex := 175, descriptorIndex := 176, attributes := #[] }, { accessFlags := 10, nameIndex := 491, descriptorIndex := 222, attributes := #[] }, { accessFlags := 74, nameIndex := 29, descriptorIndex := 30, attributes := #[] }, { accessFlags := 74, nameIndex := 154, descriptorIndex := 155, attributes := #[] }, { accessFlags := 10, nameIndex := 217, descriptorIndex := 218, attributes := #[] }, { accessFlags := 10, nameIndex := 221, descriptorIndex := 222, attributes := #[] }, { accessFlags := 8, nameIndex := 562, descriptorIndex := 563, attributes := #[] }])
  fields := #[{ name := "in", type := (.object "java/io/InputStream"), accessFlags := 25, slot := 0, constantValue := 0 }, { name := "out", type := (.object "java/io/PrintStream"), accessFlags := 25, slot := 1, constantValue := 0 }, { name := "err", type := (.object "java/io/PrintStream"), accessFlags := 25, slot := 2, constantValue := 0 }, { name := "initialIn", type := (.object "java/io/InputStream"), accessFlags := 10, slot := 3, constantValue := 0 }, { name := "NEVER", type := .int, accessFlags := 26, slot := 4, constantValue := 0 }, { name := "MAYBE", type := .int, accessFlags := 26, slot := 5, constantValue := 0 }, { name := "allowSecurityManager", type := .int, accessFlags := 10, slot := 6, constantValue := 0 }, { name := "security", type := (.object "java/lang/SecurityManager"), accessFlags := 74, slot := 7, constantValue := 0 }, { name := "notSupportedJnuEncoding", type := (.object "java/lang/String"), accessFlags := 10, slot := 8, constantValue := 0 }, { name := "cons", type := (.object "java/io/Console"), accessFlags := 74, slot := 9, constantValue := 0 }, { name := "initialErrStream", type := (.object "java/io/PrintStream"), accessFlags := 74, slot := 10, constantValue := 0 }, { name := "props", type := (.object "java/util/Properties"), accessFlags := 10, slot := 11, constantValue := 0 }, { name := "lineSeparator", type := (.object "java/lang/String"), accessFlags := 10, slot := 12, constantValue := 0 }, { name := "bootLayer", type := (.object "java/lang/ModuleLayer"), accessFlags := 8, slot := 13, constantValue := 0 }]
  methods := #[k17m0, k17m1]
  instanceTypes := #[]
  staticTypes := #[(.object "java/io/InputStream"), (.object "java/io/PrintStream"), (.object "java/io/PrintStream"), (.object "java/io/InputStream"), .int, .int, .int, (.object "java/lang/SecurityManager"), (.object "java/lang/String"), (.object "java/io/Console"), (.object "java/io/PrintStream"), (.object "java/util/Properties"), (.object "java/lang/String"), (.object "java/lang/ModuleLayer")]
  resolved := Array.replicate 834 none
  statics := none }

def pool18 : Array CpInfo := pool [(9, u "<init>"), (6, .class_ 18), (1, u "java/lang/Object"), (0, u "()V"), (1, .class_ 23), (1, u "jdk/internal/util/ArraysSupport"), (0, u "LOG2_ARRAY_LONG_INDEX_SCALE"), (0, u "I"), (2, u "U"), (0, u "Ljdk/internal/misc/Unsafe;"), (8, u "BIG_ENDIAN"), (0, u "Z"), (8, u "LOG2_BYTE_BIT_SIZE"), (4, u "LOG2_ARRAY_INT_INDEX_SCALE"), (54, u "JLA"), (0, u "Ljdk/internal/access/JavaLangAccess;"), (11, u "LOG2_ARRAY_BOOLEAN_INDEX_SCALE"), (9, u "LOG2_ARRAY_BYTE_INDEX_SCALE"), (5, u "LOG2_ARRAY_CHAR_INDEX_SCALE"), (5, u "LOG2_ARRAY_SHORT_INDEX_SCALE"), (18, u "LOG2_ARRAY_FLOAT_INDEX_SCALE"), (24, u "LOG2_ARRAY_DOUBLE_INDEX_SCALE"), (89, u "T_BOOLEAN"), (2, u "T_CHAR"), (1, u "T_FLOAT"), (1, u "T_DOUBLE"), (1, u "T_BYTE"), (1, u "T_SHORT"), (1, u "T_INT"), (1, u "T_LONG"), (1, u "SOFT_MAX_ARRAY_LENGTH")] 83

def k18m0 : Method := { name := "<init>", desc := "()V", sig := { parameters := [], returnType := none }, accessFlags := 2, code := none }
/-- jdk/internal/util/ArraysSupport -/
def k18 : Class := { plain "jdk/internal/util/ArraysSupport" (some 0) with
  accessFlags := 33
  interfaces := #[]
  cf := some (fileOf pool18 21 #[] #[{ accessFlags := 2, nameIndex := 9, descriptorIndex := 19, attributes := #[] }] 33 16 #[] #[{ accessFlags := 24, nameIndex := 28, descriptorIndex := 29, attributes := #[] }, { accessFlags := 26, nameIndex := 38, descriptorIndex := 39, attributes := #[] }, { accessFlags := 25, nameIndex := 121, descriptorIndex := 25, attributes := #[] }, { accessFlags := 25, nameIndex := 131, descriptorIndex := 25, attributes := #[] }, { accessFlags := 25, nameIndex := 137, descriptorIndex := 25, attributes := #[] }, { accessFlags := 25, nameIndex := 143, descriptorIndex := 25, attributes := #[] }, { accessFlags := 25, nameIndex := 53, descriptorIndex := 25, attributes := #[] }, { accessFlags := 25, nameIndex := 24, descriptorIndex := 25, attributes := #[] }, { accessFlags := 25, nameIndex := 162, descriptorIndex := 25, attributes := #[] }, { accessFlags := 25, nameIndex := 187, descriptorIndex := 25, attributes := #[] }, { accessFlags := 26, nameIndex := 48, descriptorIndex := 25, attributes := #[] }, { accessFlags := 25, nameIndex := 277, descriptorIndex := 25, attributes := #[] }, { accessFlags := 25, nameIndex := 280, descriptorIndex := 25, attributes := #[] }, { accessFlags := 25, nameIndex := 282, descriptorIndex := 25, attributes := #[] }, { accessFlags := 25, nameIndex := 284, descriptorIndex := 25, attributes := #[] }, { accessFlags := 25, nameIndex := 286, descriptorIndex := 25, attributes := #[] }, { accessFlags := 25, nameIndex := 288, descriptorIndex := 25, attributes := #[] }, { accessFlags := 25, nameIndex := 290, descriptorIndex := 25, attributes := #[] }, { accessFlags := 25, nameIndex := 292, descriptorIndex := 25, attributes := #[] }, { accessFlags := 26, nameIndex := 108, descriptorIndex := 109, attributes := #[] }, { accessFlags := 25, nameIndex := 294, descriptorIndex := 25, attributes := #[] }])
  fields := #[{ name := "U", type := (.object "jdk/internal/misc/Unsafe"), accessFlags := 24, slot := 0, constantValue := 0 }, { name := "BIG_ENDIAN", type := .boolean, accessFlags := 26, slot := 1, constantValue := 0 }, { name := "LOG2_ARRAY_BOOLEAN_INDEX_SCALE", type := .int, accessFlags := 25, slot := 2, constantValue := 0 }, { name := "LOG2_ARRAY_BYTE_INDEX_SCALE", type := .int, accessFlags := 25, slot := 3, constantValue := 0 }, { name := "LOG2_ARRAY_CHAR_INDEX_SCALE", type := .int, accessFlags := 25, slot := 4, constantValue := 0 }, { name := "LOG2_ARRAY_SHORT_INDEX_SCALE", type := .int, accessFlags := 25, slot := 5, constantValue := 0 }, { name := "LOG2_ARRAY_INT_INDEX_SCALE", type := .int, accessFlags := 25, slot := 6, constantValue := 0 }, { name := "LOG2_ARRAY_LONG_INDEX_SCALE", type := .int, accessFlags := 25, slot := 7, constantValue := 0 }, { name := "LOG2_ARRAY_FLOAT_INDEX_SCALE", type := .int, accessFlags := 25, slot := 8, constantValue := 0 }, { name := "LOG2_ARRAY_DOUBLE_INDEX_SCALE", type := .int, accessFlags := 25, slot := 9, constantValue := 0 }, { name := "LOG2_BYTE_BIT_SIZE", type := .int, accessFlags := 26, slot := 10, constantValue := 0 }, { name := "T_BOOLEAN", type := .int, accessFlags := 25, slot := 11, constantValue := 0 }, { name := "T_CHAR", type := .int, accessFlags := 25, slot := 12, constantValue := 0 }, { name := "T_FLOAT", type := .int, accessFlags := 25, slot := 13, constantValue := 0 }, { name := "T_DOUBLE", type := .int, accessFlags := 25, slot := 14, constantValue := 0 }, { name := "T_BYTE", type := .int, accessFlags := 25, slot := 15, constantValue := 0 }, { name := "T_SHORT", type := .int, accessFlags := 25, slot := 16, constantValue := 0 }, { name := "T_INT", type := .int, accessFlags := 25, slot := 17, constantValue := 0 }, { name := "T_LONG", type := .int, accessFlags := 25, slot := 18, constantValue := 0 }, { name := "JLA", type := (.object "jdk/internal/access/JavaLangAccess"), accessFlags := 26, slot := 19, constantValue := 0 }, { name := "SOFT_MAX_ARRAY_LENGTH", type := .int, accessFlags := 25, slot := 20, constantValue := 0 }]
  methods := #[k18m0]
  instanceTypes := #[]
  staticTypes := #[(.object "jdk/internal/misc/Unsafe"), .boolean, .int, .int, .int, .int, .int, .int, .int, .int, .int, .int, .int, .int, .int, .int, .int, .int, .int, (.object "jdk/internal/access/JavaLangAccess"), .int]
  resolved := Array.replicate 378 none
  statics := none }

def pool19 : Array CpInfo := pool [(1, u "java/lang/Cloneable"), (0, .class_ 1), (0, u "java/lang/Object"), (0, .class_ 3)] 3

/-- java/lang/Cloneable -/
def k19 : Class := { plain "java/lang/Cloneable" (some 0) with
  accessFlags := 1537
  interfaces := #[]
  cf := some (fileOf pool19 2 #[] #[] 1537 4 #[] #[])
  fields := #[]
  methods := #[]
  instanceTypes := #[]
  staticTypes := #[]
  resolved := Array.replicate 8 none
  statics := none }

/-- the primitive byte -/
def k20 : Class := { plain "byte" none with kind := .primitive 'B', accessFlags := 0x411 }
/-- [B -/
def k21 : Class := { plain "[B" (some 0) with kind := .array 20 .byte, interfaces := #[19, 2], accessFlags := 1041 }

/-- the primitive char -/
def k22 : Class := { plain "char" none with kind := .primitive 'C', accessFlags := 0x411 }
/-- [C -/
def k23 : Class := { plain "[C" (some 0) with kind := .array 22 .char, interfaces := #[19, 2], accessFlags := 1041 }

/-- the primitive int -/
def k24 : Class := { plain "int" none with kind := .primitive 'I', accessFlags := 0x411 }
/-- [I -/
def k25 : Class := { plain "[I" (some 0) with kind := .array 24 .int, interfaces := #[19, 2], accessFlags := 1041 }

def heap : Heap := #[{ cls := 7, slots := #[.long 0, .int 1, .null, .int 0, .null, .int 0, .int 0], vm := .statics 7 },
  { cls := 11, slots := #[.int 0, .int 8, .int 0, .int 1], vm := .statics 11 },
  { cls := 15, slots := #[.null, .null, .null], vm := .statics 15 }]
def classes : Array Class := #[k0, k1, k2, k3, k4, k5, k6, k7, k8, k9, k10, k11, k12, k13, k14, k15, k16, k17, k18, k19, k20, k21, k22, k23, k24, k25]
def interned : List (Array UInt16 × Addr) := []
def slotsUsed : Nat := 14
def theMethod : MethodId := ⟨1, 5⟩
def args0 : Array Value := #[.int 5, .int 2, .int 300, .int 7, .int 9]
def aboutOver (below : List Frame) : State where
  vm := { classes := classes, interned := interned.toArray }
  heap := heap
  slotsUsed := slotsUsed
  threads := #[{ frames := .invoking theMethod args0 :: below }]
def below0 : List Frame := [.native { method := ⟨0, 0⟩, args := #[] }]
def about1 : State := aboutOver below0
def p0 : Program := .bare "" "" ""
def e0 : Env := launch0.env 0 0 0
theorem w_frames : about1.frames = Frame.invoking theMethod args0 :: below0 := rfl
set_option maxRecDepth 65536 in
theorem w_args : argsFit about1.vm theMethod args0 = true := by decide +kernel
set_option maxRecDepth 65536 in
theorem w_heap : heapFits about1 = true := by decide +kernel
set_option maxRecDepth 65536 in
theorem w_runnable : about1.curStatus? = some .runnable := by decide +kernel
set_option maxRecDepth 65536 in
theorem w_alone : about1.alone = true := by decide +kernel
set_option maxRecDepth 65536 in
theorem w_named : about1.methodNamed? x = some theMethod := by decide +kernel
set_option maxRecDepth 65536 in
theorem w_hears : about1.hears theMethod below0 = true := by decide +kernel
set_option maxRecDepth 65536 in
theorem w_ripe : about1.ripe theMethod args0 below0 = true := by decide +kernel
theorem w_running : about1.status = .running := rfl
set_option maxRecDepth 65536 in
theorem w_room : about1.hasRoom e0.platform room_1 = true :=
  launch0.hasRoom_least _ room_1 (by decide +kernel) (by decide +kernel) (by decide +kernel) (by decide +kernel) (by decide +kernel) (by decide +kernel)
theorem allAtoms_all (ts : List Jvm.Cond) (a : Array Jvm.Value) (st : Jvm.State) : (allAtoms ts).before a st = ts.all (fun c => c.before a st) := by
  induction ts with
  | nil => rfl
  | cons c t ih =>
    show (Jvm.Cond.and c (allAtoms t)).before a st = _
    rw [Jvm.Cond.before_and, ih, List.all_cons]
def words1 : List Jvm.Cond := Jvm.Cond.code x code maxLocals ret :: tables_1
/-- a 'code' word, met by the world's own term for the bytes: nothing is compared byte by byte -/
theorem code_word {y : MethodName} {bytes : ByteArray} {mx : Nat} {rt : Option FieldType} {a : Array Value} {s : State} {m : MethodId} {meth : Method} {c : Code} (h1 : s.methodNamed? y = some m) (h2 : s.vm.method? m = some meth) (h3 : meth.code = some c) (h4 : c.code = bytes)
    (h5 : (c.maxLocals == mx && c.exceptionTable.isEmpty && decide (c.maxStack ≤ mostOperands) && decide (meth.sig.returnType = rt) && !meth.locks && decide (parseMethodDescriptor y.desc = some meth.sig)) = true) : (Jvm.Cond.code y bytes mx rt).before a s = true := by
  simp only [Bool.and_eq_true, beq_iff_eq, Bool.not_eq_true', decide_eq_true_eq] at h5
  obtain ⟨⟨⟨⟨⟨g1, g2⟩, g3⟩, g4⟩, g5⟩, g6⟩ := h5
  simp [Cond.before, Cond.holds, Cond.value, h1, h2, h3, h4, g1, g2, g3, g4, g5, g6]
def isCode : Jvm.Cond → Bool
  | .code _ _ _ _ => true
  | _ => false
theorem all_split {L : List Jvm.Cond} {P : Jvm.Cond → Bool} (h1 : L.all (fun c => isCode c || P c) = true) (h2 : ∀ c ∈ L.filter isCode, P c = true) : L.all P = true := by
  refine List.all_eq_true.mpr fun c hc => ?_
  have h := List.all_eq_true.mp h1 c hc
  rcases Bool.eq_false_or_eq_true (isCode c) with hi | hi
  · exact h2 c (List.mem_filter.mpr ⟨hc, hi⟩)
  · simpa [hi] using h
set_option maxRecDepth 65536 in
theorem w_c0 : (Jvm.Cond.code x code maxLocals ret).before args0 about1 = true := code_word (m := ⟨1, 5⟩) (meth := k1m5) (c := k1c5) (by decide +kernel) rfl rfl rfl (by decide +kernel)
set_option maxRecDepth 65536 in
theorem w_c1 : (Jvm.Cond.code ({ cls := "com/example/rubrique/rubrique/render/NonSortMarkersRemovePinLaw", name := "draw", desc := "(I)C" } : Jvm.MethodName) method_3_code (2 : Nat) (Option.some Jvm.ClassFile.FieldType.char)).before args0 about1 = true := code_word (m := ⟨1, 2⟩) (meth := k1m2) (c := k1c2) (by decide +kernel) rfl rfl rfl (by decide +kernel)
set_option maxRecDepth 65536 in
theorem w_c2 : (Jvm.Cond.code ({ cls := "java/lang/String", name := "<init>", desc := "([C)V" } : Jvm.MethodName) jdk_42_method_3_code (2 : Nat) (Option.none : Option Jvm.ClassFile.FieldType)).before args0 about1 = true := code_word (m := ⟨7, 1⟩) (meth := k7m1) (c := k7c1) (by decide +kernel) rfl rfl rfl (by decide +kernel)
set_option maxRecDepth 65536 in
theorem w_c3 : (Jvm.Cond.code ({ cls := "java/lang/String", name := "<init>", desc := "([CIILjava/lang/Void;)V" } : Jvm.MethodName) jdk_42_method_149_code (6 : Nat) (Option.none : Option Jvm.ClassFile.FieldType)).before args0 about1 = true := code_word (m := ⟨7, 7⟩) (meth := k7m7) (c := k7c7) (by decide +kernel) rfl rfl rfl (by decide +kernel)
set_option maxRecDepth 65536 in
theorem w_c4 : (Jvm.Cond.code ({ cls := "java/lang/Object", name := "<init>", desc := "()V" } : Jvm.MethodName) object_method_1_code (1 : Nat) (Option.none : Option Jvm.ClassFile.FieldType)).before args0 about1 = true := code_word (m := ⟨0, 0⟩) (meth := k0m0) (c := k0c0) (by decide +kernel) rfl rfl rfl (by decide +kernel)
set_option maxRecDepth 65536 in
theorem w_c5 : (Jvm.Cond.code ({ cls := "com/example/rubrique/rubrique/render/NonSortMarkers", name := "remove", desc := "(Ljava/lang/String;)Ljava/lang/String;" } : Jvm.MethodName) prog_42_method_2_code (4 : Nat) (Option.some (Jvm.ClassFile.FieldType.object "java/lang/String"))).before args0 about1 = true := code_word (m := ⟨8, 1⟩) (meth := k8m1) (c := k8c1) (by decide +kernel) rfl rfl rfl (by decide +kernel)
set_option maxRecDepth 65536 in
theorem w_c6 : (Jvm.Cond.code ({ cls := "java/lang/String", name := "indexOf", desc := "(I)I" } : Jvm.MethodName) jdk_42_method_79_code (2 : Nat) (Option.some Jvm.ClassFile.FieldType.int)).before args0 about1 = true := code_word (m := ⟨7, 5⟩) (meth := k7m5) (c := k7c5) (by decide +kernel) rfl rfl rfl (by decide +kernel)
set_option maxRecDepth 65536 in
theorem w_c7 : (Jvm.Cond.code ({ cls := "java/lang/String", name := "indexOf", desc := "(II)I" } : Jvm.MethodName) jdk_42_method_80_code (3 : Nat) (Option.some Jvm.ClassFile.FieldType.int)).before args0 about1 = true := code_word (m := ⟨7, 6⟩) (meth := k7m6) (c := k7c6) (by decide +kernel) rfl rfl rfl (by decide +kernel)
set_option maxRecDepth 65536 in
theorem w_c8 : (Jvm.Cond.code ({ cls := "java/lang/String", name := "isLatin1", desc := "()Z" } : Jvm.MethodName) jdk_42_method_154_code (1 : Nat) (Option.some Jvm.ClassFile.FieldType.boolean)).before args0 about1 = true := code_word (m := ⟨7, 10⟩) (meth := k7m10) (c := k7c10) (by decide +kernel) rfl rfl rfl (by decide +kernel)
set_option maxRecDepth 65536 in
theorem w_c9 : (Jvm.Cond.code ({ cls := "java/lang/String", name := "length", desc := "()I" } : Jvm.MethodName) jdk_42_method_54_code (1 : Nat) (Option.some Jvm.ClassFile.FieldType.int)).before args0 about1 = true := code_word (m := ⟨7, 3⟩) (meth := k7m3) (c := k7c3) (by decide +kernel) rfl rfl rfl (by decide +kernel)
set_option maxRecDepth 65536 in
theorem w_c10 : (Jvm.Cond.code ({ cls := "java/lang/String", name := "coder", desc := "()B" } : Jvm.MethodName) jdk_42_method_152_code (1 : Nat) (Option.some Jvm.ClassFile.FieldType.byte)).before args0 about1 = true := code_word (m := ⟨7, 9⟩) (meth := k7m9) (c := k7c9) (by decide +kernel) rfl rfl rfl (by decide +kernel)
set_option maxRecDepth 65536 in
theorem w_c11 : (Jvm.Cond.code ({ cls := "java/lang/StringLatin1", name := "indexOf", desc := "([BIII)I" } : Jvm.MethodName) jdk_43_method_22_code (4 : Nat) (Option.some Jvm.ClassFile.FieldType.int)).before args0 about1 = true := code_word (m := ⟨9, 4⟩) (meth := k9m4) (c := k9c4) (by decide +kernel) rfl rfl rfl (by decide +kernel)
set_option maxRecDepth 65536 in
theorem w_c12 : (Jvm.Cond.code ({ cls := "java/lang/StringLatin1", name := "canEncode", desc := "(I)Z" } : Jvm.MethodName) jdk_43_method_4_code (1 : Nat) (Option.some Jvm.ClassFile.FieldType.boolean)).before args0 about1 = true := code_word (m := ⟨9, 3⟩) (meth := k9m3) (c := k9c3) (by decide +kernel) rfl rfl rfl (by decide +kernel)
set_option maxRecDepth 65536 in
theorem w_c13 : (Jvm.Cond.code ({ cls := "java/lang/Math", name := "max", desc := "(II)I" } : Jvm.MethodName) jdk_29_method_65_code (2 : Nat) (Option.some Jvm.ClassFile.FieldType.int)).before args0 about1 = true := code_word (m := ⟨10, 1⟩) (meth := k10m1) (c := k10c1) (by decide +kernel) rfl rfl rfl (by decide +kernel)
set_option maxRecDepth 65536 in
theorem w_c14 : (Jvm.Cond.code ({ cls := "java/lang/Math", name := "min", desc := "(II)I" } : Jvm.MethodName) jdk_29_method_69_code (2 : Nat) (Option.some Jvm.ClassFile.FieldType.int)).before args0 about1 = true := code_word (m := ⟨10, 2⟩) (meth := k10m2) (c := k10c2) (by decide +kernel) rfl rfl rfl (by decide +kernel)
set_option maxRecDepth 65536 in
theorem w_c15 : (Jvm.Cond.code ({ cls := "com/example/rubrique/rubrique/render/NonSortMarkersRemovePinLaw", name := "same", desc := "(Ljava/lang/String;[CII)Z" } : Jvm.MethodName) method_5_code (4 : Nat) (Option.some Jvm.ClassFile.FieldType.boolean)).before args0 about1 = true := code_word (m := ⟨1, 4⟩) (meth := k1m4) (c := k1c4) (by decide +kernel) rfl rfl rfl (by decide +kernel)
set_option maxRecDepth 65536 in
theorem w_c16 : (Jvm.Cond.code ({ cls := "java/lang/StringUTF16", name := "compress", desc := "([CII)[B" } : Jvm.MethodName) jdk_52_method_16_code (6 : Nat) (Option.some (Jvm.ClassFile.FieldType.array Jvm.ClassFile.FieldType.byte))).before args0 about1 = true := code_word (m := ⟨11, 8⟩) (meth := k11m8) (c := k11c8) (by decide +kernel) rfl rfl rfl (by decide +kernel)
set_option maxRecDepth 65536 in
theorem w_c17 : (Jvm.Cond.code ({ cls := "java/lang/StringUTF16", name := "compress", desc := "([CI[BII)I" } : Jvm.MethodName) jdk_52_method_21_code (7 : Nat) (Option.some Jvm.ClassFile.FieldType.int)).before args0 about1 = true := code_word (m := ⟨11, 9⟩) (meth := k11m9) (c := k11c9) (by decide +kernel) rfl rfl rfl (by decide +kernel)
set_option maxRecDepth 65536 in
theorem w_c18 : (Jvm.Cond.code ({ cls := "java/lang/StringUTF16", name := "coderFromArrayLen", desc := "([BI)B" } : Jvm.MethodName) jdk_52_method_15_code (2 : Nat) (Option.some Jvm.ClassFile.FieldType.byte)).before args0 about1 = true := code_word (m := ⟨11, 7⟩) (meth := k11m7) (c := k11c7) (by decide +kernel) rfl rfl rfl (by decide +kernel)
set_option maxRecDepth 65536 in
theorem w_c19 : (Jvm.Cond.code ({ cls := "com/example/rubrique/rubrique/render/NonSortMarkersRemovePinLaw", name := "put", desc := "([CIC)I" } : Jvm.MethodName) method_4_code (3 : Nat) (Option.some Jvm.ClassFile.FieldType.int)).before args0 about1 = true := code_word (m := ⟨1, 3⟩) (meth := k1m3) (c := k1c3) (by decide +kernel) rfl rfl rfl (by decide +kernel)
set_option maxRecDepth 65536 in
theorem w_c20 : (Jvm.Cond.code ({ cls := "com/example/rubrique/rubrique/render/NonSortMarkersRemovePinLaw", name := "isMarker", desc := "(C)Z" } : Jvm.MethodName) method_2_code (1 : Nat) (Option.some Jvm.ClassFile.FieldType.boolean)).before args0 about1 = true := code_word (m := ⟨1, 1⟩) (meth := k1m1) (c := k1c1) (by decide +kernel) rfl rfl rfl (by decide +kernel)
set_option maxRecDepth 65536 in
theorem w_c21 : (Jvm.Cond.code ({ cls := "java/lang/StringLatin1", name := "indexOfChar", desc := "([BIII)I" } : Jvm.MethodName) jdk_43_method_23_code (6 : Nat) (Option.some Jvm.ClassFile.FieldType.int)).before args0 about1 = true := code_word (m := ⟨9, 5⟩) (meth := k9m5) (c := k9c5) (by decide +kernel) rfl rfl rfl (by decide +kernel)
set_option maxRecDepth 65536 in
theorem w_c22 : (Jvm.Cond.code ({ cls := "java/lang/StringBuilder", name := "<init>", desc := "(I)V" } : Jvm.MethodName) jdk_67_method_2_code (2 : Nat) (Option.none : Option Jvm.ClassFile.FieldType)).before args0 about1 = true := code_word (m := ⟨14, 1⟩) (meth := k14m1) (c := k14c1) (by decide +kernel) rfl rfl rfl (by decide +kernel)
set_option maxRecDepth 65536 in
theorem w_c23 : (Jvm.Cond.code ({ cls := "java/lang/AbstractStringBuilder", name := "<init>", desc := "(I)V" } : Jvm.MethodName) jdk_68_method_2_code (2 : Nat) (Option.none : Option Jvm.ClassFile.FieldType)).before args0 about1 = true := code_word (m := ⟨13, 1⟩) (meth := k13m1) (c := k13c1) (by decide +kernel) rfl rfl rfl (by decide +kernel)
set_option maxRecDepth 65536 in
theorem w_c24 : (Jvm.Cond.code ({ cls := "java/lang/String", name := "charAt", desc := "(I)C" } : Jvm.MethodName) jdk_42_method_56_code (2 : Nat) (Option.some Jvm.ClassFile.FieldType.char)).before args0 about1 = true := code_word (m := ⟨7, 4⟩) (meth := k7m4) (c := k7c4) (by decide +kernel) rfl rfl rfl (by decide +kernel)
set_option maxRecDepth 65536 in
theorem w_c25 : (Jvm.Cond.code ({ cls := "java/lang/StringLatin1", name := "charAt", desc := "([BI)C" } : Jvm.MethodName) jdk_43_method_2_code (2 : Nat) (Option.some Jvm.ClassFile.FieldType.char)).before args0 about1 = true := code_word (m := ⟨9, 1⟩) (meth := k9m1) (c := k9c1) (by decide +kernel) rfl rfl rfl (by decide +kernel)
set_option maxRecDepth 65536 in
theorem w_c26 : (Jvm.Cond.code ({ cls := "java/lang/String", name := "checkIndex", desc := "(II)V" } : Jvm.MethodName) jdk_42_method_155_code (2 : Nat) (Option.none : Option Jvm.ClassFile.FieldType)).before args0 about1 = true := code_word (m := ⟨7, 11⟩) (meth := k7m11) (c := k7c11) (by decide +kernel) rfl rfl rfl (by decide +kernel)
set_option maxRecDepth 65536 in
theorem w_c27 : (Jvm.Cond.code ({ cls := "jdk/internal/util/Preconditions", name := "checkIndex", desc := "(IILjava/util/function/BiFunction;)I" } : Jvm.MethodName) jdk_41_method_11_code (3 : Nat) (Option.some Jvm.ClassFile.FieldType.int)).before args0 about1 = true := code_word (m := ⟨15, 1⟩) (meth := k15m1) (c := k15c1) (by decide +kernel) rfl rfl rfl (by decide +kernel)
set_option maxRecDepth 65536 in
theorem w_c28 : (Jvm.Cond.code ({ cls := "java/lang/StringBuilder", name := "toString", desc := "()Ljava/lang/String;" } : Jvm.MethodName) jdk_67_method_42_code (1 : Nat) (Option.some (Jvm.ClassFile.FieldType.object "java/lang/String"))).before args0 about1 = true := code_word (m := ⟨14, 3⟩) (meth := k14m3) (c := k14c3) (by decide +kernel) rfl rfl rfl (by decide +kernel)
set_option maxRecDepth 65536 in
theorem w_c29 : (Jvm.Cond.code ({ cls := "java/lang/String", name := "<init>", desc := "(Ljava/lang/StringBuilder;)V" } : Jvm.MethodName) jdk_42_method_53_code (2 : Nat) (Option.none : Option Jvm.ClassFile.FieldType)).before args0 about1 = true := code_word (m := ⟨7, 2⟩) (meth := k7m2) (c := k7c2) (by decide +kernel) rfl rfl rfl (by decide +kernel)
set_option maxRecDepth 65536 in
theorem w_c30 : (Jvm.Cond.code ({ cls := "java/lang/String", name := "<init>", desc := "(Ljava/lang/AbstractStringBuilder;Ljava/lang/Void;)V" } : Jvm.MethodName) jdk_42_method_150_code (5 : Nat) (Option.none : Option Jvm.ClassFile.FieldType)).before args0 about1 = true := code_word (m := ⟨7, 8⟩) (meth := k7m8) (c := k7c8) (by decide +kernel) rfl rfl rfl (by decide +kernel)
set_option maxRecDepth 65536 in
theorem w_c31 : (Jvm.Cond.code ({ cls := "java/lang/AbstractStringBuilder", name := "getValue", desc := "()[B" } : Jvm.MethodName) jdk_68_method_64_code (1 : Nat) (Option.some (Jvm.ClassFile.FieldType.array Jvm.ClassFile.FieldType.byte))).before args0 about1 = true := code_word (m := ⟨13, 6⟩) (meth := k13m6) (c := k13c6) (by decide +kernel) rfl rfl rfl (by decide +kernel)
set_option maxRecDepth 65536 in
theorem w_c32 : (Jvm.Cond.code ({ cls := "java/lang/StringBuilder", name := "length", desc := "()I" } : Jvm.MethodName) jdk_67_method_93_code (1 : Nat) (Option.some Jvm.ClassFile.FieldType.int)).before args0 about1 = true := code_word (m := ⟨14, 4⟩) (meth := k14m4) (c := k14c4) (by decide +kernel) rfl rfl rfl (by decide +kernel)
set_option maxRecDepth 65536 in
theorem w_c33 : (Jvm.Cond.code ({ cls := "java/lang/AbstractStringBuilder", name := "length", desc := "()I" } : Jvm.MethodName) jdk_68_method_6_code (1 : Nat) (Option.some Jvm.ClassFile.FieldType.int)).before args0 about1 = true := code_word (m := ⟨13, 2⟩) (meth := k13m2) (c := k13c2) (by decide +kernel) rfl rfl rfl (by decide +kernel)
set_option maxRecDepth 65536 in
theorem w_c34 : (Jvm.Cond.code ({ cls := "java/lang/AbstractStringBuilder", name := "isLatin1", desc := "()Z" } : Jvm.MethodName) jdk_68_method_68_code (1 : Nat) (Option.some Jvm.ClassFile.FieldType.boolean)).before args0 about1 = true := code_word (m := ⟨13, 7⟩) (meth := k13m7) (c := k13c7) (by decide +kernel) rfl rfl rfl (by decide +kernel)
set_option maxRecDepth 65536 in
theorem w_c35 : (Jvm.Cond.code ({ cls := "java/util/Arrays", name := "copyOfRange", desc := "([BII)[B" } : Jvm.MethodName) jdk_65_method_132_code (3 : Nat) (Option.some (Jvm.ClassFile.FieldType.array Jvm.ClassFile.FieldType.byte))).before args0 about1 = true := code_word (m := ⟨16, 2⟩) (meth := k16m2) (c := k16c2) (by decide +kernel) rfl rfl rfl (by decide +kernel)
set_option maxRecDepth 65536 in
theorem w_c36 : (Jvm.Cond.code ({ cls := "java/util/Arrays", name := "copyOfRangeByte", desc := "([BII)[B" } : Jvm.MethodName) jdk_65_method_133_code (5 : Nat) (Option.some (Jvm.ClassFile.FieldType.array Jvm.ClassFile.FieldType.byte))).before args0 about1 = true := code_word (m := ⟨16, 3⟩) (meth := k16m3) (c := k16c3) (by decide +kernel) rfl rfl rfl (by decide +kernel)
set_option maxRecDepth 65536 in
theorem w_c37 : (Jvm.Cond.code ({ cls := "java/util/Arrays", name := "checkLength", desc := "(II)V" } : Jvm.MethodName) jdk_65_method_131_code (2 : Nat) (Option.none : Option Jvm.ClassFile.FieldType)).before args0 about1 = true := code_word (m := ⟨16, 1⟩) (meth := k16m1) (c := k16c1) (by decide +kernel) rfl rfl rfl (by decide +kernel)
set_option maxRecDepth 65536 in
theorem w_c38 : (Jvm.Cond.code ({ cls := "java/lang/StringUTF16", name := "toBytes", desc := "([CII)[B" } : Jvm.MethodName) jdk_52_method_14_code (5 : Nat) (Option.some (Jvm.ClassFile.FieldType.array Jvm.ClassFile.FieldType.byte))).before args0 about1 = true := code_word (m := ⟨11, 6⟩) (meth := k11m6) (c := k11c6) (by decide +kernel) rfl rfl rfl (by decide +kernel)
set_option maxRecDepth 65536 in
theorem w_c39 : (Jvm.Cond.code ({ cls := "java/lang/StringUTF16", name := "newBytesFor", desc := "(I)[B" } : Jvm.MethodName) jdk_52_method_2_code (1 : Nat) (Option.some (Jvm.ClassFile.FieldType.array Jvm.ClassFile.FieldType.byte))).before args0 about1 = true := code_word (m := ⟨11, 1⟩) (meth := k11m1) (c := k11c1) (by decide +kernel) rfl rfl rfl (by decide +kernel)
set_option maxRecDepth 65536 in
theorem w_c40 : (Jvm.Cond.code ({ cls := "java/lang/StringUTF16", name := "newBytesLength", desc := "(I)I" } : Jvm.MethodName) jdk_52_method_3_code (1 : Nat) (Option.some Jvm.ClassFile.FieldType.int)).before args0 about1 = true := code_word (m := ⟨11, 2⟩) (meth := k11m2) (c := k11c2) (by decide +kernel) rfl rfl rfl (by decide +kernel)
set_option maxRecDepth 65536 in
theorem w_c41 : (Jvm.Cond.code ({ cls := "java/lang/StringUTF16", name := "putChar", desc := "([BII)V" } : Jvm.MethodName) jdk_52_method_4_code (3 : Nat) (Option.none : Option Jvm.ClassFile.FieldType)).before args0 about1 = true := code_word (m := ⟨11, 3⟩) (meth := k11m3) (c := k11c3) (by decide +kernel) rfl rfl rfl (by decide +kernel)
set_option maxRecDepth 65536 in
theorem w_c42 : (Jvm.Cond.code ({ cls := "java/lang/StringUTF16", name := "getChar", desc := "([BI)C" } : Jvm.MethodName) jdk_52_method_5_code (2 : Nat) (Option.some Jvm.ClassFile.FieldType.char)).before args0 about1 = true := code_word (m := ⟨11, 4⟩) (meth := k11m4) (c := k11c4) (by decide +kernel) rfl rfl rfl (by decide +kernel)
set_option maxRecDepth 65536 in
theorem w_c43 : (Jvm.Cond.code ({ cls := "java/lang/StringUTF16", name := "indexOf", desc := "([BIII)I" } : Jvm.MethodName) jdk_52_method_40_code (4 : Nat) (Option.some Jvm.ClassFile.FieldType.int)).before args0 about1 = true := code_word (m := ⟨11, 10⟩) (meth := k11m10) (c := k11c10) (by decide +kernel) rfl rfl rfl (by decide +kernel)
set_option maxRecDepth 65536 in
theorem w_c44 : (Jvm.Cond.code ({ cls := "java/lang/StringUTF16", name := "indexOfChar", desc := "([BIII)I" } : Jvm.MethodName) jdk_52_method_47_code (4 : Nat) (Option.some Jvm.ClassFile.FieldType.int)).before args0 about1 = true := code_word (m := ⟨11, 11⟩) (meth := k11m11) (c := k11c11) (by decide +kernel) rfl rfl rfl (by decide +kernel)
set_option maxRecDepth 65536 in
theorem w_c45 : (Jvm.Cond.code ({ cls := "java/lang/StringUTF16", name := "checkBoundsBeginEnd", desc := "(II[B)V" } : Jvm.MethodName) jdk_52_method_93_code (3 : Nat) (Option.none : Option Jvm.ClassFile.FieldType)).before args0 about1 = true := code_word (m := ⟨11, 17⟩) (meth := k11m17) (c := k11c17) (by decide +kernel) rfl rfl rfl (by decide +kernel)
set_option maxRecDepth 65536 in
theorem w_c46 : (Jvm.Cond.code ({ cls := "java/lang/StringUTF16", name := "length", desc := "([B)I" } : Jvm.MethodName) jdk_52_method_6_code (1 : Nat) (Option.some Jvm.ClassFile.FieldType.int)).before args0 about1 = true := code_word (m := ⟨11, 5⟩) (meth := k11m5) (c := k11c5) (by decide +kernel) rfl rfl rfl (by decide +kernel)
set_option maxRecDepth 65536 in
theorem w_c47 : (Jvm.Cond.code ({ cls := "java/lang/String", name := "checkBoundsBeginEnd", desc := "(III)V" } : Jvm.MethodName) jdk_42_method_158_code (3 : Nat) (Option.none : Option Jvm.ClassFile.FieldType)).before args0 about1 = true := code_word (m := ⟨7, 13⟩) (meth := k7m13) (c := k7c13) (by decide +kernel) rfl rfl rfl (by decide +kernel)
set_option maxRecDepth 65536 in
theorem w_c48 : (Jvm.Cond.code ({ cls := "jdk/internal/util/Preconditions", name := "checkFromToIndex", desc := "(IIILjava/util/function/BiFunction;)I" } : Jvm.MethodName) jdk_41_method_12_code (4 : Nat) (Option.some Jvm.ClassFile.FieldType.int)).before args0 about1 = true := code_word (m := ⟨15, 2⟩) (meth := k15m2) (c := k15c2) (by decide +kernel) rfl rfl rfl (by decide +kernel)
set_option maxRecDepth 65536 in
theorem w_c49 : (Jvm.Cond.code ({ cls := "java/lang/StringUTF16", name := "indexOfCharUnsafe", desc := "([BIII)I" } : Jvm.MethodName) jdk_52_method_48_code (5 : Nat) (Option.some Jvm.ClassFile.FieldType.int)).before args0 about1 = true := code_word (m := ⟨11, 12⟩) (meth := k11m12) (c := k11c12) (by decide +kernel) rfl rfl rfl (by decide +kernel)
set_option maxRecDepth 65536 in
theorem w_c50 : (Jvm.Cond.code ({ cls := "java/lang/StringUTF16", name := "charAt", desc := "([BI)C" } : Jvm.MethodName) jdk_52_method_83_code (2 : Nat) (Option.some Jvm.ClassFile.FieldType.char)).before args0 about1 = true := code_word (m := ⟨11, 14⟩) (meth := k11m14) (c := k11c14) (by decide +kernel) rfl rfl rfl (by decide +kernel)
set_option maxRecDepth 65536 in
theorem w_c51 : (Jvm.Cond.code ({ cls := "java/lang/StringUTF16", name := "checkIndex", desc := "(I[B)V" } : Jvm.MethodName) jdk_52_method_91_code (2 : Nat) (Option.none : Option Jvm.ClassFile.FieldType)).before args0 about1 = true := code_word (m := ⟨11, 16⟩) (meth := k11m16) (c := k11c16) (by decide +kernel) rfl rfl rfl (by decide +kernel)
set_option maxRecDepth 65536 in
theorem w_c52 : (Jvm.Cond.code ({ cls := "java/lang/StringBuilder", name := "append", desc := "(C)Ljava/lang/StringBuilder;" } : Jvm.MethodName) jdk_67_method_14_code (2 : Nat) (Option.some (Jvm.ClassFile.FieldType.object "java/lang/StringBuilder"))).before args0 about1 = true := code_word (m := ⟨14, 2⟩) (meth := k14m2) (c := k14c2) (by decide +kernel) rfl rfl rfl (by decide +kernel)
set_option maxRecDepth 65536 in
theorem w_c53 : (Jvm.Cond.code ({ cls := "java/lang/AbstractStringBuilder", name := "append", desc := "(C)Ljava/lang/AbstractStringBuilder;" } : Jvm.MethodName) jdk_68_method_31_code (2 : Nat) (Option.some (Jvm.ClassFile.FieldType.object "java/lang/AbstractStringBuilder"))).before args0 about1 = true := code_word (m := ⟨13, 5⟩) (meth := k13m5) (c := k13c5) (by decide +kernel) rfl rfl rfl (by decide +kernel)
set_option maxRecDepth 65536 in
theorem w_c54 : (Jvm.Cond.code ({ cls := "java/lang/AbstractStringBuilder", name := "ensureCapacityInternal", desc := "(I)V" } : Jvm.MethodName) jdk_68_method_9_code (3 : Nat) (Option.none : Option Jvm.ClassFile.FieldType)).before args0 about1 = true := code_word (m := ⟨13, 3⟩) (meth := k13m3) (c := k13c3) (by decide +kernel) rfl rfl rfl (by decide +kernel)
set_option maxRecDepth 65536 in
theorem w_c55 : (Jvm.Cond.code ({ cls := "java/lang/StringLatin1", name := "canEncode", desc := "(C)Z" } : Jvm.MethodName) jdk_43_method_3_code (1 : Nat) (Option.some Jvm.ClassFile.FieldType.boolean)).before args0 about1 = true := code_word (m := ⟨9, 2⟩) (meth := k9m2) (c := k9c2) (by decide +kernel) rfl rfl rfl (by decide +kernel)
set_option maxRecDepth 65536 in
theorem w_c56 : (Jvm.Cond.code ({ cls := "java/lang/AbstractStringBuilder", name := "inflate", desc := "()V" } : Jvm.MethodName) jdk_68_method_11_code (2 : Nat) (Option.none : Option Jvm.ClassFile.FieldType)).before args0 about1 = true := code_word (m := ⟨13, 4⟩) (meth := k13m4) (c := k13c4) (by decide +kernel) rfl rfl rfl (by decide +kernel)
set_option maxRecDepth 65536 in
theorem w_c57 : (Jvm.Cond.code ({ cls := "java/lang/StringLatin1", name := "inflate", desc := "([BI[BII)V" } : Jvm.MethodName) jdk_43_method_50_code (5 : Nat) (Option.none : Option Jvm.ClassFile.FieldType)).before args0 about1 = true := code_word (m := ⟨9, 6⟩) (meth := k9m6) (c := k9c6) (by decide +kernel) rfl rfl rfl (by decide +kernel)
set_option maxRecDepth 65536 in
theorem w_c58 : (Jvm.Cond.code ({ cls := "java/lang/StringUTF16", name := "inflate", desc := "([BI[BII)V" } : Jvm.MethodName) jdk_52_method_86_code (6 : Nat) (Option.none : Option Jvm.ClassFile.FieldType)).before args0 about1 = true := code_word (m := ⟨11, 15⟩) (meth := k11m15) (c := k11c15) (by decide +kernel) rfl rfl rfl (by decide +kernel)
set_option maxRecDepth 65536 in
theorem w_c59 : (Jvm.Cond.code ({ cls := "java/lang/StringUTF16", name := "checkBoundsOffCount", desc := "(II[B)V" } : Jvm.MethodName) jdk_52_method_94_code (3 : Nat) (Option.none : Option Jvm.ClassFile.FieldType)).before args0 about1 = true := code_word (m := ⟨11, 18⟩) (meth := k11m18) (c := k11c18) (by decide +kernel) rfl rfl rfl (by decide +kernel)
set_option maxRecDepth 65536 in
theorem w_c60 : (Jvm.Cond.code ({ cls := "java/lang/String", name := "checkBoundsOffCount", desc := "(III)I" } : Jvm.MethodName) jdk_42_method_157_code (3 : Nat) (Option.some Jvm.ClassFile.FieldType.int)).before args0 about1 = true := code_word (m := ⟨7, 12⟩) (meth := k7m12) (c := k7c12) (by decide +kernel) rfl rfl rfl (by decide +kernel)
set_option maxRecDepth 65536 in
theorem w_c61 : (Jvm.Cond.code ({ cls := "jdk/internal/util/Preconditions", name := "checkFromIndexSize", desc := "(IIILjava/util/function/BiFunction;)I" } : Jvm.MethodName) jdk_41_method_13_code (4 : Nat) (Option.some Jvm.ClassFile.FieldType.int)).before args0 about1 = true := code_word (m := ⟨15, 3⟩) (meth := k15m3) (c := k15c3) (by decide +kernel) rfl rfl rfl (by decide +kernel)
set_option maxRecDepth 65536 in
theorem w_c62 : (Jvm.Cond.code ({ cls := "java/lang/StringUTF16", name := "putCharSB", desc := "([BII)V" } : Jvm.MethodName) jdk_52_method_71_code (3 : Nat) (Option.none : Option Jvm.ClassFile.FieldType)).before args0 about1 = true := code_word (m := ⟨11, 13⟩) (meth := k11m13) (c := k11c13) (by decide +kernel) rfl rfl rfl (by decide +kernel)
def codes1 : List Jvm.Cond := [Jvm.Cond.code x code maxLocals ret, Jvm.Cond.code ({ cls := "com/example/rubrique/rubrique/render/NonSortMarkersRemovePinLaw", name := "draw", desc := "(I)C" } : Jvm.MethodName) method_3_code (2 : Nat) (Option.some Jvm.ClassFile.FieldType.char), Jvm.Cond.code ({ cls := "java/lang/String", name := "<init>", desc := "([C)V" } : Jvm.MethodName) jdk_42_method_3_code (2 : Nat) (Option.none : Option Jvm.ClassFile.FieldType), Jvm.Cond.code ({ cls := "java/lang/String", name := "<init>", desc := "([CIILjava/lang/Void;)V" } : Jvm.MethodName) jdk_42_method_149_code (6 : Nat) (Option.none : Option Jvm.ClassFile.FieldType), Jvm.Cond.code ({ cls := "java/lang/Object", name := "<init>", desc := "()V" } : Jvm.MethodName) object_method_1_code (1 : Nat) (Option.none : Option Jvm.ClassFile.FieldType), Jvm.Cond.code ({ cls := "com/example/rubrique/rubrique/render/NonSortMarkers", name := "remove", desc := "(Ljava/lang/String;)Ljava/lang/String;" } : Jvm.MethodName) prog_42_method_2_code (4 : Nat) (Option.some (Jvm.ClassFile.FieldType.object "java/lang/String")), Jvm.Cond.code ({ cls := "java/lang/String", name := "indexOf", desc := "(I)I" } : Jvm.MethodName) jdk_42_method_79_code (2 : Nat) (Option.some Jvm.ClassFile.FieldType.int), Jvm.Cond.code ({ cls := "java/lang/String", name := "indexOf", desc := "(II)I" } : Jvm.MethodName) jdk_42_method_80_code (3 : Nat) (Option.some Jvm.ClassFile.FieldType.int), Jvm.Cond.code ({ cls := "java/lang/String", name := "isLatin1", desc := "()Z" } : Jvm.MethodName) jdk_42_method_154_code (1 : Nat) (Option.some Jvm.ClassFile.FieldType.boolean), Jvm.Cond.code ({ cls := "java/lang/String", name := "length", desc := "()I" } : Jvm.MethodName) jdk_42_method_54_code (1 : Nat) (Option.some Jvm.ClassFile.FieldType.int), Jvm.Cond.code ({ cls := "java/lang/String", name := "coder", desc := "()B" } : Jvm.MethodName) jdk_42_method_152_code (1 : Nat) (Option.some Jvm.ClassFile.FieldType.byte), Jvm.Cond.code ({ cls := "java/lang/StringLatin1", name := "indexOf", desc := "([BIII)I" } : Jvm.MethodName) jdk_43_method_22_code (4 : Nat) (Option.some Jvm.ClassFile.FieldType.int), Jvm.Cond.code ({ cls := "java/lang/StringLatin1", name := "canEncode", desc := "(I)Z" } : Jvm.MethodName) jdk_43_method_4_code (1 : Nat) (Option.some Jvm.ClassFile.FieldType.boolean), Jvm.Cond.code ({ cls := "java/lang/Math", name := "max", desc := "(II)I" } : Jvm.MethodName) jdk_29_method_65_code (2 : Nat) (Option.some Jvm.ClassFile.FieldType.int), Jvm.Cond.code ({ cls := "java/lang/Math", name := "min", desc := "(II)I" } : Jvm.MethodName) jdk_29_method_69_code (2 : Nat) (Option.some Jvm.ClassFile.FieldType.int), Jvm.Cond.code ({ cls := "com/example/rubrique/rubrique/render/NonSortMarkersRemovePinLaw", name := "same", desc := "(Ljava/lang/String;[CII)Z" } : Jvm.MethodName) method_5_code (4 : Nat) (Option.some Jvm.ClassFile.FieldType.boolean), Jvm.Cond.code ({ cls := "java/lang/StringUTF16", name := "compress", desc := "([CII)[B" } : Jvm.MethodName) jdk_52_method_16_code (6 : Nat) (Option.some (Jvm.ClassFile.FieldType.array Jvm.ClassFile.FieldType.byte)), Jvm.Cond.code ({ cls := "java/lang/StringUTF16", name := "compress", desc := "([CI[BII)I" } : Jvm.MethodName) jdk_52_method_21_code (7 : Nat) (Option.some Jvm.ClassFile.FieldType.int), Jvm.Cond.code ({ cls := "java/lang/StringUTF16", name := "coderFromArrayLen", desc := "([BI)B" } : Jvm.MethodName) jdk_52_method_15_code (2 : Nat) (Option.some Jvm.ClassFile.FieldType.byte), Jvm.Cond.code ({ cls := "com/example/rubrique/rubrique/render/NonSortMarkersRemovePinLaw", name := "put", desc := "([CIC)I" } : Jvm.MethodName) method_4_code (3 : Nat) (Option.some Jvm.ClassFile.FieldType.int), Jvm.Cond.code ({ cls := "com/example/rubrique/rubrique/render/NonSortMarkersRemovePinLaw", name := "isMarker", desc := "(C)Z" } : Jvm.MethodName) method_2_code (1 : Nat) (Option.some Jvm.ClassFile.FieldType.boolean), Jvm.Cond.code ({ cls := "java/lang/StringLatin1", name := "indexOfChar", desc := "([BIII)I" } : Jvm.MethodName) jdk_43_method_23_code (6 : Nat) (Option.some Jvm.ClassFile.FieldType.int), Jvm.Cond.code ({ cls := "java/lang/StringBuilder", name := "<init>", desc := "(I)V" } : Jvm.MethodName) jdk_67_method_2_code (2 : Nat) (Option.none : Option Jvm.ClassFile.FieldType), Jvm.Cond.code ({ cls := "java/lang/AbstractStringBuilder", name := "<init>", desc := "(I)V" } : Jvm.MethodName) jdk_68_method_2_code (2 : Nat) (Option.none : Option Jvm.ClassFile.FieldType), Jvm.Cond.code ({ cls := "java/lang/String", name := "charAt", desc := "(I)C" } : Jvm.MethodName) jdk_42_method_56_code (2 : Nat) (Option.some Jvm.ClassFile.FieldType.char), Jvm.Cond.code ({ cls := "java/lang/StringLatin1", name := "charAt", desc := "([BI)C" } : Jvm.MethodName) jdk_43_method_2_code (2 : Nat) (Option.some Jvm.ClassFile.FieldType.char), Jvm.Cond.code ({ cls := "java/lang/String", name := "checkIndex", desc := "(II)V" } : Jvm.MethodName) jdk_42_method_155_code (2 : Nat) (Option.none : Option Jvm.ClassFile.FieldType), Jvm.Cond.code ({ cls := "jdk/internal/util/Preconditions", name := "checkIndex", desc := "(IILjava/util/function/BiFunction;)I" } : Jvm.MethodName) jdk_41_method_11_code (3 : Nat) (Option.some Jvm.ClassFile.FieldType.int), Jvm.Cond.code ({ cls := "java/lang/StringBuilder", name := "toString", desc := "()Ljava/lang/String;" } : Jvm.MethodName) jdk_67_method_42_code (1 : Nat) (Option.some (Jvm.ClassFile.FieldType.object "java/lang/String")), Jvm.Cond.code ({ cls := "java/lang/String", name := "<init>", desc := "(Ljava/lang/StringBuilder;)V" } : Jvm.MethodName) jdk_42_method_53_code (2 : Nat) (Option.none : Option Jvm.ClassFile.FieldType), Jvm.Cond.code ({ cls := "java/lang/String", name := "<init>", desc := "(Ljava/lang/AbstractStringBuilder;Ljava/lang/Void;)V" } : Jvm.MethodName) jdk_42_method_150_code (5 : Nat) (Option.none : Option Jvm.ClassFile.FieldType), Jvm.Cond.code ({ cls := "java/lang/AbstractStringBuilder", name := "getValue", desc := "()[B" } : Jvm.MethodName) jdk_68_method_64_code (1 : Nat) (Option.some (Jvm.ClassFile.FieldType.array Jvm.ClassFile.FieldType.byte)), Jvm.Cond.code ({ cls := "java/lang/StringBuilder", name := "length", desc := "()I" } : Jvm.MethodName) jdk_67_method_93_code (1 : Nat) (Option.some Jvm.ClassFile.FieldType.int), Jvm.Cond.code ({ cls := "java/lang/AbstractStringBuilder", name := "length", desc := "()I" } : Jvm.MethodName) jdk_68_method_6_code (1 : Nat) (Option.some Jvm.ClassFile.FieldType.int), Jvm.Cond.code ({ cls := "java/lang/AbstractStringBuilder", name := "isLatin1", desc := "()Z" } : Jvm.MethodName) jdk_68_method_68_code (1 : Nat) (Option.some Jvm.ClassFile.FieldType.boolean), Jvm.Cond.code ({ cls := "java/util/Arrays", name := "copyOfRange", desc := "([BII)[B" } : Jvm.MethodName) jdk_65_method_132_code (3 : Nat) (Option.some (Jvm.ClassFile.FieldType.array Jvm.ClassFile.FieldType.byte)), Jvm.Cond.code ({ cls := "java/util/Arrays", name := "copyOfRangeByte", desc := "([BII)[B" } : Jvm.MethodName) jdk_65_method_133_code (5 : Nat) (Option.some (Jvm.ClassFile.FieldType.array Jvm.ClassFile.FieldType.byte)), Jvm.Cond.code ({ cls := "java/util/Arrays", name := "checkLength", desc := "(II)V" } : Jvm.MethodName) jdk_65_method_131_code (2 : Nat) (Option.none : Option Jvm.ClassFile.FieldType), Jvm.Cond.code ({ cls := "java/lang/StringUTF16", name := "toBytes", desc := "([CII)[B" } : Jvm.MethodName) jdk_52_method_14_code (5 : Nat) (Option.some (Jvm.ClassFile.FieldType.array Jvm.ClassFile.FieldType.byte)), Jvm.Cond.code ({ cls := "java/lang/StringUTF16", name := "newBytesFor", desc := "(I)[B" } : Jvm.MethodName) jdk_52_method_2_code (1 : Nat) (Option.some (Jvm.ClassFile.FieldType.array Jvm.ClassFile.FieldType.byte)), Jvm.Cond.code ({ cls := "java/lang/StringUTF16", name := "newBytesLength", desc := "(I)I" } : Jvm.MethodName) jdk_52_method_3_code (1 : Nat) (Option.some Jvm.ClassFile.FieldType.int), Jvm.Cond.code ({ cls := "java/lang/StringUTF16", name := "putChar", desc := "([BII)V" } : Jvm.MethodName) jdk_52_method_4_code (3 : Nat) (Option.none : Option Jvm.ClassFile.FieldType), Jvm.Cond.code ({ cls := "java/lang/StringUTF16", name := "getChar", desc := "([BI)C" } : Jvm.MethodName) jdk_52_method_5_code (2 : Nat) (Option.some Jvm.ClassFile.FieldType.char), Jvm.Cond.code ({ cls := "java/lang/StringUTF16", name := "indexOf", desc := "([BIII)I" } : Jvm.MethodName) jdk_52_method_40_code (4 : Nat) (Option.some Jvm.ClassFile.FieldType.int), Jvm.Cond.code ({ cls := "java/lang/StringUTF16", name := "indexOfChar", desc := "([BIII)I" } : Jvm.MethodName) jdk_52_method_47_code (4 : Nat) (Option.some Jvm.ClassFile.FieldType.int), Jvm.Cond.code ({ cls := "java/lang/StringUTF16", name := "checkBoundsBeginEnd", desc := "(II[B)V" } : Jvm.MethodName) jdk_52_method_93_code (3 : Nat) (Option.none : Option Jvm.ClassFile.FieldType), Jvm.Cond.code ({ cls := "java/lang/StringUTF16", name := "length", desc := "([B)I" } : Jvm.MethodName) jdk_52_method_6_code (1 : Nat) (Option.some Jvm.ClassFile.FieldType.int), Jvm.Cond.code ({ cls := "java/lang/String", name := "checkBoundsBeginEnd", desc := "(III)V" } : Jvm.MethodName) jdk_42_method_158_code (3 : Nat) (Option.none : Option Jvm.ClassFile.FieldType), Jvm.Cond.code ({ cls := "jdk/internal/util/Preconditions", name := "checkFromToIndex", desc := "(IIILjava/util/function/BiFunction;)I" } : Jvm.MethodName) jdk_41_method_12_code (4 : Nat) (Option.some Jvm.ClassFile.FieldType.int), Jvm.Cond.code ({ cls := "java/lang/StringUTF16", name := "indexOfCharUnsafe", desc := "([BIII)I" } : Jvm.MethodName) jdk_52_method_48_code (5 : Nat) (Option.some Jvm.ClassFile.FieldType.int), Jvm.Cond.code ({ cls := "java/lang/StringUTF16", name := "charAt", desc := "([BI)C" } : Jvm.MethodName) jdk_52_method_83_code (2 : Nat) (Option.some Jvm.ClassFile.FieldType.char), Jvm.Cond.code ({ cls := "java/lang/StringUTF16", name := "checkIndex", desc := "(I[B)V" } : Jvm.MethodName) jdk_52_method_91_code (2 : Nat) (Option.none : Option Jvm.ClassFile.FieldType), Jvm.Cond.code ({ cls := "java/lang/StringBuilder", name := "append", desc := "(C)Ljava/lang/StringBuilder;" } : Jvm.MethodName) jdk_67_method_14_code (2 : Nat) (Option.some (Jvm.ClassFile.FieldType.object "java/lang/StringBuilder")), Jvm.Cond.code ({ cls := "java/lang/AbstractStringBuilder", name := "append", desc := "(C)Ljava/lang/AbstractStringBuilder;" } : Jvm.MethodName) jdk_68_method_31_code (2 : Nat) (Option.some (Jvm.ClassFile.FieldType.object "java/lang/AbstractStringBuilder")), Jvm.Cond.code ({ cls := "java/lang/AbstractStringBuilder", name := "ensureCapacityInternal", desc := "(I)V" } : Jvm.MethodName) jdk_68_method_9_code (3 : Nat) (Option.none : Option Jvm.ClassFile.FieldType), Jvm.Cond.code ({ cls := "java/lang/StringLatin1", name := "canEncode", desc := "(C)Z" } : Jvm.MethodName) jdk_43_method_3_code (1 : Nat) (Option.some Jvm.ClassFile.FieldType.boolean), Jvm.Cond.code ({ cls := "java/lang/AbstractStringBuilder", name := "inflate", desc := "()V" } : Jvm.MethodName) jdk_68_method_11_code (2 : Nat) (Option.none : Option Jvm.ClassFile.FieldType), Jvm.Cond.code ({ cls := "java/lang/StringLatin1", name := "inflate", desc := "([BI[BII)V" } : Jvm.MethodName) jdk_43_method_50_code (5 : Nat) (Option.none : Option Jvm.ClassFile.FieldType), Jvm.Cond.code ({ cls := "java/lang/StringUTF16", name := "inflate", desc := "([BI[BII)V" } : Jvm.MethodName) jdk_52_method_86_code (6 : Nat) (Option.none : Option Jvm.ClassFile.FieldType), Jvm.Cond.code ({ cls := "java/lang/StringUTF16", name := "checkBoundsOffCount", desc := "(II[B)V" } : Jvm.MethodName) jdk_52_method_94_code (3 : Nat) (Option.none : Option Jvm.ClassFile.FieldType), Jvm.Cond.code ({ cls := "java/lang/String", name := "checkBoundsOffCount", desc := "(III)I" } : Jvm.MethodName) jdk_42_method_157_code (3 : Nat) (Option.some Jvm.ClassFile.FieldType.int), Jvm.Cond.code ({ cls := "jdk/internal/util/Preconditions", name := "checkFromIndexSize", desc := "(IIILjava/util/function/BiFunction;)I" } : Jvm.MethodName) jdk_41_method_13_code (4 : Nat) (Option.some Jvm.ClassFile.FieldType.int), Jvm.Cond.code ({ cls := "java/lang/StringUTF16", name := "putCharSB", desc := "([BII)V" } : Jvm.MethodName) jdk_52_method_71_code (3 : Nat) (Option.none : Option Jvm.ClassFile.FieldType)]
set_option maxRecDepth 65536 in
theorem codes_eq : words1.filter isCode = codes1 := rfl
theorem w_codes : ∀ c ∈ words1.filter isCode, c.before args0 about1 = true := by
  rw [codes_eq]
  intro c hc
  simp only [codes1, List.mem_cons, List.not_mem_nil, or_false] at hc
  rcases hc with rfl | rfl | rfl | rfl | rfl | rfl | rfl | rfl | rfl | rfl | rfl | rfl | rfl | rfl | rfl | rfl | rfl | rfl | rfl | rfl | rfl | rfl | rfl | rfl | rfl | rfl | rfl | rfl | rfl | rfl | rfl | rfl | rfl | rfl | rfl | rfl | rfl | rfl | rfl | rfl | rfl | rfl | rfl | rfl | rfl | rfl | rfl | rfl | rfl | rfl | rfl | rfl | rfl | rfl | rfl | rfl | rfl | rfl | rfl | rfl | rfl | rfl | rfl
  · exact w_c0
  · exact w_c1
  · exact w_c2
  · exact w_c3
  · exact w_c4
  · exact w_c5
  · exact w_c6
  · exact w_c7
  · exact w_c8
  · exact w_c9
  · exact w_c10
  · exact w_c11
  · exact w_c12
  · exact w_c13
  · exact w_c14
  · exact w_c15
  · exact w_c16
  · exact w_c17
  · exact w_c18
  · exact w_c19
  · exact w_c20
  · exact w_c21
  · exact w_c22
  · exact w_c23
  · exact w_c24
  · exact w_c25
  · exact w_c26
  · exact w_c27
  · exact w_c28
  · exact w_c29
  · exact w_c30
  · exact w_c31
  · exact w_c32
  · exact w_c33
  · exact w_c34
  · exact w_c35
  · exact w_c36
  · exact w_c37
  · exact w_c38
  · exact w_c39
  · exact w_c40
  · exact w_c41
  · exact w_c42
  · exact w_c43
  · exact w_c44
  · exact w_c45
  · exact w_c46
  · exact w_c47
  · exact w_c48
  · exact w_c49
  · exact w_c50
  · exact w_c51
  · exact w_c52
  · exact w_c53
  · exact w_c54
  · exact w_c55
  · exact w_c56
  · exact w_c57
  · exact w_c58
  · exact w_c59
  · exact w_c60
  · exact w_c61
  · exact w_c62
set_option maxRecDepth 65536 in
theorem w_t1 : (words1.take 24).all (fun c => isCode c || c.before args0 about1) = true := by decide +kernel
set_option maxRecDepth 65536 in
theorem w_t2 : ((words1.drop 24).take 24).all (fun c => isCode c || c.before args0 about1) = true := by decide +kernel
set_option maxRecDepth 65536 in
theorem w_t3 : (((words1.drop 24).drop 24).take 24).all (fun c => isCode c || c.before args0 about1) = true := by decide +kernel
set_option maxRecDepth 65536 in
theorem w_t4 : ((((words1.drop 24).drop 24).drop 24).take 24).all (fun c => isCode c || c.before args0 about1) = true := by decide +kernel
set_option maxRecDepth 65536 in
theorem w_t5 : (((((words1.drop 24).drop 24).drop 24).drop 24).take 24).all (fun c => isCode c || c.before args0 about1) = true := by decide +kernel
set_option maxRecDepth 65536 in
theorem w_t6 : ((((((words1.drop 24).drop 24).drop 24).drop 24).drop 24).take 24).all (fun c => isCode c || c.before args0 about1) = true := by decide +kernel
set_option maxRecDepth 65536 in
theorem w_t7 : (((((((words1.drop 24).drop 24).drop 24).drop 24).drop 24).drop 24).take 24).all (fun c => isCode c || c.before args0 about1) = true := by decide +kernel
set_option maxRecDepth 65536 in
theorem w_t8 : ((((((((words1.drop 24).drop 24).drop 24).drop 24).drop 24).drop 24).drop 24).take 24).all (fun c => isCode c || c.before args0 about1) = true := by decide +kernel
set_option maxRecDepth 65536 in
theorem w_t9 : (((((((((words1.drop 24).drop 24).drop 24).drop 24).drop 24).drop 24).drop 24).drop 24).take 24).all (fun c => isCode c || c.before args0 about1) = true := by decide +kernel
set_option maxRecDepth 65536 in
theorem w_t10 : ((((((((((words1.drop 24).drop 24).drop 24).drop 24).drop 24).drop 24).drop 24).drop 24).drop 24).take 24).all (fun c => isCode c || c.before args0 about1) = true := by decide +kernel
set_option maxRecDepth 65536 in
theorem w_t11 : (((((((((((words1.drop 24).drop 24).drop 24).drop 24).drop 24).drop 24).drop 24).drop 24).drop 24).drop 24).take 24).all (fun c => isCode c || c.before args0 about1) = true := by decide +kernel
set_option maxRecDepth 65536 in
theorem w_t12 : (((((((((((words1.drop 24).drop 24).drop 24).drop 24).drop 24).drop 24).drop 24).drop 24).drop 24).drop 24).drop 24).all (fun c => isCode c || c.before args0 about1) = true := by decide +kernel
theorem w_tables : (allAtoms (Jvm.Cond.code x code maxLocals ret :: tables_1)).before args0 about1 = true := by
  rw [allAtoms_all]
  show words1.all (fun c => c.before args0 about1) = true
  refine all_split ?_ w_codes
  rw [← List.take_append_drop 24 words1, List.all_append, w_t1, ← List.take_append_drop 24 (words1.drop 24), List.all_append, w_t2, ← List.take_append_drop 24 ((words1.drop 24).drop 24), List.all_append, w_t3, ← List.take_append_drop 24 (((words1.drop 24).drop 24).drop 24), List.all_append, w_t4, ← List.take_append_drop 24 ((((words1.drop 24).drop 24).drop 24).drop 24), List.all_append, w_t5, ← List.take_append_drop 24 (((((words1.drop 24).drop 24).drop 24).drop 24).drop 24), List.all_append, w_t6, ← List.take_append_drop 24 ((((((words1.drop 24).drop 24).drop 24).drop 24).drop 24).drop 24), List.all_append, w_t7, ← List.take_append_drop 24 (((((((words1.drop 24).drop 24).drop 24).drop 24).drop 24).drop 24).drop 24), List.all_append, w_t8, ← List.take_append_drop 24 ((((((((words1.drop 24).drop 24).drop 24).drop 24).drop 24).drop 24).drop 24).drop 24), List.all_append, w_t9, ← List.take_append_drop 24 (((((((((words1.drop 24).drop 24).drop 24).drop 24).drop 24).drop 24).drop 24).drop 24).drop 24), List.all_append, w_t10, ← List.take_append_drop 24 ((((((((((words1.drop 24).drop 24).drop 24).drop 24).drop 24).drop 24).drop 24).drop 24).drop 24).drop 24), List.all_append, w_t11, w_t12]
  rfl
set_option maxRecDepth 65536 in
theorem w_rest : rest_1_c.before args0 about1 = true := by decide +kernel
set_option maxRecDepth 65536 in
theorem w_case : (Jvm.Cond.and given_1 narrow_1).before args0 about1 = true := by decide +kernel
set_option maxRecDepth 65536 in
theorem w_consts : constsHeld consts_1 about1 := Jvm.Lit.constsHeldB_iff.mp (by decide +kernel)
theorem w_applies : (headSpec (Jvm.Cond.code x code maxLocals ret :: tables_1) room_1).applies x e0.platform about1 = true :=
  (Spec.applies_iff w_frames).mpr ⟨w_running, w_runnable, w_alone, w_named, w_hears, w_ripe, w_room, w_tables⟩
theorem atStart : AtStart classFile x code maxLocals ret World_1 tables_1 room_1 Calls_1 rest_1 Pre_1 launch0 p0 e0 about1 theMethod args0 below0 :=
  ⟨lists_1, trivial, launch0.admits_env _ _ _, launch0.least_env, fairChoices_fair.cas, fairChoices_fair.clock, w_frames, w_args, w_heap, w_applies, ⟨w_consts, trivial⟩, w_rest, w_case⟩
end start1
theorem witness_1 : WitnessClaimed_1 := ⟨start1.p0, start1.e0, start1.about1, start1.theMethod, start1.args0, start1.below0, start1.atStart⟩
end Jvm.Pilot.@@N@@
