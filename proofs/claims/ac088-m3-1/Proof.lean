import JvmDerived
import JvmDerived.Pilot.@@N@@Statement
import JvmDerived.Pilot.@@N@@Code
set_option linter.unusedVariables false
set_option linter.unusedSimpArgs false
@@BLOCK:NumsL.lean.txt@@
@@BLOCK:LamKit.lean.txt@@
namespace Jvm.RoadKit
open Sem ClassFile Op Lib Jvm.Stand Jvm.Free Jvm.LawKit
section New
variable {p : Program} {l : Launch} {e : Env} {R : Room} {s : State} {m : MethodId} {args : Array Value} {below : List Frame} {meth : Method} {c : Code} {T : State} {locs : List Loc} {cells slots : Nat}
theorem retI (X : Stand p l e R s m args below meth c T locs cells slots) (hx : p.tables.exec = Jvm.exec) {pc : Nat} {Ls : Array Slot} {z : Int32} {rest : List Value} (hret : meth.sig.returnType = some .int) (hd : decode c.code pc = .ok (.ireturn, 1)) {fs : List Frame}
    (hl : ∀ (f : JFrame) (acts : List Action), f.method = m → f.locked = none → f.entered = [] → (doReturn e (T.setTop f) acts (some (.int z))).1 = T.setFrames fs) : Steps p.tables e below (T.setTop (mkF m pc Ls (.int z :: rest))) (T.setFrames fs) := by
  have hm' : T.vm.method? m = some meth := X.method'
  have hn : narrow .int (.int z) = .int z := rfl
  show Steps p.tables e below (T.setTop { method := m, pc := pc, locals := Ls, stack := _ :: rest, locked := none }) _
  jvm_step X.here [X.here.top, hx, hd, hm', hret, hn]
  first | (intro acts; rw [hl _ acts rfl rfl rfl]) | rw [hl _ _ rfl rfl rfl]
  exact Steps.refl _
end New
end Jvm.RoadKit
namespace Jvm.RoadKit
open Sem ClassFile Op Lib Jvm.Stand Jvm.Free Jvm.LawKit Jvm.LamKit
section OwnLam
variable {p : Program} {l : Launch} {e : Env} {R : Room} {s : State} {m : MethodId} {args : Array Value} {below : List Frame} {meth : Method} {c : Code} {T : State} {locs : List Loc} {cells slots : Nat} {Z : State} {a0 : Array Value} {h : Heap}
def own_Fn (Z : State) (host : String) (σ : Lambda.Shape) (a : Addr) (cK : ClassId) : Prop := Jvm.LamKit.Made Z host σ cK ∧ ∃ cell : Cell, Z.heap[a]? = some cell ∧ cell.cls = cK ∧ cell.vm = .none
theorem own_site (X : Stand p l e R s m args below meth c T locs cells slots) (hx : p.tables.exec = Jvm.exec) (hZ : Z.Warmed39 s.vm) {x : MethodName} {pc index : Nat} {σ : Lambda.Shape} (hnamed : s.methodNamed? x = some m)
    (w : (Cond.lambdaSite x pc index σ).before a0 Z = true) (hcap : σ.captured = []) {g : JFrame} (hg : g.method = m) (hpc : g.pc = pc) (hsize : g.locals.size = c.maxLocals)
    (hdg : decode c.code g.pc = .ok (.invokedynamic index, 5)) (hwords : 2 * g.monitorRoom + (g.stack.map fun v => v.category).sum + 3072 ≤ R.locals) :
    ∃ (a : Addr) (cK : ClassId), own_Fn Z x.cls σ a cK ∧ ∀ target, Steps p.tables e below (T.setTop { g with pc := g.pc + 5, stack := .ref a :: g.stack }) target → Steps p.tables e below (T.setTop g) target := by
  obtain ⟨cK, one, hat⟩ := Cond.lambdaSite_spec w
  obtain ⟨mD, kD, cfD, i0, p0, lk, hmD, hkD, -, -, -, hfind, hmade, hcan, hl⟩ := State.lambdaAt?_spec hat
  have hmm : Z.methodNamed? x = some m := by
    have q := State.methodNamed?_setVm (s := Z) hZ.alike x
    rw [← q]; exact hnamed
  cases hmm.symm.trans hmD
  obtain ⟨kD', hkD', hnameD⟩ := className_of_methodNamed hmm
  cases hkD.symm.trans hkD'
  rcases hl with ⟨a, cell, rfl, -, -, hcell, hcls, hvm, -⟩ | ⟨-, -, hne⟩
  · have hw : e.platform.lambdaLinkWords = 3072 := by rw [X.admits.platform]
    obtain ⟨kS, hkS, eS⟩ := hZ.alike.2.2 _ _ hkD
    refine ⟨a, cK, ⟨⟨_, kD, hkD, hnameD, hmade, hcan⟩, cell, hcell, hcls, hvm⟩, fun target hh => ?_⟩
    exact X.lambdaConstant hx hg hsize hdg hkS (by rw [hpc, eS]; exact hfind) (by rw [hw]; exact hwords) hh
  · exact absurd hcap hne
theorem own_res39 {Z : State} {vm' : Vm} (hW : Z.Warmed39 vm') {d : ClassId} {i : Nat} {r : Resolved} (hr : ∃ k, Z.vm.classes[d]? = some k ∧ k.resolved[i]? = some (some r)) : ∃ k, vm'.classes[d]? = some k ∧ k.resolved[i]? = some (some r) := by
  obtain ⟨k, hk, hr⟩ := hr
  obtain ⟨k', hk', -, -, hres, -⟩ := hW.2.2.2 _ _ hk
  refine ⟨k', hk', ?_⟩
  rcases hres i with q | ⟨q, -⟩
  · rw [q]; exact hr
  · rw [hr] at q; cases q
theorem own_lam {n0 : Nat} (X : Stand p l e R s m args below meth c T locs cells slots) (hx : p.tables.exec = Jvm.exec) (hZ : Z.Warmed39 s.vm) {own host : String} {index count : Nat} {xi y : MethodName} {σ : Lambda.Shape}
    (hown : s.vm.findClass own = some m.cls) (wl : (Cond.methodLink own index xi).before a0 Z = true) (wd : (Cond.declares xi).before a0 Z = true) (wf : (Cond.interfaceMethod xi.cls xi.cls xi.name xi.desc).before a0 Z = true)
    {bytes : ByteArray} {maxL : Nat} {ret : Option FieldType} (wc : (Cond.code y bytes maxL ret).before a0 Z = true) (wi : (Cond.instanceMethod y).before a0 Z = true) (wz : (Cond.initialized y.cls).before a0 Z = true) (wsel : (Cond.selects y.cls y y).before a0 Z = true)
    (hxi : xi.cls = σ.iface ∧ xi.name = σ.name ∧ xi.desc = σ.sam.toString) (hy : y.cls = σ.implClass ∧ y.name = σ.implName ∧ y.desc = σ.implDesc.toString)
    (hpoly : (xi.cls ≠ "java/lang/invoke/MethodHandle" ∧ xi.cls ≠ "java/lang/invoke/VarHandle") ∧ y.cls ≠ "java/lang/invoke/MethodHandle" ∧ y.cls ≠ "java/lang/invoke/VarHandle")
    {a r : Addr} {cK : ClassId} (F : own_Fn Z host σ a cK) (O : Old Z n0 h) (eT : T.heap = h) (E : Exa Z h r y.cls)
    {fcode : ByteArray} {idx ci : Nat} (hok : fwdOK σ host fcode 2 (some .int) idx ci = true)
    (hd0 : decode fcode 0 = .ok (.aload_n 1, 1)) (hd1 : decode fcode 1 = .ok (.checkcast ci, 3)) (hd4 : decode fcode 4 = .ok (.invokevirtual idx, 3)) (hd7 : decode fcode 7 = .ok (.ireturn, 1))
    {rm : Room} {v : Int32} (hM : MetFree l y (head1 [Cond.code y bytes maxL ret] rm) (fun a U => a = #[.ref r] ∧ Z.Warmed39 U.vm ∧ U.heap = h) (fun _ _ _ _ _ => True) (fun _ U o U' => ∃ v' L, o = .returned v' ∧ (v' = some (.int v) ∧ Fr n0 L ∧ U'.heap = h) ∧ FrameEnd U o U' L rm.cells rm.slots)) (hrc : rm.cells = 0) (hrs : rm.slots = 0)
    (hparL : ∀ sig, parseMethodDescriptor xi.desc = some sig → sig.parameters.length = 1) (hparT : ∀ sig, parseMethodDescriptor y.desc = some sig → sig.parameters.length = 0)
    {g : JFrame} (hg : g.method = m) (hsize : g.locals.size = c.maxLocals) {rest : List Value} (hstack : g.stack = .ref r :: .ref a :: rest) (hdg : decode c.code g.pc = .ok (.invokeinterface index count, 5))
    (hfr : rm.frames + 2 ≤ R.frames) (hlo : 2 * g.monitorRoom + (rest.map fun v => v.category).sum + (2 + 11) + ((maxL + 11) + rm.locals) ≤ R.locals) (hcR : cells ≤ R.cells) (hsR : slots ≤ R.slots) :
    ∃ (T' : State) (L : List Loc), Stand p l e R s m args below meth c T' (locs ++ L) cells slots ∧ T'.heap = h ∧ Fr n0 L ∧
      ∀ target, Steps p.tables e below (T'.setTop { g with pc := g.pc + 5, stack := .int v :: rest }) target → Steps p.tables e below (T.setTop g) target := by
  obtain ⟨hmd, cell, hcell0, rfl, hvmc⟩ := F
  have hcell : T.heap[a]? = some cell := by rw [eT]; exact O.2.2 _ _ hcell0
  have hA := hZ.alike
  have hmd0 := hmd
  obtain ⟨kK, methk, hkK, hmk, hpub, habs, hsel⟩ := madeSelects hmd hok wf hxi
  obtain ⟨r0, rr, hn, hrm, hstR, hsigR⟩ := Cond.declares_spec wd
  obtain ⟨cL, kL, r1, hcL, hkL, hiL, -, -⟩ := Cond.interfaceMethod_spec wf
  have hr0cls : r0.cls = cL := Option.some.inj ((findClass_of_methodNamed hn).symm.trans hcL)
  obtain ⟨hasg, hsel', hway⟩ := hsel r0 rr hn hrm
  obtain ⟨kK1, hkK1, -⟩ := hA.2.2 _ _ hkK
  obtain ⟨kL1, hkL1, eL1⟩ := hA.2.2 _ _ hkL
  have hnS : s.methodNamed? xi = some r0 := by
    have q := State.methodNamed?_setVm (s := Z) hA xi
    rw [hn] at q; exact q
  obtain ⟨vm₁, X₁, hstep₁⟩ := X.invokeinterface hx hown (mvT hZ wl) hnS (by rw [hA.method?]; exact hrm) hstR (ki := kL1) (by rw [hr0cls]; exact hkL1) (by rw [eL1]; exact hiL) hpoly.1 (a := a) (cell := cell) (kcell := kK1) hcell (fun z q => by rw [hvmc] at q; cases q) hkK1 (by rw [hA.assignable]; exact hasg)
    (m' := ⟨cell.cls, 1⟩) (meth' := methk) (by rw [Launch.admits_selectMethod X.admits, hA.selectMethod]; exact hsel') (by rw [hA.method?]; exact hmk) (by simp only [hA.superclasses, hA.declaredIn]; exact hway) hpub habs hg (argsL := [.ref r]) (rest := rest) (by rw [hparL _ hsigR]; rfl) hstack hdg
  have hW1 : Z.Warmed39 vm₁ := wtrans hZ X₁.warmed
  have hA1 := hW1.alike
  obtain ⟨d, dk, hd, hdn, hmade, -⟩ := hmd0
  obtain ⟨kF, tk, file, methF, ck, toy, tgt, nt, hkF, hpn, hfile, hidx, hnt, hmF, hck, hbytes, hmlF, hlkF, -, hretF, htoy, htk, hlook, hready, hclsR⟩ := made_static hok hd hdn hmade
  obtain ⟨y1, y2, y3⟩ := hy
  obtain ⟨mT, methT, hmT, hmethT, hstT, habT⟩ := Cond.instanceMethod_spec wi
  obtain ⟨methT', cT, q1, hcT, -, hlocT, -, -, -, hsigT⟩ := Cond.code_spec hmT wc
  cases hmethT.symm.trans q1
  have hfT := findClass_of_methodNamed hmT
  cases htoy.symm.trans (y1 ▸ hfT)
  have ht : tgt = mT := by
    have h1 : Z.methodFound? y.cls y.name y.desc = some mT := State.methodFound?_of_named hmT hpoly.2
    rw [y1, y2, y3] at h1
    simp only [State.methodFound?, htoy, htk, Option.bind_eq_bind, Option.bind_some] at h1
    rw [hlook] at h1
    exact Option.some.inj h1
  subst ht
  obtain ⟨kF1, hkF1, eF1⟩ := hA1.2.2 _ _ hkF
  obtain ⟨tk1, htk1, etk1⟩ := hA1.2.2 _ _ htk
  have hmF1 : vm₁.method? ⟨cell.cls, 1⟩ = some methF := by rw [hA1.method?]; exact hmF
  have hmT1 : vm₁.method? tgt = some methT := by rw [hA1.method?]; exact hmethT
  have hfile1 : kF1.cf = some file := by rw [eF1]; exact hfile
  have hready1 : vm₁.methodReady cell.cls idx tgt := own_res39 hW1 hready
  have hclsR1 : vm₁.classReady cell.cls ci tgt.cls := own_res39 hW1 hclsR
  have hsp : ∀ z : Method, signaturePolymorphic tk1 z = false := fun z => by
    obtain ⟨kT, hkT, hnameT⟩ := className_of_methodNamed hmT
    cases htk.symm.trans hkT
    have hn' : tk1.name = y.cls := by rw [etk1]; exact hnameT
    simp [signaturePolymorphic, hn', hpoly.2.1, hpoly.2.2]
  obtain ⟨b, hmem⟩ := memberRef_ask' (e := e) (vm := vm₁) (d := cell.cls) (index := idx) hkF1 hfile1 (Or.inl hidx) hnt
  have hpk : (T.setVm vm₁).plainMethod ⟨cell.cls, 1⟩ := State.plainMethod.of_name (fun k' hk' => by cases hkF1.symm.trans hk'; rw [eF1]; exact hpn)
  obtain ⟨Y₀, hin⟩ := X₁.into (g := { g with stack := rest }) hg hsize hdg #[.ref a, .ref r] (R' := { frames := rm.frames + 1, cells := 0, slots := 0, locals := (maxL + 11) + rm.locals }) hmF1 hck hlkF hpk hfr (by rw [hmlF]; exact hlo) hcR hsR
  have hef : entryFrame (⟨cell.cls, 1⟩ : MethodId) #[.ref a, .ref r] 2 = { method := ⟨cell.cls, 1⟩, pc := 0, locals := #[.val (.ref a), .val (.ref r)], stack := [], locked := none } := by first | rfl | simp [entryFrame, argsToLocals, Value.category]
  rw [hmlF, hef] at Y₀ hin
  generalize hU : ((T.setVm vm₁).setTop { g with stack := rest }).pushFrame (.java { method := ⟨cell.cls, 1⟩, pc := 0, locals := #[.val (.ref a), .val (.ref r)], stack := [], locked := none }) = U at Y₀ hin
  have hvmU : U.vm = vm₁ := by rw [← hU]; rfl
  have hheapU : U.heap = h := by rw [← hU]; exact eT
  generalize hs' : (T.setVm vm₁).calling { g with stack := rest } ⟨cell.cls, 1⟩ #[.ref a, .ref r] = s' at Y₀
  have hvm' : s'.vm = vm₁ := by rw [← hs']; rfl
  have hZ' : Z.Warmed39 s'.vm := by rw [hvm']; exact hW1
  have hK := backOf (R := { frames := rm.frames + 1, cells := 0, slots := 0, locals := (maxL + 11) + rm.locals }) (p := p) (e := e) (below := .java { g with stack := rest } :: below) (s := s') (args := #[.ref a, .ref r]) (len := 3) (W := 0) (Q := fun v' h' L => v' = some (.int v) ∧ Fr n0 L ∧ h' = h) hM hZ' wc wz (Nat.le_refl _) (by show 0 + (maxL + 11) + rm.locals ≤ (maxL + 11) + rm.locals; omega)
  have hnamedU : U.methodNamed? y = some tgt := by
    have q := State.methodNamed?_setVm (s := Z) hA1 y
    rw [hmT] at q
    rw [← hU]; exact q
  obtain ⟨v', ⟨U', ls, cc, sl⟩, Y₁, ⟨L, ⟨rfl, hL, hh⟩, hl, hc, hs⟩, hsteps⟩ := hK ⟨cell.cls, 1⟩ methF ck ⟨U, [], 0, 0⟩ { method := ⟨cell.cls, 1⟩, pc := 4, locals := #[.val (.ref a), .val (.ref r)], stack := [], locked := none } (.invokevirtual idx) tgt #[.ref r] Y₀ rfl (by rw [hmlF]; rfl)
    (by rw [hbytes]; exact hd4) (Nat.le_refl _) hnamedU ⟨rfl, hheapU, by show 0 + rm.cells ≤ 0; omega, by show 0 + rm.slots ≤ 0; omega⟩
  dsimp only [Pt.U, Pt.locs, Pt.cells, Pt.slots] at Y₁ hh hl hc hs hsteps
  subst hl; subst hc; subst hs
  obtain ⟨fs, hleave, -, hended, hWe, hsame⟩ := Y₁.leave (v := some (.int v)) (fun q => by rw [hretF] at q; cases q) hlkF
  subst hs'
  obtain ⟨T', X', -, -, ht⟩ := X₁.outOf (g := { g with stack := rest }) hg hdg hended hWe hsame
  have hheap' : T'.heap = h := by
    have q : (U'.setFrames fs).heap = (T'.setTop { g with pc := g.pc + 5, stack := .int v :: rest }).heap := congrArg State.heap ht
    exact (show T'.heap = U'.heap from q.symm).trans hh
  refine ⟨T', _, ?_, hheap', hL, fun target kt => hstep₁ _ fun acts => ?_⟩
  · have q := X'
    rw [hrc, hrs] at q
    simpa using q
  · refine Steps.trans ?_ kt
    rw [hin acts]
    have ht' : T'.setTop { g with pc := g.pc + 5, stack := .int v :: rest } = U'.setFrames fs := ht.symm
    rw [ht']
    refine Steps.weaken (mid := [.java { g with stack := rest }]) ?_
    have e0 : decode ck.code 0 = .ok (.aload_n 1, 1) := by rw [hbytes]; exact hd0
    have e1 : decode ck.code 1 = .ok (.checkcast ci, 3) := by rw [hbytes]; exact hd1
    have e4 : decode ck.code 4 = .ok (.invokevirtual idx, 3) := by rw [hbytes]; exact hd4
    have e7 : decode ck.code 7 = .ok (.ireturn, 1) := by rw [hbytes]; exact hd7
    refine XS.aloadN Y₀.here hx rfl e0 rfl rfl ?_
    obtain ⟨cr, kr, r1', r2', r3', r4', -⟩ := E
    have hrU : U.heap[r]? = some cr := by rw [hheapU]; exact r1'
    obtain ⟨kr1, hkr1, -⟩ := hA1.2.2 _ _ r3'
    have hcls : cr.cls = tgt.cls := Option.some.inj (r2'.symm.trans (y1 ▸ hfT))
    have hsU : U.topJava?.isSome := Y₀.here.top
    jvm_step Y₀.here [hx, e1, checkcast.wp_ready (e := e) (s := U) (index := ci) (c := tgt.cls) (x := .ref r) (rest := []) (f := { method := ⟨cell.cls, 1⟩, pc := 1, locals := #[.val (.ref a), .val (.ref r)], stack := [.ref r], locked := none }) hsU (by rw [hvmU]; exact hclsR1) rfl]
    have hns : ∀ k : ClassId, ¬ cr.vm = VmData.statics k := fun z q => by rw [q] at r4'; cases r4'
    refine ⟨cr, hrU, hns, kr1, by rw [hvmU]; exact hkr1, tk1, by rw [hvmU]; exact htk1, ?_⟩
    rw [if_pos (by rw [hcls]; exact Vm.assignable_self _ _)]
    obtain ⟨c2, r2, m2, q1, q2, q3, q4, kP, hkP, hkPi⟩ := Cond.selects_spec wsel
    cases hmT.symm.trans q3
    cases (State.methodFound?_of_named hmT hpoly.2).symm.trans q2
    have hc2 : c2 = cr.cls := Option.some.inj (q1.symm.trans r2')
    subst hc2
    obtain ⟨kP1, hkP1, eP1⟩ := hA1.2.2 _ _ hkP
    have htkI : tk1.isInterface = false := by
      cases hkP.symm.trans htk
      rw [etk1]; exact hkPi
    jvm_step Y₀.here [hx, e4, invokevirtual.wp_ready (e := e) (s := U) (index := idx) (a := r) (r := tgt) (m := tgt) (k := tk1) (mk := kP1) (rmeth := methT) (meth := methT) (args := []) (rest := []) (cell := cr) (f := { method := ⟨cell.cls, 1⟩, pc := 4, locals := #[.val (.ref a), .val (.ref r)], stack := [.ref r], locked := none }) hsU
      ⟨kF1, file, ci, nt, tgt.cls, tk1, by rw [hvmU]; exact hkF1, hfile1, hidx, by rw [hvmU]; exact hclsR1, by rw [hvmU]; exact htk1, htkI⟩ (by rw [hvmU]; exact hready1) (by rw [hvmU]; exact htk1) (by rw [hvmU]; exact hmT1) (hsp _) hstT (by rw [hparT _ hsigT]; rfl) rfl hrU hns (by rw [Launch.admits_selectMethod X.admits, hvmU, hA1.selectMethod]; exact q4) (by rw [hvmU]; exact hmT1) habT (by rw [hvmU]; exact hkP1) (by rw [eP1]; exact hkPi)]
    intro acts'
    rw [doInvoke_state]
    refine hsteps.trans ?_
    exact retI Y₁ hx hretF e7 hleave
end OwnLam
section OwnLst
variable {p : Program} {l : Launch} {e : Env} {R : Room} {s : State} {m : MethodId} {args : Array Value} {below : List Frame} {meth : Method} {c : Code} {T : State} {locs : List Loc} {cells slots : Nat} {Z : State} {a0 : Array Value} {h : Heap}
theorem own_NSroot {O K : String} {n : Nat} (w : (Cond.noSuperclass O).before a0 Z = true) (wk : (Cond.instantiable K n).before a0 Z = true) (hn : O ≠ K) : NS Z O K := by
  obtain ⟨c, k, h1, h2, h3, -, -⟩ := Cond.noSuperclass_spec w
  obtain ⟨t, k', g1, -⟩ := Cond.instantiable_spec wk
  have ne := ids_ne h1 g1 hn
  refine ⟨c, t, h1, g1, fun fuel => ?_⟩
  cases fuel with
  | zero => rfl
  | succ f => simp [Vm.isSubclassAux, ne, h2, h3]
theorem own_NSno {C S K : String} {n : Nat} (w : (Cond.superclass C S).before a0 Z = true) (wk : (Cond.instantiable K n).before a0 Z = true) (nn : NS Z C K) (hn : C ≠ K) : ∃ c t, Z.vm.findClass C = some c ∧ Z.vm.findClass K = some t ∧ Z.vm.assignable c t = false := by
  obtain ⟨c, t, h0, g0, n3⟩ := nn
  obtain ⟨p, k, kp, h1, h2, h3, h4, h5, -, h7⟩ := Cond.superclass_spec h0 w
  obtain ⟨t', k', g1, g2, g3, g4, -⟩ := Cond.instantiable_spec wk
  cases g0.symm.trans g1
  have ne := ids_ne h0 g0 hn
  have g7 := (Bool.or_eq_false_iff.mp g4).1
  refine ⟨c, t, h0, g0, ?_⟩
  show Z.vm.assignableAux (255 + 1) c t = false
  simp [Vm.assignableAux, ne, h2, g2, h5, g3, g7, Vm.isSubclass, n3]
def own_Mi (Z : State) (C : String) (mr : Addr) : Prop := ∃ (c : ClassId) (k : Class), Z.vm.findClass C = some c ∧ Z.vm.classes[c]? = some k ∧ k.mirror = some mr
theorem own_gcls (X : Stand p l e R s m args below meth c T locs cells slots) (hx : p.tables.exec = Jvm.exec) (hZ : Z.Warmed39 s.vm) {own C : String} {index : Nat} (hown : s.vm.findClass own = some m.cls)
    (w1 : (Cond.methodLink own index ⟨"java/lang/Object", "getClass", "()Ljava/lang/Class;"⟩).before a0 Z = true) (w2 : (Cond.declares ⟨"java/lang/Object", "getClass", "()Ljava/lang/Class;"⟩).before a0 Z = true) (w3 : (Cond.noSuperclass "java/lang/Object").before a0 Z = true) (w4 : (Cond.selects C ⟨"java/lang/Object", "getClass", "()Ljava/lang/Class;"⟩ ⟨"java/lang/Object", "getClass", "()Ljava/lang/Class;"⟩).before a0 Z = true)
    (w5 : (Cond.instanceMethod ⟨"java/lang/Object", "getClass", "()Ljava/lang/Class;"⟩).before a0 Z = true) (w6 : (Cond.native ⟨"java/lang/Object", "getClass", "()Ljava/lang/Class;"⟩).before a0 Z = true) (eT : T.heap = h) {a : Addr} (E : Exa Z h a C) {mr : Addr} (M : own_Mi Z C mr)
    {g : JFrame} (hg : g.method = m) (hsize : g.locals.size = c.maxLocals) {rest : List Value} (hs : g.stack = .ref a :: rest) (hd : decode c.code g.pc = .ok (.invokevirtual index, 3)) (hf : 1 ≤ R.frames) {W : Nat} (hW : 2 * g.monitorRoom + (rest.map fun v => v.category).sum ≤ W) (hl : W + (nativeFrameWords "java/lang/Object" "getClass" 1 + 11) ≤ R.locals) :
    ∃ T', Stand p l e R s m args below meth c T' locs cells slots ∧ T'.heap = h ∧ ∀ target, Steps p.tables e below (T'.setTop { g with pc := g.pc + 3, stack := .ref mr :: rest }) target → Steps p.tables e below (T.setTop g) target := by
  obtain ⟨cB, kB, i1, i2, i3⟩ := isOf hZ eT E
  obtain ⟨cc, kc, m1, m2, m3⟩ := M
  rw [hZ.alike.findClass] at i1
  cases i1.symm.trans m1
  obtain ⟨k', q, ek⟩ := hZ.alike.2.2 _ _ m2
  obtain ⟨vm', X', st⟩ := X.getClassOf hx hown (mvT hZ w1) (mvT hZ w2) (nf_top (args := #[]) (mvT hZ w3)) (mvT hZ w4) (mvT hZ w5) (mvT hZ w6) (by rw [hZ.alike.findClass]; exact m1) i3 q (by rw [ek]; exact m3) hg hsize hs hd hf (by omega)
  exact ⟨_, X', eT, st⟩
theorem own_ldcM (X : Stand p l e R s m args below meth c T locs cells slots) (hx : p.tables.exec = Jvm.exec) (hZ : Z.Warmed39 s.vm) {own C : String} {index : Nat} (hown : s.vm.findClass own = some m.cls) (w : (Cond.classLink own index C).before a0 Z = true) (eT : T.heap = h) {mr : Addr} (M : own_Mi Z C mr)
    {g : JFrame} (hg : g.method = m) (hd : decode c.code g.pc = .ok (.ldc index, 2)) :
    ∃ T', Stand p l e R s m args below meth c T' locs cells slots ∧ T'.heap = h ∧ ∀ target, Steps p.tables e below (T'.setTop { g with pc := g.pc + 2, stack := .ref mr :: g.stack }) target → Steps p.tables e below (T.setTop g) target := by
  obtain ⟨cc, kc, m1, m2, m3⟩ := M
  obtain ⟨k', q, ek⟩ := hZ.alike.2.2 _ _ m2
  have hev : (Term.mirror C).eval args s none [] s = some (.ref mr) := by
    have q1 : s.vm.findClass C = some cc := by rw [hZ.alike.findClass]; exact m1
    have q2 : k'.mirror = some mr := by rw [ek]; exact m3
    simp [Term.eval, q1, q, q2]
  obtain ⟨vm', X', st⟩ := X.ldcMirror hx hown (mvT hZ w) hev hg hd
  exact ⟨_, X', eT, st⟩
theorem own_mvMN {own host : String} {x : MethodName} {index : Nat} (hZ : Z.Warmed39 s.vm) (w : (Cond.methodLinkNest own index x host).before a0 Z = true) : (Cond.methodLinkNest own index x host).before args s = true := (Cond.methodLinkNest_wide hZ w :)
end OwnLst
end Jvm.RoadKit
namespace Jvm.Pilot.@@N@@
open Jvm Jvm.ClassFile Sem Op Lib Jvm.Free Jvm.Stand Jvm.LawKit Jvm.RoadKit Bundle Jvm.Pilot.@@N@@.Jvm.D
def own_Q (r : Option Value) (h0 : Heap) (n0 : Nat) (v : Option Value) (h : Heap) (L : List Loc) : Prop := v = r ∧ Fr n0 L ∧ h = h0
set_option maxRecDepth 65536
set_option maxHeartbeats 40000000
theorem oW {a0 : Array Value} {Z : State} (hw : ∀ d ∈ tables_1, d.before a0 Z = true) {d : Jvm.Cond} (i : Nat) (h : tables_1[i]? = some d) : d.before a0 Z = true := hw _ (List.mem_of_getElem? h)
theorem own_pre {tb : Tables} {e : Env} {below : List Frame} {T : State} {f g : JFrame} (h : f = g) : ∀ t, Steps tb e below (T.setTop g) t → Steps tb e below (T.setTop f) t := fun t k => castTop h k
abbrev own_HW (a0 : Array Value) (Z : State) : Prop := ∀ d ∈ tables_1, d.before a0 Z = true
abbrev own_M (l : Launch) (x : MethodName) (S : Spec) (A : Array Value) (Z : State) (h0 : Heap) (n0 : Nat) (Q : Heap → Nat → Option Value → Heap → List Loc → Prop) (k n : Nat) : Prop := MetFree l x S (fun a U => a = A ∧ Z.Warmed39 U.vm ∧ U.heap = h0) (fun _ _ _ _ _ => True) (fun _ U o U' => ∃ v L, o = .returned v ∧ Q h0 n0 v U'.heap L ∧ FrameEnd U o U' L k n)
abbrev vI (x : Int32) : Slot := .val (.int x)
abbrev vR (a : Addr) : Slot := .val (.ref a)
abbrev own_St (p : Program) (e : Env) (below : List Frame) (T : State) (m : MethodId) (pc : Nat) (L : Array Slot) (S : List Value) (t : State) : Prop := Steps p.tables e below (T.setTop (mkF m pc L S)) t
abbrev own_rm_ (f c s l : Nat) : Room := { frames := f, cells := c, slots := s, locals := l }
theorem oN1 {a b : Addr} (h : a ≠ b) : ¬ (a ∈ [b]) := fun q => (List.mem_cons.mp q).elim h (fun q => nomatch q)
theorem oN2 {a b c : Addr} (h : a ≠ b) (k : a ≠ c) : ¬ (a ∈ [b, c]) := fun q => (List.mem_cons.mp q).elim h (oN1 k)
theorem oE {a b n : Nat} (h : a < n) (g : b = n) : a ≠ b := Nat.ne_of_lt (Nat.lt_of_lt_of_le h (Nat.le_of_eq g.symm))
theorem oL {a b n : Nat} (h : a < n) (g : n ≤ b) : a ≠ b := Nat.ne_of_lt (Nat.lt_of_lt_of_le h g)
theorem oR {a : Option FieldType} {t : FieldType} (h : a = some t) {P : Prop} (q : a = none) : P := by rw [h] at q; cases q
theorem oZ (n : Nat) : ∃ z : Addr, z = n := ⟨_, rfl⟩
abbrev oM (l : Launch) (x : MethodName) (b : ByteArray) (k : Nat) (r : Option FieldType) (ws : List Jvm.Cond) (R : Room) (A : Array Value) (Z : State) (h0 : Heap) (n0 : Nat) (Q : Heap → Nat → Option Value → Heap → List Loc → Prop) : Prop := own_M l x (head1 (Jvm.Cond.code x b k r :: ws) R) A Z h0 n0 Q R.cells R.slots
abbrev oU : Slot := .unset
abbrev oA0 (p1 p2 p3 : Int32) (m_ u0_ u1_ u2_ u3_ nd : Nat) (c0 c1 c2 c3 c4 c5 c6 c7 : Slot) : Array Slot := #[vI (p1), vI (p2), vI (p3), vI ((m_ + 1).toInt32), vI ((0 : Int32)), vI (u0_.toInt32), vI ((u0_ + u1_).toInt32), vI ((u0_ + u1_ + u2_).toInt32), vI ((u0_ + u1_ + u2_ + u3_).toInt32), vI ((min u0_ m_).toInt32), vI ((min (u0_ + u1_) m_).toInt32), vI ((min (u0_ + u1_ + u2_) m_).toInt32), vI ((min (u0_ + u1_ + u2_ + u3_) m_).toInt32), vI (nd.toInt32), c0, c1, c2, c3, c4, c5, c6, c7]
abbrev oA1 (p1 p2 p3 : Int32) (m_ u0_ u1_ u2_ u3_ nd : Nat) (c0 c1 c2 c3 c4 c5 c6 c7 : Slot) : Array Slot := #[vI (p1), vI (p2), vI (p3), vI ((m_ + 1).toInt32), vI ((1 : Int32)), vI (u0_.toInt32), vI ((u0_ + u1_).toInt32), vI ((u0_ + u1_ + u2_).toInt32), vI ((u0_ + u1_ + u2_ + u3_).toInt32), vI ((min u0_ m_).toInt32), vI ((min (u0_ + u1_) m_).toInt32), vI ((min (u0_ + u1_ + u2_) m_).toInt32), vI ((min (u0_ + u1_ + u2_ + u3_) m_).toInt32), vI (nd.toInt32), c0, c1, c2, c3, c4, c5, c6, c7]
abbrev oA2 (p1 p2 p3 : Int32) (m_ u0_ u1_ u2_ u3_ nd : Nat) (c0 c1 c2 c3 c4 c5 c6 c7 : Slot) : Array Slot := #[vI (p1), vI (p2), vI (p3), vI ((m_ + 1).toInt32), vI ((2 : Int32)), vI (u0_.toInt32), vI ((u0_ + u1_).toInt32), vI ((u0_ + u1_ + u2_).toInt32), vI ((u0_ + u1_ + u2_ + u3_).toInt32), vI ((min u0_ m_).toInt32), vI ((min (u0_ + u1_) m_).toInt32), vI ((min (u0_ + u1_ + u2_) m_).toInt32), vI ((min (u0_ + u1_ + u2_ + u3_) m_).toInt32), vI (nd.toInt32), c0, c1, c2, c3, c4, c5, c6, c7]
abbrev oA3 (p1 p2 p3 : Int32) (m_ u0_ u1_ u2_ u3_ nd : Nat) (c0 c1 c2 c3 c4 c5 c6 c7 : Slot) : Array Slot := #[vI (p1), vI (p2), vI (p3), vI ((m_ + 1).toInt32), vI ((3 : Int32)), vI (u0_.toInt32), vI ((u0_ + u1_).toInt32), vI ((u0_ + u1_ + u2_).toInt32), vI ((u0_ + u1_ + u2_ + u3_).toInt32), vI ((min u0_ m_).toInt32), vI ((min (u0_ + u1_) m_).toInt32), vI ((min (u0_ + u1_ + u2_) m_).toInt32), vI ((min (u0_ + u1_ + u2_ + u3_) m_).toInt32), vI (nd.toInt32), c0, c1, c2, c3, c4, c5, c6, c7]
abbrev oA4 (p1 p2 p3 : Int32) (m_ u0_ u1_ u2_ u3_ nd : Nat) (c0 c1 c2 c3 c4 c5 c6 c7 : Slot) : Array Slot := #[vI (p1), vI (p2), vI (p3), vI ((m_ + 1).toInt32), vI ((4 : Int32)), vI (u0_.toInt32), vI ((u0_ + u1_).toInt32), vI ((u0_ + u1_ + u2_).toInt32), vI ((u0_ + u1_ + u2_ + u3_).toInt32), vI ((min u0_ m_).toInt32), vI ((min (u0_ + u1_) m_).toInt32), vI ((min (u0_ + u1_ + u2_) m_).toInt32), vI ((min (u0_ + u1_ + u2_ + u3_) m_).toInt32), vI (nd.toInt32), c0, c1, c2, c3, c4, c5, c6, c7]
abbrev oC (p1 p2 p3 : Int32) (m_ : Nat) (kk_ : Int32) (u0_ u1_ u2_ u3_ : Nat) (c0 c1 c2 c3 c4 c5 c6 c7 c8 : Slot) : Array Slot := #[vI (p1), vI (p2), vI (p3), vI ((m_ + 1).toInt32), vI (kk_), vI (u0_.toInt32), vI ((u0_ + u1_).toInt32), vI ((u0_ + u1_ + u2_).toInt32), vI ((u0_ + u1_ + u2_ + u3_).toInt32), vI ((min u0_ m_).toInt32), vI ((min (u0_ + u1_) m_).toInt32), vI ((min (u0_ + u1_ + u2_) m_).toInt32), vI ((min (u0_ + u1_ + u2_ + u3_) m_).toInt32), c0, c1, c2, c3, c4, c5, c6, c7, c8]
abbrev oD (p1 p2 p3 : Int32) (m_ : Nat) (kk_ : Int32) (u0_ u1_ u2_ u3_ : Nat) (c0 c1 c2 c3 c4 c5 c6 c7 c8 c9 c10 c11 c12 : Slot) : Array Slot := #[vI (p1), vI (p2), vI (p3), vI ((m_ + 1).toInt32), vI (kk_), vI (u0_.toInt32), vI ((u0_ + u1_).toInt32), vI ((u0_ + u1_ + u2_).toInt32), vI ((u0_ + u1_ + u2_ + u3_).toInt32), c0, c1, c2, c3, c4, c5, c6, c7, c8, c9, c10, c11, c12]
abbrev oB (p1 p2 p3 n1_ : Int32) (k : Nat) (r0_ r1_ r2_ r3_ : Int32) (w0_ w1_ w2_ w3_ nd : Nat) (a14 a15 a16 a17 t1 : Addr) (c0 c1 c2 : Slot) : Array Slot := #[vI (p1), vI (p2), vI (p3), vI (n1_), vI (k.toInt32), vI (r0_), vI (r1_), vI (r2_), vI (r3_), vI (w0_.toInt32), vI (w1_.toInt32), vI (w2_.toInt32), vI (w3_.toInt32), vI (nd.toInt32), vR (a14), vR (a15), vR (a16), vR (a17), vR (t1), c0, c1, c2]
abbrev Y0_ : MethodName := ⟨"java/util/AbstractCollection", "<init>", "()V"⟩
abbrev Y1_ : MethodName := ⟨"java/util/AbstractList", "<init>", "()V"⟩
abbrev Y2_ : MethodName := ⟨"java/util/ArrayList", "<init>", "()V"⟩
abbrev Y3_ : MethodName := ⟨"java/lang/Math", "max", "(II)I"⟩
abbrev Y4_ : MethodName := ⟨"java/util/ArrayList", "grow", "(I)[Ljava/lang/Object;"⟩
abbrev Y5_ : MethodName := ⟨"java/util/ArrayList", "grow", "()[Ljava/lang/Object;"⟩
abbrev Y6_ : MethodName := ⟨"java/util/ArrayList", "add", "(Ljava/lang/Object;[Ljava/lang/Object;I)V"⟩
abbrev Y7_ : MethodName := ⟨"java/util/ArrayList", "add", "(Ljava/lang/Object;)Z"⟩
abbrev Y8_ : MethodName := ⟨"java/lang/Math", "min", "(II)I"⟩
abbrev Y9_ : MethodName := ⟨"java/util/ImmutableCollections$AbstractImmutableCollection", "<init>", "()V"⟩
abbrev Y10_ : MethodName := ⟨"java/util/ImmutableCollections$AbstractImmutableList", "<init>", "()V"⟩
abbrev Y11_ : MethodName := ⟨"java/util/Objects", "requireNonNull", "(Ljava/lang/Object;)Ljava/lang/Object;"⟩
abbrev Y12_ : MethodName := ⟨"java/util/ImmutableCollections$List12", "<init>", "(Ljava/lang/Object;)V"⟩
abbrev Y13_ : MethodName := ⟨"java/util/ImmutableCollections$List12", "<init>", "(Ljava/lang/Object;Ljava/lang/Object;)V"⟩
abbrev Y14_ : MethodName := ⟨"java/util/ImmutableCollections$ListN", "<init>", "([Ljava/lang/Object;Z)V"⟩
abbrev Y15_ : MethodName := ⟨"java/util/Arrays", "copyOf", "([Ljava/lang/Object;ILjava/lang/Class;)[Ljava/lang/Object;"⟩
abbrev Y16_ : MethodName := ⟨"java/util/Arrays", "copyOf", "([Ljava/lang/Object;I)[Ljava/lang/Object;"⟩
abbrev Y17_ : MethodName := ⟨"java/util/ArrayList", "toArray", "()[Ljava/lang/Object;"⟩
abbrev Y18_ : MethodName := ⟨"java/util/ImmutableCollections", "listFromArray", "([Ljava/lang/Object;)Ljava/util/List;"⟩
abbrev Y19_ : MethodName := ⟨"java/util/List", "of", "([Ljava/lang/Object;)Ljava/util/List;"⟩
abbrev Y20_ : MethodName := ⟨"java/lang/Record", "<init>", "()V"⟩
abbrev Y21_ : MethodName := ⟨"java/util/Objects", "requireNonNull", "(Ljava/lang/Object;Ljava/lang/String;)Ljava/lang/Object;"⟩
abbrev Y22_ : MethodName := ⟨"com/example/hodos/hodos/analysis/Course$Arc", "<init>", "(IILcom/example/hodos/hodos/model/Time;ZZI)V"⟩
abbrev Y23_ : MethodName := ⟨"java/util/ArrayList", "isEmpty", "()Z"⟩
abbrev Y24_ : MethodName := ⟨"java/util/List", "of", "()Ljava/util/List;"⟩
abbrev Y25_ : MethodName := ⟨"java/util/ImmutableCollections", "listCopy", "(Ljava/util/Collection;)Ljava/util/List;"⟩
abbrev Y26_ : MethodName := ⟨"java/util/Collection", "isEmpty", "()Z"⟩
abbrev Y27_ : MethodName := ⟨"java/util/List", "copyOf", "(Ljava/util/Collection;)Ljava/util/List;"⟩
abbrev Y28_ : MethodName := ⟨"java/util/Collection", "toArray", "()[Ljava/lang/Object;"⟩
abbrev Y29_ : MethodName := ⟨"java/util/ImmutableCollections$ListN", "size", "()I"⟩
abbrev Y30_ : MethodName := ⟨"java/util/ImmutableCollections$List12", "size", "()I"⟩
abbrev Y31_ : MethodName := ⟨"java/util/ImmutableCollections$ListN", "get", "(I)Ljava/lang/Object;"⟩
abbrev Y32_ : MethodName := ⟨"java/util/ImmutableCollections$List12", "get", "(I)Ljava/lang/Object;"⟩
abbrev Y33_ : MethodName := ⟨"java/util/ImmutableCollections$ListItr", "<init>", "(Ljava/util/List;I)V"⟩
abbrev Y34_ : MethodName := ⟨"java/util/ImmutableCollections$AbstractImmutableList", "iterator", "()Ljava/util/Iterator;"⟩
abbrev Y35_ : MethodName := ⟨"java/util/ImmutableCollections$AbstractImmutableList", "size", "()I"⟩
abbrev Y36_ : MethodName := ⟨"java/util/ImmutableCollections$ListItr", "hasNext", "()Z"⟩
abbrev Y37_ : MethodName := ⟨"java/util/ImmutableCollections$ListItr", "next", "()Ljava/lang/Object;"⟩
abbrev Y38_ : MethodName := ⟨"java/util/List", "get", "(I)Ljava/lang/Object;"⟩
abbrev Y39_ : MethodName := ⟨"com/example/hodos/hodos/analysis/Course$Arc", "source", "()I"⟩
abbrev Y40_ : MethodName := ⟨"java/util/Iterator", "hasNext", "()Z"⟩
abbrev Y41_ : MethodName := ⟨"java/util/Iterator", "next", "()Ljava/lang/Object;"⟩
abbrev Y42_ : MethodName := ⟨"java/util/function/ToIntFunction", "applyAsInt", "(Ljava/lang/Object;)I"⟩
abbrev Y43_ : MethodName := ⟨"com/example/hodos/hodos/analysis/Graph", "firstOfEach", "(ILjava/util/List;Ljava/util/function/ToIntFunction;)[I"⟩
abbrev Y44_ : MethodName := ⟨"java/util/List", "iterator", "()Ljava/util/Iterator;"⟩
abbrev Y45_ : MethodName := ⟨"com/example/hodos/hodos/analysis/Course", "<init>", "([ZLjava/util/List;Ljava/util/List;)V"⟩
abbrev Y46_ : MethodName := ⟨"java/util/ImmutableCollections$SubList", "<init>", "(Ljava/util/ImmutableCollections$AbstractImmutableList;II)V"⟩
abbrev Y47_ : MethodName := ⟨"java/util/ImmutableCollections$SubList", "fromList", "(Ljava/util/ImmutableCollections$AbstractImmutableList;II)Ljava/util/ImmutableCollections$SubList;"⟩
abbrev Y48_ : MethodName := ⟨"java/util/ImmutableCollections$AbstractImmutableList", "subListRangeCheck", "(III)V"⟩
abbrev Y49_ : MethodName := ⟨"java/util/ImmutableCollections$AbstractImmutableList", "subList", "(II)Ljava/util/List;"⟩
abbrev Y50_ : MethodName := ⟨"jdk/internal/util/Preconditions", "checkIndex", "(IILjava/util/function/BiFunction;)I"⟩
abbrev Y51_ : MethodName := ⟨"java/util/Objects", "checkIndex", "(II)I"⟩
abbrev Y52_ : MethodName := ⟨"com/example/hodos/hodos/analysis/Course", "arcsFrom", "(I)Ljava/util/List;"⟩
abbrev Y53_ : MethodName := ⟨"java/util/List", "subList", "(II)Ljava/util/List;"⟩
abbrev Y54_ : MethodName := ⟨"java/util/ImmutableCollections$SubList", "size", "()I"⟩
abbrev Y55_ : MethodName := ⟨"java/util/ImmutableCollections$SubList", "get", "(I)Ljava/lang/Object;"⟩
abbrev Y56_ : MethodName := ⟨"java/util/ImmutableCollections$AbstractImmutableList", "get", "(I)Ljava/lang/Object;"⟩
abbrev Y57_ : MethodName := ⟨"com/example/hodos/hodos/analysis/Course$Arc", "origin", "()I"⟩
abbrev Y58_ : MethodName := ⟨"com/example/hodos/hodos/analysis/CourseArcsFromPinLaw", "check", "(Ljava/util/List;III)Z"⟩
abbrev Y59_ : MethodName := ⟨"com/example/hodos/hodos/analysis/CourseArcsFromPinLaw", "cnt", "(IIII)I"⟩
abbrev Y60_ : MethodName := ⟨"java/util/List", "size", "()I"⟩
abbrev D4_ (pc : Nat) := decode jdk_22_method_1_code pc
abbrev D3_ (pc : Nat) := decode jdk_39_method_1_code pc
abbrev D2_ (pc : Nat) := decode jdk_38_method_2_code pc
abbrev D35_ (pc : Nat) := decode jdk_29_method_65_code pc
abbrev D34_ (pc : Nat) := decode jdk_38_method_6_code pc
abbrev D33_ (pc : Nat) := decode jdk_38_method_7_code pc
abbrev D32_ (pc : Nat) := decode jdk_38_method_24_code pc
abbrev D31_ (pc : Nat) := decode jdk_38_method_25_code pc
abbrev D1_ (pc : Nat) := decode jdk_29_method_69_code pc
abbrev D24_ (pc : Nat) := decode jdk_47_method_1_code pc
abbrev D23_ (pc : Nat) := decode jdk_46_method_1_code pc
abbrev D41_ (pc : Nat) := decode jdk_31_method_10_code pc
abbrev D40_ (pc : Nat) := decode jdk_44_method_1_code pc
abbrev D51_ (pc : Nat) := decode jdk_44_method_2_code pc
abbrev D49_ (pc : Nat) := decode jdk_45_method_1_code pc
abbrev D38_ (pc : Nat) := decode jdk_65_method_120_code pc
abbrev D37_ (pc : Nat) := decode jdk_65_method_119_code pc
abbrev D36_ (pc : Nat) := decode jdk_38_method_16_code pc
abbrev D48_ (pc : Nat) := decode jdk_56_method_4_code pc
abbrev D39_ (pc : Nat) := decode jdk_40_method_47_code pc
abbrev D29_ (pc : Nat) := decode jdk_30_method_1_code pc
abbrev D30_ (pc : Nat) := decode jdk_31_method_11_code pc
abbrev D28_ (pc : Nat) := decode prog_9_method_1_code pc
abbrev D9_ (pc : Nat) := decode jdk_38_method_9_code pc
abbrev D10_ (pc : Nat) := decode jdk_40_method_36_code pc
abbrev D8_ (pc : Nat) := decode jdk_56_method_3_code pc
abbrev D7_ (pc : Nat) := decode jdk_40_method_48_code pc
abbrev D13_ (pc : Nat) := decode jdk_45_method_3_code pc
abbrev D42_ (pc : Nat) := decode jdk_44_method_3_code pc
abbrev D50_ (pc : Nat) := decode jdk_45_method_4_code pc
abbrev D44_ (pc : Nat) := decode jdk_44_method_5_code pc
abbrev D14_ (pc : Nat) := decode jdk_53_method_1_code pc
abbrev D12_ (pc : Nat) := decode jdk_46_method_10_code pc
abbrev D15_ (pc : Nat) := decode jdk_53_method_3_code pc
abbrev D43_ (pc : Nat) := decode jdk_53_method_4_code pc
abbrev D45_ (pc : Nat) := decode prog_9_method_5_code pc
abbrev D11_ (pc : Nat) := decode prog_15_method_2_code pc
abbrev D6_ (pc : Nat) := decode prog_8_method_1_code pc
abbrev D22_ (pc : Nat) := decode jdk_2608_method_1_code pc
abbrev D21_ (pc : Nat) := decode jdk_2608_method_3_code pc
abbrev D20_ (pc : Nat) := decode jdk_46_method_9_code pc
abbrev D19_ (pc : Nat) := decode jdk_46_method_8_code pc
abbrev D18_ (pc : Nat) := decode jdk_41_method_11_code pc
abbrev D17_ (pc : Nat) := decode jdk_31_method_17_code pc
abbrev D16_ (pc : Nat) := decode prog_8_method_4_code pc
abbrev D26_ (pc : Nat) := decode jdk_2608_method_5_code pc
abbrev D46_ (pc : Nat) := decode jdk_2608_method_4_code pc
abbrev D47_ (pc : Nat) := decode prog_9_method_10_code pc
abbrev D27_ (pc : Nat) := decode method_3_code pc
abbrev D25_ (pc : Nat) := decode method_2_code pc
theorem own_eqI {args : Array Value} {Z : State} {t : Term} {k : Int32} (h : (Cond.eq t (Term.int k)).value args Z none Z [] = some true) : t.eval args Z none [] Z = some (.int k) := by
  simp only [Cond.value, Term.eval] at h
  cases ht : t.eval args Z none [] Z with
  | none => simp [ht] at h
  | some v => cases v <;> simp [ht] at h ⊢ <;> exact h
theorem own_eqR {args : Array Value} {Z : State} {t u : Term} {y : Addr} (h : (Cond.eq t u).value args Z none Z [] = some true) (hu : u.eval args Z none [] Z = some (.ref y)) : t.eval args Z none [] Z = some (.ref y) := by
  simp only [Cond.value, hu] at h
  cases ht : t.eval args Z none [] Z with
  | none => simp [ht] at h
  | some v => cases v <;> simp [ht] at h ⊢ <;> exact h
theorem own_safeS {Z : State} {EL : List (String × Nat)} {vm : Vm} {h : Heap} {x : Addr} (hal : Z.vm.Alike vm) (E : Exa Z h x "java/lang/String") (F : Fld Z h x "java/lang/String" "value" "[B" .null) : Safe Z EL vm h x := by
  intro B
  obtain ⟨p, -, u, a, -, q, -, G, rfl | rfl⟩ := B
  · have ha : h[q.sa]? = some q.sC := G.ha
    obtain ⟨cS, ⟨⟨s1, s2, s3, ⟨cv, kv, iv, s4, s4'⟩, ⟨cc, kc, ic, s5, s5'⟩, s6, s7, s8, -⟩, -⟩, -⟩ := G
    obtain ⟨cell, cf, k, i, f, h1, h2, h3, h4, h5, h6, h7⟩ := F
    cases h1.symm.trans ha
    obtain ⟨kv', z4⟩ := ff_back (U := Wst Z vm h) hal s4
    have e := z4.symm.trans h2
    simp only [Option.some.injEq, Prod.mk.injEq] at e
    obtain ⟨-, -, -, rfl⟩ := e
    rw [s8] at h7; cases h7
  · have hd : h[q.sd]? = some q.SA := G.hd
    obtain ⟨cS, -, -, f, -⟩ := G
    obtain ⟨cell, k, e1, e2, -⟩ := E
    cases e1.symm.trans hd
    have f' : Z.vm.findClass "[B" = some q.SA.cls := by rw [← hal.findClass]; exact f
    obtain ⟨k1, a1, a2⟩ := Vm.findClass_spec f'
    obtain ⟨k2, b1, b2⟩ := Vm.findClass_spec e2
    cases a1.symm.trans b1
    exact absurd (a2.symm.trans b2) (by decide)
def own_Ctx (Z : State) (h : Heap) (s_D s_L s_LE s_E s_Z mr : Addr) (kd_ kl_ : ClassId) : Prop := (Sta Z h "java/util/ArrayList" "DEFAULTCAPACITY_EMPTY_ELEMENTDATA" "[Ljava/lang/Object;" (.ref s_D)) ∧ (Exa Z h s_D "[Ljava/lang/Object;") ∧ (Arv Z h s_D kd_ (.object "java/lang/Object") (0 : Int32) [] .null) ∧ (Sta Z h "java/util/ImmutableCollections" "EMPTY_LIST" "Ljava/util/ImmutableCollections$ListN;" (.ref s_L)) ∧ (Exa Z h s_L "java/util/ImmutableCollections$ListN") ∧ (Fld Z h s_L "java/util/ImmutableCollections$ListN" "elements" "[Ljava/lang/Object;" (.ref s_LE)) ∧ (Arv Z h s_LE kl_ (.object "java/lang/Object") (0 : Int32) [] .null) ∧ (Sta Z h "java/util/ImmutableCollections" "EMPTY" "Ljava/lang/Object;" (.ref s_E)) ∧ (Exa Z h s_E "java/lang/Object") ∧ (Sta Z h "java/util/ImmutableCollections$SubList" "$assertionsDisabled" "Z" (.int (1 : Int32))) ∧ (Sta Z h "com/example/hodos/hodos/model/Time" "ZERO" "Lcom/example/hodos/hodos/model/Time;" (.ref s_Z)) ∧ (Exa Z h s_Z "com/example/hodos/hodos/model/Time") ∧ (own_Mi Z "[Ljava/lang/Object;" mr)
theorem own_n12 {Z : State} {a0 : Array Value} (hw : own_HW a0 Z) : ∃ c t, Z.vm.findClass "java/util/ArrayList" = some c ∧ Z.vm.findClass "java/util/ImmutableCollections$List12" = some t ∧ Z.vm.assignable c t = false :=
  own_NSno (oW hw 59 rfl) (oW hw 305 rfl) (NS.step (oW hw 59 rfl) (NS.step (oW hw 60 rfl) (NS.step (oW hw 61 rfl) (own_NSroot (oW hw 62 rfl) (oW hw 305 rfl) (by decide)) (by decide)) (by decide)) (by decide)) (by decide)
theorem own_nN {Z : State} {a0 : Array Value} (hw : own_HW a0 Z) : ∃ c t, Z.vm.findClass "java/util/ArrayList" = some c ∧ Z.vm.findClass "java/util/ImmutableCollections$ListN" = some t ∧ Z.vm.assignable c t = false :=
  own_NSno (oW hw 59 rfl) (oW hw 374 rfl) (NS.step (oW hw 59 rfl) (NS.step (oW hw 60 rfl) (NS.step (oW hw 61 rfl) (own_NSroot (oW hw 62 rfl) (oW hw 374 rfl) (by decide)) (by decide)) (by decide)) (by decide)) (by decide)
def own_Qk (r : Option Value) (ws : List Addr) (h0 : Heap) (n0 : Nat) (v : Option Value) (h : Heap) (L : List Loc) : Prop := v = r ∧ Fr n0 L ∧ Keep h0 h ws
theorem own_lenP {d : String} {s0 : MethodDescriptor} {k : Nat} (h : parseMethodDescriptor d = some s0) (hk : s0.parameters.length = k) : ∀ sig, parseMethodDescriptor d = some sig → sig.parameters.length = k := fun sig q => by cases h.symm.trans q; exact hk
def own_Qa0 (Z : State) (a1 : Addr) (h0 : Heap) (n0 : Nat) (v : Option Value) (h : Heap) (L : List Loc) : Prop := v = none ∧ Fr n0 L ∧ Keep h0 h [a1] ∧ Fld Z h a1 "java/util/AbstractList" "modCount" "I" (.int (0 : Int32)) ∧ Fld Z h a1 "java/util/ArrayList" "elementData" "[Ljava/lang/Object;" .null ∧ Fld Z h a1 "java/util/ArrayList" "size" "I" (.int (0 : Int32))
def own_Qa1 (Z : State) (a1 : Addr) (s_D : Addr) (h0 : Heap) (n0 : Nat) (v : Option Value) (h : Heap) (L : List Loc) : Prop := v = none ∧ Fr n0 L ∧ Keep h0 h [a1] ∧ Fld Z h a1 "java/util/AbstractList" "modCount" "I" (.int (0 : Int32)) ∧ Fld Z h a1 "java/util/ArrayList" "elementData" "[Ljava/lang/Object;" (.ref s_D) ∧ Fld Z h a1 "java/util/ArrayList" "size" "I" (.int (0 : Int32))
theorem d4_0 : D4_ 0 = .ok (.aload_n 0, 1) := by decide +kernel
theorem d4_1 : D4_ 1 = .ok (.invokespecial 1, 3) := by decide +kernel
theorem d4_4 : D4_ 4 = .ok (.return_, 1) := by decide +kernel
theorem ef_4_0 (m : MethodId) (x0 : Addr) : entryFrame m #[(.ref x0)] 1 = mkF m 0 #[vR (x0)] [] := by first | (simp [entryFrame, mkF, argsToLocals, Value.category]; done) | rfl
theorem pn_0 : plainName "java/util/AbstractCollection" = true := by first | (simp [plainName, overriddenIn]; done) | decide +kernel
theorem r_abc (l Z a0) (hw : own_HW a0 Z) (ws s_D s_L s_LE s_E s_Z mr kd_ kl_ h0 n0) (O0 : Old Z n0 h0) (G : own_Ctx Z Z.heap s_D s_L s_LE s_E s_Z mr kd_ kl_) (a1 : Addr)  :
    oM l Y0_ jdk_22_method_1_code 1 none ws (own_rm_ 1 0 0 12) #[(.ref a1)] Z h0 n0 (own_Q (none)) := by
  have G0 := G
  refine MetFree.of_bodySF (plainFor_of_name pn_0) hisR ?_
  intro p e s m args below meth c s₁ Bd hml0 hP hK
  obtain ⟨rfl, hZ, hh⟩ := hP
  have hx := Bd.exec
  have hby := Bd.bytes
  have hml : c.maxLocals = 1 := hml0
  have hown := findClass_of_methodNamed Bd.named
  have X0 : Stand p l e (own_rm_ 1 0 0 12) s m #[(.ref a1)] below meth c s₁ [] 0 0 := Stand.of_body Bd
  have e0 : s₁.heap = h0 := by rw [← hh, Bd.state]; rfl
  have N0 := Fr.nil n0
  have pre0 := own_pre (tb := p.tables) (e := e) (below := below) (T := s₁) (ef_4_0 m a1)
  obtain ⟨T1, X1, e1, st1⟩ := initO X0 hx hZ hown (oW hw 24 rfl) (oW hw 25 rfl) (oW hw 26 rfl) e0 (g := (mkF m 1 #[vR (a1)] [(.ref a1)])) rfl (by rw [hml]; rfl) rfl (hb hby d4_1) (by decide) (W := 0) (by exact Nat.le_of_eq rfl) (by decide)
  obtain ⟨fs, hr, hrun, hended, hW, hsame⟩ := X1.leave (v := none) (fun _ => rfl)
  refine ⟨_, _, pre0 _ ?_, hrun, hended, _, _, rfl, ?_, ⟨_, rfl⟩, hW, hsame.mono (by decide) (by decide)⟩
  · show own_St p e below s₁ m 0 #[vR (a1)] [] _
    refine XS.aloadN X0.here hx rfl (hb hby d4_0) rfl rfl ?_
    refine st1 _ ?_
    show own_St p e below T1 m 4 #[vR (a1)] [] _
    exact X1.returnOut hx Bd.returns (hb hby d4_4) hr
  · show own_Q (none) h0 n0 _ T1.heap _
    rw [e1]
    exact ⟨rfl, N0, rfl⟩
theorem d3_0 : D3_ 0 = .ok (.aload_n 0, 1) := by decide +kernel
theorem d3_1 : D3_ 1 = .ok (.invokespecial 1, 3) := by decide +kernel
theorem pd_0 : parseMethodDescriptor "()V" = some ⟨[], none⟩ := by decide +kernel
theorem d3_4 : D3_ 4 = .ok (.aload_n 0, 1) := by decide +kernel
theorem d3_5 : D3_ 5 = .ok (.iconst 0, 1) := by decide +kernel
theorem d3_6 : D3_ 6 = .ok (.putfield 7, 3) := by decide +kernel
theorem d3_9 : D3_ 9 = .ok (.return_, 1) := by decide +kernel
theorem ef_3_1 (m : MethodId) (x0 : Addr) : entryFrame m #[(.ref x0)] 1 = mkF m 0 #[vR (x0)] [] := by first | (simp [entryFrame, mkF, argsToLocals, Value.category]; done) | rfl
theorem pn_1 : plainName "java/util/AbstractList" = true := by first | (simp [plainName, overriddenIn]; done) | decide +kernel
theorem r_abl (l Z a0) (hw : own_HW a0 Z) (ws s_D s_L s_LE s_E s_Z mr kd_ kl_ h0 n0) (O0 : Old Z n0 h0) (G : own_Ctx Z Z.heap s_D s_L s_LE s_E s_Z mr kd_ kl_) (a1 : Addr) (Ea : Exa Z h0 a1 "java/util/ArrayList") (ga : n0 ≤ a1) (Fm : Fld Z h0 a1 "java/util/AbstractList" "modCount" "I" (.int (0 : Int32))) (Fe : Fld Z h0 a1 "java/util/ArrayList" "elementData" "[Ljava/lang/Object;" .null) (Fs : Fld Z h0 a1 "java/util/ArrayList" "size" "I" (.int (0 : Int32))) :
    oM l Y1_ jdk_39_method_1_code 1 none ws (own_rm_ 2 0 0 24) #[(.ref a1)] Z h0 n0 (own_Qa0 Z a1) := by
  have G0 := G
  refine MetFree.of_bodySF (plainFor_of_name pn_1) hisR ?_
  intro p e s m args below meth c s₁ Bd hml0 hP hK
  obtain ⟨rfl, hZ, hh⟩ := hP
  have hx := Bd.exec
  have hby := Bd.bytes
  have hml : c.maxLocals = 1 := hml0
  have hown := findClass_of_methodNamed Bd.named
  have X0 : Stand p l e (own_rm_ 2 0 0 24) s m #[(.ref a1)] below meth c s₁ [] 0 0 := Stand.of_body Bd
  have e0 : s₁.heap = h0 := by rw [← hh, Bd.state]; rfl
  have N0 := Fr.nil n0
  have pre0 := own_pre (tb := p.tables) (e := e) (below := below) (T := s₁) (ef_3_1 m a1)
  obtain ⟨_, _, ⟨T1, L1, k1, n1⟩, -, X1, ⟨Lc1, hQ1, l1, y1, z1⟩, st1⟩ := X0.specialBack hx (y := Y0_) rfl hown (mvT hZ (oW hw 18 rfl)) (mvT hZ (oW hw 19 rfl)) (mvT hZ (oW hw 23 rfl)) (by decide) (backOf (W := 0) (r_abc l Z a0 hw [] s_D s_L s_LE s_E s_Z mr kd_ kl_ h0 n0 O0 G0 a1) hZ (oW hw 23 rfl) (oW hw 22 rfl) (by decide) (by decide)) (g := (mkF m 1 #[vR (a1)] [(.ref a1)])) rfl (by rw [hml]; rfl) (Steps.refl _) (a := a1) (argsL := []) (rest := []) (lenOf pd_0 rfl) rfl (by exact Nat.le_of_eq rfl) (hb hby d3_1) (fun _ _ => ⟨rfl, e0, (by decide : 0 + 0 ≤ _), (by decide : 0 + 0 ≤ _)⟩)
  dsimp only [Pt.U, Pt.locs, Pt.cells, Pt.slots] at X1 l1 y1 z1 st1 hQ1
  subst l1 y1 z1
  obtain ⟨rfl, N1q, e1⟩ := hQ1
  have N1 := Fr.app N0 N1q
  obtain ⟨T2, h2, X2, e2, W2, st2⟩ := putF X1 hx hZ hown (host := "") (Or.inl (oW hw 27 rfl)) Via.refl e1 Fm Ea (Or.inl (oW hw 28 rfl)) (oW hw 7 rfl) (ty := .int) (by decide) rfl rfl (g := (mkF m 6 #[vR (a1)] [(.int (0 : Int32)), (.ref a1)])) rfl rfl (hb hby d3_6)
  have f4 := Fe.other W2 (Or.inr (slot_ne (Or.inl (oW hw 31 rfl)) (Or.inl (oW hw 28 rfl)) (by decide) (t := (.array (.object "java/lang/Object"))) (t' := .int) (by decide) (by decide)))
  have f5 := Fs.other W2 (Or.inr (slot_ne (Or.inl (oW hw 74 rfl)) (Or.inl (oW hw 28 rfl)) (by decide) (t := .int) (t' := .int) (by decide) (by decide)))
  have K2 : Keep h0 h2 [a1] := (Keep.refl h0 [a1]).wr W2 (Or.inl (List.mem_of_getElem? (i := 0) rfl))
  have N2 := Fr.snoc X2 N1 ga
  have f6 := Fm.same W2
  obtain ⟨fs, hr, hrun, hended, hW, hsame⟩ := X2.leave (v := none) (fun _ => rfl)
  refine ⟨_, _, pre0 _ ?_, hrun, hended, _, _, rfl, ?_, ⟨_, rfl⟩, hW, hsame.mono (by decide) (by decide)⟩
  · show own_St p e below s₁ m 0 #[vR (a1)] [] _
    refine XS.aloadN X0.here hx rfl (hb hby d3_0) rfl rfl ?_
    refine st1.trans ?_
    show own_St p e below T1 m 4 #[vR (a1)] [] _
    refine XS.aloadN X1.here hx rfl (hb hby d3_4) rfl rfl ?_
    refine XS.iconst X1.here hx rfl (hb hby d3_5) ?_
    refine st2 _ ?_
    show own_St p e below T2 m 9 #[vR (a1)] [] _
    exact X2.returnOut hx Bd.returns (hb hby d3_9) hr
  · show own_Qa0 Z a1 h0 n0 _ T2.heap _
    rw [e2]
    exact ⟨rfl, N2, K2, f6, f4, f5⟩
theorem d2_0 : D2_ 0 = .ok (.aload_n 0, 1) := by decide +kernel
theorem d2_1 : D2_ 1 = .ok (.invokespecial 1, 3) := by decide +kernel
theorem d2_4 : D2_ 4 = .ok (.aload_n 0, 1) := by decide +kernel
theorem d2_5 : D2_ 5 = .ok (.getstatic 39, 3) := by decide +kernel
theorem d2_8 : D2_ 8 = .ok (.putfield 9, 3) := by decide +kernel
theorem d2_11 : D2_ 11 = .ok (.return_, 1) := by decide +kernel
theorem ef_2_2 (m : MethodId) (x0 : Addr) : entryFrame m #[(.ref x0)] 1 = mkF m 0 #[vR (x0)] [] := by first | (simp [entryFrame, mkF, argsToLocals, Value.category]; done) | rfl
theorem pn_2 : plainName "java/util/ArrayList" = true := by first | (simp [plainName, overriddenIn]; done) | decide +kernel
theorem r_ali (l Z a0) (hw : own_HW a0 Z) (ws s_D s_L s_LE s_E s_Z mr kd_ kl_ h0 n0) (O0 : Old Z n0 h0) (G : own_Ctx Z Z.heap s_D s_L s_LE s_E s_Z mr kd_ kl_) (a1 : Addr) (Ea : Exa Z h0 a1 "java/util/ArrayList") (ga : n0 ≤ a1) (Fm : Fld Z h0 a1 "java/util/AbstractList" "modCount" "I" (.int (0 : Int32))) (Fe : Fld Z h0 a1 "java/util/ArrayList" "elementData" "[Ljava/lang/Object;" .null) (Fs : Fld Z h0 a1 "java/util/ArrayList" "size" "I" (.int (0 : Int32))) :
    oM l Y2_ jdk_38_method_2_code 1 none ws (own_rm_ 3 0 0 36) #[(.ref a1)] Z h0 n0 (own_Qa1 Z a1 s_D) := by
  have G0 := G
  obtain ⟨S_D, E_D, V_D, S_L, E_L, F_L, V_L, S_E, E_E, S_A, S_Z, E_Z, M_A⟩ := G
  refine MetFree.of_bodySF (plainFor_of_name pn_2) hisR ?_
  intro p e s m args below meth c s₁ Bd hml0 hP hK
  obtain ⟨rfl, hZ, hh⟩ := hP
  have hx := Bd.exec
  have hby := Bd.bytes
  have hml : c.maxLocals = 1 := hml0
  have hown := findClass_of_methodNamed Bd.named
  have X0 : Stand p l e (own_rm_ 3 0 0 36) s m #[(.ref a1)] below meth c s₁ [] 0 0 := Stand.of_body Bd
  have e0 : s₁.heap = h0 := by rw [← hh, Bd.state]; rfl
  have N0 := Fr.nil n0
  have pre0 := own_pre (tb := p.tables) (e := e) (below := below) (T := s₁) (ef_2_2 m a1)
  obtain ⟨_, _, ⟨T1, L1, k1, n1⟩, -, X1, ⟨Lc1, hQ1, l1, y1, z1⟩, st1⟩ := X0.specialBack hx (y := Y1_) rfl hown (mvT hZ (oW hw 12 rfl)) (mvT hZ (oW hw 13 rfl)) (mvT hZ (oW hw 17 rfl)) (by decide) (backOf (W := 0) (r_abl l Z a0 hw [] s_D s_L s_LE s_E s_Z mr kd_ kl_ h0 n0 O0 G0 a1 Ea ga Fm Fe Fs) hZ (oW hw 17 rfl) (oW hw 16 rfl) (by decide) (by decide)) (g := (mkF m 1 #[vR (a1)] [(.ref a1)])) rfl (by rw [hml]; rfl) (Steps.refl _) (a := a1) (argsL := []) (rest := []) (lenOf pd_0 rfl) rfl (by exact Nat.le_of_eq rfl) (hb hby d2_1) (fun _ _ => ⟨rfl, e0, (by decide : 0 + 0 ≤ _), (by decide : 0 + 0 ≤ _)⟩)
  dsimp only [Pt.U, Pt.locs, Pt.cells, Pt.slots] at X1 l1 y1 z1 st1 hQ1
  subst l1 y1 z1
  obtain ⟨rfl, N1q, Kq1, Fm1, Fe1, Fs1⟩ := hQ1
  have N1 := Fr.app N0 N1q
  have f2 := Ea.keep Kq1
  have O1 := O0.keep Kq1 (allS ga all0)
  have K1 : Keep h0 T1.heap [a1] := (Keep.refl h0 [a1]).trans Kq1 (allS (Or.inl (List.mem_of_getElem? (i := 0) rfl)) all0)
  obtain ⟨T3, X3, e3, st3⟩ := getS2 X1 hx hZ hown (host := "") (Or.inl (oW hw 29 rfl)) Via.refl rfl (S_D.ext O1.2) (g := (mkF m 5 #[vR (a1)] [(.ref a1)])) rfl (hb hby d2_5)
  obtain ⟨T4, h4, X4, e4, W4, st4⟩ := putF X3 hx hZ hown (host := "") (Or.inl (oW hw 30 rfl)) Via.refl e3 Fe1 f2 (Or.inl (oW hw 31 rfl)) (oW hw 7 rfl) (ty := (.array (.object "java/lang/Object"))) (by decide) rfl rfl (g := (mkF m 8 #[vR (a1)] [(.ref s_D), (.ref a1)])) rfl rfl (hb hby d2_8)
  have f6 := Fm1.other W4 (Or.inr (slot_ne (Or.inl (oW hw 28 rfl)) (Or.inl (oW hw 31 rfl)) (by decide) (t := .int) (t' := (.array (.object "java/lang/Object"))) (by decide) (by decide)))
  have f7 := Fs1.other W4 (Or.inr (slot_ne (Or.inl (oW hw 74 rfl)) (Or.inl (oW hw 31 rfl)) (by decide) (t := .int) (t' := (.array (.object "java/lang/Object"))) (by decide) (by decide)))
  have K4 : Keep h0 h4 [a1] := K1.wr W4 (Or.inl (List.mem_of_getElem? (i := 0) rfl))
  have N4 := Fr.snoc X4 N1 ga
  have f8 := Fe1.same W4
  obtain ⟨fs, hr, hrun, hended, hW, hsame⟩ := X4.leave (v := none) (fun _ => rfl)
  refine ⟨_, _, pre0 _ ?_, hrun, hended, _, _, rfl, ?_, ⟨_, rfl⟩, hW, hsame.mono (by decide) (by decide)⟩
  · show own_St p e below s₁ m 0 #[vR (a1)] [] _
    refine XS.aloadN X0.here hx rfl (hb hby d2_0) rfl rfl ?_
    refine st1.trans ?_
    show own_St p e below T1 m 4 #[vR (a1)] [] _
    refine XS.aloadN X1.here hx rfl (hb hby d2_4) rfl rfl ?_
    refine st3 _ ?_
    refine st4 _ ?_
    show own_St p e below T4 m 11 #[vR (a1)] [] _
    exact X4.returnOut hx Bd.returns (hb hby d2_11) hr
  · show own_Qa1 Z a1 s_D h0 n0 _ T4.heap _
    rw [e4]
    exact ⟨rfl, N4, K4, f6, f8, f7⟩
theorem d35_0 : D35_ 0 = .ok (.iload_n 0, 1) := by decide +kernel
theorem d35_1 : D35_ 1 = .ok (.iload_n 1, 1) := by decide +kernel
theorem d35_2 : D35_ 2 = .ok (.if_icmp .lt 7, 3) := by decide +kernel
theorem d35_5 : D35_ 5 = .ok (.iload_n 0, 1) := by decide +kernel
theorem d35_6 : D35_ 6 = .ok (.goto 4, 3) := by decide +kernel
theorem d35_10 : D35_ 10 = .ok (.ireturn, 1) := by decide +kernel
theorem ef_35_3 (m : MethodId) (x0 : Int32) (x1 : Int32) : entryFrame m #[(.int x0), (.int x1)] 2 = mkF m 0 #[vI (x0), vI (x1)] [] := by first | (simp [entryFrame, mkF, argsToLocals, Value.category]; done) | rfl
theorem pf_35 : plainFor Y3_ = true := by decide +kernel
theorem r_max (l Z a0) (hw : own_HW a0 Z) (ws s_D s_L s_LE s_E s_Z mr kd_ kl_ h0 n0) (O0 : Old Z n0 h0) (G : own_Ctx Z Z.heap s_D s_L s_LE s_E s_Z mr kd_ kl_)   :
    oM l Y3_ jdk_29_method_65_code 2 (some .int) ws (own_rm_ 0 0 0 0) #[(.int (10 : Int32)), (.int (1 : Int32))] Z h0 n0 (own_Q (some (.int (10 : Int32)))) := by
  have G0 := G
  refine MetFree.of_bodySF pf_35 hisR ?_
  intro p e s m args below meth c s₁ Bd hml0 hP hK
  obtain ⟨rfl, hZ, hh⟩ := hP
  have hx := Bd.exec
  have hby := Bd.bytes
  have hml : c.maxLocals = 2 := hml0
  have hown := findClass_of_methodNamed Bd.named
  have X0 : Stand p l e (own_rm_ 0 0 0 0) s m #[(.int (10 : Int32)), (.int (1 : Int32))] below meth c s₁ [] 0 0 := Stand.of_body Bd
  have e0 : s₁.heap = h0 := by rw [← hh, Bd.state]; rfl
  have N0 := Fr.nil n0
  have pre0 := own_pre (tb := p.tables) (e := e) (below := below) (T := s₁) (ef_35_3 m (10 : Int32) (1 : Int32))
  obtain ⟨fs, hr, hrun, hended, hW, hsame⟩ := X0.leave (v := some (.int (10 : Int32))) (oR Bd.returns)
  refine ⟨_, _, pre0 _ ?_, hrun, hended, _, _, rfl, ?_, ⟨_, rfl⟩, hW, hsame.mono (by decide) (by decide)⟩
  · show own_St p e below s₁ m 0 #[vI ((10 : Int32)), vI ((1 : Int32))] [] _
    refine XS.iloadN X0.here hx rfl (hb hby d35_0) rfl ?_
    refine XS.iloadN X0.here hx rfl (hb hby d35_1) rfl ?_
    refine XS.icmpNo X0.here hx rfl (hb hby d35_2) rfl (flt (by decide : ¬ ((10 : Int32) < (1 : Int32)))).1 ?_
    refine XS.iloadN X0.here hx rfl (hb hby d35_5) rfl ?_
    refine XS.goto X0.here hx rfl (pc0 := 6) (pc' := 10) rfl (hb hby d35_6) (by decide) (by decide) ?_
    show own_St p e below s₁ m 10 #[vI ((10 : Int32)), vI ((1 : Int32))] [(.int (10 : Int32))] _
    exact retI X0 hx Bd.returns (hb hby d35_10) hr
  · show own_Q (some (.int (10 : Int32))) h0 n0 _ s₁.heap _
    rw [e0]
    exact ⟨rfl, N0, rfl⟩
def own_Qal1 (Z : State) (a1 : Addr) (r : Option Value) (m1 : Int32) (x0_ : Addr) (h0 : Heap) (n0 : Nat) (v : Option Value) (h : Heap) (L : List Loc) : Prop := ∃ (b : Addr) (kb : ClassId), v = r ∧ Fr n0 L ∧ Keep h0 h [a1] ∧ h0.size ≤ b ∧ Fld Z h a1 "java/util/AbstractList" "modCount" "I" (.int m1) ∧ Fld Z h a1 "java/util/ArrayList" "elementData" "[Ljava/lang/Object;" (.ref b) ∧ Fld Z h a1 "java/util/ArrayList" "size" "I" (.int (1 : Int32)) ∧ Exa Z h b "[Ljava/lang/Object;" ∧ Arv Z h b kb (.object "java/lang/Object") (10 : Int32) [(.ref x0_)] .null ∧ Ovr Z kb "java/lang/Object"
def own_Qal2 (Z : State) (a1 a2 : Addr) (k2 : ClassId) (r : Option Value) (m1 : Int32) (x0_ x1_ : Addr) (h0 : Heap) (n0 : Nat) (v : Option Value) (h : Heap) (L : List Loc) : Prop := v = r ∧ Fr n0 L ∧ Keep h0 h [a1, a2] ∧ Fld Z h a1 "java/util/AbstractList" "modCount" "I" (.int m1) ∧ Fld Z h a1 "java/util/ArrayList" "elementData" "[Ljava/lang/Object;" (.ref a2) ∧ Fld Z h a1 "java/util/ArrayList" "size" "I" (.int (2 : Int32)) ∧ Arv Z h a2 k2 (.object "java/lang/Object") (10 : Int32) [(.ref x0_), (.ref x1_)] .null
def own_Qal3 (Z : State) (a1 a2 : Addr) (k2 : ClassId) (r : Option Value) (m1 : Int32) (x0_ x1_ x2_ : Addr) (h0 : Heap) (n0 : Nat) (v : Option Value) (h : Heap) (L : List Loc) : Prop := v = r ∧ Fr n0 L ∧ Keep h0 h [a1, a2] ∧ Fld Z h a1 "java/util/AbstractList" "modCount" "I" (.int m1) ∧ Fld Z h a1 "java/util/ArrayList" "elementData" "[Ljava/lang/Object;" (.ref a2) ∧ Fld Z h a1 "java/util/ArrayList" "size" "I" (.int (3 : Int32)) ∧ Arv Z h a2 k2 (.object "java/lang/Object") (10 : Int32) [(.ref x0_), (.ref x1_), (.ref x2_)] .null
def own_Qal4 (Z : State) (a1 a2 : Addr) (k2 : ClassId) (r : Option Value) (m1 : Int32) (x0_ x1_ x2_ x3_ : Addr) (h0 : Heap) (n0 : Nat) (v : Option Value) (h : Heap) (L : List Loc) : Prop := v = r ∧ Fr n0 L ∧ Keep h0 h [a1, a2] ∧ Fld Z h a1 "java/util/AbstractList" "modCount" "I" (.int m1) ∧ Fld Z h a1 "java/util/ArrayList" "elementData" "[Ljava/lang/Object;" (.ref a2) ∧ Fld Z h a1 "java/util/ArrayList" "size" "I" (.int (4 : Int32)) ∧ Arv Z h a2 k2 (.object "java/lang/Object") (10 : Int32) [(.ref x0_), (.ref x1_), (.ref x2_), (.ref x3_)] .null
def own_Qgr (Z : State) (a1 : Addr) (m1 : Int32) (h0 : Heap) (n0 : Nat) (v : Option Value) (h : Heap) (L : List Loc) : Prop := ∃ (b : Addr) (kb : ClassId), v = some (.ref b) ∧ Fr n0 L ∧ Keep h0 h [a1] ∧ h0.size ≤ b ∧ Fld Z h a1 "java/util/AbstractList" "modCount" "I" (.int m1) ∧ Fld Z h a1 "java/util/ArrayList" "elementData" "[Ljava/lang/Object;" (.ref b) ∧ Fld Z h a1 "java/util/ArrayList" "size" "I" (.int (0 : Int32)) ∧ Exa Z h b "[Ljava/lang/Object;" ∧ Arv Z h b kb (.object "java/lang/Object") (10 : Int32) [] .null ∧ Ovr Z kb "java/lang/Object"
theorem d34_0 : D34_ 0 = .ok (.aload_n 0, 1) := by decide +kernel
theorem d34_1 : D34_ 1 = .ok (.getfield 9, 3) := by decide +kernel
theorem d34_4 : D34_ 4 = .ok (.arraylength, 1) := by decide +kernel
theorem d34_5 : D34_ 5 = .ok (.istore_n 2, 1) := by decide +kernel
theorem d34_6 : D34_ 6 = .ok (.iload_n 2, 1) := by decide +kernel
theorem d34_7 : D34_ 7 = .ok (.ifCond .gt 13, 3) := by decide +kernel
theorem d34_10 : D34_ 10 = .ok (.aload_n 0, 1) := by decide +kernel
theorem d34_11 : D34_ 11 = .ok (.getfield 9, 3) := by decide +kernel
theorem d34_14 : D34_ 14 = .ok (.getstatic 39, 3) := by decide +kernel
theorem d34_17 : D34_ 17 = .ok (.if_acmp .eq 28, 3) := by decide +kernel
theorem d34_45 : D34_ 45 = .ok (.aload_n 0, 1) := by decide +kernel
theorem d34_46 : D34_ 46 = .ok (.bipush 10, 2) := by decide +kernel
theorem d34_48 : D34_ 48 = .ok (.iload_n 1, 1) := by decide +kernel
theorem d34_49 : D34_ 49 = .ok (.invokestatic 79, 3) := by decide +kernel
theorem pd_1 : parseMethodDescriptor "(II)I" = some ⟨[.int, .int], some .int⟩ := by decide +kernel
theorem d34_52 : D34_ 52 = .ok (.anewarray 7, 3) := by decide +kernel
theorem d34_55 : D34_ 55 = .ok (.dup_x1, 1) := by decide +kernel
theorem d34_56 : D34_ 56 = .ok (.putfield 9, 3) := by decide +kernel
theorem d34_59 : D34_ 59 = .ok (.areturn, 1) := by decide +kernel
theorem ef_34_4 (m : MethodId) (x0 : Addr) (x1 : Int32) : entryFrame m #[(.ref x0), (.int x1)] 4 = mkF m 0 #[vR (x0), vI (x1), .unset, .unset] [] := by first | (simp [entryFrame, mkF, argsToLocals, Value.category]; done) | rfl
theorem r_gr1 (l Z a0) (hw : own_HW a0 Z) (ws s_D s_L s_LE s_E s_Z mr kd_ kl_ h0 n0) (O0 : Old Z n0 h0) (G : own_Ctx Z Z.heap s_D s_L s_LE s_E s_Z mr kd_ kl_) (a1 : Addr) (m1 : Int32) (Ea : Exa Z h0 a1 "java/util/ArrayList") (Fm : Fld Z h0 a1 "java/util/AbstractList" "modCount" "I" (.int m1)) (Fe : Fld Z h0 a1 "java/util/ArrayList" "elementData" "[Ljava/lang/Object;" (.ref s_D)) (Fs : Fld Z h0 a1 "java/util/ArrayList" "size" "I" (.int (0 : Int32))) (ga : n0 ≤ a1) :
    oM l Y4_ jdk_38_method_6_code 4 (some (.array (.object "java/lang/Object"))) ws (own_rm_ 1 1 10 14) #[(.ref a1), (.int (1 : Int32))] Z h0 n0 (own_Qgr Z a1 m1) := by
  have G0 := G
  obtain ⟨S_D, E_D, V_D, S_L, E_L, F_L, V_L, S_E, E_E, S_A, S_Z, E_Z, M_A⟩ := G
  refine MetFree.of_bodySF (plainFor_of_name pn_2) hisR ?_
  intro p e s m args below meth c s₁ Bd hml0 hP hK
  obtain ⟨rfl, hZ, hh⟩ := hP
  have hx := Bd.exec
  have hby := Bd.bytes
  have hml : c.maxLocals = 4 := hml0
  have hown := findClass_of_methodNamed Bd.named
  have X0 : Stand p l e (own_rm_ 1 1 10 14) s m #[(.ref a1), (.int (1 : Int32))] below meth c s₁ [] 0 0 := Stand.of_body Bd
  have e0 : s₁.heap = h0 := by rw [← hh, Bd.state]; rfl
  have N0 := Fr.nil n0
  have pre0 := own_pre (tb := p.tables) (e := e) (below := below) (T := s₁) (ef_34_4 m a1 (1 : Int32))
  obtain ⟨T1, X1, e1, st1⟩ := getF X0 hx hZ hown (host := "") (Or.inl (oW hw 30 rfl)) Via.refl e0 Fe (g := (mkF m 1 #[vR (a1), vI ((1 : Int32)), .unset, .unset] [(.ref a1)])) rfl rfl (hb hby d34_1)
  have vc2 := (V_D.ext O0.2)
  obtain ⟨cl2, Ar2, qk2, S2, Nn2, Hs2, Gf2⟩ := vc2
  obtain ⟨T3, X3, e3, st3⟩ := getF X1 hx hZ hown (host := "") (Or.inl (oW hw 30 rfl)) Via.refl e1 Fe (g := (mkF m 11 #[vR (a1), vI ((1 : Int32)), vI ((0 : Int32)), .unset] [(.ref a1)])) rfl rfl (hb hby d34_11)
  obtain ⟨T4, X4, e4, st4⟩ := getS2 X3 hx hZ hown (host := "") (Or.inl (oW hw 29 rfl)) Via.refl e3 (S_D.ext O0.2) (g := (mkF m 14 #[vR (a1), vI ((1 : Int32)), vI ((0 : Int32)), .unset] [(.ref s_D)])) rfl (hb hby d34_14)
  obtain ⟨_, _, ⟨T5, L5, k5, n5⟩, -, X5, ⟨Lc5, hQ5, l5, y5, z5⟩, st5⟩ := Jvm.LawKit.callS X4 hx (y := Y3_) hown (mvT hZ (oW hw 267 rfl)) (mvT hZ (oW hw 268 rfl)) (mvT hZ (oW hw 2 rfl)) (mvT hZ (oW hw 269 rfl)) (by decide) (backOf (W := 1) (r_max l Z a0 hw [] s_D s_L s_LE s_E s_Z mr kd_ kl_ h0 n0 O0 G0) hZ (oW hw 269 rfl) (oW hw 2 rfl) (by decide) (by decide)) (g := (mkF m 49 #[vR (a1), vI ((1 : Int32)), vI ((0 : Int32)), .unset] [(.int (1 : Int32)), (.int (10 : Int32)), (.ref a1)])) rfl (by rw [hml]; rfl) (argsL := [(.int (10 : Int32)), (.int (1 : Int32))]) (rest := [(.ref a1)]) (lenOf pd_1 rfl) rfl (by exact Nat.le_of_eq rfl) (hb hby d34_49) (fun _ _ => ⟨rfl, e4, (by decide : 0 + 0 ≤ _), (by decide : 0 + 0 ≤ _)⟩)
  dsimp only [Pt.U, Pt.locs, Pt.cells, Pt.slots] at X5 l5 y5 z5 st5 hQ5
  subst l5 y5 z5
  obtain ⟨rfl, N5q, e5⟩ := hQ5
  have N5 := Fr.app N0 N5q
  obtain ⟨T6, h6, ka6, X6, e6, E6, A6, B6, Ov6, st6⟩ := newRE X5 hx hZ hown (oW hw 270 rfl) (oW hw 271 rfl) e5 (g := (mkF m 52 #[vR (a1), vI ((1 : Int32)), vI ((0 : Int32)), .unset] [(.int (10 : Int32)), (.ref a1)])) rfl (hb hby d34_52) rfl (by decide) (cap := 10) (by decide) (by decide) (by decide) (by decide) (ad := "[Ljava/lang/Object;") rfl
  obtain ⟨b6, g6⟩ := oZ h0.size
  have ne_a1_b6 := oE Ea.lt g6
  have sz_b6 : h0.size ≤ b6 := Nat.le_trans (Keep.refl h0 [a1]).1 (Nat.le_of_eq g6.symm)
  rw [← g6] at A6 B6 st6
  have f7 := Ea.ext E6
  have f8 := Fm.ext E6
  have f9 := Fe.ext E6
  have f10 := Fs.ext E6
  have K6 : Keep h0 h6 [a1] := (Keep.refl h0 [a1]).ext E6
  have V6 : Arv Z h6 b6 ka6 (.object "java/lang/Object") (10 : Int32) [] .null := Arv.new A6 (by decide)
  obtain ⟨T11, h11, X11, e11, W11, st11⟩ := putF X6 hx hZ hown (host := "") (Or.inl (oW hw 30 rfl)) Via.refl e6 f9 f7 (Or.inl (oW hw 31 rfl)) (oW hw 7 rfl) (ty := (.array (.object "java/lang/Object"))) (by decide) rfl rfl (g := (mkF m 56 #[vR (a1), vI ((1 : Int32)), vI ((0 : Int32)), .unset] [(.ref b6), (.ref a1), (.ref b6)])) rfl rfl (hb hby d34_56)
  have f13 := f8.other W11 (Or.inr (slot_ne (Or.inl (oW hw 28 rfl)) (Or.inl (oW hw 31 rfl)) (by decide) (t := .int) (t' := (.array (.object "java/lang/Object"))) (by decide) (by decide)))
  have f14 := f10.other W11 (Or.inr (slot_ne (Or.inl (oW hw 74 rfl)) (Or.inl (oW hw 31 rfl)) (by decide) (t := .int) (t' := (.array (.object "java/lang/Object"))) (by decide) (by decide)))
  have f15 := B6.wr W11
  have f16 := V6.other W11 (Ne.symm ne_a1_b6)
  have K11 : Keep h0 h11 [a1] := K6.wr W11 (Or.inl (List.mem_of_getElem? (i := 0) rfl))
  have N11 := Fr.snoc X11 N5 ga
  have f17 := f9.same W11
  obtain ⟨fs, hr, hrun, hended, hW, hsame⟩ := X11.leave (v := some (.ref b6)) (oR Bd.returns)
  refine ⟨_, _, pre0 _ ?_, hrun, hended, _, _, rfl, ?_, ⟨_, rfl⟩, hW, hsame.mono (by decide) (by decide)⟩
  · show own_St p e below s₁ m 0 #[vR (a1), vI ((1 : Int32)), .unset, .unset] [] _
    refine XS.aloadN X0.here hx rfl (hb hby d34_0) rfl rfl ?_
    refine st1 _ ?_
    show own_St p e below T1 m 4 #[vR (a1), vI ((1 : Int32)), .unset, .unset] [(.ref s_D)] _
    refine X1.arraylength hx (by rw [e1]; exact Ar2.1) (State.isArrayOf_alike hZ.alike Ar2.2.1) (g := (mkF m 4 #[vR (a1), vI ((1 : Int32)), .unset, .unset] [(.ref s_D)])) rfl rfl (hb hby d34_4) _ ?_
    rw [len_of S2 Nn2]
    show own_St p e below T1 m 5 #[vR (a1), vI ((1 : Int32)), .unset, .unset] [(.int (0 : Int32))] _
    refine XS.istoreN X1.here hx rfl (hb hby d34_5) rfl (l' := #[vR (a1), vI ((1 : Int32)), vI ((0 : Int32)), .unset]) rfl ?_
    refine XS.iloadN X1.here hx rfl (hb hby d34_6) rfl ?_
    refine XS.ifNo X1.here hx rfl (hb hby d34_7) rfl ((if0 _ _).trans (flt (by decide : ¬ ((0 : Int32) < (0 : Int32)))).2.2.1) ?_
    refine XS.aloadN X1.here hx rfl (hb hby d34_10) rfl rfl ?_
    refine st3 _ ?_
    refine st4 _ ?_
    show own_St p e below T4 m 17 #[vR (a1), vI ((1 : Int32)), vI ((0 : Int32)), .unset] [(.ref s_D), (.ref s_D)] _
    refine Jvm.RoadKit.acmp (g := (mkF m 17 #[vR (a1), vI ((1 : Int32)), vI ((0 : Int32)), .unset] [(.ref s_D), (.ref s_D)])) X4 hx rfl rfl rfl (pc0 := 17) (pc' := 45) (same := true) rfl (hb hby d34_17) rfl (decide_eq_true rfl) (by decide) (by decide) ?_
    show own_St p e below T4 m 45 #[vR (a1), vI ((1 : Int32)), vI ((0 : Int32)), .unset] [] _
    refine XS.aloadN X4.here hx rfl (hb hby d34_45) rfl rfl ?_
    refine XS.bipush X4.here hx rfl (hb hby d34_46) ?_
    refine XS.iloadN X4.here hx rfl (hb hby d34_48) rfl ?_
    refine st5 _ ?_
    refine st6 _ ?_
    show own_St p e below T6 m 55 #[vR (a1), vI ((1 : Int32)), vI ((0 : Int32)), .unset] [(.ref b6), (.ref a1)] _
    refine XS.dupX1 X6.here hx rfl (hb hby d34_55) rfl rfl rfl ?_
    refine st11 _ ?_
    show own_St p e below T11 m 59 #[vR (a1), vI ((1 : Int32)), vI ((0 : Int32)), .unset] [(.ref b6)] _
    exact retOut X11 hx Bd.returns rfl (Or.inr (Or.inr (Or.inr (Or.inr ⟨rfl, rfl, rfl⟩)))) (hb hby d34_59) hr
  · show own_Qgr Z a1 m1 h0 n0 _ T11.heap _
    rw [e11]
    exact ⟨b6, ka6, rfl, N11, K11, sz_b6, f13, f17, f14, f15, f16, Ov6⟩
theorem d33_0 : D33_ 0 = .ok (.aload_n 0, 1) := by decide +kernel
theorem d33_1 : D33_ 1 = .ok (.aload_n 0, 1) := by decide +kernel
theorem d33_2 : D33_ 2 = .ok (.getfield 48, 3) := by decide +kernel
theorem d33_5 : D33_ 5 = .ok (.iconst 1, 1) := by decide +kernel
theorem d33_6 : D33_ 6 = .ok (.iadd, 1) := by decide +kernel
theorem d33_7 : D33_ 7 = .ok (.invokevirtual 69, 3) := by decide +kernel
theorem pd_2 : parseMethodDescriptor "(I)[Ljava/lang/Object;" = some ⟨[.int], some (.array (.object "java/lang/Object"))⟩ := by decide +kernel
theorem d33_10 : D33_ 10 = .ok (.areturn, 1) := by decide +kernel
theorem ef_33_5 (m : MethodId) (x0 : Addr) : entryFrame m #[(.ref x0)] 1 = mkF m 0 #[vR (x0)] [] := by first | (simp [entryFrame, mkF, argsToLocals, Value.category]; done) | rfl
theorem r_gr0 (l Z a0) (hw : own_HW a0 Z) (ws s_D s_L s_LE s_E s_Z mr kd_ kl_ h0 n0) (O0 : Old Z n0 h0) (G : own_Ctx Z Z.heap s_D s_L s_LE s_E s_Z mr kd_ kl_) (a1 : Addr) (m1 : Int32) (Ea : Exa Z h0 a1 "java/util/ArrayList") (Fm : Fld Z h0 a1 "java/util/AbstractList" "modCount" "I" (.int m1)) (Fe : Fld Z h0 a1 "java/util/ArrayList" "elementData" "[Ljava/lang/Object;" (.ref s_D)) (Fs : Fld Z h0 a1 "java/util/ArrayList" "size" "I" (.int (0 : Int32))) (ga : n0 ≤ a1) :
    oM l Y5_ jdk_38_method_7_code 1 (some (.array (.object "java/lang/Object"))) ws (own_rm_ 2 1 10 29) #[(.ref a1)] Z h0 n0 (own_Qgr Z a1 m1) := by
  have G0 := G
  obtain ⟨S_D, E_D, V_D, S_L, E_L, F_L, V_L, S_E, E_E, S_A, S_Z, E_Z, M_A⟩ := G
  refine MetFree.of_bodySF (plainFor_of_name pn_2) hisR ?_
  intro p e s m args below meth c s₁ Bd hml0 hP hK
  obtain ⟨rfl, hZ, hh⟩ := hP
  have hx := Bd.exec
  have hby := Bd.bytes
  have hml : c.maxLocals = 1 := hml0
  have hown := findClass_of_methodNamed Bd.named
  have X0 : Stand p l e (own_rm_ 2 1 10 29) s m #[(.ref a1)] below meth c s₁ [] 0 0 := Stand.of_body Bd
  have e0 : s₁.heap = h0 := by rw [← hh, Bd.state]; rfl
  have N0 := Fr.nil n0
  have pre0 := own_pre (tb := p.tables) (e := e) (below := below) (T := s₁) (ef_33_5 m a1)
  obtain ⟨T1, X1, e1, st1⟩ := getF X0 hx hZ hown (host := "") (Or.inl (oW hw 73 rfl)) Via.refl e0 Fs (g := (mkF m 2 #[vR (a1)] [(.ref a1), (.ref a1)])) rfl rfl (hb hby d33_2)
  obtain ⟨cq2, q2, q2'⟩ := Ea.cell
  obtain ⟨_, _, ⟨T2, L2, k2, n2⟩, -, X2, ⟨Lc2, hQ2, l2, y2, z2⟩, st2⟩ := X1.privateBack hx (y := Y4_) hown (mvT hZ (oW hw 262 rfl)) (mvT hZ (oW hw 263 rfl)) (mvT hZ (oW hw 265 rfl)) (Cond.privateMethod_at (mvP hZ (oW hw 264 rfl) (args := #[]))) (mvT hZ (oW hw 266 rfl)) (by decide) (backOf (W := 0) (r_gr1 l Z a0 hw [] s_D s_L s_LE s_E s_Z mr kd_ kl_ h0 n0 O0 G0 a1 m1 Ea Fm Fe Fs ga) hZ (oW hw 266 rfl) (oW hw 8 rfl) (by decide) (by decide)) (g := (mkF m 7 #[vR (a1)] [(.int ((0 : Int32) + (1 : Int32))), (.ref a1)])) rfl (by rw [hml]; rfl) (Steps.refl _) (a := a1) (by rw [e1]; exact q2) q2' (argsL := [(.int ((0 : Int32) + (1 : Int32)))]) (rest := []) (lenOf pd_2 rfl) rfl (by exact Nat.le_of_eq rfl) (hb hby d33_7) (fun _ _ => ⟨rfl, e1, (by decide : 0 + 1 ≤ _), (by decide : 0 + 10 ≤ _)⟩)
  dsimp only [Pt.U, Pt.locs, Pt.cells, Pt.slots] at X2 l2 y2 z2 st2 hQ2
  subst l2 y2 z2
  obtain ⟨t2, kt2, rfl, N2q, Kq2, gt2, Fm2, Fe2, Fs2, Et2, Vt2, Ot2⟩ := hQ2
  have N2 := Fr.app N0 N2q
  have sz_t2 : h0.size ≤ t2 := Nat.le_trans (Keep.refl h0 [a1]).1 gt2
  have K2 : Keep h0 T2.heap [a1] := (Keep.refl h0 [a1]).trans Kq2 (allS (Or.inl (List.mem_of_getElem? (i := 0) rfl)) all0)
  obtain ⟨fs, hr, hrun, hended, hW, hsame⟩ := X2.leave (v := some (.ref t2)) (oR Bd.returns)
  refine ⟨_, _, pre0 _ ?_, hrun, hended, _, _, rfl, ?_, ⟨_, rfl⟩, hW, hsame.mono (by decide) (by decide)⟩
  · show own_St p e below s₁ m 0 #[vR (a1)] [] _
    refine XS.aloadN X0.here hx rfl (hb hby d33_0) rfl rfl ?_
    refine XS.aloadN X0.here hx rfl (hb hby d33_1) rfl rfl ?_
    refine st1 _ ?_
    show own_St p e below T1 m 5 #[vR (a1)] [(.int (0 : Int32)), (.ref a1)] _
    refine XS.iconst X1.here hx rfl (hb hby d33_5) ?_
    refine XS.iadd X1.here hx rfl (hb hby d33_6) rfl ?_
    refine st2.trans ?_
    show own_St p e below T2 m 10 #[vR (a1)] [(.ref t2)] _
    exact retOut X2 hx Bd.returns rfl (Or.inr (Or.inr (Or.inr (Or.inr ⟨rfl, rfl, rfl⟩)))) (hb hby d33_10) hr
  · show own_Qgr Z a1 m1 h0 n0 _ T2.heap _
    exact ⟨t2, kt2, rfl, N2, K2, sz_t2, Fm2, Fe2, Fs2, Et2, Vt2, Ot2⟩
theorem d32_0 : D32_ 0 = .ok (.iload_n 3, 1) := by decide +kernel
theorem d32_1 : D32_ 1 = .ok (.aload_n 2, 1) := by decide +kernel
theorem d32_2 : D32_ 2 = .ok (.arraylength, 1) := by decide +kernel
theorem d32_3 : D32_ 3 = .ok (.if_icmp .ne 8, 3) := by decide +kernel
theorem d32_6 : D32_ 6 = .ok (.aload_n 0, 1) := by decide +kernel
theorem d32_7 : D32_ 7 = .ok (.invokevirtual 129, 3) := by decide +kernel
theorem pd_3 : parseMethodDescriptor "()[Ljava/lang/Object;" = some ⟨[], some (.array (.object "java/lang/Object"))⟩ := by decide +kernel
theorem d32_10 : D32_ 10 = .ok (.astore_n 2, 1) := by decide +kernel
theorem d32_11 : D32_ 11 = .ok (.aload_n 2, 1) := by decide +kernel
theorem d32_12 : D32_ 12 = .ok (.iload_n 3, 1) := by decide +kernel
theorem d32_13 : D32_ 13 = .ok (.aload_n 1, 1) := by decide +kernel
theorem d32_14 : D32_ 14 = .ok (.aastore, 1) := by decide +kernel
theorem d32_15 : D32_ 15 = .ok (.aload_n 0, 1) := by decide +kernel
theorem d32_16 : D32_ 16 = .ok (.iload_n 3, 1) := by decide +kernel
theorem d32_17 : D32_ 17 = .ok (.iconst 1, 1) := by decide +kernel
theorem d32_18 : D32_ 18 = .ok (.iadd, 1) := by decide +kernel
theorem d32_19 : D32_ 19 = .ok (.putfield 48, 3) := by decide +kernel
theorem d32_22 : D32_ 22 = .ok (.return_, 1) := by decide +kernel
theorem ef_32_6 (m : MethodId) (x0 : Addr) (x1 : Addr) (x2 : Addr) (x3 : Int32) : entryFrame m #[(.ref x0), (.ref x1), (.ref x2), (.int x3)] 4 = mkF m 0 #[vR (x0), vR (x1), vR (x2), vI (x3)] [] := by first | (simp [entryFrame, mkF, argsToLocals, Value.category]; done) | rfl
theorem r_at0 (l Z a0) (hw : own_HW a0 Z) (ws s_D s_L s_LE s_E s_Z mr kd_ kl_ h0 n0) (O0 : Old Z n0 h0) (G : own_Ctx Z Z.heap s_D s_L s_LE s_E s_Z mr kd_ kl_) (a1 : Addr) (m1 : Int32) (x0_ : Addr) (Ea : Exa Z h0 a1 "java/util/ArrayList") (Fm : Fld Z h0 a1 "java/util/AbstractList" "modCount" "I" (.int m1)) (Fe : Fld Z h0 a1 "java/util/ArrayList" "elementData" "[Ljava/lang/Object;" (.ref s_D)) (Fs : Fld Z h0 a1 "java/util/ArrayList" "size" "I" (.int (0 : Int32))) (ga : n0 ≤ a1) (Ex : Exa Z h0 x0_ "com/example/hodos/hodos/analysis/Course$Arc") :
    oM l Y6_ jdk_38_method_24_code 4 none ws (own_rm_ 3 1 10 41) #[(.ref a1), (.ref x0_), (.ref s_D), (.int (0 : Int32))] Z h0 n0 (own_Qal1 Z a1 (none) m1 x0_) := by
  have G0 := G
  obtain ⟨S_D, E_D, V_D, S_L, E_L, F_L, V_L, S_E, E_E, S_A, S_Z, E_Z, M_A⟩ := G
  refine MetFree.of_bodySF (plainFor_of_name pn_2) hisR ?_
  intro p e s m args below meth c s₁ Bd hml0 hP hK
  obtain ⟨rfl, hZ, hh⟩ := hP
  have hx := Bd.exec
  have hby := Bd.bytes
  have hml : c.maxLocals = 4 := hml0
  have hown := findClass_of_methodNamed Bd.named
  have X0 : Stand p l e (own_rm_ 3 1 10 41) s m #[(.ref a1), (.ref x0_), (.ref s_D), (.int (0 : Int32))] below meth c s₁ [] 0 0 := Stand.of_body Bd
  have e0 : s₁.heap = h0 := by rw [← hh, Bd.state]; rfl
  have N0 := Fr.nil n0
  have pre0 := own_pre (tb := p.tables) (e := e) (below := below) (T := s₁) (ef_32_6 m a1 x0_ s_D (0 : Int32))
  have vc1 := (V_D.ext O0.2)
  obtain ⟨cl1, Ar1, qk1, S1, Nn1, Hs1, Gf1⟩ := vc1
  obtain ⟨cq2, q2, q2'⟩ := Ea.cell
  obtain ⟨_, _, ⟨T2, L2, k2, n2⟩, -, X2, ⟨Lc2, hQ2, l2, y2, z2⟩, st2⟩ := X0.privateBack hx (y := Y5_) hown (mvT hZ (oW hw 257 rfl)) (mvT hZ (oW hw 258 rfl)) (mvT hZ (oW hw 260 rfl)) (Cond.privateMethod_at (mvP hZ (oW hw 259 rfl) (args := #[]))) (mvT hZ (oW hw 261 rfl)) (by decide) (backOf (W := 0) (r_gr0 l Z a0 hw [] s_D s_L s_LE s_E s_Z mr kd_ kl_ h0 n0 O0 G0 a1 m1 Ea Fm Fe Fs ga) hZ (oW hw 261 rfl) (oW hw 8 rfl) (by decide) (by decide)) (g := (mkF m 7 #[vR (a1), vR (x0_), vR (s_D), vI ((0 : Int32))] [(.ref a1)])) rfl (by rw [hml]; rfl) (Steps.refl _) (a := a1) (by rw [e0]; exact q2) q2' (argsL := []) (rest := []) (lenOf pd_3 rfl) rfl (by exact Nat.le_of_eq rfl) (hb hby d32_7) (fun _ _ => ⟨rfl, e0, (by decide : 0 + 1 ≤ _), (by decide : 0 + 10 ≤ _)⟩)
  dsimp only [Pt.U, Pt.locs, Pt.cells, Pt.slots] at X2 l2 y2 z2 st2 hQ2
  subst l2 y2 z2
  obtain ⟨t2, kt2, rfl, N2q, Kq2, gt2, Fm2, Fe2, Fs2, Et2, Vt2, Ot2⟩ := hQ2
  have N2 := Fr.app N0 N2q
  have ne_a1_t2 := oL Ea.lt gt2
  have g_t2 : n0 ≤ t2 := Nat.le_trans (O0.1 ▸ O0.2.1) gt2
  have sz_t2 : h0.size ≤ t2 := Nat.le_trans (Keep.refl h0 [a1]).1 gt2
  have f3 := Ea.keep Kq2
  have f4 := Ex.keep Kq2
  have K2 : Keep h0 T2.heap [a1] := (Keep.refl h0 [a1]).trans Kq2 (allS (Or.inl (List.mem_of_getElem? (i := 0) rfl)) all0)
  have f5 : Arv Z T2.heap t2 kt2 (.object "java/lang/Object") (10 : Int32) [.null] .null := Vt2.pad (pad_rep [] .null 1)
  have vc6 := f5
  obtain ⟨cl6, Ar6, qk6, S6, Nn6, Hs6, Gf6⟩ := vc6
  have hin6 : ¬ ((0 : Int32) < 0 ∨ cl6.slots.size ≤ ((0 : Int32)).toNatClampNeg) := inb_of S6 ⟨by decide, by decide⟩
  obtain ⟨T7, h7, X7, e7, W7, st7⟩ := stR X2 hx hZ rfl Ar6 (j := (0 : Int32)) hin6 rfl (Sto.ofV Ar6 qk6 Ot2 (Ins.of_exa f4 (oW hw 272 rfl))) (g := (mkF m 14 #[vR (a1), vR (x0_), vR (t2), vI ((0 : Int32))] [(.ref x0_), (.int (0 : Int32)), (.ref t2)])) rfl rfl (hb hby d32_14)
  have f8 := f3.wr W7
  have f10 := Et2.wr W7
  have f11 := Fm2.other W7 (Or.inl ne_a1_t2)
  have f12 := Fe2.other W7 (Or.inl ne_a1_t2)
  have f13 := Fs2.other W7 (Or.inl ne_a1_t2)
  have K7 : Keep h0 h7 [a1] := K2.wr W7 (Or.inr sz_t2)
  have N7 := Fr.snoc X7 N2 g_t2
  have f14 : Arv Z h7 t2 kt2 (.object "java/lang/Object") (10 : Int32) [(.ref x0_)] .null := Arv.set Ar6 qk6 S6 Nn6 Hs6 Gf6 rfl W7 0 rfl (Nat.le_of_ble_eq_true rfl)
  obtain ⟨T15, h15, X15, e15, W15, st15⟩ := putF X7 hx hZ hown (host := "") (Or.inl (oW hw 73 rfl)) Via.refl e7 f13 f8 (Or.inl (oW hw 74 rfl)) (oW hw 7 rfl) (ty := .int) (by decide) rfl rfl (g := (mkF m 19 #[vR (a1), vR (x0_), vR (t2), vI ((0 : Int32))] [(.int ((0 : Int32) + (1 : Int32))), (.ref a1)])) rfl rfl (hb hby d32_19)
  have f18 := f10.wr W15
  have f19 := f14.other W15 (Ne.symm ne_a1_t2)
  have f20 := f11.other W15 (Or.inr (slot_ne (Or.inl (oW hw 28 rfl)) (Or.inl (oW hw 74 rfl)) (by decide) (t := .int) (t' := .int) (by decide) (by decide)))
  have f21 := f12.other W15 (Or.inr (slot_ne (Or.inl (oW hw 31 rfl)) (Or.inl (oW hw 74 rfl)) (by decide) (t := (.array (.object "java/lang/Object"))) (t' := .int) (by decide) (by decide)))
  have K15 : Keep h0 h15 [a1] := K7.wr W15 (Or.inl (List.mem_of_getElem? (i := 0) rfl))
  have N15 := Fr.snoc X15 N7 ga
  have f22 := f13.same W15
  obtain ⟨fs, hr, hrun, hended, hW, hsame⟩ := X15.leave (v := none) (fun _ => rfl)
  refine ⟨_, _, pre0 _ ?_, hrun, hended, _, _, rfl, ?_, ⟨_, rfl⟩, hW, hsame.mono (by decide) (by decide)⟩
  · show own_St p e below s₁ m 0 #[vR (a1), vR (x0_), vR (s_D), vI ((0 : Int32))] [] _
    refine XS.iloadN X0.here hx rfl (hb hby d32_0) rfl ?_
    refine XS.aloadN X0.here hx rfl (hb hby d32_1) rfl rfl ?_
    show own_St p e below s₁ m 2 #[vR (a1), vR (x0_), vR (s_D), vI ((0 : Int32))] [(.ref s_D), (.int (0 : Int32))] _
    refine X0.arraylength hx (by rw [e0]; exact Ar1.1) (State.isArrayOf_alike hZ.alike Ar1.2.1) (g := (mkF m 2 #[vR (a1), vR (x0_), vR (s_D), vI ((0 : Int32))] [(.ref s_D), (.int (0 : Int32))])) rfl rfl (hb hby d32_2) _ ?_
    rw [len_of S1 Nn1]
    show own_St p e below s₁ m 3 #[vR (a1), vR (x0_), vR (s_D), vI ((0 : Int32))] [(.int (0 : Int32)), (.int (0 : Int32))] _
    refine XS.icmpNo X0.here hx rfl (hb hby d32_3) rfl (teq (by decide : (0 : Int32) = (0 : Int32))).2 ?_
    refine XS.aloadN X0.here hx rfl (hb hby d32_6) rfl rfl ?_
    refine st2.trans ?_
    show own_St p e below T2 m 10 #[vR (a1), vR (x0_), vR (s_D), vI ((0 : Int32))] [(.ref t2)] _
    refine XS.astoreN X2.here hx rfl (hb hby d32_10) rfl rfl (l' := #[vR (a1), vR (x0_), vR (t2), vI ((0 : Int32))]) rfl ?_
    refine XS.aloadN X2.here hx rfl (hb hby d32_11) rfl rfl ?_
    refine XS.iloadN X2.here hx rfl (hb hby d32_12) rfl ?_
    refine XS.aloadN X2.here hx rfl (hb hby d32_13) rfl rfl ?_
    refine st7 _ ?_
    show own_St p e below T7 m 15 #[vR (a1), vR (x0_), vR (t2), vI ((0 : Int32))] [] _
    refine XS.aloadN X7.here hx rfl (hb hby d32_15) rfl rfl ?_
    refine XS.iloadN X7.here hx rfl (hb hby d32_16) rfl ?_
    refine XS.iconst X7.here hx rfl (hb hby d32_17) ?_
    refine XS.iadd X7.here hx rfl (hb hby d32_18) rfl ?_
    refine st15 _ ?_
    show own_St p e below T15 m 22 #[vR (a1), vR (x0_), vR (t2), vI ((0 : Int32))] [] _
    exact X15.returnOut hx Bd.returns (hb hby d32_22) hr
  · show own_Qal1 Z a1 (none) m1 x0_ h0 n0 _ T15.heap _
    rw [e15]
    exact ⟨t2, kt2, rfl, N15, K15, sz_t2, f20, f21, f22, f18, f19, Ot2⟩
theorem d31_0 : D31_ 0 = .ok (.aload_n 0, 1) := by decide +kernel
theorem d31_1 : D31_ 1 = .ok (.dup, 1) := by decide +kernel
theorem d31_2 : D31_ 2 = .ok (.getfield 63, 3) := by decide +kernel
theorem d31_5 : D31_ 5 = .ok (.iconst 1, 1) := by decide +kernel
theorem d31_6 : D31_ 6 = .ok (.iadd, 1) := by decide +kernel
theorem d31_7 : D31_ 7 = .ok (.putfield 63, 3) := by decide +kernel
theorem d31_10 : D31_ 10 = .ok (.aload_n 0, 1) := by decide +kernel
theorem d31_11 : D31_ 11 = .ok (.aload_n 1, 1) := by decide +kernel
theorem d31_12 : D31_ 12 = .ok (.aload_n 0, 1) := by decide +kernel
theorem d31_13 : D31_ 13 = .ok (.getfield 9, 3) := by decide +kernel
theorem d31_16 : D31_ 16 = .ok (.aload_n 0, 1) := by decide +kernel
theorem d31_17 : D31_ 17 = .ok (.getfield 48, 3) := by decide +kernel
theorem d31_20 : D31_ 20 = .ok (.invokevirtual 131, 3) := by decide +kernel
theorem pd_4 : parseMethodDescriptor "(Ljava/lang/Object;[Ljava/lang/Object;I)V" = some ⟨[(.object "java/lang/Object"), (.array (.object "java/lang/Object")), .int], none⟩ := by decide +kernel
theorem d31_23 : D31_ 23 = .ok (.iconst 1, 1) := by decide +kernel
theorem d31_24 : D31_ 24 = .ok (.ireturn, 1) := by decide +kernel
theorem ef_31_7 (m : MethodId) (x0 : Addr) (x1 : Addr) : entryFrame m #[(.ref x0), (.ref x1)] 2 = mkF m 0 #[vR (x0), vR (x1)] [] := by first | (simp [entryFrame, mkF, argsToLocals, Value.category]; done) | rfl
theorem r_add0 (l Z a0) (hw : own_HW a0 Z) (ws s_D s_L s_LE s_E s_Z mr kd_ kl_ h0 n0) (O0 : Old Z n0 h0) (G : own_Ctx Z Z.heap s_D s_L s_LE s_E s_Z mr kd_ kl_) (a1 : Addr) (m1 : Int32) (x0_ : Addr) (Ea : Exa Z h0 a1 "java/util/ArrayList") (Fm : Fld Z h0 a1 "java/util/AbstractList" "modCount" "I" (.int m1)) (Fe : Fld Z h0 a1 "java/util/ArrayList" "elementData" "[Ljava/lang/Object;" (.ref s_D)) (Fs : Fld Z h0 a1 "java/util/ArrayList" "size" "I" (.int (0 : Int32))) (ga : n0 ≤ a1) (Ex : Exa Z h0 x0_ "com/example/hodos/hodos/analysis/Course$Arc") :
    oM l Y7_ jdk_38_method_25_code 2 (some .boolean) ws (own_rm_ 4 1 10 56) #[(.ref a1), (.ref x0_)] Z h0 n0 (own_Qal1 Z a1 (some (.int (1 : Int32))) (m1 + (1 : Int32)) x0_) := by
  have G0 := G
  obtain ⟨S_D, E_D, V_D, S_L, E_L, F_L, V_L, S_E, E_E, S_A, S_Z, E_Z, M_A⟩ := G
  refine MetFree.of_bodySF (plainFor_of_name pn_2) hisR ?_
  intro p e s m args below meth c s₁ Bd hml0 hP hK
  obtain ⟨rfl, hZ, hh⟩ := hP
  have hx := Bd.exec
  have hby := Bd.bytes
  have hml : c.maxLocals = 2 := hml0
  have hown := findClass_of_methodNamed Bd.named
  have X0 : Stand p l e (own_rm_ 4 1 10 56) s m #[(.ref a1), (.ref x0_)] below meth c s₁ [] 0 0 := Stand.of_body Bd
  have e0 : s₁.heap = h0 := by rw [← hh, Bd.state]; rfl
  have N0 := Fr.nil n0
  have pre0 := own_pre (tb := p.tables) (e := e) (below := below) (T := s₁) (ef_31_7 m a1 x0_)
  obtain ⟨T1, X1, e1, st1⟩ := getF X0 hx hZ hown (host := "") (Or.inl (oW hw 250 rfl)) (Via.of (oW hw 251 rfl)) e0 Fm (g := (mkF m 2 #[vR (a1), vR (x0_)] [(.ref a1), (.ref a1)])) rfl rfl (hb hby d31_2)
  obtain ⟨T2, h2, X2, e2, W2, st2⟩ := putF X1 hx hZ hown (host := "") (Or.inl (oW hw 250 rfl)) (Via.of (oW hw 251 rfl)) e1 Fm Ea (Or.inl (oW hw 28 rfl)) (oW hw 7 rfl) (ty := .int) (by decide) rfl rfl (g := (mkF m 7 #[vR (a1), vR (x0_)] [(.int (m1 + (1 : Int32))), (.ref a1)])) rfl rfl (hb hby d31_7)
  have f3 := Ea.wr W2
  have f4 := Fe.other W2 (Or.inr (slot_ne (Or.inl (oW hw 31 rfl)) (Or.inl (oW hw 28 rfl)) (by decide) (t := (.array (.object "java/lang/Object"))) (t' := .int) (by decide) (by decide)))
  have f5 := Fs.other W2 (Or.inr (slot_ne (Or.inl (oW hw 74 rfl)) (Or.inl (oW hw 28 rfl)) (by decide) (t := .int) (t' := .int) (by decide) (by decide)))
  have f6 := Ex.wr W2
  have O2 := O0.wr W2 ga
  have K2 : Keep h0 h2 [a1] := (Keep.refl h0 [a1]).wr W2 (Or.inl (List.mem_of_getElem? (i := 0) rfl))
  have N2 := Fr.snoc X2 N0 ga
  have f7 := Fm.same W2
  obtain ⟨T8, X8, e8, st8⟩ := getF X2 hx hZ hown (host := "") (Or.inl (oW hw 30 rfl)) Via.refl e2 f4 (g := (mkF m 13 #[vR (a1), vR (x0_)] [(.ref a1), (.ref x0_), (.ref a1)])) rfl rfl (hb hby d31_13)
  obtain ⟨T9, X9, e9, st9⟩ := getF X8 hx hZ hown (host := "") (Or.inl (oW hw 73 rfl)) Via.refl e8 f5 (g := (mkF m 17 #[vR (a1), vR (x0_)] [(.ref a1), (.ref s_D), (.ref x0_), (.ref a1)])) rfl rfl (hb hby d31_17)
  obtain ⟨LL10, X10, N10⟩ : ∃ LL, Stand p l e (own_rm_ 4 1 10 56) s m #[(.ref a1), (.ref x0_)] below meth c T9 LL 0 0 ∧ Fr n0 LL := ⟨_, X9, N2⟩
  obtain ⟨cq11, q11, q11'⟩ := f3.cell
  obtain ⟨_, _, ⟨T11, L11, k11, n11⟩, -, X11, ⟨Lc11, hQ11, l11, y11, z11⟩, st11⟩ := X10.privateBack hx (y := Y6_) hown (mvT hZ (oW hw 252 rfl)) (mvT hZ (oW hw 253 rfl)) (mvT hZ (oW hw 255 rfl)) (Cond.privateMethod_at (mvP hZ (oW hw 254 rfl) (args := #[]))) (mvT hZ (oW hw 256 rfl)) (by decide) (backOf (W := 0) (r_at0 l Z a0 hw [] s_D s_L s_LE s_E s_Z mr kd_ kl_ h2 n0 O2 G0 a1 (m1 + (1 : Int32)) x0_ f3 f7 f4 f5 ga f6) hZ (oW hw 256 rfl) (oW hw 8 rfl) (by decide) (by decide)) (g := (mkF m 20 #[vR (a1), vR (x0_)] [(.int (0 : Int32)), (.ref s_D), (.ref x0_), (.ref a1)])) rfl (by rw [hml]; rfl) (Steps.refl _) (a := a1) (by rw [e9]; exact q11) q11' (argsL := [(.ref x0_), (.ref s_D), (.int (0 : Int32))]) (rest := []) (lenOf pd_4 rfl) rfl (by exact Nat.le_of_eq rfl) (hb hby d31_20) (fun _ _ => ⟨rfl, e9, (by decide : 0 + 1 ≤ _), (by decide : 0 + 10 ≤ _)⟩)
  dsimp only [Pt.U, Pt.locs, Pt.cells, Pt.slots] at X11 l11 y11 z11 st11 hQ11
  subst l11 y11 z11
  obtain ⟨t11, kt11, rfl, N11q, Kq11, gt11, Fm11, Fe11, Fs11, Et11, Vt11, Ot11⟩ := hQ11
  have N11 := Fr.app N10 N11q
  have sz_t11 : h0.size ≤ t11 := Nat.le_trans K2.1 gt11
  have K11 : Keep h0 T11.heap [a1] := K2.trans Kq11 (allS (Or.inl (List.mem_of_getElem? (i := 0) rfl)) all0)
  obtain ⟨fs, hr, hrun, hended, hW, hsame⟩ := X11.leave (v := some (.int (1 : Int32))) (oR Bd.returns)
  refine ⟨_, _, pre0 _ ?_, hrun, hended, _, _, rfl, ?_, ⟨_, rfl⟩, hW, hsame.mono (by decide) (by decide)⟩
  · show own_St p e below s₁ m 0 #[vR (a1), vR (x0_)] [] _
    refine XS.aloadN X0.here hx rfl (hb hby d31_0) rfl rfl ?_
    refine XS.dup X0.here hx rfl (hb hby d31_1) rfl rfl ?_
    refine st1 _ ?_
    show own_St p e below T1 m 5 #[vR (a1), vR (x0_)] [(.int m1), (.ref a1)] _
    refine XS.iconst X1.here hx rfl (hb hby d31_5) ?_
    refine XS.iadd X1.here hx rfl (hb hby d31_6) rfl ?_
    refine st2 _ ?_
    show own_St p e below T2 m 10 #[vR (a1), vR (x0_)] [] _
    refine XS.aloadN X2.here hx rfl (hb hby d31_10) rfl rfl ?_
    refine XS.aloadN X2.here hx rfl (hb hby d31_11) rfl rfl ?_
    refine XS.aloadN X2.here hx rfl (hb hby d31_12) rfl rfl ?_
    refine st8 _ ?_
    show own_St p e below T8 m 16 #[vR (a1), vR (x0_)] [(.ref s_D), (.ref x0_), (.ref a1)] _
    refine XS.aloadN X8.here hx rfl (hb hby d31_16) rfl rfl ?_
    refine st9 _ ?_
    refine st11.trans ?_
    show own_St p e below T11 m 23 #[vR (a1), vR (x0_)] [] _
    refine XS.iconst X11.here hx rfl (hb hby d31_23) ?_
    show own_St p e below T11 m 24 #[vR (a1), vR (x0_)] [(.int (1 : Int32))] _
    exact retN X11 hx (t := .boolean) Bd.returns (by simp) (hb hby d31_24) hr
  · show own_Qal1 Z a1 (some (.int (1 : Int32))) (m1 + (1 : Int32)) x0_ h0 n0 _ T11.heap _
    exact ⟨t11, kt11, rfl, N11, K11, sz_t11, Fm11, Fe11, Fs11, Et11, Vt11, Ot11⟩
theorem r_at1 (l Z a0) (hw : own_HW a0 Z) (ws s_D s_L s_LE s_E s_Z mr kd_ kl_ h0 n0) (O0 : Old Z n0 h0) (G : own_Ctx Z Z.heap s_D s_L s_LE s_E s_Z mr kd_ kl_) (a1 : Addr) (m1 : Int32) (a2 : Addr) (k2 : ClassId) (x0_ : Addr) (x1_ : Addr) (Ea : Exa Z h0 a1 "java/util/ArrayList") (Fm : Fld Z h0 a1 "java/util/AbstractList" "modCount" "I" (.int m1)) (Fe : Fld Z h0 a1 "java/util/ArrayList" "elementData" "[Ljava/lang/Object;" (.ref a2)) (Fs : Fld Z h0 a1 "java/util/ArrayList" "size" "I" (.int (1 : Int32))) (Ed : Exa Z h0 a2 "[Ljava/lang/Object;") (Vd : Arv Z h0 a2 k2 (.object "java/lang/Object") (10 : Int32) [(.ref x0_)] .null) (Ov : Ovr Z k2 "java/lang/Object") (ga : n0 ≤ a1) (Ex : Exa Z h0 x1_ "com/example/hodos/hodos/analysis/Course$Arc") (gb : n0 ≤ a2) (hne : a1 ≠ a2) :
    oM l Y6_ jdk_38_method_24_code 4 none ws (own_rm_ 0 0 0 0) #[(.ref a1), (.ref x1_), (.ref a2), (.int (1 : Int32))] Z h0 n0 (own_Qal2 Z a1 a2 k2 (none) m1 x0_ x1_) := by
  have G0 := G
  refine MetFree.of_bodySF (plainFor_of_name pn_2) hisR ?_
  intro p e s m args below meth c s₁ Bd hml0 hP hK
  obtain ⟨rfl, hZ, hh⟩ := hP
  have hx := Bd.exec
  have hby := Bd.bytes
  have hml : c.maxLocals = 4 := hml0
  have hown := findClass_of_methodNamed Bd.named
  have X0 : Stand p l e (own_rm_ 0 0 0 0) s m #[(.ref a1), (.ref x1_), (.ref a2), (.int (1 : Int32))] below meth c s₁ [] 0 0 := Stand.of_body Bd
  have e0 : s₁.heap = h0 := by rw [← hh, Bd.state]; rfl
  have N0 := Fr.nil n0
  have pre0 := own_pre (tb := p.tables) (e := e) (below := below) (T := s₁) (ef_32_6 m a1 x1_ a2 (1 : Int32))
  have vc1 := Vd
  obtain ⟨cl1, Ar1, qk1, S1, Nn1, Hs1, Gf1⟩ := vc1
  have f2 : Arv Z h0 a2 k2 (.object "java/lang/Object") (10 : Int32) [(.ref x0_), .null] .null := Vd.pad (pad_rep [(.ref x0_)] .null 1)
  have vc3 := f2
  obtain ⟨cl3, Ar3, qk3, S3, Nn3, Hs3, Gf3⟩ := vc3
  have hin3 : ¬ ((1 : Int32) < 0 ∨ cl3.slots.size ≤ ((1 : Int32)).toNatClampNeg) := inb_of S3 ⟨by decide, by decide⟩
  obtain ⟨T4, h4, X4, e4, W4, st4⟩ := stR X0 hx hZ e0 Ar3 (j := (1 : Int32)) hin3 rfl (Sto.ofV Ar3 qk3 Ov (Ins.of_exa Ex (oW hw 272 rfl))) (g := (mkF m 14 #[vR (a1), vR (x1_), vR (a2), vI ((1 : Int32))] [(.ref x1_), (.int (1 : Int32)), (.ref a2)])) rfl rfl (hb hby d32_14)
  have f5 := Ea.wr W4
  have f6 := Fm.other W4 (Or.inl hne)
  have f7 := Fe.other W4 (Or.inl hne)
  have f8 := Fs.other W4 (Or.inl hne)
  have K4 : Keep h0 h4 [a1, a2] := (Keep.refl h0 [a1, a2]).wr W4 (Or.inl (List.mem_of_getElem? (i := 1) rfl))
  have N4 := Fr.snoc X4 N0 gb
  have f11 : Arv Z h4 a2 k2 (.object "java/lang/Object") (10 : Int32) [(.ref x0_), (.ref x1_)] .null := Arv.set Ar3 qk3 S3 Nn3 Hs3 Gf3 rfl W4 1 rfl (Nat.le_of_ble_eq_true rfl)
  obtain ⟨T12, h12, X12, e12, W12, st12⟩ := putF X4 hx hZ hown (host := "") (Or.inl (oW hw 73 rfl)) Via.refl e4 f8 f5 (Or.inl (oW hw 74 rfl)) (oW hw 7 rfl) (ty := .int) (by decide) rfl rfl (g := (mkF m 19 #[vR (a1), vR (x1_), vR (a2), vI ((1 : Int32))] [(.int ((1 : Int32) + (1 : Int32))), (.ref a1)])) rfl rfl (hb hby d32_19)
  have f14 := f6.other W12 (Or.inr (slot_ne (Or.inl (oW hw 28 rfl)) (Or.inl (oW hw 74 rfl)) (by decide) (t := .int) (t' := .int) (by decide) (by decide)))
  have f15 := f7.other W12 (Or.inr (slot_ne (Or.inl (oW hw 31 rfl)) (Or.inl (oW hw 74 rfl)) (by decide) (t := (.array (.object "java/lang/Object"))) (t' := .int) (by decide) (by decide)))
  have f17 := f11.other W12 (Ne.symm hne)
  have K12 : Keep h0 h12 [a1, a2] := K4.wr W12 (Or.inl (List.mem_of_getElem? (i := 0) rfl))
  have N12 := Fr.snoc X12 N4 ga
  have f19 := f8.same W12
  obtain ⟨fs, hr, hrun, hended, hW, hsame⟩ := X12.leave (v := none) (fun _ => rfl)
  refine ⟨_, _, pre0 _ ?_, hrun, hended, _, _, rfl, ?_, ⟨_, rfl⟩, hW, hsame.mono (by decide) (by decide)⟩
  · show own_St p e below s₁ m 0 #[vR (a1), vR (x1_), vR (a2), vI ((1 : Int32))] [] _
    refine XS.iloadN X0.here hx rfl (hb hby d32_0) rfl ?_
    refine XS.aloadN X0.here hx rfl (hb hby d32_1) rfl rfl ?_
    show own_St p e below s₁ m 2 #[vR (a1), vR (x1_), vR (a2), vI ((1 : Int32))] [(.ref a2), (.int (1 : Int32))] _
    refine X0.arraylength hx (by rw [e0]; exact Ar1.1) (State.isArrayOf_alike hZ.alike Ar1.2.1) (g := (mkF m 2 #[vR (a1), vR (x1_), vR (a2), vI ((1 : Int32))] [(.ref a2), (.int (1 : Int32))])) rfl rfl (hb hby d32_2) _ ?_
    rw [len_of S1 Nn1]
    show own_St p e below s₁ m 3 #[vR (a1), vR (x1_), vR (a2), vI ((1 : Int32))] [(.int (10 : Int32)), (.int (1 : Int32))] _
    refine XS.icmpYes X0.here hx rfl (pc0 := 3) (pc' := 11) rfl (hb hby d32_3) rfl (feq (by decide : ¬ ((1 : Int32) = (10 : Int32)))).2 (by decide) (by decide) ?_
    refine XS.aloadN X0.here hx rfl (hb hby d32_11) rfl rfl ?_
    refine XS.iloadN X0.here hx rfl (hb hby d32_12) rfl ?_
    refine XS.aloadN X0.here hx rfl (hb hby d32_13) rfl rfl ?_
    refine st4 _ ?_
    show own_St p e below T4 m 15 #[vR (a1), vR (x1_), vR (a2), vI ((1 : Int32))] [] _
    refine XS.aloadN X4.here hx rfl (hb hby d32_15) rfl rfl ?_
    refine XS.iloadN X4.here hx rfl (hb hby d32_16) rfl ?_
    refine XS.iconst X4.here hx rfl (hb hby d32_17) ?_
    refine XS.iadd X4.here hx rfl (hb hby d32_18) rfl ?_
    refine st12 _ ?_
    show own_St p e below T12 m 22 #[vR (a1), vR (x1_), vR (a2), vI ((1 : Int32))] [] _
    exact X12.returnOut hx Bd.returns (hb hby d32_22) hr
  · show own_Qal2 Z a1 a2 k2 (none) m1 x0_ x1_ h0 n0 _ T12.heap _
    rw [e12]
    exact ⟨rfl, N12, K12, f14, f15, f19, f17⟩
theorem r_add1 (l Z a0) (hw : own_HW a0 Z) (ws s_D s_L s_LE s_E s_Z mr kd_ kl_ h0 n0) (O0 : Old Z n0 h0) (G : own_Ctx Z Z.heap s_D s_L s_LE s_E s_Z mr kd_ kl_) (a1 : Addr) (m1 : Int32) (a2 : Addr) (k2 : ClassId) (x0_ : Addr) (x1_ : Addr) (Ea : Exa Z h0 a1 "java/util/ArrayList") (Fm : Fld Z h0 a1 "java/util/AbstractList" "modCount" "I" (.int m1)) (Fe : Fld Z h0 a1 "java/util/ArrayList" "elementData" "[Ljava/lang/Object;" (.ref a2)) (Fs : Fld Z h0 a1 "java/util/ArrayList" "size" "I" (.int (1 : Int32))) (Ed : Exa Z h0 a2 "[Ljava/lang/Object;") (Vd : Arv Z h0 a2 k2 (.object "java/lang/Object") (10 : Int32) [(.ref x0_)] .null) (Ov : Ovr Z k2 "java/lang/Object") (ga : n0 ≤ a1) (Ex : Exa Z h0 x1_ "com/example/hodos/hodos/analysis/Course$Arc") (gb : n0 ≤ a2) (hne : a1 ≠ a2) :
    oM l Y7_ jdk_38_method_25_code 2 (some .boolean) ws (own_rm_ 1 0 0 15) #[(.ref a1), (.ref x1_)] Z h0 n0 (own_Qal2 Z a1 a2 k2 (some (.int (1 : Int32))) (m1 + (1 : Int32)) x0_ x1_) := by
  have G0 := G
  refine MetFree.of_bodySF (plainFor_of_name pn_2) hisR ?_
  intro p e s m args below meth c s₁ Bd hml0 hP hK
  obtain ⟨rfl, hZ, hh⟩ := hP
  have hx := Bd.exec
  have hby := Bd.bytes
  have hml : c.maxLocals = 2 := hml0
  have hown := findClass_of_methodNamed Bd.named
  have X0 : Stand p l e (own_rm_ 1 0 0 15) s m #[(.ref a1), (.ref x1_)] below meth c s₁ [] 0 0 := Stand.of_body Bd
  have e0 : s₁.heap = h0 := by rw [← hh, Bd.state]; rfl
  have N0 := Fr.nil n0
  have pre0 := own_pre (tb := p.tables) (e := e) (below := below) (T := s₁) (ef_31_7 m a1 x1_)
  obtain ⟨T1, X1, e1, st1⟩ := getF X0 hx hZ hown (host := "") (Or.inl (oW hw 250 rfl)) (Via.of (oW hw 251 rfl)) e0 Fm (g := (mkF m 2 #[vR (a1), vR (x1_)] [(.ref a1), (.ref a1)])) rfl rfl (hb hby d31_2)
  obtain ⟨T2, h2, X2, e2, W2, st2⟩ := putF X1 hx hZ hown (host := "") (Or.inl (oW hw 250 rfl)) (Via.of (oW hw 251 rfl)) e1 Fm Ea (Or.inl (oW hw 28 rfl)) (oW hw 7 rfl) (ty := .int) (by decide) rfl rfl (g := (mkF m 7 #[vR (a1), vR (x1_)] [(.int (m1 + (1 : Int32))), (.ref a1)])) rfl rfl (hb hby d31_7)
  have f3 := Ea.wr W2
  have f4 := Fe.other W2 (Or.inr (slot_ne (Or.inl (oW hw 31 rfl)) (Or.inl (oW hw 28 rfl)) (by decide) (t := (.array (.object "java/lang/Object"))) (t' := .int) (by decide) (by decide)))
  have f5 := Fs.other W2 (Or.inr (slot_ne (Or.inl (oW hw 74 rfl)) (Or.inl (oW hw 28 rfl)) (by decide) (t := .int) (t' := .int) (by decide) (by decide)))
  have f6 := Ed.wr W2
  have f7 := Vd.other W2 (Ne.symm hne)
  have f8 := Ex.wr W2
  have O2 := O0.wr W2 ga
  have K2 : Keep h0 h2 [a1, a2] := (Keep.refl h0 [a1, a2]).wr W2 (Or.inl (List.mem_of_getElem? (i := 0) rfl))
  have N2 := Fr.snoc X2 N0 ga
  have f9 := Fm.same W2
  obtain ⟨T10, X10, e10, st10⟩ := getF X2 hx hZ hown (host := "") (Or.inl (oW hw 30 rfl)) Via.refl e2 f4 (g := (mkF m 13 #[vR (a1), vR (x1_)] [(.ref a1), (.ref x1_), (.ref a1)])) rfl rfl (hb hby d31_13)
  obtain ⟨T11, X11, e11, st11⟩ := getF X10 hx hZ hown (host := "") (Or.inl (oW hw 73 rfl)) Via.refl e10 f5 (g := (mkF m 17 #[vR (a1), vR (x1_)] [(.ref a1), (.ref a2), (.ref x1_), (.ref a1)])) rfl rfl (hb hby d31_17)
  obtain ⟨LL12, X12, N12⟩ : ∃ LL, Stand p l e (own_rm_ 1 0 0 15) s m #[(.ref a1), (.ref x1_)] below meth c T11 LL 0 0 ∧ Fr n0 LL := ⟨_, X11, N2⟩
  obtain ⟨cq13, q13, q13'⟩ := f3.cell
  obtain ⟨_, _, ⟨T13, L13, k13, n13⟩, -, X13, ⟨Lc13, hQ13, l13, y13, z13⟩, st13⟩ := X12.privateBack hx (y := Y6_) hown (mvT hZ (oW hw 252 rfl)) (mvT hZ (oW hw 253 rfl)) (mvT hZ (oW hw 255 rfl)) (Cond.privateMethod_at (mvP hZ (oW hw 254 rfl) (args := #[]))) (mvT hZ (oW hw 256 rfl)) (by decide) (backOf (W := 0) (r_at1 l Z a0 hw [] s_D s_L s_LE s_E s_Z mr kd_ kl_ h2 n0 O2 G0 a1 (m1 + (1 : Int32)) a2 k2 x0_ x1_ f3 f9 f4 f5 f6 f7 Ov ga f8 gb hne) hZ (oW hw 256 rfl) (oW hw 8 rfl) (by decide) (by decide)) (g := (mkF m 20 #[vR (a1), vR (x1_)] [(.int (1 : Int32)), (.ref a2), (.ref x1_), (.ref a1)])) rfl (by rw [hml]; rfl) (Steps.refl _) (a := a1) (by rw [e11]; exact q13) q13' (argsL := [(.ref x1_), (.ref a2), (.int (1 : Int32))]) (rest := []) (lenOf pd_4 rfl) rfl (by exact Nat.le_of_eq rfl) (hb hby d31_20) (fun _ _ => ⟨rfl, e11, (by decide : 0 + 0 ≤ _), (by decide : 0 + 0 ≤ _)⟩)
  dsimp only [Pt.U, Pt.locs, Pt.cells, Pt.slots] at X13 l13 y13 z13 st13 hQ13
  subst l13 y13 z13
  obtain ⟨rfl, N13q, Kq13, Fm13, Fe13, Fs13, Vt13⟩ := hQ13
  have N13 := Fr.app N12 N13q
  have K13 : Keep h0 T13.heap [a1, a2] := K2.trans Kq13 (allS (Or.inl (List.mem_of_getElem? (i := 0) rfl)) (allS (Or.inl (List.mem_of_getElem? (i := 1) rfl)) all0))
  obtain ⟨fs, hr, hrun, hended, hW, hsame⟩ := X13.leave (v := some (.int (1 : Int32))) (oR Bd.returns)
  refine ⟨_, _, pre0 _ ?_, hrun, hended, _, _, rfl, ?_, ⟨_, rfl⟩, hW, hsame.mono (by decide) (by decide)⟩
  · show own_St p e below s₁ m 0 #[vR (a1), vR (x1_)] [] _
    refine XS.aloadN X0.here hx rfl (hb hby d31_0) rfl rfl ?_
    refine XS.dup X0.here hx rfl (hb hby d31_1) rfl rfl ?_
    refine st1 _ ?_
    show own_St p e below T1 m 5 #[vR (a1), vR (x1_)] [(.int m1), (.ref a1)] _
    refine XS.iconst X1.here hx rfl (hb hby d31_5) ?_
    refine XS.iadd X1.here hx rfl (hb hby d31_6) rfl ?_
    refine st2 _ ?_
    show own_St p e below T2 m 10 #[vR (a1), vR (x1_)] [] _
    refine XS.aloadN X2.here hx rfl (hb hby d31_10) rfl rfl ?_
    refine XS.aloadN X2.here hx rfl (hb hby d31_11) rfl rfl ?_
    refine XS.aloadN X2.here hx rfl (hb hby d31_12) rfl rfl ?_
    refine st10 _ ?_
    show own_St p e below T10 m 16 #[vR (a1), vR (x1_)] [(.ref a2), (.ref x1_), (.ref a1)] _
    refine XS.aloadN X10.here hx rfl (hb hby d31_16) rfl rfl ?_
    refine st11 _ ?_
    refine st13.trans ?_
    show own_St p e below T13 m 23 #[vR (a1), vR (x1_)] [] _
    refine XS.iconst X13.here hx rfl (hb hby d31_23) ?_
    show own_St p e below T13 m 24 #[vR (a1), vR (x1_)] [(.int (1 : Int32))] _
    exact retN X13 hx (t := .boolean) Bd.returns (by simp) (hb hby d31_24) hr
  · show own_Qal2 Z a1 a2 k2 (some (.int (1 : Int32))) (m1 + (1 : Int32)) x0_ x1_ h0 n0 _ T13.heap _
    exact ⟨rfl, N13, K13, Fm13, Fe13, Fs13, Vt13⟩
theorem r_at2 (l Z a0) (hw : own_HW a0 Z) (ws s_D s_L s_LE s_E s_Z mr kd_ kl_ h0 n0) (O0 : Old Z n0 h0) (G : own_Ctx Z Z.heap s_D s_L s_LE s_E s_Z mr kd_ kl_) (a1 : Addr) (m1 : Int32) (a2 : Addr) (k2 : ClassId) (x0_ x1_ : Addr) (x2_ : Addr) (Ea : Exa Z h0 a1 "java/util/ArrayList") (Fm : Fld Z h0 a1 "java/util/AbstractList" "modCount" "I" (.int m1)) (Fe : Fld Z h0 a1 "java/util/ArrayList" "elementData" "[Ljava/lang/Object;" (.ref a2)) (Fs : Fld Z h0 a1 "java/util/ArrayList" "size" "I" (.int (2 : Int32))) (Ed : Exa Z h0 a2 "[Ljava/lang/Object;") (Vd : Arv Z h0 a2 k2 (.object "java/lang/Object") (10 : Int32) [(.ref x0_), (.ref x1_)] .null) (Ov : Ovr Z k2 "java/lang/Object") (ga : n0 ≤ a1) (Ex : Exa Z h0 x2_ "com/example/hodos/hodos/analysis/Course$Arc") (gb : n0 ≤ a2) (hne : a1 ≠ a2) :
    oM l Y6_ jdk_38_method_24_code 4 none ws (own_rm_ 0 0 0 0) #[(.ref a1), (.ref x2_), (.ref a2), (.int (2 : Int32))] Z h0 n0 (own_Qal3 Z a1 a2 k2 (none) m1 x0_ x1_ x2_) := by
  have G0 := G
  refine MetFree.of_bodySF (plainFor_of_name pn_2) hisR ?_
  intro p e s m args below meth c s₁ Bd hml0 hP hK
  obtain ⟨rfl, hZ, hh⟩ := hP
  have hx := Bd.exec
  have hby := Bd.bytes
  have hml : c.maxLocals = 4 := hml0
  have hown := findClass_of_methodNamed Bd.named
  have X0 : Stand p l e (own_rm_ 0 0 0 0) s m #[(.ref a1), (.ref x2_), (.ref a2), (.int (2 : Int32))] below meth c s₁ [] 0 0 := Stand.of_body Bd
  have e0 : s₁.heap = h0 := by rw [← hh, Bd.state]; rfl
  have N0 := Fr.nil n0
  have pre0 := own_pre (tb := p.tables) (e := e) (below := below) (T := s₁) (ef_32_6 m a1 x2_ a2 (2 : Int32))
  have vc1 := Vd
  obtain ⟨cl1, Ar1, qk1, S1, Nn1, Hs1, Gf1⟩ := vc1
  have f2 : Arv Z h0 a2 k2 (.object "java/lang/Object") (10 : Int32) [(.ref x0_), (.ref x1_), .null] .null := Vd.pad (pad_rep [(.ref x0_), (.ref x1_)] .null 1)
  have vc3 := f2
  obtain ⟨cl3, Ar3, qk3, S3, Nn3, Hs3, Gf3⟩ := vc3
  have hin3 : ¬ ((2 : Int32) < 0 ∨ cl3.slots.size ≤ ((2 : Int32)).toNatClampNeg) := inb_of S3 ⟨by decide, by decide⟩
  obtain ⟨T4, h4, X4, e4, W4, st4⟩ := stR X0 hx hZ e0 Ar3 (j := (2 : Int32)) hin3 rfl (Sto.ofV Ar3 qk3 Ov (Ins.of_exa Ex (oW hw 272 rfl))) (g := (mkF m 14 #[vR (a1), vR (x2_), vR (a2), vI ((2 : Int32))] [(.ref x2_), (.int (2 : Int32)), (.ref a2)])) rfl rfl (hb hby d32_14)
  have f5 := Ea.wr W4
  have f6 := Fm.other W4 (Or.inl hne)
  have f7 := Fe.other W4 (Or.inl hne)
  have f8 := Fs.other W4 (Or.inl hne)
  have K4 : Keep h0 h4 [a1, a2] := (Keep.refl h0 [a1, a2]).wr W4 (Or.inl (List.mem_of_getElem? (i := 1) rfl))
  have N4 := Fr.snoc X4 N0 gb
  have f11 : Arv Z h4 a2 k2 (.object "java/lang/Object") (10 : Int32) [(.ref x0_), (.ref x1_), (.ref x2_)] .null := Arv.set Ar3 qk3 S3 Nn3 Hs3 Gf3 rfl W4 2 rfl (Nat.le_of_ble_eq_true rfl)
  obtain ⟨T12, h12, X12, e12, W12, st12⟩ := putF X4 hx hZ hown (host := "") (Or.inl (oW hw 73 rfl)) Via.refl e4 f8 f5 (Or.inl (oW hw 74 rfl)) (oW hw 7 rfl) (ty := .int) (by decide) rfl rfl (g := (mkF m 19 #[vR (a1), vR (x2_), vR (a2), vI ((2 : Int32))] [(.int ((2 : Int32) + (1 : Int32))), (.ref a1)])) rfl rfl (hb hby d32_19)
  have f14 := f6.other W12 (Or.inr (slot_ne (Or.inl (oW hw 28 rfl)) (Or.inl (oW hw 74 rfl)) (by decide) (t := .int) (t' := .int) (by decide) (by decide)))
  have f15 := f7.other W12 (Or.inr (slot_ne (Or.inl (oW hw 31 rfl)) (Or.inl (oW hw 74 rfl)) (by decide) (t := (.array (.object "java/lang/Object"))) (t' := .int) (by decide) (by decide)))
  have f17 := f11.other W12 (Ne.symm hne)
  have K12 : Keep h0 h12 [a1, a2] := K4.wr W12 (Or.inl (List.mem_of_getElem? (i := 0) rfl))
  have N12 := Fr.snoc X12 N4 ga
  have f19 := f8.same W12
  obtain ⟨fs, hr, hrun, hended, hW, hsame⟩ := X12.leave (v := none) (fun _ => rfl)
  refine ⟨_, _, pre0 _ ?_, hrun, hended, _, _, rfl, ?_, ⟨_, rfl⟩, hW, hsame.mono (by decide) (by decide)⟩
  · show own_St p e below s₁ m 0 #[vR (a1), vR (x2_), vR (a2), vI ((2 : Int32))] [] _
    refine XS.iloadN X0.here hx rfl (hb hby d32_0) rfl ?_
    refine XS.aloadN X0.here hx rfl (hb hby d32_1) rfl rfl ?_
    show own_St p e below s₁ m 2 #[vR (a1), vR (x2_), vR (a2), vI ((2 : Int32))] [(.ref a2), (.int (2 : Int32))] _
    refine X0.arraylength hx (by rw [e0]; exact Ar1.1) (State.isArrayOf_alike hZ.alike Ar1.2.1) (g := (mkF m 2 #[vR (a1), vR (x2_), vR (a2), vI ((2 : Int32))] [(.ref a2), (.int (2 : Int32))])) rfl rfl (hb hby d32_2) _ ?_
    rw [len_of S1 Nn1]
    show own_St p e below s₁ m 3 #[vR (a1), vR (x2_), vR (a2), vI ((2 : Int32))] [(.int (10 : Int32)), (.int (2 : Int32))] _
    refine XS.icmpYes X0.here hx rfl (pc0 := 3) (pc' := 11) rfl (hb hby d32_3) rfl (feq (by decide : ¬ ((2 : Int32) = (10 : Int32)))).2 (by decide) (by decide) ?_
    refine XS.aloadN X0.here hx rfl (hb hby d32_11) rfl rfl ?_
    refine XS.iloadN X0.here hx rfl (hb hby d32_12) rfl ?_
    refine XS.aloadN X0.here hx rfl (hb hby d32_13) rfl rfl ?_
    refine st4 _ ?_
    show own_St p e below T4 m 15 #[vR (a1), vR (x2_), vR (a2), vI ((2 : Int32))] [] _
    refine XS.aloadN X4.here hx rfl (hb hby d32_15) rfl rfl ?_
    refine XS.iloadN X4.here hx rfl (hb hby d32_16) rfl ?_
    refine XS.iconst X4.here hx rfl (hb hby d32_17) ?_
    refine XS.iadd X4.here hx rfl (hb hby d32_18) rfl ?_
    refine st12 _ ?_
    show own_St p e below T12 m 22 #[vR (a1), vR (x2_), vR (a2), vI ((2 : Int32))] [] _
    exact X12.returnOut hx Bd.returns (hb hby d32_22) hr
  · show own_Qal3 Z a1 a2 k2 (none) m1 x0_ x1_ x2_ h0 n0 _ T12.heap _
    rw [e12]
    exact ⟨rfl, N12, K12, f14, f15, f19, f17⟩
theorem r_add2 (l Z a0) (hw : own_HW a0 Z) (ws s_D s_L s_LE s_E s_Z mr kd_ kl_ h0 n0) (O0 : Old Z n0 h0) (G : own_Ctx Z Z.heap s_D s_L s_LE s_E s_Z mr kd_ kl_) (a1 : Addr) (m1 : Int32) (a2 : Addr) (k2 : ClassId) (x0_ x1_ : Addr) (x2_ : Addr) (Ea : Exa Z h0 a1 "java/util/ArrayList") (Fm : Fld Z h0 a1 "java/util/AbstractList" "modCount" "I" (.int m1)) (Fe : Fld Z h0 a1 "java/util/ArrayList" "elementData" "[Ljava/lang/Object;" (.ref a2)) (Fs : Fld Z h0 a1 "java/util/ArrayList" "size" "I" (.int (2 : Int32))) (Ed : Exa Z h0 a2 "[Ljava/lang/Object;") (Vd : Arv Z h0 a2 k2 (.object "java/lang/Object") (10 : Int32) [(.ref x0_), (.ref x1_)] .null) (Ov : Ovr Z k2 "java/lang/Object") (ga : n0 ≤ a1) (Ex : Exa Z h0 x2_ "com/example/hodos/hodos/analysis/Course$Arc") (gb : n0 ≤ a2) (hne : a1 ≠ a2) :
    oM l Y7_ jdk_38_method_25_code 2 (some .boolean) ws (own_rm_ 1 0 0 15) #[(.ref a1), (.ref x2_)] Z h0 n0 (own_Qal3 Z a1 a2 k2 (some (.int (1 : Int32))) (m1 + (1 : Int32)) x0_ x1_ x2_) := by
  have G0 := G
  refine MetFree.of_bodySF (plainFor_of_name pn_2) hisR ?_
  intro p e s m args below meth c s₁ Bd hml0 hP hK
  obtain ⟨rfl, hZ, hh⟩ := hP
  have hx := Bd.exec
  have hby := Bd.bytes
  have hml : c.maxLocals = 2 := hml0
  have hown := findClass_of_methodNamed Bd.named
  have X0 : Stand p l e (own_rm_ 1 0 0 15) s m #[(.ref a1), (.ref x2_)] below meth c s₁ [] 0 0 := Stand.of_body Bd
  have e0 : s₁.heap = h0 := by rw [← hh, Bd.state]; rfl
  have N0 := Fr.nil n0
  have pre0 := own_pre (tb := p.tables) (e := e) (below := below) (T := s₁) (ef_31_7 m a1 x2_)
  obtain ⟨T1, X1, e1, st1⟩ := getF X0 hx hZ hown (host := "") (Or.inl (oW hw 250 rfl)) (Via.of (oW hw 251 rfl)) e0 Fm (g := (mkF m 2 #[vR (a1), vR (x2_)] [(.ref a1), (.ref a1)])) rfl rfl (hb hby d31_2)
  obtain ⟨T2, h2, X2, e2, W2, st2⟩ := putF X1 hx hZ hown (host := "") (Or.inl (oW hw 250 rfl)) (Via.of (oW hw 251 rfl)) e1 Fm Ea (Or.inl (oW hw 28 rfl)) (oW hw 7 rfl) (ty := .int) (by decide) rfl rfl (g := (mkF m 7 #[vR (a1), vR (x2_)] [(.int (m1 + (1 : Int32))), (.ref a1)])) rfl rfl (hb hby d31_7)
  have f3 := Ea.wr W2
  have f4 := Fe.other W2 (Or.inr (slot_ne (Or.inl (oW hw 31 rfl)) (Or.inl (oW hw 28 rfl)) (by decide) (t := (.array (.object "java/lang/Object"))) (t' := .int) (by decide) (by decide)))
  have f5 := Fs.other W2 (Or.inr (slot_ne (Or.inl (oW hw 74 rfl)) (Or.inl (oW hw 28 rfl)) (by decide) (t := .int) (t' := .int) (by decide) (by decide)))
  have f6 := Ed.wr W2
  have f7 := Vd.other W2 (Ne.symm hne)
  have f8 := Ex.wr W2
  have O2 := O0.wr W2 ga
  have K2 : Keep h0 h2 [a1, a2] := (Keep.refl h0 [a1, a2]).wr W2 (Or.inl (List.mem_of_getElem? (i := 0) rfl))
  have N2 := Fr.snoc X2 N0 ga
  have f9 := Fm.same W2
  obtain ⟨T10, X10, e10, st10⟩ := getF X2 hx hZ hown (host := "") (Or.inl (oW hw 30 rfl)) Via.refl e2 f4 (g := (mkF m 13 #[vR (a1), vR (x2_)] [(.ref a1), (.ref x2_), (.ref a1)])) rfl rfl (hb hby d31_13)
  obtain ⟨T11, X11, e11, st11⟩ := getF X10 hx hZ hown (host := "") (Or.inl (oW hw 73 rfl)) Via.refl e10 f5 (g := (mkF m 17 #[vR (a1), vR (x2_)] [(.ref a1), (.ref a2), (.ref x2_), (.ref a1)])) rfl rfl (hb hby d31_17)
  obtain ⟨LL12, X12, N12⟩ : ∃ LL, Stand p l e (own_rm_ 1 0 0 15) s m #[(.ref a1), (.ref x2_)] below meth c T11 LL 0 0 ∧ Fr n0 LL := ⟨_, X11, N2⟩
  obtain ⟨cq13, q13, q13'⟩ := f3.cell
  obtain ⟨_, _, ⟨T13, L13, k13, n13⟩, -, X13, ⟨Lc13, hQ13, l13, y13, z13⟩, st13⟩ := X12.privateBack hx (y := Y6_) hown (mvT hZ (oW hw 252 rfl)) (mvT hZ (oW hw 253 rfl)) (mvT hZ (oW hw 255 rfl)) (Cond.privateMethod_at (mvP hZ (oW hw 254 rfl) (args := #[]))) (mvT hZ (oW hw 256 rfl)) (by decide) (backOf (W := 0) (r_at2 l Z a0 hw [] s_D s_L s_LE s_E s_Z mr kd_ kl_ h2 n0 O2 G0 a1 (m1 + (1 : Int32)) a2 k2 x0_ x1_ x2_ f3 f9 f4 f5 f6 f7 Ov ga f8 gb hne) hZ (oW hw 256 rfl) (oW hw 8 rfl) (by decide) (by decide)) (g := (mkF m 20 #[vR (a1), vR (x2_)] [(.int (2 : Int32)), (.ref a2), (.ref x2_), (.ref a1)])) rfl (by rw [hml]; rfl) (Steps.refl _) (a := a1) (by rw [e11]; exact q13) q13' (argsL := [(.ref x2_), (.ref a2), (.int (2 : Int32))]) (rest := []) (lenOf pd_4 rfl) rfl (by exact Nat.le_of_eq rfl) (hb hby d31_20) (fun _ _ => ⟨rfl, e11, (by decide : 0 + 0 ≤ _), (by decide : 0 + 0 ≤ _)⟩)
  dsimp only [Pt.U, Pt.locs, Pt.cells, Pt.slots] at X13 l13 y13 z13 st13 hQ13
  subst l13 y13 z13
  obtain ⟨rfl, N13q, Kq13, Fm13, Fe13, Fs13, Vt13⟩ := hQ13
  have N13 := Fr.app N12 N13q
  have K13 : Keep h0 T13.heap [a1, a2] := K2.trans Kq13 (allS (Or.inl (List.mem_of_getElem? (i := 0) rfl)) (allS (Or.inl (List.mem_of_getElem? (i := 1) rfl)) all0))
  obtain ⟨fs, hr, hrun, hended, hW, hsame⟩ := X13.leave (v := some (.int (1 : Int32))) (oR Bd.returns)
  refine ⟨_, _, pre0 _ ?_, hrun, hended, _, _, rfl, ?_, ⟨_, rfl⟩, hW, hsame.mono (by decide) (by decide)⟩
  · show own_St p e below s₁ m 0 #[vR (a1), vR (x2_)] [] _
    refine XS.aloadN X0.here hx rfl (hb hby d31_0) rfl rfl ?_
    refine XS.dup X0.here hx rfl (hb hby d31_1) rfl rfl ?_
    refine st1 _ ?_
    show own_St p e below T1 m 5 #[vR (a1), vR (x2_)] [(.int m1), (.ref a1)] _
    refine XS.iconst X1.here hx rfl (hb hby d31_5) ?_
    refine XS.iadd X1.here hx rfl (hb hby d31_6) rfl ?_
    refine st2 _ ?_
    show own_St p e below T2 m 10 #[vR (a1), vR (x2_)] [] _
    refine XS.aloadN X2.here hx rfl (hb hby d31_10) rfl rfl ?_
    refine XS.aloadN X2.here hx rfl (hb hby d31_11) rfl rfl ?_
    refine XS.aloadN X2.here hx rfl (hb hby d31_12) rfl rfl ?_
    refine st10 _ ?_
    show own_St p e below T10 m 16 #[vR (a1), vR (x2_)] [(.ref a2), (.ref x2_), (.ref a1)] _
    refine XS.aloadN X10.here hx rfl (hb hby d31_16) rfl rfl ?_
    refine st11 _ ?_
    refine st13.trans ?_
    show own_St p e below T13 m 23 #[vR (a1), vR (x2_)] [] _
    refine XS.iconst X13.here hx rfl (hb hby d31_23) ?_
    show own_St p e below T13 m 24 #[vR (a1), vR (x2_)] [(.int (1 : Int32))] _
    exact retN X13 hx (t := .boolean) Bd.returns (by simp) (hb hby d31_24) hr
  · show own_Qal3 Z a1 a2 k2 (some (.int (1 : Int32))) (m1 + (1 : Int32)) x0_ x1_ x2_ h0 n0 _ T13.heap _
    exact ⟨rfl, N13, K13, Fm13, Fe13, Fs13, Vt13⟩
theorem r_at3 (l Z a0) (hw : own_HW a0 Z) (ws s_D s_L s_LE s_E s_Z mr kd_ kl_ h0 n0) (O0 : Old Z n0 h0) (G : own_Ctx Z Z.heap s_D s_L s_LE s_E s_Z mr kd_ kl_) (a1 : Addr) (m1 : Int32) (a2 : Addr) (k2 : ClassId) (x0_ x1_ x2_ : Addr) (x3_ : Addr) (Ea : Exa Z h0 a1 "java/util/ArrayList") (Fm : Fld Z h0 a1 "java/util/AbstractList" "modCount" "I" (.int m1)) (Fe : Fld Z h0 a1 "java/util/ArrayList" "elementData" "[Ljava/lang/Object;" (.ref a2)) (Fs : Fld Z h0 a1 "java/util/ArrayList" "size" "I" (.int (3 : Int32))) (Ed : Exa Z h0 a2 "[Ljava/lang/Object;") (Vd : Arv Z h0 a2 k2 (.object "java/lang/Object") (10 : Int32) [(.ref x0_), (.ref x1_), (.ref x2_)] .null) (Ov : Ovr Z k2 "java/lang/Object") (ga : n0 ≤ a1) (Ex : Exa Z h0 x3_ "com/example/hodos/hodos/analysis/Course$Arc") (gb : n0 ≤ a2) (hne : a1 ≠ a2) :
    oM l Y6_ jdk_38_method_24_code 4 none ws (own_rm_ 0 0 0 0) #[(.ref a1), (.ref x3_), (.ref a2), (.int (3 : Int32))] Z h0 n0 (own_Qal4 Z a1 a2 k2 (none) m1 x0_ x1_ x2_ x3_) := by
  have G0 := G
  refine MetFree.of_bodySF (plainFor_of_name pn_2) hisR ?_
  intro p e s m args below meth c s₁ Bd hml0 hP hK
  obtain ⟨rfl, hZ, hh⟩ := hP
  have hx := Bd.exec
  have hby := Bd.bytes
  have hml : c.maxLocals = 4 := hml0
  have hown := findClass_of_methodNamed Bd.named
  have X0 : Stand p l e (own_rm_ 0 0 0 0) s m #[(.ref a1), (.ref x3_), (.ref a2), (.int (3 : Int32))] below meth c s₁ [] 0 0 := Stand.of_body Bd
  have e0 : s₁.heap = h0 := by rw [← hh, Bd.state]; rfl
  have N0 := Fr.nil n0
  have pre0 := own_pre (tb := p.tables) (e := e) (below := below) (T := s₁) (ef_32_6 m a1 x3_ a2 (3 : Int32))
  have vc1 := Vd
  obtain ⟨cl1, Ar1, qk1, S1, Nn1, Hs1, Gf1⟩ := vc1
  have f2 : Arv Z h0 a2 k2 (.object "java/lang/Object") (10 : Int32) [(.ref x0_), (.ref x1_), (.ref x2_), .null] .null := Vd.pad (pad_rep [(.ref x0_), (.ref x1_), (.ref x2_)] .null 1)
  have vc3 := f2
  obtain ⟨cl3, Ar3, qk3, S3, Nn3, Hs3, Gf3⟩ := vc3
  have hin3 : ¬ ((3 : Int32) < 0 ∨ cl3.slots.size ≤ ((3 : Int32)).toNatClampNeg) := inb_of S3 ⟨by decide, by decide⟩
  obtain ⟨T4, h4, X4, e4, W4, st4⟩ := stR X0 hx hZ e0 Ar3 (j := (3 : Int32)) hin3 rfl (Sto.ofV Ar3 qk3 Ov (Ins.of_exa Ex (oW hw 272 rfl))) (g := (mkF m 14 #[vR (a1), vR (x3_), vR (a2), vI ((3 : Int32))] [(.ref x3_), (.int (3 : Int32)), (.ref a2)])) rfl rfl (hb hby d32_14)
  have f5 := Ea.wr W4
  have f6 := Fm.other W4 (Or.inl hne)
  have f7 := Fe.other W4 (Or.inl hne)
  have f8 := Fs.other W4 (Or.inl hne)
  have K4 : Keep h0 h4 [a1, a2] := (Keep.refl h0 [a1, a2]).wr W4 (Or.inl (List.mem_of_getElem? (i := 1) rfl))
  have N4 := Fr.snoc X4 N0 gb
  have f11 : Arv Z h4 a2 k2 (.object "java/lang/Object") (10 : Int32) [(.ref x0_), (.ref x1_), (.ref x2_), (.ref x3_)] .null := Arv.set Ar3 qk3 S3 Nn3 Hs3 Gf3 rfl W4 3 rfl (Nat.le_of_ble_eq_true rfl)
  obtain ⟨T12, h12, X12, e12, W12, st12⟩ := putF X4 hx hZ hown (host := "") (Or.inl (oW hw 73 rfl)) Via.refl e4 f8 f5 (Or.inl (oW hw 74 rfl)) (oW hw 7 rfl) (ty := .int) (by decide) rfl rfl (g := (mkF m 19 #[vR (a1), vR (x3_), vR (a2), vI ((3 : Int32))] [(.int ((3 : Int32) + (1 : Int32))), (.ref a1)])) rfl rfl (hb hby d32_19)
  have f14 := f6.other W12 (Or.inr (slot_ne (Or.inl (oW hw 28 rfl)) (Or.inl (oW hw 74 rfl)) (by decide) (t := .int) (t' := .int) (by decide) (by decide)))
  have f15 := f7.other W12 (Or.inr (slot_ne (Or.inl (oW hw 31 rfl)) (Or.inl (oW hw 74 rfl)) (by decide) (t := (.array (.object "java/lang/Object"))) (t' := .int) (by decide) (by decide)))
  have f17 := f11.other W12 (Ne.symm hne)
  have K12 : Keep h0 h12 [a1, a2] := K4.wr W12 (Or.inl (List.mem_of_getElem? (i := 0) rfl))
  have N12 := Fr.snoc X12 N4 ga
  have f19 := f8.same W12
  obtain ⟨fs, hr, hrun, hended, hW, hsame⟩ := X12.leave (v := none) (fun _ => rfl)
  refine ⟨_, _, pre0 _ ?_, hrun, hended, _, _, rfl, ?_, ⟨_, rfl⟩, hW, hsame.mono (by decide) (by decide)⟩
  · show own_St p e below s₁ m 0 #[vR (a1), vR (x3_), vR (a2), vI ((3 : Int32))] [] _
    refine XS.iloadN X0.here hx rfl (hb hby d32_0) rfl ?_
    refine XS.aloadN X0.here hx rfl (hb hby d32_1) rfl rfl ?_
    show own_St p e below s₁ m 2 #[vR (a1), vR (x3_), vR (a2), vI ((3 : Int32))] [(.ref a2), (.int (3 : Int32))] _
    refine X0.arraylength hx (by rw [e0]; exact Ar1.1) (State.isArrayOf_alike hZ.alike Ar1.2.1) (g := (mkF m 2 #[vR (a1), vR (x3_), vR (a2), vI ((3 : Int32))] [(.ref a2), (.int (3 : Int32))])) rfl rfl (hb hby d32_2) _ ?_
    rw [len_of S1 Nn1]
    show own_St p e below s₁ m 3 #[vR (a1), vR (x3_), vR (a2), vI ((3 : Int32))] [(.int (10 : Int32)), (.int (3 : Int32))] _
    refine XS.icmpYes X0.here hx rfl (pc0 := 3) (pc' := 11) rfl (hb hby d32_3) rfl (feq (by decide : ¬ ((3 : Int32) = (10 : Int32)))).2 (by decide) (by decide) ?_
    refine XS.aloadN X0.here hx rfl (hb hby d32_11) rfl rfl ?_
    refine XS.iloadN X0.here hx rfl (hb hby d32_12) rfl ?_
    refine XS.aloadN X0.here hx rfl (hb hby d32_13) rfl rfl ?_
    refine st4 _ ?_
    show own_St p e below T4 m 15 #[vR (a1), vR (x3_), vR (a2), vI ((3 : Int32))] [] _
    refine XS.aloadN X4.here hx rfl (hb hby d32_15) rfl rfl ?_
    refine XS.iloadN X4.here hx rfl (hb hby d32_16) rfl ?_
    refine XS.iconst X4.here hx rfl (hb hby d32_17) ?_
    refine XS.iadd X4.here hx rfl (hb hby d32_18) rfl ?_
    refine st12 _ ?_
    show own_St p e below T12 m 22 #[vR (a1), vR (x3_), vR (a2), vI ((3 : Int32))] [] _
    exact X12.returnOut hx Bd.returns (hb hby d32_22) hr
  · show own_Qal4 Z a1 a2 k2 (none) m1 x0_ x1_ x2_ x3_ h0 n0 _ T12.heap _
    rw [e12]
    exact ⟨rfl, N12, K12, f14, f15, f19, f17⟩
theorem r_add3 (l Z a0) (hw : own_HW a0 Z) (ws s_D s_L s_LE s_E s_Z mr kd_ kl_ h0 n0) (O0 : Old Z n0 h0) (G : own_Ctx Z Z.heap s_D s_L s_LE s_E s_Z mr kd_ kl_) (a1 : Addr) (m1 : Int32) (a2 : Addr) (k2 : ClassId) (x0_ x1_ x2_ : Addr) (x3_ : Addr) (Ea : Exa Z h0 a1 "java/util/ArrayList") (Fm : Fld Z h0 a1 "java/util/AbstractList" "modCount" "I" (.int m1)) (Fe : Fld Z h0 a1 "java/util/ArrayList" "elementData" "[Ljava/lang/Object;" (.ref a2)) (Fs : Fld Z h0 a1 "java/util/ArrayList" "size" "I" (.int (3 : Int32))) (Ed : Exa Z h0 a2 "[Ljava/lang/Object;") (Vd : Arv Z h0 a2 k2 (.object "java/lang/Object") (10 : Int32) [(.ref x0_), (.ref x1_), (.ref x2_)] .null) (Ov : Ovr Z k2 "java/lang/Object") (ga : n0 ≤ a1) (Ex : Exa Z h0 x3_ "com/example/hodos/hodos/analysis/Course$Arc") (gb : n0 ≤ a2) (hne : a1 ≠ a2) :
    oM l Y7_ jdk_38_method_25_code 2 (some .boolean) ws (own_rm_ 1 0 0 15) #[(.ref a1), (.ref x3_)] Z h0 n0 (own_Qal4 Z a1 a2 k2 (some (.int (1 : Int32))) (m1 + (1 : Int32)) x0_ x1_ x2_ x3_) := by
  have G0 := G
  refine MetFree.of_bodySF (plainFor_of_name pn_2) hisR ?_
  intro p e s m args below meth c s₁ Bd hml0 hP hK
  obtain ⟨rfl, hZ, hh⟩ := hP
  have hx := Bd.exec
  have hby := Bd.bytes
  have hml : c.maxLocals = 2 := hml0
  have hown := findClass_of_methodNamed Bd.named
  have X0 : Stand p l e (own_rm_ 1 0 0 15) s m #[(.ref a1), (.ref x3_)] below meth c s₁ [] 0 0 := Stand.of_body Bd
  have e0 : s₁.heap = h0 := by rw [← hh, Bd.state]; rfl
  have N0 := Fr.nil n0
  have pre0 := own_pre (tb := p.tables) (e := e) (below := below) (T := s₁) (ef_31_7 m a1 x3_)
  obtain ⟨T1, X1, e1, st1⟩ := getF X0 hx hZ hown (host := "") (Or.inl (oW hw 250 rfl)) (Via.of (oW hw 251 rfl)) e0 Fm (g := (mkF m 2 #[vR (a1), vR (x3_)] [(.ref a1), (.ref a1)])) rfl rfl (hb hby d31_2)
  obtain ⟨T2, h2, X2, e2, W2, st2⟩ := putF X1 hx hZ hown (host := "") (Or.inl (oW hw 250 rfl)) (Via.of (oW hw 251 rfl)) e1 Fm Ea (Or.inl (oW hw 28 rfl)) (oW hw 7 rfl) (ty := .int) (by decide) rfl rfl (g := (mkF m 7 #[vR (a1), vR (x3_)] [(.int (m1 + (1 : Int32))), (.ref a1)])) rfl rfl (hb hby d31_7)
  have f3 := Ea.wr W2
  have f4 := Fe.other W2 (Or.inr (slot_ne (Or.inl (oW hw 31 rfl)) (Or.inl (oW hw 28 rfl)) (by decide) (t := (.array (.object "java/lang/Object"))) (t' := .int) (by decide) (by decide)))
  have f5 := Fs.other W2 (Or.inr (slot_ne (Or.inl (oW hw 74 rfl)) (Or.inl (oW hw 28 rfl)) (by decide) (t := .int) (t' := .int) (by decide) (by decide)))
  have f6 := Ed.wr W2
  have f7 := Vd.other W2 (Ne.symm hne)
  have f8 := Ex.wr W2
  have O2 := O0.wr W2 ga
  have K2 : Keep h0 h2 [a1, a2] := (Keep.refl h0 [a1, a2]).wr W2 (Or.inl (List.mem_of_getElem? (i := 0) rfl))
  have N2 := Fr.snoc X2 N0 ga
  have f9 := Fm.same W2
  obtain ⟨T10, X10, e10, st10⟩ := getF X2 hx hZ hown (host := "") (Or.inl (oW hw 30 rfl)) Via.refl e2 f4 (g := (mkF m 13 #[vR (a1), vR (x3_)] [(.ref a1), (.ref x3_), (.ref a1)])) rfl rfl (hb hby d31_13)
  obtain ⟨T11, X11, e11, st11⟩ := getF X10 hx hZ hown (host := "") (Or.inl (oW hw 73 rfl)) Via.refl e10 f5 (g := (mkF m 17 #[vR (a1), vR (x3_)] [(.ref a1), (.ref a2), (.ref x3_), (.ref a1)])) rfl rfl (hb hby d31_17)
  obtain ⟨LL12, X12, N12⟩ : ∃ LL, Stand p l e (own_rm_ 1 0 0 15) s m #[(.ref a1), (.ref x3_)] below meth c T11 LL 0 0 ∧ Fr n0 LL := ⟨_, X11, N2⟩
  obtain ⟨cq13, q13, q13'⟩ := f3.cell
  obtain ⟨_, _, ⟨T13, L13, k13, n13⟩, -, X13, ⟨Lc13, hQ13, l13, y13, z13⟩, st13⟩ := X12.privateBack hx (y := Y6_) hown (mvT hZ (oW hw 252 rfl)) (mvT hZ (oW hw 253 rfl)) (mvT hZ (oW hw 255 rfl)) (Cond.privateMethod_at (mvP hZ (oW hw 254 rfl) (args := #[]))) (mvT hZ (oW hw 256 rfl)) (by decide) (backOf (W := 0) (r_at3 l Z a0 hw [] s_D s_L s_LE s_E s_Z mr kd_ kl_ h2 n0 O2 G0 a1 (m1 + (1 : Int32)) a2 k2 x0_ x1_ x2_ x3_ f3 f9 f4 f5 f6 f7 Ov ga f8 gb hne) hZ (oW hw 256 rfl) (oW hw 8 rfl) (by decide) (by decide)) (g := (mkF m 20 #[vR (a1), vR (x3_)] [(.int (3 : Int32)), (.ref a2), (.ref x3_), (.ref a1)])) rfl (by rw [hml]; rfl) (Steps.refl _) (a := a1) (by rw [e11]; exact q13) q13' (argsL := [(.ref x3_), (.ref a2), (.int (3 : Int32))]) (rest := []) (lenOf pd_4 rfl) rfl (by exact Nat.le_of_eq rfl) (hb hby d31_20) (fun _ _ => ⟨rfl, e11, (by decide : 0 + 0 ≤ _), (by decide : 0 + 0 ≤ _)⟩)
  dsimp only [Pt.U, Pt.locs, Pt.cells, Pt.slots] at X13 l13 y13 z13 st13 hQ13
  subst l13 y13 z13
  obtain ⟨rfl, N13q, Kq13, Fm13, Fe13, Fs13, Vt13⟩ := hQ13
  have N13 := Fr.app N12 N13q
  have K13 : Keep h0 T13.heap [a1, a2] := K2.trans Kq13 (allS (Or.inl (List.mem_of_getElem? (i := 0) rfl)) (allS (Or.inl (List.mem_of_getElem? (i := 1) rfl)) all0))
  obtain ⟨fs, hr, hrun, hended, hW, hsame⟩ := X13.leave (v := some (.int (1 : Int32))) (oR Bd.returns)
  refine ⟨_, _, pre0 _ ?_, hrun, hended, _, _, rfl, ?_, ⟨_, rfl⟩, hW, hsame.mono (by decide) (by decide)⟩
  · show own_St p e below s₁ m 0 #[vR (a1), vR (x3_)] [] _
    refine XS.aloadN X0.here hx rfl (hb hby d31_0) rfl rfl ?_
    refine XS.dup X0.here hx rfl (hb hby d31_1) rfl rfl ?_
    refine st1 _ ?_
    show own_St p e below T1 m 5 #[vR (a1), vR (x3_)] [(.int m1), (.ref a1)] _
    refine XS.iconst X1.here hx rfl (hb hby d31_5) ?_
    refine XS.iadd X1.here hx rfl (hb hby d31_6) rfl ?_
    refine st2 _ ?_
    show own_St p e below T2 m 10 #[vR (a1), vR (x3_)] [] _
    refine XS.aloadN X2.here hx rfl (hb hby d31_10) rfl rfl ?_
    refine XS.aloadN X2.here hx rfl (hb hby d31_11) rfl rfl ?_
    refine XS.aloadN X2.here hx rfl (hb hby d31_12) rfl rfl ?_
    refine st10 _ ?_
    show own_St p e below T10 m 16 #[vR (a1), vR (x3_)] [(.ref a2), (.ref x3_), (.ref a1)] _
    refine XS.aloadN X10.here hx rfl (hb hby d31_16) rfl rfl ?_
    refine st11 _ ?_
    refine st13.trans ?_
    show own_St p e below T13 m 23 #[vR (a1), vR (x3_)] [] _
    refine XS.iconst X13.here hx rfl (hb hby d31_23) ?_
    show own_St p e below T13 m 24 #[vR (a1), vR (x3_)] [(.int (1 : Int32))] _
    exact retN X13 hx (t := .boolean) Bd.returns (by simp) (hb hby d31_24) hr
  · show own_Qal4 Z a1 a2 k2 (some (.int (1 : Int32))) (m1 + (1 : Int32)) x0_ x1_ x2_ x3_ h0 n0 _ T13.heap _
    exact ⟨rfl, N13, K13, Fm13, Fe13, Fs13, Vt13⟩
theorem own_ti {i : Nat} (h : i ≤ 1000) : i.toInt32.toNatClampNeg = i ∧ ¬ (i.toInt32 < 0) ∧ i.toInt32.toInt = i := by
  have e := len_toInt (n := i) (by omega)
  refine ⟨by simp only [Int32.toNatClampNeg, e]; rfl, ?_, e⟩
  rw [Int32.lt_iff_toInt_lt, e]; show ¬ ((i : Int) < 0); omega
theorem own_ts {i : Nat} (h : i ≤ 1000) : i.toInt32 + (1 : Int32) = (i + 1).toInt32 := by
  apply Int32.toInt_inj.mp
  have e := len_toInt (n := i) (by omega)
  have e1 := len_toInt (n := i + 1) (by omega)
  have z : (1 : Int32).toInt = 1 := rfl
  rw [Jvm.Kit.i32_add (by omega) (by omega), e, e1, z]; omega
theorem own_tl {i n : Nat} (h : i < n) (hn : n ≤ 1000) : i.toInt32 < n.toInt32 := by
  have e := len_toInt (n := i) (by omega)
  have e1 := len_toInt (n := n) (by omega)
  rw [Int32.lt_iff_toInt_lt, e, e1]; omega
def own_fill (f : Int32 → Int32) (cs : List Int32) (i : Nat) : List Value := (cs.take i).map (fun c => .int (f c)) ++ List.replicate (cs.length - i) (.int (0 : Int32))
theorem own_fill_len (f : Int32 → Int32) (cs : List Int32) {i : Nat} (h : i ≤ cs.length) : (own_fill f cs i).length = cs.length := by
  simp [own_fill]; omega
theorem own_fill_get (f : Int32 → Int32) (cs : List Int32) {i : Nat} (h : i ≤ cs.length) (j : Nat) : (own_fill f cs i)[j]? = if j < i then (cs[j]?).map (fun c => Value.int (f c)) else if j < cs.length then some (.int (0 : Int32)) else none := by
  have m1 : min i cs.length = i := Nat.min_eq_left h
  by_cases a : j < i
  · have b : j < cs.length := by omega
    simp [own_fill, List.getElem?_append, a, m1, b]
  · simp only [own_fill, List.getElem?_append, List.length_map, List.length_take, m1, a, if_false, List.getElem?_replicate]
    by_cases c : j < cs.length
    · have x : j - i < cs.length - i := by omega
      simp [x, c]
    · have x : ¬ j - i < cs.length - i := by omega
      simp [x, c]
theorem own_fill_set (f : Int32 → Int32) (cs : List Int32) {i : Nat} (h : i < cs.length) : (own_fill f cs i).set i (.int (f cs[i])) = own_fill f cs (i + 1) := by
  apply List.ext_getElem?
  intro j
  have hl := own_fill_len f cs (Nat.le_of_lt h)
  rw [own_fill_get f cs h j]
  by_cases u : i = j
  · subst u
    rw [List.getElem?_set_self (by omega)]
    simp [h]
  · rw [List.getElem?_set_ne u, own_fill_get f cs (Nat.le_of_lt h) j]
    by_cases a : j < i
    · have b : j < i + 1 := by omega
      simp [a, b]
    · have b : ¬ j < i + 1 := by omega
      simp [a, b]
theorem own_fill_all (f : Int32 → Int32) (cs : List Int32) : own_fill f cs cs.length = cs.map (fun c => .int (f c)) := by simp [own_fill]
theorem own_at {cs : List Int32} {i : Nat} (h : i < cs.length) : (cs.map Value.int).getD i (.int (0 : Int32)) = .int cs[i] := by simp [List.getD_eq_getElem?_getD, h]

theorem own_nei {i n : Nat} (h : i < n) (hn : n ≤ 1000) : ¬ (i.toInt32 = n.toInt32) := by
  have e := len_toInt (n := i) (by omega)
  have e1 := len_toInt (n := n) (by omega)
  intro q; have := congrArg Int32.toInt q; omega
def own_It (Z : State) (h : Heap) (t a : Addr) (n i : Nat) : Prop := Exa Z h t "java/util/ImmutableCollections$ListItr" ∧ Fld Z h t "java/util/ImmutableCollections$ListItr" "list" "Ljava/util/List;" (.ref a) ∧ Fld Z h t "java/util/ImmutableCollections$ListItr" "size" "I" (.int n.toInt32) ∧ Fld Z h t "java/util/ImmutableCollections$ListItr" "cursor" "I" (.int i.toInt32)
def own_Qit (Z : State) (a : Addr) (n : Nat) (h0 : Heap) (n0 : Nat) (v : Option Value) (h : Heap) (L : List Loc) : Prop := ∃ t : Addr, v = some (.ref t) ∧ Fr n0 L ∧ Keep h0 h [] ∧ h0.size ≤ t ∧ own_It Z h t a n 0
def own_Qnx (Z : State) (t a : Addr) (n i : Nat) (x : Addr) (h0 : Heap) (n0 : Nat) (v : Option Value) (h : Heap) (L : List Loc) : Prop := v = some (.ref x) ∧ Fr n0 L ∧ Keep h0 h [t] ∧ own_It Z h t a n (i + 1)
theorem own_atR {xs : List Addr} {i : Nat} (h : i < xs.length) : (xs.map Value.ref).getD i .null = .ref xs[i] := by simp [List.getD_eq_getElem?_getD, h]
theorem own_it1 {i n : Nat} (h : i < n) (hn : n ≤ 4) : ¬ (i.toInt32 = n.toInt32) := own_nei h (by omega)
theorem own_inx {i n : Nat} (h : i < n) (hn : n ≤ 4) : ¬ (i.toInt32 < 0) ∧ i.toInt32 < n.toInt32 := ⟨(own_ti (by omega)).2.1, own_tl h (by omega)⟩
theorem own_k4 {i n : Nat} (h : i < n) (hn : n ≤ 4) : i ≤ 1000 := by omega

theorem own_capn {n : Nat} (hn : n ≤ 4) : n.toInt32.toNatClampNeg ≤ 4 := by rw [(own_ti (by omega)).1]; exact hn
theorem own_k {n : Nat} (h : n ≤ 4) : n ≤ 1000 := by omega
theorem own_nlt {a b : Nat} (h : a ≤ b) (hb : b ≤ 1000) : ¬ (b.toInt32 < a.toInt32) := by
  have e := len_toInt (n := a) (by omega)
  have e1 := len_toInt (n := b) (by omega)
  rw [Int32.lt_iff_toInt_lt, e, e1]; omega
theorem own_t1 {a b : Nat} (h : a < b) (hbd : b ≤ 100) : a.toInt32 < b.toInt32 := own_tl h (by omega)
theorem own_t0 {a b : Nat} (h : ¬ (a < b)) (ha : a ≤ 100) : ¬ (a.toInt32 < b.toInt32) := own_nlt (by omega) (by omega)
theorem d1_0 : D1_ 0 = .ok (.iload_n 0, 1) := by decide +kernel
theorem d1_1 : D1_ 1 = .ok (.iload_n 1, 1) := by decide +kernel
theorem d1_2 : D1_ 2 = .ok (.if_icmp .gt 7, 3) := by decide +kernel
theorem d1_5 : D1_ 5 = .ok (.iload_n 0, 1) := by decide +kernel
theorem d1_6 : D1_ 6 = .ok (.goto 4, 3) := by decide +kernel
theorem d1_10 : D1_ 10 = .ok (.ireturn, 1) := by decide +kernel
theorem ef_1_8 (m : MethodId) (x0 : Int32) (x1 : Int32) : entryFrame m #[(.int x0), (.int x1)] 2 = mkF m 0 #[vI (x0), vI (x1)] [] := by first | (simp [entryFrame, mkF, argsToLocals, Value.category]; done) | rfl
theorem pf_1 : plainFor Y8_ = true := by decide +kernel
theorem r_mi0 (l Z a0) (hw : own_HW a0 Z) (ws s_D s_L s_LE s_E s_Z mr kd_ kl_ h0 n0) (O0 : Old Z n0 h0) (G : own_Ctx Z Z.heap s_D s_L s_LE s_E s_Z mr kd_ kl_) (u t : Nat) (hu : u ≤ 100) (ht : t ≤ 100) (h1 : ¬ (t < u)) :
    oM l Y8_ jdk_29_method_69_code 2 (some .int) ws (own_rm_ 0 0 0 0) #[(.int u.toInt32), (.int t.toInt32)] Z h0 n0 (own_Q (some (.int (min u t).toInt32))) := by
  have G0 := G
  refine MetFree.of_bodySF pf_1 hisR ?_
  intro p e s m args below meth c s₁ Bd hml0 hP hK
  obtain ⟨rfl, hZ, hh⟩ := hP
  have hx := Bd.exec
  have hby := Bd.bytes
  have hml : c.maxLocals = 2 := hml0
  have hown := findClass_of_methodNamed Bd.named
  have X0 : Stand p l e (own_rm_ 0 0 0 0) s m #[(.int u.toInt32), (.int t.toInt32)] below meth c s₁ [] 0 0 := Stand.of_body Bd
  have e0 : s₁.heap = h0 := by rw [← hh, Bd.state]; rfl
  have N0 := Fr.nil n0
  have pre0 := own_pre (tb := p.tables) (e := e) (below := below) (T := s₁) (ef_1_8 m u.toInt32 t.toInt32)
  obtain ⟨fs, hr, hrun, hended, hW, hsame⟩ := X0.leave (v := some (.int u.toInt32)) (oR Bd.returns)
  refine ⟨_, _, pre0 _ ?_, hrun, hended, _, _, rfl, ?_, ⟨_, rfl⟩, hW, hsame.mono (by decide) (by decide)⟩
  · show own_St p e below s₁ m 0 #[vI (u.toInt32), vI (t.toInt32)] [] _
    refine XS.iloadN X0.here hx rfl (hb hby d1_0) rfl ?_
    refine XS.iloadN X0.here hx rfl (hb hby d1_1) rfl ?_
    refine XS.icmpNo X0.here hx rfl (hb hby d1_2) rfl (flt (own_t0 h1 ht : ¬ (t.toInt32 < u.toInt32))).2.2.1 ?_
    refine XS.iloadN X0.here hx rfl (hb hby d1_5) rfl ?_
    refine XS.goto X0.here hx rfl (pc0 := 6) (pc' := 10) rfl (hb hby d1_6) (by decide) (by decide) ?_
    show own_St p e below s₁ m 10 #[vI (u.toInt32), vI (t.toInt32)] [(.int u.toInt32)] _
    exact retI X0 hx Bd.returns (hb hby d1_10) hr
  · show own_Q (some (.int (min u t).toInt32)) h0 n0 _ s₁.heap _
    rw [e0]
    exact ⟨by rw [Nat.min_eq_left (Nat.le_of_not_lt h1)], N0, rfl⟩
theorem d1_9 : D1_ 9 = .ok (.iload_n 1, 1) := by decide +kernel
theorem r_mi1 (l Z a0) (hw : own_HW a0 Z) (ws s_D s_L s_LE s_E s_Z mr kd_ kl_ h0 n0) (O0 : Old Z n0 h0) (G : own_Ctx Z Z.heap s_D s_L s_LE s_E s_Z mr kd_ kl_) (u t : Nat) (hu : u ≤ 100) (ht : t ≤ 100) (h1 : t < u) :
    oM l Y8_ jdk_29_method_69_code 2 (some .int) ws (own_rm_ 0 0 0 0) #[(.int u.toInt32), (.int t.toInt32)] Z h0 n0 (own_Q (some (.int (min u t).toInt32))) := by
  have G0 := G
  refine MetFree.of_bodySF pf_1 hisR ?_
  intro p e s m args below meth c s₁ Bd hml0 hP hK
  obtain ⟨rfl, hZ, hh⟩ := hP
  have hx := Bd.exec
  have hby := Bd.bytes
  have hml : c.maxLocals = 2 := hml0
  have hown := findClass_of_methodNamed Bd.named
  have X0 : Stand p l e (own_rm_ 0 0 0 0) s m #[(.int u.toInt32), (.int t.toInt32)] below meth c s₁ [] 0 0 := Stand.of_body Bd
  have e0 : s₁.heap = h0 := by rw [← hh, Bd.state]; rfl
  have N0 := Fr.nil n0
  have pre0 := own_pre (tb := p.tables) (e := e) (below := below) (T := s₁) (ef_1_8 m u.toInt32 t.toInt32)
  obtain ⟨fs, hr, hrun, hended, hW, hsame⟩ := X0.leave (v := some (.int t.toInt32)) (oR Bd.returns)
  refine ⟨_, _, pre0 _ ?_, hrun, hended, _, _, rfl, ?_, ⟨_, rfl⟩, hW, hsame.mono (by decide) (by decide)⟩
  · show own_St p e below s₁ m 0 #[vI (u.toInt32), vI (t.toInt32)] [] _
    refine XS.iloadN X0.here hx rfl (hb hby d1_0) rfl ?_
    refine XS.iloadN X0.here hx rfl (hb hby d1_1) rfl ?_
    refine XS.icmpYes X0.here hx rfl (pc0 := 2) (pc' := 9) rfl (hb hby d1_2) rfl (tlt (own_t1 h1 hu : t.toInt32 < u.toInt32)).2.2.1 (by decide) (by decide) ?_
    refine XS.iloadN X0.here hx rfl (hb hby d1_9) rfl ?_
    show own_St p e below s₁ m 10 #[vI (u.toInt32), vI (t.toInt32)] [(.int t.toInt32)] _
    exact retI X0 hx Bd.returns (hb hby d1_10) hr
  · show own_Q (some (.int (min u t).toInt32)) h0 n0 _ s₁.heap _
    rw [e0]
    exact ⟨by rw [Nat.min_eq_right (Nat.le_of_lt h1)], N0, rfl⟩
theorem r_mi (l Z a0) (hw : own_HW a0 Z) (ws s_D s_L s_LE s_E s_Z mr kd_ kl_ h0 n0) (O0 : Old Z n0 h0) (G : own_Ctx Z Z.heap s_D s_L s_LE s_E s_Z mr kd_ kl_) (u t : Nat) (hu : u ≤ 100) (ht : t ≤ 100) :
    oM l Y8_ jdk_29_method_69_code 2 (some .int) ws (own_rm_ 0 0 0 0) #[(.int u.toInt32), (.int t.toInt32)] Z h0 n0 (own_Q (some (.int (min u t).toInt32))) := by
  rcases Classical.em (t < u) with h1 | h1
  · exact r_mi1 l Z a0 hw ws s_D s_L s_LE s_E s_Z mr kd_ kl_ h0 n0 O0 G u t hu ht h1
  · exact r_mi0 l Z a0 hw ws s_D s_L s_LE s_E s_Z mr kd_ kl_ h0 n0 O0 G u t hu ht h1
def own_IL (Z : State) (h : Heap) (a s_E : Addr) (xs : List Addr) : Prop := (Exa Z h a "java/util/ImmutableCollections$ListN" ∧ ∃ (b : Addr) (k : ClassId), Fld Z h a "java/util/ImmutableCollections$ListN" "elements" "[Ljava/lang/Object;" (.ref b) ∧ Arv Z h b k (.object "java/lang/Object") xs.length.toInt32 (xs.map Value.ref) .null) ∨ (∃ x, xs = [x] ∧ Exa Z h a "java/util/ImmutableCollections$List12" ∧ Fld Z h a "java/util/ImmutableCollections$List12" "e0" "Ljava/lang/Object;" (.ref x) ∧ Fld Z h a "java/util/ImmutableCollections$List12" "e1" "Ljava/lang/Object;" (.ref s_E)) ∨ (∃ x y, xs = [x, y] ∧ y ≠ s_E ∧ Exa Z h a "java/util/ImmutableCollections$List12" ∧ Fld Z h a "java/util/ImmutableCollections$List12" "e0" "Ljava/lang/Object;" (.ref x) ∧ Fld Z h a "java/util/ImmutableCollections$List12" "e1" "Ljava/lang/Object;" (.ref y))
theorem own_IL_ext {Z : State} {h h' : Heap} {a s_E : Addr} {xs : List Addr} (E : Ext h h') (S : own_IL Z h a s_E xs) : own_IL Z h' a s_E xs := by
  rcases S with ⟨E1, b, k, F, V⟩ | ⟨x, q, E1, F0, F1⟩ | ⟨x, y, q, n, E1, F0, F1⟩
  · exact Or.inl ⟨E1.ext E, b, k, F.ext E, V.ext E⟩
  · exact Or.inr (Or.inl ⟨x, q, E1.ext E, F0.ext E, F1.ext E⟩)
  · exact Or.inr (Or.inr ⟨x, y, q, n, E1.ext E, F0.ext E, F1.ext E⟩)
theorem own_IL_keep {Z : State} {h h' : Heap} {a s_E : Addr} {xs : List Addr} (K : Keep h h' []) (S : own_IL Z h a s_E xs) : own_IL Z h' a s_E xs := by
  rcases S with ⟨E1, b, k, F, V⟩ | ⟨x, q, E1, F0, F1⟩ | ⟨x, y, q, n, E1, F0, F1⟩
  · exact Or.inl ⟨E1.keep K, b, k, F.keep K (fun q => nomatch q), V.keep K (fun q => nomatch q)⟩
  · exact Or.inr (Or.inl ⟨x, q, E1.keep K, F0.keep K (fun q => nomatch q), F1.keep K (fun q => nomatch q)⟩)
  · exact Or.inr (Or.inr ⟨x, y, q, n, E1.keep K, F0.keep K (fun q => nomatch q), F1.keep K (fun q => nomatch q)⟩)
def own_Qil (Z : State) (s_E : Addr) (xs : List Addr) (h0 : Heap) (n0 : Nat) (v : Option Value) (h : Heap) (L : List Loc) : Prop := ∃ b : Addr, v = some (.ref b) ∧ Fr n0 L ∧ Keep h0 h [] ∧ own_IL Z h b s_E xs

theorem d24_0 : D24_ 0 = .ok (.aload_n 0, 1) := by decide +kernel
theorem d24_1 : D24_ 1 = .ok (.invokespecial 1, 3) := by decide +kernel
theorem d24_4 : D24_ 4 = .ok (.return_, 1) := by decide +kernel
theorem ef_24_9 (m : MethodId) (x0 : Addr) : entryFrame m #[(.ref x0)] 1 = mkF m 0 #[vR (x0)] [] := by first | (simp [entryFrame, mkF, argsToLocals, Value.category]; done) | rfl
theorem pn_3 : plainName "java/util/ImmutableCollections$AbstractImmutableCollection" = true := by first | (simp [plainName, overriddenIn]; done) | decide +kernel
theorem r_aic (l Z a0) (hw : own_HW a0 Z) (ws s_D s_L s_LE s_E s_Z mr kd_ kl_ h0 n0) (O0 : Old Z n0 h0) (G : own_Ctx Z Z.heap s_D s_L s_LE s_E s_Z mr kd_ kl_) (a1 : Addr)  :
    oM l Y9_ jdk_47_method_1_code 1 none ws (own_rm_ 2 0 0 24) #[(.ref a1)] Z h0 n0 (own_Q (none)) := by
  have G0 := G
  refine MetFree.of_bodySF (plainFor_of_name pn_3) hisR ?_
  intro p e s m args below meth c s₁ Bd hml0 hP hK
  obtain ⟨rfl, hZ, hh⟩ := hP
  have hx := Bd.exec
  have hby := Bd.bytes
  have hml : c.maxLocals = 1 := hml0
  have hown := findClass_of_methodNamed Bd.named
  have X0 : Stand p l e (own_rm_ 2 0 0 24) s m #[(.ref a1)] below meth c s₁ [] 0 0 := Stand.of_body Bd
  have e0 : s₁.heap = h0 := by rw [← hh, Bd.state]; rfl
  have N0 := Fr.nil n0
  have pre0 := own_pre (tb := p.tables) (e := e) (below := below) (T := s₁) (ef_24_9 m a1)
  obtain ⟨_, _, ⟨T1, L1, k1, n1⟩, -, X1, ⟨Lc1, hQ1, l1, y1, z1⟩, st1⟩ := X0.specialBack hx (y := Y0_) rfl hown (mvT hZ (oW hw 182 rfl)) (mvT hZ (oW hw 19 rfl)) (mvT hZ (oW hw 23 rfl)) (by decide) (backOf (W := 0) (r_abc l Z a0 hw [] s_D s_L s_LE s_E s_Z mr kd_ kl_ h0 n0 O0 G0 a1) hZ (oW hw 23 rfl) (oW hw 22 rfl) (by decide) (by decide)) (g := (mkF m 1 #[vR (a1)] [(.ref a1)])) rfl (by rw [hml]; rfl) (Steps.refl _) (a := a1) (argsL := []) (rest := []) (lenOf pd_0 rfl) rfl (by exact Nat.le_of_eq rfl) (hb hby d24_1) (fun _ _ => ⟨rfl, e0, (by decide : 0 + 0 ≤ _), (by decide : 0 + 0 ≤ _)⟩)
  dsimp only [Pt.U, Pt.locs, Pt.cells, Pt.slots] at X1 l1 y1 z1 st1 hQ1
  subst l1 y1 z1
  obtain ⟨rfl, N1q, e1⟩ := hQ1
  have N1 := Fr.app N0 N1q
  obtain ⟨fs, hr, hrun, hended, hW, hsame⟩ := X1.leave (v := none) (fun _ => rfl)
  refine ⟨_, _, pre0 _ ?_, hrun, hended, _, _, rfl, ?_, ⟨_, rfl⟩, hW, hsame.mono (by decide) (by decide)⟩
  · show own_St p e below s₁ m 0 #[vR (a1)] [] _
    refine XS.aloadN X0.here hx rfl (hb hby d24_0) rfl rfl ?_
    refine st1.trans ?_
    show own_St p e below T1 m 4 #[vR (a1)] [] _
    exact X1.returnOut hx Bd.returns (hb hby d24_4) hr
  · show own_Q (none) h0 n0 _ T1.heap _
    rw [e1]
    exact ⟨rfl, N1, rfl⟩
theorem d23_0 : D23_ 0 = .ok (.aload_n 0, 1) := by decide +kernel
theorem d23_1 : D23_ 1 = .ok (.invokespecial 1, 3) := by decide +kernel
theorem d23_4 : D23_ 4 = .ok (.return_, 1) := by decide +kernel
theorem ef_23_10 (m : MethodId) (x0 : Addr) : entryFrame m #[(.ref x0)] 1 = mkF m 0 #[vR (x0)] [] := by first | (simp [entryFrame, mkF, argsToLocals, Value.category]; done) | rfl
theorem pn_4 : plainName "java/util/ImmutableCollections$AbstractImmutableList" = true := by first | (simp [plainName, overriddenIn]; done) | decide +kernel
theorem r_ail (l Z a0) (hw : own_HW a0 Z) (ws s_D s_L s_LE s_E s_Z mr kd_ kl_ h0 n0) (O0 : Old Z n0 h0) (G : own_Ctx Z Z.heap s_D s_L s_LE s_E s_Z mr kd_ kl_) (a1 : Addr)  :
    oM l Y10_ jdk_46_method_1_code 1 none ws (own_rm_ 3 0 0 36) #[(.ref a1)] Z h0 n0 (own_Q (none)) := by
  have G0 := G
  refine MetFree.of_bodySF (plainFor_of_name pn_4) hisR ?_
  intro p e s m args below meth c s₁ Bd hml0 hP hK
  obtain ⟨rfl, hZ, hh⟩ := hP
  have hx := Bd.exec
  have hby := Bd.bytes
  have hml : c.maxLocals = 1 := hml0
  have hown := findClass_of_methodNamed Bd.named
  have X0 : Stand p l e (own_rm_ 3 0 0 36) s m #[(.ref a1)] below meth c s₁ [] 0 0 := Stand.of_body Bd
  have e0 : s₁.heap = h0 := by rw [← hh, Bd.state]; rfl
  have N0 := Fr.nil n0
  have pre0 := own_pre (tb := p.tables) (e := e) (below := below) (T := s₁) (ef_23_10 m a1)
  obtain ⟨_, _, ⟨T1, L1, k1, n1⟩, -, X1, ⟨Lc1, hQ1, l1, y1, z1⟩, st1⟩ := X0.specialBack hx (y := Y9_) rfl hown (mvT hZ (oW hw 176 rfl)) (mvT hZ (oW hw 177 rfl)) (mvT hZ (oW hw 181 rfl)) (by decide) (backOf (W := 0) (r_aic l Z a0 hw [] s_D s_L s_LE s_E s_Z mr kd_ kl_ h0 n0 O0 G0 a1) hZ (oW hw 181 rfl) (oW hw 180 rfl) (by decide) (by decide)) (g := (mkF m 1 #[vR (a1)] [(.ref a1)])) rfl (by rw [hml]; rfl) (Steps.refl _) (a := a1) (argsL := []) (rest := []) (lenOf pd_0 rfl) rfl (by exact Nat.le_of_eq rfl) (hb hby d23_1) (fun _ _ => ⟨rfl, e0, (by decide : 0 + 0 ≤ _), (by decide : 0 + 0 ≤ _)⟩)
  dsimp only [Pt.U, Pt.locs, Pt.cells, Pt.slots] at X1 l1 y1 z1 st1 hQ1
  subst l1 y1 z1
  obtain ⟨rfl, N1q, e1⟩ := hQ1
  have N1 := Fr.app N0 N1q
  obtain ⟨fs, hr, hrun, hended, hW, hsame⟩ := X1.leave (v := none) (fun _ => rfl)
  refine ⟨_, _, pre0 _ ?_, hrun, hended, _, _, rfl, ?_, ⟨_, rfl⟩, hW, hsame.mono (by decide) (by decide)⟩
  · show own_St p e below s₁ m 0 #[vR (a1)] [] _
    refine XS.aloadN X0.here hx rfl (hb hby d23_0) rfl rfl ?_
    refine st1.trans ?_
    show own_St p e below T1 m 4 #[vR (a1)] [] _
    exact X1.returnOut hx Bd.returns (hb hby d23_4) hr
  · show own_Q (none) h0 n0 _ T1.heap _
    rw [e1]
    exact ⟨rfl, N1, rfl⟩
theorem d41_0 : D41_ 0 = .ok (.aload_n 0, 1) := by decide +kernel
theorem d41_1 : D41_ 1 = .ok (.ifnonnull 11, 3) := by decide +kernel
theorem d41_12 : D41_ 12 = .ok (.aload_n 0, 1) := by decide +kernel
theorem d41_13 : D41_ 13 = .ok (.areturn, 1) := by decide +kernel
theorem ef_41_11 (m : MethodId) (x0 : Addr) : entryFrame m #[(.ref x0)] 1 = mkF m 0 #[vR (x0)] [] := by first | (simp [entryFrame, mkF, argsToLocals, Value.category]; done) | rfl
theorem pn_5 : plainName "java/util/Objects" = true := by first | (simp [plainName, overriddenIn]; done) | decide +kernel
theorem r_rnn (l Z a0) (hw : own_HW a0 Z) (ws s_D s_L s_LE s_E s_Z mr kd_ kl_ h0 n0) (O0 : Old Z n0 h0) (G : own_Ctx Z Z.heap s_D s_L s_LE s_E s_Z mr kd_ kl_) (a1 : Addr)  :
    oM l Y11_ jdk_31_method_10_code 1 (some (.object "java/lang/Object")) ws (own_rm_ 0 0 0 0) #[(.ref a1)] Z h0 n0 (own_Q (some (.ref a1))) := by
  have G0 := G
  refine MetFree.of_bodySF (plainFor_of_name pn_5) hisR ?_
  intro p e s m args below meth c s₁ Bd hml0 hP hK
  obtain ⟨rfl, hZ, hh⟩ := hP
  have hx := Bd.exec
  have hby := Bd.bytes
  have hml : c.maxLocals = 1 := hml0
  have hown := findClass_of_methodNamed Bd.named
  have X0 : Stand p l e (own_rm_ 0 0 0 0) s m #[(.ref a1)] below meth c s₁ [] 0 0 := Stand.of_body Bd
  have e0 : s₁.heap = h0 := by rw [← hh, Bd.state]; rfl
  have N0 := Fr.nil n0
  have pre0 := own_pre (tb := p.tables) (e := e) (below := below) (T := s₁) (ef_41_11 m a1)
  obtain ⟨fs, hr, hrun, hended, hW, hsame⟩ := X0.leave (v := some (.ref a1)) (oR Bd.returns)
  refine ⟨_, _, pre0 _ ?_, hrun, hended, _, _, rfl, ?_, ⟨_, rfl⟩, hW, hsame.mono (by decide) (by decide)⟩
  · show own_St p e below s₁ m 0 #[vR (a1)] [] _
    refine XS.aloadN X0.here hx rfl (hb hby d41_0) rfl rfl ?_
    refine XS.ifnonnullYes X0.here hx rfl (pc0 := 1) (pc' := 12) rfl (hb hby d41_1) rfl (by decide) (by decide) ?_
    refine XS.aloadN X0.here hx rfl (hb hby d41_12) rfl rfl ?_
    show own_St p e below s₁ m 13 #[vR (a1)] [(.ref a1)] _
    exact retOut X0 hx Bd.returns rfl (Or.inr (Or.inr (Or.inr (Or.inr ⟨rfl, rfl, rfl⟩)))) (hb hby d41_13) hr
  · show own_Q (some (.ref a1)) h0 n0 _ s₁.heap _
    rw [e0]
    exact ⟨rfl, N0, rfl⟩
def own_Qtl (Z : State) (a1 : Addr) (u w : Value) (h0 : Heap) (n0 : Nat) (v : Option Value) (h : Heap) (L : List Loc) : Prop := v = none ∧ Fr n0 L ∧ Keep h0 h [a1] ∧ Fld Z h a1 "java/util/ImmutableCollections$List12" "e0" "Ljava/lang/Object;" u ∧ Fld Z h a1 "java/util/ImmutableCollections$List12" "e1" "Ljava/lang/Object;" w
theorem d40_0 : D40_ 0 = .ok (.aload_n 0, 1) := by decide +kernel
theorem d40_1 : D40_ 1 = .ok (.invokespecial 1, 3) := by decide +kernel
theorem d40_4 : D40_ 4 = .ok (.aload_n 0, 1) := by decide +kernel
theorem d40_5 : D40_ 5 = .ok (.aload_n 1, 1) := by decide +kernel
theorem d40_6 : D40_ 6 = .ok (.invokestatic 7, 3) := by decide +kernel
theorem pd_5 : parseMethodDescriptor "(Ljava/lang/Object;)Ljava/lang/Object;" = some ⟨[(.object "java/lang/Object")], some (.object "java/lang/Object")⟩ := by decide +kernel
theorem d40_9 : D40_ 9 = .ok (.putfield 13, 3) := by decide +kernel
theorem d40_12 : D40_ 12 = .ok (.aload_n 0, 1) := by decide +kernel
theorem d40_13 : D40_ 13 = .ok (.getstatic 19, 3) := by decide +kernel
theorem d40_16 : D40_ 16 = .ok (.putfield 24, 3) := by decide +kernel
theorem d40_19 : D40_ 19 = .ok (.return_, 1) := by decide +kernel
theorem ef_40_12 (m : MethodId) (x0 : Addr) (x1 : Addr) : entryFrame m #[(.ref x0), (.ref x1)] 2 = mkF m 0 #[vR (x0), vR (x1)] [] := by first | (simp [entryFrame, mkF, argsToLocals, Value.category]; done) | rfl
theorem pn_6 : plainName "java/util/ImmutableCollections$List12" = true := by first | (simp [plainName, overriddenIn]; done) | decide +kernel
theorem r_li1 (l Z a0) (hw : own_HW a0 Z) (ws s_D s_L s_LE s_E s_Z mr kd_ kl_ h0 n0) (O0 : Old Z n0 h0) (G : own_Ctx Z Z.heap s_D s_L s_LE s_E s_Z mr kd_ kl_) (a1 x0_ : Addr) (Ea : Exa Z h0 a1 "java/util/ImmutableCollections$List12") (ga : n0 ≤ a1) (F0 : Fld Z h0 a1 "java/util/ImmutableCollections$List12" "e0" "Ljava/lang/Object;" .null) (F1 : Fld Z h0 a1 "java/util/ImmutableCollections$List12" "e1" "Ljava/lang/Object;" .null) :
    oM l Y12_ jdk_44_method_1_code 2 none ws (own_rm_ 4 0 0 48) #[(.ref a1), (.ref x0_)] Z h0 n0 (own_Qtl Z a1 (.ref x0_) (.ref s_E)) := by
  have G0 := G
  obtain ⟨S_D, E_D, V_D, S_L, E_L, F_L, V_L, S_E, E_E, S_A, S_Z, E_Z, M_A⟩ := G
  refine MetFree.of_bodySF (plainFor_of_name pn_6) hisR ?_
  intro p e s m args below meth c s₁ Bd hml0 hP hK
  obtain ⟨rfl, hZ, hh⟩ := hP
  have hx := Bd.exec
  have hby := Bd.bytes
  have hml : c.maxLocals = 2 := hml0
  have hown := findClass_of_methodNamed Bd.named
  have hnm := (name_of_methodNamed Bd.named Bd.method).1
  have X0 : Stand p l e (own_rm_ 4 0 0 48) s m #[(.ref a1), (.ref x0_)] below meth c s₁ [] 0 0 := Stand.of_body Bd
  have e0 : s₁.heap = h0 := by rw [← hh, Bd.state]; rfl
  have N0 := Fr.nil n0
  have pre0 := own_pre (tb := p.tables) (e := e) (below := below) (T := s₁) (ef_40_12 m a1 x0_)
  obtain ⟨_, _, ⟨T1, L1, k1, n1⟩, -, X1, ⟨Lc1, hQ1, l1, y1, z1⟩, st1⟩ := X0.specialBack hx (y := Y10_) rfl hown (mvT hZ (oW hw 311 rfl)) (mvT hZ (oW hw 172 rfl)) (mvT hZ (oW hw 175 rfl)) (by decide) (backOf (W := 0) (r_ail l Z a0 hw [] s_D s_L s_LE s_E s_Z mr kd_ kl_ h0 n0 O0 G0 a1) hZ (oW hw 175 rfl) (oW hw 99 rfl) (by decide) (by decide)) (g := (mkF m 1 #[vR (a1), vR (x0_)] [(.ref a1)])) rfl (by rw [hml]; rfl) (Steps.refl _) (a := a1) (argsL := []) (rest := []) (lenOf pd_0 rfl) rfl (by exact Nat.le_of_eq rfl) (hb hby d40_1) (fun _ _ => ⟨rfl, e0, (by decide : 0 + 0 ≤ _), (by decide : 0 + 0 ≤ _)⟩)
  dsimp only [Pt.U, Pt.locs, Pt.cells, Pt.slots] at X1 l1 y1 z1 st1 hQ1
  subst l1 y1 z1
  obtain ⟨rfl, N1q, e1⟩ := hQ1
  have N1 := Fr.app N0 N1q
  obtain ⟨_, _, ⟨T2, L2, k2, n2⟩, -, X2, ⟨Lc2, hQ2, l2, y2, z2⟩, st2⟩ := Jvm.LawKit.callS X1 hx (y := Y11_) hown (mvT hZ (oW hw 315 rfl)) (mvT hZ (oW hw 316 rfl)) (mvT hZ (oW hw 144 rfl)) (mvT hZ (oW hw 317 rfl)) (by decide) (backOf (W := 1) (r_rnn l Z a0 hw [] s_D s_L s_LE s_E s_Z mr kd_ kl_ h0 n0 O0 G0 x0_) hZ (oW hw 317 rfl) (oW hw 144 rfl) (by decide) (by decide)) (g := (mkF m 6 #[vR (a1), vR (x0_)] [(.ref x0_), (.ref a1)])) rfl (by rw [hml]; rfl) (argsL := [(.ref x0_)]) (rest := [(.ref a1)]) (lenOf pd_5 rfl) rfl (by exact Nat.le_of_eq rfl) (hb hby d40_6) (fun _ _ => ⟨rfl, e1, (by decide : 0 + 0 ≤ _), (by decide : 0 + 0 ≤ _)⟩)
  dsimp only [Pt.U, Pt.locs, Pt.cells, Pt.slots] at X2 l2 y2 z2 st2 hQ2
  subst l2 y2 z2
  obtain ⟨rfl, N2q, e2⟩ := hQ2
  have N2 := Fr.app N1 N2q
  obtain ⟨T3, h3, X3, e3, W3, st3⟩ := putF X2 hx hZ hown (host := "") (Or.inl (oW hw 318 rfl)) Via.refl e2 F0 Ea (Or.inr ⟨(oW hw 319 rfl), rfl, hnm⟩) (oW hw 305 rfl) (ty := (.object "java/lang/Object")) (by decide) rfl rfl (g := (mkF m 9 #[vR (a1), vR (x0_)] [(.ref x0_), (.ref a1)])) rfl rfl (hb hby d40_9)
  have f4 := Ea.wr W3
  have f5 := F1.other W3 (Or.inr (slot_ne (Or.inr (oW hw 322 rfl)) (Or.inr (oW hw 319 rfl)) (by decide) (t := (.object "java/lang/Object")) (t' := (.object "java/lang/Object")) (by decide) (by decide)))
  have O3 := O0.wr W3 ga
  have K3 : Keep h0 h3 [a1] := (Keep.refl h0 [a1]).wr W3 (Or.inl (List.mem_of_getElem? (i := 0) rfl))
  have N3 := Fr.snoc X3 N2 ga
  have f6 := F0.same W3
  obtain ⟨T7, X7, e7, st7⟩ := getS2 X3 hx hZ hown (Or.inr (oW hw 320 rfl)) Via.refl e3 (S_E.ext O3.2) (g := (mkF m 13 #[vR (a1), vR (x0_)] [(.ref a1)])) rfl (hb hby d40_13)
  obtain ⟨T8, h8, X8, e8, W8, st8⟩ := putF X7 hx hZ hown (host := "") (Or.inl (oW hw 321 rfl)) Via.refl e7 f5 f4 (Or.inr ⟨(oW hw 322 rfl), rfl, hnm⟩) (oW hw 305 rfl) (ty := (.object "java/lang/Object")) (by decide) rfl rfl (g := (mkF m 16 #[vR (a1), vR (x0_)] [(.ref s_E), (.ref a1)])) rfl rfl (hb hby d40_16)
  have f10 := f6.other W8 (Or.inr (slot_ne (Or.inr (oW hw 319 rfl)) (Or.inr (oW hw 322 rfl)) (by decide) (t := (.object "java/lang/Object")) (t' := (.object "java/lang/Object")) (by decide) (by decide)))
  have K8 : Keep h0 h8 [a1] := K3.wr W8 (Or.inl (List.mem_of_getElem? (i := 0) rfl))
  have N8 := Fr.snoc X8 N3 ga
  have f11 := f5.same W8
  obtain ⟨fs, hr, hrun, hended, hW, hsame⟩ := X8.leave (v := none) (fun _ => rfl)
  refine ⟨_, _, pre0 _ ?_, hrun, hended, _, _, rfl, ?_, ⟨_, rfl⟩, hW, hsame.mono (by decide) (by decide)⟩
  · show own_St p e below s₁ m 0 #[vR (a1), vR (x0_)] [] _
    refine XS.aloadN X0.here hx rfl (hb hby d40_0) rfl rfl ?_
    refine st1.trans ?_
    show own_St p e below T1 m 4 #[vR (a1), vR (x0_)] [] _
    refine XS.aloadN X1.here hx rfl (hb hby d40_4) rfl rfl ?_
    refine XS.aloadN X1.here hx rfl (hb hby d40_5) rfl rfl ?_
    refine st2 _ ?_
    refine st3 _ ?_
    show own_St p e below T3 m 12 #[vR (a1), vR (x0_)] [] _
    refine XS.aloadN X3.here hx rfl (hb hby d40_12) rfl rfl ?_
    refine st7 _ ?_
    refine st8 _ ?_
    show own_St p e below T8 m 19 #[vR (a1), vR (x0_)] [] _
    exact X8.returnOut hx Bd.returns (hb hby d40_19) hr
  · show own_Qtl Z a1 (.ref x0_) (.ref s_E) h0 n0 _ T8.heap _
    rw [e8]
    exact ⟨rfl, N8, K8, f10, f11⟩
theorem d51_0 : D51_ 0 = .ok (.aload_n 0, 1) := by decide +kernel
theorem d51_1 : D51_ 1 = .ok (.invokespecial 1, 3) := by decide +kernel
theorem d51_4 : D51_ 4 = .ok (.aload_n 0, 1) := by decide +kernel
theorem d51_5 : D51_ 5 = .ok (.aload_n 1, 1) := by decide +kernel
theorem d51_6 : D51_ 6 = .ok (.invokestatic 7, 3) := by decide +kernel
theorem d51_9 : D51_ 9 = .ok (.putfield 13, 3) := by decide +kernel
theorem d51_12 : D51_ 12 = .ok (.aload_n 0, 1) := by decide +kernel
theorem d51_13 : D51_ 13 = .ok (.aload_n 2, 1) := by decide +kernel
theorem d51_14 : D51_ 14 = .ok (.invokestatic 7, 3) := by decide +kernel
theorem d51_17 : D51_ 17 = .ok (.putfield 24, 3) := by decide +kernel
theorem d51_20 : D51_ 20 = .ok (.return_, 1) := by decide +kernel
theorem ef_51_13 (m : MethodId) (x0 : Addr) (x1 : Addr) (x2 : Addr) : entryFrame m #[(.ref x0), (.ref x1), (.ref x2)] 3 = mkF m 0 #[vR (x0), vR (x1), vR (x2)] [] := by first | (simp [entryFrame, mkF, argsToLocals, Value.category]; done) | rfl
theorem r_li2 (l Z a0) (hw : own_HW a0 Z) (ws s_D s_L s_LE s_E s_Z mr kd_ kl_ h0 n0) (O0 : Old Z n0 h0) (G : own_Ctx Z Z.heap s_D s_L s_LE s_E s_Z mr kd_ kl_) (a1 x0_ x1_ : Addr) (Ea : Exa Z h0 a1 "java/util/ImmutableCollections$List12") (ga : n0 ≤ a1) (F0 : Fld Z h0 a1 "java/util/ImmutableCollections$List12" "e0" "Ljava/lang/Object;" .null) (F1 : Fld Z h0 a1 "java/util/ImmutableCollections$List12" "e1" "Ljava/lang/Object;" .null) :
    oM l Y13_ jdk_44_method_2_code 3 none ws (own_rm_ 4 0 0 48) #[(.ref a1), (.ref x0_), (.ref x1_)] Z h0 n0 (own_Qtl Z a1 (.ref x0_) (.ref x1_)) := by
  have G0 := G
  refine MetFree.of_bodySF (plainFor_of_name pn_6) hisR ?_
  intro p e s m args below meth c s₁ Bd hml0 hP hK
  obtain ⟨rfl, hZ, hh⟩ := hP
  have hx := Bd.exec
  have hby := Bd.bytes
  have hml : c.maxLocals = 3 := hml0
  have hown := findClass_of_methodNamed Bd.named
  have hnm := (name_of_methodNamed Bd.named Bd.method).1
  have X0 : Stand p l e (own_rm_ 4 0 0 48) s m #[(.ref a1), (.ref x0_), (.ref x1_)] below meth c s₁ [] 0 0 := Stand.of_body Bd
  have e0 : s₁.heap = h0 := by rw [← hh, Bd.state]; rfl
  have N0 := Fr.nil n0
  have pre0 := own_pre (tb := p.tables) (e := e) (below := below) (T := s₁) (ef_51_13 m a1 x0_ x1_)
  obtain ⟨_, _, ⟨T1, L1, k1, n1⟩, -, X1, ⟨Lc1, hQ1, l1, y1, z1⟩, st1⟩ := X0.specialBack hx (y := Y10_) rfl hown (mvT hZ (oW hw 311 rfl)) (mvT hZ (oW hw 172 rfl)) (mvT hZ (oW hw 175 rfl)) (by decide) (backOf (W := 0) (r_ail l Z a0 hw [] s_D s_L s_LE s_E s_Z mr kd_ kl_ h0 n0 O0 G0 a1) hZ (oW hw 175 rfl) (oW hw 99 rfl) (by decide) (by decide)) (g := (mkF m 1 #[vR (a1), vR (x0_), vR (x1_)] [(.ref a1)])) rfl (by rw [hml]; rfl) (Steps.refl _) (a := a1) (argsL := []) (rest := []) (lenOf pd_0 rfl) rfl (by exact Nat.le_of_eq rfl) (hb hby d51_1) (fun _ _ => ⟨rfl, e0, (by decide : 0 + 0 ≤ _), (by decide : 0 + 0 ≤ _)⟩)
  dsimp only [Pt.U, Pt.locs, Pt.cells, Pt.slots] at X1 l1 y1 z1 st1 hQ1
  subst l1 y1 z1
  obtain ⟨rfl, N1q, e1⟩ := hQ1
  have N1 := Fr.app N0 N1q
  obtain ⟨_, _, ⟨T2, L2, k2, n2⟩, -, X2, ⟨Lc2, hQ2, l2, y2, z2⟩, st2⟩ := Jvm.LawKit.callS X1 hx (y := Y11_) hown (mvT hZ (oW hw 315 rfl)) (mvT hZ (oW hw 316 rfl)) (mvT hZ (oW hw 144 rfl)) (mvT hZ (oW hw 317 rfl)) (by decide) (backOf (W := 1) (r_rnn l Z a0 hw [] s_D s_L s_LE s_E s_Z mr kd_ kl_ h0 n0 O0 G0 x0_) hZ (oW hw 317 rfl) (oW hw 144 rfl) (by decide) (by decide)) (g := (mkF m 6 #[vR (a1), vR (x0_), vR (x1_)] [(.ref x0_), (.ref a1)])) rfl (by rw [hml]; rfl) (argsL := [(.ref x0_)]) (rest := [(.ref a1)]) (lenOf pd_5 rfl) rfl (by exact Nat.le_of_eq rfl) (hb hby d51_6) (fun _ _ => ⟨rfl, e1, (by decide : 0 + 0 ≤ _), (by decide : 0 + 0 ≤ _)⟩)
  dsimp only [Pt.U, Pt.locs, Pt.cells, Pt.slots] at X2 l2 y2 z2 st2 hQ2
  subst l2 y2 z2
  obtain ⟨rfl, N2q, e2⟩ := hQ2
  have N2 := Fr.app N1 N2q
  obtain ⟨T3, h3, X3, e3, W3, st3⟩ := putF X2 hx hZ hown (host := "") (Or.inl (oW hw 318 rfl)) Via.refl e2 F0 Ea (Or.inr ⟨(oW hw 319 rfl), rfl, hnm⟩) (oW hw 305 rfl) (ty := (.object "java/lang/Object")) (by decide) rfl rfl (g := (mkF m 9 #[vR (a1), vR (x0_), vR (x1_)] [(.ref x0_), (.ref a1)])) rfl rfl (hb hby d51_9)
  have f4 := Ea.wr W3
  have f5 := F1.other W3 (Or.inr (slot_ne (Or.inr (oW hw 322 rfl)) (Or.inr (oW hw 319 rfl)) (by decide) (t := (.object "java/lang/Object")) (t' := (.object "java/lang/Object")) (by decide) (by decide)))
  have O3 := O0.wr W3 ga
  have K3 : Keep h0 h3 [a1] := (Keep.refl h0 [a1]).wr W3 (Or.inl (List.mem_of_getElem? (i := 0) rfl))
  have N3 := Fr.snoc X3 N2 ga
  have f6 := F0.same W3
  obtain ⟨LL7, X7, N7⟩ : ∃ LL, Stand p l e (own_rm_ 4 0 0 48) s m #[(.ref a1), (.ref x0_), (.ref x1_)] below meth c T3 LL 0 0 ∧ Fr n0 LL := ⟨_, X3, N3⟩
  obtain ⟨_, _, ⟨T8, L8, k8, n8⟩, -, X8, ⟨Lc8, hQ8, l8, y8, z8⟩, st8⟩ := Jvm.LawKit.callS X7 hx (y := Y11_) hown (mvT hZ (oW hw 315 rfl)) (mvT hZ (oW hw 316 rfl)) (mvT hZ (oW hw 144 rfl)) (mvT hZ (oW hw 317 rfl)) (by decide) (backOf (W := 1) (r_rnn l Z a0 hw [] s_D s_L s_LE s_E s_Z mr kd_ kl_ h3 n0 O3 G0 x1_) hZ (oW hw 317 rfl) (oW hw 144 rfl) (by decide) (by decide)) (g := (mkF m 14 #[vR (a1), vR (x0_), vR (x1_)] [(.ref x1_), (.ref a1)])) rfl (by rw [hml]; rfl) (argsL := [(.ref x1_)]) (rest := [(.ref a1)]) (lenOf pd_5 rfl) rfl (by exact Nat.le_of_eq rfl) (hb hby d51_14) (fun _ _ => ⟨rfl, e3, (by decide : 0 + 0 ≤ _), (by decide : 0 + 0 ≤ _)⟩)
  dsimp only [Pt.U, Pt.locs, Pt.cells, Pt.slots] at X8 l8 y8 z8 st8 hQ8
  subst l8 y8 z8
  obtain ⟨rfl, N8q, e8⟩ := hQ8
  have N8 := Fr.app N7 N8q
  obtain ⟨T9, h9, X9, e9, W9, st9⟩ := putF X8 hx hZ hown (host := "") (Or.inl (oW hw 321 rfl)) Via.refl e8 f5 f4 (Or.inr ⟨(oW hw 322 rfl), rfl, hnm⟩) (oW hw 305 rfl) (ty := (.object "java/lang/Object")) (by decide) rfl rfl (g := (mkF m 17 #[vR (a1), vR (x0_), vR (x1_)] [(.ref x1_), (.ref a1)])) rfl rfl (hb hby d51_17)
  have f11 := f6.other W9 (Or.inr (slot_ne (Or.inr (oW hw 319 rfl)) (Or.inr (oW hw 322 rfl)) (by decide) (t := (.object "java/lang/Object")) (t' := (.object "java/lang/Object")) (by decide) (by decide)))
  have K9 : Keep h0 h9 [a1] := K3.wr W9 (Or.inl (List.mem_of_getElem? (i := 0) rfl))
  have N9 := Fr.snoc X9 N8 ga
  have f12 := f5.same W9
  obtain ⟨fs, hr, hrun, hended, hW, hsame⟩ := X9.leave (v := none) (fun _ => rfl)
  refine ⟨_, _, pre0 _ ?_, hrun, hended, _, _, rfl, ?_, ⟨_, rfl⟩, hW, hsame.mono (by decide) (by decide)⟩
  · show own_St p e below s₁ m 0 #[vR (a1), vR (x0_), vR (x1_)] [] _
    refine XS.aloadN X0.here hx rfl (hb hby d51_0) rfl rfl ?_
    refine st1.trans ?_
    show own_St p e below T1 m 4 #[vR (a1), vR (x0_), vR (x1_)] [] _
    refine XS.aloadN X1.here hx rfl (hb hby d51_4) rfl rfl ?_
    refine XS.aloadN X1.here hx rfl (hb hby d51_5) rfl rfl ?_
    refine st2 _ ?_
    refine st3 _ ?_
    show own_St p e below T3 m 12 #[vR (a1), vR (x0_), vR (x1_)] [] _
    refine XS.aloadN X3.here hx rfl (hb hby d51_12) rfl rfl ?_
    refine XS.aloadN X3.here hx rfl (hb hby d51_13) rfl rfl ?_
    refine st8 _ ?_
    refine st9 _ ?_
    show own_St p e below T9 m 20 #[vR (a1), vR (x0_), vR (x1_)] [] _
    exact X9.returnOut hx Bd.returns (hb hby d51_20) hr
  · show own_Qtl Z a1 (.ref x0_) (.ref x1_) h0 n0 _ T9.heap _
    rw [e9]
    exact ⟨rfl, N9, K9, f11, f12⟩
def own_Qln (Z : State) (a1 b : Addr) (h0 : Heap) (n0 : Nat) (v : Option Value) (h : Heap) (L : List Loc) : Prop := v = none ∧ Fr n0 L ∧ Keep h0 h [a1] ∧ Fld Z h a1 "java/util/ImmutableCollections$ListN" "elements" "[Ljava/lang/Object;" (.ref b)
theorem d49_0 : D49_ 0 = .ok (.aload_n 0, 1) := by decide +kernel
theorem d49_1 : D49_ 1 = .ok (.invokespecial 1, 3) := by decide +kernel
theorem d49_4 : D49_ 4 = .ok (.aload_n 0, 1) := by decide +kernel
theorem d49_5 : D49_ 5 = .ok (.aload_n 1, 1) := by decide +kernel
theorem d49_6 : D49_ 6 = .ok (.putfield 7, 3) := by decide +kernel
theorem d49_9 : D49_ 9 = .ok (.aload_n 0, 1) := by decide +kernel
theorem d49_10 : D49_ 10 = .ok (.iload_n 2, 1) := by decide +kernel
theorem d49_11 : D49_ 11 = .ok (.putfield 13, 3) := by decide +kernel
theorem d49_14 : D49_ 14 = .ok (.return_, 1) := by decide +kernel
theorem ef_49_14 (m : MethodId) (x0 : Addr) (x1 : Addr) (x2 : Int32) : entryFrame m #[(.ref x0), (.ref x1), (.int x2)] 3 = mkF m 0 #[vR (x0), vR (x1), vI (x2)] [] := by first | (simp [entryFrame, mkF, argsToLocals, Value.category]; done) | rfl
theorem pn_7 : plainName "java/util/ImmutableCollections$ListN" = true := by first | (simp [plainName, overriddenIn]; done) | decide +kernel
theorem r_iln (l Z a0) (hw : own_HW a0 Z) (ws s_D s_L s_LE s_E s_Z mr kd_ kl_ h0 n0) (O0 : Old Z n0 h0) (G : own_Ctx Z Z.heap s_D s_L s_LE s_E s_Z mr kd_ kl_) (a1 a2 : Addr) (Ea : Exa Z h0 a1 "java/util/ImmutableCollections$ListN") (ga : n0 ≤ a1) (F0 : Fld Z h0 a1 "java/util/ImmutableCollections$ListN" "elements" "[Ljava/lang/Object;" .null) (F1 : Fld Z h0 a1 "java/util/ImmutableCollections$ListN" "allowNulls" "Z" (.int (0 : Int32))) :
    oM l Y14_ jdk_45_method_1_code 3 none ws (own_rm_ 4 0 0 48) #[(.ref a1), (.ref a2), (.int (0 : Int32))] Z h0 n0 (own_Qln Z a1 a2) := by
  have G0 := G
  refine MetFree.of_bodySF (plainFor_of_name pn_7) hisR ?_
  intro p e s m args below meth c s₁ Bd hml0 hP hK
  obtain ⟨rfl, hZ, hh⟩ := hP
  have hx := Bd.exec
  have hby := Bd.bytes
  have hml : c.maxLocals = 3 := hml0
  have hown := findClass_of_methodNamed Bd.named
  have hnm := (name_of_methodNamed Bd.named Bd.method).1
  have X0 : Stand p l e (own_rm_ 4 0 0 48) s m #[(.ref a1), (.ref a2), (.int (0 : Int32))] below meth c s₁ [] 0 0 := Stand.of_body Bd
  have e0 : s₁.heap = h0 := by rw [← hh, Bd.state]; rfl
  have N0 := Fr.nil n0
  have pre0 := own_pre (tb := p.tables) (e := e) (below := below) (T := s₁) (ef_49_14 m a1 a2 (0 : Int32))
  obtain ⟨_, _, ⟨T1, L1, k1, n1⟩, -, X1, ⟨Lc1, hQ1, l1, y1, z1⟩, st1⟩ := X0.specialBack hx (y := Y10_) rfl hown (mvT hZ (oW hw 379 rfl)) (mvT hZ (oW hw 172 rfl)) (mvT hZ (oW hw 175 rfl)) (by decide) (backOf (W := 0) (r_ail l Z a0 hw [] s_D s_L s_LE s_E s_Z mr kd_ kl_ h0 n0 O0 G0 a1) hZ (oW hw 175 rfl) (oW hw 99 rfl) (by decide) (by decide)) (g := (mkF m 1 #[vR (a1), vR (a2), vI ((0 : Int32))] [(.ref a1)])) rfl (by rw [hml]; rfl) (Steps.refl _) (a := a1) (argsL := []) (rest := []) (lenOf pd_0 rfl) rfl (by exact Nat.le_of_eq rfl) (hb hby d49_1) (fun _ _ => ⟨rfl, e0, (by decide : 0 + 0 ≤ _), (by decide : 0 + 0 ≤ _)⟩)
  dsimp only [Pt.U, Pt.locs, Pt.cells, Pt.slots] at X1 l1 y1 z1 st1 hQ1
  subst l1 y1 z1
  obtain ⟨rfl, N1q, e1⟩ := hQ1
  have N1 := Fr.app N0 N1q
  obtain ⟨T2, h2, X2, e2, W2, st2⟩ := putF X1 hx hZ hown (host := "") (Or.inl (oW hw 111 rfl)) Via.refl e1 F0 Ea (Or.inr ⟨(oW hw 112 rfl), rfl, hnm⟩) (oW hw 374 rfl) (ty := (.array (.object "java/lang/Object"))) (by decide) rfl rfl (g := (mkF m 6 #[vR (a1), vR (a2), vI ((0 : Int32))] [(.ref a2), (.ref a1)])) rfl rfl (hb hby d49_6)
  have f3 := Ea.wr W2
  have f4 := F1.other W2 (Or.inr (slot_ne (Or.inr (oW hw 384 rfl)) (Or.inr (oW hw 112 rfl)) (by decide) (t := .boolean) (t' := (.array (.object "java/lang/Object"))) (by decide) (by decide)))
  have K2 : Keep h0 h2 [a1] := (Keep.refl h0 [a1]).wr W2 (Or.inl (List.mem_of_getElem? (i := 0) rfl))
  have N2 := Fr.snoc X2 N1 ga
  have f5 := F0.same W2
  obtain ⟨T6, h6, X6, e6, W6, st6⟩ := putFN X2 hx hZ hown (oW hw 383 rfl) Via.refl e2 f4 f3 (Or.inr ⟨(oW hw 384 rfl), rfl, hnm⟩) (oW hw 374 rfl) (ty := .boolean) (v' := (.int (0 : Int32))) (by decide) rfl rfl (g := (mkF m 11 #[vR (a1), vR (a2), vI ((0 : Int32))] [(.int (0 : Int32)), (.ref a1)])) rfl rfl (hb hby d49_11)
  have f8 := f5.other W6 (Or.inr (slot_ne (Or.inr (oW hw 112 rfl)) (Or.inr (oW hw 384 rfl)) (by decide) (t := (.array (.object "java/lang/Object"))) (t' := .boolean) (by decide) (by decide)))
  have K6 : Keep h0 h6 [a1] := K2.wr W6 (Or.inl (List.mem_of_getElem? (i := 0) rfl))
  have N6 := Fr.snoc X6 N2 ga
  obtain ⟨fs, hr, hrun, hended, hW, hsame⟩ := X6.leave (v := none) (fun _ => rfl)
  refine ⟨_, _, pre0 _ ?_, hrun, hended, _, _, rfl, ?_, ⟨_, rfl⟩, hW, hsame.mono (by decide) (by decide)⟩
  · show own_St p e below s₁ m 0 #[vR (a1), vR (a2), vI ((0 : Int32))] [] _
    refine XS.aloadN X0.here hx rfl (hb hby d49_0) rfl rfl ?_
    refine st1.trans ?_
    show own_St p e below T1 m 4 #[vR (a1), vR (a2), vI ((0 : Int32))] [] _
    refine XS.aloadN X1.here hx rfl (hb hby d49_4) rfl rfl ?_
    refine XS.aloadN X1.here hx rfl (hb hby d49_5) rfl rfl ?_
    refine st2 _ ?_
    show own_St p e below T2 m 9 #[vR (a1), vR (a2), vI ((0 : Int32))] [] _
    refine XS.aloadN X2.here hx rfl (hb hby d49_9) rfl rfl ?_
    refine XS.iloadN X2.here hx rfl (hb hby d49_10) rfl ?_
    refine st6 _ ?_
    show own_St p e below T6 m 14 #[vR (a1), vR (a2), vI ((0 : Int32))] [] _
    exact X6.returnOut hx Bd.returns (hb hby d49_14) hr
  · show own_Qln Z a1 a2 h0 n0 _ T6.heap _
    rw [e6]
    exact ⟨rfl, N6, K6, f8⟩
def own_Exs (Z : State) (h : Heap) (xs : List Addr) : Prop := ∀ j (hj : j < xs.length), Exa Z h xs[j] "com/example/hodos/hodos/analysis/Course$Arc"
theorem own_StoL {Z : State} {h : Heap} {b : Addr} : ∀ {us : List Value}, (∀ v ∈ us, Sto Z h b v) → StoL Z h b us
  | [], _ => trivial
  | v :: us, q => ⟨q v List.mem_cons_self, own_StoL (fun w hw => q w (List.mem_cons_of_mem _ hw))⟩
theorem own_cpS {Z : State} {a0 : Array Value} {h : Heap} {b : Addr} {c : Cell} {k : ClassId} {ty : FieldType} (A : Arr Z h b c ty) (q : c.cls = k) (O : Ovr Z k "java/lang/Object") {xs : List Addr} (X : own_Exs Z h xs) (w : (Cond.castable "com/example/hodos/hodos/analysis/Course$Arc" "java/lang/Object").before a0 Z = true) {nn : Nat} (hn : nn ≤ xs.length) : StoL Z h b ((List.range nn).map (fun i => (xs.map Value.ref).getD ((0 : Int32).toNatClampNeg + i) .null)) := own_StoL (fun v hv => by
  obtain ⟨i, hi, rfl⟩ := List.mem_map.mp hv
  have hi' : i < xs.length := Nat.lt_of_lt_of_le (List.mem_range.mp hi) hn
  rw [show (0 : Int32).toNatClampNeg + i = i from Nat.zero_add i, own_atR hi']
  exact Sto.ofV A q O (Ins.of_exa (X i hi') w))
theorem own_cpR {xs : List Addr} {vd : List Value} (hv : vd.length = xs.length) : vd.take ((0 : Int32).toNatClampNeg) ++ (List.range xs.length).map (fun i => (xs.map Value.ref).getD ((0 : Int32).toNatClampNeg + i) .null) ++ vd.drop ((0 : Int32).toNatClampNeg + xs.length) = xs.map Value.ref := by
  have z : (0 : Int32).toNatClampNeg = 0 := rfl
  rw [z, List.take_zero, List.nil_append, Nat.zero_add, List.drop_of_length_le (by omega), List.append_nil]
  apply List.ext_getElem
  · simp
  · intro i h1 h2
    have h3 : i < xs.length := by simpa using h2
    simp only [List.getElem_map, List.getElem_range, Nat.zero_add]
    rw [own_atR h3]
theorem own_le10 {n : Nat} (h : n ≤ 4) : n ≤ 10 := by omega
theorem own_cq4 {n : Nat} (h : n ≤ 4) : (0 : Int32).toNatClampNeg + n.toInt32.toNatClampNeg ≤ (10 : Int32).toNatClampNeg ∧ (0 : Int32).toNatClampNeg + n.toInt32.toNatClampNeg ≤ n.toInt32.toNatClampNeg ∧ n.toInt32.toNatClampNeg ≤ n := by
  have e : n.toInt32.toNatClampNeg = n := (own_ti (by omega)).1
  rw [e]
  refine ⟨?_, ?_, Nat.le_refl _⟩
  · show 0 + n ≤ 10; omega
  · show 0 + n ≤ n; omega
theorem own_cq5 {n : Nat} (h : n ≤ 4) {x : Value} : (0 : Int32).toNatClampNeg + n.toInt32.toNatClampNeg ≤ (List.replicate n x).length := by
  rw [(own_ti (by omega)).1, List.length_replicate]; show 0 + n ≤ n; omega
theorem own_nz1 {n : Nat} (h : 1 ≤ n) (hn : n ≤ 4) : ¬ (n.toInt32 = (0 : Int32)) := by
  have h3 : n = 1 ∨ n = 2 ∨ n = 3 ∨ n = 4 := by omega
  rcases h3 with rfl | rfl | rfl | rfl <;> decide
def own_Qcp (Z : State) (xs : List Addr) (h0 : Heap) (n0 : Nat) (v : Option Value) (h : Heap) (L : List Loc) : Prop := ∃ (b : Addr) (kb : ClassId), v = some (.ref b) ∧ Fr n0 L ∧ Keep h0 h [] ∧ h0.size ≤ b ∧ Exa Z h b "[Ljava/lang/Object;" ∧ Arv Z h b kb (.object "java/lang/Object") xs.length.toInt32 (xs.map Value.ref) .null ∧ Ovr Z kb "java/lang/Object"

theorem d38_0 : D38_ 0 = .ok (.aload_n 2, 1) := by decide +kernel
theorem d38_1 : D38_ 1 = .ok (.ldc 110, 2) := by decide +kernel
theorem d38_3 : D38_ 3 = .ok (.if_acmp .ne 10, 3) := by decide +kernel
theorem d38_6 : D38_ 6 = .ok (.iload_n 1, 1) := by decide +kernel
theorem d38_7 : D38_ 7 = .ok (.anewarray 2, 3) := by decide +kernel
theorem d38_10 : D38_ 10 = .ok (.goto 14, 3) := by decide +kernel
theorem d38_24 : D38_ 24 = .ok (.astore_n 3, 1) := by decide +kernel
theorem d38_25 : D38_ 25 = .ok (.aload_n 0, 1) := by decide +kernel
theorem d38_26 : D38_ 26 = .ok (.iconst 0, 1) := by decide +kernel
theorem d38_27 : D38_ 27 = .ok (.aload_n 3, 1) := by decide +kernel
theorem d38_28 : D38_ 28 = .ok (.iconst 0, 1) := by decide +kernel
theorem d38_29 : D38_ 29 = .ok (.aload_n 0, 1) := by decide +kernel
theorem d38_30 : D38_ 30 = .ok (.arraylength, 1) := by decide +kernel
theorem d38_31 : D38_ 31 = .ok (.iload_n 1, 1) := by decide +kernel
theorem d38_32 : D38_ 32 = .ok (.invokestatic 304, 3) := by decide +kernel
theorem d38_35 : D38_ 35 = .ok (.invokestatic 150, 3) := by decide +kernel
theorem d38_38 : D38_ 38 = .ok (.aload_n 3, 1) := by decide +kernel
theorem d38_39 : D38_ 39 = .ok (.areturn, 1) := by decide +kernel
theorem ef_38_15 (m : MethodId) (x0 : Addr) (x1 : Int32) (x2 : Addr) : entryFrame m #[(.ref x0), (.int x1), (.ref x2)] 4 = mkF m 0 #[vR (x0), vI (x1), vR (x2), .unset] [] := by first | (simp [entryFrame, mkF, argsToLocals, Value.category]; done) | rfl
theorem pn_8 : plainName "java/util/Arrays" = true := by first | (simp [plainName, overriddenIn]; done) | decide +kernel
theorem r_cpa (l Z a0) (hw : own_HW a0 Z) (ws s_D s_L s_LE s_E s_Z mr kd_ kl_ h0 n0) (O0 : Old Z n0 h0) (G : own_Ctx Z Z.heap s_D s_L s_LE s_E s_Z mr kd_ kl_) (a2 : Addr) (k2 : ClassId) (xs : List Addr) (Ed : Exa Z h0 a2 "[Ljava/lang/Object;") (Vd : Arv Z h0 a2 k2 (.object "java/lang/Object") (10 : Int32) (xs.map Value.ref) .null) (Xs : own_Exs Z h0 xs) (hn : xs.length ≤ 4) :
    oM l Y15_ jdk_65_method_120_code 4 (some (.array (.object "java/lang/Object"))) ws (own_rm_ 1 1 4 40) #[(.ref a2), (.int xs.length.toInt32), (.ref mr)] Z h0 n0 (own_Qcp Z xs) := by
  have G0 := G
  obtain ⟨S_D, E_D, V_D, S_L, E_L, F_L, V_L, S_E, E_E, S_A, S_Z, E_Z, M_A⟩ := G
  refine MetFree.of_bodySF (plainFor_of_name pn_8) hisR ?_
  intro p e s m args below meth c s₁ Bd hml0 hP hK
  obtain ⟨rfl, hZ, hh⟩ := hP
  have hx := Bd.exec
  have hby := Bd.bytes
  have hml : c.maxLocals = 4 := hml0
  have hown := findClass_of_methodNamed Bd.named
  have X0 : Stand p l e (own_rm_ 1 1 4 40) s m #[(.ref a2), (.int xs.length.toInt32), (.ref mr)] below meth c s₁ [] 0 0 := Stand.of_body Bd
  have e0 : s₁.heap = h0 := by rw [← hh, Bd.state]; rfl
  have N0 := Fr.nil n0
  have pre0 := own_pre (tb := p.tables) (e := e) (below := below) (T := s₁) (ef_38_15 m a2 xs.length.toInt32 mr)
  obtain ⟨T1, X1, e1, st1⟩ := own_ldcM X0 hx hZ hown (oW hw 294 rfl) e0 M_A (g := (mkF m 1 #[vR (a2), vI (xs.length.toInt32), vR (mr), .unset] [(.ref mr)])) rfl (hb hby d38_1)
  obtain ⟨T2, h2, ka2, X2, e2, E2, A2, B2, Ov2, st2⟩ := newRE X1 hx hZ hown (oW hw 295 rfl) (oW hw 271 rfl) e1 (g := (mkF m 7 #[vR (a2), vI (xs.length.toInt32), vR (mr), .unset] [(.int xs.length.toInt32)])) rfl (hb hby d38_7) rfl (own_ti (own_k hn)).2.1 (cap := 4) (own_capn hn) (by decide) (by decide) (by decide) (ad := "[Ljava/lang/Object;") rfl
  obtain ⟨b2, g2⟩ := oZ h0.size
  have g_b2 : n0 ≤ b2 := Nat.le_trans (O0.1 ▸ O0.2.1) (Nat.le_of_eq g2.symm)
  have sz_b2 : h0.size ≤ b2 := Nat.le_trans (Keep.refl h0 []).1 (Nat.le_of_eq g2.symm)
  rw [← g2] at A2 B2 st2
  have f4 := Vd.ext E2
  have O2 := O0.ext E2
  have K2 : Keep h0 h2 [] := (Keep.refl h0 []).ext E2
  have xs2 : own_Exs Z h2 xs := (fun j hj => (Xs j hj).ext E2)
  have V2 : Arv Z h2 b2 ka2 (.object "java/lang/Object") xs.length.toInt32 (List.replicate xs.length Value.null) .null := (Arv.new A2 (own_ti (own_k hn)).2.1).pad (pad_rep [] .null xs.length)
  have vc5 := f4
  obtain ⟨cl5, Ar5, qk5, S5, Nn5, Hs5, Gf5⟩ := vc5
  obtain ⟨_, _, ⟨T6, L6, k6, n6⟩, -, X6, ⟨Lc6, hQ6, l6, y6, z6⟩, st6⟩ := Jvm.LawKit.callS X2 hx (y := Y8_) hown (mvT hZ (oW hw 296 rfl)) (mvT hZ (oW hw 1 rfl)) (mvT hZ (oW hw 2 rfl)) (mvT hZ (oW hw 3 rfl)) (by decide) (backOf (W := 4) (r_mi l Z a0 hw [] s_D s_L s_LE s_E s_Z mr kd_ kl_ h2 n0 O2 G0 10 xs.length (by decide) (Nat.le_trans hn (by decide))) hZ (oW hw 3 rfl) (oW hw 2 rfl) (by decide) (by decide)) (g := (mkF m 32 #[vR (a2), vI (xs.length.toInt32), vR (mr), vR (b2)] [(.int xs.length.toInt32), (.int (10 : Int32)), (.int (0 : Int32)), (.ref b2), (.int (0 : Int32)), (.ref a2)])) rfl (by rw [hml]; rfl) (argsL := [(.int (10 : Int32)), (.int xs.length.toInt32)]) (rest := [(.int (0 : Int32)), (.ref b2), (.int (0 : Int32)), (.ref a2)]) (lenOf pd_1 rfl) rfl (by exact Nat.le_of_eq rfl) (hb hby d38_32) (fun _ _ => ⟨rfl, e2, (by decide : 1 + 0 ≤ _), (by decide : 4 + 0 ≤ _)⟩)
  dsimp only [Pt.U, Pt.locs, Pt.cells, Pt.slots] at X6 l6 y6 z6 st6 hQ6
  subst l6 y6 z6
  obtain ⟨rfl, N6q, e6⟩ := hQ6
  have N6 := Fr.app N0 N6q
  have vc7 := V2
  obtain ⟨cl7, Ar7, qk7, S7, Nn7, Hs7, Gf7⟩ := vc7
  obtain ⟨T8, h8, L8, X8, e8, N8, Kc8, Vc8, st8⟩ := cpA X6 hx hZ hown (oW hw 297 rfl) (oW hw 300 rfl) (oW hw 298 rfl) (oW hw 299 rfl) e6 f4 V2 (Or.inr ⟨rfl, rfl, own_cpS Ar7 qk7 Ov2 xs2 (oW hw 272 rfl) (own_cq4 hn).2.2⟩) (by decide) (by decide) (own_ti (own_k hn)).2.1 (own_cq4 hn).1 (own_cq4 hn).2.1 rfl (own_cq5 hn) N6 g_b2 (g := (mkF m 35 #[vR (a2), vI (xs.length.toInt32), vR (mr), vR (b2)] [(.int xs.length.toInt32), (.int (0 : Int32)), (.ref b2), (.int (0 : Int32)), (.ref a2)])) rfl (by rw [hml]; rfl) rfl (hb hby d38_35) (by decide) (W := 0) (by exact Nat.le_of_eq rfl) (by decide)
  have f11 := B2.keep Kc8
  have K8 : Keep h0 h8 [] := K2.trans Kc8 (allS (Or.inr sz_b2) all0)
  have xs8 : own_Exs Z h8 xs := (fun j hj => (xs2 j hj).keep Kc8)
  have f12 : Arv Z h8 b2 ka2 (.object "java/lang/Object") xs.length.toInt32 (xs.map Value.ref) .null := (by have q := Vc8; rw [(own_ti (own_k hn)).1, own_cpR (List.length_replicate)] at q; exact q)
  obtain ⟨fs, hr, hrun, hended, hW, hsame⟩ := X8.leave (v := some (.ref b2)) (oR Bd.returns)
  refine ⟨_, _, pre0 _ ?_, hrun, hended, _, _, rfl, ?_, ⟨_, rfl⟩, hW, hsame.mono (by decide) (by decide)⟩
  · show own_St p e below s₁ m 0 #[vR (a2), vI (xs.length.toInt32), vR (mr), .unset] [] _
    refine XS.aloadN X0.here hx rfl (hb hby d38_0) rfl rfl ?_
    refine st1 _ ?_
    show own_St p e below T1 m 3 #[vR (a2), vI (xs.length.toInt32), vR (mr), .unset] [(.ref mr), (.ref mr)] _
    refine Jvm.RoadKit.acmp (g := (mkF m 3 #[vR (a2), vI (xs.length.toInt32), vR (mr), .unset] [(.ref mr), (.ref mr)])) X1 hx rfl rfl rfl (pc0 := 3) (pc' := 6) (same := true) rfl (hb hby d38_3) rfl (decide_eq_true rfl) (by decide) (by decide) ?_
    show own_St p e below T1 m 6 #[vR (a2), vI (xs.length.toInt32), vR (mr), .unset] [] _
    refine XS.iloadN X1.here hx rfl (hb hby d38_6) rfl ?_
    refine st2 _ ?_
    show own_St p e below T2 m 10 #[vR (a2), vI (xs.length.toInt32), vR (mr), .unset] [(.ref b2)] _
    refine XS.goto X2.here hx rfl (pc0 := 10) (pc' := 24) rfl (hb hby d38_10) (by decide) (by decide) ?_
    refine XS.astoreN X2.here hx rfl (hb hby d38_24) rfl rfl (l' := #[vR (a2), vI (xs.length.toInt32), vR (mr), vR (b2)]) rfl ?_
    refine XS.aloadN X2.here hx rfl (hb hby d38_25) rfl rfl ?_
    refine XS.iconst X2.here hx rfl (hb hby d38_26) ?_
    refine XS.aloadN X2.here hx rfl (hb hby d38_27) rfl rfl ?_
    refine XS.iconst X2.here hx rfl (hb hby d38_28) ?_
    refine XS.aloadN X2.here hx rfl (hb hby d38_29) rfl rfl ?_
    show own_St p e below T2 m 30 #[vR (a2), vI (xs.length.toInt32), vR (mr), vR (b2)] [(.ref a2), (.int (0 : Int32)), (.ref b2), (.int (0 : Int32)), (.ref a2)] _
    refine X2.arraylength hx (by rw [e2]; exact Ar5.1) (State.isArrayOf_alike hZ.alike Ar5.2.1) (g := (mkF m 30 #[vR (a2), vI (xs.length.toInt32), vR (mr), vR (b2)] [(.ref a2), (.int (0 : Int32)), (.ref b2), (.int (0 : Int32)), (.ref a2)])) rfl rfl (hb hby d38_30) _ ?_
    rw [len_of S5 Nn5]
    show own_St p e below T2 m 31 #[vR (a2), vI (xs.length.toInt32), vR (mr), vR (b2)] [(.int (10 : Int32)), (.int (0 : Int32)), (.ref b2), (.int (0 : Int32)), (.ref a2)] _
    refine XS.iloadN X2.here hx rfl (hb hby d38_31) rfl ?_
    refine st6 _ ?_
    show own_St p e below T6 m 35 #[vR (a2), vI (xs.length.toInt32), vR (mr), vR (b2)] [(.int (min 10 xs.length).toInt32), (.int (0 : Int32)), (.ref b2), (.int (0 : Int32)), (.ref a2)] _
    rw [Nat.min_eq_right (own_le10 hn)]
    refine st8 _ ?_
    show own_St p e below T8 m 38 #[vR (a2), vI (xs.length.toInt32), vR (mr), vR (b2)] [] _
    refine XS.aloadN X8.here hx rfl (hb hby d38_38) rfl rfl ?_
    show own_St p e below T8 m 39 #[vR (a2), vI (xs.length.toInt32), vR (mr), vR (b2)] [(.ref b2)] _
    exact retOut X8 hx Bd.returns rfl (Or.inr (Or.inr (Or.inr (Or.inr ⟨rfl, rfl, rfl⟩)))) (hb hby d38_39) hr
  · show own_Qcp Z xs h0 n0 _ T8.heap _
    rw [e8]
    exact ⟨b2, ka2, rfl, N8, K8, sz_b2, f11, f12, Ov2⟩
theorem d37_0 : D37_ 0 = .ok (.aload_n 0, 1) := by decide +kernel
theorem d37_1 : D37_ 1 = .ok (.iload_n 1, 1) := by decide +kernel
theorem d37_2 : D37_ 2 = .ok (.aload_n 0, 1) := by decide +kernel
theorem d37_3 : D37_ 3 = .ok (.invokevirtual 86, 3) := by decide +kernel
theorem d37_6 : D37_ 6 = .ok (.invokestatic 300, 3) := by decide +kernel
theorem pd_6 : parseMethodDescriptor "([Ljava/lang/Object;ILjava/lang/Class;)[Ljava/lang/Object;" = some ⟨[(.array (.object "java/lang/Object")), .int, (.object "java/lang/Class")], some (.array (.object "java/lang/Object"))⟩ := by decide +kernel
theorem d37_9 : D37_ 9 = .ok (.areturn, 1) := by decide +kernel
theorem ef_37_16 (m : MethodId) (x0 : Addr) (x1 : Int32) : entryFrame m #[(.ref x0), (.int x1)] 2 = mkF m 0 #[vR (x0), vI (x1)] [] := by first | (simp [entryFrame, mkF, argsToLocals, Value.category]; done) | rfl
theorem r_cpb (l Z a0) (hw : own_HW a0 Z) (ws s_D s_L s_LE s_E s_Z mr kd_ kl_ h0 n0) (O0 : Old Z n0 h0) (G : own_Ctx Z Z.heap s_D s_L s_LE s_E s_Z mr kd_ kl_) (a2 : Addr) (k2 : ClassId) (xs : List Addr) (Ed : Exa Z h0 a2 "[Ljava/lang/Object;") (Vd : Arv Z h0 a2 k2 (.object "java/lang/Object") (10 : Int32) (xs.map Value.ref) .null) (Xs : own_Exs Z h0 xs) (hn : xs.length ≤ 4) :
    oM l Y16_ jdk_65_method_119_code 2 (some (.array (.object "java/lang/Object"))) ws (own_rm_ 2 1 4 55) #[(.ref a2), (.int xs.length.toInt32)] Z h0 n0 (own_Qcp Z xs) := by
  have G0 := G
  obtain ⟨S_D, E_D, V_D, S_L, E_L, F_L, V_L, S_E, E_E, S_A, S_Z, E_Z, M_A⟩ := G
  refine MetFree.of_bodySF (plainFor_of_name pn_8) hisR ?_
  intro p e s m args below meth c s₁ Bd hml0 hP hK
  obtain ⟨rfl, hZ, hh⟩ := hP
  have hx := Bd.exec
  have hby := Bd.bytes
  have hml : c.maxLocals = 2 := hml0
  have hown := findClass_of_methodNamed Bd.named
  have X0 : Stand p l e (own_rm_ 2 1 4 55) s m #[(.ref a2), (.int xs.length.toInt32)] below meth c s₁ [] 0 0 := Stand.of_body Bd
  have e0 : s₁.heap = h0 := by rw [← hh, Bd.state]; rfl
  have N0 := Fr.nil n0
  have pre0 := own_pre (tb := p.tables) (e := e) (below := below) (T := s₁) (ef_37_16 m a2 xs.length.toInt32)
  obtain ⟨T1, X1, e1, st1⟩ := own_gcls X0 hx hZ hown (oW hw 285 rfl) (oW hw 286 rfl) (oW hw 62 rfl) (oW hw 288 rfl) (oW hw 287 rfl) (oW hw 289 rfl) e0 Ed M_A (g := (mkF m 3 #[vR (a2), vI (xs.length.toInt32)] [(.ref a2), (.int xs.length.toInt32), (.ref a2)])) rfl (by rw [hml]; rfl) rfl (hb hby d37_3) (by decide) (W := 2) (by exact Nat.le_of_eq rfl) (by decide)
  obtain ⟨_, _, ⟨T2, L2, k2, n2⟩, -, X2, ⟨Lc2, hQ2, l2, y2, z2⟩, st2⟩ := Jvm.LawKit.callS X1 hx (y := Y15_) hown (mvT hZ (oW hw 291 rfl)) (mvT hZ (oW hw 292 rfl)) (mvT hZ (oW hw 283 rfl)) (mvT hZ (oW hw 293 rfl)) (by decide) (backOf (W := 0) (r_cpa l Z a0 hw [] s_D s_L s_LE s_E s_Z mr kd_ kl_ h0 n0 O0 G0 a2 k2 xs Ed Vd Xs hn) hZ (oW hw 293 rfl) (oW hw 283 rfl) (by decide) (by decide)) (g := (mkF m 6 #[vR (a2), vI (xs.length.toInt32)] [(.ref mr), (.int xs.length.toInt32), (.ref a2)])) rfl (by rw [hml]; rfl) (argsL := [(.ref a2), (.int xs.length.toInt32), (.ref mr)]) (rest := []) (lenOf pd_6 rfl) rfl (by exact Nat.le_of_eq rfl) (hb hby d37_6) (fun _ _ => ⟨rfl, e1, (by decide : 0 + 1 ≤ _), (by decide : 0 + 4 ≤ _)⟩)
  dsimp only [Pt.U, Pt.locs, Pt.cells, Pt.slots] at X2 l2 y2 z2 st2 hQ2
  subst l2 y2 z2
  obtain ⟨t2, kt2, rfl, N2q, Kq2, gt2, Et2, Vt2, Ot2⟩ := hQ2
  have N2 := Fr.app N0 N2q
  have sz_t2 : h0.size ≤ t2 := Nat.le_trans (Keep.refl h0 []).1 gt2
  have K2 : Keep h0 T2.heap [] := (Keep.refl h0 []).trans Kq2 all0
  have xs2 : own_Exs Z T2.heap xs := (fun j hj => (Xs j hj).keep Kq2)
  obtain ⟨fs, hr, hrun, hended, hW, hsame⟩ := X2.leave (v := some (.ref t2)) (oR Bd.returns)
  refine ⟨_, _, pre0 _ ?_, hrun, hended, _, _, rfl, ?_, ⟨_, rfl⟩, hW, hsame.mono (by decide) (by decide)⟩
  · show own_St p e below s₁ m 0 #[vR (a2), vI (xs.length.toInt32)] [] _
    refine XS.aloadN X0.here hx rfl (hb hby d37_0) rfl rfl ?_
    refine XS.iloadN X0.here hx rfl (hb hby d37_1) rfl ?_
    refine XS.aloadN X0.here hx rfl (hb hby d37_2) rfl rfl ?_
    refine st1 _ ?_
    refine st2 _ ?_
    show own_St p e below T2 m 9 #[vR (a2), vI (xs.length.toInt32)] [(.ref t2)] _
    exact retOut X2 hx Bd.returns rfl (Or.inr (Or.inr (Or.inr (Or.inr ⟨rfl, rfl, rfl⟩)))) (hb hby d37_9) hr
  · show own_Qcp Z xs h0 n0 _ T2.heap _
    exact ⟨t2, kt2, rfl, N2, K2, sz_t2, Et2, Vt2, Ot2⟩
theorem d36_0 : D36_ 0 = .ok (.aload_n 0, 1) := by decide +kernel
theorem d36_1 : D36_ 1 = .ok (.getfield 9, 3) := by decide +kernel
theorem d36_4 : D36_ 4 = .ok (.aload_n 0, 1) := by decide +kernel
theorem d36_5 : D36_ 5 = .ok (.getfield 48, 3) := by decide +kernel
theorem d36_8 : D36_ 8 = .ok (.invokestatic 66, 3) := by decide +kernel
theorem pd_7 : parseMethodDescriptor "([Ljava/lang/Object;I)[Ljava/lang/Object;" = some ⟨[(.array (.object "java/lang/Object")), .int], some (.array (.object "java/lang/Object"))⟩ := by decide +kernel
theorem d36_11 : D36_ 11 = .ok (.areturn, 1) := by decide +kernel
theorem ef_36_17 (m : MethodId) (x0 : Addr) : entryFrame m #[(.ref x0)] 1 = mkF m 0 #[vR (x0)] [] := by first | (simp [entryFrame, mkF, argsToLocals, Value.category]; done) | rfl
theorem r_ta (l Z a0) (hw : own_HW a0 Z) (ws s_D s_L s_LE s_E s_Z mr kd_ kl_ h0 n0) (O0 : Old Z n0 h0) (G : own_Ctx Z Z.heap s_D s_L s_LE s_E s_Z mr kd_ kl_) (a1 : Addr) (a2 : Addr) (k2 : ClassId) (xs : List Addr) (Fe : Fld Z h0 a1 "java/util/ArrayList" "elementData" "[Ljava/lang/Object;" (.ref a2)) (Fs : Fld Z h0 a1 "java/util/ArrayList" "size" "I" (.int xs.length.toInt32)) (Ed : Exa Z h0 a2 "[Ljava/lang/Object;") (Vd : Arv Z h0 a2 k2 (.object "java/lang/Object") (10 : Int32) (xs.map Value.ref) .null) (Xs : own_Exs Z h0 xs) (hn : xs.length ≤ 4) :
    oM l Y17_ jdk_38_method_16_code 1 (some (.array (.object "java/lang/Object"))) ws (own_rm_ 3 1 4 68) #[(.ref a1)] Z h0 n0 (own_Qcp Z xs) := by
  have G0 := G
  obtain ⟨S_D, E_D, V_D, S_L, E_L, F_L, V_L, S_E, E_E, S_A, S_Z, E_Z, M_A⟩ := G
  refine MetFree.of_bodySF (plainFor_of_name pn_2) hisR ?_
  intro p e s m args below meth c s₁ Bd hml0 hP hK
  obtain ⟨rfl, hZ, hh⟩ := hP
  have hx := Bd.exec
  have hby := Bd.bytes
  have hml : c.maxLocals = 1 := hml0
  have hown := findClass_of_methodNamed Bd.named
  have X0 : Stand p l e (own_rm_ 3 1 4 68) s m #[(.ref a1)] below meth c s₁ [] 0 0 := Stand.of_body Bd
  have e0 : s₁.heap = h0 := by rw [← hh, Bd.state]; rfl
  have N0 := Fr.nil n0
  have pre0 := own_pre (tb := p.tables) (e := e) (below := below) (T := s₁) (ef_36_17 m a1)
  obtain ⟨T1, X1, e1, st1⟩ := getF X0 hx hZ hown (host := "") (Or.inl (oW hw 30 rfl)) Via.refl e0 Fe (g := (mkF m 1 #[vR (a1)] [(.ref a1)])) rfl rfl (hb hby d36_1)
  obtain ⟨T2, X2, e2, st2⟩ := getF X1 hx hZ hown (host := "") (Or.inl (oW hw 73 rfl)) Via.refl e1 Fs (g := (mkF m 5 #[vR (a1)] [(.ref a1), (.ref a2)])) rfl rfl (hb hby d36_5)
  obtain ⟨_, _, ⟨T3, L3, k3, n3⟩, -, X3, ⟨Lc3, hQ3, l3, y3, z3⟩, st3⟩ := Jvm.LawKit.callS X2 hx (y := Y16_) hown (mvT hZ (oW hw 281 rfl)) (mvT hZ (oW hw 282 rfl)) (mvT hZ (oW hw 283 rfl)) (mvT hZ (oW hw 284 rfl)) (by decide) (backOf (W := 0) (r_cpb l Z a0 hw [] s_D s_L s_LE s_E s_Z mr kd_ kl_ h0 n0 O0 G0 a2 k2 xs Ed Vd Xs hn) hZ (oW hw 284 rfl) (oW hw 283 rfl) (by decide) (by decide)) (g := (mkF m 8 #[vR (a1)] [(.int xs.length.toInt32), (.ref a2)])) rfl (by rw [hml]; rfl) (argsL := [(.ref a2), (.int xs.length.toInt32)]) (rest := []) (lenOf pd_7 rfl) rfl (by exact Nat.le_of_eq rfl) (hb hby d36_8) (fun _ _ => ⟨rfl, e2, (by decide : 0 + 1 ≤ _), (by decide : 0 + 4 ≤ _)⟩)
  dsimp only [Pt.U, Pt.locs, Pt.cells, Pt.slots] at X3 l3 y3 z3 st3 hQ3
  subst l3 y3 z3
  obtain ⟨t3, kt3, rfl, N3q, Kq3, gt3, Et3, Vt3, Ot3⟩ := hQ3
  have N3 := Fr.app N0 N3q
  have sz_t3 : h0.size ≤ t3 := Nat.le_trans (Keep.refl h0 []).1 gt3
  have K3 : Keep h0 T3.heap [] := (Keep.refl h0 []).trans Kq3 all0
  have xs3 : own_Exs Z T3.heap xs := (fun j hj => (Xs j hj).keep Kq3)
  obtain ⟨fs, hr, hrun, hended, hW, hsame⟩ := X3.leave (v := some (.ref t3)) (oR Bd.returns)
  refine ⟨_, _, pre0 _ ?_, hrun, hended, _, _, rfl, ?_, ⟨_, rfl⟩, hW, hsame.mono (by decide) (by decide)⟩
  · show own_St p e below s₁ m 0 #[vR (a1)] [] _
    refine XS.aloadN X0.here hx rfl (hb hby d36_0) rfl rfl ?_
    refine st1 _ ?_
    show own_St p e below T1 m 4 #[vR (a1)] [(.ref a2)] _
    refine XS.aloadN X1.here hx rfl (hb hby d36_4) rfl rfl ?_
    refine st2 _ ?_
    refine st3 _ ?_
    show own_St p e below T3 m 11 #[vR (a1)] [(.ref t3)] _
    exact retOut X3 hx Bd.returns rfl (Or.inr (Or.inr (Or.inr (Or.inr ⟨rfl, rfl, rfl⟩)))) (hb hby d36_11) hr
  · show own_Qcp Z xs h0 n0 _ T3.heap _
    exact ⟨t3, kt3, rfl, N3, K3, sz_t3, Et3, Vt3, Ot3⟩
theorem d48_0 : D48_ 0 = .ok (.aload_n 0, 1) := by decide +kernel
theorem d48_1 : D48_ 1 = .ok (.arraylength, 1) := by decide +kernel
theorem d48_2 : D48_ 2 = .ok (.anewarray 2, 3) := by decide +kernel
theorem d48_5 : D48_ 5 = .ok (.astore_n 1, 1) := by decide +kernel
theorem d48_6 : D48_ 6 = .ok (.iconst 0, 1) := by decide +kernel
theorem d48_7 : D48_ 7 = .ok (.istore_n 2, 1) := by decide +kernel
theorem d48_8 : D48_ 8 = .ok (.iload_n 2, 1) := by decide +kernel
theorem d48_9 : D48_ 9 = .ok (.aload_n 0, 1) := by decide +kernel
theorem d48_10 : D48_ 10 = .ok (.arraylength, 1) := by decide +kernel
theorem d48_11 : D48_ 11 = .ok (.if_icmp .ge 18, 3) := by decide +kernel
theorem d48_14 : D48_ 14 = .ok (.aload_n 1, 1) := by decide +kernel
theorem d48_15 : D48_ 15 = .ok (.iload_n 2, 1) := by decide +kernel
theorem d48_16 : D48_ 16 = .ok (.aload_n 0, 1) := by decide +kernel
theorem d48_17 : D48_ 17 = .ok (.iload_n 2, 1) := by decide +kernel
theorem d48_18 : D48_ 18 = .ok (.aaload, 1) := by decide +kernel
theorem d48_19 : D48_ 19 = .ok (.invokestatic 37, 3) := by decide +kernel
theorem d48_22 : D48_ 22 = .ok (.aastore, 1) := by decide +kernel
theorem d48_23 : D48_ 23 = .ok (.iinc 2 1, 3) := by decide +kernel
theorem d48_26 : D48_ 26 = .ok (.goto (-18), 3) := by decide +kernel
theorem d48_29 : D48_ 29 = .ok (.new 12, 3) := by decide +kernel
theorem d48_32 : D48_ 32 = .ok (.dup, 1) := by decide +kernel
theorem d48_33 : D48_ 33 = .ok (.aload_n 1, 1) := by decide +kernel
theorem d48_34 : D48_ 34 = .ok (.iconst 0, 1) := by decide +kernel
theorem d48_35 : D48_ 35 = .ok (.invokespecial 43, 3) := by decide +kernel
theorem pd_8 : parseMethodDescriptor "([Ljava/lang/Object;Z)V" = some ⟨[(.array (.object "java/lang/Object")), .boolean], none⟩ := by decide +kernel
theorem d48_38 : D48_ 38 = .ok (.areturn, 1) := by decide +kernel
theorem ef_48_18 (m : MethodId) (x0 : Addr) : entryFrame m #[(.ref x0)] 3 = mkF m 0 #[vR (x0), .unset, .unset] [] := by first | (simp [entryFrame, mkF, argsToLocals, Value.category]; done) | rfl
theorem pn_9 : plainName "java/util/ImmutableCollections" = true := by first | (simp [plainName, overriddenIn]; done) | decide +kernel
theorem r_lf3 (l Z a0) (hw : own_HW a0 Z) (ws s_D s_L s_LE s_E s_Z mr kd_ kl_ h0 n0) (O0 : Old Z n0 h0) (G : own_Ctx Z Z.heap s_D s_L s_LE s_E s_Z mr kd_ kl_) (a2 : Addr) (k2 : ClassId) (x0_ x1_ x2_ : Addr) (Ed : Exa Z h0 a2 "[Ljava/lang/Object;") (Vd : Arv Z h0 a2 k2 (.object "java/lang/Object") (3 : Int32) [(.ref x0_), (.ref x1_), (.ref x2_)] .null) (Ex0 : Exa Z h0 x0_ "com/example/hodos/hodos/analysis/Course$Arc") (Ex1 : Exa Z h0 x1_ "com/example/hodos/hodos/analysis/Course$Arc") (Ex2 : Exa Z h0 x2_ "com/example/hodos/hodos/analysis/Course$Arc") :
    oM l Y18_ jdk_56_method_4_code 3 (some (.object "java/util/List")) ws (own_rm_ 5 2 5 63) #[(.ref a2)] Z h0 n0 (own_Qil Z s_E [x0_, x1_, x2_]) := by
  have G0 := G
  obtain ⟨S_D, E_D, V_D, S_L, E_L, F_L, V_L, S_E, E_E, S_A, S_Z, E_Z, M_A⟩ := G
  refine MetFree.of_bodySF (plainFor_of_name pn_9) hisR ?_
  intro p e s m args below meth c s₁ Bd hml0 hP hK
  obtain ⟨rfl, hZ, hh⟩ := hP
  have hx := Bd.exec
  have hby := Bd.bytes
  have hml : c.maxLocals = 3 := hml0
  have hown := findClass_of_methodNamed Bd.named
  have X0 : Stand p l e (own_rm_ 5 2 5 63) s m #[(.ref a2)] below meth c s₁ [] 0 0 := Stand.of_body Bd
  have e0 : s₁.heap = h0 := by rw [← hh, Bd.state]; rfl
  have N0 := Fr.nil n0
  have pre0 := own_pre (tb := p.tables) (e := e) (below := below) (T := s₁) (ef_48_18 m a2)
  have vc1 := Vd
  obtain ⟨cl1, Ar1, qk1, S1, Nn1, Hs1, Gf1⟩ := vc1
  obtain ⟨T2, h2, ka2, X2, e2, E2, A2, B2, Ov2, st2⟩ := newRE X0 hx hZ hown (oW hw 372 rfl) (oW hw 271 rfl) e0 (g := (mkF m 2 #[vR (a2), .unset, .unset] [(.int (3 : Int32))])) rfl (hb hby d48_2) rfl (by decide) (cap := 3) (by decide) (by decide) (by decide) (by decide) (ad := "[Ljava/lang/Object;") rfl
  obtain ⟨b2, g2⟩ := oZ h0.size
  have ne_a2_b2 := oE Ed.lt g2
  have g_b2 : n0 ≤ b2 := Nat.le_trans (O0.1 ▸ O0.2.1) (Nat.le_of_eq g2.symm)
  have sz_b2 : h0.size ≤ b2 := Nat.le_trans (Keep.refl h0 []).1 (Nat.le_of_eq g2.symm)
  rw [← g2] at A2 B2 st2
  have f4 := Vd.ext E2
  have f5 := Ex0.ext E2
  have f6 := Ex1.ext E2
  have f7 := Ex2.ext E2
  have O2 := O0.ext E2
  have K2 : Keep h0 h2 [] := (Keep.refl h0 []).ext E2
  have V2 : Arv Z h2 b2 ka2 (.object "java/lang/Object") (3 : Int32) [.null, .null, .null] .null := (Arv.new A2 (by decide)).pad (pad_rep [] .null 3)
  have vc8 := f4
  obtain ⟨cl8, Ar8, qk8, S8, Nn8, Hs8, Gf8⟩ := vc8
  have vc9 := f4
  obtain ⟨cl9, Ar9, qk9, S9, Nn9, Hs9, Gf9⟩ := vc9
  have hin9 : ¬ ((0 : Int32) < 0 ∨ cl9.slots.size ≤ ((0 : Int32)).toNatClampNeg) := inb_of S9 ⟨by decide, by decide⟩
  have hat9 : cl9.slots[((0 : Int32)).toNatClampNeg]? = some (.ref x0_) := Has.at Hs9 hin9 rfl
  obtain ⟨_, _, ⟨T10, L10, k10, n10⟩, -, X10, ⟨Lc10, hQ10, l10, y10, z10⟩, st10⟩ := Jvm.LawKit.callS X2 hx (y := Y11_) hown (mvT hZ (oW hw 373 rfl)) (mvT hZ (oW hw 316 rfl)) (mvT hZ (oW hw 144 rfl)) (mvT hZ (oW hw 317 rfl)) (by decide) (backOf (W := 2) (r_rnn l Z a0 hw [] s_D s_L s_LE s_E s_Z mr kd_ kl_ h2 n0 O2 G0 x0_) hZ (oW hw 317 rfl) (oW hw 144 rfl) (by decide) (by decide)) (g := (mkF m 19 #[vR (a2), vR (b2), vI ((0 : Int32))] [(.ref x0_), (.int (0 : Int32)), (.ref b2)])) rfl (by rw [hml]; rfl) (argsL := [(.ref x0_)]) (rest := [(.int (0 : Int32)), (.ref b2)]) (lenOf pd_5 rfl) rfl (by exact Nat.le_of_eq rfl) (hb hby d48_19) (fun _ _ => ⟨rfl, e2, (by decide : 1 + 0 ≤ _), (by decide : 3 + 0 ≤ _)⟩)
  dsimp only [Pt.U, Pt.locs, Pt.cells, Pt.slots] at X10 l10 y10 z10 st10 hQ10
  subst l10 y10 z10
  obtain ⟨rfl, N10q, e10⟩ := hQ10
  have N10 := Fr.app N0 N10q
  have vc11 := V2
  obtain ⟨cl11, Ar11, qk11, S11, Nn11, Hs11, Gf11⟩ := vc11
  have hin11 : ¬ ((0 : Int32) < 0 ∨ cl11.slots.size ≤ ((0 : Int32)).toNatClampNeg) := inb_of S11 ⟨by decide, by decide⟩
  obtain ⟨T12, h12, X12, e12, W12, st12⟩ := stR X10 hx hZ e10 Ar11 (j := (0 : Int32)) hin11 rfl (Sto.ofV Ar11 qk11 Ov2 (Ins.of_exa f5 (oW hw 272 rfl))) (g := (mkF m 22 #[vR (a2), vR (b2), vI ((0 : Int32))] [(.ref x0_), (.int (0 : Int32)), (.ref b2)])) rfl rfl (hb hby d48_22)
  have f14 := f4.other W12 ne_a2_b2
  have f16 := f6.wr W12
  have f17 := f7.wr W12
  have f18 := B2.wr W12
  have O12 := O2.wr W12 g_b2
  have K12 : Keep h0 h12 [] := K2.wr W12 (Or.inr sz_b2)
  have N12 := Fr.snoc X12 N10 g_b2
  have f19 : Arv Z h12 b2 ka2 (.object "java/lang/Object") (3 : Int32) [(.ref x0_), .null, .null] .null := Arv.set Ar11 qk11 S11 Nn11 Hs11 Gf11 rfl W12 0 rfl (Nat.le_of_ble_eq_true rfl)
  have vc20 := f14
  obtain ⟨cl20, Ar20, qk20, S20, Nn20, Hs20, Gf20⟩ := vc20
  have vc21 := f14
  obtain ⟨cl21, Ar21, qk21, S21, Nn21, Hs21, Gf21⟩ := vc21
  have hin21 : ¬ (((0 : Int32) + (1 : Int32)) < 0 ∨ cl21.slots.size ≤ (((0 : Int32) + (1 : Int32))).toNatClampNeg) := inb_of S21 ⟨by decide, by decide⟩
  have hat21 : cl21.slots[(((0 : Int32) + (1 : Int32))).toNatClampNeg]? = some (.ref x1_) := Has.at Hs21 hin21 rfl
  obtain ⟨LL22, X22, N22⟩ : ∃ LL, Stand p l e (own_rm_ 5 2 5 63) s m #[(.ref a2)] below meth c T12 LL 1 3 ∧ Fr n0 LL := ⟨_, X12, N12⟩
  obtain ⟨_, _, ⟨T23, L23, k23, n23⟩, -, X23, ⟨Lc23, hQ23, l23, y23, z23⟩, st23⟩ := Jvm.LawKit.callS X22 hx (y := Y11_) hown (mvT hZ (oW hw 373 rfl)) (mvT hZ (oW hw 316 rfl)) (mvT hZ (oW hw 144 rfl)) (mvT hZ (oW hw 317 rfl)) (by decide) (backOf (W := 2) (r_rnn l Z a0 hw [] s_D s_L s_LE s_E s_Z mr kd_ kl_ h12 n0 O12 G0 x1_) hZ (oW hw 317 rfl) (oW hw 144 rfl) (by decide) (by decide)) (g := (mkF m 19 #[vR (a2), vR (b2), vI (((0 : Int32) + (1 : Int32)))] [(.ref x1_), (.int ((0 : Int32) + (1 : Int32))), (.ref b2)])) rfl (by rw [hml]; rfl) (argsL := [(.ref x1_)]) (rest := [(.int ((0 : Int32) + (1 : Int32))), (.ref b2)]) (lenOf pd_5 rfl) rfl (by exact Nat.le_of_eq rfl) (hb hby d48_19) (fun _ _ => ⟨rfl, e12, (by decide : 1 + 0 ≤ _), (by decide : 3 + 0 ≤ _)⟩)
  dsimp only [Pt.U, Pt.locs, Pt.cells, Pt.slots] at X23 l23 y23 z23 st23 hQ23
  subst l23 y23 z23
  obtain ⟨rfl, N23q, e23⟩ := hQ23
  have N23 := Fr.app N22 N23q
  have vc24 := f19
  obtain ⟨cl24, Ar24, qk24, S24, Nn24, Hs24, Gf24⟩ := vc24
  have hin24 : ¬ (((0 : Int32) + (1 : Int32)) < 0 ∨ cl24.slots.size ≤ (((0 : Int32) + (1 : Int32))).toNatClampNeg) := inb_of S24 ⟨by decide, by decide⟩
  obtain ⟨T25, h25, X25, e25, W25, st25⟩ := stR X23 hx hZ e23 Ar24 (j := ((0 : Int32) + (1 : Int32))) hin24 rfl (Sto.ofV Ar24 qk24 Ov2 (Ins.of_exa f16 (oW hw 272 rfl))) (g := (mkF m 22 #[vR (a2), vR (b2), vI (((0 : Int32) + (1 : Int32)))] [(.ref x1_), (.int ((0 : Int32) + (1 : Int32))), (.ref b2)])) rfl rfl (hb hby d48_22)
  have f27 := f14.other W25 ne_a2_b2
  have f30 := f17.wr W25
  have f31 := f18.wr W25
  have O25 := O12.wr W25 g_b2
  have K25 : Keep h0 h25 [] := K12.wr W25 (Or.inr sz_b2)
  have N25 := Fr.snoc X25 N23 g_b2
  have f32 : Arv Z h25 b2 ka2 (.object "java/lang/Object") (3 : Int32) [(.ref x0_), (.ref x1_), .null] .null := Arv.set Ar24 qk24 S24 Nn24 Hs24 Gf24 rfl W25 1 rfl (Nat.le_of_ble_eq_true rfl)
  have vc33 := f27
  obtain ⟨cl33, Ar33, qk33, S33, Nn33, Hs33, Gf33⟩ := vc33
  have vc34 := f27
  obtain ⟨cl34, Ar34, qk34, S34, Nn34, Hs34, Gf34⟩ := vc34
  have hin34 : ¬ ((((0 : Int32) + (1 : Int32)) + (1 : Int32)) < 0 ∨ cl34.slots.size ≤ ((((0 : Int32) + (1 : Int32)) + (1 : Int32))).toNatClampNeg) := inb_of S34 ⟨by decide, by decide⟩
  have hat34 : cl34.slots[((((0 : Int32) + (1 : Int32)) + (1 : Int32))).toNatClampNeg]? = some (.ref x2_) := Has.at Hs34 hin34 rfl
  obtain ⟨LL35, X35, N35⟩ : ∃ LL, Stand p l e (own_rm_ 5 2 5 63) s m #[(.ref a2)] below meth c T25 LL 1 3 ∧ Fr n0 LL := ⟨_, X25, N25⟩
  obtain ⟨_, _, ⟨T36, L36, k36, n36⟩, -, X36, ⟨Lc36, hQ36, l36, y36, z36⟩, st36⟩ := Jvm.LawKit.callS X35 hx (y := Y11_) hown (mvT hZ (oW hw 373 rfl)) (mvT hZ (oW hw 316 rfl)) (mvT hZ (oW hw 144 rfl)) (mvT hZ (oW hw 317 rfl)) (by decide) (backOf (W := 2) (r_rnn l Z a0 hw [] s_D s_L s_LE s_E s_Z mr kd_ kl_ h25 n0 O25 G0 x2_) hZ (oW hw 317 rfl) (oW hw 144 rfl) (by decide) (by decide)) (g := (mkF m 19 #[vR (a2), vR (b2), vI ((((0 : Int32) + (1 : Int32)) + (1 : Int32)))] [(.ref x2_), (.int (((0 : Int32) + (1 : Int32)) + (1 : Int32))), (.ref b2)])) rfl (by rw [hml]; rfl) (argsL := [(.ref x2_)]) (rest := [(.int (((0 : Int32) + (1 : Int32)) + (1 : Int32))), (.ref b2)]) (lenOf pd_5 rfl) rfl (by exact Nat.le_of_eq rfl) (hb hby d48_19) (fun _ _ => ⟨rfl, e25, (by decide : 1 + 0 ≤ _), (by decide : 3 + 0 ≤ _)⟩)
  dsimp only [Pt.U, Pt.locs, Pt.cells, Pt.slots] at X36 l36 y36 z36 st36 hQ36
  subst l36 y36 z36
  obtain ⟨rfl, N36q, e36⟩ := hQ36
  have N36 := Fr.app N35 N36q
  have vc37 := f32
  obtain ⟨cl37, Ar37, qk37, S37, Nn37, Hs37, Gf37⟩ := vc37
  have hin37 : ¬ ((((0 : Int32) + (1 : Int32)) + (1 : Int32)) < 0 ∨ cl37.slots.size ≤ ((((0 : Int32) + (1 : Int32)) + (1 : Int32))).toNatClampNeg) := inb_of S37 ⟨by decide, by decide⟩
  obtain ⟨T38, h38, X38, e38, W38, st38⟩ := stR X36 hx hZ e36 Ar37 (j := (((0 : Int32) + (1 : Int32)) + (1 : Int32))) hin37 rfl (Sto.ofV Ar37 qk37 Ov2 (Ins.of_exa f30 (oW hw 272 rfl))) (g := (mkF m 22 #[vR (a2), vR (b2), vI ((((0 : Int32) + (1 : Int32)) + (1 : Int32)))] [(.ref x2_), (.int (((0 : Int32) + (1 : Int32)) + (1 : Int32))), (.ref b2)])) rfl rfl (hb hby d48_22)
  have f40 := f27.other W38 ne_a2_b2
  have f44 := f31.wr W38
  have O38 := O25.wr W38 g_b2
  have K38 : Keep h0 h38 [] := K25.wr W38 (Or.inr sz_b2)
  have N38 := Fr.snoc X38 N36 g_b2
  have f45 : Arv Z h38 b2 ka2 (.object "java/lang/Object") (3 : Int32) [(.ref x0_), (.ref x1_), (.ref x2_)] .null := Arv.set Ar37 qk37 S37 Nn37 Hs37 Gf37 rfl W38 2 rfl (Nat.le_of_ble_eq_true rfl)
  have vc46 := f40
  obtain ⟨cl46, Ar46, qk46, S46, Nn46, Hs46, Gf46⟩ := vc46
  obtain ⟨T47, h47, X47, e47, E47, A47, D47, -, st47⟩ := newO X38 hx hZ hown (oW hw 63 rfl) (oW hw 374 rfl) (oW hw 109 rfl) e38 (g := (mkF m 29 #[vR (a2), vR (b2), vI (((((0 : Int32) + (1 : Int32)) + (1 : Int32)) + (1 : Int32)))] [])) rfl (hb hby d48_29) (by decide) (by decide)
  obtain ⟨b47, g47⟩ := oZ h38.size
  have ne_b2_b47 := oE f44.lt g47
  have g_b47 : n0 ≤ b47 := Nat.le_trans (O38.1 ▸ O38.2.1) (Nat.le_of_eq g47.symm)
  have sz_b47 : h0.size ≤ b47 := Nat.le_trans K38.1 (Nat.le_of_eq g47.symm)
  rw [← g47] at A47 D47 st47
  have f54 := f45.ext E47
  have O47 := O38.ext E47
  have K47 : Keep h0 h47 [] := K38.ext E47
  have F47_112 : Fld Z h47 b47 "java/util/ImmutableCollections$ListN" "elements" "[Ljava/lang/Object;" .null := D47 (Or.inr (oW hw 112 rfl)) (ty := (.array (.object "java/lang/Object"))) (by decide)
  have F47_384 : Fld Z h47 b47 "java/util/ImmutableCollections$ListN" "allowNulls" "Z" (.int (0 : Int32)) := D47 (Or.inr (oW hw 384 rfl)) (ty := .boolean) (by decide)
  obtain ⟨LL55, X55, N55⟩ : ∃ LL, Stand p l e (own_rm_ 5 2 5 63) s m #[(.ref a2)] below meth c T47 LL 2 5 ∧ Fr n0 LL := ⟨_, X47, N38⟩
  obtain ⟨_, _, ⟨T56, L56, k56, n56⟩, -, X56, ⟨Lc56, hQ56, l56, y56, z56⟩, st56⟩ := X55.specialBackNest hx (y := Y14_) rfl hown (own_mvMN hZ (oW hw 375 rfl)) (mvT hZ (oW hw 376 rfl)) (mvT hZ (oW hw 378 rfl)) (by decide) (backOf (W := 1) (r_iln l Z a0 hw [] s_D s_L s_LE s_E s_Z mr kd_ kl_ h47 n0 O47 G0 b47 b2 A47 g_b47 F47_112 F47_384) hZ (oW hw 378 rfl) (oW hw 109 rfl) (by decide) (by decide)) (g := (mkF m 35 #[vR (a2), vR (b2), vI (((((0 : Int32) + (1 : Int32)) + (1 : Int32)) + (1 : Int32)))] [(.int (0 : Int32)), (.ref b2), (.ref b47), (.ref b47)])) rfl (by rw [hml]; rfl) (Steps.refl _) (a := b47) (argsL := [(.ref b2), (.int (0 : Int32))]) (rest := [(.ref b47)]) (lenOf pd_8 rfl) rfl (by exact Nat.le_of_eq rfl) (hb hby d48_35) (fun _ _ => ⟨rfl, e47, (by decide : 2 + 0 ≤ _), (by decide : 5 + 0 ≤ _)⟩)
  dsimp only [Pt.U, Pt.locs, Pt.cells, Pt.slots] at X56 l56 y56 z56 st56 hQ56
  subst l56 y56 z56
  obtain ⟨rfl, N56q, Kq56, Fa56⟩ := hQ56
  have N56 := Fr.app N55 N56q
  have f63 := f54.keep Kq56 (oN1 ne_b2_b47)
  have f64 := A47.keep Kq56
  have K56 : Keep h0 T56.heap [] := K47.trans Kq56 (allS (Or.inr sz_b47) all0)
  obtain ⟨fs, hr, hrun, hended, hW, hsame⟩ := X56.leave (v := some (.ref b47)) (oR Bd.returns)
  refine ⟨_, _, pre0 _ ?_, hrun, hended, _, _, rfl, ?_, ⟨_, rfl⟩, hW, hsame.mono (by decide) (by decide)⟩
  · show own_St p e below s₁ m 0 #[vR (a2), .unset, .unset] [] _
    refine XS.aloadN X0.here hx rfl (hb hby d48_0) rfl rfl ?_
    show own_St p e below s₁ m 1 #[vR (a2), .unset, .unset] [(.ref a2)] _
    refine X0.arraylength hx (by rw [e0]; exact Ar1.1) (State.isArrayOf_alike hZ.alike Ar1.2.1) (g := (mkF m 1 #[vR (a2), .unset, .unset] [(.ref a2)])) rfl rfl (hb hby d48_1) _ ?_
    rw [len_of S1 Nn1]
    refine st2 _ ?_
    show own_St p e below T2 m 5 #[vR (a2), .unset, .unset] [(.ref b2)] _
    refine XS.astoreN X2.here hx rfl (hb hby d48_5) rfl rfl (l' := #[vR (a2), vR (b2), .unset]) rfl ?_
    refine XS.iconst X2.here hx rfl (hb hby d48_6) ?_
    refine XS.istoreN X2.here hx rfl (hb hby d48_7) rfl (l' := #[vR (a2), vR (b2), vI ((0 : Int32))]) rfl ?_
    refine XS.iloadN X2.here hx rfl (hb hby d48_8) rfl ?_
    refine XS.aloadN X2.here hx rfl (hb hby d48_9) rfl rfl ?_
    show own_St p e below T2 m 10 #[vR (a2), vR (b2), vI ((0 : Int32))] [(.ref a2), (.int (0 : Int32))] _
    refine X2.arraylength hx (by rw [e2]; exact Ar8.1) (State.isArrayOf_alike hZ.alike Ar8.2.1) (g := (mkF m 10 #[vR (a2), vR (b2), vI ((0 : Int32))] [(.ref a2), (.int (0 : Int32))])) rfl rfl (hb hby d48_10) _ ?_
    rw [len_of S8 Nn8]
    show own_St p e below T2 m 11 #[vR (a2), vR (b2), vI ((0 : Int32))] [(.int (3 : Int32)), (.int (0 : Int32))] _
    refine XS.icmpNo X2.here hx rfl (hb hby d48_11) rfl (tlt (by decide : (0 : Int32) < (3 : Int32))).2.1 ?_
    refine XS.aloadN X2.here hx rfl (hb hby d48_14) rfl rfl ?_
    refine XS.iloadN X2.here hx rfl (hb hby d48_15) rfl ?_
    refine XS.aloadN X2.here hx rfl (hb hby d48_16) rfl rfl ?_
    refine XS.iloadN X2.here hx rfl (hb hby d48_17) rfl ?_
    show own_St p e below T2 m 18 #[vR (a2), vR (b2), vI ((0 : Int32))] [(.int (0 : Int32)), (.ref a2), (.int (0 : Int32)), (.ref b2)] _
    refine X2.aaload hx (j := (0 : Int32)) (v := (.ref x0_)) (by rw [e2]; exact Ar9.1) (State.isArrayOf_alike hZ.alike Ar9.2.1) rfl Ar9.2.2 hin9 hat9 (g := (mkF m 18 #[vR (a2), vR (b2), vI ((0 : Int32))] [(.int (0 : Int32)), (.ref a2), (.int (0 : Int32)), (.ref b2)])) rfl rfl (hb hby d48_18) _ ?_
    refine st10 _ ?_
    refine st12 _ ?_
    show own_St p e below T12 m 23 #[vR (a2), vR (b2), vI ((0 : Int32))] [] _
    refine XS.iinc X12.here hx rfl (hb hby d48_23) rfl (l' := #[vR (a2), vR (b2), vI (((0 : Int32) + (1 : Int32)))]) rfl ?_
    show own_St p e below T12 m 26 #[vR (a2), vR (b2), vI (((0 : Int32) + (1 : Int32)))] [] _
    refine XS.goto X12.here hx rfl (pc0 := 26) (pc' := 8) rfl (hb hby d48_26) (by decide) (by decide) ?_
    refine XS.iloadN X12.here hx rfl (hb hby d48_8) rfl ?_
    refine XS.aloadN X12.here hx rfl (hb hby d48_9) rfl rfl ?_
    show own_St p e below T12 m 10 #[vR (a2), vR (b2), vI (((0 : Int32) + (1 : Int32)))] [(.ref a2), (.int ((0 : Int32) + (1 : Int32)))] _
    refine X12.arraylength hx (by rw [e12]; exact Ar20.1) (State.isArrayOf_alike hZ.alike Ar20.2.1) (g := (mkF m 10 #[vR (a2), vR (b2), vI (((0 : Int32) + (1 : Int32)))] [(.ref a2), (.int ((0 : Int32) + (1 : Int32)))])) rfl rfl (hb hby d48_10) _ ?_
    rw [len_of S20 Nn20]
    show own_St p e below T12 m 11 #[vR (a2), vR (b2), vI (((0 : Int32) + (1 : Int32)))] [(.int (3 : Int32)), (.int ((0 : Int32) + (1 : Int32)))] _
    refine XS.icmpNo X12.here hx rfl (hb hby d48_11) rfl (tlt (by decide : ((0 : Int32) + (1 : Int32)) < (3 : Int32))).2.1 ?_
    refine XS.aloadN X12.here hx rfl (hb hby d48_14) rfl rfl ?_
    refine XS.iloadN X12.here hx rfl (hb hby d48_15) rfl ?_
    refine XS.aloadN X12.here hx rfl (hb hby d48_16) rfl rfl ?_
    refine XS.iloadN X12.here hx rfl (hb hby d48_17) rfl ?_
    show own_St p e below T12 m 18 #[vR (a2), vR (b2), vI (((0 : Int32) + (1 : Int32)))] [(.int ((0 : Int32) + (1 : Int32))), (.ref a2), (.int ((0 : Int32) + (1 : Int32))), (.ref b2)] _
    refine X12.aaload hx (j := ((0 : Int32) + (1 : Int32))) (v := (.ref x1_)) (by rw [e12]; exact Ar21.1) (State.isArrayOf_alike hZ.alike Ar21.2.1) rfl Ar21.2.2 hin21 hat21 (g := (mkF m 18 #[vR (a2), vR (b2), vI (((0 : Int32) + (1 : Int32)))] [(.int ((0 : Int32) + (1 : Int32))), (.ref a2), (.int ((0 : Int32) + (1 : Int32))), (.ref b2)])) rfl rfl (hb hby d48_18) _ ?_
    refine st23 _ ?_
    refine st25 _ ?_
    show own_St p e below T25 m 23 #[vR (a2), vR (b2), vI (((0 : Int32) + (1 : Int32)))] [] _
    refine XS.iinc X25.here hx rfl (hb hby d48_23) rfl (l' := #[vR (a2), vR (b2), vI ((((0 : Int32) + (1 : Int32)) + (1 : Int32)))]) rfl ?_
    show own_St p e below T25 m 26 #[vR (a2), vR (b2), vI ((((0 : Int32) + (1 : Int32)) + (1 : Int32)))] [] _
    refine XS.goto X25.here hx rfl (pc0 := 26) (pc' := 8) rfl (hb hby d48_26) (by decide) (by decide) ?_
    refine XS.iloadN X25.here hx rfl (hb hby d48_8) rfl ?_
    refine XS.aloadN X25.here hx rfl (hb hby d48_9) rfl rfl ?_
    show own_St p e below T25 m 10 #[vR (a2), vR (b2), vI ((((0 : Int32) + (1 : Int32)) + (1 : Int32)))] [(.ref a2), (.int (((0 : Int32) + (1 : Int32)) + (1 : Int32)))] _
    refine X25.arraylength hx (by rw [e25]; exact Ar33.1) (State.isArrayOf_alike hZ.alike Ar33.2.1) (g := (mkF m 10 #[vR (a2), vR (b2), vI ((((0 : Int32) + (1 : Int32)) + (1 : Int32)))] [(.ref a2), (.int (((0 : Int32) + (1 : Int32)) + (1 : Int32)))])) rfl rfl (hb hby d48_10) _ ?_
    rw [len_of S33 Nn33]
    show own_St p e below T25 m 11 #[vR (a2), vR (b2), vI ((((0 : Int32) + (1 : Int32)) + (1 : Int32)))] [(.int (3 : Int32)), (.int (((0 : Int32) + (1 : Int32)) + (1 : Int32)))] _
    refine XS.icmpNo X25.here hx rfl (hb hby d48_11) rfl (tlt (by decide : (((0 : Int32) + (1 : Int32)) + (1 : Int32)) < (3 : Int32))).2.1 ?_
    refine XS.aloadN X25.here hx rfl (hb hby d48_14) rfl rfl ?_
    refine XS.iloadN X25.here hx rfl (hb hby d48_15) rfl ?_
    refine XS.aloadN X25.here hx rfl (hb hby d48_16) rfl rfl ?_
    refine XS.iloadN X25.here hx rfl (hb hby d48_17) rfl ?_
    show own_St p e below T25 m 18 #[vR (a2), vR (b2), vI ((((0 : Int32) + (1 : Int32)) + (1 : Int32)))] [(.int (((0 : Int32) + (1 : Int32)) + (1 : Int32))), (.ref a2), (.int (((0 : Int32) + (1 : Int32)) + (1 : Int32))), (.ref b2)] _
    refine X25.aaload hx (j := (((0 : Int32) + (1 : Int32)) + (1 : Int32))) (v := (.ref x2_)) (by rw [e25]; exact Ar34.1) (State.isArrayOf_alike hZ.alike Ar34.2.1) rfl Ar34.2.2 hin34 hat34 (g := (mkF m 18 #[vR (a2), vR (b2), vI ((((0 : Int32) + (1 : Int32)) + (1 : Int32)))] [(.int (((0 : Int32) + (1 : Int32)) + (1 : Int32))), (.ref a2), (.int (((0 : Int32) + (1 : Int32)) + (1 : Int32))), (.ref b2)])) rfl rfl (hb hby d48_18) _ ?_
    refine st36 _ ?_
    refine st38 _ ?_
    show own_St p e below T38 m 23 #[vR (a2), vR (b2), vI ((((0 : Int32) + (1 : Int32)) + (1 : Int32)))] [] _
    refine XS.iinc X38.here hx rfl (hb hby d48_23) rfl (l' := #[vR (a2), vR (b2), vI (((((0 : Int32) + (1 : Int32)) + (1 : Int32)) + (1 : Int32)))]) rfl ?_
    show own_St p e below T38 m 26 #[vR (a2), vR (b2), vI (((((0 : Int32) + (1 : Int32)) + (1 : Int32)) + (1 : Int32)))] [] _
    refine XS.goto X38.here hx rfl (pc0 := 26) (pc' := 8) rfl (hb hby d48_26) (by decide) (by decide) ?_
    refine XS.iloadN X38.here hx rfl (hb hby d48_8) rfl ?_
    refine XS.aloadN X38.here hx rfl (hb hby d48_9) rfl rfl ?_
    show own_St p e below T38 m 10 #[vR (a2), vR (b2), vI (((((0 : Int32) + (1 : Int32)) + (1 : Int32)) + (1 : Int32)))] [(.ref a2), (.int ((((0 : Int32) + (1 : Int32)) + (1 : Int32)) + (1 : Int32)))] _
    refine X38.arraylength hx (by rw [e38]; exact Ar46.1) (State.isArrayOf_alike hZ.alike Ar46.2.1) (g := (mkF m 10 #[vR (a2), vR (b2), vI (((((0 : Int32) + (1 : Int32)) + (1 : Int32)) + (1 : Int32)))] [(.ref a2), (.int ((((0 : Int32) + (1 : Int32)) + (1 : Int32)) + (1 : Int32)))])) rfl rfl (hb hby d48_10) _ ?_
    rw [len_of S46 Nn46]
    show own_St p e below T38 m 11 #[vR (a2), vR (b2), vI (((((0 : Int32) + (1 : Int32)) + (1 : Int32)) + (1 : Int32)))] [(.int (3 : Int32)), (.int ((((0 : Int32) + (1 : Int32)) + (1 : Int32)) + (1 : Int32)))] _
    refine XS.icmpYes X38.here hx rfl (pc0 := 11) (pc' := 29) rfl (hb hby d48_11) rfl (flt (by decide : ¬ (((((0 : Int32) + (1 : Int32)) + (1 : Int32)) + (1 : Int32)) < (3 : Int32)))).2.1 (by decide) (by decide) ?_
    refine st47 _ ?_
    show own_St p e below T47 m 32 #[vR (a2), vR (b2), vI (((((0 : Int32) + (1 : Int32)) + (1 : Int32)) + (1 : Int32)))] [(.ref b47)] _
    refine XS.dup X47.here hx rfl (hb hby d48_32) rfl rfl ?_
    refine XS.aloadN X47.here hx rfl (hb hby d48_33) rfl rfl ?_
    refine XS.iconst X47.here hx rfl (hb hby d48_34) ?_
    refine st56.trans ?_
    show own_St p e below T56 m 38 #[vR (a2), vR (b2), vI (((((0 : Int32) + (1 : Int32)) + (1 : Int32)) + (1 : Int32)))] [(.ref b47)] _
    exact retOut X56 hx Bd.returns rfl (Or.inr (Or.inr (Or.inr (Or.inr ⟨rfl, rfl, rfl⟩)))) (hb hby d48_38) hr
  · show own_Qil Z s_E [x0_, x1_, x2_] h0 n0 _ T56.heap _
    exact ⟨b47, rfl, N56, K56, Or.inl ⟨f64, b2, ka2, Fa56, f63⟩⟩
theorem r_lf4 (l Z a0) (hw : own_HW a0 Z) (ws s_D s_L s_LE s_E s_Z mr kd_ kl_ h0 n0) (O0 : Old Z n0 h0) (G : own_Ctx Z Z.heap s_D s_L s_LE s_E s_Z mr kd_ kl_) (a2 : Addr) (k2 : ClassId) (x0_ x1_ x2_ x3_ : Addr) (Ed : Exa Z h0 a2 "[Ljava/lang/Object;") (Vd : Arv Z h0 a2 k2 (.object "java/lang/Object") (4 : Int32) [(.ref x0_), (.ref x1_), (.ref x2_), (.ref x3_)] .null) (Ex0 : Exa Z h0 x0_ "com/example/hodos/hodos/analysis/Course$Arc") (Ex1 : Exa Z h0 x1_ "com/example/hodos/hodos/analysis/Course$Arc") (Ex2 : Exa Z h0 x2_ "com/example/hodos/hodos/analysis/Course$Arc") (Ex3 : Exa Z h0 x3_ "com/example/hodos/hodos/analysis/Course$Arc") :
    oM l Y18_ jdk_56_method_4_code 3 (some (.object "java/util/List")) ws (own_rm_ 5 2 6 63) #[(.ref a2)] Z h0 n0 (own_Qil Z s_E [x0_, x1_, x2_, x3_]) := by
  have G0 := G
  obtain ⟨S_D, E_D, V_D, S_L, E_L, F_L, V_L, S_E, E_E, S_A, S_Z, E_Z, M_A⟩ := G
  refine MetFree.of_bodySF (plainFor_of_name pn_9) hisR ?_
  intro p e s m args below meth c s₁ Bd hml0 hP hK
  obtain ⟨rfl, hZ, hh⟩ := hP
  have hx := Bd.exec
  have hby := Bd.bytes
  have hml : c.maxLocals = 3 := hml0
  have hown := findClass_of_methodNamed Bd.named
  have X0 : Stand p l e (own_rm_ 5 2 6 63) s m #[(.ref a2)] below meth c s₁ [] 0 0 := Stand.of_body Bd
  have e0 : s₁.heap = h0 := by rw [← hh, Bd.state]; rfl
  have N0 := Fr.nil n0
  have pre0 := own_pre (tb := p.tables) (e := e) (below := below) (T := s₁) (ef_48_18 m a2)
  have vc1 := Vd
  obtain ⟨cl1, Ar1, qk1, S1, Nn1, Hs1, Gf1⟩ := vc1
  obtain ⟨T2, h2, ka2, X2, e2, E2, A2, B2, Ov2, st2⟩ := newRE X0 hx hZ hown (oW hw 372 rfl) (oW hw 271 rfl) e0 (g := (mkF m 2 #[vR (a2), .unset, .unset] [(.int (4 : Int32))])) rfl (hb hby d48_2) rfl (by decide) (cap := 4) (by decide) (by decide) (by decide) (by decide) (ad := "[Ljava/lang/Object;") rfl
  obtain ⟨b2, g2⟩ := oZ h0.size
  have ne_a2_b2 := oE Ed.lt g2
  have g_b2 : n0 ≤ b2 := Nat.le_trans (O0.1 ▸ O0.2.1) (Nat.le_of_eq g2.symm)
  have sz_b2 : h0.size ≤ b2 := Nat.le_trans (Keep.refl h0 []).1 (Nat.le_of_eq g2.symm)
  rw [← g2] at A2 B2 st2
  have f4 := Vd.ext E2
  have f5 := Ex0.ext E2
  have f6 := Ex1.ext E2
  have f7 := Ex2.ext E2
  have f8 := Ex3.ext E2
  have O2 := O0.ext E2
  have K2 : Keep h0 h2 [] := (Keep.refl h0 []).ext E2
  have V2 : Arv Z h2 b2 ka2 (.object "java/lang/Object") (4 : Int32) [.null, .null, .null, .null] .null := (Arv.new A2 (by decide)).pad (pad_rep [] .null 4)
  have vc9 := f4
  obtain ⟨cl9, Ar9, qk9, S9, Nn9, Hs9, Gf9⟩ := vc9
  have vc10 := f4
  obtain ⟨cl10, Ar10, qk10, S10, Nn10, Hs10, Gf10⟩ := vc10
  have hin10 : ¬ ((0 : Int32) < 0 ∨ cl10.slots.size ≤ ((0 : Int32)).toNatClampNeg) := inb_of S10 ⟨by decide, by decide⟩
  have hat10 : cl10.slots[((0 : Int32)).toNatClampNeg]? = some (.ref x0_) := Has.at Hs10 hin10 rfl
  obtain ⟨_, _, ⟨T11, L11, k11, n11⟩, -, X11, ⟨Lc11, hQ11, l11, y11, z11⟩, st11⟩ := Jvm.LawKit.callS X2 hx (y := Y11_) hown (mvT hZ (oW hw 373 rfl)) (mvT hZ (oW hw 316 rfl)) (mvT hZ (oW hw 144 rfl)) (mvT hZ (oW hw 317 rfl)) (by decide) (backOf (W := 2) (r_rnn l Z a0 hw [] s_D s_L s_LE s_E s_Z mr kd_ kl_ h2 n0 O2 G0 x0_) hZ (oW hw 317 rfl) (oW hw 144 rfl) (by decide) (by decide)) (g := (mkF m 19 #[vR (a2), vR (b2), vI ((0 : Int32))] [(.ref x0_), (.int (0 : Int32)), (.ref b2)])) rfl (by rw [hml]; rfl) (argsL := [(.ref x0_)]) (rest := [(.int (0 : Int32)), (.ref b2)]) (lenOf pd_5 rfl) rfl (by exact Nat.le_of_eq rfl) (hb hby d48_19) (fun _ _ => ⟨rfl, e2, (by decide : 1 + 0 ≤ _), (by decide : 4 + 0 ≤ _)⟩)
  dsimp only [Pt.U, Pt.locs, Pt.cells, Pt.slots] at X11 l11 y11 z11 st11 hQ11
  subst l11 y11 z11
  obtain ⟨rfl, N11q, e11⟩ := hQ11
  have N11 := Fr.app N0 N11q
  have vc12 := V2
  obtain ⟨cl12, Ar12, qk12, S12, Nn12, Hs12, Gf12⟩ := vc12
  have hin12 : ¬ ((0 : Int32) < 0 ∨ cl12.slots.size ≤ ((0 : Int32)).toNatClampNeg) := inb_of S12 ⟨by decide, by decide⟩
  obtain ⟨T13, h13, X13, e13, W13, st13⟩ := stR X11 hx hZ e11 Ar12 (j := (0 : Int32)) hin12 rfl (Sto.ofV Ar12 qk12 Ov2 (Ins.of_exa f5 (oW hw 272 rfl))) (g := (mkF m 22 #[vR (a2), vR (b2), vI ((0 : Int32))] [(.ref x0_), (.int (0 : Int32)), (.ref b2)])) rfl rfl (hb hby d48_22)
  have f15 := f4.other W13 ne_a2_b2
  have f17 := f6.wr W13
  have f18 := f7.wr W13
  have f19 := f8.wr W13
  have f20 := B2.wr W13
  have O13 := O2.wr W13 g_b2
  have K13 : Keep h0 h13 [] := K2.wr W13 (Or.inr sz_b2)
  have N13 := Fr.snoc X13 N11 g_b2
  have f21 : Arv Z h13 b2 ka2 (.object "java/lang/Object") (4 : Int32) [(.ref x0_), .null, .null, .null] .null := Arv.set Ar12 qk12 S12 Nn12 Hs12 Gf12 rfl W13 0 rfl (Nat.le_of_ble_eq_true rfl)
  have vc22 := f15
  obtain ⟨cl22, Ar22, qk22, S22, Nn22, Hs22, Gf22⟩ := vc22
  have vc23 := f15
  obtain ⟨cl23, Ar23, qk23, S23, Nn23, Hs23, Gf23⟩ := vc23
  have hin23 : ¬ (((0 : Int32) + (1 : Int32)) < 0 ∨ cl23.slots.size ≤ (((0 : Int32) + (1 : Int32))).toNatClampNeg) := inb_of S23 ⟨by decide, by decide⟩
  have hat23 : cl23.slots[(((0 : Int32) + (1 : Int32))).toNatClampNeg]? = some (.ref x1_) := Has.at Hs23 hin23 rfl
  obtain ⟨LL24, X24, N24⟩ : ∃ LL, Stand p l e (own_rm_ 5 2 6 63) s m #[(.ref a2)] below meth c T13 LL 1 4 ∧ Fr n0 LL := ⟨_, X13, N13⟩
  obtain ⟨_, _, ⟨T25, L25, k25, n25⟩, -, X25, ⟨Lc25, hQ25, l25, y25, z25⟩, st25⟩ := Jvm.LawKit.callS X24 hx (y := Y11_) hown (mvT hZ (oW hw 373 rfl)) (mvT hZ (oW hw 316 rfl)) (mvT hZ (oW hw 144 rfl)) (mvT hZ (oW hw 317 rfl)) (by decide) (backOf (W := 2) (r_rnn l Z a0 hw [] s_D s_L s_LE s_E s_Z mr kd_ kl_ h13 n0 O13 G0 x1_) hZ (oW hw 317 rfl) (oW hw 144 rfl) (by decide) (by decide)) (g := (mkF m 19 #[vR (a2), vR (b2), vI (((0 : Int32) + (1 : Int32)))] [(.ref x1_), (.int ((0 : Int32) + (1 : Int32))), (.ref b2)])) rfl (by rw [hml]; rfl) (argsL := [(.ref x1_)]) (rest := [(.int ((0 : Int32) + (1 : Int32))), (.ref b2)]) (lenOf pd_5 rfl) rfl (by exact Nat.le_of_eq rfl) (hb hby d48_19) (fun _ _ => ⟨rfl, e13, (by decide : 1 + 0 ≤ _), (by decide : 4 + 0 ≤ _)⟩)
  dsimp only [Pt.U, Pt.locs, Pt.cells, Pt.slots] at X25 l25 y25 z25 st25 hQ25
  subst l25 y25 z25
  obtain ⟨rfl, N25q, e25⟩ := hQ25
  have N25 := Fr.app N24 N25q
  have vc26 := f21
  obtain ⟨cl26, Ar26, qk26, S26, Nn26, Hs26, Gf26⟩ := vc26
  have hin26 : ¬ (((0 : Int32) + (1 : Int32)) < 0 ∨ cl26.slots.size ≤ (((0 : Int32) + (1 : Int32))).toNatClampNeg) := inb_of S26 ⟨by decide, by decide⟩
  obtain ⟨T27, h27, X27, e27, W27, st27⟩ := stR X25 hx hZ e25 Ar26 (j := ((0 : Int32) + (1 : Int32))) hin26 rfl (Sto.ofV Ar26 qk26 Ov2 (Ins.of_exa f17 (oW hw 272 rfl))) (g := (mkF m 22 #[vR (a2), vR (b2), vI (((0 : Int32) + (1 : Int32)))] [(.ref x1_), (.int ((0 : Int32) + (1 : Int32))), (.ref b2)])) rfl rfl (hb hby d48_22)
  have f29 := f15.other W27 ne_a2_b2
  have f32 := f18.wr W27
  have f33 := f19.wr W27
  have f34 := f20.wr W27
  have O27 := O13.wr W27 g_b2
  have K27 : Keep h0 h27 [] := K13.wr W27 (Or.inr sz_b2)
  have N27 := Fr.snoc X27 N25 g_b2
  have f35 : Arv Z h27 b2 ka2 (.object "java/lang/Object") (4 : Int32) [(.ref x0_), (.ref x1_), .null, .null] .null := Arv.set Ar26 qk26 S26 Nn26 Hs26 Gf26 rfl W27 1 rfl (Nat.le_of_ble_eq_true rfl)
  have vc36 := f29
  obtain ⟨cl36, Ar36, qk36, S36, Nn36, Hs36, Gf36⟩ := vc36
  have vc37 := f29
  obtain ⟨cl37, Ar37, qk37, S37, Nn37, Hs37, Gf37⟩ := vc37
  have hin37 : ¬ ((((0 : Int32) + (1 : Int32)) + (1 : Int32)) < 0 ∨ cl37.slots.size ≤ ((((0 : Int32) + (1 : Int32)) + (1 : Int32))).toNatClampNeg) := inb_of S37 ⟨by decide, by decide⟩
  have hat37 : cl37.slots[((((0 : Int32) + (1 : Int32)) + (1 : Int32))).toNatClampNeg]? = some (.ref x2_) := Has.at Hs37 hin37 rfl
  obtain ⟨LL38, X38, N38⟩ : ∃ LL, Stand p l e (own_rm_ 5 2 6 63) s m #[(.ref a2)] below meth c T27 LL 1 4 ∧ Fr n0 LL := ⟨_, X27, N27⟩
  obtain ⟨_, _, ⟨T39, L39, k39, n39⟩, -, X39, ⟨Lc39, hQ39, l39, y39, z39⟩, st39⟩ := Jvm.LawKit.callS X38 hx (y := Y11_) hown (mvT hZ (oW hw 373 rfl)) (mvT hZ (oW hw 316 rfl)) (mvT hZ (oW hw 144 rfl)) (mvT hZ (oW hw 317 rfl)) (by decide) (backOf (W := 2) (r_rnn l Z a0 hw [] s_D s_L s_LE s_E s_Z mr kd_ kl_ h27 n0 O27 G0 x2_) hZ (oW hw 317 rfl) (oW hw 144 rfl) (by decide) (by decide)) (g := (mkF m 19 #[vR (a2), vR (b2), vI ((((0 : Int32) + (1 : Int32)) + (1 : Int32)))] [(.ref x2_), (.int (((0 : Int32) + (1 : Int32)) + (1 : Int32))), (.ref b2)])) rfl (by rw [hml]; rfl) (argsL := [(.ref x2_)]) (rest := [(.int (((0 : Int32) + (1 : Int32)) + (1 : Int32))), (.ref b2)]) (lenOf pd_5 rfl) rfl (by exact Nat.le_of_eq rfl) (hb hby d48_19) (fun _ _ => ⟨rfl, e27, (by decide : 1 + 0 ≤ _), (by decide : 4 + 0 ≤ _)⟩)
  dsimp only [Pt.U, Pt.locs, Pt.cells, Pt.slots] at X39 l39 y39 z39 st39 hQ39
  subst l39 y39 z39
  obtain ⟨rfl, N39q, e39⟩ := hQ39
  have N39 := Fr.app N38 N39q
  have vc40 := f35
  obtain ⟨cl40, Ar40, qk40, S40, Nn40, Hs40, Gf40⟩ := vc40
  have hin40 : ¬ ((((0 : Int32) + (1 : Int32)) + (1 : Int32)) < 0 ∨ cl40.slots.size ≤ ((((0 : Int32) + (1 : Int32)) + (1 : Int32))).toNatClampNeg) := inb_of S40 ⟨by decide, by decide⟩
  obtain ⟨T41, h41, X41, e41, W41, st41⟩ := stR X39 hx hZ e39 Ar40 (j := (((0 : Int32) + (1 : Int32)) + (1 : Int32))) hin40 rfl (Sto.ofV Ar40 qk40 Ov2 (Ins.of_exa f32 (oW hw 272 rfl))) (g := (mkF m 22 #[vR (a2), vR (b2), vI ((((0 : Int32) + (1 : Int32)) + (1 : Int32)))] [(.ref x2_), (.int (((0 : Int32) + (1 : Int32)) + (1 : Int32))), (.ref b2)])) rfl rfl (hb hby d48_22)
  have f43 := f29.other W41 ne_a2_b2
  have f47 := f33.wr W41
  have f48 := f34.wr W41
  have O41 := O27.wr W41 g_b2
  have K41 : Keep h0 h41 [] := K27.wr W41 (Or.inr sz_b2)
  have N41 := Fr.snoc X41 N39 g_b2
  have f49 : Arv Z h41 b2 ka2 (.object "java/lang/Object") (4 : Int32) [(.ref x0_), (.ref x1_), (.ref x2_), .null] .null := Arv.set Ar40 qk40 S40 Nn40 Hs40 Gf40 rfl W41 2 rfl (Nat.le_of_ble_eq_true rfl)
  have vc50 := f43
  obtain ⟨cl50, Ar50, qk50, S50, Nn50, Hs50, Gf50⟩ := vc50
  have vc51 := f43
  obtain ⟨cl51, Ar51, qk51, S51, Nn51, Hs51, Gf51⟩ := vc51
  have hin51 : ¬ (((((0 : Int32) + (1 : Int32)) + (1 : Int32)) + (1 : Int32)) < 0 ∨ cl51.slots.size ≤ (((((0 : Int32) + (1 : Int32)) + (1 : Int32)) + (1 : Int32))).toNatClampNeg) := inb_of S51 ⟨by decide, by decide⟩
  have hat51 : cl51.slots[(((((0 : Int32) + (1 : Int32)) + (1 : Int32)) + (1 : Int32))).toNatClampNeg]? = some (.ref x3_) := Has.at Hs51 hin51 rfl
  obtain ⟨LL52, X52, N52⟩ : ∃ LL, Stand p l e (own_rm_ 5 2 6 63) s m #[(.ref a2)] below meth c T41 LL 1 4 ∧ Fr n0 LL := ⟨_, X41, N41⟩
  obtain ⟨_, _, ⟨T53, L53, k53, n53⟩, -, X53, ⟨Lc53, hQ53, l53, y53, z53⟩, st53⟩ := Jvm.LawKit.callS X52 hx (y := Y11_) hown (mvT hZ (oW hw 373 rfl)) (mvT hZ (oW hw 316 rfl)) (mvT hZ (oW hw 144 rfl)) (mvT hZ (oW hw 317 rfl)) (by decide) (backOf (W := 2) (r_rnn l Z a0 hw [] s_D s_L s_LE s_E s_Z mr kd_ kl_ h41 n0 O41 G0 x3_) hZ (oW hw 317 rfl) (oW hw 144 rfl) (by decide) (by decide)) (g := (mkF m 19 #[vR (a2), vR (b2), vI (((((0 : Int32) + (1 : Int32)) + (1 : Int32)) + (1 : Int32)))] [(.ref x3_), (.int ((((0 : Int32) + (1 : Int32)) + (1 : Int32)) + (1 : Int32))), (.ref b2)])) rfl (by rw [hml]; rfl) (argsL := [(.ref x3_)]) (rest := [(.int ((((0 : Int32) + (1 : Int32)) + (1 : Int32)) + (1 : Int32))), (.ref b2)]) (lenOf pd_5 rfl) rfl (by exact Nat.le_of_eq rfl) (hb hby d48_19) (fun _ _ => ⟨rfl, e41, (by decide : 1 + 0 ≤ _), (by decide : 4 + 0 ≤ _)⟩)
  dsimp only [Pt.U, Pt.locs, Pt.cells, Pt.slots] at X53 l53 y53 z53 st53 hQ53
  subst l53 y53 z53
  obtain ⟨rfl, N53q, e53⟩ := hQ53
  have N53 := Fr.app N52 N53q
  have vc54 := f49
  obtain ⟨cl54, Ar54, qk54, S54, Nn54, Hs54, Gf54⟩ := vc54
  have hin54 : ¬ (((((0 : Int32) + (1 : Int32)) + (1 : Int32)) + (1 : Int32)) < 0 ∨ cl54.slots.size ≤ (((((0 : Int32) + (1 : Int32)) + (1 : Int32)) + (1 : Int32))).toNatClampNeg) := inb_of S54 ⟨by decide, by decide⟩
  obtain ⟨T55, h55, X55, e55, W55, st55⟩ := stR X53 hx hZ e53 Ar54 (j := ((((0 : Int32) + (1 : Int32)) + (1 : Int32)) + (1 : Int32))) hin54 rfl (Sto.ofV Ar54 qk54 Ov2 (Ins.of_exa f47 (oW hw 272 rfl))) (g := (mkF m 22 #[vR (a2), vR (b2), vI (((((0 : Int32) + (1 : Int32)) + (1 : Int32)) + (1 : Int32)))] [(.ref x3_), (.int ((((0 : Int32) + (1 : Int32)) + (1 : Int32)) + (1 : Int32))), (.ref b2)])) rfl rfl (hb hby d48_22)
  have f57 := f43.other W55 ne_a2_b2
  have f62 := f48.wr W55
  have O55 := O41.wr W55 g_b2
  have K55 : Keep h0 h55 [] := K41.wr W55 (Or.inr sz_b2)
  have N55 := Fr.snoc X55 N53 g_b2
  have f63 : Arv Z h55 b2 ka2 (.object "java/lang/Object") (4 : Int32) [(.ref x0_), (.ref x1_), (.ref x2_), (.ref x3_)] .null := Arv.set Ar54 qk54 S54 Nn54 Hs54 Gf54 rfl W55 3 rfl (Nat.le_of_ble_eq_true rfl)
  have vc64 := f57
  obtain ⟨cl64, Ar64, qk64, S64, Nn64, Hs64, Gf64⟩ := vc64
  obtain ⟨T65, h65, X65, e65, E65, A65, D65, -, st65⟩ := newO X55 hx hZ hown (oW hw 63 rfl) (oW hw 374 rfl) (oW hw 109 rfl) e55 (g := (mkF m 29 #[vR (a2), vR (b2), vI ((((((0 : Int32) + (1 : Int32)) + (1 : Int32)) + (1 : Int32)) + (1 : Int32)))] [])) rfl (hb hby d48_29) (by decide) (by decide)
  obtain ⟨b65, g65⟩ := oZ h55.size
  have ne_b2_b65 := oE f62.lt g65
  have g_b65 : n0 ≤ b65 := Nat.le_trans (O55.1 ▸ O55.2.1) (Nat.le_of_eq g65.symm)
  have sz_b65 : h0.size ≤ b65 := Nat.le_trans K55.1 (Nat.le_of_eq g65.symm)
  rw [← g65] at A65 D65 st65
  have f73 := f63.ext E65
  have O65 := O55.ext E65
  have K65 : Keep h0 h65 [] := K55.ext E65
  have F65_112 : Fld Z h65 b65 "java/util/ImmutableCollections$ListN" "elements" "[Ljava/lang/Object;" .null := D65 (Or.inr (oW hw 112 rfl)) (ty := (.array (.object "java/lang/Object"))) (by decide)
  have F65_384 : Fld Z h65 b65 "java/util/ImmutableCollections$ListN" "allowNulls" "Z" (.int (0 : Int32)) := D65 (Or.inr (oW hw 384 rfl)) (ty := .boolean) (by decide)
  obtain ⟨LL74, X74, N74⟩ : ∃ LL, Stand p l e (own_rm_ 5 2 6 63) s m #[(.ref a2)] below meth c T65 LL 2 6 ∧ Fr n0 LL := ⟨_, X65, N55⟩
  obtain ⟨_, _, ⟨T75, L75, k75, n75⟩, -, X75, ⟨Lc75, hQ75, l75, y75, z75⟩, st75⟩ := X74.specialBackNest hx (y := Y14_) rfl hown (own_mvMN hZ (oW hw 375 rfl)) (mvT hZ (oW hw 376 rfl)) (mvT hZ (oW hw 378 rfl)) (by decide) (backOf (W := 1) (r_iln l Z a0 hw [] s_D s_L s_LE s_E s_Z mr kd_ kl_ h65 n0 O65 G0 b65 b2 A65 g_b65 F65_112 F65_384) hZ (oW hw 378 rfl) (oW hw 109 rfl) (by decide) (by decide)) (g := (mkF m 35 #[vR (a2), vR (b2), vI ((((((0 : Int32) + (1 : Int32)) + (1 : Int32)) + (1 : Int32)) + (1 : Int32)))] [(.int (0 : Int32)), (.ref b2), (.ref b65), (.ref b65)])) rfl (by rw [hml]; rfl) (Steps.refl _) (a := b65) (argsL := [(.ref b2), (.int (0 : Int32))]) (rest := [(.ref b65)]) (lenOf pd_8 rfl) rfl (by exact Nat.le_of_eq rfl) (hb hby d48_35) (fun _ _ => ⟨rfl, e65, (by decide : 2 + 0 ≤ _), (by decide : 6 + 0 ≤ _)⟩)
  dsimp only [Pt.U, Pt.locs, Pt.cells, Pt.slots] at X75 l75 y75 z75 st75 hQ75
  subst l75 y75 z75
  obtain ⟨rfl, N75q, Kq75, Fa75⟩ := hQ75
  have N75 := Fr.app N74 N75q
  have f83 := f73.keep Kq75 (oN1 ne_b2_b65)
  have f84 := A65.keep Kq75
  have K75 : Keep h0 T75.heap [] := K65.trans Kq75 (allS (Or.inr sz_b65) all0)
  obtain ⟨fs, hr, hrun, hended, hW, hsame⟩ := X75.leave (v := some (.ref b65)) (oR Bd.returns)
  refine ⟨_, _, pre0 _ ?_, hrun, hended, _, _, rfl, ?_, ⟨_, rfl⟩, hW, hsame.mono (by decide) (by decide)⟩
  · show own_St p e below s₁ m 0 #[vR (a2), .unset, .unset] [] _
    refine XS.aloadN X0.here hx rfl (hb hby d48_0) rfl rfl ?_
    show own_St p e below s₁ m 1 #[vR (a2), .unset, .unset] [(.ref a2)] _
    refine X0.arraylength hx (by rw [e0]; exact Ar1.1) (State.isArrayOf_alike hZ.alike Ar1.2.1) (g := (mkF m 1 #[vR (a2), .unset, .unset] [(.ref a2)])) rfl rfl (hb hby d48_1) _ ?_
    rw [len_of S1 Nn1]
    refine st2 _ ?_
    show own_St p e below T2 m 5 #[vR (a2), .unset, .unset] [(.ref b2)] _
    refine XS.astoreN X2.here hx rfl (hb hby d48_5) rfl rfl (l' := #[vR (a2), vR (b2), .unset]) rfl ?_
    refine XS.iconst X2.here hx rfl (hb hby d48_6) ?_
    refine XS.istoreN X2.here hx rfl (hb hby d48_7) rfl (l' := #[vR (a2), vR (b2), vI ((0 : Int32))]) rfl ?_
    refine XS.iloadN X2.here hx rfl (hb hby d48_8) rfl ?_
    refine XS.aloadN X2.here hx rfl (hb hby d48_9) rfl rfl ?_
    show own_St p e below T2 m 10 #[vR (a2), vR (b2), vI ((0 : Int32))] [(.ref a2), (.int (0 : Int32))] _
    refine X2.arraylength hx (by rw [e2]; exact Ar9.1) (State.isArrayOf_alike hZ.alike Ar9.2.1) (g := (mkF m 10 #[vR (a2), vR (b2), vI ((0 : Int32))] [(.ref a2), (.int (0 : Int32))])) rfl rfl (hb hby d48_10) _ ?_
    rw [len_of S9 Nn9]
    show own_St p e below T2 m 11 #[vR (a2), vR (b2), vI ((0 : Int32))] [(.int (4 : Int32)), (.int (0 : Int32))] _
    refine XS.icmpNo X2.here hx rfl (hb hby d48_11) rfl (tlt (by decide : (0 : Int32) < (4 : Int32))).2.1 ?_
    refine XS.aloadN X2.here hx rfl (hb hby d48_14) rfl rfl ?_
    refine XS.iloadN X2.here hx rfl (hb hby d48_15) rfl ?_
    refine XS.aloadN X2.here hx rfl (hb hby d48_16) rfl rfl ?_
    refine XS.iloadN X2.here hx rfl (hb hby d48_17) rfl ?_
    show own_St p e below T2 m 18 #[vR (a2), vR (b2), vI ((0 : Int32))] [(.int (0 : Int32)), (.ref a2), (.int (0 : Int32)), (.ref b2)] _
    refine X2.aaload hx (j := (0 : Int32)) (v := (.ref x0_)) (by rw [e2]; exact Ar10.1) (State.isArrayOf_alike hZ.alike Ar10.2.1) rfl Ar10.2.2 hin10 hat10 (g := (mkF m 18 #[vR (a2), vR (b2), vI ((0 : Int32))] [(.int (0 : Int32)), (.ref a2), (.int (0 : Int32)), (.ref b2)])) rfl rfl (hb hby d48_18) _ ?_
    refine st11 _ ?_
    refine st13 _ ?_
    show own_St p e below T13 m 23 #[vR (a2), vR (b2), vI ((0 : Int32))] [] _
    refine XS.iinc X13.here hx rfl (hb hby d48_23) rfl (l' := #[vR (a2), vR (b2), vI (((0 : Int32) + (1 : Int32)))]) rfl ?_
    show own_St p e below T13 m 26 #[vR (a2), vR (b2), vI (((0 : Int32) + (1 : Int32)))] [] _
    refine XS.goto X13.here hx rfl (pc0 := 26) (pc' := 8) rfl (hb hby d48_26) (by decide) (by decide) ?_
    refine XS.iloadN X13.here hx rfl (hb hby d48_8) rfl ?_
    refine XS.aloadN X13.here hx rfl (hb hby d48_9) rfl rfl ?_
    show own_St p e below T13 m 10 #[vR (a2), vR (b2), vI (((0 : Int32) + (1 : Int32)))] [(.ref a2), (.int ((0 : Int32) + (1 : Int32)))] _
    refine X13.arraylength hx (by rw [e13]; exact Ar22.1) (State.isArrayOf_alike hZ.alike Ar22.2.1) (g := (mkF m 10 #[vR (a2), vR (b2), vI (((0 : Int32) + (1 : Int32)))] [(.ref a2), (.int ((0 : Int32) + (1 : Int32)))])) rfl rfl (hb hby d48_10) _ ?_
    rw [len_of S22 Nn22]
    show own_St p e below T13 m 11 #[vR (a2), vR (b2), vI (((0 : Int32) + (1 : Int32)))] [(.int (4 : Int32)), (.int ((0 : Int32) + (1 : Int32)))] _
    refine XS.icmpNo X13.here hx rfl (hb hby d48_11) rfl (tlt (by decide : ((0 : Int32) + (1 : Int32)) < (4 : Int32))).2.1 ?_
    refine XS.aloadN X13.here hx rfl (hb hby d48_14) rfl rfl ?_
    refine XS.iloadN X13.here hx rfl (hb hby d48_15) rfl ?_
    refine XS.aloadN X13.here hx rfl (hb hby d48_16) rfl rfl ?_
    refine XS.iloadN X13.here hx rfl (hb hby d48_17) rfl ?_
    show own_St p e below T13 m 18 #[vR (a2), vR (b2), vI (((0 : Int32) + (1 : Int32)))] [(.int ((0 : Int32) + (1 : Int32))), (.ref a2), (.int ((0 : Int32) + (1 : Int32))), (.ref b2)] _
    refine X13.aaload hx (j := ((0 : Int32) + (1 : Int32))) (v := (.ref x1_)) (by rw [e13]; exact Ar23.1) (State.isArrayOf_alike hZ.alike Ar23.2.1) rfl Ar23.2.2 hin23 hat23 (g := (mkF m 18 #[vR (a2), vR (b2), vI (((0 : Int32) + (1 : Int32)))] [(.int ((0 : Int32) + (1 : Int32))), (.ref a2), (.int ((0 : Int32) + (1 : Int32))), (.ref b2)])) rfl rfl (hb hby d48_18) _ ?_
    refine st25 _ ?_
    refine st27 _ ?_
    show own_St p e below T27 m 23 #[vR (a2), vR (b2), vI (((0 : Int32) + (1 : Int32)))] [] _
    refine XS.iinc X27.here hx rfl (hb hby d48_23) rfl (l' := #[vR (a2), vR (b2), vI ((((0 : Int32) + (1 : Int32)) + (1 : Int32)))]) rfl ?_
    show own_St p e below T27 m 26 #[vR (a2), vR (b2), vI ((((0 : Int32) + (1 : Int32)) + (1 : Int32)))] [] _
    refine XS.goto X27.here hx rfl (pc0 := 26) (pc' := 8) rfl (hb hby d48_26) (by decide) (by decide) ?_
    refine XS.iloadN X27.here hx rfl (hb hby d48_8) rfl ?_
    refine XS.aloadN X27.here hx rfl (hb hby d48_9) rfl rfl ?_
    show own_St p e below T27 m 10 #[vR (a2), vR (b2), vI ((((0 : Int32) + (1 : Int32)) + (1 : Int32)))] [(.ref a2), (.int (((0 : Int32) + (1 : Int32)) + (1 : Int32)))] _
    refine X27.arraylength hx (by rw [e27]; exact Ar36.1) (State.isArrayOf_alike hZ.alike Ar36.2.1) (g := (mkF m 10 #[vR (a2), vR (b2), vI ((((0 : Int32) + (1 : Int32)) + (1 : Int32)))] [(.ref a2), (.int (((0 : Int32) + (1 : Int32)) + (1 : Int32)))])) rfl rfl (hb hby d48_10) _ ?_
    rw [len_of S36 Nn36]
    show own_St p e below T27 m 11 #[vR (a2), vR (b2), vI ((((0 : Int32) + (1 : Int32)) + (1 : Int32)))] [(.int (4 : Int32)), (.int (((0 : Int32) + (1 : Int32)) + (1 : Int32)))] _
    refine XS.icmpNo X27.here hx rfl (hb hby d48_11) rfl (tlt (by decide : (((0 : Int32) + (1 : Int32)) + (1 : Int32)) < (4 : Int32))).2.1 ?_
    refine XS.aloadN X27.here hx rfl (hb hby d48_14) rfl rfl ?_
    refine XS.iloadN X27.here hx rfl (hb hby d48_15) rfl ?_
    refine XS.aloadN X27.here hx rfl (hb hby d48_16) rfl rfl ?_
    refine XS.iloadN X27.here hx rfl (hb hby d48_17) rfl ?_
    show own_St p e below T27 m 18 #[vR (a2), vR (b2), vI ((((0 : Int32) + (1 : Int32)) + (1 : Int32)))] [(.int (((0 : Int32) + (1 : Int32)) + (1 : Int32))), (.ref a2), (.int (((0 : Int32) + (1 : Int32)) + (1 : Int32))), (.ref b2)] _
    refine X27.aaload hx (j := (((0 : Int32) + (1 : Int32)) + (1 : Int32))) (v := (.ref x2_)) (by rw [e27]; exact Ar37.1) (State.isArrayOf_alike hZ.alike Ar37.2.1) rfl Ar37.2.2 hin37 hat37 (g := (mkF m 18 #[vR (a2), vR (b2), vI ((((0 : Int32) + (1 : Int32)) + (1 : Int32)))] [(.int (((0 : Int32) + (1 : Int32)) + (1 : Int32))), (.ref a2), (.int (((0 : Int32) + (1 : Int32)) + (1 : Int32))), (.ref b2)])) rfl rfl (hb hby d48_18) _ ?_
    refine st39 _ ?_
    refine st41 _ ?_
    show own_St p e below T41 m 23 #[vR (a2), vR (b2), vI ((((0 : Int32) + (1 : Int32)) + (1 : Int32)))] [] _
    refine XS.iinc X41.here hx rfl (hb hby d48_23) rfl (l' := #[vR (a2), vR (b2), vI (((((0 : Int32) + (1 : Int32)) + (1 : Int32)) + (1 : Int32)))]) rfl ?_
    show own_St p e below T41 m 26 #[vR (a2), vR (b2), vI (((((0 : Int32) + (1 : Int32)) + (1 : Int32)) + (1 : Int32)))] [] _
    refine XS.goto X41.here hx rfl (pc0 := 26) (pc' := 8) rfl (hb hby d48_26) (by decide) (by decide) ?_
    refine XS.iloadN X41.here hx rfl (hb hby d48_8) rfl ?_
    refine XS.aloadN X41.here hx rfl (hb hby d48_9) rfl rfl ?_
    show own_St p e below T41 m 10 #[vR (a2), vR (b2), vI (((((0 : Int32) + (1 : Int32)) + (1 : Int32)) + (1 : Int32)))] [(.ref a2), (.int ((((0 : Int32) + (1 : Int32)) + (1 : Int32)) + (1 : Int32)))] _
    refine X41.arraylength hx (by rw [e41]; exact Ar50.1) (State.isArrayOf_alike hZ.alike Ar50.2.1) (g := (mkF m 10 #[vR (a2), vR (b2), vI (((((0 : Int32) + (1 : Int32)) + (1 : Int32)) + (1 : Int32)))] [(.ref a2), (.int ((((0 : Int32) + (1 : Int32)) + (1 : Int32)) + (1 : Int32)))])) rfl rfl (hb hby d48_10) _ ?_
    rw [len_of S50 Nn50]
    show own_St p e below T41 m 11 #[vR (a2), vR (b2), vI (((((0 : Int32) + (1 : Int32)) + (1 : Int32)) + (1 : Int32)))] [(.int (4 : Int32)), (.int ((((0 : Int32) + (1 : Int32)) + (1 : Int32)) + (1 : Int32)))] _
    refine XS.icmpNo X41.here hx rfl (hb hby d48_11) rfl (tlt (by decide : ((((0 : Int32) + (1 : Int32)) + (1 : Int32)) + (1 : Int32)) < (4 : Int32))).2.1 ?_
    refine XS.aloadN X41.here hx rfl (hb hby d48_14) rfl rfl ?_
    refine XS.iloadN X41.here hx rfl (hb hby d48_15) rfl ?_
    refine XS.aloadN X41.here hx rfl (hb hby d48_16) rfl rfl ?_
    refine XS.iloadN X41.here hx rfl (hb hby d48_17) rfl ?_
    show own_St p e below T41 m 18 #[vR (a2), vR (b2), vI (((((0 : Int32) + (1 : Int32)) + (1 : Int32)) + (1 : Int32)))] [(.int ((((0 : Int32) + (1 : Int32)) + (1 : Int32)) + (1 : Int32))), (.ref a2), (.int ((((0 : Int32) + (1 : Int32)) + (1 : Int32)) + (1 : Int32))), (.ref b2)] _
    refine X41.aaload hx (j := ((((0 : Int32) + (1 : Int32)) + (1 : Int32)) + (1 : Int32))) (v := (.ref x3_)) (by rw [e41]; exact Ar51.1) (State.isArrayOf_alike hZ.alike Ar51.2.1) rfl Ar51.2.2 hin51 hat51 (g := (mkF m 18 #[vR (a2), vR (b2), vI (((((0 : Int32) + (1 : Int32)) + (1 : Int32)) + (1 : Int32)))] [(.int ((((0 : Int32) + (1 : Int32)) + (1 : Int32)) + (1 : Int32))), (.ref a2), (.int ((((0 : Int32) + (1 : Int32)) + (1 : Int32)) + (1 : Int32))), (.ref b2)])) rfl rfl (hb hby d48_18) _ ?_
    refine st53 _ ?_
    refine st55 _ ?_
    show own_St p e below T55 m 23 #[vR (a2), vR (b2), vI (((((0 : Int32) + (1 : Int32)) + (1 : Int32)) + (1 : Int32)))] [] _
    refine XS.iinc X55.here hx rfl (hb hby d48_23) rfl (l' := #[vR (a2), vR (b2), vI ((((((0 : Int32) + (1 : Int32)) + (1 : Int32)) + (1 : Int32)) + (1 : Int32)))]) rfl ?_
    show own_St p e below T55 m 26 #[vR (a2), vR (b2), vI ((((((0 : Int32) + (1 : Int32)) + (1 : Int32)) + (1 : Int32)) + (1 : Int32)))] [] _
    refine XS.goto X55.here hx rfl (pc0 := 26) (pc' := 8) rfl (hb hby d48_26) (by decide) (by decide) ?_
    refine XS.iloadN X55.here hx rfl (hb hby d48_8) rfl ?_
    refine XS.aloadN X55.here hx rfl (hb hby d48_9) rfl rfl ?_
    show own_St p e below T55 m 10 #[vR (a2), vR (b2), vI ((((((0 : Int32) + (1 : Int32)) + (1 : Int32)) + (1 : Int32)) + (1 : Int32)))] [(.ref a2), (.int (((((0 : Int32) + (1 : Int32)) + (1 : Int32)) + (1 : Int32)) + (1 : Int32)))] _
    refine X55.arraylength hx (by rw [e55]; exact Ar64.1) (State.isArrayOf_alike hZ.alike Ar64.2.1) (g := (mkF m 10 #[vR (a2), vR (b2), vI ((((((0 : Int32) + (1 : Int32)) + (1 : Int32)) + (1 : Int32)) + (1 : Int32)))] [(.ref a2), (.int (((((0 : Int32) + (1 : Int32)) + (1 : Int32)) + (1 : Int32)) + (1 : Int32)))])) rfl rfl (hb hby d48_10) _ ?_
    rw [len_of S64 Nn64]
    show own_St p e below T55 m 11 #[vR (a2), vR (b2), vI ((((((0 : Int32) + (1 : Int32)) + (1 : Int32)) + (1 : Int32)) + (1 : Int32)))] [(.int (4 : Int32)), (.int (((((0 : Int32) + (1 : Int32)) + (1 : Int32)) + (1 : Int32)) + (1 : Int32)))] _
    refine XS.icmpYes X55.here hx rfl (pc0 := 11) (pc' := 29) rfl (hb hby d48_11) rfl (flt (by decide : ¬ ((((((0 : Int32) + (1 : Int32)) + (1 : Int32)) + (1 : Int32)) + (1 : Int32)) < (4 : Int32)))).2.1 (by decide) (by decide) ?_
    refine st65 _ ?_
    show own_St p e below T65 m 32 #[vR (a2), vR (b2), vI ((((((0 : Int32) + (1 : Int32)) + (1 : Int32)) + (1 : Int32)) + (1 : Int32)))] [(.ref b65)] _
    refine XS.dup X65.here hx rfl (hb hby d48_32) rfl rfl ?_
    refine XS.aloadN X65.here hx rfl (hb hby d48_33) rfl rfl ?_
    refine XS.iconst X65.here hx rfl (hb hby d48_34) ?_
    refine st75.trans ?_
    show own_St p e below T75 m 38 #[vR (a2), vR (b2), vI ((((((0 : Int32) + (1 : Int32)) + (1 : Int32)) + (1 : Int32)) + (1 : Int32)))] [(.ref b65)] _
    exact retOut X75 hx Bd.returns rfl (Or.inr (Or.inr (Or.inr (Or.inr ⟨rfl, rfl, rfl⟩)))) (hb hby d48_38) hr
  · show own_Qil Z s_E [x0_, x1_, x2_, x3_] h0 n0 _ T75.heap _
    exact ⟨b65, rfl, N75, K75, Or.inl ⟨f84, b2, ka2, Fa75, f83⟩⟩
theorem d39_0 : D39_ 0 = .ok (.aload_n 0, 1) := by decide +kernel
theorem d39_1 : D39_ 1 = .ok (.arraylength, 1) := by decide +kernel
theorem d39_2 : D39_ 2 = .ok (.tableswitch 57 0 2 #[26, 32, 43], 26) := by decide +kernel
theorem d39_34 : D39_ 34 = .ok (.new 96, 3) := by decide +kernel
theorem d39_37 : D39_ 37 = .ok (.dup, 1) := by decide +kernel
theorem d39_38 : D39_ 38 = .ok (.aload_n 0, 1) := by decide +kernel
theorem d39_39 : D39_ 39 = .ok (.iconst 0, 1) := by decide +kernel
theorem d39_40 : D39_ 40 = .ok (.aaload, 1) := by decide +kernel
theorem d39_41 : D39_ 41 = .ok (.invokespecial 98, 3) := by decide +kernel
theorem pd_9 : parseMethodDescriptor "(Ljava/lang/Object;)V" = some ⟨[(.object "java/lang/Object")], none⟩ := by decide +kernel
theorem d39_44 : D39_ 44 = .ok (.areturn, 1) := by decide +kernel
theorem ef_39_19 (m : MethodId) (x0 : Addr) : entryFrame m #[(.ref x0)] 2 = mkF m 0 #[vR (x0), .unset] [] := by first | (simp [entryFrame, mkF, argsToLocals, Value.category]; done) | rfl
theorem pn_10 : plainName "java/util/List" = true := by first | (simp [plainName, overriddenIn]; done) | decide +kernel
theorem r_lo1 (l Z a0) (hw : own_HW a0 Z) (ws s_D s_L s_LE s_E s_Z mr kd_ kl_ h0 n0) (O0 : Old Z n0 h0) (G : own_Ctx Z Z.heap s_D s_L s_LE s_E s_Z mr kd_ kl_) (a2 : Addr) (k2 : ClassId) (x0_ : Addr) (Ed : Exa Z h0 a2 "[Ljava/lang/Object;") (Vd : Arv Z h0 a2 k2 (.object "java/lang/Object") (1 : Int32) [(.ref x0_)] .null) (Ex0 : Exa Z h0 x0_ "com/example/hodos/hodos/analysis/Course$Arc") :
    oM l Y19_ jdk_40_method_47_code 2 (some (.object "java/util/List")) ws (own_rm_ 6 2 6 77) #[(.ref a2)] Z h0 n0 (own_Qil Z s_E [x0_]) := by
  have G0 := G
  obtain ⟨S_D, E_D, V_D, S_L, E_L, F_L, V_L, S_E, E_E, S_A, S_Z, E_Z, M_A⟩ := G
  refine MetFree.of_bodySF (plainFor_of_name pn_10) hisR ?_
  intro p e s m args below meth c s₁ Bd hml0 hP hK
  obtain ⟨rfl, hZ, hh⟩ := hP
  have hx := Bd.exec
  have hby := Bd.bytes
  have hml : c.maxLocals = 2 := hml0
  have hown := findClass_of_methodNamed Bd.named
  have X0 : Stand p l e (own_rm_ 6 2 6 77) s m #[(.ref a2)] below meth c s₁ [] 0 0 := Stand.of_body Bd
  have e0 : s₁.heap = h0 := by rw [← hh, Bd.state]; rfl
  have N0 := Fr.nil n0
  have pre0 := own_pre (tb := p.tables) (e := e) (below := below) (T := s₁) (ef_39_19 m a2)
  have vc1 := Vd
  obtain ⟨cl1, Ar1, qk1, S1, Nn1, Hs1, Gf1⟩ := vc1
  obtain ⟨T2, h2, X2, e2, E2, A2, D2, -, st2⟩ := newO X0 hx hZ hown (oW hw 304 rfl) (oW hw 305 rfl) (oW hw 306 rfl) e0 (g := (mkF m 34 #[vR (a2), .unset] [])) rfl (hb hby d39_34) (by decide) (by decide)
  obtain ⟨b2, g2⟩ := oZ h0.size
  have g_b2 : n0 ≤ b2 := Nat.le_trans (O0.1 ▸ O0.2.1) (Nat.le_of_eq g2.symm)
  have sz_b2 : h0.size ≤ b2 := Nat.le_trans (Keep.refl h0 []).1 (Nat.le_of_eq g2.symm)
  rw [← g2] at A2 D2 st2
  have f4 := Vd.ext E2
  have O2 := O0.ext E2
  have K2 : Keep h0 h2 [] := (Keep.refl h0 []).ext E2
  have F2_319 : Fld Z h2 b2 "java/util/ImmutableCollections$List12" "e0" "Ljava/lang/Object;" .null := D2 (Or.inr (oW hw 319 rfl)) (ty := (.object "java/lang/Object")) (by decide)
  have F2_322 : Fld Z h2 b2 "java/util/ImmutableCollections$List12" "e1" "Ljava/lang/Object;" .null := D2 (Or.inr (oW hw 322 rfl)) (ty := (.object "java/lang/Object")) (by decide)
  have vc6 := f4
  obtain ⟨cl6, Ar6, qk6, S6, Nn6, Hs6, Gf6⟩ := vc6
  have hin6 : ¬ ((0 : Int32) < 0 ∨ cl6.slots.size ≤ ((0 : Int32)).toNatClampNeg) := inb_of S6 ⟨by decide, by decide⟩
  have hat6 : cl6.slots[((0 : Int32)).toNatClampNeg]? = some (.ref x0_) := Has.at Hs6 hin6 rfl
  obtain ⟨_, _, ⟨T7, L7, k7, n7⟩, -, X7, ⟨Lc7, hQ7, l7, y7, z7⟩, st7⟩ := X2.specialBack hx (y := Y12_) rfl hown (mvT hZ (oW hw 307 rfl)) (mvT hZ (oW hw 308 rfl)) (mvT hZ (oW hw 310 rfl)) (by decide) (backOf (W := 1) (r_li1 l Z a0 hw [] s_D s_L s_LE s_E s_Z mr kd_ kl_ h2 n0 O2 G0 b2 x0_ A2 g_b2 F2_319 F2_322) hZ (oW hw 310 rfl) (oW hw 306 rfl) (by decide) (by decide)) (g := (mkF m 41 #[vR (a2), .unset] [(.ref x0_), (.ref b2), (.ref b2)])) rfl (by rw [hml]; rfl) (Steps.refl _) (a := b2) (argsL := [(.ref x0_)]) (rest := [(.ref b2)]) (lenOf pd_9 rfl) rfl (by exact Nat.le_of_eq rfl) (hb hby d39_41) (fun _ _ => ⟨rfl, e2, (by decide : 1 + 0 ≤ _), (by decide : 2 + 0 ≤ _)⟩)
  dsimp only [Pt.U, Pt.locs, Pt.cells, Pt.slots] at X7 l7 y7 z7 st7 hQ7
  subst l7 y7 z7
  obtain ⟨rfl, N7q, Kq7, Fa7, Fb7⟩ := hQ7
  have N7 := Fr.app N0 N7q
  have f11 := A2.keep Kq7
  have K7 : Keep h0 T7.heap [] := K2.trans Kq7 (allS (Or.inr sz_b2) all0)
  obtain ⟨fs, hr, hrun, hended, hW, hsame⟩ := X7.leave (v := some (.ref b2)) (oR Bd.returns)
  refine ⟨_, _, pre0 _ ?_, hrun, hended, _, _, rfl, ?_, ⟨_, rfl⟩, hW, hsame.mono (by decide) (by decide)⟩
  · show own_St p e below s₁ m 0 #[vR (a2), .unset] [] _
    refine XS.aloadN X0.here hx rfl (hb hby d39_0) rfl rfl ?_
    show own_St p e below s₁ m 1 #[vR (a2), .unset] [(.ref a2)] _
    refine X0.arraylength hx (by rw [e0]; exact Ar1.1) (State.isArrayOf_alike hZ.alike Ar1.2.1) (g := (mkF m 1 #[vR (a2), .unset] [(.ref a2)])) rfl rfl (hb hby d39_1) _ ?_
    rw [len_of S1 Nn1]
    show own_St p e below s₁ m 2 #[vR (a2), .unset] [(.int (1 : Int32))] _
    refine XS.tswIn X0.here hx rfl (pc0 := 2) (pc' := 34) (o := 32) rfl (hb hby d39_2) rfl (by decide) (by decide) (by decide) (by decide) ?_
    refine st2 _ ?_
    show own_St p e below T2 m 37 #[vR (a2), .unset] [(.ref b2)] _
    refine XS.dup X2.here hx rfl (hb hby d39_37) rfl rfl ?_
    refine XS.aloadN X2.here hx rfl (hb hby d39_38) rfl rfl ?_
    refine XS.iconst X2.here hx rfl (hb hby d39_39) ?_
    show own_St p e below T2 m 40 #[vR (a2), .unset] [(.int (0 : Int32)), (.ref a2), (.ref b2), (.ref b2)] _
    refine X2.aaload hx (j := (0 : Int32)) (v := (.ref x0_)) (by rw [e2]; exact Ar6.1) (State.isArrayOf_alike hZ.alike Ar6.2.1) rfl Ar6.2.2 hin6 hat6 (g := (mkF m 40 #[vR (a2), .unset] [(.int (0 : Int32)), (.ref a2), (.ref b2), (.ref b2)])) rfl rfl (hb hby d39_40) _ ?_
    refine st7.trans ?_
    show own_St p e below T7 m 44 #[vR (a2), .unset] [(.ref b2)] _
    exact retOut X7 hx Bd.returns rfl (Or.inr (Or.inr (Or.inr (Or.inr ⟨rfl, rfl, rfl⟩)))) (hb hby d39_44) hr
  · show own_Qil Z s_E [x0_] h0 n0 _ T7.heap _
    exact ⟨b2, rfl, N7, K7, Or.inr (Or.inl ⟨x0_, rfl, f11, Fa7, Fb7⟩)⟩
theorem d39_45 : D39_ 45 = .ok (.new 96, 3) := by decide +kernel
theorem d39_48 : D39_ 48 = .ok (.dup, 1) := by decide +kernel
theorem d39_49 : D39_ 49 = .ok (.aload_n 0, 1) := by decide +kernel
theorem d39_50 : D39_ 50 = .ok (.iconst 0, 1) := by decide +kernel
theorem d39_51 : D39_ 51 = .ok (.aaload, 1) := by decide +kernel
theorem d39_52 : D39_ 52 = .ok (.aload_n 0, 1) := by decide +kernel
theorem d39_53 : D39_ 53 = .ok (.iconst 1, 1) := by decide +kernel
theorem d39_54 : D39_ 54 = .ok (.aaload, 1) := by decide +kernel
theorem d39_55 : D39_ 55 = .ok (.invokespecial 100, 3) := by decide +kernel
theorem pd_10 : parseMethodDescriptor "(Ljava/lang/Object;Ljava/lang/Object;)V" = some ⟨[(.object "java/lang/Object"), (.object "java/lang/Object")], none⟩ := by decide +kernel
theorem d39_58 : D39_ 58 = .ok (.areturn, 1) := by decide +kernel
theorem r_lo2 (l Z a0) (hw : own_HW a0 Z) (ws s_D s_L s_LE s_E s_Z mr kd_ kl_ h0 n0) (O0 : Old Z n0 h0) (G : own_Ctx Z Z.heap s_D s_L s_LE s_E s_Z mr kd_ kl_) (a2 : Addr) (k2 : ClassId) (x0_ x1_ : Addr) (Ed : Exa Z h0 a2 "[Ljava/lang/Object;") (Vd : Arv Z h0 a2 k2 (.object "java/lang/Object") (2 : Int32) [(.ref x0_), (.ref x1_)] .null) (Ex0 : Exa Z h0 x0_ "com/example/hodos/hodos/analysis/Course$Arc") (Ex1 : Exa Z h0 x1_ "com/example/hodos/hodos/analysis/Course$Arc") (hnE : x1_ ≠ s_E) :
    oM l Y19_ jdk_40_method_47_code 2 (some (.object "java/util/List")) ws (own_rm_ 6 2 6 77) #[(.ref a2)] Z h0 n0 (own_Qil Z s_E [x0_, x1_]) := by
  have G0 := G
  obtain ⟨S_D, E_D, V_D, S_L, E_L, F_L, V_L, S_E, E_E, S_A, S_Z, E_Z, M_A⟩ := G
  refine MetFree.of_bodySF (plainFor_of_name pn_10) hisR ?_
  intro p e s m args below meth c s₁ Bd hml0 hP hK
  obtain ⟨rfl, hZ, hh⟩ := hP
  have hx := Bd.exec
  have hby := Bd.bytes
  have hml : c.maxLocals = 2 := hml0
  have hown := findClass_of_methodNamed Bd.named
  have X0 : Stand p l e (own_rm_ 6 2 6 77) s m #[(.ref a2)] below meth c s₁ [] 0 0 := Stand.of_body Bd
  have e0 : s₁.heap = h0 := by rw [← hh, Bd.state]; rfl
  have N0 := Fr.nil n0
  have pre0 := own_pre (tb := p.tables) (e := e) (below := below) (T := s₁) (ef_39_19 m a2)
  have vc1 := Vd
  obtain ⟨cl1, Ar1, qk1, S1, Nn1, Hs1, Gf1⟩ := vc1
  obtain ⟨T2, h2, X2, e2, E2, A2, D2, -, st2⟩ := newO X0 hx hZ hown (oW hw 304 rfl) (oW hw 305 rfl) (oW hw 306 rfl) e0 (g := (mkF m 45 #[vR (a2), .unset] [])) rfl (hb hby d39_45) (by decide) (by decide)
  obtain ⟨b2, g2⟩ := oZ h0.size
  have g_b2 : n0 ≤ b2 := Nat.le_trans (O0.1 ▸ O0.2.1) (Nat.le_of_eq g2.symm)
  have sz_b2 : h0.size ≤ b2 := Nat.le_trans (Keep.refl h0 []).1 (Nat.le_of_eq g2.symm)
  rw [← g2] at A2 D2 st2
  have f4 := Vd.ext E2
  have O2 := O0.ext E2
  have K2 : Keep h0 h2 [] := (Keep.refl h0 []).ext E2
  have F2_319 : Fld Z h2 b2 "java/util/ImmutableCollections$List12" "e0" "Ljava/lang/Object;" .null := D2 (Or.inr (oW hw 319 rfl)) (ty := (.object "java/lang/Object")) (by decide)
  have F2_322 : Fld Z h2 b2 "java/util/ImmutableCollections$List12" "e1" "Ljava/lang/Object;" .null := D2 (Or.inr (oW hw 322 rfl)) (ty := (.object "java/lang/Object")) (by decide)
  have vc7 := f4
  obtain ⟨cl7, Ar7, qk7, S7, Nn7, Hs7, Gf7⟩ := vc7
  have hin7 : ¬ ((0 : Int32) < 0 ∨ cl7.slots.size ≤ ((0 : Int32)).toNatClampNeg) := inb_of S7 ⟨by decide, by decide⟩
  have hat7 : cl7.slots[((0 : Int32)).toNatClampNeg]? = some (.ref x0_) := Has.at Hs7 hin7 rfl
  have vc8 := f4
  obtain ⟨cl8, Ar8, qk8, S8, Nn8, Hs8, Gf8⟩ := vc8
  have hin8 : ¬ ((1 : Int32) < 0 ∨ cl8.slots.size ≤ ((1 : Int32)).toNatClampNeg) := inb_of S8 ⟨by decide, by decide⟩
  have hat8 : cl8.slots[((1 : Int32)).toNatClampNeg]? = some (.ref x1_) := Has.at Hs8 hin8 rfl
  obtain ⟨_, _, ⟨T9, L9, k9, n9⟩, -, X9, ⟨Lc9, hQ9, l9, y9, z9⟩, st9⟩ := X2.specialBack hx (y := Y13_) rfl hown (mvT hZ (oW hw 390 rfl)) (mvT hZ (oW hw 391 rfl)) (mvT hZ (oW hw 392 rfl)) (by decide) (backOf (W := 1) (r_li2 l Z a0 hw [] s_D s_L s_LE s_E s_Z mr kd_ kl_ h2 n0 O2 G0 b2 x0_ x1_ A2 g_b2 F2_319 F2_322) hZ (oW hw 392 rfl) (oW hw 306 rfl) (by decide) (by decide)) (g := (mkF m 55 #[vR (a2), .unset] [(.ref x1_), (.ref x0_), (.ref b2), (.ref b2)])) rfl (by rw [hml]; rfl) (Steps.refl _) (a := b2) (argsL := [(.ref x0_), (.ref x1_)]) (rest := [(.ref b2)]) (lenOf pd_10 rfl) rfl (by exact Nat.le_of_eq rfl) (hb hby d39_55) (fun _ _ => ⟨rfl, e2, (by decide : 1 + 0 ≤ _), (by decide : 2 + 0 ≤ _)⟩)
  dsimp only [Pt.U, Pt.locs, Pt.cells, Pt.slots] at X9 l9 y9 z9 st9 hQ9
  subst l9 y9 z9
  obtain ⟨rfl, N9q, Kq9, Fa9, Fb9⟩ := hQ9
  have N9 := Fr.app N0 N9q
  have f14 := A2.keep Kq9
  have K9 : Keep h0 T9.heap [] := K2.trans Kq9 (allS (Or.inr sz_b2) all0)
  obtain ⟨fs, hr, hrun, hended, hW, hsame⟩ := X9.leave (v := some (.ref b2)) (oR Bd.returns)
  refine ⟨_, _, pre0 _ ?_, hrun, hended, _, _, rfl, ?_, ⟨_, rfl⟩, hW, hsame.mono (by decide) (by decide)⟩
  · show own_St p e below s₁ m 0 #[vR (a2), .unset] [] _
    refine XS.aloadN X0.here hx rfl (hb hby d39_0) rfl rfl ?_
    show own_St p e below s₁ m 1 #[vR (a2), .unset] [(.ref a2)] _
    refine X0.arraylength hx (by rw [e0]; exact Ar1.1) (State.isArrayOf_alike hZ.alike Ar1.2.1) (g := (mkF m 1 #[vR (a2), .unset] [(.ref a2)])) rfl rfl (hb hby d39_1) _ ?_
    rw [len_of S1 Nn1]
    show own_St p e below s₁ m 2 #[vR (a2), .unset] [(.int (2 : Int32))] _
    refine XS.tswIn X0.here hx rfl (pc0 := 2) (pc' := 45) (o := 43) rfl (hb hby d39_2) rfl (by decide) (by decide) (by decide) (by decide) ?_
    refine st2 _ ?_
    show own_St p e below T2 m 48 #[vR (a2), .unset] [(.ref b2)] _
    refine XS.dup X2.here hx rfl (hb hby d39_48) rfl rfl ?_
    refine XS.aloadN X2.here hx rfl (hb hby d39_49) rfl rfl ?_
    refine XS.iconst X2.here hx rfl (hb hby d39_50) ?_
    show own_St p e below T2 m 51 #[vR (a2), .unset] [(.int (0 : Int32)), (.ref a2), (.ref b2), (.ref b2)] _
    refine X2.aaload hx (j := (0 : Int32)) (v := (.ref x0_)) (by rw [e2]; exact Ar7.1) (State.isArrayOf_alike hZ.alike Ar7.2.1) rfl Ar7.2.2 hin7 hat7 (g := (mkF m 51 #[vR (a2), .unset] [(.int (0 : Int32)), (.ref a2), (.ref b2), (.ref b2)])) rfl rfl (hb hby d39_51) _ ?_
    show own_St p e below T2 m 52 #[vR (a2), .unset] [(.ref x0_), (.ref b2), (.ref b2)] _
    refine XS.aloadN X2.here hx rfl (hb hby d39_52) rfl rfl ?_
    refine XS.iconst X2.here hx rfl (hb hby d39_53) ?_
    show own_St p e below T2 m 54 #[vR (a2), .unset] [(.int (1 : Int32)), (.ref a2), (.ref x0_), (.ref b2), (.ref b2)] _
    refine X2.aaload hx (j := (1 : Int32)) (v := (.ref x1_)) (by rw [e2]; exact Ar8.1) (State.isArrayOf_alike hZ.alike Ar8.2.1) rfl Ar8.2.2 hin8 hat8 (g := (mkF m 54 #[vR (a2), .unset] [(.int (1 : Int32)), (.ref a2), (.ref x0_), (.ref b2), (.ref b2)])) rfl rfl (hb hby d39_54) _ ?_
    refine st9.trans ?_
    show own_St p e below T9 m 58 #[vR (a2), .unset] [(.ref b2)] _
    exact retOut X9 hx Bd.returns rfl (Or.inr (Or.inr (Or.inr (Or.inr ⟨rfl, rfl, rfl⟩)))) (hb hby d39_58) hr
  · show own_Qil Z s_E [x0_, x1_] h0 n0 _ T9.heap _
    exact ⟨b2, rfl, N9, K9, Or.inr (Or.inr ⟨x0_, x1_, rfl, hnE, f14, Fa9, Fb9⟩)⟩
theorem d39_59 : D39_ 59 = .ok (.aload_n 0, 1) := by decide +kernel
theorem d39_60 : D39_ 60 = .ok (.invokestatic 109, 3) := by decide +kernel
theorem pd_11 : parseMethodDescriptor "([Ljava/lang/Object;)Ljava/util/List;" = some ⟨[(.array (.object "java/lang/Object"))], some (.object "java/util/List")⟩ := by decide +kernel
theorem d39_63 : D39_ 63 = .ok (.areturn, 1) := by decide +kernel
theorem r_lo3 (l Z a0) (hw : own_HW a0 Z) (ws s_D s_L s_LE s_E s_Z mr kd_ kl_ h0 n0) (O0 : Old Z n0 h0) (G : own_Ctx Z Z.heap s_D s_L s_LE s_E s_Z mr kd_ kl_) (a2 : Addr) (k2 : ClassId) (x0_ x1_ x2_ : Addr) (Ed : Exa Z h0 a2 "[Ljava/lang/Object;") (Vd : Arv Z h0 a2 k2 (.object "java/lang/Object") (3 : Int32) [(.ref x0_), (.ref x1_), (.ref x2_)] .null) (Ex0 : Exa Z h0 x0_ "com/example/hodos/hodos/analysis/Course$Arc") (Ex1 : Exa Z h0 x1_ "com/example/hodos/hodos/analysis/Course$Arc") (Ex2 : Exa Z h0 x2_ "com/example/hodos/hodos/analysis/Course$Arc") :
    oM l Y19_ jdk_40_method_47_code 2 (some (.object "java/util/List")) ws (own_rm_ 6 2 6 77) #[(.ref a2)] Z h0 n0 (own_Qil Z s_E [x0_, x1_, x2_]) := by
  have G0 := G
  refine MetFree.of_bodySF (plainFor_of_name pn_10) hisR ?_
  intro p e s m args below meth c s₁ Bd hml0 hP hK
  obtain ⟨rfl, hZ, hh⟩ := hP
  have hx := Bd.exec
  have hby := Bd.bytes
  have hml : c.maxLocals = 2 := hml0
  have hown := findClass_of_methodNamed Bd.named
  have X0 : Stand p l e (own_rm_ 6 2 6 77) s m #[(.ref a2)] below meth c s₁ [] 0 0 := Stand.of_body Bd
  have e0 : s₁.heap = h0 := by rw [← hh, Bd.state]; rfl
  have N0 := Fr.nil n0
  have pre0 := own_pre (tb := p.tables) (e := e) (below := below) (T := s₁) (ef_39_19 m a2)
  have vc1 := Vd
  obtain ⟨cl1, Ar1, qk1, S1, Nn1, Hs1, Gf1⟩ := vc1
  obtain ⟨_, _, ⟨T2, L2, k2, n2⟩, -, X2, ⟨Lc2, hQ2, l2, y2, z2⟩, st2⟩ := Jvm.LawKit.callS X0 hx (y := Y18_) hown (mvT hZ (oW hw 369 rfl)) (mvT hZ (oW hw 370 rfl)) (mvT hZ (oW hw 56 rfl)) (mvT hZ (oW hw 371 rfl)) (by decide) (backOf (W := 0) (r_lf3 l Z a0 hw [] s_D s_L s_LE s_E s_Z mr kd_ kl_ h0 n0 O0 G0 a2 k2 x0_ x1_ x2_ Ed Vd Ex0 Ex1 Ex2) hZ (oW hw 371 rfl) (oW hw 56 rfl) (by decide) (by decide)) (g := (mkF m 60 #[vR (a2), .unset] [(.ref a2)])) rfl (by rw [hml]; rfl) (argsL := [(.ref a2)]) (rest := []) (lenOf pd_11 rfl) rfl (by exact Nat.le_of_eq rfl) (hb hby d39_60) (fun _ _ => ⟨rfl, e0, (by decide : 0 + 2 ≤ _), (by decide : 0 + 5 ≤ _)⟩)
  dsimp only [Pt.U, Pt.locs, Pt.cells, Pt.slots] at X2 l2 y2 z2 st2 hQ2
  subst l2 y2 z2
  obtain ⟨t2, rfl, N2q, Kq2, Iq2⟩ := hQ2
  have N2 := Fr.app N0 N2q
  have K2 : Keep h0 T2.heap [] := (Keep.refl h0 []).trans Kq2 all0
  obtain ⟨fs, hr, hrun, hended, hW, hsame⟩ := X2.leave (v := some (.ref t2)) (oR Bd.returns)
  refine ⟨_, _, pre0 _ ?_, hrun, hended, _, _, rfl, ?_, ⟨_, rfl⟩, hW, hsame.mono (by decide) (by decide)⟩
  · show own_St p e below s₁ m 0 #[vR (a2), .unset] [] _
    refine XS.aloadN X0.here hx rfl (hb hby d39_0) rfl rfl ?_
    show own_St p e below s₁ m 1 #[vR (a2), .unset] [(.ref a2)] _
    refine X0.arraylength hx (by rw [e0]; exact Ar1.1) (State.isArrayOf_alike hZ.alike Ar1.2.1) (g := (mkF m 1 #[vR (a2), .unset] [(.ref a2)])) rfl rfl (hb hby d39_1) _ ?_
    rw [len_of S1 Nn1]
    show own_St p e below s₁ m 2 #[vR (a2), .unset] [(.int (3 : Int32))] _
    refine XS.tswOut X0.here hx rfl (pc0 := 2) (pc' := 59) rfl (hb hby d39_2) rfl (by decide) (by decide) (by decide) ?_
    show own_St p e below s₁ m 59 #[vR (a2), .unset] [] _
    refine XS.aloadN X0.here hx rfl (hb hby d39_59) rfl rfl ?_
    refine st2 _ ?_
    show own_St p e below T2 m 63 #[vR (a2), .unset] [(.ref t2)] _
    exact retOut X2 hx Bd.returns rfl (Or.inr (Or.inr (Or.inr (Or.inr ⟨rfl, rfl, rfl⟩)))) (hb hby d39_63) hr
  · show own_Qil Z s_E [x0_, x1_, x2_] h0 n0 _ T2.heap _
    exact ⟨t2, rfl, N2, K2, Iq2⟩
theorem r_lo4 (l Z a0) (hw : own_HW a0 Z) (ws s_D s_L s_LE s_E s_Z mr kd_ kl_ h0 n0) (O0 : Old Z n0 h0) (G : own_Ctx Z Z.heap s_D s_L s_LE s_E s_Z mr kd_ kl_) (a2 : Addr) (k2 : ClassId) (x0_ x1_ x2_ x3_ : Addr) (Ed : Exa Z h0 a2 "[Ljava/lang/Object;") (Vd : Arv Z h0 a2 k2 (.object "java/lang/Object") (4 : Int32) [(.ref x0_), (.ref x1_), (.ref x2_), (.ref x3_)] .null) (Ex0 : Exa Z h0 x0_ "com/example/hodos/hodos/analysis/Course$Arc") (Ex1 : Exa Z h0 x1_ "com/example/hodos/hodos/analysis/Course$Arc") (Ex2 : Exa Z h0 x2_ "com/example/hodos/hodos/analysis/Course$Arc") (Ex3 : Exa Z h0 x3_ "com/example/hodos/hodos/analysis/Course$Arc") :
    oM l Y19_ jdk_40_method_47_code 2 (some (.object "java/util/List")) ws (own_rm_ 6 2 6 77) #[(.ref a2)] Z h0 n0 (own_Qil Z s_E [x0_, x1_, x2_, x3_]) := by
  have G0 := G
  refine MetFree.of_bodySF (plainFor_of_name pn_10) hisR ?_
  intro p e s m args below meth c s₁ Bd hml0 hP hK
  obtain ⟨rfl, hZ, hh⟩ := hP
  have hx := Bd.exec
  have hby := Bd.bytes
  have hml : c.maxLocals = 2 := hml0
  have hown := findClass_of_methodNamed Bd.named
  have X0 : Stand p l e (own_rm_ 6 2 6 77) s m #[(.ref a2)] below meth c s₁ [] 0 0 := Stand.of_body Bd
  have e0 : s₁.heap = h0 := by rw [← hh, Bd.state]; rfl
  have N0 := Fr.nil n0
  have pre0 := own_pre (tb := p.tables) (e := e) (below := below) (T := s₁) (ef_39_19 m a2)
  have vc1 := Vd
  obtain ⟨cl1, Ar1, qk1, S1, Nn1, Hs1, Gf1⟩ := vc1
  obtain ⟨_, _, ⟨T2, L2, k2, n2⟩, -, X2, ⟨Lc2, hQ2, l2, y2, z2⟩, st2⟩ := Jvm.LawKit.callS X0 hx (y := Y18_) hown (mvT hZ (oW hw 369 rfl)) (mvT hZ (oW hw 370 rfl)) (mvT hZ (oW hw 56 rfl)) (mvT hZ (oW hw 371 rfl)) (by decide) (backOf (W := 0) (r_lf4 l Z a0 hw [] s_D s_L s_LE s_E s_Z mr kd_ kl_ h0 n0 O0 G0 a2 k2 x0_ x1_ x2_ x3_ Ed Vd Ex0 Ex1 Ex2 Ex3) hZ (oW hw 371 rfl) (oW hw 56 rfl) (by decide) (by decide)) (g := (mkF m 60 #[vR (a2), .unset] [(.ref a2)])) rfl (by rw [hml]; rfl) (argsL := [(.ref a2)]) (rest := []) (lenOf pd_11 rfl) rfl (by exact Nat.le_of_eq rfl) (hb hby d39_60) (fun _ _ => ⟨rfl, e0, (by decide : 0 + 2 ≤ _), (by decide : 0 + 6 ≤ _)⟩)
  dsimp only [Pt.U, Pt.locs, Pt.cells, Pt.slots] at X2 l2 y2 z2 st2 hQ2
  subst l2 y2 z2
  obtain ⟨t2, rfl, N2q, Kq2, Iq2⟩ := hQ2
  have N2 := Fr.app N0 N2q
  have K2 : Keep h0 T2.heap [] := (Keep.refl h0 []).trans Kq2 all0
  obtain ⟨fs, hr, hrun, hended, hW, hsame⟩ := X2.leave (v := some (.ref t2)) (oR Bd.returns)
  refine ⟨_, _, pre0 _ ?_, hrun, hended, _, _, rfl, ?_, ⟨_, rfl⟩, hW, hsame.mono (by decide) (by decide)⟩
  · show own_St p e below s₁ m 0 #[vR (a2), .unset] [] _
    refine XS.aloadN X0.here hx rfl (hb hby d39_0) rfl rfl ?_
    show own_St p e below s₁ m 1 #[vR (a2), .unset] [(.ref a2)] _
    refine X0.arraylength hx (by rw [e0]; exact Ar1.1) (State.isArrayOf_alike hZ.alike Ar1.2.1) (g := (mkF m 1 #[vR (a2), .unset] [(.ref a2)])) rfl rfl (hb hby d39_1) _ ?_
    rw [len_of S1 Nn1]
    show own_St p e below s₁ m 2 #[vR (a2), .unset] [(.int (4 : Int32))] _
    refine XS.tswOut X0.here hx rfl (pc0 := 2) (pc' := 59) rfl (hb hby d39_2) rfl (by decide) (by decide) (by decide) ?_
    show own_St p e below s₁ m 59 #[vR (a2), .unset] [] _
    refine XS.aloadN X0.here hx rfl (hb hby d39_59) rfl rfl ?_
    refine st2 _ ?_
    show own_St p e below T2 m 63 #[vR (a2), .unset] [(.ref t2)] _
    exact retOut X2 hx Bd.returns rfl (Or.inr (Or.inr (Or.inr (Or.inr ⟨rfl, rfl, rfl⟩)))) (hb hby d39_63) hr
  · show own_Qil Z s_E [x0_, x1_, x2_, x3_] h0 n0 _ T2.heap _
    exact ⟨t2, rfl, N2, K2, Iq2⟩
theorem r_lof (l Z a0) (hw : own_HW a0 Z) (ws s_D s_L s_LE s_E s_Z mr kd_ kl_ h0 n0) (O0 : Old Z n0 h0) (G : own_Ctx Z Z.heap s_D s_L s_LE s_E s_Z mr kd_ kl_) (a2 : Addr) (k2 : ClassId) (xs : List Addr) (Ed : Exa Z h0 a2 "[Ljava/lang/Object;") (Vd : Arv Z h0 a2 k2 (.object "java/lang/Object") xs.length.toInt32 (xs.map Value.ref) .null) (Xs : own_Exs Z h0 xs) (h1 : 1 ≤ xs.length) (hn : xs.length ≤ 4) (hnE : ∀ q : 1 < xs.length, xs[1] ≠ s_E) :
    oM l Y19_ jdk_40_method_47_code 2 (some (.object "java/util/List")) ws (own_rm_ 6 2 6 77) #[(.ref a2)] Z h0 n0 (own_Qil Z s_E xs) := by
  match xs, Vd, Xs, h1, hn, hnE with
  | [x0], V, X, _, _, _ => exact r_lo1 l Z a0 hw ws s_D s_L s_LE s_E s_Z mr kd_ kl_ h0 n0 O0 G a2 k2 x0 Ed V (X 0 (Nat.le_of_ble_eq_true rfl))
  | [x0, x1], V, X, _, _, q => exact r_lo2 l Z a0 hw ws s_D s_L s_LE s_E s_Z mr kd_ kl_ h0 n0 O0 G a2 k2 x0 x1 Ed V (X 0 (Nat.le_of_ble_eq_true rfl)) (X 1 (Nat.le_of_ble_eq_true rfl)) (q (Nat.le_of_ble_eq_true rfl))
  | [x0, x1, x2], V, X, _, _, _ => exact r_lo3 l Z a0 hw ws s_D s_L s_LE s_E s_Z mr kd_ kl_ h0 n0 O0 G a2 k2 x0 x1 x2 Ed V (X 0 (Nat.le_of_ble_eq_true rfl)) (X 1 (Nat.le_of_ble_eq_true rfl)) (X 2 (Nat.le_of_ble_eq_true rfl))
  | [x0, x1, x2, x3], V, X, _, _, _ => exact r_lo4 l Z a0 hw ws s_D s_L s_LE s_E s_Z mr kd_ kl_ h0 n0 O0 G a2 k2 x0 x1 x2 x3 Ed V (X 0 (Nat.le_of_ble_eq_true rfl)) (X 1 (Nat.le_of_ble_eq_true rfl)) (X 2 (Nat.le_of_ble_eq_true rfl)) (X 3 (Nat.le_of_ble_eq_true rfl))
  | [], _, _, q, _, _ => exact absurd q (by decide)
  | _ :: _ :: _ :: _ :: _ :: _, _, _, _, q, _ => exact absurd q (by simp)
theorem d29_0 : D29_ 0 = .ok (.aload_n 0, 1) := by decide +kernel
theorem d29_1 : D29_ 1 = .ok (.invokespecial 1, 3) := by decide +kernel
theorem d29_4 : D29_ 4 = .ok (.return_, 1) := by decide +kernel
theorem ef_29_20 (m : MethodId) (x0 : Addr) : entryFrame m #[(.ref x0)] 1 = mkF m 0 #[vR (x0)] [] := by first | (simp [entryFrame, mkF, argsToLocals, Value.category]; done) | rfl
theorem pn_11 : plainName "java/lang/Record" = true := by first | (simp [plainName, overriddenIn]; done) | decide +kernel
theorem r_rec (l Z a0) (hw : own_HW a0 Z) (ws s_D s_L s_LE s_E s_Z mr kd_ kl_ h0 n0) (O0 : Old Z n0 h0) (G : own_Ctx Z Z.heap s_D s_L s_LE s_E s_Z mr kd_ kl_) (a1 : Addr)  :
    oM l Y20_ jdk_30_method_1_code 1 none ws (own_rm_ 1 0 0 12) #[(.ref a1)] Z h0 n0 (own_Q (none)) := by
  have G0 := G
  refine MetFree.of_bodySF (plainFor_of_name pn_11) hisR ?_
  intro p e s m args below meth c s₁ Bd hml0 hP hK
  obtain ⟨rfl, hZ, hh⟩ := hP
  have hx := Bd.exec
  have hby := Bd.bytes
  have hml : c.maxLocals = 1 := hml0
  have hown := findClass_of_methodNamed Bd.named
  have X0 : Stand p l e (own_rm_ 1 0 0 12) s m #[(.ref a1)] below meth c s₁ [] 0 0 := Stand.of_body Bd
  have e0 : s₁.heap = h0 := by rw [← hh, Bd.state]; rfl
  have N0 := Fr.nil n0
  have pre0 := own_pre (tb := p.tables) (e := e) (below := below) (T := s₁) (ef_29_20 m a1)
  obtain ⟨T1, X1, e1, st1⟩ := initO X0 hx hZ hown (oW hw 221 rfl) (oW hw 25 rfl) (oW hw 26 rfl) e0 (g := (mkF m 1 #[vR (a1)] [(.ref a1)])) rfl (by rw [hml]; rfl) rfl (hb hby d29_1) (by decide) (W := 0) (by exact Nat.le_of_eq rfl) (by decide)
  obtain ⟨fs, hr, hrun, hended, hW, hsame⟩ := X1.leave (v := none) (fun _ => rfl)
  refine ⟨_, _, pre0 _ ?_, hrun, hended, _, _, rfl, ?_, ⟨_, rfl⟩, hW, hsame.mono (by decide) (by decide)⟩
  · show own_St p e below s₁ m 0 #[vR (a1)] [] _
    refine XS.aloadN X0.here hx rfl (hb hby d29_0) rfl rfl ?_
    refine st1 _ ?_
    show own_St p e below T1 m 4 #[vR (a1)] [] _
    exact X1.returnOut hx Bd.returns (hb hby d29_4) hr
  · show own_Q (none) h0 n0 _ T1.heap _
    rw [e1]
    exact ⟨rfl, N0, rfl⟩
theorem d30_0 : D30_ 0 = .ok (.aload_n 0, 1) := by decide +kernel
theorem d30_1 : D30_ 1 = .ok (.ifnonnull 12, 3) := by decide +kernel
theorem d30_13 : D30_ 13 = .ok (.aload_n 0, 1) := by decide +kernel
theorem d30_14 : D30_ 14 = .ok (.areturn, 1) := by decide +kernel
theorem ef_30_21 (m : MethodId) (x0 : Addr) (x1 : Addr) : entryFrame m #[(.ref x0), (.ref x1)] 2 = mkF m 0 #[vR (x0), vR (x1)] [] := by first | (simp [entryFrame, mkF, argsToLocals, Value.category]; done) | rfl
theorem r_rn2 (l Z a0) (hw : own_HW a0 Z) (ws s_D s_L s_LE s_E s_Z mr kd_ kl_ h0 n0) (O0 : Old Z n0 h0) (G : own_Ctx Z Z.heap s_D s_L s_LE s_E s_Z mr kd_ kl_) (a1 a2 : Addr)  :
    oM l Y21_ jdk_31_method_11_code 2 (some (.object "java/lang/Object")) ws (own_rm_ 0 0 0 0) #[(.ref a1), (.ref a2)] Z h0 n0 (own_Q (some (.ref a1))) := by
  have G0 := G
  refine MetFree.of_bodySF (plainFor_of_name pn_5) hisR ?_
  intro p e s m args below meth c s₁ Bd hml0 hP hK
  obtain ⟨rfl, hZ, hh⟩ := hP
  have hx := Bd.exec
  have hby := Bd.bytes
  have hml : c.maxLocals = 2 := hml0
  have hown := findClass_of_methodNamed Bd.named
  have X0 : Stand p l e (own_rm_ 0 0 0 0) s m #[(.ref a1), (.ref a2)] below meth c s₁ [] 0 0 := Stand.of_body Bd
  have e0 : s₁.heap = h0 := by rw [← hh, Bd.state]; rfl
  have N0 := Fr.nil n0
  have pre0 := own_pre (tb := p.tables) (e := e) (below := below) (T := s₁) (ef_30_21 m a1 a2)
  obtain ⟨fs, hr, hrun, hended, hW, hsame⟩ := X0.leave (v := some (.ref a1)) (oR Bd.returns)
  refine ⟨_, _, pre0 _ ?_, hrun, hended, _, _, rfl, ?_, ⟨_, rfl⟩, hW, hsame.mono (by decide) (by decide)⟩
  · show own_St p e below s₁ m 0 #[vR (a1), vR (a2)] [] _
    refine XS.aloadN X0.here hx rfl (hb hby d30_0) rfl rfl ?_
    refine XS.ifnonnullYes X0.here hx rfl (pc0 := 1) (pc' := 13) rfl (hb hby d30_1) rfl (by decide) (by decide) ?_
    refine XS.aloadN X0.here hx rfl (hb hby d30_13) rfl rfl ?_
    show own_St p e below s₁ m 14 #[vR (a1), vR (a2)] [(.ref a1)] _
    exact retOut X0 hx Bd.returns rfl (Or.inr (Or.inr (Or.inr (Or.inr ⟨rfl, rfl, rfl⟩)))) (hb hby d30_14) hr
  · show own_Q (some (.ref a1)) h0 n0 _ s₁.heap _
    rw [e0]
    exact ⟨rfl, N0, rfl⟩
def own_Qarc (Z : State) (a1 : Addr) (s1 : Int32) (o1 : Int32) (h0 : Heap) (n0 : Nat) (v : Option Value) (h : Heap) (L : List Loc) : Prop := v = none ∧ Fr n0 L ∧ Keep h0 h [a1] ∧ Fld Z h a1 "com/example/hodos/hodos/analysis/Course$Arc" "source" "I" (.int s1) ∧ Fld Z h a1 "com/example/hodos/hodos/analysis/Course$Arc" "origin" "I" (.int o1)
theorem d28_0 : D28_ 0 = .ok (.aload_n 0, 1) := by decide +kernel
theorem d28_1 : D28_ 1 = .ok (.invokespecial 1, 3) := by decide +kernel
theorem d28_4 : D28_ 4 = .ok (.aload_n 3, 1) := by decide +kernel
theorem d28_5 : D28_ 5 = .ok (.ldc 7, 2) := by decide +kernel
theorem d28_7 : D28_ 7 = .ok (.invokestatic 9, 3) := by decide +kernel
theorem pd_12 : parseMethodDescriptor "(Ljava/lang/Object;Ljava/lang/String;)Ljava/lang/Object;" = some ⟨[(.object "java/lang/Object"), (.object "java/lang/String")], some (.object "java/lang/Object")⟩ := by decide +kernel
theorem d28_10 : D28_ 10 = .ok (.pop, 1) := by decide +kernel
theorem d28_11 : D28_ 11 = .ok (.aload_n 0, 1) := by decide +kernel
theorem d28_12 : D28_ 12 = .ok (.iload_n 1, 1) := by decide +kernel
theorem d28_13 : D28_ 13 = .ok (.putfield 15, 3) := by decide +kernel
theorem d28_16 : D28_ 16 = .ok (.aload_n 0, 1) := by decide +kernel
theorem d28_17 : D28_ 17 = .ok (.iload_n 2, 1) := by decide +kernel
theorem d28_18 : D28_ 18 = .ok (.putfield 21, 3) := by decide +kernel
theorem d28_21 : D28_ 21 = .ok (.aload_n 0, 1) := by decide +kernel
theorem d28_22 : D28_ 22 = .ok (.aload_n 3, 1) := by decide +kernel
theorem d28_23 : D28_ 23 = .ok (.putfield 24, 3) := by decide +kernel
theorem d28_26 : D28_ 26 = .ok (.aload_n 0, 1) := by decide +kernel
theorem d28_27 : D28_ 27 = .ok (.iload 4, 2) := by decide +kernel
theorem d28_29 : D28_ 29 = .ok (.putfield 27, 3) := by decide +kernel
theorem d28_32 : D28_ 32 = .ok (.aload_n 0, 1) := by decide +kernel
theorem d28_33 : D28_ 33 = .ok (.iload 5, 2) := by decide +kernel
theorem d28_35 : D28_ 35 = .ok (.putfield 31, 3) := by decide +kernel
theorem d28_38 : D28_ 38 = .ok (.aload_n 0, 1) := by decide +kernel
theorem d28_39 : D28_ 39 = .ok (.iload 6, 2) := by decide +kernel
theorem d28_41 : D28_ 41 = .ok (.putfield 34, 3) := by decide +kernel
theorem d28_44 : D28_ 44 = .ok (.return_, 1) := by decide +kernel
theorem ef_28_22 (m : MethodId) (x0 : Addr) (x1 : Int32) (x2 : Int32) (x3 : Addr) (x4 : Int32) (x5 : Int32) (x6 : Int32) : entryFrame m #[(.ref x0), (.int x1), (.int x2), (.ref x3), (.int x4), (.int x5), (.int x6)] 7 = mkF m 0 #[vR (x0), vI (x1), vI (x2), vR (x3), vI (x4), vI (x5), vI (x6)] [] := by first | (simp [entryFrame, mkF, argsToLocals, Value.category]; done) | rfl
theorem pn_12 : plainName "com/example/hodos/hodos/analysis/Course$Arc" = true := by first | (simp [plainName, overriddenIn]; done) | decide +kernel
theorem r_arc (l Z a0) (hw : own_HW a0 Z) (ws s_D s_L s_LE s_E s_Z mr kd_ kl_ h0 n0) (O0 : Old Z n0 h0) (G : own_Ctx Z Z.heap s_D s_L s_LE s_E s_Z mr kd_ kl_) (wS : ∀ a ∈ Bundle.stringAtoms, a.before a0 Z = true) (a1 : Addr) (s1 b1_ b2_ o1 : Int32) (Ea : Exa Z h0 a1 "com/example/hodos/hodos/analysis/Course$Arc") (ga : n0 ≤ a1) (F_source : Fld Z h0 a1 "com/example/hodos/hodos/analysis/Course$Arc" "source" "I" (.int (0 : Int32))) (F_target : Fld Z h0 a1 "com/example/hodos/hodos/analysis/Course$Arc" "target" "I" (.int (0 : Int32))) (F_delay : Fld Z h0 a1 "com/example/hodos/hodos/analysis/Course$Arc" "delay" "Lcom/example/hodos/hodos/model/Time;" .null) (F_internal : Fld Z h0 a1 "com/example/hodos/hodos/analysis/Course$Arc" "internal" "Z" (.int (0 : Int32))) (F_ends : Fld Z h0 a1 "com/example/hodos/hodos/analysis/Course$Arc" "ends" "Z" (.int (0 : Int32))) (F_origin : Fld Z h0 a1 "com/example/hodos/hodos/analysis/Course$Arc" "origin" "I" (.int (0 : Int32))) :
    MetFree l Y22_ (head1 (Jvm.Cond.code Y22_ prog_9_method_1_code 7 none :: ws) (own_rm_ 2 2 24 24)) (fun a U => a = #[(.ref a1), (.int s1), (.int (-1 : Int32)), (.ref s_Z), (.int b1_), (.int b2_), (.int o1)] ∧ Z.Warmed39 U.vm ∧ U.heap = h0) (fun _ _ _ _ _ => True) (fun _ U o U' => ∃ v L, o = .returned v ∧ own_Qarc Z a1 s1 o1 h0 n0 v U'.heap L ∧ ReturnedEndW U o U' L (own_rm_ 2 2 24 24).cells (own_rm_ 2 2 24 24).slots) := by
  have G0 := G
  refine MetFree.of_bodySF (plainFor_of_name pn_12) hisR ?_
  intro p e s m args below meth c s₁ Bd hml0 hP hK
  obtain ⟨rfl, hZ, hh⟩ := hP
  have hx := Bd.exec
  have hby := Bd.bytes
  have hml : c.maxLocals = 7 := hml0
  have hown := findClass_of_methodNamed Bd.named
  have hnm := (name_of_methodNamed Bd.named Bd.method).1
  have X0 : Stand p l e (own_rm_ 2 2 24 24) (s.setVm s.vm) m #[(.ref a1), (.int s1), (.int (-1 : Int32)), (.ref s_Z), (.int b1_), (.int b2_), (.int o1)] below meth c s₁ [] 0 0 := Stand.of_body Bd
  have e0 : s₁.heap = h0 := by rw [← hh, Bd.state]; rfl
  have N0 := Fr.nil n0
  have hS0 : s.Since s.vm h0.size := State.WarmedH.since (State.WarmedH.refl s) _
  have hk0 : h0.size ≤ h0.size := Nat.le_refl _
  have pre0 := own_pre (tb := p.tables) (e := e) (below := below) (T := s₁) (ef_28_22 m a1 s1 (-1 : Int32) s_Z b1_ b2_ o1)
  obtain ⟨_, _, ⟨T1, L1, k1, n1⟩, -, X1, ⟨Lc1, hQ1, l1, y1, z1⟩, st1⟩ := X0.specialBack hx (y := Y20_) rfl hown (mvT hZ (oW hw 216 rfl)) (mvT hZ (oW hw 217 rfl)) (mvT hZ (oW hw 220 rfl)) (by decide) (backOf (W := 0) (r_rec l Z a0 hw [] s_D s_L s_LE s_E s_Z mr kd_ kl_ h0 n0 O0 G0 a1) hZ (oW hw 220 rfl) (oW hw 219 rfl) (by decide) (by decide)) (g := (mkF m 1 #[vR (a1), vI (s1), vI ((-1 : Int32)), vR (s_Z), vI (b1_), vI (b2_), vI (o1)] [(.ref a1)])) rfl (by rw [hml]; rfl) (Steps.refl _) (a := a1) (argsL := []) (rest := []) (lenOf pd_0 rfl) rfl (by exact Nat.le_of_eq rfl) (hb hby d28_1) (fun _ _ => ⟨rfl, e0, (by decide : 0 + 0 ≤ _), (by decide : 0 + 0 ≤ _)⟩)
  dsimp only [Pt.U, Pt.locs, Pt.cells, Pt.slots] at X1 l1 y1 z1 st1 hQ1
  subst l1 y1 z1
  obtain ⟨rfl, N1q, e1⟩ := hQ1
  have N1 := Fr.app N0 N1q
  obtain ⟨la2, T2, h2, kx2, X2, e2, E2, S2, hk2, hZ2, hown2, st2⟩ := ldcS (s := s) (vm0 := s.vm) X1 hx hZ hown (oW hw 222 rfl) wS e1 hS0 hk0 (g := (mkF m 5 #[vR (a1), vI (s1), vI ((-1 : Int32)), vR (s_Z), vI (b1_), vI (b2_), vI (o1)] [(.ref s_Z)])) rfl (hb hby d28_5) (n := 20) (by decide) (by decide) (by decide) (by decide)
  have f3 := Ea.ext E2
  have f4 := F_source.ext E2
  have f5 := F_target.ext E2
  have f6 := F_delay.ext E2
  have f7 := F_internal.ext E2
  have f8 := F_ends.ext E2
  have f9 := F_origin.ext E2
  have O2 := O0.ext E2
  have K2 : Keep h0 h2 [a1] := (Keep.refl h0 [a1]).ext E2
  obtain ⟨_, _, ⟨T10, L10, k10, n10⟩, -, X10, ⟨Lc10, hQ10, l10, y10, z10⟩, st10⟩ := Jvm.LawKit.callS X2 hx (y := Y21_) hown2 (mvT hZ2 (oW hw 230 rfl)) (mvT hZ2 (oW hw 231 rfl)) (mvT hZ2 (oW hw 144 rfl)) (mvT hZ2 (oW hw 232 rfl)) (by decide) (backOf (W := 0) (r_rn2 l Z a0 hw [] s_D s_L s_LE s_E s_Z mr kd_ kl_ h2 n0 O2 G0 s_Z la2) hZ2 (oW hw 232 rfl) (oW hw 144 rfl) (by decide) (by decide)) (g := (mkF m 7 #[vR (a1), vI (s1), vI ((-1 : Int32)), vR (s_Z), vI (b1_), vI (b2_), vI (o1)] [(.ref la2), (.ref s_Z)])) rfl (by rw [hml]; rfl) (argsL := [(.ref s_Z), (.ref la2)]) (rest := []) (lenOf pd_12 rfl) rfl (by exact Nat.le_of_eq rfl) (hb hby d28_7) (fun _ _ => ⟨rfl, e2, (by decide : 2 + 0 ≤ _), (by decide : 24 + 0 ≤ _)⟩)
  dsimp only [Pt.U, Pt.locs, Pt.cells, Pt.slots] at X10 l10 y10 z10 st10 hQ10
  subst l10 y10 z10
  obtain ⟨rfl, N10q, e10⟩ := hQ10
  have N10 := Fr.app N1 N10q
  obtain ⟨T11, h11, X11, e11, W11, st11⟩ := putF X10 hx hZ2 hown2 (host := "") (Or.inl (oW hw 233 rfl)) Via.refl e10 f4 f3 (Or.inr ⟨(oW hw 234 rfl), rfl, hnm⟩) (oW hw 208 rfl) (ty := .int) (by decide) rfl rfl (g := (mkF m 13 #[vR (a1), vI (s1), vI ((-1 : Int32)), vR (s_Z), vI (b1_), vI (b2_), vI (o1)] [(.int s1), (.ref a1)])) rfl rfl (hb hby d28_13)
  have f12 := f3.wr W11
  have f13 := f5.other W11 (Or.inr (slot_ne (Or.inr (oW hw 236 rfl)) (Or.inr (oW hw 234 rfl)) (by decide) (t := .int) (t' := .int) (by decide) (by decide)))
  have f14 := f6.other W11 (Or.inr (slot_ne (Or.inr (oW hw 238 rfl)) (Or.inr (oW hw 234 rfl)) (by decide) (t := (.object "com/example/hodos/hodos/model/Time")) (t' := .int) (by decide) (by decide)))
  have f15 := f7.other W11 (Or.inr (slot_ne (Or.inr (oW hw 240 rfl)) (Or.inr (oW hw 234 rfl)) (by decide) (t := .boolean) (t' := .int) (by decide) (by decide)))
  have f16 := f8.other W11 (Or.inr (slot_ne (Or.inr (oW hw 242 rfl)) (Or.inr (oW hw 234 rfl)) (by decide) (t := .boolean) (t' := .int) (by decide) (by decide)))
  have f17 := f9.other W11 (Or.inr (slot_ne (Or.inr (oW hw 244 rfl)) (Or.inr (oW hw 234 rfl)) (by decide) (t := .int) (t' := .int) (by decide) (by decide)))
  have K11 : Keep h0 h11 [a1] := K2.wr W11 (Or.inl (List.mem_of_getElem? (i := 0) rfl))
  have N11 := Fr.snoc X11 N10 ga
  have hk11 := Nat.le_trans hk2 (Keep.of_wr W11).1
  have f18 := f4.same W11
  obtain ⟨T19, h19, X19, e19, W19, st19⟩ := putF X11 hx hZ2 hown2 (host := "") (Or.inl (oW hw 235 rfl)) Via.refl e11 f13 f12 (Or.inr ⟨(oW hw 236 rfl), rfl, hnm⟩) (oW hw 208 rfl) (ty := .int) (by decide) rfl rfl (g := (mkF m 18 #[vR (a1), vI (s1), vI ((-1 : Int32)), vR (s_Z), vI (b1_), vI (b2_), vI (o1)] [(.int (-1 : Int32)), (.ref a1)])) rfl rfl (hb hby d28_18)
  have f20 := f12.wr W19
  have f21 := f18.other W19 (Or.inr (slot_ne (Or.inr (oW hw 234 rfl)) (Or.inr (oW hw 236 rfl)) (by decide) (t := .int) (t' := .int) (by decide) (by decide)))
  have f22 := f14.other W19 (Or.inr (slot_ne (Or.inr (oW hw 238 rfl)) (Or.inr (oW hw 236 rfl)) (by decide) (t := (.object "com/example/hodos/hodos/model/Time")) (t' := .int) (by decide) (by decide)))
  have f23 := f15.other W19 (Or.inr (slot_ne (Or.inr (oW hw 240 rfl)) (Or.inr (oW hw 236 rfl)) (by decide) (t := .boolean) (t' := .int) (by decide) (by decide)))
  have f24 := f16.other W19 (Or.inr (slot_ne (Or.inr (oW hw 242 rfl)) (Or.inr (oW hw 236 rfl)) (by decide) (t := .boolean) (t' := .int) (by decide) (by decide)))
  have f25 := f17.other W19 (Or.inr (slot_ne (Or.inr (oW hw 244 rfl)) (Or.inr (oW hw 236 rfl)) (by decide) (t := .int) (t' := .int) (by decide) (by decide)))
  have K19 : Keep h0 h19 [a1] := K11.wr W19 (Or.inl (List.mem_of_getElem? (i := 0) rfl))
  have N19 := Fr.snoc X19 N11 ga
  have hk19 := Nat.le_trans hk11 (Keep.of_wr W19).1
  obtain ⟨T27, h27, X27, e27, W27, st27⟩ := putF X19 hx hZ2 hown2 (host := "") (Or.inl (oW hw 237 rfl)) Via.refl e19 f22 f20 (Or.inr ⟨(oW hw 238 rfl), rfl, hnm⟩) (oW hw 208 rfl) (ty := (.object "com/example/hodos/hodos/model/Time")) (by decide) rfl rfl (g := (mkF m 23 #[vR (a1), vI (s1), vI ((-1 : Int32)), vR (s_Z), vI (b1_), vI (b2_), vI (o1)] [(.ref s_Z), (.ref a1)])) rfl rfl (hb hby d28_23)
  have f28 := f20.wr W27
  have f29 := f21.other W27 (Or.inr (slot_ne (Or.inr (oW hw 234 rfl)) (Or.inr (oW hw 238 rfl)) (by decide) (t := .int) (t' := (.object "com/example/hodos/hodos/model/Time")) (by decide) (by decide)))
  have f31 := f23.other W27 (Or.inr (slot_ne (Or.inr (oW hw 240 rfl)) (Or.inr (oW hw 238 rfl)) (by decide) (t := .boolean) (t' := (.object "com/example/hodos/hodos/model/Time")) (by decide) (by decide)))
  have f32 := f24.other W27 (Or.inr (slot_ne (Or.inr (oW hw 242 rfl)) (Or.inr (oW hw 238 rfl)) (by decide) (t := .boolean) (t' := (.object "com/example/hodos/hodos/model/Time")) (by decide) (by decide)))
  have f33 := f25.other W27 (Or.inr (slot_ne (Or.inr (oW hw 244 rfl)) (Or.inr (oW hw 238 rfl)) (by decide) (t := .int) (t' := (.object "com/example/hodos/hodos/model/Time")) (by decide) (by decide)))
  have K27 : Keep h0 h27 [a1] := K19.wr W27 (Or.inl (List.mem_of_getElem? (i := 0) rfl))
  have N27 := Fr.snoc X27 N19 ga
  have hk27 := Nat.le_trans hk19 (Keep.of_wr W27).1
  obtain ⟨T35, h35, X35, e35, W35, st35⟩ := putFN X27 hx hZ2 hown2 (oW hw 239 rfl) Via.refl e27 f31 f28 (Or.inr ⟨(oW hw 240 rfl), rfl, hnm⟩) (oW hw 208 rfl) (ty := .boolean) (v' := (.int (nar .boolean b1_))) (by decide) rfl (fits_nar_bool _) (g := (mkF m 29 #[vR (a1), vI (s1), vI ((-1 : Int32)), vR (s_Z), vI (b1_), vI (b2_), vI (o1)] [(.int b1_), (.ref a1)])) rfl rfl (hb hby d28_29)
  have f36 := f28.wr W35
  have f37 := f29.other W35 (Or.inr (slot_ne (Or.inr (oW hw 234 rfl)) (Or.inr (oW hw 240 rfl)) (by decide) (t := .int) (t' := .boolean) (by decide) (by decide)))
  have f40 := f32.other W35 (Or.inr (slot_ne (Or.inr (oW hw 242 rfl)) (Or.inr (oW hw 240 rfl)) (by decide) (t := .boolean) (t' := .boolean) (by decide) (by decide)))
  have f41 := f33.other W35 (Or.inr (slot_ne (Or.inr (oW hw 244 rfl)) (Or.inr (oW hw 240 rfl)) (by decide) (t := .int) (t' := .boolean) (by decide) (by decide)))
  have K35 : Keep h0 h35 [a1] := K27.wr W35 (Or.inl (List.mem_of_getElem? (i := 0) rfl))
  have N35 := Fr.snoc X35 N27 ga
  have hk35 := Nat.le_trans hk27 (Keep.of_wr W35).1
  obtain ⟨T43, h43, X43, e43, W43, st43⟩ := putFN X35 hx hZ2 hown2 (oW hw 241 rfl) Via.refl e35 f40 f36 (Or.inr ⟨(oW hw 242 rfl), rfl, hnm⟩) (oW hw 208 rfl) (ty := .boolean) (v' := (.int (nar .boolean b2_))) (by decide) rfl (fits_nar_bool _) (g := (mkF m 35 #[vR (a1), vI (s1), vI ((-1 : Int32)), vR (s_Z), vI (b1_), vI (b2_), vI (o1)] [(.int b2_), (.ref a1)])) rfl rfl (hb hby d28_35)
  have f44 := f36.wr W43
  have f45 := f37.other W43 (Or.inr (slot_ne (Or.inr (oW hw 234 rfl)) (Or.inr (oW hw 242 rfl)) (by decide) (t := .int) (t' := .boolean) (by decide) (by decide)))
  have f49 := f41.other W43 (Or.inr (slot_ne (Or.inr (oW hw 244 rfl)) (Or.inr (oW hw 242 rfl)) (by decide) (t := .int) (t' := .boolean) (by decide) (by decide)))
  have K43 : Keep h0 h43 [a1] := K35.wr W43 (Or.inl (List.mem_of_getElem? (i := 0) rfl))
  have N43 := Fr.snoc X43 N35 ga
  have hk43 := Nat.le_trans hk35 (Keep.of_wr W43).1
  obtain ⟨T51, h51, X51, e51, W51, st51⟩ := putF X43 hx hZ2 hown2 (host := "") (Or.inl (oW hw 243 rfl)) Via.refl e43 f49 f44 (Or.inr ⟨(oW hw 244 rfl), rfl, hnm⟩) (oW hw 208 rfl) (ty := .int) (by decide) rfl rfl (g := (mkF m 41 #[vR (a1), vI (s1), vI ((-1 : Int32)), vR (s_Z), vI (b1_), vI (b2_), vI (o1)] [(.int o1), (.ref a1)])) rfl rfl (hb hby d28_41)
  have f53 := f45.other W51 (Or.inr (slot_ne (Or.inr (oW hw 234 rfl)) (Or.inr (oW hw 244 rfl)) (by decide) (t := .int) (t' := .int) (by decide) (by decide)))
  have K51 : Keep h0 h51 [a1] := K43.wr W51 (Or.inl (List.mem_of_getElem? (i := 0) rfl))
  have N51 := Fr.snoc X51 N43 ga
  have hk51 := Nat.le_trans hk43 (Keep.of_wr W51).1
  have f58 := f49.same W51
  obtain ⟨fs, hr, hrun, hended, hRW⟩ := X51.leaveW S2 (by rw [e51]; exact hk51) (v := none) (fun _ => rfl)
  refine ⟨_, _, pre0 _ ?_, hrun, hended, _, _, rfl, ?_, hRW.1, hRW.2.1, hRW.2.2.1, hRW.2.2.2.mono (by decide) (by decide)⟩
  · show own_St p e below s₁ m 0 #[vR (a1), vI (s1), vI ((-1 : Int32)), vR (s_Z), vI (b1_), vI (b2_), vI (o1)] [] _
    refine XS.aloadN X0.here hx rfl (hb hby d28_0) rfl rfl ?_
    refine st1.trans ?_
    show own_St p e below T1 m 4 #[vR (a1), vI (s1), vI ((-1 : Int32)), vR (s_Z), vI (b1_), vI (b2_), vI (o1)] [] _
    refine XS.aloadN X1.here hx rfl (hb hby d28_4) rfl rfl ?_
    refine st2 _ ?_
    refine st10 _ ?_
    show own_St p e below T10 m 10 #[vR (a1), vI (s1), vI ((-1 : Int32)), vR (s_Z), vI (b1_), vI (b2_), vI (o1)] [(.ref s_Z)] _
    refine XS.pop X10.here hx rfl (hb hby d28_10) rfl rfl ?_
    show own_St p e below T10 m 11 #[vR (a1), vI (s1), vI ((-1 : Int32)), vR (s_Z), vI (b1_), vI (b2_), vI (o1)] [] _
    refine XS.aloadN X10.here hx rfl (hb hby d28_11) rfl rfl ?_
    refine XS.iloadN X10.here hx rfl (hb hby d28_12) rfl ?_
    refine st11 _ ?_
    show own_St p e below T11 m 16 #[vR (a1), vI (s1), vI ((-1 : Int32)), vR (s_Z), vI (b1_), vI (b2_), vI (o1)] [] _
    refine XS.aloadN X11.here hx rfl (hb hby d28_16) rfl rfl ?_
    refine XS.iloadN X11.here hx rfl (hb hby d28_17) rfl ?_
    refine st19 _ ?_
    show own_St p e below T19 m 21 #[vR (a1), vI (s1), vI ((-1 : Int32)), vR (s_Z), vI (b1_), vI (b2_), vI (o1)] [] _
    refine XS.aloadN X19.here hx rfl (hb hby d28_21) rfl rfl ?_
    refine XS.aloadN X19.here hx rfl (hb hby d28_22) rfl rfl ?_
    refine st27 _ ?_
    show own_St p e below T27 m 26 #[vR (a1), vI (s1), vI ((-1 : Int32)), vR (s_Z), vI (b1_), vI (b2_), vI (o1)] [] _
    refine XS.aloadN X27.here hx rfl (hb hby d28_26) rfl rfl ?_
    refine XS.iload X27.here hx rfl (hb hby d28_27) rfl ?_
    refine st35 _ ?_
    show own_St p e below T35 m 32 #[vR (a1), vI (s1), vI ((-1 : Int32)), vR (s_Z), vI (b1_), vI (b2_), vI (o1)] [] _
    refine XS.aloadN X35.here hx rfl (hb hby d28_32) rfl rfl ?_
    refine XS.iload X35.here hx rfl (hb hby d28_33) rfl ?_
    refine st43 _ ?_
    show own_St p e below T43 m 38 #[vR (a1), vI (s1), vI ((-1 : Int32)), vR (s_Z), vI (b1_), vI (b2_), vI (o1)] [] _
    refine XS.aloadN X43.here hx rfl (hb hby d28_38) rfl rfl ?_
    refine XS.iload X43.here hx rfl (hb hby d28_39) rfl ?_
    refine st51 _ ?_
    show own_St p e below T51 m 44 #[vR (a1), vI (s1), vI ((-1 : Int32)), vR (s_Z), vI (b1_), vI (b2_), vI (o1)] [] _
    exact X51.returnOut hx Bd.returns (hb hby d28_44) hr
  · show own_Qarc Z a1 s1 o1 h0 n0 _ T51.heap _
    rw [e51]
    exact ⟨rfl, N51, K51, f53, f58⟩
theorem d9_0 : D9_ 0 = .ok (.aload_n 0, 1) := by decide +kernel
theorem d9_1 : D9_ 1 = .ok (.getfield 48, 3) := by decide +kernel
theorem d9_4 : D9_ 4 = .ok (.ifCond .ne 7, 3) := by decide +kernel
theorem d9_7 : D9_ 7 = .ok (.iconst 1, 1) := by decide +kernel
theorem d9_8 : D9_ 8 = .ok (.goto 4, 3) := by decide +kernel
theorem d9_12 : D9_ 12 = .ok (.ireturn, 1) := by decide +kernel
theorem ef_9_23 (m : MethodId) (x0 : Addr) : entryFrame m #[(.ref x0)] 1 = mkF m 0 #[vR (x0)] [] := by first | (simp [entryFrame, mkF, argsToLocals, Value.category]; done) | rfl
theorem r_ise0 (l Z a0) (hw : own_HW a0 Z) (ws s_D s_L s_LE s_E s_Z mr kd_ kl_ h0 n0) (O0 : Old Z n0 h0) (G : own_Ctx Z Z.heap s_D s_L s_LE s_E s_Z mr kd_ kl_) (a1 : Addr) (Fs : Fld Z h0 a1 "java/util/ArrayList" "size" "I" (.int (0 : Int32))) :
    oM l Y23_ jdk_38_method_9_code 1 (some .boolean) ws (own_rm_ 0 0 0 0) #[(.ref a1)] Z h0 n0 (own_Q (some (.int (1 : Int32)))) := by
  have G0 := G
  refine MetFree.of_bodySF (plainFor_of_name pn_2) hisR ?_
  intro p e s m args below meth c s₁ Bd hml0 hP hK
  obtain ⟨rfl, hZ, hh⟩ := hP
  have hx := Bd.exec
  have hby := Bd.bytes
  have hml : c.maxLocals = 1 := hml0
  have hown := findClass_of_methodNamed Bd.named
  have X0 : Stand p l e (own_rm_ 0 0 0 0) s m #[(.ref a1)] below meth c s₁ [] 0 0 := Stand.of_body Bd
  have e0 : s₁.heap = h0 := by rw [← hh, Bd.state]; rfl
  have N0 := Fr.nil n0
  have pre0 := own_pre (tb := p.tables) (e := e) (below := below) (T := s₁) (ef_9_23 m a1)
  obtain ⟨T1, X1, e1, st1⟩ := getF X0 hx hZ hown (host := "") (Or.inl (oW hw 73 rfl)) Via.refl e0 Fs (g := (mkF m 1 #[vR (a1)] [(.ref a1)])) rfl rfl (hb hby d9_1)
  obtain ⟨fs, hr, hrun, hended, hW, hsame⟩ := X1.leave (v := some (.int (1 : Int32))) (oR Bd.returns)
  refine ⟨_, _, pre0 _ ?_, hrun, hended, _, _, rfl, ?_, ⟨_, rfl⟩, hW, hsame.mono (by decide) (by decide)⟩
  · show own_St p e below s₁ m 0 #[vR (a1)] [] _
    refine XS.aloadN X0.here hx rfl (hb hby d9_0) rfl rfl ?_
    refine st1 _ ?_
    show own_St p e below T1 m 4 #[vR (a1)] [(.int (0 : Int32))] _
    refine XS.ifNo X1.here hx rfl (hb hby d9_4) rfl ((if0 _ _).trans (teq (by decide : (0 : Int32) = (0 : Int32))).2) ?_
    refine XS.iconst X1.here hx rfl (hb hby d9_7) ?_
    refine XS.goto X1.here hx rfl (pc0 := 8) (pc' := 12) rfl (hb hby d9_8) (by decide) (by decide) ?_
    show own_St p e below T1 m 12 #[vR (a1)] [(.int (1 : Int32))] _
    exact retN X1 hx (t := .boolean) Bd.returns (by simp) (hb hby d9_12) hr
  · show own_Q (some (.int (1 : Int32))) h0 n0 _ T1.heap _
    rw [e1]
    exact ⟨rfl, N0, rfl⟩
theorem d9_11 : D9_ 11 = .ok (.iconst 0, 1) := by decide +kernel
theorem r_ise1 (l Z a0) (hw : own_HW a0 Z) (ws s_D s_L s_LE s_E s_Z mr kd_ kl_ h0 n0) (O0 : Old Z n0 h0) (G : own_Ctx Z Z.heap s_D s_L s_LE s_E s_Z mr kd_ kl_) (a1 : Addr) (z1 : Int32) (Fs : Fld Z h0 a1 "java/util/ArrayList" "size" "I" (.int z1)) (hz : ¬ (z1 = (0 : Int32))) :
    oM l Y23_ jdk_38_method_9_code 1 (some .boolean) ws (own_rm_ 0 0 0 0) #[(.ref a1)] Z h0 n0 (own_Q (some (.int (0 : Int32)))) := by
  have G0 := G
  refine MetFree.of_bodySF (plainFor_of_name pn_2) hisR ?_
  intro p e s m args below meth c s₁ Bd hml0 hP hK
  obtain ⟨rfl, hZ, hh⟩ := hP
  have hx := Bd.exec
  have hby := Bd.bytes
  have hml : c.maxLocals = 1 := hml0
  have hown := findClass_of_methodNamed Bd.named
  have X0 : Stand p l e (own_rm_ 0 0 0 0) s m #[(.ref a1)] below meth c s₁ [] 0 0 := Stand.of_body Bd
  have e0 : s₁.heap = h0 := by rw [← hh, Bd.state]; rfl
  have N0 := Fr.nil n0
  have pre0 := own_pre (tb := p.tables) (e := e) (below := below) (T := s₁) (ef_9_23 m a1)
  obtain ⟨T1, X1, e1, st1⟩ := getF X0 hx hZ hown (host := "") (Or.inl (oW hw 73 rfl)) Via.refl e0 Fs (g := (mkF m 1 #[vR (a1)] [(.ref a1)])) rfl rfl (hb hby d9_1)
  obtain ⟨fs, hr, hrun, hended, hW, hsame⟩ := X1.leave (v := some (.int (0 : Int32))) (oR Bd.returns)
  refine ⟨_, _, pre0 _ ?_, hrun, hended, _, _, rfl, ?_, ⟨_, rfl⟩, hW, hsame.mono (by decide) (by decide)⟩
  · show own_St p e below s₁ m 0 #[vR (a1)] [] _
    refine XS.aloadN X0.here hx rfl (hb hby d9_0) rfl rfl ?_
    refine st1 _ ?_
    show own_St p e below T1 m 4 #[vR (a1)] [(.int z1)] _
    refine XS.ifYes X1.here hx rfl (pc0 := 4) (pc' := 11) rfl (hb hby d9_4) rfl ((if0 _ _).trans (feq (hz : ¬ (z1 = (0 : Int32)))).2) (by decide) (by decide) ?_
    refine XS.iconst X1.here hx rfl (hb hby d9_11) ?_
    show own_St p e below T1 m 12 #[vR (a1)] [(.int (0 : Int32))] _
    exact retN X1 hx (t := .boolean) Bd.returns (by simp) (hb hby d9_12) hr
  · show own_Q (some (.int (0 : Int32))) h0 n0 _ T1.heap _
    rw [e1]
    exact ⟨rfl, N0, rfl⟩
theorem d10_0 : D10_ 0 = .ok (.getstatic 90, 3) := by decide +kernel
theorem d10_3 : D10_ 3 = .ok (.areturn, 1) := by decide +kernel
theorem ef_10_24 (m : MethodId)  : entryFrame m #[] 0 = mkF m 0 #[] [] := by first | (simp [entryFrame, mkF, argsToLocals, Value.category]; done) | rfl
theorem r_lo0 (l Z a0) (hw : own_HW a0 Z) (ws s_D s_L s_LE s_E s_Z mr kd_ kl_ h0 n0) (O0 : Old Z n0 h0) (G : own_Ctx Z Z.heap s_D s_L s_LE s_E s_Z mr kd_ kl_)   :
    oM l Y24_ jdk_40_method_36_code 0 (some (.object "java/util/List")) ws (own_rm_ 0 0 0 0) #[] Z h0 n0 (own_Q (some (.ref s_L))) := by
  have G0 := G
  obtain ⟨S_D, E_D, V_D, S_L, E_L, F_L, V_L, S_E, E_E, S_A, S_Z, E_Z, M_A⟩ := G
  refine MetFree.of_bodySF (plainFor_of_name pn_10) hisR ?_
  intro p e s m args below meth c s₁ Bd hml0 hP hK
  obtain ⟨rfl, hZ, hh⟩ := hP
  have hx := Bd.exec
  have hby := Bd.bytes
  have hml : c.maxLocals = 0 := hml0
  have hown := findClass_of_methodNamed Bd.named
  have X0 : Stand p l e (own_rm_ 0 0 0 0) s m #[] below meth c s₁ [] 0 0 := Stand.of_body Bd
  have e0 : s₁.heap = h0 := by rw [← hh, Bd.state]; rfl
  have N0 := Fr.nil n0
  have pre0 := own_pre (tb := p.tables) (e := e) (below := below) (T := s₁) (ef_10_24 m )
  obtain ⟨T1, X1, e1, st1⟩ := getS2 X0 hx hZ hown (host := "") (Or.inl (oW hw 78 rfl)) Via.refl e0 (S_L.ext O0.2) (g := (mkF m 0 #[] [])) rfl (hb hby d10_0)
  obtain ⟨fs, hr, hrun, hended, hW, hsame⟩ := X1.leave (v := some (.ref s_L)) (oR Bd.returns)
  refine ⟨_, _, pre0 _ ?_, hrun, hended, _, _, rfl, ?_, ⟨_, rfl⟩, hW, hsame.mono (by decide) (by decide)⟩
  · show own_St p e below s₁ m 0 #[] [] _
    refine st1 _ ?_
    show own_St p e below T1 m 3 #[] [(.ref s_L)] _
    exact retOut X1 hx Bd.returns rfl (Or.inr (Or.inr (Or.inr (Or.inr ⟨rfl, rfl, rfl⟩)))) (hb hby d10_3) hr
  · show own_Q (some (.ref s_L)) h0 n0 _ T1.heap _
    rw [e1]
    exact ⟨rfl, N0, rfl⟩
theorem d8_0 : D8_ 0 = .ok (.aload_n 0, 1) := by decide +kernel
theorem d8_1 : D8_ 1 = .ok (.instanceof 10, 3) := by decide +kernel
theorem d8_4 : D8_ 4 = .ok (.ifCond .ne 22, 3) := by decide +kernel
theorem d8_7 : D8_ 7 = .ok (.aload_n 0, 1) := by decide +kernel
theorem d8_8 : D8_ 8 = .ok (.instanceof 12, 3) := by decide +kernel
theorem d8_11 : D8_ 11 = .ok (.ifCond .eq 20, 3) := by decide +kernel
theorem d8_31 : D8_ 31 = .ok (.aload_n 0, 1) := by decide +kernel
theorem d8_32 : D8_ 32 = .ok (.invokeinterface 20 1, 5) := by decide +kernel
theorem pd_13 : parseMethodDescriptor "()Z" = some ⟨[], some .boolean⟩ := by decide +kernel
theorem d8_37 : D8_ 37 = .ok (.ifCond .eq 7, 3) := by decide +kernel
theorem d8_40 : D8_ 40 = .ok (.invokestatic 26, 3) := by decide +kernel
theorem pd_14 : parseMethodDescriptor "()Ljava/util/List;" = some ⟨[], some (.object "java/util/List")⟩ := by decide +kernel
theorem d8_43 : D8_ 43 = .ok (.areturn, 1) := by decide +kernel
theorem ef_8_25 (m : MethodId) (x0 : Addr) : entryFrame m #[(.ref x0)] 2 = mkF m 0 #[vR (x0), .unset] [] := by first | (simp [entryFrame, mkF, argsToLocals, Value.category]; done) | rfl
theorem r_lc0 (l Z a0) (hw : own_HW a0 Z) (ws s_D s_L s_LE s_E s_Z mr kd_ kl_ h0 n0) (O0 : Old Z n0 h0) (G : own_Ctx Z Z.heap s_D s_L s_LE s_E s_Z mr kd_ kl_) (a1 : Addr) (Ea : Exa Z h0 a1 "java/util/ArrayList") (Fe : Fld Z h0 a1 "java/util/ArrayList" "elementData" "[Ljava/lang/Object;" (.ref s_D)) (Fs : Fld Z h0 a1 "java/util/ArrayList" "size" "I" (.int (0 : Int32))) :
    oM l Y25_ jdk_56_method_3_code 2 (some (.object "java/util/List")) ws (own_rm_ 1 0 0 12) #[(.ref a1)] Z h0 n0 (own_Qil Z s_E ([] : List Addr)) := by
  have G0 := G
  obtain ⟨S_D, E_D, V_D, S_L, E_L, F_L, V_L, S_E, E_E, S_A, S_Z, E_Z, M_A⟩ := G
  refine MetFree.of_bodySF (plainFor_of_name pn_9) hisR ?_
  intro p e s m args below meth c s₁ Bd hml0 hP hK
  obtain ⟨rfl, hZ, hh⟩ := hP
  have hx := Bd.exec
  have hby := Bd.bytes
  have hml : c.maxLocals = 2 := hml0
  have hown := findClass_of_methodNamed Bd.named
  have X0 : Stand p l e (own_rm_ 1 0 0 12) s m #[(.ref a1)] below meth c s₁ [] 0 0 := Stand.of_body Bd
  have e0 : s₁.heap = h0 := by rw [← hh, Bd.state]; rfl
  have N0 := Fr.nil n0
  have pre0 := own_pre (tb := p.tables) (e := e) (below := below) (T := s₁) (ef_8_25 m a1)
  obtain ⟨T1, X1, e1, st1⟩ := instNo X0 hx hZ hown (oW hw 58 rfl) e0 Ea (own_n12 hw) (g := (mkF m 1 #[vR (a1), .unset] [(.ref a1)])) rfl rfl (hb hby d8_1)
  obtain ⟨T2, X2, e2, st2⟩ := instNo X1 hx hZ hown (oW hw 63 rfl) e1 Ea (own_nN hw) (g := (mkF m 8 #[vR (a1), .unset] [(.ref a1)])) rfl rfl (hb hby d8_8)
  obtain ⟨cq3, kq3, q3a, q3b, q3c⟩ := isOf hZ e2 Ea
  obtain ⟨_, _, ⟨T3, L3, k3, n3⟩, -, X3, ⟨Lc3, hQ3, l3, y3, z3⟩, st3⟩ := X2.interfaceBack hx (xi := Y26_) (y := Y23_) hown (mvT hZ (oW hw 64 rfl)) (mvT hZ (oW hw 65 rfl)) (mvT hZ (oW hw 66 rfl)) (mvT hZ (oW hw 67 rfl)) (mvT hZ (oW hw 68 rfl)) (mvT hZ (oW hw 69 rfl)) (mvT hZ (oW hw 70 rfl)) (mvT hZ (oW hw 71 rfl)) (by decide) (backOf (W := 0) (r_ise0 l Z a0 hw [] s_D s_L s_LE s_E s_Z mr kd_ kl_ h0 n0 O0 G0 a1 Fs) hZ (oW hw 72 rfl) (oW hw 8 rfl) (by decide) (by decide)) q3a q3b q3c (g := (mkF m 32 #[vR (a1), .unset] [(.ref a1)])) rfl (by rw [hml]; rfl) (Steps.refl _) (argsL := []) (rest := []) (lenOf pd_13 rfl) rfl (by exact Nat.le_of_eq rfl) (hb hby d8_32) (fun _ _ => ⟨rfl, e2, (by decide : 0 + 0 ≤ _), (by decide : 0 + 0 ≤ _)⟩)
  dsimp only [Pt.U, Pt.locs, Pt.cells, Pt.slots] at X3 l3 y3 z3 st3 hQ3
  subst l3 y3 z3
  obtain ⟨rfl, N3q, e3⟩ := hQ3
  have N3 := Fr.app N0 N3q
  obtain ⟨_, _, ⟨T4, L4, k4, n4⟩, -, X4, ⟨Lc4, hQ4, l4, y4, z4⟩, st4⟩ := Jvm.LawKit.callS X3 hx (y := Y24_) hown (mvT hZ (oW hw 75 rfl)) (mvT hZ (oW hw 76 rfl)) (mvT hZ (oW hw 52 rfl)) (mvT hZ (oW hw 77 rfl)) (by decide) (backOf (W := 0) (r_lo0 l Z a0 hw [] s_D s_L s_LE s_E s_Z mr kd_ kl_ h0 n0 O0 G0) hZ (oW hw 77 rfl) (oW hw 52 rfl) (by decide) (by decide)) (g := (mkF m 40 #[vR (a1), .unset] [])) rfl (by rw [hml]; rfl) (argsL := []) (rest := []) (lenOf pd_14 rfl) rfl (by exact Nat.le_of_eq rfl) (hb hby d8_40) (fun _ _ => ⟨rfl, e3, (by decide : 0 + 0 ≤ _), (by decide : 0 + 0 ≤ _)⟩)
  dsimp only [Pt.U, Pt.locs, Pt.cells, Pt.slots] at X4 l4 y4 z4 st4 hQ4
  subst l4 y4 z4
  obtain ⟨rfl, N4q, e4⟩ := hQ4
  have N4 := Fr.app N3 N4q
  obtain ⟨fs, hr, hrun, hended, hW, hsame⟩ := X4.leave (v := some (.ref s_L)) (oR Bd.returns)
  refine ⟨_, _, pre0 _ ?_, hrun, hended, _, _, rfl, ?_, ⟨_, rfl⟩, hW, hsame.mono (by decide) (by decide)⟩
  · show own_St p e below s₁ m 0 #[vR (a1), .unset] [] _
    refine XS.aloadN X0.here hx rfl (hb hby d8_0) rfl rfl ?_
    refine st1 _ ?_
    show own_St p e below T1 m 4 #[vR (a1), .unset] [(.int (0 : Int32))] _
    refine XS.ifNo X1.here hx rfl (hb hby d8_4) rfl ((if0 _ _).trans (teq (by decide : (0 : Int32) = (0 : Int32))).2) ?_
    refine XS.aloadN X1.here hx rfl (hb hby d8_7) rfl rfl ?_
    refine st2 _ ?_
    show own_St p e below T2 m 11 #[vR (a1), .unset] [(.int (0 : Int32))] _
    refine XS.ifYes X2.here hx rfl (pc0 := 11) (pc' := 31) rfl (hb hby d8_11) rfl ((if0 _ _).trans (teq (by decide : (0 : Int32) = (0 : Int32))).1) (by decide) (by decide) ?_
    refine XS.aloadN X2.here hx rfl (hb hby d8_31) rfl rfl ?_
    refine st3.trans ?_
    show own_St p e below T3 m 37 #[vR (a1), .unset] [(.int (1 : Int32))] _
    refine XS.ifNo X3.here hx rfl (hb hby d8_37) rfl ((if0 _ _).trans (feq (by decide : ¬ ((1 : Int32) = (0 : Int32)))).1) ?_
    refine st4 _ ?_
    show own_St p e below T4 m 43 #[vR (a1), .unset] [(.ref s_L)] _
    exact retOut X4 hx Bd.returns rfl (Or.inr (Or.inr (Or.inr (Or.inr ⟨rfl, rfl, rfl⟩)))) (hb hby d8_43) hr
  · show own_Qil Z s_E ([] : List Addr) h0 n0 _ T4.heap _
    rw [e4]
    exact ⟨s_L, rfl, N4, (Keep.refl h0 []), Or.inl ⟨E_L.ext O0.2, s_LE, kl_, F_L.ext O0.2, V_L.ext O0.2⟩⟩
theorem d7_0 : D7_ 0 = .ok (.aload_n 0, 1) := by decide +kernel
theorem d7_1 : D7_ 1 = .ok (.invokestatic 112, 3) := by decide +kernel
theorem pd_15 : parseMethodDescriptor "(Ljava/util/Collection;)Ljava/util/List;" = some ⟨[(.object "java/util/Collection")], some (.object "java/util/List")⟩ := by decide +kernel
theorem d7_4 : D7_ 4 = .ok (.areturn, 1) := by decide +kernel
theorem ef_7_26 (m : MethodId) (x0 : Addr) : entryFrame m #[(.ref x0)] 1 = mkF m 0 #[vR (x0)] [] := by first | (simp [entryFrame, mkF, argsToLocals, Value.category]; done) | rfl
theorem r_co0 (l Z a0) (hw : own_HW a0 Z) (ws s_D s_L s_LE s_E s_Z mr kd_ kl_ h0 n0) (O0 : Old Z n0 h0) (G : own_Ctx Z Z.heap s_D s_L s_LE s_E s_Z mr kd_ kl_) (a1 : Addr) (Ea : Exa Z h0 a1 "java/util/ArrayList") (Fe : Fld Z h0 a1 "java/util/ArrayList" "elementData" "[Ljava/lang/Object;" (.ref s_D)) (Fs : Fld Z h0 a1 "java/util/ArrayList" "size" "I" (.int (0 : Int32))) :
    oM l Y27_ jdk_40_method_48_code 1 (some (.object "java/util/List")) ws (own_rm_ 2 0 0 25) #[(.ref a1)] Z h0 n0 (own_Qil Z s_E ([] : List Addr)) := by
  have G0 := G
  refine MetFree.of_bodySF (plainFor_of_name pn_10) hisR ?_
  intro p e s m args below meth c s₁ Bd hml0 hP hK
  obtain ⟨rfl, hZ, hh⟩ := hP
  have hx := Bd.exec
  have hby := Bd.bytes
  have hml : c.maxLocals = 1 := hml0
  have hown := findClass_of_methodNamed Bd.named
  have X0 : Stand p l e (own_rm_ 2 0 0 25) s m #[(.ref a1)] below meth c s₁ [] 0 0 := Stand.of_body Bd
  have e0 : s₁.heap = h0 := by rw [← hh, Bd.state]; rfl
  have N0 := Fr.nil n0
  have pre0 := own_pre (tb := p.tables) (e := e) (below := below) (T := s₁) (ef_7_26 m a1)
  obtain ⟨_, _, ⟨T1, L1, k1, n1⟩, -, X1, ⟨Lc1, hQ1, l1, y1, z1⟩, st1⟩ := Jvm.LawKit.callS X0 hx (y := Y25_) hown (mvT hZ (oW hw 54 rfl)) (mvT hZ (oW hw 55 rfl)) (mvT hZ (oW hw 56 rfl)) (mvT hZ (oW hw 57 rfl)) (by decide) (backOf (W := 0) (r_lc0 l Z a0 hw [] s_D s_L s_LE s_E s_Z mr kd_ kl_ h0 n0 O0 G0 a1 Ea Fe Fs) hZ (oW hw 57 rfl) (oW hw 56 rfl) (by decide) (by decide)) (g := (mkF m 1 #[vR (a1)] [(.ref a1)])) rfl (by rw [hml]; rfl) (argsL := [(.ref a1)]) (rest := []) (lenOf pd_15 rfl) rfl (by exact Nat.le_of_eq rfl) (hb hby d7_1) (fun _ _ => ⟨rfl, e0, (by decide : 0 + 0 ≤ _), (by decide : 0 + 0 ≤ _)⟩)
  dsimp only [Pt.U, Pt.locs, Pt.cells, Pt.slots] at X1 l1 y1 z1 st1 hQ1
  subst l1 y1 z1
  obtain ⟨t1, rfl, N1q, Kq1, Iq1⟩ := hQ1
  have N1 := Fr.app N0 N1q
  have K1 : Keep h0 T1.heap [] := (Keep.refl h0 []).trans Kq1 all0
  obtain ⟨fs, hr, hrun, hended, hW, hsame⟩ := X1.leave (v := some (.ref t1)) (oR Bd.returns)
  refine ⟨_, _, pre0 _ ?_, hrun, hended, _, _, rfl, ?_, ⟨_, rfl⟩, hW, hsame.mono (by decide) (by decide)⟩
  · show own_St p e below s₁ m 0 #[vR (a1)] [] _
    refine XS.aloadN X0.here hx rfl (hb hby d7_0) rfl rfl ?_
    refine st1 _ ?_
    show own_St p e below T1 m 4 #[vR (a1)] [(.ref t1)] _
    exact retOut X1 hx Bd.returns rfl (Or.inr (Or.inr (Or.inr (Or.inr ⟨rfl, rfl, rfl⟩)))) (hb hby d7_4) hr
  · show own_Qil Z s_E ([] : List Addr) h0 n0 _ T1.heap _
    exact ⟨t1, rfl, N1, K1, Iq1⟩
theorem d8_44 : D8_ 44 = .ok (.aload_n 0, 1) := by decide +kernel
theorem d8_45 : D8_ 45 = .ok (.invokeinterface 30 1, 5) := by decide +kernel
theorem d8_50 : D8_ 50 = .ok (.invokestatic 34, 3) := by decide +kernel
theorem d8_53 : D8_ 53 = .ok (.areturn, 1) := by decide +kernel
theorem r_lc1 (l Z a0) (hw : own_HW a0 Z) (ws s_D s_L s_LE s_E s_Z mr kd_ kl_ h0 n0) (O0 : Old Z n0 h0) (G : own_Ctx Z Z.heap s_D s_L s_LE s_E s_Z mr kd_ kl_) (a1 : Addr) (a2 : Addr) (k2 : ClassId) (xs : List Addr) (Ea : Exa Z h0 a1 "java/util/ArrayList") (Fe : Fld Z h0 a1 "java/util/ArrayList" "elementData" "[Ljava/lang/Object;" (.ref a2)) (Fs : Fld Z h0 a1 "java/util/ArrayList" "size" "I" (.int xs.length.toInt32)) (Ed : Exa Z h0 a2 "[Ljava/lang/Object;") (Vd : Arv Z h0 a2 k2 (.object "java/lang/Object") (10 : Int32) (xs.map Value.ref) .null) (Xs : own_Exs Z h0 xs) (hn : xs.length ≤ 4) (h1 : 1 ≤ xs.length) (hnE : ∀ q : 1 < xs.length, xs[1] ≠ s_E) :
    oM l Y25_ jdk_56_method_3_code 2 (some (.object "java/util/List")) ws (own_rm_ 7 3 10 90) #[(.ref a1)] Z h0 n0 (own_Qil Z s_E xs) := by
  have G0 := G
  obtain ⟨S_D, E_D, V_D, S_L, E_L, F_L, V_L, S_E, E_E, S_A, S_Z, E_Z, M_A⟩ := G
  refine MetFree.of_bodySF (plainFor_of_name pn_9) hisR ?_
  intro p e s m args below meth c s₁ Bd hml0 hP hK
  obtain ⟨rfl, hZ, hh⟩ := hP
  have hx := Bd.exec
  have hby := Bd.bytes
  have hml : c.maxLocals = 2 := hml0
  have hown := findClass_of_methodNamed Bd.named
  have X0 : Stand p l e (own_rm_ 7 3 10 90) s m #[(.ref a1)] below meth c s₁ [] 0 0 := Stand.of_body Bd
  have e0 : s₁.heap = h0 := by rw [← hh, Bd.state]; rfl
  have N0 := Fr.nil n0
  have pre0 := own_pre (tb := p.tables) (e := e) (below := below) (T := s₁) (ef_8_25 m a1)
  obtain ⟨T1, X1, e1, st1⟩ := instNo X0 hx hZ hown (oW hw 58 rfl) e0 Ea (own_n12 hw) (g := (mkF m 1 #[vR (a1), .unset] [(.ref a1)])) rfl rfl (hb hby d8_1)
  obtain ⟨T2, X2, e2, st2⟩ := instNo X1 hx hZ hown (oW hw 63 rfl) e1 Ea (own_nN hw) (g := (mkF m 8 #[vR (a1), .unset] [(.ref a1)])) rfl rfl (hb hby d8_8)
  obtain ⟨cq3, kq3, q3a, q3b, q3c⟩ := isOf hZ e2 Ea
  obtain ⟨_, _, ⟨T3, L3, k3, n3⟩, -, X3, ⟨Lc3, hQ3, l3, y3, z3⟩, st3⟩ := X2.interfaceBack hx (xi := Y26_) (y := Y23_) hown (mvT hZ (oW hw 64 rfl)) (mvT hZ (oW hw 65 rfl)) (mvT hZ (oW hw 66 rfl)) (mvT hZ (oW hw 67 rfl)) (mvT hZ (oW hw 68 rfl)) (mvT hZ (oW hw 69 rfl)) (mvT hZ (oW hw 70 rfl)) (mvT hZ (oW hw 71 rfl)) (by decide) (backOf (W := 0) (r_ise1 l Z a0 hw [] s_D s_L s_LE s_E s_Z mr kd_ kl_ h0 n0 O0 G0 a1 xs.length.toInt32 Fs (own_nz1 h1 hn)) hZ (oW hw 72 rfl) (oW hw 8 rfl) (by decide) (by decide)) q3a q3b q3c (g := (mkF m 32 #[vR (a1), .unset] [(.ref a1)])) rfl (by rw [hml]; rfl) (Steps.refl _) (argsL := []) (rest := []) (lenOf pd_13 rfl) rfl (by exact Nat.le_of_eq rfl) (hb hby d8_32) (fun _ _ => ⟨rfl, e2, (by decide : 0 + 0 ≤ _), (by decide : 0 + 0 ≤ _)⟩)
  dsimp only [Pt.U, Pt.locs, Pt.cells, Pt.slots] at X3 l3 y3 z3 st3 hQ3
  subst l3 y3 z3
  obtain ⟨rfl, N3q, e3⟩ := hQ3
  have N3 := Fr.app N0 N3q
  obtain ⟨cq4, kq4, q4a, q4b, q4c⟩ := isOf hZ e3 Ea
  obtain ⟨_, _, ⟨T4, L4, k4, n4⟩, -, X4, ⟨Lc4, hQ4, l4, y4, z4⟩, st4⟩ := X3.interfaceBack hx (xi := Y28_) (y := Y17_) hown (mvT hZ (oW hw 273 rfl)) (mvT hZ (oW hw 274 rfl)) (mvT hZ (oW hw 275 rfl)) (mvT hZ (oW hw 276 rfl)) (mvT hZ (oW hw 277 rfl)) (mvT hZ (oW hw 278 rfl)) (mvT hZ (oW hw 279 rfl)) (mvT hZ (oW hw 71 rfl)) (by decide) (backOf (W := 0) (r_ta l Z a0 hw [] s_D s_L s_LE s_E s_Z mr kd_ kl_ h0 n0 O0 G0 a1 a2 k2 xs Fe Fs Ed Vd Xs hn) hZ (oW hw 280 rfl) (oW hw 8 rfl) (by decide) (by decide)) q4a q4b q4c (g := (mkF m 45 #[vR (a1), .unset] [(.ref a1)])) rfl (by rw [hml]; rfl) (Steps.refl _) (argsL := []) (rest := []) (lenOf pd_3 rfl) rfl (by exact Nat.le_of_eq rfl) (hb hby d8_45) (fun _ _ => ⟨rfl, e3, (by decide : 0 + 1 ≤ _), (by decide : 0 + 4 ≤ _)⟩)
  dsimp only [Pt.U, Pt.locs, Pt.cells, Pt.slots] at X4 l4 y4 z4 st4 hQ4
  subst l4 y4 z4
  obtain ⟨t4, kt4, rfl, N4q, Kq4, gt4, Et4, Vt4, Ot4⟩ := hQ4
  have N4 := Fr.app N3 N4q
  have O4 := O0.keep Kq4 all0
  have K4 : Keep h0 T4.heap [] := (Keep.refl h0 []).trans Kq4 all0
  have xs4 : own_Exs Z T4.heap xs := (fun j hj => (Xs j hj).keep Kq4)
  obtain ⟨_, _, ⟨T10, L10, k10, n10⟩, -, X10, ⟨Lc10, hQ10, l10, y10, z10⟩, st10⟩ := Jvm.LawKit.callS X4 hx (y := Y19_) hown (mvT hZ (oW hw 301 rfl)) (mvT hZ (oW hw 302 rfl)) (mvT hZ (oW hw 52 rfl)) (mvT hZ (oW hw 303 rfl)) (by decide) (backOf (W := 0) (r_lof l Z a0 hw [] s_D s_L s_LE s_E s_Z mr kd_ kl_ T4.heap n0 O4 G0 t4 kt4 xs Et4 Vt4 xs4 h1 hn hnE) hZ (oW hw 303 rfl) (oW hw 52 rfl) (by decide) (by decide)) (g := (mkF m 50 #[vR (a1), .unset] [(.ref t4)])) rfl (by rw [hml]; rfl) (argsL := [(.ref t4)]) (rest := []) (lenOf pd_11 rfl) rfl (by exact Nat.le_of_eq rfl) (hb hby d8_50) (fun _ _ => ⟨rfl, rfl, (by decide : 1 + 2 ≤ _), (by decide : 4 + 6 ≤ _)⟩)
  dsimp only [Pt.U, Pt.locs, Pt.cells, Pt.slots] at X10 l10 y10 z10 st10 hQ10
  subst l10 y10 z10
  obtain ⟨t10, rfl, N10q, Kq10, Iq10⟩ := hQ10
  have N10 := Fr.app N4 N10q
  have K10 : Keep h0 T10.heap [] := K4.trans Kq10 all0
  have xs10 : own_Exs Z T10.heap xs := (fun j hj => (xs4 j hj).keep Kq10)
  obtain ⟨fs, hr, hrun, hended, hW, hsame⟩ := X10.leave (v := some (.ref t10)) (oR Bd.returns)
  refine ⟨_, _, pre0 _ ?_, hrun, hended, _, _, rfl, ?_, ⟨_, rfl⟩, hW, hsame.mono (by decide) (by decide)⟩
  · show own_St p e below s₁ m 0 #[vR (a1), .unset] [] _
    refine XS.aloadN X0.here hx rfl (hb hby d8_0) rfl rfl ?_
    refine st1 _ ?_
    show own_St p e below T1 m 4 #[vR (a1), .unset] [(.int (0 : Int32))] _
    refine XS.ifNo X1.here hx rfl (hb hby d8_4) rfl ((if0 _ _).trans (teq (by decide : (0 : Int32) = (0 : Int32))).2) ?_
    refine XS.aloadN X1.here hx rfl (hb hby d8_7) rfl rfl ?_
    refine st2 _ ?_
    show own_St p e below T2 m 11 #[vR (a1), .unset] [(.int (0 : Int32))] _
    refine XS.ifYes X2.here hx rfl (pc0 := 11) (pc' := 31) rfl (hb hby d8_11) rfl ((if0 _ _).trans (teq (by decide : (0 : Int32) = (0 : Int32))).1) (by decide) (by decide) ?_
    refine XS.aloadN X2.here hx rfl (hb hby d8_31) rfl rfl ?_
    refine st3.trans ?_
    show own_St p e below T3 m 37 #[vR (a1), .unset] [(.int (0 : Int32))] _
    refine XS.ifYes X3.here hx rfl (pc0 := 37) (pc' := 44) rfl (hb hby d8_37) rfl ((if0 _ _).trans (teq (by decide : (0 : Int32) = (0 : Int32))).1) (by decide) (by decide) ?_
    refine XS.aloadN X3.here hx rfl (hb hby d8_44) rfl rfl ?_
    refine st4.trans ?_
    refine st10 _ ?_
    show own_St p e below T10 m 53 #[vR (a1), .unset] [(.ref t10)] _
    exact retOut X10 hx Bd.returns rfl (Or.inr (Or.inr (Or.inr (Or.inr ⟨rfl, rfl, rfl⟩)))) (hb hby d8_53) hr
  · show own_Qil Z s_E xs h0 n0 _ T10.heap _
    exact ⟨t10, rfl, N10, K10, Iq10⟩
theorem r_co1 (l Z a0) (hw : own_HW a0 Z) (ws s_D s_L s_LE s_E s_Z mr kd_ kl_ h0 n0) (O0 : Old Z n0 h0) (G : own_Ctx Z Z.heap s_D s_L s_LE s_E s_Z mr kd_ kl_) (a1 : Addr) (a2 : Addr) (k2 : ClassId) (xs : List Addr) (Ea : Exa Z h0 a1 "java/util/ArrayList") (Fe : Fld Z h0 a1 "java/util/ArrayList" "elementData" "[Ljava/lang/Object;" (.ref a2)) (Fs : Fld Z h0 a1 "java/util/ArrayList" "size" "I" (.int xs.length.toInt32)) (Ed : Exa Z h0 a2 "[Ljava/lang/Object;") (Vd : Arv Z h0 a2 k2 (.object "java/lang/Object") (10 : Int32) (xs.map Value.ref) .null) (Xs : own_Exs Z h0 xs) (hn : xs.length ≤ 4) (h1 : 1 ≤ xs.length) (hnE : ∀ q : 1 < xs.length, xs[1] ≠ s_E) :
    oM l Y27_ jdk_40_method_48_code 1 (some (.object "java/util/List")) ws (own_rm_ 8 3 10 103) #[(.ref a1)] Z h0 n0 (own_Qil Z s_E xs) := by
  have G0 := G
  refine MetFree.of_bodySF (plainFor_of_name pn_10) hisR ?_
  intro p e s m args below meth c s₁ Bd hml0 hP hK
  obtain ⟨rfl, hZ, hh⟩ := hP
  have hx := Bd.exec
  have hby := Bd.bytes
  have hml : c.maxLocals = 1 := hml0
  have hown := findClass_of_methodNamed Bd.named
  have X0 : Stand p l e (own_rm_ 8 3 10 103) s m #[(.ref a1)] below meth c s₁ [] 0 0 := Stand.of_body Bd
  have e0 : s₁.heap = h0 := by rw [← hh, Bd.state]; rfl
  have N0 := Fr.nil n0
  have pre0 := own_pre (tb := p.tables) (e := e) (below := below) (T := s₁) (ef_7_26 m a1)
  obtain ⟨_, _, ⟨T1, L1, k1, n1⟩, -, X1, ⟨Lc1, hQ1, l1, y1, z1⟩, st1⟩ := Jvm.LawKit.callS X0 hx (y := Y25_) hown (mvT hZ (oW hw 54 rfl)) (mvT hZ (oW hw 55 rfl)) (mvT hZ (oW hw 56 rfl)) (mvT hZ (oW hw 57 rfl)) (by decide) (backOf (W := 0) (r_lc1 l Z a0 hw [] s_D s_L s_LE s_E s_Z mr kd_ kl_ h0 n0 O0 G0 a1 a2 k2 xs Ea Fe Fs Ed Vd Xs hn h1 hnE) hZ (oW hw 57 rfl) (oW hw 56 rfl) (by decide) (by decide)) (g := (mkF m 1 #[vR (a1)] [(.ref a1)])) rfl (by rw [hml]; rfl) (argsL := [(.ref a1)]) (rest := []) (lenOf pd_15 rfl) rfl (by exact Nat.le_of_eq rfl) (hb hby d7_1) (fun _ _ => ⟨rfl, e0, (by decide : 0 + 3 ≤ _), (by decide : 0 + 10 ≤ _)⟩)
  dsimp only [Pt.U, Pt.locs, Pt.cells, Pt.slots] at X1 l1 y1 z1 st1 hQ1
  subst l1 y1 z1
  obtain ⟨t1, rfl, N1q, Kq1, Iq1⟩ := hQ1
  have N1 := Fr.app N0 N1q
  have K1 : Keep h0 T1.heap [] := (Keep.refl h0 []).trans Kq1 all0
  have xs1 : own_Exs Z T1.heap xs := (fun j hj => (Xs j hj).keep Kq1)
  obtain ⟨fs, hr, hrun, hended, hW, hsame⟩ := X1.leave (v := some (.ref t1)) (oR Bd.returns)
  refine ⟨_, _, pre0 _ ?_, hrun, hended, _, _, rfl, ?_, ⟨_, rfl⟩, hW, hsame.mono (by decide) (by decide)⟩
  · show own_St p e below s₁ m 0 #[vR (a1)] [] _
    refine XS.aloadN X0.here hx rfl (hb hby d7_0) rfl rfl ?_
    refine st1 _ ?_
    show own_St p e below T1 m 4 #[vR (a1)] [(.ref t1)] _
    exact retOut X1 hx Bd.returns rfl (Or.inr (Or.inr (Or.inr (Or.inr ⟨rfl, rfl, rfl⟩)))) (hb hby d7_4) hr
  · show own_Qil Z s_E xs h0 n0 _ T1.heap _
    exact ⟨t1, rfl, N1, K1, Iq1⟩
theorem d13_0 : D13_ 0 = .ok (.aload_n 0, 1) := by decide +kernel
theorem d13_1 : D13_ 1 = .ok (.getfield 7, 3) := by decide +kernel
theorem d13_4 : D13_ 4 = .ok (.arraylength, 1) := by decide +kernel
theorem d13_5 : D13_ 5 = .ok (.ireturn, 1) := by decide +kernel
theorem ef_13_27 (m : MethodId) (x0 : Addr) : entryFrame m #[(.ref x0)] 1 = mkF m 0 #[vR (x0)] [] := by first | (simp [entryFrame, mkF, argsToLocals, Value.category]; done) | rfl
theorem r_szN (l Z a0) (hw : own_HW a0 Z) (ws s_D s_L s_LE s_E s_Z mr kd_ kl_ h0 n0) (O0 : Old Z n0 h0) (G : own_Ctx Z Z.heap s_D s_L s_LE s_E s_Z mr kd_ kl_) (a1 a2 : Addr) (k2 : ClassId) (xs : List Addr) (E1_ : Exa Z h0 a1 "java/util/ImmutableCollections$ListN") (F1 : Fld Z h0 a1 "java/util/ImmutableCollections$ListN" "elements" "[Ljava/lang/Object;" (.ref a2)) (Va : Arv Z h0 a2 k2 (.object "java/lang/Object") xs.length.toInt32 (xs.map Value.ref) .null) (hn : xs.length ≤ 4) :
    oM l Y29_ jdk_45_method_3_code 1 (some .int) ws (own_rm_ 0 0 0 0) #[(.ref a1)] Z h0 n0 (own_Q (some (.int xs.length.toInt32))) := by
  have G0 := G
  refine MetFree.of_bodySF (plainFor_of_name pn_7) hisR ?_
  intro p e s m args below meth c s₁ Bd hml0 hP hK
  obtain ⟨rfl, hZ, hh⟩ := hP
  have hx := Bd.exec
  have hby := Bd.bytes
  have hml : c.maxLocals = 1 := hml0
  have hown := findClass_of_methodNamed Bd.named
  have X0 : Stand p l e (own_rm_ 0 0 0 0) s m #[(.ref a1)] below meth c s₁ [] 0 0 := Stand.of_body Bd
  have e0 : s₁.heap = h0 := by rw [← hh, Bd.state]; rfl
  have N0 := Fr.nil n0
  have pre0 := own_pre (tb := p.tables) (e := e) (below := below) (T := s₁) (ef_13_27 m a1)
  obtain ⟨T1, X1, e1, st1⟩ := getF X0 hx hZ hown (host := "") (Or.inl (oW hw 111 rfl)) Via.refl e0 F1 (g := (mkF m 1 #[vR (a1)] [(.ref a1)])) rfl rfl (hb hby d13_1)
  have vc2 := Va
  obtain ⟨cl2, Ar2, qk2, S2, Nn2, Hs2, Gf2⟩ := vc2
  obtain ⟨fs, hr, hrun, hended, hW, hsame⟩ := X1.leave (v := some (.int xs.length.toInt32)) (oR Bd.returns)
  refine ⟨_, _, pre0 _ ?_, hrun, hended, _, _, rfl, ?_, ⟨_, rfl⟩, hW, hsame.mono (by decide) (by decide)⟩
  · show own_St p e below s₁ m 0 #[vR (a1)] [] _
    refine XS.aloadN X0.here hx rfl (hb hby d13_0) rfl rfl ?_
    refine st1 _ ?_
    show own_St p e below T1 m 4 #[vR (a1)] [(.ref a2)] _
    refine X1.arraylength hx (by rw [e1]; exact Ar2.1) (State.isArrayOf_alike hZ.alike Ar2.2.1) (g := (mkF m 4 #[vR (a1)] [(.ref a2)])) rfl rfl (hb hby d13_4) _ ?_
    rw [len_of S2 Nn2]
    show own_St p e below T1 m 5 #[vR (a1)] [(.int xs.length.toInt32)] _
    exact retI X1 hx Bd.returns (hb hby d13_5) hr
  · show own_Q (some (.int xs.length.toInt32)) h0 n0 _ T1.heap _
    rw [e1]
    exact ⟨rfl, N0, rfl⟩
theorem d42_0 : D42_ 0 = .ok (.aload_n 0, 1) := by decide +kernel
theorem d42_1 : D42_ 1 = .ok (.getfield 24, 3) := by decide +kernel
theorem d42_4 : D42_ 4 = .ok (.getstatic 19, 3) := by decide +kernel
theorem d42_7 : D42_ 7 = .ok (.if_acmp .eq 7, 3) := by decide +kernel
theorem d42_14 : D42_ 14 = .ok (.iconst 1, 1) := by decide +kernel
theorem d42_15 : D42_ 15 = .ok (.ireturn, 1) := by decide +kernel
theorem ef_42_28 (m : MethodId) (x0 : Addr) : entryFrame m #[(.ref x0)] 1 = mkF m 0 #[vR (x0)] [] := by first | (simp [entryFrame, mkF, argsToLocals, Value.category]; done) | rfl
theorem r_szA (l Z a0) (hw : own_HW a0 Z) (ws s_D s_L s_LE s_E s_Z mr kd_ kl_ h0 n0) (O0 : Old Z n0 h0) (G : own_Ctx Z Z.heap s_D s_L s_LE s_E s_Z mr kd_ kl_) (a1 x_ : Addr) (E1_ : Exa Z h0 a1 "java/util/ImmutableCollections$List12") (F1 : Fld Z h0 a1 "java/util/ImmutableCollections$List12" "e0" "Ljava/lang/Object;" (.ref x_)) (F2 : Fld Z h0 a1 "java/util/ImmutableCollections$List12" "e1" "Ljava/lang/Object;" (.ref s_E)) :
    oM l Y30_ jdk_44_method_3_code 1 (some .int) ws (own_rm_ 0 0 0 0) #[(.ref a1)] Z h0 n0 (own_Q (some (.int (1 : Int32)))) := by
  have G0 := G
  obtain ⟨S_D, E_D, V_D, S_L, E_L, F_L, V_L, S_E, E_E, S_A, S_Z, E_Z, M_A⟩ := G
  refine MetFree.of_bodySF (plainFor_of_name pn_6) hisR ?_
  intro p e s m args below meth c s₁ Bd hml0 hP hK
  obtain ⟨rfl, hZ, hh⟩ := hP
  have hx := Bd.exec
  have hby := Bd.bytes
  have hml : c.maxLocals = 1 := hml0
  have hown := findClass_of_methodNamed Bd.named
  have X0 : Stand p l e (own_rm_ 0 0 0 0) s m #[(.ref a1)] below meth c s₁ [] 0 0 := Stand.of_body Bd
  have e0 : s₁.heap = h0 := by rw [← hh, Bd.state]; rfl
  have N0 := Fr.nil n0
  have pre0 := own_pre (tb := p.tables) (e := e) (below := below) (T := s₁) (ef_42_28 m a1)
  obtain ⟨T1, X1, e1, st1⟩ := getF X0 hx hZ hown (host := "") (Or.inl (oW hw 321 rfl)) Via.refl e0 F2 (g := (mkF m 1 #[vR (a1)] [(.ref a1)])) rfl rfl (hb hby d42_1)
  obtain ⟨T2, X2, e2, st2⟩ := getS2 X1 hx hZ hown (Or.inr (oW hw 320 rfl)) Via.refl e1 (S_E.ext O0.2) (g := (mkF m 4 #[vR (a1)] [(.ref s_E)])) rfl (hb hby d42_4)
  obtain ⟨fs, hr, hrun, hended, hW, hsame⟩ := X2.leave (v := some (.int (1 : Int32))) (oR Bd.returns)
  refine ⟨_, _, pre0 _ ?_, hrun, hended, _, _, rfl, ?_, ⟨_, rfl⟩, hW, hsame.mono (by decide) (by decide)⟩
  · show own_St p e below s₁ m 0 #[vR (a1)] [] _
    refine XS.aloadN X0.here hx rfl (hb hby d42_0) rfl rfl ?_
    refine st1 _ ?_
    refine st2 _ ?_
    show own_St p e below T2 m 7 #[vR (a1)] [(.ref s_E), (.ref s_E)] _
    refine Jvm.RoadKit.acmp (g := (mkF m 7 #[vR (a1)] [(.ref s_E), (.ref s_E)])) X2 hx rfl rfl rfl (pc0 := 7) (pc' := 14) (same := true) rfl (hb hby d42_7) rfl (decide_eq_true rfl) (by decide) (by decide) ?_
    show own_St p e below T2 m 14 #[vR (a1)] [] _
    refine XS.iconst X2.here hx rfl (hb hby d42_14) ?_
    show own_St p e below T2 m 15 #[vR (a1)] [(.int (1 : Int32))] _
    exact retI X2 hx Bd.returns (hb hby d42_15) hr
  · show own_Q (some (.int (1 : Int32))) h0 n0 _ T2.heap _
    rw [e2]
    exact ⟨rfl, N0, rfl⟩
theorem d42_10 : D42_ 10 = .ok (.iconst 2, 1) := by decide +kernel
theorem d42_11 : D42_ 11 = .ok (.goto 4, 3) := by decide +kernel
theorem r_szB (l Z a0) (hw : own_HW a0 Z) (ws s_D s_L s_LE s_E s_Z mr kd_ kl_ h0 n0) (O0 : Old Z n0 h0) (G : own_Ctx Z Z.heap s_D s_L s_LE s_E s_Z mr kd_ kl_) (a1 x_ y_ : Addr) (E1_ : Exa Z h0 a1 "java/util/ImmutableCollections$List12") (F1 : Fld Z h0 a1 "java/util/ImmutableCollections$List12" "e0" "Ljava/lang/Object;" (.ref x_)) (F2 : Fld Z h0 a1 "java/util/ImmutableCollections$List12" "e1" "Ljava/lang/Object;" (.ref y_)) (hyE : y_ ≠ s_E) :
    oM l Y30_ jdk_44_method_3_code 1 (some .int) ws (own_rm_ 0 0 0 0) #[(.ref a1)] Z h0 n0 (own_Q (some (.int (2 : Int32)))) := by
  have G0 := G
  obtain ⟨S_D, E_D, V_D, S_L, E_L, F_L, V_L, S_E, E_E, S_A, S_Z, E_Z, M_A⟩ := G
  refine MetFree.of_bodySF (plainFor_of_name pn_6) hisR ?_
  intro p e s m args below meth c s₁ Bd hml0 hP hK
  obtain ⟨rfl, hZ, hh⟩ := hP
  have hx := Bd.exec
  have hby := Bd.bytes
  have hml : c.maxLocals = 1 := hml0
  have hown := findClass_of_methodNamed Bd.named
  have X0 : Stand p l e (own_rm_ 0 0 0 0) s m #[(.ref a1)] below meth c s₁ [] 0 0 := Stand.of_body Bd
  have e0 : s₁.heap = h0 := by rw [← hh, Bd.state]; rfl
  have N0 := Fr.nil n0
  have pre0 := own_pre (tb := p.tables) (e := e) (below := below) (T := s₁) (ef_42_28 m a1)
  obtain ⟨T1, X1, e1, st1⟩ := getF X0 hx hZ hown (host := "") (Or.inl (oW hw 321 rfl)) Via.refl e0 F2 (g := (mkF m 1 #[vR (a1)] [(.ref a1)])) rfl rfl (hb hby d42_1)
  obtain ⟨T2, X2, e2, st2⟩ := getS2 X1 hx hZ hown (Or.inr (oW hw 320 rfl)) Via.refl e1 (S_E.ext O0.2) (g := (mkF m 4 #[vR (a1)] [(.ref y_)])) rfl (hb hby d42_4)
  obtain ⟨fs, hr, hrun, hended, hW, hsame⟩ := X2.leave (v := some (.int (2 : Int32))) (oR Bd.returns)
  refine ⟨_, _, pre0 _ ?_, hrun, hended, _, _, rfl, ?_, ⟨_, rfl⟩, hW, hsame.mono (by decide) (by decide)⟩
  · show own_St p e below s₁ m 0 #[vR (a1)] [] _
    refine XS.aloadN X0.here hx rfl (hb hby d42_0) rfl rfl ?_
    refine st1 _ ?_
    refine st2 _ ?_
    show own_St p e below T2 m 7 #[vR (a1)] [(.ref s_E), (.ref y_)] _
    refine Jvm.RoadKit.acmp (g := (mkF m 7 #[vR (a1)] [(.ref s_E), (.ref y_)])) X2 hx rfl rfl rfl (pc0 := 7) (pc' := 10) (same := false) rfl (hb hby d42_7) rfl (decide_eq_false fun q => hyE (Value.ref.inj q)) (by decide) (by decide) ?_
    show own_St p e below T2 m 10 #[vR (a1)] [] _
    refine XS.iconst X2.here hx rfl (hb hby d42_10) ?_
    refine XS.goto X2.here hx rfl (pc0 := 11) (pc' := 15) rfl (hb hby d42_11) (by decide) (by decide) ?_
    show own_St p e below T2 m 15 #[vR (a1)] [(.int (2 : Int32))] _
    exact retI X2 hx Bd.returns (hb hby d42_15) hr
  · show own_Q (some (.int (2 : Int32))) h0 n0 _ T2.heap _
    rw [e2]
    exact ⟨rfl, N0, rfl⟩
theorem d50_0 : D50_ 0 = .ok (.aload_n 0, 1) := by decide +kernel
theorem d50_1 : D50_ 1 = .ok (.getfield 7, 3) := by decide +kernel
theorem d50_4 : D50_ 4 = .ok (.iload_n 1, 1) := by decide +kernel
theorem d50_5 : D50_ 5 = .ok (.aaload, 1) := by decide +kernel
theorem d50_6 : D50_ 6 = .ok (.areturn, 1) := by decide +kernel
theorem ef_50_29 (m : MethodId) (x0 : Addr) (x1 : Int32) : entryFrame m #[(.ref x0), (.int x1)] 2 = mkF m 0 #[vR (x0), vI (x1)] [] := by first | (simp [entryFrame, mkF, argsToLocals, Value.category]; done) | rfl
theorem r_getN (l Z a0) (hw : own_HW a0 Z) (ws s_D s_L s_LE s_E s_Z mr kd_ kl_ h0 n0) (O0 : Old Z n0 h0) (G : own_Ctx Z Z.heap s_D s_L s_LE s_E s_Z mr kd_ kl_) (a1 a2 : Addr) (k2 : ClassId) (xs : List Addr) (i : Nat) (E1_ : Exa Z h0 a1 "java/util/ImmutableCollections$ListN") (F1 : Fld Z h0 a1 "java/util/ImmutableCollections$ListN" "elements" "[Ljava/lang/Object;" (.ref a2)) (Va : Arv Z h0 a2 k2 (.object "java/lang/Object") xs.length.toInt32 (xs.map Value.ref) .null) (hn : xs.length ≤ 4) (hi : i < xs.length) :
    oM l Y31_ jdk_45_method_4_code 2 (some (.object "java/lang/Object")) ws (own_rm_ 0 0 0 0) #[(.ref a1), (.int i.toInt32)] Z h0 n0 (own_Q (some (.ref xs[i]))) := by
  have G0 := G
  refine MetFree.of_bodySF (plainFor_of_name pn_7) hisR ?_
  intro p e s m args below meth c s₁ Bd hml0 hP hK
  obtain ⟨rfl, hZ, hh⟩ := hP
  have hx := Bd.exec
  have hby := Bd.bytes
  have hml : c.maxLocals = 2 := hml0
  have hown := findClass_of_methodNamed Bd.named
  have X0 : Stand p l e (own_rm_ 0 0 0 0) s m #[(.ref a1), (.int i.toInt32)] below meth c s₁ [] 0 0 := Stand.of_body Bd
  have e0 : s₁.heap = h0 := by rw [← hh, Bd.state]; rfl
  have N0 := Fr.nil n0
  have pre0 := own_pre (tb := p.tables) (e := e) (below := below) (T := s₁) (ef_50_29 m a1 i.toInt32)
  obtain ⟨T1, X1, e1, st1⟩ := getF X0 hx hZ hown (host := "") (Or.inl (oW hw 111 rfl)) Via.refl e0 F1 (g := (mkF m 1 #[vR (a1), vI (i.toInt32)] [(.ref a1)])) rfl rfl (hb hby d50_1)
  have vc2 := Va
  obtain ⟨cl2, Ar2, qk2, S2, Nn2, Hs2, Gf2⟩ := vc2
  have hin2 : ¬ (i.toInt32 < 0 ∨ cl2.slots.size ≤ (i.toInt32).toNatClampNeg) := inb_of S2 (own_inx hi hn)
  have hat2 : cl2.slots[(i.toInt32).toNatClampNeg]? = some (.ref xs[i]) := Has.at Hs2 hin2 (by rw [(own_ti (own_k4 hi hn)).1]; exact own_atR hi)
  obtain ⟨fs, hr, hrun, hended, hW, hsame⟩ := X1.leave (v := some (.ref xs[i])) (oR Bd.returns)
  refine ⟨_, _, pre0 _ ?_, hrun, hended, _, _, rfl, ?_, ⟨_, rfl⟩, hW, hsame.mono (by decide) (by decide)⟩
  · show own_St p e below s₁ m 0 #[vR (a1), vI (i.toInt32)] [] _
    refine XS.aloadN X0.here hx rfl (hb hby d50_0) rfl rfl ?_
    refine st1 _ ?_
    show own_St p e below T1 m 4 #[vR (a1), vI (i.toInt32)] [(.ref a2)] _
    refine XS.iloadN X1.here hx rfl (hb hby d50_4) rfl ?_
    show own_St p e below T1 m 5 #[vR (a1), vI (i.toInt32)] [(.int i.toInt32), (.ref a2)] _
    refine X1.aaload hx (j := i.toInt32) (v := (.ref xs[i])) (by rw [e1]; exact Ar2.1) (State.isArrayOf_alike hZ.alike Ar2.2.1) rfl Ar2.2.2 hin2 hat2 (g := (mkF m 5 #[vR (a1), vI (i.toInt32)] [(.int i.toInt32), (.ref a2)])) rfl rfl (hb hby d50_5) _ ?_
    show own_St p e below T1 m 6 #[vR (a1), vI (i.toInt32)] [(.ref xs[i])] _
    exact retOut X1 hx Bd.returns rfl (Or.inr (Or.inr (Or.inr (Or.inr ⟨rfl, rfl, rfl⟩)))) (hb hby d50_6) hr
  · show own_Q (some (.ref xs[i])) h0 n0 _ T1.heap _
    rw [e1]
    exact ⟨rfl, N0, rfl⟩
theorem d44_0 : D44_ 0 = .ok (.iload_n 1, 1) := by decide +kernel
theorem d44_1 : D44_ 1 = .ok (.ifCond .ne 8, 3) := by decide +kernel
theorem d44_4 : D44_ 4 = .ok (.aload_n 0, 1) := by decide +kernel
theorem d44_5 : D44_ 5 = .ok (.getfield 13, 3) := by decide +kernel
theorem d44_8 : D44_ 8 = .ok (.areturn, 1) := by decide +kernel
theorem ef_44_30 (m : MethodId) (x0 : Addr) (x1 : Int32) : entryFrame m #[(.ref x0), (.int x1)] 2 = mkF m 0 #[vR (x0), vI (x1)] [] := by first | (simp [entryFrame, mkF, argsToLocals, Value.category]; done) | rfl
theorem r_getA (l Z a0) (hw : own_HW a0 Z) (ws s_D s_L s_LE s_E s_Z mr kd_ kl_ h0 n0) (O0 : Old Z n0 h0) (G : own_Ctx Z Z.heap s_D s_L s_LE s_E s_Z mr kd_ kl_) (a1 x_ : Addr) (E1_ : Exa Z h0 a1 "java/util/ImmutableCollections$List12") (F1 : Fld Z h0 a1 "java/util/ImmutableCollections$List12" "e0" "Ljava/lang/Object;" (.ref x_)) (F2 : Fld Z h0 a1 "java/util/ImmutableCollections$List12" "e1" "Ljava/lang/Object;" (.ref s_E)) :
    oM l Y32_ jdk_44_method_5_code 2 (some (.object "java/lang/Object")) ws (own_rm_ 0 0 0 0) #[(.ref a1), (.int (0 : Int32))] Z h0 n0 (own_Q (some (.ref x_))) := by
  have G0 := G
  refine MetFree.of_bodySF (plainFor_of_name pn_6) hisR ?_
  intro p e s m args below meth c s₁ Bd hml0 hP hK
  obtain ⟨rfl, hZ, hh⟩ := hP
  have hx := Bd.exec
  have hby := Bd.bytes
  have hml : c.maxLocals = 2 := hml0
  have hown := findClass_of_methodNamed Bd.named
  have X0 : Stand p l e (own_rm_ 0 0 0 0) s m #[(.ref a1), (.int (0 : Int32))] below meth c s₁ [] 0 0 := Stand.of_body Bd
  have e0 : s₁.heap = h0 := by rw [← hh, Bd.state]; rfl
  have N0 := Fr.nil n0
  have pre0 := own_pre (tb := p.tables) (e := e) (below := below) (T := s₁) (ef_44_30 m a1 (0 : Int32))
  obtain ⟨T1, X1, e1, st1⟩ := getF X0 hx hZ hown (host := "") (Or.inl (oW hw 318 rfl)) Via.refl e0 F1 (g := (mkF m 5 #[vR (a1), vI ((0 : Int32))] [(.ref a1)])) rfl rfl (hb hby d44_5)
  obtain ⟨fs, hr, hrun, hended, hW, hsame⟩ := X1.leave (v := some (.ref x_)) (oR Bd.returns)
  refine ⟨_, _, pre0 _ ?_, hrun, hended, _, _, rfl, ?_, ⟨_, rfl⟩, hW, hsame.mono (by decide) (by decide)⟩
  · show own_St p e below s₁ m 0 #[vR (a1), vI ((0 : Int32))] [] _
    refine XS.iloadN X0.here hx rfl (hb hby d44_0) rfl ?_
    refine XS.ifNo X0.here hx rfl (hb hby d44_1) rfl ((if0 _ _).trans (teq (by decide : (0 : Int32) = (0 : Int32))).2) ?_
    refine XS.aloadN X0.here hx rfl (hb hby d44_4) rfl rfl ?_
    refine st1 _ ?_
    show own_St p e below T1 m 8 #[vR (a1), vI ((0 : Int32))] [(.ref x_)] _
    exact retOut X1 hx Bd.returns rfl (Or.inr (Or.inr (Or.inr (Or.inr ⟨rfl, rfl, rfl⟩)))) (hb hby d44_8) hr
  · show own_Q (some (.ref x_)) h0 n0 _ T1.heap _
    rw [e1]
    exact ⟨rfl, N0, rfl⟩
theorem r_getB0 (l Z a0) (hw : own_HW a0 Z) (ws s_D s_L s_LE s_E s_Z mr kd_ kl_ h0 n0) (O0 : Old Z n0 h0) (G : own_Ctx Z Z.heap s_D s_L s_LE s_E s_Z mr kd_ kl_) (a1 x_ y_ : Addr) (E1_ : Exa Z h0 a1 "java/util/ImmutableCollections$List12") (F1 : Fld Z h0 a1 "java/util/ImmutableCollections$List12" "e0" "Ljava/lang/Object;" (.ref x_)) (F2 : Fld Z h0 a1 "java/util/ImmutableCollections$List12" "e1" "Ljava/lang/Object;" (.ref y_)) (hyE : y_ ≠ s_E) :
    oM l Y32_ jdk_44_method_5_code 2 (some (.object "java/lang/Object")) ws (own_rm_ 0 0 0 0) #[(.ref a1), (.int (0 : Int32))] Z h0 n0 (own_Q (some (.ref x_))) := by
  have G0 := G
  refine MetFree.of_bodySF (plainFor_of_name pn_6) hisR ?_
  intro p e s m args below meth c s₁ Bd hml0 hP hK
  obtain ⟨rfl, hZ, hh⟩ := hP
  have hx := Bd.exec
  have hby := Bd.bytes
  have hml : c.maxLocals = 2 := hml0
  have hown := findClass_of_methodNamed Bd.named
  have X0 : Stand p l e (own_rm_ 0 0 0 0) s m #[(.ref a1), (.int (0 : Int32))] below meth c s₁ [] 0 0 := Stand.of_body Bd
  have e0 : s₁.heap = h0 := by rw [← hh, Bd.state]; rfl
  have N0 := Fr.nil n0
  have pre0 := own_pre (tb := p.tables) (e := e) (below := below) (T := s₁) (ef_44_30 m a1 (0 : Int32))
  obtain ⟨T1, X1, e1, st1⟩ := getF X0 hx hZ hown (host := "") (Or.inl (oW hw 318 rfl)) Via.refl e0 F1 (g := (mkF m 5 #[vR (a1), vI ((0 : Int32))] [(.ref a1)])) rfl rfl (hb hby d44_5)
  obtain ⟨fs, hr, hrun, hended, hW, hsame⟩ := X1.leave (v := some (.ref x_)) (oR Bd.returns)
  refine ⟨_, _, pre0 _ ?_, hrun, hended, _, _, rfl, ?_, ⟨_, rfl⟩, hW, hsame.mono (by decide) (by decide)⟩
  · show own_St p e below s₁ m 0 #[vR (a1), vI ((0 : Int32))] [] _
    refine XS.iloadN X0.here hx rfl (hb hby d44_0) rfl ?_
    refine XS.ifNo X0.here hx rfl (hb hby d44_1) rfl ((if0 _ _).trans (teq (by decide : (0 : Int32) = (0 : Int32))).2) ?_
    refine XS.aloadN X0.here hx rfl (hb hby d44_4) rfl rfl ?_
    refine st1 _ ?_
    show own_St p e below T1 m 8 #[vR (a1), vI ((0 : Int32))] [(.ref x_)] _
    exact retOut X1 hx Bd.returns rfl (Or.inr (Or.inr (Or.inr (Or.inr ⟨rfl, rfl, rfl⟩)))) (hb hby d44_8) hr
  · show own_Q (some (.ref x_)) h0 n0 _ T1.heap _
    rw [e1]
    exact ⟨rfl, N0, rfl⟩
theorem d44_9 : D44_ 9 = .ok (.iload_n 1, 1) := by decide +kernel
theorem d44_10 : D44_ 10 = .ok (.iconst 1, 1) := by decide +kernel
theorem d44_11 : D44_ 11 = .ok (.if_icmp .ne 18, 3) := by decide +kernel
theorem d44_14 : D44_ 14 = .ok (.aload_n 0, 1) := by decide +kernel
theorem d44_15 : D44_ 15 = .ok (.getfield 24, 3) := by decide +kernel
theorem d44_18 : D44_ 18 = .ok (.getstatic 19, 3) := by decide +kernel
theorem d44_21 : D44_ 21 = .ok (.if_acmp .eq 8, 3) := by decide +kernel
theorem d44_24 : D44_ 24 = .ok (.aload_n 0, 1) := by decide +kernel
theorem d44_25 : D44_ 25 = .ok (.getfield 24, 3) := by decide +kernel
theorem d44_28 : D44_ 28 = .ok (.areturn, 1) := by decide +kernel
theorem r_getB1 (l Z a0) (hw : own_HW a0 Z) (ws s_D s_L s_LE s_E s_Z mr kd_ kl_ h0 n0) (O0 : Old Z n0 h0) (G : own_Ctx Z Z.heap s_D s_L s_LE s_E s_Z mr kd_ kl_) (a1 x_ y_ : Addr) (E1_ : Exa Z h0 a1 "java/util/ImmutableCollections$List12") (F1 : Fld Z h0 a1 "java/util/ImmutableCollections$List12" "e0" "Ljava/lang/Object;" (.ref x_)) (F2 : Fld Z h0 a1 "java/util/ImmutableCollections$List12" "e1" "Ljava/lang/Object;" (.ref y_)) (hyE : y_ ≠ s_E) :
    oM l Y32_ jdk_44_method_5_code 2 (some (.object "java/lang/Object")) ws (own_rm_ 0 0 0 0) #[(.ref a1), (.int (1 : Int32))] Z h0 n0 (own_Q (some (.ref y_))) := by
  have G0 := G
  obtain ⟨S_D, E_D, V_D, S_L, E_L, F_L, V_L, S_E, E_E, S_A, S_Z, E_Z, M_A⟩ := G
  refine MetFree.of_bodySF (plainFor_of_name pn_6) hisR ?_
  intro p e s m args below meth c s₁ Bd hml0 hP hK
  obtain ⟨rfl, hZ, hh⟩ := hP
  have hx := Bd.exec
  have hby := Bd.bytes
  have hml : c.maxLocals = 2 := hml0
  have hown := findClass_of_methodNamed Bd.named
  have X0 : Stand p l e (own_rm_ 0 0 0 0) s m #[(.ref a1), (.int (1 : Int32))] below meth c s₁ [] 0 0 := Stand.of_body Bd
  have e0 : s₁.heap = h0 := by rw [← hh, Bd.state]; rfl
  have N0 := Fr.nil n0
  have pre0 := own_pre (tb := p.tables) (e := e) (below := below) (T := s₁) (ef_44_30 m a1 (1 : Int32))
  obtain ⟨T1, X1, e1, st1⟩ := getF X0 hx hZ hown (host := "") (Or.inl (oW hw 321 rfl)) Via.refl e0 F2 (g := (mkF m 15 #[vR (a1), vI ((1 : Int32))] [(.ref a1)])) rfl rfl (hb hby d44_15)
  obtain ⟨T2, X2, e2, st2⟩ := getS2 X1 hx hZ hown (Or.inr (oW hw 320 rfl)) Via.refl e1 (S_E.ext O0.2) (g := (mkF m 18 #[vR (a1), vI ((1 : Int32))] [(.ref y_)])) rfl (hb hby d44_18)
  obtain ⟨T3, X3, e3, st3⟩ := getF X2 hx hZ hown (host := "") (Or.inl (oW hw 321 rfl)) Via.refl e2 F2 (g := (mkF m 25 #[vR (a1), vI ((1 : Int32))] [(.ref a1)])) rfl rfl (hb hby d44_25)
  obtain ⟨fs, hr, hrun, hended, hW, hsame⟩ := X3.leave (v := some (.ref y_)) (oR Bd.returns)
  refine ⟨_, _, pre0 _ ?_, hrun, hended, _, _, rfl, ?_, ⟨_, rfl⟩, hW, hsame.mono (by decide) (by decide)⟩
  · show own_St p e below s₁ m 0 #[vR (a1), vI ((1 : Int32))] [] _
    refine XS.iloadN X0.here hx rfl (hb hby d44_0) rfl ?_
    refine XS.ifYes X0.here hx rfl (pc0 := 1) (pc' := 9) rfl (hb hby d44_1) rfl ((if0 _ _).trans (feq (by decide : ¬ ((1 : Int32) = (0 : Int32)))).2) (by decide) (by decide) ?_
    refine XS.iloadN X0.here hx rfl (hb hby d44_9) rfl ?_
    refine XS.iconst X0.here hx rfl (hb hby d44_10) ?_
    refine XS.icmpNo X0.here hx rfl (hb hby d44_11) rfl (teq (by decide : (1 : Int32) = (1 : Int32))).2 ?_
    refine XS.aloadN X0.here hx rfl (hb hby d44_14) rfl rfl ?_
    refine st1 _ ?_
    refine st2 _ ?_
    show own_St p e below T2 m 21 #[vR (a1), vI ((1 : Int32))] [(.ref s_E), (.ref y_)] _
    refine Jvm.RoadKit.acmp (g := (mkF m 21 #[vR (a1), vI ((1 : Int32))] [(.ref s_E), (.ref y_)])) X2 hx rfl rfl rfl (pc0 := 21) (pc' := 24) (same := false) rfl (hb hby d44_21) rfl (decide_eq_false fun q => hyE (Value.ref.inj q)) (by decide) (by decide) ?_
    show own_St p e below T2 m 24 #[vR (a1), vI ((1 : Int32))] [] _
    refine XS.aloadN X2.here hx rfl (hb hby d44_24) rfl rfl ?_
    refine st3 _ ?_
    show own_St p e below T3 m 28 #[vR (a1), vI ((1 : Int32))] [(.ref y_)] _
    exact retOut X3 hx Bd.returns rfl (Or.inr (Or.inr (Or.inr (Or.inr ⟨rfl, rfl, rfl⟩)))) (hb hby d44_28) hr
  · show own_Q (some (.ref y_)) h0 n0 _ T3.heap _
    rw [e3]
    exact ⟨rfl, N0, rfl⟩
def own_Qli (Z : State) (t a : Addr) (z1 : Int32) (h0 : Heap) (n0 : Nat) (v : Option Value) (h : Heap) (L : List Loc) : Prop := v = none ∧ Fr n0 L ∧ Keep h0 h [t] ∧ Fld Z h t "java/util/ImmutableCollections$ListItr" "list" "Ljava/util/List;" (.ref a) ∧ Fld Z h t "java/util/ImmutableCollections$ListItr" "size" "I" (.int z1) ∧ Fld Z h t "java/util/ImmutableCollections$ListItr" "cursor" "I" (.int (0 : Int32))
theorem d14_0 : D14_ 0 = .ok (.aload_n 0, 1) := by decide +kernel
theorem d14_1 : D14_ 1 = .ok (.invokespecial 1, 3) := by decide +kernel
theorem d14_4 : D14_ 4 = .ok (.aload_n 0, 1) := by decide +kernel
theorem d14_5 : D14_ 5 = .ok (.aload_n 1, 1) := by decide +kernel
theorem d14_6 : D14_ 6 = .ok (.putfield 7, 3) := by decide +kernel
theorem d14_9 : D14_ 9 = .ok (.aload_n 0, 1) := by decide +kernel
theorem d14_10 : D14_ 10 = .ok (.iload_n 2, 1) := by decide +kernel
theorem d14_11 : D14_ 11 = .ok (.putfield 13, 3) := by decide +kernel
theorem d14_14 : D14_ 14 = .ok (.aload_n 0, 1) := by decide +kernel
theorem d14_15 : D14_ 15 = .ok (.iconst 0, 1) := by decide +kernel
theorem d14_16 : D14_ 16 = .ok (.putfield 17, 3) := by decide +kernel
theorem d14_19 : D14_ 19 = .ok (.aload_n 0, 1) := by decide +kernel
theorem d14_20 : D14_ 20 = .ok (.iconst 0, 1) := by decide +kernel
theorem d14_21 : D14_ 21 = .ok (.putfield 20, 3) := by decide +kernel
theorem d14_24 : D14_ 24 = .ok (.return_, 1) := by decide +kernel
theorem ef_14_31 (m : MethodId) (x0 : Addr) (x1 : Addr) (x2 : Int32) : entryFrame m #[(.ref x0), (.ref x1), (.int x2)] 3 = mkF m 0 #[vR (x0), vR (x1), vI (x2)] [] := by first | (simp [entryFrame, mkF, argsToLocals, Value.category]; done) | rfl
theorem pn_13 : plainName "java/util/ImmutableCollections$ListItr" = true := by first | (simp [plainName, overriddenIn]; done) | decide +kernel
theorem r_lit (l Z a0) (hw : own_HW a0 Z) (ws s_D s_L s_LE s_E s_Z mr kd_ kl_ h0 n0) (O0 : Old Z n0 h0) (G : own_Ctx Z Z.heap s_D s_L s_LE s_E s_Z mr kd_ kl_) (t1 a1 : Addr) (z1 : Int32) (Et : Exa Z h0 t1 "java/util/ImmutableCollections$ListItr") (ga : n0 ≤ t1) (F_list : Fld Z h0 t1 "java/util/ImmutableCollections$ListItr" "list" "Ljava/util/List;" .null) (F_size : Fld Z h0 t1 "java/util/ImmutableCollections$ListItr" "size" "I" (.int (0 : Int32))) (F_cursor : Fld Z h0 t1 "java/util/ImmutableCollections$ListItr" "cursor" "I" (.int (0 : Int32))) (F_isListIterator : Fld Z h0 t1 "java/util/ImmutableCollections$ListItr" "isListIterator" "Z" (.int (0 : Int32))) :
    oM l Y33_ jdk_53_method_1_code 3 none ws (own_rm_ 1 0 0 12) #[(.ref t1), (.ref a1), (.int z1)] Z h0 n0 (own_Qli Z t1 a1 z1) := by
  have G0 := G
  refine MetFree.of_bodySF (plainFor_of_name pn_13) hisR ?_
  intro p e s m args below meth c s₁ Bd hml0 hP hK
  obtain ⟨rfl, hZ, hh⟩ := hP
  have hx := Bd.exec
  have hby := Bd.bytes
  have hml : c.maxLocals = 3 := hml0
  have hown := findClass_of_methodNamed Bd.named
  have hnm := (name_of_methodNamed Bd.named Bd.method).1
  have X0 : Stand p l e (own_rm_ 1 0 0 12) s m #[(.ref t1), (.ref a1), (.int z1)] below meth c s₁ [] 0 0 := Stand.of_body Bd
  have e0 : s₁.heap = h0 := by rw [← hh, Bd.state]; rfl
  have N0 := Fr.nil n0
  have pre0 := own_pre (tb := p.tables) (e := e) (below := below) (T := s₁) (ef_14_31 m t1 a1 z1)
  obtain ⟨T1, X1, e1, st1⟩ := initO X0 hx hZ hown (oW hw 117 rfl) (oW hw 25 rfl) (oW hw 26 rfl) e0 (g := (mkF m 1 #[vR (t1), vR (a1), vI (z1)] [(.ref t1)])) rfl (by rw [hml]; rfl) rfl (hb hby d14_1) (by decide) (W := 0) (by exact Nat.le_of_eq rfl) (by decide)
  obtain ⟨T2, h2, X2, e2, W2, st2⟩ := putF X1 hx hZ hown (host := "") (Or.inl (oW hw 118 rfl)) Via.refl e1 F_list Et (Or.inr ⟨(oW hw 119 rfl), rfl, hnm⟩) (oW hw 102 rfl) (ty := (.object "java/util/List")) (by decide) rfl rfl (g := (mkF m 6 #[vR (t1), vR (a1), vI (z1)] [(.ref a1), (.ref t1)])) rfl rfl (hb hby d14_6)
  have f3 := Et.wr W2
  have f4 := F_size.other W2 (Or.inr (slot_ne (Or.inr (oW hw 121 rfl)) (Or.inr (oW hw 119 rfl)) (by decide) (t := .int) (t' := (.object "java/util/List")) (by decide) (by decide)))
  have f5 := F_cursor.other W2 (Or.inr (slot_ne (Or.inl (oW hw 123 rfl)) (Or.inr (oW hw 119 rfl)) (by decide) (t := .int) (t' := (.object "java/util/List")) (by decide) (by decide)))
  have f6 := F_isListIterator.other W2 (Or.inr (slot_ne (Or.inr (oW hw 125 rfl)) (Or.inr (oW hw 119 rfl)) (by decide) (t := .boolean) (t' := (.object "java/util/List")) (by decide) (by decide)))
  have K2 : Keep h0 h2 [t1] := (Keep.refl h0 [t1]).wr W2 (Or.inl (List.mem_of_getElem? (i := 0) rfl))
  have N2 := Fr.snoc X2 N0 ga
  have f7 := F_list.same W2
  obtain ⟨T8, h8, X8, e8, W8, st8⟩ := putF X2 hx hZ hown (host := "") (Or.inl (oW hw 120 rfl)) Via.refl e2 f4 f3 (Or.inr ⟨(oW hw 121 rfl), rfl, hnm⟩) (oW hw 102 rfl) (ty := .int) (by decide) rfl rfl (g := (mkF m 11 #[vR (t1), vR (a1), vI (z1)] [(.int z1), (.ref t1)])) rfl rfl (hb hby d14_11)
  have f9 := f3.wr W8
  have f10 := f7.other W8 (Or.inr (slot_ne (Or.inr (oW hw 119 rfl)) (Or.inr (oW hw 121 rfl)) (by decide) (t := (.object "java/util/List")) (t' := .int) (by decide) (by decide)))
  have f11 := f5.other W8 (Or.inr (slot_ne (Or.inl (oW hw 123 rfl)) (Or.inr (oW hw 121 rfl)) (by decide) (t := .int) (t' := .int) (by decide) (by decide)))
  have f12 := f6.other W8 (Or.inr (slot_ne (Or.inr (oW hw 125 rfl)) (Or.inr (oW hw 121 rfl)) (by decide) (t := .boolean) (t' := .int) (by decide) (by decide)))
  have K8 : Keep h0 h8 [t1] := K2.wr W8 (Or.inl (List.mem_of_getElem? (i := 0) rfl))
  have N8 := Fr.snoc X8 N2 ga
  have f13 := f4.same W8
  obtain ⟨T14, h14, X14, e14, W14, st14⟩ := putF X8 hx hZ hown (host := "") (Or.inl (oW hw 122 rfl)) Via.refl e8 f11 f9 (Or.inl (oW hw 123 rfl)) (oW hw 102 rfl) (ty := .int) (by decide) rfl rfl (g := (mkF m 16 #[vR (t1), vR (a1), vI (z1)] [(.int (0 : Int32)), (.ref t1)])) rfl rfl (hb hby d14_16)
  have f15 := f9.wr W14
  have f16 := f10.other W14 (Or.inr (slot_ne (Or.inr (oW hw 119 rfl)) (Or.inl (oW hw 123 rfl)) (by decide) (t := (.object "java/util/List")) (t' := .int) (by decide) (by decide)))
  have f17 := f13.other W14 (Or.inr (slot_ne (Or.inr (oW hw 121 rfl)) (Or.inl (oW hw 123 rfl)) (by decide) (t := .int) (t' := .int) (by decide) (by decide)))
  have f18 := f12.other W14 (Or.inr (slot_ne (Or.inr (oW hw 125 rfl)) (Or.inl (oW hw 123 rfl)) (by decide) (t := .boolean) (t' := .int) (by decide) (by decide)))
  have K14 : Keep h0 h14 [t1] := K8.wr W14 (Or.inl (List.mem_of_getElem? (i := 0) rfl))
  have N14 := Fr.snoc X14 N8 ga
  have f19 := f11.same W14
  obtain ⟨T20, h20, X20, e20, W20, st20⟩ := putFN X14 hx hZ hown (oW hw 124 rfl) Via.refl e14 f18 f15 (Or.inr ⟨(oW hw 125 rfl), rfl, hnm⟩) (oW hw 102 rfl) (ty := .boolean) (v' := (.int (0 : Int32))) (by decide) rfl rfl (g := (mkF m 21 #[vR (t1), vR (a1), vI (z1)] [(.int (0 : Int32)), (.ref t1)])) rfl rfl (hb hby d14_21)
  have f22 := f16.other W20 (Or.inr (slot_ne (Or.inr (oW hw 119 rfl)) (Or.inr (oW hw 125 rfl)) (by decide) (t := (.object "java/util/List")) (t' := .boolean) (by decide) (by decide)))
  have f23 := f17.other W20 (Or.inr (slot_ne (Or.inr (oW hw 121 rfl)) (Or.inr (oW hw 125 rfl)) (by decide) (t := .int) (t' := .boolean) (by decide) (by decide)))
  have f24 := f19.other W20 (Or.inr (slot_ne (Or.inl (oW hw 123 rfl)) (Or.inr (oW hw 125 rfl)) (by decide) (t := .int) (t' := .boolean) (by decide) (by decide)))
  have K20 : Keep h0 h20 [t1] := K14.wr W20 (Or.inl (List.mem_of_getElem? (i := 0) rfl))
  have N20 := Fr.snoc X20 N14 ga
  obtain ⟨fs, hr, hrun, hended, hW, hsame⟩ := X20.leave (v := none) (fun _ => rfl)
  refine ⟨_, _, pre0 _ ?_, hrun, hended, _, _, rfl, ?_, ⟨_, rfl⟩, hW, hsame.mono (by decide) (by decide)⟩
  · show own_St p e below s₁ m 0 #[vR (t1), vR (a1), vI (z1)] [] _
    refine XS.aloadN X0.here hx rfl (hb hby d14_0) rfl rfl ?_
    refine st1 _ ?_
    show own_St p e below T1 m 4 #[vR (t1), vR (a1), vI (z1)] [] _
    refine XS.aloadN X1.here hx rfl (hb hby d14_4) rfl rfl ?_
    refine XS.aloadN X1.here hx rfl (hb hby d14_5) rfl rfl ?_
    refine st2 _ ?_
    show own_St p e below T2 m 9 #[vR (t1), vR (a1), vI (z1)] [] _
    refine XS.aloadN X2.here hx rfl (hb hby d14_9) rfl rfl ?_
    refine XS.iloadN X2.here hx rfl (hb hby d14_10) rfl ?_
    refine st8 _ ?_
    show own_St p e below T8 m 14 #[vR (t1), vR (a1), vI (z1)] [] _
    refine XS.aloadN X8.here hx rfl (hb hby d14_14) rfl rfl ?_
    refine XS.iconst X8.here hx rfl (hb hby d14_15) ?_
    refine st14 _ ?_
    show own_St p e below T14 m 19 #[vR (t1), vR (a1), vI (z1)] [] _
    refine XS.aloadN X14.here hx rfl (hb hby d14_19) rfl rfl ?_
    refine XS.iconst X14.here hx rfl (hb hby d14_20) ?_
    refine st20 _ ?_
    show own_St p e below T20 m 24 #[vR (t1), vR (a1), vI (z1)] [] _
    exact X20.returnOut hx Bd.returns (hb hby d14_24) hr
  · show own_Qli Z t1 a1 z1 h0 n0 _ T20.heap _
    rw [e20]
    exact ⟨rfl, N20, K20, f22, f23, f24⟩
theorem d12_0 : D12_ 0 = .ok (.new 61, 3) := by decide +kernel
theorem d12_3 : D12_ 3 = .ok (.dup, 1) := by decide +kernel
theorem d12_4 : D12_ 4 = .ok (.aload_n 0, 1) := by decide +kernel
theorem d12_5 : D12_ 5 = .ok (.aload_n 0, 1) := by decide +kernel
theorem d12_6 : D12_ 6 = .ok (.invokevirtual 13, 3) := by decide +kernel
theorem pd_16 : parseMethodDescriptor "()I" = some ⟨[], some .int⟩ := by decide +kernel
theorem d12_9 : D12_ 9 = .ok (.invokespecial 63, 3) := by decide +kernel
theorem pd_17 : parseMethodDescriptor "(Ljava/util/List;I)V" = some ⟨[(.object "java/util/List"), .int], none⟩ := by decide +kernel
theorem d12_12 : D12_ 12 = .ok (.areturn, 1) := by decide +kernel
theorem ef_12_32 (m : MethodId) (x0 : Addr) : entryFrame m #[(.ref x0)] 1 = mkF m 0 #[vR (x0)] [] := by first | (simp [entryFrame, mkF, argsToLocals, Value.category]; done) | rfl
theorem r_itN (l Z a0) (hw : own_HW a0 Z) (ws s_D s_L s_LE s_E s_Z mr kd_ kl_ h0 n0) (O0 : Old Z n0 h0) (G : own_Ctx Z Z.heap s_D s_L s_LE s_E s_Z mr kd_ kl_) (a1 a2 : Addr) (k2 : ClassId) (xs : List Addr) (E1_ : Exa Z h0 a1 "java/util/ImmutableCollections$ListN") (F1 : Fld Z h0 a1 "java/util/ImmutableCollections$ListN" "elements" "[Ljava/lang/Object;" (.ref a2)) (Va : Arv Z h0 a2 k2 (.object "java/lang/Object") xs.length.toInt32 (xs.map Value.ref) .null) (hn : xs.length ≤ 4) :
    oM l Y34_ jdk_46_method_10_code 1 (some (.object "java/util/Iterator")) ws (own_rm_ 2 1 4 27) #[(.ref a1)] Z h0 n0 (own_Qit Z a1 xs.length) := by
  have G0 := G
  obtain ⟨S_D, E_D, V_D, S_L, E_L, F_L, V_L, S_E, E_E, S_A, S_Z, E_Z, M_A⟩ := G
  refine MetFree.of_bodySF (plainFor_of_name pn_4) hisR ?_
  intro p e s m args below meth c s₁ Bd hml0 hP hK
  obtain ⟨rfl, hZ, hh⟩ := hP
  have hx := Bd.exec
  have hby := Bd.bytes
  have hml : c.maxLocals = 1 := hml0
  have hown := findClass_of_methodNamed Bd.named
  have X0 : Stand p l e (own_rm_ 2 1 4 27) s m #[(.ref a1)] below meth c s₁ [] 0 0 := Stand.of_body Bd
  have e0 : s₁.heap = h0 := by rw [← hh, Bd.state]; rfl
  have N0 := Fr.nil n0
  have pre0 := own_pre (tb := p.tables) (e := e) (below := below) (T := s₁) (ef_12_32 m a1)
  obtain ⟨T1, h1, X1, e1, E1, A1, D1, -, st1⟩ := newO X0 hx hZ hown (oW hw 101 rfl) (oW hw 102 rfl) (oW hw 103 rfl) e0 (g := (mkF m 0 #[vR (a1)] [])) rfl (hb hby d12_0) (by decide) (by decide)
  obtain ⟨b1, g1⟩ := oZ h0.size
  have g_b1 : n0 ≤ b1 := Nat.le_trans (O0.1 ▸ O0.2.1) (Nat.le_of_eq g1.symm)
  have sz_b1 : h0.size ≤ b1 := Nat.le_trans (Keep.refl h0 []).1 (Nat.le_of_eq g1.symm)
  rw [← g1] at A1 D1 st1
  have f2 := E1_.ext E1
  have f3 := F1.ext E1
  have f4 := Va.ext E1
  have O1 := O0.ext E1
  have K1 : Keep h0 h1 [] := (Keep.refl h0 []).ext E1
  have F1_119 : Fld Z h1 b1 "java/util/ImmutableCollections$ListItr" "list" "Ljava/util/List;" .null := D1 (Or.inr (oW hw 119 rfl)) (ty := (.object "java/util/List")) (by decide)
  have F1_121 : Fld Z h1 b1 "java/util/ImmutableCollections$ListItr" "size" "I" (.int (0 : Int32)) := D1 (Or.inr (oW hw 121 rfl)) (ty := .int) (by decide)
  have F1_123 : Fld Z h1 b1 "java/util/ImmutableCollections$ListItr" "cursor" "I" (.int (0 : Int32)) := D1 (Or.inl (oW hw 123 rfl)) (ty := .int) (by decide)
  have F1_125 : Fld Z h1 b1 "java/util/ImmutableCollections$ListItr" "isListIterator" "Z" (.int (0 : Int32)) := D1 (Or.inr (oW hw 125 rfl)) (ty := .boolean) (by decide)
  obtain ⟨cq5, kq5, q5a, q5b, q5c⟩ := isOf hZ e1 f2
  obtain ⟨_, _, ⟨T5, L5, k5, n5⟩, -, X5, ⟨Lc5, hQ5, l5, y5, z5⟩, st5⟩ := X1.virtualBackUp hx (x := Y35_) (y := Y29_) (owner := "java/util/AbstractCollection") hown (mvT hZ (oW hw 104 rfl)) (mvT hZ (oW hw 105 rfl)) (mvT hZ (oW hw 106 rfl)) (by decide) (mvT hZ (oW hw 107 rfl)) (mvT hZ (oW hw 108 rfl)) (backOf (W := 3) (r_szN l Z a0 hw [] s_D s_L s_LE s_E s_Z mr kd_ kl_ h1 n0 O1 G0 a1 a2 k2 xs f2 f3 f4 hn) hZ (oW hw 110 rfl) (oW hw 109 rfl) (by decide) (by decide)) q5a q5c (g := (mkF m 6 #[vR (a1)] [(.ref a1), (.ref a1), (.ref b1), (.ref b1)])) rfl (by rw [hml]; rfl) (Steps.refl _) (argsL := []) (rest := [(.ref a1), (.ref b1), (.ref b1)]) (lenOf pd_16 rfl) rfl (by exact Nat.le_of_eq rfl) (hb hby d12_6) (fun _ _ => ⟨rfl, e1, (by decide : 1 + 0 ≤ _), (by decide : 4 + 0 ≤ _)⟩)
  dsimp only [Pt.U, Pt.locs, Pt.cells, Pt.slots] at X5 l5 y5 z5 st5 hQ5
  subst l5 y5 z5
  obtain ⟨rfl, N5q, e5⟩ := hQ5
  have N5 := Fr.app N0 N5q
  obtain ⟨_, _, ⟨T6, L6, k6, n6⟩, -, X6, ⟨Lc6, hQ6, l6, y6, z6⟩, st6⟩ := X5.specialBack hx (y := Y33_) rfl hown (mvT hZ (oW hw 113 rfl)) (mvT hZ (oW hw 114 rfl)) (mvT hZ (oW hw 116 rfl)) (by decide) (backOf (W := 1) (r_lit l Z a0 hw [] s_D s_L s_LE s_E s_Z mr kd_ kl_ h1 n0 O1 G0 b1 a1 xs.length.toInt32 A1 g_b1 F1_119 F1_121 F1_123 F1_125) hZ (oW hw 116 rfl) (oW hw 103 rfl) (by decide) (by decide)) (g := (mkF m 9 #[vR (a1)] [(.int xs.length.toInt32), (.ref a1), (.ref b1), (.ref b1)])) rfl (by rw [hml]; rfl) (Steps.refl _) (a := b1) (argsL := [(.ref a1), (.int xs.length.toInt32)]) (rest := [(.ref b1)]) (lenOf pd_17 rfl) rfl (by exact Nat.le_of_eq rfl) (hb hby d12_9) (fun _ _ => ⟨rfl, e5, (by decide : 1 + 0 ≤ _), (by decide : 4 + 0 ≤ _)⟩)
  dsimp only [Pt.U, Pt.locs, Pt.cells, Pt.slots] at X6 l6 y6 z6 st6 hQ6
  subst l6 y6 z6
  obtain ⟨rfl, N6q, Kq6, Fl6, Fz6, Fu6⟩ := hQ6
  have N6 := Fr.app N5 N6q
  have f10 := A1.keep Kq6
  have K6 : Keep h0 T6.heap [] := K1.trans Kq6 (allS (Or.inr sz_b1) all0)
  obtain ⟨fs, hr, hrun, hended, hW, hsame⟩ := X6.leave (v := some (.ref b1)) (oR Bd.returns)
  refine ⟨_, _, pre0 _ ?_, hrun, hended, _, _, rfl, ?_, ⟨_, rfl⟩, hW, hsame.mono (by decide) (by decide)⟩
  · show own_St p e below s₁ m 0 #[vR (a1)] [] _
    refine st1 _ ?_
    show own_St p e below T1 m 3 #[vR (a1)] [(.ref b1)] _
    refine XS.dup X1.here hx rfl (hb hby d12_3) rfl rfl ?_
    refine XS.aloadN X1.here hx rfl (hb hby d12_4) rfl rfl ?_
    refine XS.aloadN X1.here hx rfl (hb hby d12_5) rfl rfl ?_
    refine st5.trans ?_
    refine st6.trans ?_
    show own_St p e below T6 m 12 #[vR (a1)] [(.ref b1)] _
    exact retOut X6 hx Bd.returns rfl (Or.inr (Or.inr (Or.inr (Or.inr ⟨rfl, rfl, rfl⟩)))) (hb hby d12_12) hr
  · show own_Qit Z a1 xs.length h0 n0 _ T6.heap _
    exact ⟨b1, rfl, N6, K6, sz_b1, f10, Fl6, Fz6, Fu6⟩
theorem r_itA (l Z a0) (hw : own_HW a0 Z) (ws s_D s_L s_LE s_E s_Z mr kd_ kl_ h0 n0) (O0 : Old Z n0 h0) (G : own_Ctx Z Z.heap s_D s_L s_LE s_E s_Z mr kd_ kl_) (a1 x_ : Addr) (E1_ : Exa Z h0 a1 "java/util/ImmutableCollections$List12") (F1 : Fld Z h0 a1 "java/util/ImmutableCollections$List12" "e0" "Ljava/lang/Object;" (.ref x_)) (F2 : Fld Z h0 a1 "java/util/ImmutableCollections$List12" "e1" "Ljava/lang/Object;" (.ref s_E)) :
    oM l Y34_ jdk_46_method_10_code 1 (some (.object "java/util/Iterator")) ws (own_rm_ 2 1 4 27) #[(.ref a1)] Z h0 n0 (own_Qit Z a1 [x_].length) := by
  have G0 := G
  obtain ⟨S_D, E_D, V_D, S_L, E_L, F_L, V_L, S_E, E_E, S_A, S_Z, E_Z, M_A⟩ := G
  refine MetFree.of_bodySF (plainFor_of_name pn_4) hisR ?_
  intro p e s m args below meth c s₁ Bd hml0 hP hK
  obtain ⟨rfl, hZ, hh⟩ := hP
  have hx := Bd.exec
  have hby := Bd.bytes
  have hml : c.maxLocals = 1 := hml0
  have hown := findClass_of_methodNamed Bd.named
  have X0 : Stand p l e (own_rm_ 2 1 4 27) s m #[(.ref a1)] below meth c s₁ [] 0 0 := Stand.of_body Bd
  have e0 : s₁.heap = h0 := by rw [← hh, Bd.state]; rfl
  have N0 := Fr.nil n0
  have pre0 := own_pre (tb := p.tables) (e := e) (below := below) (T := s₁) (ef_12_32 m a1)
  obtain ⟨T1, h1, X1, e1, E1, A1, D1, -, st1⟩ := newO X0 hx hZ hown (oW hw 101 rfl) (oW hw 102 rfl) (oW hw 103 rfl) e0 (g := (mkF m 0 #[vR (a1)] [])) rfl (hb hby d12_0) (by decide) (by decide)
  obtain ⟨b1, g1⟩ := oZ h0.size
  have g_b1 : n0 ≤ b1 := Nat.le_trans (O0.1 ▸ O0.2.1) (Nat.le_of_eq g1.symm)
  have sz_b1 : h0.size ≤ b1 := Nat.le_trans (Keep.refl h0 []).1 (Nat.le_of_eq g1.symm)
  rw [← g1] at A1 D1 st1
  have f2 := E1_.ext E1
  have f3 := F1.ext E1
  have f4 := F2.ext E1
  have O1 := O0.ext E1
  have K1 : Keep h0 h1 [] := (Keep.refl h0 []).ext E1
  have F1_119 : Fld Z h1 b1 "java/util/ImmutableCollections$ListItr" "list" "Ljava/util/List;" .null := D1 (Or.inr (oW hw 119 rfl)) (ty := (.object "java/util/List")) (by decide)
  have F1_121 : Fld Z h1 b1 "java/util/ImmutableCollections$ListItr" "size" "I" (.int (0 : Int32)) := D1 (Or.inr (oW hw 121 rfl)) (ty := .int) (by decide)
  have F1_123 : Fld Z h1 b1 "java/util/ImmutableCollections$ListItr" "cursor" "I" (.int (0 : Int32)) := D1 (Or.inl (oW hw 123 rfl)) (ty := .int) (by decide)
  have F1_125 : Fld Z h1 b1 "java/util/ImmutableCollections$ListItr" "isListIterator" "Z" (.int (0 : Int32)) := D1 (Or.inr (oW hw 125 rfl)) (ty := .boolean) (by decide)
  obtain ⟨cq5, kq5, q5a, q5b, q5c⟩ := isOf hZ e1 f2
  obtain ⟨_, _, ⟨T5, L5, k5, n5⟩, -, X5, ⟨Lc5, hQ5, l5, y5, z5⟩, st5⟩ := X1.virtualBackUp hx (x := Y35_) (y := Y30_) (owner := "java/util/AbstractCollection") hown (mvT hZ (oW hw 104 rfl)) (mvT hZ (oW hw 105 rfl)) (mvT hZ (oW hw 106 rfl)) (by decide) (mvT hZ (oW hw 326 rfl)) (mvT hZ (oW hw 327 rfl)) (backOf (W := 3) (r_szA l Z a0 hw [] s_D s_L s_LE s_E s_Z mr kd_ kl_ h1 n0 O1 G0 a1 x_ f2 f3 f4) hZ (oW hw 328 rfl) (oW hw 306 rfl) (by decide) (by decide)) q5a q5c (g := (mkF m 6 #[vR (a1)] [(.ref a1), (.ref a1), (.ref b1), (.ref b1)])) rfl (by rw [hml]; rfl) (Steps.refl _) (argsL := []) (rest := [(.ref a1), (.ref b1), (.ref b1)]) (lenOf pd_16 rfl) rfl (by exact Nat.le_of_eq rfl) (hb hby d12_6) (fun _ _ => ⟨rfl, e1, (by decide : 1 + 0 ≤ _), (by decide : 4 + 0 ≤ _)⟩)
  dsimp only [Pt.U, Pt.locs, Pt.cells, Pt.slots] at X5 l5 y5 z5 st5 hQ5
  subst l5 y5 z5
  obtain ⟨rfl, N5q, e5⟩ := hQ5
  have N5 := Fr.app N0 N5q
  obtain ⟨_, _, ⟨T6, L6, k6, n6⟩, -, X6, ⟨Lc6, hQ6, l6, y6, z6⟩, st6⟩ := X5.specialBack hx (y := Y33_) rfl hown (mvT hZ (oW hw 113 rfl)) (mvT hZ (oW hw 114 rfl)) (mvT hZ (oW hw 116 rfl)) (by decide) (backOf (W := 1) (r_lit l Z a0 hw [] s_D s_L s_LE s_E s_Z mr kd_ kl_ h1 n0 O1 G0 b1 a1 (1 : Int32) A1 g_b1 F1_119 F1_121 F1_123 F1_125) hZ (oW hw 116 rfl) (oW hw 103 rfl) (by decide) (by decide)) (g := (mkF m 9 #[vR (a1)] [(.int (1 : Int32)), (.ref a1), (.ref b1), (.ref b1)])) rfl (by rw [hml]; rfl) (Steps.refl _) (a := b1) (argsL := [(.ref a1), (.int (1 : Int32))]) (rest := [(.ref b1)]) (lenOf pd_17 rfl) rfl (by exact Nat.le_of_eq rfl) (hb hby d12_9) (fun _ _ => ⟨rfl, e5, (by decide : 1 + 0 ≤ _), (by decide : 4 + 0 ≤ _)⟩)
  dsimp only [Pt.U, Pt.locs, Pt.cells, Pt.slots] at X6 l6 y6 z6 st6 hQ6
  subst l6 y6 z6
  obtain ⟨rfl, N6q, Kq6, Fl6, Fz6, Fu6⟩ := hQ6
  have N6 := Fr.app N5 N6q
  have f10 := A1.keep Kq6
  have K6 : Keep h0 T6.heap [] := K1.trans Kq6 (allS (Or.inr sz_b1) all0)
  obtain ⟨fs, hr, hrun, hended, hW, hsame⟩ := X6.leave (v := some (.ref b1)) (oR Bd.returns)
  refine ⟨_, _, pre0 _ ?_, hrun, hended, _, _, rfl, ?_, ⟨_, rfl⟩, hW, hsame.mono (by decide) (by decide)⟩
  · show own_St p e below s₁ m 0 #[vR (a1)] [] _
    refine st1 _ ?_
    show own_St p e below T1 m 3 #[vR (a1)] [(.ref b1)] _
    refine XS.dup X1.here hx rfl (hb hby d12_3) rfl rfl ?_
    refine XS.aloadN X1.here hx rfl (hb hby d12_4) rfl rfl ?_
    refine XS.aloadN X1.here hx rfl (hb hby d12_5) rfl rfl ?_
    refine st5.trans ?_
    refine st6.trans ?_
    show own_St p e below T6 m 12 #[vR (a1)] [(.ref b1)] _
    exact retOut X6 hx Bd.returns rfl (Or.inr (Or.inr (Or.inr (Or.inr ⟨rfl, rfl, rfl⟩)))) (hb hby d12_12) hr
  · show own_Qit Z a1 [x_].length h0 n0 _ T6.heap _
    exact ⟨b1, rfl, N6, K6, sz_b1, f10, Fl6, Fz6, Fu6⟩
theorem r_itB (l Z a0) (hw : own_HW a0 Z) (ws s_D s_L s_LE s_E s_Z mr kd_ kl_ h0 n0) (O0 : Old Z n0 h0) (G : own_Ctx Z Z.heap s_D s_L s_LE s_E s_Z mr kd_ kl_) (a1 x_ y_ : Addr) (E1_ : Exa Z h0 a1 "java/util/ImmutableCollections$List12") (F1 : Fld Z h0 a1 "java/util/ImmutableCollections$List12" "e0" "Ljava/lang/Object;" (.ref x_)) (F2 : Fld Z h0 a1 "java/util/ImmutableCollections$List12" "e1" "Ljava/lang/Object;" (.ref y_)) (hyE : y_ ≠ s_E) :
    oM l Y34_ jdk_46_method_10_code 1 (some (.object "java/util/Iterator")) ws (own_rm_ 2 1 4 27) #[(.ref a1)] Z h0 n0 (own_Qit Z a1 [x_, y_].length) := by
  have G0 := G
  obtain ⟨S_D, E_D, V_D, S_L, E_L, F_L, V_L, S_E, E_E, S_A, S_Z, E_Z, M_A⟩ := G
  refine MetFree.of_bodySF (plainFor_of_name pn_4) hisR ?_
  intro p e s m args below meth c s₁ Bd hml0 hP hK
  obtain ⟨rfl, hZ, hh⟩ := hP
  have hx := Bd.exec
  have hby := Bd.bytes
  have hml : c.maxLocals = 1 := hml0
  have hown := findClass_of_methodNamed Bd.named
  have X0 : Stand p l e (own_rm_ 2 1 4 27) s m #[(.ref a1)] below meth c s₁ [] 0 0 := Stand.of_body Bd
  have e0 : s₁.heap = h0 := by rw [← hh, Bd.state]; rfl
  have N0 := Fr.nil n0
  have pre0 := own_pre (tb := p.tables) (e := e) (below := below) (T := s₁) (ef_12_32 m a1)
  obtain ⟨T1, h1, X1, e1, E1, A1, D1, -, st1⟩ := newO X0 hx hZ hown (oW hw 101 rfl) (oW hw 102 rfl) (oW hw 103 rfl) e0 (g := (mkF m 0 #[vR (a1)] [])) rfl (hb hby d12_0) (by decide) (by decide)
  obtain ⟨b1, g1⟩ := oZ h0.size
  have g_b1 : n0 ≤ b1 := Nat.le_trans (O0.1 ▸ O0.2.1) (Nat.le_of_eq g1.symm)
  have sz_b1 : h0.size ≤ b1 := Nat.le_trans (Keep.refl h0 []).1 (Nat.le_of_eq g1.symm)
  rw [← g1] at A1 D1 st1
  have f2 := E1_.ext E1
  have f3 := F1.ext E1
  have f4 := F2.ext E1
  have O1 := O0.ext E1
  have K1 : Keep h0 h1 [] := (Keep.refl h0 []).ext E1
  have F1_119 : Fld Z h1 b1 "java/util/ImmutableCollections$ListItr" "list" "Ljava/util/List;" .null := D1 (Or.inr (oW hw 119 rfl)) (ty := (.object "java/util/List")) (by decide)
  have F1_121 : Fld Z h1 b1 "java/util/ImmutableCollections$ListItr" "size" "I" (.int (0 : Int32)) := D1 (Or.inr (oW hw 121 rfl)) (ty := .int) (by decide)
  have F1_123 : Fld Z h1 b1 "java/util/ImmutableCollections$ListItr" "cursor" "I" (.int (0 : Int32)) := D1 (Or.inl (oW hw 123 rfl)) (ty := .int) (by decide)
  have F1_125 : Fld Z h1 b1 "java/util/ImmutableCollections$ListItr" "isListIterator" "Z" (.int (0 : Int32)) := D1 (Or.inr (oW hw 125 rfl)) (ty := .boolean) (by decide)
  obtain ⟨cq5, kq5, q5a, q5b, q5c⟩ := isOf hZ e1 f2
  obtain ⟨_, _, ⟨T5, L5, k5, n5⟩, -, X5, ⟨Lc5, hQ5, l5, y5, z5⟩, st5⟩ := X1.virtualBackUp hx (x := Y35_) (y := Y30_) (owner := "java/util/AbstractCollection") hown (mvT hZ (oW hw 104 rfl)) (mvT hZ (oW hw 105 rfl)) (mvT hZ (oW hw 106 rfl)) (by decide) (mvT hZ (oW hw 326 rfl)) (mvT hZ (oW hw 327 rfl)) (backOf (W := 3) (r_szB l Z a0 hw [] s_D s_L s_LE s_E s_Z mr kd_ kl_ h1 n0 O1 G0 a1 x_ y_ f2 f3 f4 hyE) hZ (oW hw 328 rfl) (oW hw 306 rfl) (by decide) (by decide)) q5a q5c (g := (mkF m 6 #[vR (a1)] [(.ref a1), (.ref a1), (.ref b1), (.ref b1)])) rfl (by rw [hml]; rfl) (Steps.refl _) (argsL := []) (rest := [(.ref a1), (.ref b1), (.ref b1)]) (lenOf pd_16 rfl) rfl (by exact Nat.le_of_eq rfl) (hb hby d12_6) (fun _ _ => ⟨rfl, e1, (by decide : 1 + 0 ≤ _), (by decide : 4 + 0 ≤ _)⟩)
  dsimp only [Pt.U, Pt.locs, Pt.cells, Pt.slots] at X5 l5 y5 z5 st5 hQ5
  subst l5 y5 z5
  obtain ⟨rfl, N5q, e5⟩ := hQ5
  have N5 := Fr.app N0 N5q
  obtain ⟨_, _, ⟨T6, L6, k6, n6⟩, -, X6, ⟨Lc6, hQ6, l6, y6, z6⟩, st6⟩ := X5.specialBack hx (y := Y33_) rfl hown (mvT hZ (oW hw 113 rfl)) (mvT hZ (oW hw 114 rfl)) (mvT hZ (oW hw 116 rfl)) (by decide) (backOf (W := 1) (r_lit l Z a0 hw [] s_D s_L s_LE s_E s_Z mr kd_ kl_ h1 n0 O1 G0 b1 a1 (2 : Int32) A1 g_b1 F1_119 F1_121 F1_123 F1_125) hZ (oW hw 116 rfl) (oW hw 103 rfl) (by decide) (by decide)) (g := (mkF m 9 #[vR (a1)] [(.int (2 : Int32)), (.ref a1), (.ref b1), (.ref b1)])) rfl (by rw [hml]; rfl) (Steps.refl _) (a := b1) (argsL := [(.ref a1), (.int (2 : Int32))]) (rest := [(.ref b1)]) (lenOf pd_17 rfl) rfl (by exact Nat.le_of_eq rfl) (hb hby d12_9) (fun _ _ => ⟨rfl, e5, (by decide : 1 + 0 ≤ _), (by decide : 4 + 0 ≤ _)⟩)
  dsimp only [Pt.U, Pt.locs, Pt.cells, Pt.slots] at X6 l6 y6 z6 st6 hQ6
  subst l6 y6 z6
  obtain ⟨rfl, N6q, Kq6, Fl6, Fz6, Fu6⟩ := hQ6
  have N6 := Fr.app N5 N6q
  have f10 := A1.keep Kq6
  have K6 : Keep h0 T6.heap [] := K1.trans Kq6 (allS (Or.inr sz_b1) all0)
  obtain ⟨fs, hr, hrun, hended, hW, hsame⟩ := X6.leave (v := some (.ref b1)) (oR Bd.returns)
  refine ⟨_, _, pre0 _ ?_, hrun, hended, _, _, rfl, ?_, ⟨_, rfl⟩, hW, hsame.mono (by decide) (by decide)⟩
  · show own_St p e below s₁ m 0 #[vR (a1)] [] _
    refine st1 _ ?_
    show own_St p e below T1 m 3 #[vR (a1)] [(.ref b1)] _
    refine XS.dup X1.here hx rfl (hb hby d12_3) rfl rfl ?_
    refine XS.aloadN X1.here hx rfl (hb hby d12_4) rfl rfl ?_
    refine XS.aloadN X1.here hx rfl (hb hby d12_5) rfl rfl ?_
    refine st5.trans ?_
    refine st6.trans ?_
    show own_St p e below T6 m 12 #[vR (a1)] [(.ref b1)] _
    exact retOut X6 hx Bd.returns rfl (Or.inr (Or.inr (Or.inr (Or.inr ⟨rfl, rfl, rfl⟩)))) (hb hby d12_12) hr
  · show own_Qit Z a1 [x_, y_].length h0 n0 _ T6.heap _
    exact ⟨b1, rfl, N6, K6, sz_b1, f10, Fl6, Fz6, Fu6⟩
theorem d15_0 : D15_ 0 = .ok (.aload_n 0, 1) := by decide +kernel
theorem d15_1 : D15_ 1 = .ok (.getfield 17, 3) := by decide +kernel
theorem d15_4 : D15_ 4 = .ok (.aload_n 0, 1) := by decide +kernel
theorem d15_5 : D15_ 5 = .ok (.getfield 13, 3) := by decide +kernel
theorem d15_8 : D15_ 8 = .ok (.if_icmp .eq 7, 3) := by decide +kernel
theorem d15_15 : D15_ 15 = .ok (.iconst 0, 1) := by decide +kernel
theorem d15_16 : D15_ 16 = .ok (.ireturn, 1) := by decide +kernel
theorem ef_15_33 (m : MethodId) (x0 : Addr) : entryFrame m #[(.ref x0)] 1 = mkF m 0 #[vR (x0)] [] := by first | (simp [entryFrame, mkF, argsToLocals, Value.category]; done) | rfl
theorem r_hn0 (l Z a0) (hw : own_HW a0 Z) (ws s_D s_L s_LE s_E s_Z mr kd_ kl_ h0 n0) (O0 : Old Z n0 h0) (G : own_Ctx Z Z.heap s_D s_L s_LE s_E s_Z mr kd_ kl_) (t1 a1 : Addr) (n i : Nat) (It : own_It Z h0 t1 a1 n i) (hi : i = n) (hn : n ≤ 4) :
    oM l Y36_ jdk_53_method_3_code 1 (some .boolean) ws (own_rm_ 0 0 0 0) #[(.ref t1)] Z h0 n0 (own_Q (some (.int (0 : Int32)))) := by
  have G0 := G
  refine MetFree.of_bodySF (plainFor_of_name pn_13) hisR ?_
  intro p e s m args below meth c s₁ Bd hml0 hP hK
  obtain ⟨rfl, hZ, hh⟩ := hP
  have hx := Bd.exec
  have hby := Bd.bytes
  have hml : c.maxLocals = 1 := hml0
  have hown := findClass_of_methodNamed Bd.named
  have X0 : Stand p l e (own_rm_ 0 0 0 0) s m #[(.ref t1)] below meth c s₁ [] 0 0 := Stand.of_body Bd
  have e0 : s₁.heap = h0 := by rw [← hh, Bd.state]; rfl
  have N0 := Fr.nil n0
  have pre0 := own_pre (tb := p.tables) (e := e) (below := below) (T := s₁) (ef_15_33 m t1)
  obtain ⟨T1, X1, e1, st1⟩ := getF X0 hx hZ hown (host := "") (Or.inl (oW hw 122 rfl)) Via.refl e0 It.2.2.2 (g := (mkF m 1 #[vR (t1)] [(.ref t1)])) rfl rfl (hb hby d15_1)
  obtain ⟨T2, X2, e2, st2⟩ := getF X1 hx hZ hown (host := "") (Or.inl (oW hw 120 rfl)) Via.refl e1 It.2.2.1 (g := (mkF m 5 #[vR (t1)] [(.ref t1), (.int i.toInt32)])) rfl rfl (hb hby d15_5)
  obtain ⟨fs, hr, hrun, hended, hW, hsame⟩ := X2.leave (v := some (.int (0 : Int32))) (oR Bd.returns)
  refine ⟨_, _, pre0 _ ?_, hrun, hended, _, _, rfl, ?_, ⟨_, rfl⟩, hW, hsame.mono (by decide) (by decide)⟩
  · show own_St p e below s₁ m 0 #[vR (t1)] [] _
    refine XS.aloadN X0.here hx rfl (hb hby d15_0) rfl rfl ?_
    refine st1 _ ?_
    show own_St p e below T1 m 4 #[vR (t1)] [(.int i.toInt32)] _
    refine XS.aloadN X1.here hx rfl (hb hby d15_4) rfl rfl ?_
    refine st2 _ ?_
    show own_St p e below T2 m 8 #[vR (t1)] [(.int n.toInt32), (.int i.toInt32)] _
    refine XS.icmpYes X2.here hx rfl (pc0 := 8) (pc' := 15) rfl (hb hby d15_8) rfl (teq ((congrArg Nat.toInt32 hi) : i.toInt32 = n.toInt32)).1 (by decide) (by decide) ?_
    refine XS.iconst X2.here hx rfl (hb hby d15_15) ?_
    show own_St p e below T2 m 16 #[vR (t1)] [(.int (0 : Int32))] _
    exact retN X2 hx (t := .boolean) Bd.returns (by simp) (hb hby d15_16) hr
  · show own_Q (some (.int (0 : Int32))) h0 n0 _ T2.heap _
    rw [e2]
    exact ⟨rfl, N0, rfl⟩
theorem d15_11 : D15_ 11 = .ok (.iconst 1, 1) := by decide +kernel
theorem d15_12 : D15_ 12 = .ok (.goto 4, 3) := by decide +kernel
theorem r_hn1 (l Z a0) (hw : own_HW a0 Z) (ws s_D s_L s_LE s_E s_Z mr kd_ kl_ h0 n0) (O0 : Old Z n0 h0) (G : own_Ctx Z Z.heap s_D s_L s_LE s_E s_Z mr kd_ kl_) (t1 a1 : Addr) (n i : Nat) (It : own_It Z h0 t1 a1 n i) (hi : i < n) (hn : n ≤ 4) :
    oM l Y36_ jdk_53_method_3_code 1 (some .boolean) ws (own_rm_ 0 0 0 0) #[(.ref t1)] Z h0 n0 (own_Q (some (.int (1 : Int32)))) := by
  have G0 := G
  refine MetFree.of_bodySF (plainFor_of_name pn_13) hisR ?_
  intro p e s m args below meth c s₁ Bd hml0 hP hK
  obtain ⟨rfl, hZ, hh⟩ := hP
  have hx := Bd.exec
  have hby := Bd.bytes
  have hml : c.maxLocals = 1 := hml0
  have hown := findClass_of_methodNamed Bd.named
  have X0 : Stand p l e (own_rm_ 0 0 0 0) s m #[(.ref t1)] below meth c s₁ [] 0 0 := Stand.of_body Bd
  have e0 : s₁.heap = h0 := by rw [← hh, Bd.state]; rfl
  have N0 := Fr.nil n0
  have pre0 := own_pre (tb := p.tables) (e := e) (below := below) (T := s₁) (ef_15_33 m t1)
  obtain ⟨T1, X1, e1, st1⟩ := getF X0 hx hZ hown (host := "") (Or.inl (oW hw 122 rfl)) Via.refl e0 It.2.2.2 (g := (mkF m 1 #[vR (t1)] [(.ref t1)])) rfl rfl (hb hby d15_1)
  obtain ⟨T2, X2, e2, st2⟩ := getF X1 hx hZ hown (host := "") (Or.inl (oW hw 120 rfl)) Via.refl e1 It.2.2.1 (g := (mkF m 5 #[vR (t1)] [(.ref t1), (.int i.toInt32)])) rfl rfl (hb hby d15_5)
  obtain ⟨fs, hr, hrun, hended, hW, hsame⟩ := X2.leave (v := some (.int (1 : Int32))) (oR Bd.returns)
  refine ⟨_, _, pre0 _ ?_, hrun, hended, _, _, rfl, ?_, ⟨_, rfl⟩, hW, hsame.mono (by decide) (by decide)⟩
  · show own_St p e below s₁ m 0 #[vR (t1)] [] _
    refine XS.aloadN X0.here hx rfl (hb hby d15_0) rfl rfl ?_
    refine st1 _ ?_
    show own_St p e below T1 m 4 #[vR (t1)] [(.int i.toInt32)] _
    refine XS.aloadN X1.here hx rfl (hb hby d15_4) rfl rfl ?_
    refine st2 _ ?_
    show own_St p e below T2 m 8 #[vR (t1)] [(.int n.toInt32), (.int i.toInt32)] _
    refine XS.icmpNo X2.here hx rfl (hb hby d15_8) rfl (feq (own_it1 hi hn : ¬ (i.toInt32 = n.toInt32))).1 ?_
    refine XS.iconst X2.here hx rfl (hb hby d15_11) ?_
    refine XS.goto X2.here hx rfl (pc0 := 12) (pc' := 16) rfl (hb hby d15_12) (by decide) (by decide) ?_
    show own_St p e below T2 m 16 #[vR (t1)] [(.int (1 : Int32))] _
    exact retN X2 hx (t := .boolean) Bd.returns (by simp) (hb hby d15_16) hr
  · show own_Q (some (.int (1 : Int32))) h0 n0 _ T2.heap _
    rw [e2]
    exact ⟨rfl, N0, rfl⟩
theorem d43_0 : D43_ 0 = .ok (.aload_n 0, 1) := by decide +kernel
theorem d43_1 : D43_ 1 = .ok (.getfield 17, 3) := by decide +kernel
theorem d43_4 : D43_ 4 = .ok (.istore_n 1, 1) := by decide +kernel
theorem d43_5 : D43_ 5 = .ok (.aload_n 0, 1) := by decide +kernel
theorem d43_6 : D43_ 6 = .ok (.getfield 7, 3) := by decide +kernel
theorem d43_9 : D43_ 9 = .ok (.iload_n 1, 1) := by decide +kernel
theorem d43_10 : D43_ 10 = .ok (.invokeinterface 24 2, 5) := by decide +kernel
theorem pd_18 : parseMethodDescriptor "(I)Ljava/lang/Object;" = some ⟨[.int], some (.object "java/lang/Object")⟩ := by decide +kernel
theorem d43_15 : D43_ 15 = .ok (.astore_n 2, 1) := by decide +kernel
theorem d43_16 : D43_ 16 = .ok (.aload_n 0, 1) := by decide +kernel
theorem d43_17 : D43_ 17 = .ok (.iload_n 1, 1) := by decide +kernel
theorem d43_18 : D43_ 18 = .ok (.iconst 1, 1) := by decide +kernel
theorem d43_19 : D43_ 19 = .ok (.iadd, 1) := by decide +kernel
theorem d43_20 : D43_ 20 = .ok (.putfield 17, 3) := by decide +kernel
theorem d43_23 : D43_ 23 = .ok (.aload_n 2, 1) := by decide +kernel
theorem d43_24 : D43_ 24 = .ok (.areturn, 1) := by decide +kernel
theorem ef_43_34 (m : MethodId) (x0 : Addr) : entryFrame m #[(.ref x0)] 3 = mkF m 0 #[vR (x0), .unset, .unset] [] := by first | (simp [entryFrame, mkF, argsToLocals, Value.category]; done) | rfl
theorem r_nxN (l Z a0) (hw : own_HW a0 Z) (ws s_D s_L s_LE s_E s_Z mr kd_ kl_ h0 n0) (O0 : Old Z n0 h0) (G : own_Ctx Z Z.heap s_D s_L s_LE s_E s_Z mr kd_ kl_) (t1 : Addr) (n : Nat) (a1 a2 : Addr) (k2 : ClassId) (xs : List Addr) (i : Nat) (Et : Exa Z h0 t1 "java/util/ImmutableCollections$ListItr") (ga : n0 ≤ t1) (Fl : Fld Z h0 t1 "java/util/ImmutableCollections$ListItr" "list" "Ljava/util/List;" (.ref a1)) (Fz : Fld Z h0 t1 "java/util/ImmutableCollections$ListItr" "size" "I" (.int n.toInt32)) (Fu : Fld Z h0 t1 "java/util/ImmutableCollections$ListItr" "cursor" "I" (.int i.toInt32)) (E1_ : Exa Z h0 a1 "java/util/ImmutableCollections$ListN") (F1 : Fld Z h0 a1 "java/util/ImmutableCollections$ListN" "elements" "[Ljava/lang/Object;" (.ref a2)) (Va : Arv Z h0 a2 k2 (.object "java/lang/Object") xs.length.toInt32 (xs.map Value.ref) .null) (hn : xs.length ≤ 4) (hi : i < xs.length) :
    own_M l Y37_ (head1 (Jvm.Cond.codeWith Y37_ jdk_53_method_4_code 3 (some (.object "java/lang/Object")) [((0 : Nat), (24 : Nat), (25 : Nat), (30 : Nat))] :: ws) (own_rm_ 1 0 0 13)) #[(.ref t1)] Z h0 n0 (own_Qnx Z t1 a1 n i xs[i]) (own_rm_ 1 0 0 13).cells (own_rm_ 1 0 0 13).slots := by
  have G0 := G
  refine MetFree.of_bodySF (plainFor_of_name pn_13) hisWith ?_
  intro p e s m args below meth c s₁ Bd hml0 hP hK
  obtain ⟨rfl, hZ, hh⟩ := hP
  have hx := Bd.exec
  have hby := Bd.bytes
  have hml : c.maxLocals = 3 := hml0
  have hown := findClass_of_methodNamed Bd.named
  have X0 : Stand p l e (own_rm_ 1 0 0 13) s m #[(.ref t1)] below meth c s₁ [] 0 0 := Stand.of_body Bd
  have e0 : s₁.heap = h0 := by rw [← hh, Bd.state]; rfl
  have N0 := Fr.nil n0
  have pre0 := own_pre (tb := p.tables) (e := e) (below := below) (T := s₁) (ef_43_34 m t1)
  obtain ⟨T1, X1, e1, st1⟩ := getF X0 hx hZ hown (host := "") (Or.inl (oW hw 122 rfl)) Via.refl e0 Fu (g := (mkF m 1 #[vR (t1), .unset, .unset] [(.ref t1)])) rfl rfl (hb hby d43_1)
  obtain ⟨T2, X2, e2, st2⟩ := getF X1 hx hZ hown (host := "") (Or.inl (oW hw 118 rfl)) Via.refl e1 Fl (g := (mkF m 6 #[vR (t1), vI (i.toInt32), .unset] [(.ref t1)])) rfl rfl (hb hby d43_6)
  obtain ⟨cq3, kq3, q3a, q3b, q3c⟩ := isOf hZ e2 E1_
  obtain ⟨_, _, ⟨T3, L3, k3, n3⟩, -, X3, ⟨Lc3, hQ3, l3, y3, z3⟩, st3⟩ := X2.interfaceBack hx (xi := Y38_) (y := Y31_) hown (mvT hZ (oW hw 337 rfl)) (mvT hZ (oW hw 338 rfl)) (mvT hZ (oW hw 339 rfl)) (mvT hZ (oW hw 385 rfl)) (mvT hZ (oW hw 386 rfl)) (mvT hZ (oW hw 387 rfl)) (mvT hZ (oW hw 388 rfl)) (mvT hZ (oW hw 98 rfl)) (by decide) (backOf (W := 0) (r_getN l Z a0 hw [] s_D s_L s_LE s_E s_Z mr kd_ kl_ h0 n0 O0 G0 a1 a2 k2 xs i E1_ F1 Va hn hi) hZ (oW hw 389 rfl) (oW hw 109 rfl) (by decide) (by decide)) q3a q3b q3c (g := (mkF m 10 #[vR (t1), vI (i.toInt32), .unset] [(.int i.toInt32), (.ref a1)])) rfl (by rw [hml]; rfl) (Steps.refl _) (argsL := [(.int i.toInt32)]) (rest := []) (lenOf pd_18 rfl) rfl (by exact Nat.le_of_eq rfl) (hb hby d43_10) (fun _ _ => ⟨rfl, e2, (by decide : 0 + 0 ≤ _), (by decide : 0 + 0 ≤ _)⟩)
  dsimp only [Pt.U, Pt.locs, Pt.cells, Pt.slots] at X3 l3 y3 z3 st3 hQ3
  subst l3 y3 z3
  obtain ⟨rfl, N3q, e3⟩ := hQ3
  have N3 := Fr.app N0 N3q
  obtain ⟨T4, h4, X4, e4, W4, st4⟩ := putF X3 hx hZ hown (host := "") (Or.inl (oW hw 122 rfl)) Via.refl e3 Fu Et (Or.inl (oW hw 123 rfl)) (oW hw 102 rfl) (ty := .int) (by decide) rfl rfl (g := (mkF m 20 #[vR (t1), vI (i.toInt32), vR (xs[i])] [(.int (i.toInt32 + (1 : Int32))), (.ref t1)])) rfl rfl (hb hby d43_20)
  have f5 := Et.wr W4
  have f6 := Fl.other W4 (Or.inr (slot_ne (Or.inr (oW hw 119 rfl)) (Or.inl (oW hw 123 rfl)) (by decide) (t := (.object "java/util/List")) (t' := .int) (by decide) (by decide)))
  have f7 := Fz.other W4 (Or.inr (slot_ne (Or.inr (oW hw 121 rfl)) (Or.inl (oW hw 123 rfl)) (by decide) (t := .int) (t' := .int) (by decide) (by decide)))
  have K4 : Keep h0 h4 [t1] := (Keep.refl h0 [t1]).wr W4 (Or.inl (List.mem_of_getElem? (i := 0) rfl))
  have N4 := Fr.snoc X4 N3 ga
  have f8 := Fu.same W4
  obtain ⟨fs, hr, hrun, hended, hW, hsame⟩ := X4.leave (v := some (.ref xs[i])) (oR Bd.returns)
  refine ⟨_, _, pre0 _ ?_, hrun, hended, _, _, rfl, ?_, ⟨_, rfl⟩, hW, hsame.mono (by decide) (by decide)⟩
  · show own_St p e below s₁ m 0 #[vR (t1), .unset, .unset] [] _
    refine XS.aloadN X0.here hx rfl (hb hby d43_0) rfl rfl ?_
    refine st1 _ ?_
    show own_St p e below T1 m 4 #[vR (t1), .unset, .unset] [(.int i.toInt32)] _
    refine XS.istoreN X1.here hx rfl (hb hby d43_4) rfl (l' := #[vR (t1), vI (i.toInt32), .unset]) rfl ?_
    refine XS.aloadN X1.here hx rfl (hb hby d43_5) rfl rfl ?_
    refine st2 _ ?_
    show own_St p e below T2 m 9 #[vR (t1), vI (i.toInt32), .unset] [(.ref a1)] _
    refine XS.iloadN X2.here hx rfl (hb hby d43_9) rfl ?_
    refine st3.trans ?_
    show own_St p e below T3 m 15 #[vR (t1), vI (i.toInt32), .unset] [(.ref xs[i])] _
    refine XS.astoreN X3.here hx rfl (hb hby d43_15) rfl rfl (l' := #[vR (t1), vI (i.toInt32), vR (xs[i])]) rfl ?_
    refine XS.aloadN X3.here hx rfl (hb hby d43_16) rfl rfl ?_
    refine XS.iloadN X3.here hx rfl (hb hby d43_17) rfl ?_
    refine XS.iconst X3.here hx rfl (hb hby d43_18) ?_
    refine XS.iadd X3.here hx rfl (hb hby d43_19) rfl ?_
    refine st4 _ ?_
    show own_St p e below T4 m 23 #[vR (t1), vI (i.toInt32), vR (xs[i])] [] _
    refine XS.aloadN X4.here hx rfl (hb hby d43_23) rfl rfl ?_
    show own_St p e below T4 m 24 #[vR (t1), vI (i.toInt32), vR (xs[i])] [(.ref xs[i])] _
    exact retOut X4 hx Bd.returns rfl (Or.inr (Or.inr (Or.inr (Or.inr ⟨rfl, rfl, rfl⟩)))) (hb hby d43_24) hr
  · show own_Qnx Z t1 a1 n i xs[i] h0 n0 _ T4.heap _
    rw [e4]
    exact ⟨rfl, N4, K4, f5, f6, f7, (by have q := f8; rw [own_ts (own_k4 hi hn)] at q; exact q)⟩
theorem r_nxA (l Z a0) (hw : own_HW a0 Z) (ws s_D s_L s_LE s_E s_Z mr kd_ kl_ h0 n0) (O0 : Old Z n0 h0) (G : own_Ctx Z Z.heap s_D s_L s_LE s_E s_Z mr kd_ kl_) (t1 : Addr) (n : Nat) (a1 x_ : Addr) (Et : Exa Z h0 t1 "java/util/ImmutableCollections$ListItr") (ga : n0 ≤ t1) (Fl : Fld Z h0 t1 "java/util/ImmutableCollections$ListItr" "list" "Ljava/util/List;" (.ref a1)) (Fz : Fld Z h0 t1 "java/util/ImmutableCollections$ListItr" "size" "I" (.int n.toInt32)) (Fu : Fld Z h0 t1 "java/util/ImmutableCollections$ListItr" "cursor" "I" (.int (0 : Int32))) (E1_ : Exa Z h0 a1 "java/util/ImmutableCollections$List12") (F1 : Fld Z h0 a1 "java/util/ImmutableCollections$List12" "e0" "Ljava/lang/Object;" (.ref x_)) (F2 : Fld Z h0 a1 "java/util/ImmutableCollections$List12" "e1" "Ljava/lang/Object;" (.ref s_E)) :
    own_M l Y37_ (head1 (Jvm.Cond.codeWith Y37_ jdk_53_method_4_code 3 (some (.object "java/lang/Object")) [((0 : Nat), (24 : Nat), (25 : Nat), (30 : Nat))] :: ws) (own_rm_ 1 0 0 13)) #[(.ref t1)] Z h0 n0 (own_Qnx Z t1 a1 n 0 x_) (own_rm_ 1 0 0 13).cells (own_rm_ 1 0 0 13).slots := by
  have G0 := G
  refine MetFree.of_bodySF (plainFor_of_name pn_13) hisWith ?_
  intro p e s m args below meth c s₁ Bd hml0 hP hK
  obtain ⟨rfl, hZ, hh⟩ := hP
  have hx := Bd.exec
  have hby := Bd.bytes
  have hml : c.maxLocals = 3 := hml0
  have hown := findClass_of_methodNamed Bd.named
  have X0 : Stand p l e (own_rm_ 1 0 0 13) s m #[(.ref t1)] below meth c s₁ [] 0 0 := Stand.of_body Bd
  have e0 : s₁.heap = h0 := by rw [← hh, Bd.state]; rfl
  have N0 := Fr.nil n0
  have pre0 := own_pre (tb := p.tables) (e := e) (below := below) (T := s₁) (ef_43_34 m t1)
  obtain ⟨T1, X1, e1, st1⟩ := getF X0 hx hZ hown (host := "") (Or.inl (oW hw 122 rfl)) Via.refl e0 Fu (g := (mkF m 1 #[vR (t1), .unset, .unset] [(.ref t1)])) rfl rfl (hb hby d43_1)
  obtain ⟨T2, X2, e2, st2⟩ := getF X1 hx hZ hown (host := "") (Or.inl (oW hw 118 rfl)) Via.refl e1 Fl (g := (mkF m 6 #[vR (t1), vI ((0 : Int32)), .unset] [(.ref t1)])) rfl rfl (hb hby d43_6)
  obtain ⟨cq3, kq3, q3a, q3b, q3c⟩ := isOf hZ e2 E1_
  obtain ⟨_, _, ⟨T3, L3, k3, n3⟩, -, X3, ⟨Lc3, hQ3, l3, y3, z3⟩, st3⟩ := X2.interfaceBack hx (xi := Y38_) (y := Y32_) hown (mvT hZ (oW hw 337 rfl)) (mvT hZ (oW hw 338 rfl)) (mvT hZ (oW hw 339 rfl)) (mvT hZ (oW hw 340 rfl)) (mvT hZ (oW hw 341 rfl)) (mvT hZ (oW hw 342 rfl)) (mvT hZ (oW hw 343 rfl)) (mvT hZ (oW hw 325 rfl)) (by decide) (backOf (W := 0) (r_getA l Z a0 hw [] s_D s_L s_LE s_E s_Z mr kd_ kl_ h0 n0 O0 G0 a1 x_ E1_ F1 F2) hZ (oW hw 344 rfl) (oW hw 306 rfl) (by decide) (by decide)) q3a q3b q3c (g := (mkF m 10 #[vR (t1), vI ((0 : Int32)), .unset] [(.int (0 : Int32)), (.ref a1)])) rfl (by rw [hml]; rfl) (Steps.refl _) (argsL := [(.int (0 : Int32))]) (rest := []) (lenOf pd_18 rfl) rfl (by exact Nat.le_of_eq rfl) (hb hby d43_10) (fun _ _ => ⟨rfl, e2, (by decide : 0 + 0 ≤ _), (by decide : 0 + 0 ≤ _)⟩)
  dsimp only [Pt.U, Pt.locs, Pt.cells, Pt.slots] at X3 l3 y3 z3 st3 hQ3
  subst l3 y3 z3
  obtain ⟨rfl, N3q, e3⟩ := hQ3
  have N3 := Fr.app N0 N3q
  obtain ⟨T4, h4, X4, e4, W4, st4⟩ := putF X3 hx hZ hown (host := "") (Or.inl (oW hw 122 rfl)) Via.refl e3 Fu Et (Or.inl (oW hw 123 rfl)) (oW hw 102 rfl) (ty := .int) (by decide) rfl rfl (g := (mkF m 20 #[vR (t1), vI ((0 : Int32)), vR (x_)] [(.int ((0 : Int32) + (1 : Int32))), (.ref t1)])) rfl rfl (hb hby d43_20)
  have f5 := Et.wr W4
  have f6 := Fl.other W4 (Or.inr (slot_ne (Or.inr (oW hw 119 rfl)) (Or.inl (oW hw 123 rfl)) (by decide) (t := (.object "java/util/List")) (t' := .int) (by decide) (by decide)))
  have f7 := Fz.other W4 (Or.inr (slot_ne (Or.inr (oW hw 121 rfl)) (Or.inl (oW hw 123 rfl)) (by decide) (t := .int) (t' := .int) (by decide) (by decide)))
  have K4 : Keep h0 h4 [t1] := (Keep.refl h0 [t1]).wr W4 (Or.inl (List.mem_of_getElem? (i := 0) rfl))
  have N4 := Fr.snoc X4 N3 ga
  have f8 := Fu.same W4
  obtain ⟨fs, hr, hrun, hended, hW, hsame⟩ := X4.leave (v := some (.ref x_)) (oR Bd.returns)
  refine ⟨_, _, pre0 _ ?_, hrun, hended, _, _, rfl, ?_, ⟨_, rfl⟩, hW, hsame.mono (by decide) (by decide)⟩
  · show own_St p e below s₁ m 0 #[vR (t1), .unset, .unset] [] _
    refine XS.aloadN X0.here hx rfl (hb hby d43_0) rfl rfl ?_
    refine st1 _ ?_
    show own_St p e below T1 m 4 #[vR (t1), .unset, .unset] [(.int (0 : Int32))] _
    refine XS.istoreN X1.here hx rfl (hb hby d43_4) rfl (l' := #[vR (t1), vI ((0 : Int32)), .unset]) rfl ?_
    refine XS.aloadN X1.here hx rfl (hb hby d43_5) rfl rfl ?_
    refine st2 _ ?_
    show own_St p e below T2 m 9 #[vR (t1), vI ((0 : Int32)), .unset] [(.ref a1)] _
    refine XS.iloadN X2.here hx rfl (hb hby d43_9) rfl ?_
    refine st3.trans ?_
    show own_St p e below T3 m 15 #[vR (t1), vI ((0 : Int32)), .unset] [(.ref x_)] _
    refine XS.astoreN X3.here hx rfl (hb hby d43_15) rfl rfl (l' := #[vR (t1), vI ((0 : Int32)), vR (x_)]) rfl ?_
    refine XS.aloadN X3.here hx rfl (hb hby d43_16) rfl rfl ?_
    refine XS.iloadN X3.here hx rfl (hb hby d43_17) rfl ?_
    refine XS.iconst X3.here hx rfl (hb hby d43_18) ?_
    refine XS.iadd X3.here hx rfl (hb hby d43_19) rfl ?_
    refine st4 _ ?_
    show own_St p e below T4 m 23 #[vR (t1), vI ((0 : Int32)), vR (x_)] [] _
    refine XS.aloadN X4.here hx rfl (hb hby d43_23) rfl rfl ?_
    show own_St p e below T4 m 24 #[vR (t1), vI ((0 : Int32)), vR (x_)] [(.ref x_)] _
    exact retOut X4 hx Bd.returns rfl (Or.inr (Or.inr (Or.inr (Or.inr ⟨rfl, rfl, rfl⟩)))) (hb hby d43_24) hr
  · show own_Qnx Z t1 a1 n 0 x_ h0 n0 _ T4.heap _
    rw [e4]
    exact ⟨rfl, N4, K4, f5, f6, f7, f8⟩
theorem r_nxB0 (l Z a0) (hw : own_HW a0 Z) (ws s_D s_L s_LE s_E s_Z mr kd_ kl_ h0 n0) (O0 : Old Z n0 h0) (G : own_Ctx Z Z.heap s_D s_L s_LE s_E s_Z mr kd_ kl_) (t1 : Addr) (n : Nat) (a1 x_ y_ : Addr) (Et : Exa Z h0 t1 "java/util/ImmutableCollections$ListItr") (ga : n0 ≤ t1) (Fl : Fld Z h0 t1 "java/util/ImmutableCollections$ListItr" "list" "Ljava/util/List;" (.ref a1)) (Fz : Fld Z h0 t1 "java/util/ImmutableCollections$ListItr" "size" "I" (.int n.toInt32)) (Fu : Fld Z h0 t1 "java/util/ImmutableCollections$ListItr" "cursor" "I" (.int (0 : Int32))) (E1_ : Exa Z h0 a1 "java/util/ImmutableCollections$List12") (F1 : Fld Z h0 a1 "java/util/ImmutableCollections$List12" "e0" "Ljava/lang/Object;" (.ref x_)) (F2 : Fld Z h0 a1 "java/util/ImmutableCollections$List12" "e1" "Ljava/lang/Object;" (.ref y_)) (hyE : y_ ≠ s_E) :
    own_M l Y37_ (head1 (Jvm.Cond.codeWith Y37_ jdk_53_method_4_code 3 (some (.object "java/lang/Object")) [((0 : Nat), (24 : Nat), (25 : Nat), (30 : Nat))] :: ws) (own_rm_ 1 0 0 13)) #[(.ref t1)] Z h0 n0 (own_Qnx Z t1 a1 n 0 x_) (own_rm_ 1 0 0 13).cells (own_rm_ 1 0 0 13).slots := by
  have G0 := G
  refine MetFree.of_bodySF (plainFor_of_name pn_13) hisWith ?_
  intro p e s m args below meth c s₁ Bd hml0 hP hK
  obtain ⟨rfl, hZ, hh⟩ := hP
  have hx := Bd.exec
  have hby := Bd.bytes
  have hml : c.maxLocals = 3 := hml0
  have hown := findClass_of_methodNamed Bd.named
  have X0 : Stand p l e (own_rm_ 1 0 0 13) s m #[(.ref t1)] below meth c s₁ [] 0 0 := Stand.of_body Bd
  have e0 : s₁.heap = h0 := by rw [← hh, Bd.state]; rfl
  have N0 := Fr.nil n0
  have pre0 := own_pre (tb := p.tables) (e := e) (below := below) (T := s₁) (ef_43_34 m t1)
  obtain ⟨T1, X1, e1, st1⟩ := getF X0 hx hZ hown (host := "") (Or.inl (oW hw 122 rfl)) Via.refl e0 Fu (g := (mkF m 1 #[vR (t1), .unset, .unset] [(.ref t1)])) rfl rfl (hb hby d43_1)
  obtain ⟨T2, X2, e2, st2⟩ := getF X1 hx hZ hown (host := "") (Or.inl (oW hw 118 rfl)) Via.refl e1 Fl (g := (mkF m 6 #[vR (t1), vI ((0 : Int32)), .unset] [(.ref t1)])) rfl rfl (hb hby d43_6)
  obtain ⟨cq3, kq3, q3a, q3b, q3c⟩ := isOf hZ e2 E1_
  obtain ⟨_, _, ⟨T3, L3, k3, n3⟩, -, X3, ⟨Lc3, hQ3, l3, y3, z3⟩, st3⟩ := X2.interfaceBack hx (xi := Y38_) (y := Y32_) hown (mvT hZ (oW hw 337 rfl)) (mvT hZ (oW hw 338 rfl)) (mvT hZ (oW hw 339 rfl)) (mvT hZ (oW hw 340 rfl)) (mvT hZ (oW hw 341 rfl)) (mvT hZ (oW hw 342 rfl)) (mvT hZ (oW hw 343 rfl)) (mvT hZ (oW hw 325 rfl)) (by decide) (backOf (W := 0) (r_getB0 l Z a0 hw [] s_D s_L s_LE s_E s_Z mr kd_ kl_ h0 n0 O0 G0 a1 x_ y_ E1_ F1 F2 hyE) hZ (oW hw 344 rfl) (oW hw 306 rfl) (by decide) (by decide)) q3a q3b q3c (g := (mkF m 10 #[vR (t1), vI ((0 : Int32)), .unset] [(.int (0 : Int32)), (.ref a1)])) rfl (by rw [hml]; rfl) (Steps.refl _) (argsL := [(.int (0 : Int32))]) (rest := []) (lenOf pd_18 rfl) rfl (by exact Nat.le_of_eq rfl) (hb hby d43_10) (fun _ _ => ⟨rfl, e2, (by decide : 0 + 0 ≤ _), (by decide : 0 + 0 ≤ _)⟩)
  dsimp only [Pt.U, Pt.locs, Pt.cells, Pt.slots] at X3 l3 y3 z3 st3 hQ3
  subst l3 y3 z3
  obtain ⟨rfl, N3q, e3⟩ := hQ3
  have N3 := Fr.app N0 N3q
  obtain ⟨T4, h4, X4, e4, W4, st4⟩ := putF X3 hx hZ hown (host := "") (Or.inl (oW hw 122 rfl)) Via.refl e3 Fu Et (Or.inl (oW hw 123 rfl)) (oW hw 102 rfl) (ty := .int) (by decide) rfl rfl (g := (mkF m 20 #[vR (t1), vI ((0 : Int32)), vR (x_)] [(.int ((0 : Int32) + (1 : Int32))), (.ref t1)])) rfl rfl (hb hby d43_20)
  have f5 := Et.wr W4
  have f6 := Fl.other W4 (Or.inr (slot_ne (Or.inr (oW hw 119 rfl)) (Or.inl (oW hw 123 rfl)) (by decide) (t := (.object "java/util/List")) (t' := .int) (by decide) (by decide)))
  have f7 := Fz.other W4 (Or.inr (slot_ne (Or.inr (oW hw 121 rfl)) (Or.inl (oW hw 123 rfl)) (by decide) (t := .int) (t' := .int) (by decide) (by decide)))
  have K4 : Keep h0 h4 [t1] := (Keep.refl h0 [t1]).wr W4 (Or.inl (List.mem_of_getElem? (i := 0) rfl))
  have N4 := Fr.snoc X4 N3 ga
  have f8 := Fu.same W4
  obtain ⟨fs, hr, hrun, hended, hW, hsame⟩ := X4.leave (v := some (.ref x_)) (oR Bd.returns)
  refine ⟨_, _, pre0 _ ?_, hrun, hended, _, _, rfl, ?_, ⟨_, rfl⟩, hW, hsame.mono (by decide) (by decide)⟩
  · show own_St p e below s₁ m 0 #[vR (t1), .unset, .unset] [] _
    refine XS.aloadN X0.here hx rfl (hb hby d43_0) rfl rfl ?_
    refine st1 _ ?_
    show own_St p e below T1 m 4 #[vR (t1), .unset, .unset] [(.int (0 : Int32))] _
    refine XS.istoreN X1.here hx rfl (hb hby d43_4) rfl (l' := #[vR (t1), vI ((0 : Int32)), .unset]) rfl ?_
    refine XS.aloadN X1.here hx rfl (hb hby d43_5) rfl rfl ?_
    refine st2 _ ?_
    show own_St p e below T2 m 9 #[vR (t1), vI ((0 : Int32)), .unset] [(.ref a1)] _
    refine XS.iloadN X2.here hx rfl (hb hby d43_9) rfl ?_
    refine st3.trans ?_
    show own_St p e below T3 m 15 #[vR (t1), vI ((0 : Int32)), .unset] [(.ref x_)] _
    refine XS.astoreN X3.here hx rfl (hb hby d43_15) rfl rfl (l' := #[vR (t1), vI ((0 : Int32)), vR (x_)]) rfl ?_
    refine XS.aloadN X3.here hx rfl (hb hby d43_16) rfl rfl ?_
    refine XS.iloadN X3.here hx rfl (hb hby d43_17) rfl ?_
    refine XS.iconst X3.here hx rfl (hb hby d43_18) ?_
    refine XS.iadd X3.here hx rfl (hb hby d43_19) rfl ?_
    refine st4 _ ?_
    show own_St p e below T4 m 23 #[vR (t1), vI ((0 : Int32)), vR (x_)] [] _
    refine XS.aloadN X4.here hx rfl (hb hby d43_23) rfl rfl ?_
    show own_St p e below T4 m 24 #[vR (t1), vI ((0 : Int32)), vR (x_)] [(.ref x_)] _
    exact retOut X4 hx Bd.returns rfl (Or.inr (Or.inr (Or.inr (Or.inr ⟨rfl, rfl, rfl⟩)))) (hb hby d43_24) hr
  · show own_Qnx Z t1 a1 n 0 x_ h0 n0 _ T4.heap _
    rw [e4]
    exact ⟨rfl, N4, K4, f5, f6, f7, f8⟩
theorem r_nxB1 (l Z a0) (hw : own_HW a0 Z) (ws s_D s_L s_LE s_E s_Z mr kd_ kl_ h0 n0) (O0 : Old Z n0 h0) (G : own_Ctx Z Z.heap s_D s_L s_LE s_E s_Z mr kd_ kl_) (t1 : Addr) (n : Nat) (a1 x_ y_ : Addr) (Et : Exa Z h0 t1 "java/util/ImmutableCollections$ListItr") (ga : n0 ≤ t1) (Fl : Fld Z h0 t1 "java/util/ImmutableCollections$ListItr" "list" "Ljava/util/List;" (.ref a1)) (Fz : Fld Z h0 t1 "java/util/ImmutableCollections$ListItr" "size" "I" (.int n.toInt32)) (Fu : Fld Z h0 t1 "java/util/ImmutableCollections$ListItr" "cursor" "I" (.int (1 : Int32))) (E1_ : Exa Z h0 a1 "java/util/ImmutableCollections$List12") (F1 : Fld Z h0 a1 "java/util/ImmutableCollections$List12" "e0" "Ljava/lang/Object;" (.ref x_)) (F2 : Fld Z h0 a1 "java/util/ImmutableCollections$List12" "e1" "Ljava/lang/Object;" (.ref y_)) (hyE : y_ ≠ s_E) :
    own_M l Y37_ (head1 (Jvm.Cond.codeWith Y37_ jdk_53_method_4_code 3 (some (.object "java/lang/Object")) [((0 : Nat), (24 : Nat), (25 : Nat), (30 : Nat))] :: ws) (own_rm_ 1 0 0 13)) #[(.ref t1)] Z h0 n0 (own_Qnx Z t1 a1 n 1 y_) (own_rm_ 1 0 0 13).cells (own_rm_ 1 0 0 13).slots := by
  have G0 := G
  refine MetFree.of_bodySF (plainFor_of_name pn_13) hisWith ?_
  intro p e s m args below meth c s₁ Bd hml0 hP hK
  obtain ⟨rfl, hZ, hh⟩ := hP
  have hx := Bd.exec
  have hby := Bd.bytes
  have hml : c.maxLocals = 3 := hml0
  have hown := findClass_of_methodNamed Bd.named
  have X0 : Stand p l e (own_rm_ 1 0 0 13) s m #[(.ref t1)] below meth c s₁ [] 0 0 := Stand.of_body Bd
  have e0 : s₁.heap = h0 := by rw [← hh, Bd.state]; rfl
  have N0 := Fr.nil n0
  have pre0 := own_pre (tb := p.tables) (e := e) (below := below) (T := s₁) (ef_43_34 m t1)
  obtain ⟨T1, X1, e1, st1⟩ := getF X0 hx hZ hown (host := "") (Or.inl (oW hw 122 rfl)) Via.refl e0 Fu (g := (mkF m 1 #[vR (t1), .unset, .unset] [(.ref t1)])) rfl rfl (hb hby d43_1)
  obtain ⟨T2, X2, e2, st2⟩ := getF X1 hx hZ hown (host := "") (Or.inl (oW hw 118 rfl)) Via.refl e1 Fl (g := (mkF m 6 #[vR (t1), vI ((1 : Int32)), .unset] [(.ref t1)])) rfl rfl (hb hby d43_6)
  obtain ⟨cq3, kq3, q3a, q3b, q3c⟩ := isOf hZ e2 E1_
  obtain ⟨_, _, ⟨T3, L3, k3, n3⟩, -, X3, ⟨Lc3, hQ3, l3, y3, z3⟩, st3⟩ := X2.interfaceBack hx (xi := Y38_) (y := Y32_) hown (mvT hZ (oW hw 337 rfl)) (mvT hZ (oW hw 338 rfl)) (mvT hZ (oW hw 339 rfl)) (mvT hZ (oW hw 340 rfl)) (mvT hZ (oW hw 341 rfl)) (mvT hZ (oW hw 342 rfl)) (mvT hZ (oW hw 343 rfl)) (mvT hZ (oW hw 325 rfl)) (by decide) (backOf (W := 0) (r_getB1 l Z a0 hw [] s_D s_L s_LE s_E s_Z mr kd_ kl_ h0 n0 O0 G0 a1 x_ y_ E1_ F1 F2 hyE) hZ (oW hw 344 rfl) (oW hw 306 rfl) (by decide) (by decide)) q3a q3b q3c (g := (mkF m 10 #[vR (t1), vI ((1 : Int32)), .unset] [(.int (1 : Int32)), (.ref a1)])) rfl (by rw [hml]; rfl) (Steps.refl _) (argsL := [(.int (1 : Int32))]) (rest := []) (lenOf pd_18 rfl) rfl (by exact Nat.le_of_eq rfl) (hb hby d43_10) (fun _ _ => ⟨rfl, e2, (by decide : 0 + 0 ≤ _), (by decide : 0 + 0 ≤ _)⟩)
  dsimp only [Pt.U, Pt.locs, Pt.cells, Pt.slots] at X3 l3 y3 z3 st3 hQ3
  subst l3 y3 z3
  obtain ⟨rfl, N3q, e3⟩ := hQ3
  have N3 := Fr.app N0 N3q
  obtain ⟨T4, h4, X4, e4, W4, st4⟩ := putF X3 hx hZ hown (host := "") (Or.inl (oW hw 122 rfl)) Via.refl e3 Fu Et (Or.inl (oW hw 123 rfl)) (oW hw 102 rfl) (ty := .int) (by decide) rfl rfl (g := (mkF m 20 #[vR (t1), vI ((1 : Int32)), vR (y_)] [(.int ((1 : Int32) + (1 : Int32))), (.ref t1)])) rfl rfl (hb hby d43_20)
  have f5 := Et.wr W4
  have f6 := Fl.other W4 (Or.inr (slot_ne (Or.inr (oW hw 119 rfl)) (Or.inl (oW hw 123 rfl)) (by decide) (t := (.object "java/util/List")) (t' := .int) (by decide) (by decide)))
  have f7 := Fz.other W4 (Or.inr (slot_ne (Or.inr (oW hw 121 rfl)) (Or.inl (oW hw 123 rfl)) (by decide) (t := .int) (t' := .int) (by decide) (by decide)))
  have K4 : Keep h0 h4 [t1] := (Keep.refl h0 [t1]).wr W4 (Or.inl (List.mem_of_getElem? (i := 0) rfl))
  have N4 := Fr.snoc X4 N3 ga
  have f8 := Fu.same W4
  obtain ⟨fs, hr, hrun, hended, hW, hsame⟩ := X4.leave (v := some (.ref y_)) (oR Bd.returns)
  refine ⟨_, _, pre0 _ ?_, hrun, hended, _, _, rfl, ?_, ⟨_, rfl⟩, hW, hsame.mono (by decide) (by decide)⟩
  · show own_St p e below s₁ m 0 #[vR (t1), .unset, .unset] [] _
    refine XS.aloadN X0.here hx rfl (hb hby d43_0) rfl rfl ?_
    refine st1 _ ?_
    show own_St p e below T1 m 4 #[vR (t1), .unset, .unset] [(.int (1 : Int32))] _
    refine XS.istoreN X1.here hx rfl (hb hby d43_4) rfl (l' := #[vR (t1), vI ((1 : Int32)), .unset]) rfl ?_
    refine XS.aloadN X1.here hx rfl (hb hby d43_5) rfl rfl ?_
    refine st2 _ ?_
    show own_St p e below T2 m 9 #[vR (t1), vI ((1 : Int32)), .unset] [(.ref a1)] _
    refine XS.iloadN X2.here hx rfl (hb hby d43_9) rfl ?_
    refine st3.trans ?_
    show own_St p e below T3 m 15 #[vR (t1), vI ((1 : Int32)), .unset] [(.ref y_)] _
    refine XS.astoreN X3.here hx rfl (hb hby d43_15) rfl rfl (l' := #[vR (t1), vI ((1 : Int32)), vR (y_)]) rfl ?_
    refine XS.aloadN X3.here hx rfl (hb hby d43_16) rfl rfl ?_
    refine XS.iloadN X3.here hx rfl (hb hby d43_17) rfl ?_
    refine XS.iconst X3.here hx rfl (hb hby d43_18) ?_
    refine XS.iadd X3.here hx rfl (hb hby d43_19) rfl ?_
    refine st4 _ ?_
    show own_St p e below T4 m 23 #[vR (t1), vI ((1 : Int32)), vR (y_)] [] _
    refine XS.aloadN X4.here hx rfl (hb hby d43_23) rfl rfl ?_
    show own_St p e below T4 m 24 #[vR (t1), vI ((1 : Int32)), vR (y_)] [(.ref y_)] _
    exact retOut X4 hx Bd.returns rfl (Or.inr (Or.inr (Or.inr (Or.inr ⟨rfl, rfl, rfl⟩)))) (hb hby d43_24) hr
  · show own_Qnx Z t1 a1 n 1 y_ h0 n0 _ T4.heap _
    rw [e4]
    exact ⟨rfl, N4, K4, f5, f6, f7, f8⟩
theorem r_nx (l Z a0) (hw : own_HW a0 Z) (ws s_D s_L s_LE s_E s_Z mr kd_ kl_ h0 n0) (O0 : Old Z n0 h0) (G : own_Ctx Z Z.heap s_D s_L s_LE s_E s_Z mr kd_ kl_) (t1 a1 : Addr) (n i : Nat) (xs : List Addr) (It : own_It Z h0 t1 a1 n i) (ga : n0 ≤ t1) (I : own_IL Z h0 a1 s_E xs) (hi : i < xs.length) (hn : xs.length ≤ 4) :
    own_M l Y37_ (head1 (Jvm.Cond.codeWith Y37_ jdk_53_method_4_code 3 (some (.object "java/lang/Object")) [((0 : Nat), (24 : Nat), (25 : Nat), (30 : Nat))] :: ws) (own_rm_ 1 0 0 13)) #[(.ref t1)] Z h0 n0 (own_Qnx Z t1 a1 n i xs[i]) (own_rm_ 1 0 0 13).cells (own_rm_ 1 0 0 13).slots := by
  rcases I with ⟨E1, b, k, F, V⟩ | ⟨x, rfl, E1, F0, F1⟩ | ⟨x, y, rfl, ne, E1, F0, F1⟩
  · exact r_nxN l Z a0 hw ws s_D s_L s_LE s_E s_Z mr kd_ kl_ h0 n0 O0 G t1 n a1 b k xs i It.1 ga It.2.1 It.2.2.1 It.2.2.2 E1 F V hn hi
  · obtain rfl : i = 0 := Nat.lt_one_iff.mp hi
    exact r_nxA l Z a0 hw ws s_D s_L s_LE s_E s_Z mr kd_ kl_ h0 n0 O0 G t1 n a1 x It.1 ga It.2.1 It.2.2.1 It.2.2.2 E1 F0 F1
  · have h2 : i < 2 := hi
    have h3 : i = 0 ∨ i = 1 := by omega
    rcases h3 with rfl | rfl
    · exact r_nxB0 l Z a0 hw ws s_D s_L s_LE s_E s_Z mr kd_ kl_ h0 n0 O0 G t1 n a1 x y It.1 ga It.2.1 It.2.2.1 It.2.2.2 E1 F0 F1 ne
    · exact r_nxB1 l Z a0 hw ws s_D s_L s_LE s_E s_Z mr kd_ kl_ h0 n0 O0 G t1 n a1 x y It.1 ga It.2.1 It.2.2.1 It.2.2.2 E1 F0 F1 ne
abbrev own_sg : Jvm.Lambda.Shape := (Jvm.Lambda.Shape.mk "java/util/function/ToIntFunction" "applyAsInt" (Jvm.ClassFile.MethodDescriptor.mk ([(Jvm.ClassFile.FieldType.object "java/lang/Object")] : List Jvm.ClassFile.FieldType) (Option.some Jvm.ClassFile.FieldType.int)) ([] : List Jvm.ClassFile.FieldType) (5 : Nat) "com/example/hodos/hodos/analysis/Course$Arc" "source" (Jvm.ClassFile.MethodDescriptor.mk ([] : List Jvm.ClassFile.FieldType) (Option.some Jvm.ClassFile.FieldType.int)) false (Jvm.ClassFile.MethodDescriptor.mk ([(Jvm.ClassFile.FieldType.object "com/example/hodos/hodos/analysis/Course$Arc")] : List Jvm.ClassFile.FieldType) (Option.some Jvm.ClassFile.FieldType.int)))
def own_fc : ByteArray := ⟨#[43, 192, 0, 14, 182, 0, 18, 172]⟩
theorem own_fok : Jvm.LamKit.fwdOK own_sg "com/example/hodos/hodos/analysis/Course" own_fc 2 (some .int) 18 14 = true := by decide +kernel
theorem own_fd0 : decode own_fc 0 = .ok (.aload_n 1, 1) := by decide +kernel
theorem own_fd1 : decode own_fc 1 = .ok (.checkcast 14, 3) := by decide +kernel
theorem own_fd4 : decode own_fc 4 = .ok (.invokevirtual 18, 3) := by decide +kernel
theorem own_fd7 : decode own_fc 7 = .ok (.ireturn, 1) := by decide +kernel
theorem own_sd1 : "(Ljava/lang/Object;)I" = own_sg.sam.toString := by decide +kernel
theorem own_sd2 : "()I" = own_sg.implDesc.toString := by decide +kernel
theorem d45_0 : D45_ 0 = .ok (.aload_n 0, 1) := by decide +kernel
theorem d45_1 : D45_ 1 = .ok (.getfield 15, 3) := by decide +kernel
theorem d45_4 : D45_ 4 = .ok (.ireturn, 1) := by decide +kernel
theorem ef_45_35 (m : MethodId) (x0 : Addr) : entryFrame m #[(.ref x0)] 1 = mkF m 0 #[vR (x0)] [] := by first | (simp [entryFrame, mkF, argsToLocals, Value.category]; done) | rfl
theorem r_src (l Z a0) (hw : own_HW a0 Z) (ws s_D s_L s_LE s_E s_Z mr kd_ kl_ h0 n0) (O0 : Old Z n0 h0) (G : own_Ctx Z Z.heap s_D s_L s_LE s_E s_Z mr kd_ kl_) (a1 : Addr) (z1 : Int32) (F1 : Fld Z h0 a1 "com/example/hodos/hodos/analysis/Course$Arc" "source" "I" (.int z1)) :
    oM l Y39_ prog_9_method_5_code 1 (some .int) ws (own_rm_ 0 0 0 0) #[(.ref a1)] Z h0 n0 (own_Q (some (.int z1))) := by
  have G0 := G
  refine MetFree.of_bodySF (plainFor_of_name pn_12) hisR ?_
  intro p e s m args below meth c s₁ Bd hml0 hP hK
  obtain ⟨rfl, hZ, hh⟩ := hP
  have hx := Bd.exec
  have hby := Bd.bytes
  have hml : c.maxLocals = 1 := hml0
  have hown := findClass_of_methodNamed Bd.named
  have X0 : Stand p l e (own_rm_ 0 0 0 0) s m #[(.ref a1)] below meth c s₁ [] 0 0 := Stand.of_body Bd
  have e0 : s₁.heap = h0 := by rw [← hh, Bd.state]; rfl
  have N0 := Fr.nil n0
  have pre0 := own_pre (tb := p.tables) (e := e) (below := below) (T := s₁) (ef_45_35 m a1)
  obtain ⟨T1, X1, e1, st1⟩ := getF X0 hx hZ hown (host := "") (Or.inl (oW hw 233 rfl)) Via.refl e0 F1 (g := (mkF m 1 #[vR (a1)] [(.ref a1)])) rfl rfl (hb hby d45_1)
  obtain ⟨fs, hr, hrun, hended, hW, hsame⟩ := X1.leave (v := some (.int z1)) (oR Bd.returns)
  refine ⟨_, _, pre0 _ ?_, hrun, hended, _, _, rfl, ?_, ⟨_, rfl⟩, hW, hsame.mono (by decide) (by decide)⟩
  · show own_St p e below s₁ m 0 #[vR (a1)] [] _
    refine XS.aloadN X0.here hx rfl (hb hby d45_0) rfl rfl ?_
    refine st1 _ ?_
    show own_St p e below T1 m 4 #[vR (a1)] [(.int z1)] _
    exact retI X1 hx Bd.returns (hb hby d45_4) hr
  · show own_Q (some (.int z1)) h0 n0 _ T1.heap _
    rw [e1]
    exact ⟨rfl, N0, rfl⟩
def own_cn (ss : List Nat) (t : Nat) : Nat := (ss.filter (fun s => s + 1 == t)).length
def own_ct (ss : List Nat) (t : Nat) : Nat := (ss.filter (fun s => decide (s < t))).length
def own_c2 (n : Nat) (ss : List Nat) (i : Nat) : List Value := (List.range (n + 1)).map (fun t => Value.int (if t ≤ i then own_ct ss t else own_cn ss t).toInt32)
def own_c1 (n : Nat) (ss : List Nat) : List Value := (List.range (n + 1)).map (fun t => Value.int (own_cn ss t).toInt32)
theorem own_cn_le (ss : List Nat) (t : Nat) : own_cn ss t ≤ ss.length := List.length_filter_le _ _
theorem own_ct_le (ss : List Nat) (t : Nat) : own_ct ss t ≤ ss.length := List.length_filter_le _ _
theorem own_cn0 (ss : List Nat) : own_cn ss 0 = 0 := by simp [own_cn]
theorem own_ct0 (ss : List Nat) : own_ct ss 0 = 0 := by simp [own_ct]
theorem own_ct_succ (ss : List Nat) (t : Nat) : own_ct ss (t + 1) = own_cn ss (t + 1) + own_ct ss t := by
  induction ss with
  | nil => rfl
  | cons s ss ih =>
    simp only [own_ct, own_cn, List.filter_cons] at ih ⊢
    by_cases a : s < t
    · have b : s < t + 1 := by omega
      have c : ¬ (s = t) := by omega
      simp [a, b, c]; simp at ih; omega
    · by_cases c : s = t
      · subst c; simp; simp at ih; omega
      · have b : ¬ (s < t + 1) := by omega
        simp [a, b, c]; simp at ih; omega
theorem own_c1_len (n : Nat) (ss : List Nat) : (own_c1 n ss).length = n + 1 := by simp [own_c1]
theorem own_c2_len (n : Nat) (ss : List Nat) (i : Nat) : (own_c2 n ss i).length = n + 1 := by simp [own_c2]
theorem own_c1_at {n t : Nat} (ss : List Nat) (h : t < n + 1) : (own_c1 n ss).getD t (.int (0 : Int32)) = .int (own_cn ss t).toInt32 := by
  simp [own_c1, List.getD_eq_getElem?_getD, h]
theorem own_c2_at {n t : Nat} (ss : List Nat) (i : Nat) (h : t < n + 1) : (own_c2 n ss i).getD t (.int (0 : Int32)) = .int (if t ≤ i then own_ct ss t else own_cn ss t).toInt32 := by
  simp [own_c2, List.getD_eq_getElem?_getD, h]
theorem own_c1_nil (n : Nat) : own_c1 n [] = List.replicate (n + 1) (.int (0 : Int32)) := by
  apply List.ext_getElem
  · simp [own_c1]
  · intro i h1 h2
    simp [own_c1, own_cn]; rfl
theorem own_taken (ss : List Nat) {i : Nat} (h : i < ss.length) : ss.take (i + 1) = ss.take i ++ [ss.getD i 0] := by
  rw [List.take_add_one]; simp [h]
theorem own_cn_app (ss : List Nat) (s t : Nat) : own_cn (ss ++ [s]) t = own_cn ss t + if s + 1 = t then 1 else 0 := by
  simp only [own_cn, List.filter_append, List.length_append, List.filter_cons, List.filter_nil]
  by_cases a : s + 1 = t <;> simp [a]
theorem own_c1_set {n : Nat} (ss : List Nat) {i : Nat} (h : i < ss.length) (hs : ss.getD i 0 < n) : (own_c1 n (ss.take i)).set (ss.getD i 0 + 1) (.int (own_cn (ss.take i) (ss.getD i 0 + 1) + 1).toInt32) = own_c1 n (ss.take (i + 1)) := by
  rw [own_taken ss h]
  generalize ss.getD i 0 = s at hs
  generalize ss.take i = rs
  apply List.ext_getElem
  · simp [own_c1]
  · intro j h1 h2
    have hj : j < n + 1 := by simpa [own_c1] using h2
    rw [List.getElem_set]
    by_cases a : s + 1 = j
    · subst a
      simp [own_c1, own_cn_app]
    · simp [own_c1, own_cn_app, a]
theorem own_c2_start (n : Nat) (ss : List Nat) : own_c1 n ss = own_c2 n ss 0 := by
  apply List.ext_getElem
  · simp [own_c1, own_c2]
  · intro j h1 h2
    by_cases a : j = 0
    · subst a; simp [own_c1, own_c2, own_cn0, own_ct0]
    · have b : ¬ (j ≤ 0) := by omega
      simp [own_c1, own_c2, a]
theorem own_c2_set {n : Nat} (ss : List Nat) {i : Nat} (h : i < n) : (own_c2 n ss i).set (i + 1) (.int (own_cn ss (i + 1) + own_ct ss i).toInt32) = own_c2 n ss (i + 1) := by
  apply List.ext_getElem
  · simp [own_c2]
  · intro j h1 h2
    rw [List.getElem_set]
    by_cases a : i + 1 = j
    · subst a
      simp [own_c2, own_ct_succ]
    · simp only [a, if_false, own_c2, List.getElem_map, List.getElem_range]
      by_cases b : j ≤ i
      · have c : j ≤ i + 1 := by omega
        simp [b, c]
      · have c : ¬ (j ≤ i + 1) := by omega
        simp [b, c]
def own_Arcs (Z : State) (h : Heap) (xs : List Addr) (ss : List Nat) : Prop := ss.length = xs.length ∧ ∀ j (hj : j < xs.length), Exa Z h xs[j] "com/example/hodos/hodos/analysis/Course$Arc" ∧ Fld Z h xs[j] "com/example/hodos/hodos/analysis/Course$Arc" "source" "I" (.int (ss.getD j 0).toInt32) ∧ Fld Z h xs[j] "com/example/hodos/hodos/analysis/Course$Arc" "origin" "I" (.int j.toInt32)
theorem own_Arcs_keep {Z : State} {h h' : Heap} {xs : List Addr} {ss : List Nat} (K : Keep h h' []) (A : own_Arcs Z h xs ss) : own_Arcs Z h' xs ss := ⟨A.1, fun j hj => ⟨(A.2 j hj).1.keep K, (A.2 j hj).2.1.keep K (fun q => nomatch q), (A.2 j hj).2.2.keep K (fun q => nomatch q)⟩⟩
theorem own_It_keep {Z : State} {h h' : Heap} {t a : Addr} {n i : Nat} {ws : List Addr} (K : Keep h h' ws) (q : t ∉ ws) (I : own_It Z h t a n i) : own_It Z h' t a n i := ⟨I.1.keep K, I.2.1.keep K q, I.2.2.1.keep K q, I.2.2.2.keep K q⟩
theorem own_add {a b : Nat} (ha : a ≤ 100) (hb : b ≤ 100) : a.toInt32 + b.toInt32 = (a + b).toInt32 := by
  apply Int32.toInt_inj.mp
  have e := len_toInt (n := a) (by omega)
  have e1 := len_toInt (n := b) (by omega)
  have e2 := len_toInt (n := a + b) (by omega)
  rw [Jvm.Kit.i32_add (by omega) (by omega), e, e1, e2]; omega

theorem own_in5 {s n : Nat} (h : s < n) (hn : n ≤ 4) : ¬ ((s + 1).toInt32 < 0) ∧ (s + 1).toInt32 < (n + 1).toInt32 := ⟨(own_ti (by omega)).2.1, own_tl (by omega) (by omega)⟩
theorem own_irr (x : Int32) : ¬ (x < x) := by rw [Int32.lt_iff_toInt_lt]; omega
theorem own_k5 {n : Nat} (h : n ≤ 4) : n + 1 ≤ 1000 := by omega
theorem own_c2_at1 {n i : Nat} (ss : List Nat) (h : i < n) : (own_c2 n ss i).getD (i + 1) (.int (0 : Int32)) = .int (own_cn ss (i + 1)).toInt32 := by
  rw [own_c2_at ss i (by omega), if_neg (by omega)]
theorem own_c2_at0 {n i : Nat} (ss : List Nat) (h : i < n) : (own_c2 n ss i).getD i (.int (0 : Int32)) = .int (own_ct ss i).toInt32 := by
  rw [own_c2_at ss i (by omega), if_pos (Nat.le_refl _)]
theorem own_hun {a b : Nat} (h : a ≤ b) (hb : b ≤ 4) : a ≤ 100 := by omega
def own_QA (Z : State) (ty : FieldType) (z : Int32) (vs : List Value) (h0 : Heap) (n0 : Nat) (v : Option Value) (h : Heap) (L : List Loc) : Prop := ∃ (b : Addr) (k : ClassId), v = some (.ref b) ∧ Fr n0 L ∧ Keep h0 h [] ∧ h0.size ≤ b ∧ Arv Z h b k ty z vs (.int (0 : Int32))
theorem d11_14 : D11_ 14 = .ok (.aload 4, 2) := by decide +kernel
theorem d11_16 : D11_ 16 = .ok (.invokeinterface 43 1, 5) := by decide +kernel
theorem d11_21 : D11_ 21 = .ok (.ifCond .eq 31, 3) := by decide +kernel
theorem d11_24 : D11_ 24 = .ok (.aload 4, 2) := by decide +kernel
theorem d11_26 : D11_ 26 = .ok (.invokeinterface 49 1, 5) := by decide +kernel
theorem pd_19 : parseMethodDescriptor "()Ljava/lang/Object;" = some ⟨[], some (.object "java/lang/Object")⟩ := by decide +kernel
theorem d11_31 : D11_ 31 = .ok (.astore 5, 2) := by decide +kernel
theorem os11_31 {z0 : Value} {z1 : Value} {z2 : Value} {z3 : Value} {z4 : Value} {s5 : Slot} {v : Addr} (h : One s5) : storeLocals #[.val z0, .val z1, .val z2, .val z3, .val z4, s5] 5 (.ref v) = some #[.val z0, .val z1, .val z2, .val z3, .val z4, vR (v)] := by
  rcases h with rfl | ⟨w, rfl, hw⟩
  · rfl
  · cases w <;> first | rfl | (simp [Value.category] at hw)
theorem d11_33 : D11_ 33 = .ok (.aload_n 3, 1) := by decide +kernel
theorem d11_34 : D11_ 34 = .ok (.aload_n 2, 1) := by decide +kernel
theorem d11_35 : D11_ 35 = .ok (.aload 5, 2) := by decide +kernel
theorem d11_37 : D11_ 37 = .ok (.invokeinterface 53 2, 5) := by decide +kernel
theorem pd_20 : parseMethodDescriptor "(Ljava/lang/Object;)I" = some ⟨[(.object "java/lang/Object")], some .int⟩ := by decide +kernel
theorem d11_42 : D11_ 42 = .ok (.iconst 1, 1) := by decide +kernel
theorem d11_43 : D11_ 43 = .ok (.iadd, 1) := by decide +kernel
theorem d11_44 : D11_ 44 = .ok (.dup2, 1) := by decide +kernel
theorem d11_45 : D11_ 45 = .ok (.iaload, 1) := by decide +kernel
theorem d11_46 : D11_ 46 = .ok (.iconst 1, 1) := by decide +kernel
theorem d11_47 : D11_ 47 = .ok (.iadd, 1) := by decide +kernel
theorem d11_48 : D11_ 48 = .ok (.iastore, 1) := by decide +kernel
theorem d11_49 : D11_ 49 = .ok (.goto (-35), 3) := by decide +kernel
theorem t_fet {p : Program} {l : Launch} {e : Env} {s : State} {m : MethodId} {args : Array Value} {below : List Frame} {meth : Method} {c : Code} {T0 : State} {locs : List Loc} {Z : State} {a0 : Array Value} {h0 : Heap} {n0 : Nat} (s_D s_L s_LE s_E s_Z mr : Addr) (kd_ kl_ : ClassId) (a1 fa a3 t1 : Addr) (fk k3 : ClassId) (xs : List Addr) (ss : List Nat) (n i : Nat) (hp_ : Heap) (s5 : Slot)
    (X0 : Stand p l e (own_rm_ 3 2 9 39) s m args below meth c T0 locs 2 9) (hx : p.tables.exec = Jvm.exec) (hZ : Z.Warmed39 s.vm) (hw : own_HW a0 Z) (hby : c.code = prog_15_method_2_code) (hml : c.maxLocals = 6) (hown : s.vm.findClass "com/example/hodos/hodos/analysis/Graph" = some m.cls) (e0 : T0.heap = h0) (N0 : Fr n0 locs) (O0 : Old Z n0 h0) (G : own_Ctx Z Z.heap s_D s_L s_LE s_E s_Z mr kd_ kl_) (hs5 : One s5) (It : own_It Z h0 t1 a1 xs.length i) (Kb : Keep hp_ h0 []) (Va : Arv Z h0 a3 k3 .int (n + 1).toInt32 (own_c1 n (ss.take i)) (.int (0 : Int32))) (hi : i < xs.length) (gt : n0 ≤ t1) (gb : hp_.size ≤ t1) (ga : n0 ≤ a3) (gc : hp_.size ≤ a3) (hne : a3 ≠ t1) (I : own_IL Z hp_ a1 s_E xs) (Ar : own_Arcs Z hp_ xs ss) (hn4 : xs.length ≤ 4) (hN : n ≤ 4) (hss : ∀ j, j < ss.length → ss.getD j 0 < n) (Fn : own_Fn Z "com/example/hodos/hodos/analysis/Course" own_sg fa fk) :
    ∃ (T' : State) (h' : Heap) (L' : List Loc), Stand p l e (own_rm_ 3 2 9 39) s m args below meth c T' L' 2 9 ∧ T'.heap = h' ∧ Fr n0 L' ∧ Old Z n0 h' ∧ (Keep hp_ h' []) ∧ (own_It Z h' t1 a1 xs.length (i + 1)) ∧ (Arv Z h' a3 k3 .int (n + 1).toInt32 (own_c1 n (ss.take (i + 1))) (.int (0 : Int32))) ∧ ∀ target, Steps p.tables e below (T'.setTop (mkF m 14 #[vI (n.toInt32), vR (a1), vR (fa), vR (a3), vR (t1), vR (xs[i])] [])) target → Steps p.tables e below (T0.setTop (mkF m 14 #[vI (n.toInt32), vR (a1), vR (fa), vR (a3), vR (t1), s5] [])) target := by
  have G0 := G
  have hsl : i < ss.length := by rw [Ar.1]; exact hi
  have hs8 : (ss.getD i 0) < n := hss i hsl
  have hs9 : (ss.getD i 0) ≤ 1000 := by omega
  have hs7 : (ss.getD i 0) + 1 ≤ 1000 := by omega
  have hs6 : (ss.getD i 0) + 1 < n + 1 := by omega
  have hc9 : own_cn (ss.take i) ((ss.getD i 0) + 1) ≤ 1000 := Nat.le_trans (own_cn_le _ _) (by rw [List.length_take, Ar.1]; omega)
  obtain ⟨cq1, kq1, q1a, q1b, q1c⟩ := isOf hZ e0 It.1
  obtain ⟨_, _, ⟨T1, L1, k1, n1⟩, -, X1, ⟨Lc1, hQ1, l1, y1, z1⟩, st1⟩ := X0.interfaceBack hx (xi := Y40_) (y := Y36_) hown (mvT hZ (oW hw 126 rfl)) (mvT hZ (oW hw 127 rfl)) (mvT hZ (oW hw 128 rfl)) (mvT hZ (oW hw 129 rfl)) (mvT hZ (oW hw 130 rfl)) (mvT hZ (oW hw 131 rfl)) (mvT hZ (oW hw 132 rfl)) (mvT hZ (oW hw 133 rfl)) (by decide) (backOf (W := 0) (r_hn1 l Z a0 hw [] s_D s_L s_LE s_E s_Z mr kd_ kl_ h0 n0 O0 G0 t1 a1 xs.length i It hi hn4) hZ (oW hw 134 rfl) (oW hw 103 rfl) (by decide) (by decide)) q1a q1b q1c (g := (mkF m 16 #[vI (n.toInt32), vR (a1), vR (fa), vR (a3), vR (t1), s5] [(.ref t1)])) rfl (by rw [hml]; rfl) (Steps.refl _) (argsL := []) (rest := []) (lenOf pd_13 rfl) rfl (by exact Nat.le_of_eq rfl) (hb hby d11_16) (fun _ _ => ⟨rfl, e0, (by decide : 2 + 0 ≤ _), (by decide : 9 + 0 ≤ _)⟩)
  dsimp only [Pt.U, Pt.locs, Pt.cells, Pt.slots] at X1 l1 y1 z1 st1 hQ1
  subst l1 y1 z1
  obtain ⟨rfl, N1q, e1⟩ := hQ1
  have N1 := Fr.app N0 N1q
  obtain ⟨cq2, kq2, q2a, q2b, q2c⟩ := isOf hZ e1 It.1
  obtain ⟨_, _, ⟨T2, L2, k2, n2⟩, -, X2, ⟨Lc2, hQ2, l2, y2, z2⟩, st2⟩ := X1.interfaceBack hx (xi := Y41_) (y := Y37_) hown (mvT hZ (oW hw 329 rfl)) (mvT hZ (oW hw 330 rfl)) (mvT hZ (oW hw 331 rfl)) (mvT hZ (oW hw 332 rfl)) (mvT hZ (oW hw 333 rfl)) (mvT hZ (oW hw 334 rfl)) (mvT hZ (oW hw 335 rfl)) (mvT hZ (oW hw 133 rfl)) (by decide) (backOfWith (W := 0) (r_nx l Z a0 hw [] s_D s_L s_LE s_E s_Z mr kd_ kl_ h0 n0 O0 G0 t1 a1 xs.length i xs It gt (own_IL_keep Kb I) hi hn4) hZ (oW hw 336 rfl) (oW hw 103 rfl) (by decide) (by decide)) q2a q2b q2c (g := (mkF m 26 #[vI (n.toInt32), vR (a1), vR (fa), vR (a3), vR (t1), s5] [(.ref t1)])) rfl (by rw [hml]; rfl) (Steps.refl _) (argsL := []) (rest := []) (lenOf pd_19 rfl) rfl (by exact Nat.le_of_eq rfl) (hb hby d11_26) (fun _ _ => ⟨rfl, e1, (by decide : 2 + 0 ≤ _), (by decide : 9 + 0 ≤ _)⟩)
  dsimp only [Pt.U, Pt.locs, Pt.cells, Pt.slots] at X2 l2 y2 z2 st2 hQ2
  subst l2 y2 z2
  obtain ⟨rfl, N2q, Kq2, It2⟩ := hQ2
  have N2 := Fr.app N1 N2q
  have f4 := Va.keep Kq2 (oN1 hne)
  have O2 := O0.keep Kq2 (allS gt all0)
  have Kb2 : Keep hp_ T2.heap [] := Kb.trans Kq2 (allS (Or.inr gb) all0)
  obtain ⟨T5, L5, X5, e5, N5q, st5⟩ := own_lam (n0 := n0) X2 hx hZ (xi := Y42_) (y := Y39_) hown (oW hw 345 rfl) (oW hw 346 rfl) (oW hw 347 rfl) (oW hw 351 rfl) (oW hw 350 rfl) (oW hw 209 rfl) (oW hw 349 rfl) ⟨rfl, rfl, own_sd1⟩ ⟨rfl, rfl, own_sd2⟩ ⟨by decide, by decide⟩ Fn O2 rfl ((Ar.2 i hi).1.keep Kb2) own_fok own_fd0 own_fd1 own_fd4 own_fd7 (r_src l Z a0 hw [] s_D s_L s_LE s_E s_Z mr kd_ kl_ T2.heap n0 O2 G0 xs[i] (ss.getD i 0).toInt32 ((Ar.2 i hi).2.1.keep Kb2 (fun q => nomatch q))) rfl rfl (own_lenP pd_20 rfl) (own_lenP pd_16 rfl) (g := (mkF m 37 #[vI (n.toInt32), vR (a1), vR (fa), vR (a3), vR (t1), vR (xs[i])] [(.ref xs[i]), (.ref fa), (.ref a3)])) rfl (by rw [hml]; rfl) rfl (hb hby d11_37) (by decide) (Nat.le_of_ble_eq_true rfl) (by decide : 2 ≤ _) (by decide : 9 ≤ _)
  have N5 := Fr.app N2 N5q
  have vc6 := f4
  obtain ⟨cl6, Ar6, qk6, S6, Nn6, Hs6, Gf6⟩ := vc6
  have hin6 : ¬ (((ss.getD i 0) + 1).toInt32 < 0 ∨ cl6.slots.size ≤ (((ss.getD i 0) + 1).toInt32).toNatClampNeg) := inb_of S6 (own_in5 hs8 hN)
  have hat6 : cl6.slots[(((ss.getD i 0) + 1).toInt32).toNatClampNeg]? = some (.int (own_cn (ss.take i) ((ss.getD i 0) + 1)).toInt32) := Has.at Hs6 hin6 (by rw [(own_ti hs7).1]; exact own_c1_at _ hs6)
  have vc7 := f4
  obtain ⟨cl7, Ar7, qk7, S7, Nn7, Hs7, Gf7⟩ := vc7
  have hin7 : ¬ (((ss.getD i 0) + 1).toInt32 < 0 ∨ cl7.slots.size ≤ (((ss.getD i 0) + 1).toInt32).toNatClampNeg) := inb_of S7 (own_in5 hs8 hN)
  obtain ⟨T8, h8, X8, e8, W8, st8⟩ := stI X5 hx hZ e5 Ar7 (j := ((ss.getD i 0) + 1).toInt32) hin7 (g := (mkF m 48 #[vI (n.toInt32), vR (a1), vR (fa), vR (a3), vR (t1), vR (xs[i])] [(.int (own_cn (ss.take i) ((ss.getD i 0) + 1) + 1).toInt32), (.int ((ss.getD i 0) + 1).toInt32), (.ref a3)])) rfl rfl (hb hby d11_48)
  have O8 := O2.wr W8 ga
  have N8 := Fr.snoc X8 N5 ga
  have f10 : Arv Z h8 a3 k3 .int (n + 1).toInt32 (List.set (own_c1 n (ss.take i)) (((ss.getD i 0) + 1).toInt32).toNatClampNeg (.int (own_cn (ss.take i) ((ss.getD i 0) + 1) + 1).toInt32)) (.int (0 : Int32)) := Arv.set Ar7 qk7 S7 Nn7 Hs7 Gf7 rfl W8 (((ss.getD i 0) + 1).toInt32).toNatClampNeg rfl (by rw [(own_ti hs7).1, own_c1_len]; exact hs6)
  refine ⟨T8, h8, _, X8, e8, N8, O8, (Kb2.trans (Keep.of_wr W8) (allS (Or.inr gc) all0)), (own_It_keep (Keep.of_wr W8) (oN1 (Ne.symm hne)) It2), (by have q := f10; rw [(own_ti hs7).1, own_c1_set ss hsl hs8] at q; exact q), fun target kt => ?_⟩
  show own_St p e below T0 m 14 #[vI (n.toInt32), vR (a1), vR (fa), vR (a3), vR (t1), s5] [] _
  refine XS.aload X0.here hx rfl (hb hby d11_14) rfl rfl ?_
  refine st1.trans ?_
  show own_St p e below T1 m 21 #[vI (n.toInt32), vR (a1), vR (fa), vR (a3), vR (t1), s5] [(.int (1 : Int32))] _
  refine XS.ifNo X1.here hx rfl (hb hby d11_21) rfl ((if0 _ _).trans (feq (by decide : ¬ ((1 : Int32) = (0 : Int32)))).1) ?_
  refine XS.aload X1.here hx rfl (hb hby d11_24) rfl rfl ?_
  refine st2.trans ?_
  show own_St p e below T2 m 31 #[vI (n.toInt32), vR (a1), vR (fa), vR (a3), vR (t1), s5] [(.ref xs[i])] _
  refine XS.astore X2.here hx rfl (hb hby d11_31) rfl rfl (l' := #[vI (n.toInt32), vR (a1), vR (fa), vR (a3), vR (t1), vR (xs[i])]) (os11_31 hs5) ?_
  refine XS.aloadN X2.here hx rfl (hb hby d11_33) rfl rfl ?_
  refine XS.aloadN X2.here hx rfl (hb hby d11_34) rfl rfl ?_
  refine XS.aload X2.here hx rfl (hb hby d11_35) rfl rfl ?_
  refine st5 _ ?_
  show own_St p e below T5 m 42 #[vI (n.toInt32), vR (a1), vR (fa), vR (a3), vR (t1), vR (xs[i])] [(.int (ss.getD i 0).toInt32), (.ref a3)] _
  refine XS.iconst X5.here hx rfl (hb hby d11_42) ?_
  refine XS.iadd X5.here hx rfl (hb hby d11_43) rfl ?_
  show own_St p e below T5 m 44 #[vI (n.toInt32), vR (a1), vR (fa), vR (a3), vR (t1), vR (xs[i])] [(.int ((ss.getD i 0).toInt32 + (1 : Int32))), (.ref a3)] _
  rw [own_ts hs9]
  show own_St p e below T5 m 44 #[vI (n.toInt32), vR (a1), vR (fa), vR (a3), vR (t1), vR (xs[i])] [(.int ((ss.getD i 0) + 1).toInt32), (.ref a3)] _
  refine Jvm.Free.XT.dup2 X5.here hx rfl (hb hby d11_44) rfl rfl rfl ?_
  show own_St p e below T5 m 45 #[vI (n.toInt32), vR (a1), vR (fa), vR (a3), vR (t1), vR (xs[i])] [(.int ((ss.getD i 0) + 1).toInt32), (.ref a3), (.int ((ss.getD i 0) + 1).toInt32), (.ref a3)] _
  refine X5.iaload hx (j := ((ss.getD i 0) + 1).toInt32) (v := (.int (own_cn (ss.take i) ((ss.getD i 0) + 1)).toInt32)) (by rw [e5]; exact Ar6.1) (State.isArrayOf_alike hZ.alike Ar6.2.1) Ar6.2.2 hin6 hat6 (g := (mkF m 45 #[vI (n.toInt32), vR (a1), vR (fa), vR (a3), vR (t1), vR (xs[i])] [(.int ((ss.getD i 0) + 1).toInt32), (.ref a3), (.int ((ss.getD i 0) + 1).toInt32), (.ref a3)])) rfl rfl (hb hby d11_45) _ ?_
  show own_St p e below T5 m 46 #[vI (n.toInt32), vR (a1), vR (fa), vR (a3), vR (t1), vR (xs[i])] [(.int (own_cn (ss.take i) ((ss.getD i 0) + 1)).toInt32), (.int ((ss.getD i 0) + 1).toInt32), (.ref a3)] _
  refine XS.iconst X5.here hx rfl (hb hby d11_46) ?_
  refine XS.iadd X5.here hx rfl (hb hby d11_47) rfl ?_
  show own_St p e below T5 m 48 #[vI (n.toInt32), vR (a1), vR (fa), vR (a3), vR (t1), vR (xs[i])] [(.int ((own_cn (ss.take i) ((ss.getD i 0) + 1)).toInt32 + (1 : Int32))), (.int ((ss.getD i 0) + 1).toInt32), (.ref a3)] _
  rw [own_ts hc9]
  refine st8 _ ?_
  show own_St p e below T8 m 49 #[vI (n.toInt32), vR (a1), vR (fa), vR (a3), vR (t1), vR (xs[i])] [] _
  refine XS.goto X8.here hx rfl (pc0 := 49) (pc' := 14) rfl (hb hby d11_49) (by decide) (by decide) ?_
  exact kt
theorem t_fee {p : Program} {l : Launch} {e : Env} {s : State} {m : MethodId} {args : Array Value} {below : List Frame} {meth : Method} {c : Code} {T0 : State} {locs : List Loc} {Z : State} {a0 : Array Value} {h0 : Heap} {n0 : Nat} (s_D s_L s_LE s_E s_Z mr : Addr) (kd_ kl_ : ClassId) (a1 fa a3 t1 : Addr) (xs : List Addr) (n : Nat) (s5 : Slot)
    (X0 : Stand p l e (own_rm_ 3 2 9 39) s m args below meth c T0 locs 2 9) (hx : p.tables.exec = Jvm.exec) (hZ : Z.Warmed39 s.vm) (hw : own_HW a0 Z) (hby : c.code = prog_15_method_2_code) (hml : c.maxLocals = 6) (hown : s.vm.findClass "com/example/hodos/hodos/analysis/Graph" = some m.cls) (e0 : T0.heap = h0) (N0 : Fr n0 locs) (O0 : Old Z n0 h0) (G : own_Ctx Z Z.heap s_D s_L s_LE s_E s_Z mr kd_ kl_) (It : own_It Z h0 t1 a1 xs.length xs.length) (hn4 : xs.length ≤ 4) :
    ∃ (T' : State) (h' : Heap) (L' : List Loc), Stand p l e (own_rm_ 3 2 9 39) s m args below meth c T' L' 2 9 ∧ T'.heap = h' ∧ Fr n0 L' ∧ Old Z n0 h' ∧ (h' = h0) ∧ ∀ target, Steps p.tables e below (T'.setTop (mkF m 52 #[vI (n.toInt32), vR (a1), vR (fa), vR (a3), vR (t1), s5] [])) target → Steps p.tables e below (T0.setTop (mkF m 14 #[vI (n.toInt32), vR (a1), vR (fa), vR (a3), vR (t1), s5] [])) target := by
  have G0 := G
  obtain ⟨cq1, kq1, q1a, q1b, q1c⟩ := isOf hZ e0 It.1
  obtain ⟨_, _, ⟨T1, L1, k1, n1⟩, -, X1, ⟨Lc1, hQ1, l1, y1, z1⟩, st1⟩ := X0.interfaceBack hx (xi := Y40_) (y := Y36_) hown (mvT hZ (oW hw 126 rfl)) (mvT hZ (oW hw 127 rfl)) (mvT hZ (oW hw 128 rfl)) (mvT hZ (oW hw 129 rfl)) (mvT hZ (oW hw 130 rfl)) (mvT hZ (oW hw 131 rfl)) (mvT hZ (oW hw 132 rfl)) (mvT hZ (oW hw 133 rfl)) (by decide) (backOf (W := 0) (r_hn0 l Z a0 hw [] s_D s_L s_LE s_E s_Z mr kd_ kl_ h0 n0 O0 G0 t1 a1 xs.length xs.length It rfl hn4) hZ (oW hw 134 rfl) (oW hw 103 rfl) (by decide) (by decide)) q1a q1b q1c (g := (mkF m 16 #[vI (n.toInt32), vR (a1), vR (fa), vR (a3), vR (t1), s5] [(.ref t1)])) rfl (by rw [hml]; rfl) (Steps.refl _) (argsL := []) (rest := []) (lenOf pd_13 rfl) rfl (by exact Nat.le_of_eq rfl) (hb hby d11_16) (fun _ _ => ⟨rfl, e0, (by decide : 2 + 0 ≤ _), (by decide : 9 + 0 ≤ _)⟩)
  dsimp only [Pt.U, Pt.locs, Pt.cells, Pt.slots] at X1 l1 y1 z1 st1 hQ1
  subst l1 y1 z1
  obtain ⟨rfl, N1q, e1⟩ := hQ1
  have N1 := Fr.app N0 N1q
  refine ⟨T1, h0, _, X1, e1, N1, O0, rfl, fun target kt => ?_⟩
  show own_St p e below T0 m 14 #[vI (n.toInt32), vR (a1), vR (fa), vR (a3), vR (t1), s5] [] _
  refine XS.aload X0.here hx rfl (hb hby d11_14) rfl rfl ?_
  refine st1.trans ?_
  show own_St p e below T1 m 21 #[vI (n.toInt32), vR (a1), vR (fa), vR (a3), vR (t1), s5] [(.int (0 : Int32))] _
  refine XS.ifYes X1.here hx rfl (pc0 := 21) (pc' := 52) rfl (hb hby d11_21) rfl ((if0 _ _).trans (teq (by decide : (0 : Int32) = (0 : Int32))).1) (by decide) (by decide) ?_
  exact kt
theorem own_fe1 {p : Program} {l : Launch} {e : Env} {s : State} {m : MethodId} {args : Array Value} {below : List Frame} {meth : Method} {c : Code} {Z : State} {a0 : Array Value} {n0 : Nat} (s_D s_L s_LE s_E s_Z mr : Addr) (kd_ kl_ : ClassId) (a1 fa a3 t1 : Addr) (fk k3 : ClassId) (xs : List Addr) (ss : List Nat) (n : Nat) (hp_ : Heap)
    (hx : p.tables.exec = Jvm.exec) (hZ : Z.Warmed39 s.vm) (hw : own_HW a0 Z) (hby : c.code = prog_15_method_2_code) (hml : c.maxLocals = 6) (hown : s.vm.findClass "com/example/hodos/hodos/analysis/Graph" = some m.cls) (G : own_Ctx Z Z.heap s_D s_L s_LE s_E s_Z mr kd_ kl_) (gt : n0 ≤ t1) (gb : hp_.size ≤ t1) (ga : n0 ≤ a3) (gc : hp_.size ≤ a3) (hne : a3 ≠ t1) (I : own_IL Z hp_ a1 s_E xs) (Ar : own_Arcs Z hp_ xs ss) (hn4 : xs.length ≤ 4) (hN : n ≤ 4) (hss : ∀ j, j < ss.length → ss.getD j 0 < n) (Fn : own_Fn Z "com/example/hodos/hodos/analysis/Course" own_sg fa fk) :
    ∀ (k i : Nat) (T0 : State) (h0 : Heap) (locs : List Loc) (s5 : Slot), i + k = xs.length → One s5 → Stand p l e (own_rm_ 3 2 9 39) s m args below meth c T0 locs 2 9 → T0.heap = h0 → Fr n0 locs → Old Z n0 h0 → Keep hp_ h0 [] → own_It Z h0 t1 a1 xs.length i → Arv Z h0 a3 k3 .int (n + 1).toInt32 (own_c1 n (ss.take i)) (.int (0 : Int32)) →
    ∃ (T' : State) (h' : Heap) (L' : List Loc) (s5' : Slot), Stand p l e (own_rm_ 3 2 9 39) s m args below meth c T' L' 2 9 ∧ T'.heap = h' ∧ Fr n0 L' ∧ Old Z n0 h' ∧ Keep hp_ h' [] ∧ Arv Z h' a3 k3 .int (n + 1).toInt32 (own_c1 n ss) (.int (0 : Int32)) ∧
      ∀ target, Steps p.tables e below (T'.setTop (mkF m 52 #[vI (n.toInt32), vR (a1), vR (fa), vR (a3), vR (t1), s5'] [])) target → Steps p.tables e below (T0.setTop (mkF m 14 #[vI (n.toInt32), vR (a1), vR (fa), vR (a3), vR (t1), s5] [])) target := by
  intro k
  induction k with
  | zero =>
    intro i T0 h0 locs s5 hi hs5 X0 e0 N0 O0 Kb It Va
    obtain rfl : i = xs.length := by omega
    obtain ⟨T1, h1, L1, X1, e1, N1, O1, q1, st⟩ := t_fee s_D s_L s_LE s_E s_Z mr kd_ kl_ a1 fa a3 t1 xs n s5 X0 hx hZ hw hby hml hown e0 N0 O0 G It hn4
    subst q1
    rw [show ss.take xs.length = ss by rw [← Ar.1, List.take_length]] at Va
    exact ⟨T1, _, L1, s5, X1, e1, N1, O1, Kb, Va, st⟩
  | succ k ih =>
    intro i T0 h0 locs s5 hi hs5 X0 e0 N0 O0 Kb It Va
    have hlt : i < xs.length := by omega
    obtain ⟨T1, h1, L1, X1, e1, N1, O1, K1, I1, V1, st1⟩ := t_fet s_D s_L s_LE s_E s_Z mr kd_ kl_ a1 fa a3 t1 fk k3 xs ss n i hp_ s5 X0 hx hZ hw hby hml hown e0 N0 O0 G hs5 It Kb Va hlt gt gb ga gc hne I Ar hn4 hN hss Fn
    obtain ⟨T', h', L', s5', X', e', N', O', K', V', st'⟩ := ih (i + 1) T1 h1 L1 (vR (xs[i])) (by omega) (One.val (w := .ref xs[i]) rfl) X1 e1 N1 O1 K1 I1 V1
    exact ⟨T', h', L', s5', X', e', N', O', K', V', fun target kt => st1 _ (st' _ kt)⟩

theorem d11_55 : D11_ 55 = .ok (.iload 4, 2) := by decide +kernel
theorem d11_57 : D11_ 57 = .ok (.iload_n 0, 1) := by decide +kernel
theorem d11_58 : D11_ 58 = .ok (.if_icmp .ge 22, 3) := by decide +kernel
theorem d11_61 : D11_ 61 = .ok (.aload_n 3, 1) := by decide +kernel
theorem d11_62 : D11_ 62 = .ok (.iload 4, 2) := by decide +kernel
theorem d11_64 : D11_ 64 = .ok (.iconst 1, 1) := by decide +kernel
theorem d11_65 : D11_ 65 = .ok (.iadd, 1) := by decide +kernel
theorem d11_66 : D11_ 66 = .ok (.dup2, 1) := by decide +kernel
theorem d11_67 : D11_ 67 = .ok (.iaload, 1) := by decide +kernel
theorem d11_68 : D11_ 68 = .ok (.aload_n 3, 1) := by decide +kernel
theorem d11_69 : D11_ 69 = .ok (.iload 4, 2) := by decide +kernel
theorem d11_71 : D11_ 71 = .ok (.iaload, 1) := by decide +kernel
theorem d11_72 : D11_ 72 = .ok (.iadd, 1) := by decide +kernel
theorem d11_73 : D11_ 73 = .ok (.iastore, 1) := by decide +kernel
theorem d11_74 : D11_ 74 = .ok (.iinc 4 1, 3) := by decide +kernel
theorem d11_77 : D11_ 77 = .ok (.goto (-22), 3) := by decide +kernel
theorem t_f2t {p : Program} {l : Launch} {e : Env} {R : Room} {s : State} {m : MethodId} {args : Array Value} {below : List Frame} {meth : Method} {c : Code} {T0 : State} {locs : List Loc} {cells slots : Nat} {Z : State} {a0 : Array Value} {h0 : Heap} {n0 : Nat} (s_D s_L s_LE s_E s_Z mr : Addr) (kd_ kl_ : ClassId) (a1 fa a3 : Addr) (k3 : ClassId) (ss : List Nat) (n i : Nat) (s5 : Slot)
    (X0 : Stand p l e R s m args below meth c T0 locs cells slots) (hx : p.tables.exec = Jvm.exec) (hZ : Z.Warmed39 s.vm) (hw : own_HW a0 Z) (hby : c.code = prog_15_method_2_code) (hml : c.maxLocals = 6) (hown : s.vm.findClass "com/example/hodos/hodos/analysis/Graph" = some m.cls) (e0 : T0.heap = h0) (N0 : Fr n0 locs) (O0 : Old Z n0 h0) (G : own_Ctx Z Z.heap s_D s_L s_LE s_E s_Z mr kd_ kl_) (Va : Arv Z h0 a3 k3 .int (n + 1).toInt32 (own_c2 n ss i) (.int (0 : Int32))) (ga : n0 ≤ a3) (hi : i < n) (hN : n ≤ 4) (hL4 : ss.length ≤ 4) :
    ∃ (T' : State) (h' : Heap) (L' : List Loc), Stand p l e R s m args below meth c T' L' cells slots ∧ T'.heap = h' ∧ Fr n0 L' ∧ Old Z n0 h' ∧ Keep h0 h' [a3] ∧ (Arv Z h' a3 k3 .int (n + 1).toInt32 (own_c2 n ss (i + 1)) (.int (0 : Int32))) ∧ ∀ target, Steps p.tables e below (T'.setTop (mkF m 55 #[vI (n.toInt32), vR (a1), vR (fa), vR (a3), vI ((i.toInt32 + (1 : Int32))), s5] [])) target → Steps p.tables e below (T0.setTop (mkF m 55 #[vI (n.toInt32), vR (a1), vR (fa), vR (a3), vI (i.toInt32), s5] [])) target := by
  have G0 := G
  have vc1 := Va
  obtain ⟨cl1, Ar1, qk1, S1, Nn1, Hs1, Gf1⟩ := vc1
  have hin1 : ¬ ((i + 1).toInt32 < 0 ∨ cl1.slots.size ≤ ((i + 1).toInt32).toNatClampNeg) := inb_of S1 (own_in5 hi hN)
  have hat1 : cl1.slots[((i + 1).toInt32).toNatClampNeg]? = some (.int (own_cn ss (i + 1)).toInt32) := Has.at Hs1 hin1 (by rw [(own_ti (own_k5 (Nat.le_trans (Nat.le_of_lt hi) hN))).1]; exact own_c2_at1 ss hi)
  have vc2 := Va
  obtain ⟨cl2, Ar2, qk2, S2, Nn2, Hs2, Gf2⟩ := vc2
  have hin2 : ¬ (i.toInt32 < 0 ∨ cl2.slots.size ≤ (i.toInt32).toNatClampNeg) := inb_of S2 ⟨(own_ti (own_k4 hi hN)).2.1, own_tl (Nat.lt_succ_of_lt hi) (own_k5 hN)⟩
  have hat2 : cl2.slots[(i.toInt32).toNatClampNeg]? = some (.int (own_ct ss i).toInt32) := Has.at Hs2 hin2 (by rw [(own_ti (own_k4 hi hN)).1]; exact own_c2_at0 ss hi)
  have vc3 := Va
  obtain ⟨cl3, Ar3, qk3, S3, Nn3, Hs3, Gf3⟩ := vc3
  have hin3 : ¬ ((i + 1).toInt32 < 0 ∨ cl3.slots.size ≤ ((i + 1).toInt32).toNatClampNeg) := inb_of S3 (own_in5 hi hN)
  obtain ⟨T4, h4, X4, e4, W4, st4⟩ := stI X0 hx hZ e0 Ar3 (j := (i + 1).toInt32) hin3 (g := (mkF m 73 #[vI (n.toInt32), vR (a1), vR (fa), vR (a3), vI (i.toInt32), s5] [(.int (own_cn ss (i + 1) + own_ct ss i).toInt32), (.int (i + 1).toInt32), (.ref a3)])) rfl rfl (hb hby d11_73)
  have O4 := O0.wr W4 ga
  have K4 : Keep h0 h4 [a3] := (Keep.refl h0 [a3]).wr W4 (Or.inl (List.mem_of_getElem? (i := 0) rfl))
  have N4 := Fr.snoc X4 N0 ga
  have f5 : Arv Z h4 a3 k3 .int (n + 1).toInt32 (List.set (own_c2 n ss i) ((i + 1).toInt32).toNatClampNeg (.int (own_cn ss (i + 1) + own_ct ss i).toInt32)) (.int (0 : Int32)) := Arv.set Ar3 qk3 S3 Nn3 Hs3 Gf3 rfl W4 ((i + 1).toInt32).toNatClampNeg rfl (by rw [(own_ti (own_k5 (Nat.le_trans (Nat.le_of_lt hi) hN))).1, own_c2_len]; omega)
  refine ⟨T4, h4, _, X4, e4, N4, O4, K4, (by have q := f5; rw [(own_ti (own_k5 (Nat.le_trans (Nat.le_of_lt hi) hN))).1, own_c2_set ss hi] at q; exact q), fun target kt => ?_⟩
  show own_St p e below T0 m 55 #[vI (n.toInt32), vR (a1), vR (fa), vR (a3), vI (i.toInt32), s5] [] _
  refine XS.iload X0.here hx rfl (hb hby d11_55) rfl ?_
  refine XS.iloadN X0.here hx rfl (hb hby d11_57) rfl ?_
  refine XS.icmpNo X0.here hx rfl (hb hby d11_58) rfl (tlt (own_tl hi (own_k hN) : i.toInt32 < n.toInt32)).2.1 ?_
  refine XS.aloadN X0.here hx rfl (hb hby d11_61) rfl rfl ?_
  refine XS.iload X0.here hx rfl (hb hby d11_62) rfl ?_
  refine XS.iconst X0.here hx rfl (hb hby d11_64) ?_
  refine XS.iadd X0.here hx rfl (hb hby d11_65) rfl ?_
  show own_St p e below T0 m 66 #[vI (n.toInt32), vR (a1), vR (fa), vR (a3), vI (i.toInt32), s5] [(.int (i.toInt32 + (1 : Int32))), (.ref a3)] _
  rw [own_ts (own_k4 hi hN)]
  show own_St p e below T0 m 66 #[vI (n.toInt32), vR (a1), vR (fa), vR (a3), vI (i.toInt32), s5] [(.int (i + 1).toInt32), (.ref a3)] _
  refine Jvm.Free.XT.dup2 X0.here hx rfl (hb hby d11_66) rfl rfl rfl ?_
  show own_St p e below T0 m 67 #[vI (n.toInt32), vR (a1), vR (fa), vR (a3), vI (i.toInt32), s5] [(.int (i + 1).toInt32), (.ref a3), (.int (i + 1).toInt32), (.ref a3)] _
  refine X0.iaload hx (j := (i + 1).toInt32) (v := (.int (own_cn ss (i + 1)).toInt32)) (by rw [e0]; exact Ar1.1) (State.isArrayOf_alike hZ.alike Ar1.2.1) Ar1.2.2 hin1 hat1 (g := (mkF m 67 #[vI (n.toInt32), vR (a1), vR (fa), vR (a3), vI (i.toInt32), s5] [(.int (i + 1).toInt32), (.ref a3), (.int (i + 1).toInt32), (.ref a3)])) rfl rfl (hb hby d11_67) _ ?_
  show own_St p e below T0 m 68 #[vI (n.toInt32), vR (a1), vR (fa), vR (a3), vI (i.toInt32), s5] [(.int (own_cn ss (i + 1)).toInt32), (.int (i + 1).toInt32), (.ref a3)] _
  refine XS.aloadN X0.here hx rfl (hb hby d11_68) rfl rfl ?_
  refine XS.iload X0.here hx rfl (hb hby d11_69) rfl ?_
  show own_St p e below T0 m 71 #[vI (n.toInt32), vR (a1), vR (fa), vR (a3), vI (i.toInt32), s5] [(.int i.toInt32), (.ref a3), (.int (own_cn ss (i + 1)).toInt32), (.int (i + 1).toInt32), (.ref a3)] _
  refine X0.iaload hx (j := i.toInt32) (v := (.int (own_ct ss i).toInt32)) (by rw [e0]; exact Ar2.1) (State.isArrayOf_alike hZ.alike Ar2.2.1) Ar2.2.2 hin2 hat2 (g := (mkF m 71 #[vI (n.toInt32), vR (a1), vR (fa), vR (a3), vI (i.toInt32), s5] [(.int i.toInt32), (.ref a3), (.int (own_cn ss (i + 1)).toInt32), (.int (i + 1).toInt32), (.ref a3)])) rfl rfl (hb hby d11_71) _ ?_
  show own_St p e below T0 m 72 #[vI (n.toInt32), vR (a1), vR (fa), vR (a3), vI (i.toInt32), s5] [(.int (own_ct ss i).toInt32), (.int (own_cn ss (i + 1)).toInt32), (.int (i + 1).toInt32), (.ref a3)] _
  refine XS.iadd X0.here hx rfl (hb hby d11_72) rfl ?_
  show own_St p e below T0 m 73 #[vI (n.toInt32), vR (a1), vR (fa), vR (a3), vI (i.toInt32), s5] [(.int ((own_cn ss (i + 1)).toInt32 + (own_ct ss i).toInt32)), (.int (i + 1).toInt32), (.ref a3)] _
  rw [own_add (own_hun (own_cn_le ss (i + 1)) hL4) (own_hun (own_ct_le ss i) hL4)]
  refine st4 _ ?_
  show own_St p e below T4 m 74 #[vI (n.toInt32), vR (a1), vR (fa), vR (a3), vI (i.toInt32), s5] [] _
  refine XS.iinc X4.here hx rfl (hb hby d11_74) rfl (l' := #[vI (n.toInt32), vR (a1), vR (fa), vR (a3), vI ((i.toInt32 + (1 : Int32))), s5]) rfl ?_
  show own_St p e below T4 m 77 #[vI (n.toInt32), vR (a1), vR (fa), vR (a3), vI ((i.toInt32 + (1 : Int32))), s5] [] _
  refine XS.goto X4.here hx rfl (pc0 := 77) (pc' := 55) rfl (hb hby d11_77) (by decide) (by decide) ?_
  exact kt
theorem t_f2e {p : Program} {l : Launch} {e : Env} {R : Room} {s : State} {m : MethodId} {args : Array Value} {below : List Frame} {meth : Method} {c : Code} {T0 : State} {locs : List Loc} {cells slots : Nat} {Z : State} {a0 : Array Value} {h0 : Heap} {n0 : Nat} (s_D s_L s_LE s_E s_Z mr : Addr) (kd_ kl_ : ClassId) (a1 fa a3 : Addr) (z1 : Int32) (s5 : Slot)
    (X0 : Stand p l e R s m args below meth c T0 locs cells slots) (hx : p.tables.exec = Jvm.exec) (hZ : Z.Warmed39 s.vm) (hw : own_HW a0 Z) (hby : c.code = prog_15_method_2_code) (hml : c.maxLocals = 6) (hown : s.vm.findClass "com/example/hodos/hodos/analysis/Graph" = some m.cls) (e0 : T0.heap = h0) (O0 : Old Z n0 h0) (G : own_Ctx Z Z.heap s_D s_L s_LE s_E s_Z mr kd_ kl_)  :
    ∃ T' : State, Stand p l e R s m args below meth c T' locs cells slots ∧ T'.heap = h0 ∧ ∀ target, Steps p.tables e below (T'.setTop (mkF m 80 #[vI (z1), vR (a1), vR (fa), vR (a3), vI (z1), s5] [])) target → Steps p.tables e below (T0.setTop (mkF m 55 #[vI (z1), vR (a1), vR (fa), vR (a3), vI (z1), s5] [])) target := by
  have G0 := G
  refine ⟨T0, X0, e0, fun target kt => ?_⟩
  show own_St p e below T0 m 55 #[vI (z1), vR (a1), vR (fa), vR (a3), vI (z1), s5] [] _
  refine XS.iload X0.here hx rfl (hb hby d11_55) rfl ?_
  refine XS.iloadN X0.here hx rfl (hb hby d11_57) rfl ?_
  refine XS.icmpYes X0.here hx rfl (pc0 := 58) (pc' := 80) rfl (hb hby d11_58) rfl (flt (own_irr _ : ¬ (z1 < z1))).2.1 (by decide) (by decide) ?_
  exact kt
theorem own_fe2 {p : Program} {l : Launch} {e : Env} {s : State} {m : MethodId} {args : Array Value} {below : List Frame} {meth : Method} {c : Code} {Z : State} {a0 : Array Value} {n0 : Nat} {R : Room} {cells slots : Nat} (s_D s_L s_LE s_E s_Z mr : Addr) (kd_ kl_ : ClassId) (a1 fa a3 : Addr) (k3 : ClassId) (ss : List Nat) (n : Nat) (s5 : Slot)
    (hx : p.tables.exec = Jvm.exec) (hZ : Z.Warmed39 s.vm) (hw : own_HW a0 Z) (hby : c.code = prog_15_method_2_code) (hml : c.maxLocals = 6) (hown : s.vm.findClass "com/example/hodos/hodos/analysis/Graph" = some m.cls) (G : own_Ctx Z Z.heap s_D s_L s_LE s_E s_Z mr kd_ kl_) (ga : n0 ≤ a3) (hN : n ≤ 4) (hL4 : ss.length ≤ 4) :
    ∀ (k i : Nat) (T0 : State) (h0 : Heap) (locs : List Loc), i + k = n → Stand p l e R s m args below meth c T0 locs cells slots → T0.heap = h0 → Fr n0 locs → Old Z n0 h0 → Arv Z h0 a3 k3 .int (n + 1).toInt32 (own_c2 n ss i) (.int (0 : Int32)) →
    ∃ (T' : State) (h' : Heap) (L' : List Loc), Stand p l e R s m args below meth c T' L' cells slots ∧ T'.heap = h' ∧ Fr n0 L' ∧ Old Z n0 h' ∧ Keep h0 h' [a3] ∧ Arv Z h' a3 k3 .int (n + 1).toInt32 (own_c2 n ss n) (.int (0 : Int32)) ∧
      ∀ target, Steps p.tables e below (T'.setTop (mkF m 80 #[vI (n.toInt32), vR (a1), vR (fa), vR (a3), vI (n.toInt32), s5] [])) target → Steps p.tables e below (T0.setTop (mkF m 55 #[vI (n.toInt32), vR (a1), vR (fa), vR (a3), vI (i.toInt32), s5] [])) target := by
  intro k
  induction k with
  | zero =>
    intro i T0 h0 locs hi X0 e0 N0 O0 V
    obtain rfl : i = n := by omega
    obtain ⟨T1, X1, e1, st⟩ := t_f2e s_D s_L s_LE s_E s_Z mr kd_ kl_ a1 fa a3 i.toInt32 s5 X0 hx hZ hw hby hml hown e0 O0 G
    exact ⟨T1, h0, locs, X1, e1, N0, O0, Keep.refl _ _, V, st⟩
  | succ k ih =>
    intro i T0 h0 locs hi X0 e0 N0 O0 V
    have hlt : i < n := by omega
    obtain ⟨T1, h1, L1, X1, e1, N1, O1, K1, V1, st1⟩ := t_f2t s_D s_L s_LE s_E s_Z mr kd_ kl_ a1 fa a3 k3 ss n i s5 X0 hx hZ hw hby hml hown e0 N0 O0 G V ga hlt hN hL4
    rw [own_ts (by omega)] at st1
    obtain ⟨T', h', L', X', e', N', O', K', V', st'⟩ := ih (i + 1) T1 h1 L1 (by omega) X1 e1 N1 O1 V1
    exact ⟨T', h', L', X', e', N', O', K1.trans K' (allS (Or.inl (List.mem_singleton.mpr rfl)) all0), V', fun target kt => st1 _ (st' _ kt)⟩

theorem d11_0 : D11_ 0 = .ok (.iload_n 0, 1) := by decide +kernel
theorem d11_1 : D11_ 1 = .ok (.iconst 1, 1) := by decide +kernel
theorem d11_2 : D11_ 2 = .ok (.iadd, 1) := by decide +kernel
theorem d11_3 : D11_ 3 = .ok (.newarray .int, 2) := by decide +kernel
theorem d11_5 : D11_ 5 = .ok (.astore_n 3, 1) := by decide +kernel
theorem d11_6 : D11_ 6 = .ok (.aload_n 1, 1) := by decide +kernel
theorem d11_7 : D11_ 7 = .ok (.invokeinterface 39 1, 5) := by decide +kernel
theorem pd_21 : parseMethodDescriptor "()Ljava/util/Iterator;" = some ⟨[], some (.object "java/util/Iterator")⟩ := by decide +kernel
theorem d11_12 : D11_ 12 = .ok (.astore 4, 2) := by decide +kernel
theorem d11_52 : D11_ 52 = .ok (.iconst 0, 1) := by decide +kernel
theorem d11_53 : D11_ 53 = .ok (.istore 4, 2) := by decide +kernel
theorem d11_80 : D11_ 80 = .ok (.aload_n 3, 1) := by decide +kernel
theorem d11_81 : D11_ 81 = .ok (.areturn, 1) := by decide +kernel
theorem ef_11_36 (m : MethodId) (x0 : Int32) (x1 : Addr) (x2 : Addr) : entryFrame m #[(.int x0), (.ref x1), (.ref x2)] 6 = mkF m 0 #[vI (x0), vR (x1), vR (x2), .unset, .unset, .unset] [] := by first | (simp [entryFrame, mkF, argsToLocals, Value.category]; done) | rfl
theorem pn_14 : plainName "com/example/hodos/hodos/analysis/Graph" = true := by first | (simp [plainName, overriddenIn]; done) | decide +kernel
theorem r_feN (l Z a0) (hw : own_HW a0 Z) (ws s_D s_L s_LE s_E s_Z mr kd_ kl_ h0 n0) (O0 : Old Z n0 h0) (G : own_Ctx Z Z.heap s_D s_L s_LE s_E s_Z mr kd_ kl_) (n : Nat) (fa : Addr) (fk : ClassId) (ss : List Nat) (a1 a2 : Addr) (k2 : ClassId) (xs : List Addr) (E1_ : Exa Z h0 a1 "java/util/ImmutableCollections$ListN") (F1 : Fld Z h0 a1 "java/util/ImmutableCollections$ListN" "elements" "[Ljava/lang/Object;" (.ref a2)) (Va : Arv Z h0 a2 k2 (.object "java/lang/Object") xs.length.toInt32 (xs.map Value.ref) .null) (hn : xs.length ≤ 4) (Ar : own_Arcs Z h0 xs ss) (hN : n ≤ 4) (hss : ∀ j, j < ss.length → ss.getD j 0 < n) (Fn : own_Fn Z "com/example/hodos/hodos/analysis/Course" own_sg fa fk) :
    oM l Y43_ prog_15_method_2_code 6 (some (.array .int)) ws (own_rm_ 3 2 9 39) #[(.int n.toInt32), (.ref a1), (.ref fa)] Z h0 n0 (own_QA Z .int (n + 1).toInt32 (own_c2 n ss n)) := by
  have G0 := G
  obtain ⟨S_D, E_D, V_D, S_L, E_L, F_L, V_L, S_E, E_E, S_A, S_Z, E_Z, M_A⟩ := G
  refine MetFree.of_bodySF (plainFor_of_name pn_14) hisR ?_
  intro p e s m args below meth c s₁ Bd hml0 hP hK
  obtain ⟨rfl, hZ, hh⟩ := hP
  have hx := Bd.exec
  have hby := Bd.bytes
  have hml : c.maxLocals = 6 := hml0
  have hown := findClass_of_methodNamed Bd.named
  have X0 : Stand p l e (own_rm_ 3 2 9 39) s m #[(.int n.toInt32), (.ref a1), (.ref fa)] below meth c s₁ [] 0 0 := Stand.of_body Bd
  have e0 : s₁.heap = h0 := by rw [← hh, Bd.state]; rfl
  have N0 := Fr.nil n0
  have pre0 := own_pre (tb := p.tables) (e := e) (below := below) (T := s₁) (ef_11_36 m n.toInt32 a1 fa)
  have hn4 : xs.length ≤ 4 := hn
  have hL4 : ss.length ≤ 4 := by rw [Ar.1]; exact hn4
  obtain ⟨T1, h1, ka1, X1, e1, E1, A1, st1⟩ := newP X0 hx hZ (oW hw 90 rfl) e0 (g := (mkF m 3 #[vI (n.toInt32), vR (a1), vR (fa), .unset, .unset, .unset] [(.int (n + 1).toInt32)])) rfl (hb hby d11_3) rfl (own_ti (own_k5 hN)).2.1 (cap := 5) (by rw [(own_ti (own_k5 hN)).1]; omega) (by decide) (by decide) (by decide)
  obtain ⟨b1, g1⟩ := oZ h0.size
  have g_b1 : n0 ≤ b1 := Nat.le_trans (O0.1 ▸ O0.2.1) (Nat.le_of_eq g1.symm)
  have sz_b1 : h0.size ≤ b1 := Nat.le_trans (Keep.refl h0 []).1 (Nat.le_of_eq g1.symm)
  rw [← g1] at A1 st1
  have f2 := E1_.ext E1
  have f3 := F1.ext E1
  have f4 := Va.ext E1
  have O1 := O0.ext E1
  have K1 : Keep h0 h1 [] := (Keep.refl h0 []).ext E1
  have V1 : Arv Z h1 b1 ka1 .int (n + 1).toInt32 (List.replicate (n + 1) (.int (0 : Int32))) (.int (0 : Int32)) := (Arv.new A1 (own_ti (own_k5 hN)).2.1).pad (pad_rep [] (.int (0 : Int32)) (n + 1))
  obtain ⟨cq5, kq5, q5a, q5b, q5c⟩ := isOf hZ e1 f2
  obtain ⟨_, _, ⟨T5, L5, k5, n5⟩, -, X5, ⟨Lc5, hQ5, l5, y5, z5⟩, st5⟩ := X1.interfaceBack hx (xi := Y44_) (y := Y34_) hown (mvT hZ (oW hw 91 rfl)) (mvT hZ (oW hw 92 rfl)) (mvT hZ (oW hw 93 rfl)) (mvT hZ (oW hw 94 rfl)) (mvT hZ (oW hw 95 rfl)) (mvT hZ (oW hw 96 rfl)) (mvT hZ (oW hw 97 rfl)) (mvT hZ (oW hw 98 rfl)) (by decide) (backOf (W := 0) (r_itN l Z a0 hw [] s_D s_L s_LE s_E s_Z mr kd_ kl_ h1 n0 O1 G0 a1 a2 k2 xs f2 f3 f4 hn) hZ (oW hw 100 rfl) (oW hw 99 rfl) (by decide) (by decide)) q5a q5b q5c (g := (mkF m 7 #[vI (n.toInt32), vR (a1), vR (fa), vR (b1), .unset, .unset] [(.ref a1)])) rfl (by rw [hml]; rfl) (Steps.refl _) (argsL := []) (rest := []) (lenOf pd_21 rfl) rfl (by exact Nat.le_of_eq rfl) (hb hby d11_7) (fun _ _ => ⟨rfl, e1, (by decide : 1 + 1 ≤ _), (by decide : 5 + 4 ≤ _)⟩)
  dsimp only [Pt.U, Pt.locs, Pt.cells, Pt.slots] at X5 l5 y5 z5 st5 hQ5
  subst l5 y5 z5
  obtain ⟨t5, rfl, N5q, Kq5, gt5, It5⟩ := hQ5
  have N5 := Fr.app N0 N5q
  have ne_b1_t5 := oL V1.lt gt5
  have g_t5 : n0 ≤ t5 := Nat.le_trans (O1.1 ▸ O1.2.1) gt5
  have sz_t5 : h0.size ≤ t5 := Nat.le_trans K1.1 gt5
  have f9 := V1.keep Kq5 (fun q => nomatch q)
  have O5 := O1.keep Kq5 all0
  have K5 : Keep h0 T5.heap [] := K1.trans Kq5 all0
  have va0 : Arv Z T5.heap b1 ka1 .int (n + 1).toInt32 (own_c1 n (ss.take 0)) (.int (0 : Int32)) := by rw [List.take_zero, own_c1_nil]; exact f9
  obtain ⟨T9, h9, L9, s59, X9, e9, N9, O9, K9, V9, st9⟩ := own_fe1 s_D s_L s_LE s_E s_Z mr kd_ kl_ a1 fa b1 t5 fk ka1 xs ss n h0 hx hZ hw hby hml hown G0 g_t5 sz_t5 g_b1 sz_b1 ne_b1_t5 (Or.inl ⟨E1_, a2, k2, F1, Va⟩) Ar hn4 hN hss Fn xs.length 0 _ _ _ .unset (Nat.zero_add _) One.u X5 rfl N5 O5 K5 It5 va0
  rw [own_c2_start] at V9
  obtain ⟨T7, h7, L7, X7, e7, N7, O7, K7, V7, st7⟩ := own_fe2 s_D s_L s_LE s_E s_Z mr kd_ kl_ a1 fa b1 ka1 ss n s59 hx hZ hw hby hml hown G0 g_b1 hN hL4 n 0 _ _ _ (Nat.zero_add _) X9 e9 N9 O9 V9
  have K7' : Keep h0 h7 [] := K9.trans K7 (allS (Or.inr sz_b1) all0)
  obtain ⟨fs, hr, hrun, hended, hW, hsame⟩ := X7.leave (v := some (.ref b1)) (oR Bd.returns)
  refine ⟨_, _, pre0 _ ?_, hrun, hended, _, _, rfl, ?_, ⟨_, rfl⟩, hW, hsame.mono (by decide) (by decide)⟩
  · show own_St p e below s₁ m 0 #[vI (n.toInt32), vR (a1), vR (fa), .unset, .unset, .unset] [] _
    refine XS.iloadN X0.here hx rfl (hb hby d11_0) rfl ?_
    refine XS.iconst X0.here hx rfl (hb hby d11_1) ?_
    refine XS.iadd X0.here hx rfl (hb hby d11_2) rfl ?_
    show own_St p e below s₁ m 3 #[vI (n.toInt32), vR (a1), vR (fa), .unset, .unset, .unset] [(.int (n.toInt32 + (1 : Int32)))] _
    rw [own_ts (own_k hN)]
    refine st1 _ ?_
    show own_St p e below T1 m 5 #[vI (n.toInt32), vR (a1), vR (fa), .unset, .unset, .unset] [(.ref b1)] _
    refine XS.astoreN X1.here hx rfl (hb hby d11_5) rfl rfl (l' := #[vI (n.toInt32), vR (a1), vR (fa), vR (b1), .unset, .unset]) rfl ?_
    refine XS.aloadN X1.here hx rfl (hb hby d11_6) rfl rfl ?_
    refine st5.trans ?_
    show own_St p e below T5 m 12 #[vI (n.toInt32), vR (a1), vR (fa), vR (b1), .unset, .unset] [(.ref t5)] _
    refine XS.astore X5.here hx rfl (hb hby d11_12) rfl rfl (l' := #[vI (n.toInt32), vR (a1), vR (fa), vR (b1), vR (t5), .unset]) rfl ?_
    refine st9 _ ?_
    refine XS.iconst X9.here hx rfl (hb hby d11_52) ?_
    refine XS.istore X9.here hx rfl (hb hby d11_53) rfl (l' := #[vI (n.toInt32), vR (a1), vR (fa), vR (b1), vI ((0 : Int32)), s59]) rfl ?_
    refine st7 _ ?_
    refine XS.aloadN X7.here hx rfl (hb hby d11_80) rfl rfl ?_
    show own_St p e below T7 m 81 #[vI (n.toInt32), vR (a1), vR (fa), vR (b1), vI (n.toInt32), s59] [(.ref b1)] _
    exact retOut X7 hx Bd.returns rfl (Or.inr (Or.inr (Or.inr (Or.inr ⟨rfl, rfl, rfl⟩)))) (hb hby d11_81) hr
  · show own_QA Z .int (n + 1).toInt32 (own_c2 n ss n) h0 n0 _ T7.heap _
    rw [e7]
    exact ⟨b1, ka1, rfl, N7, K7', sz_b1, V7⟩
theorem r_feA (l Z a0) (hw : own_HW a0 Z) (ws s_D s_L s_LE s_E s_Z mr kd_ kl_ h0 n0) (O0 : Old Z n0 h0) (G : own_Ctx Z Z.heap s_D s_L s_LE s_E s_Z mr kd_ kl_) (n : Nat) (fa : Addr) (fk : ClassId) (ss : List Nat) (a1 x_ : Addr) (E1_ : Exa Z h0 a1 "java/util/ImmutableCollections$List12") (F1 : Fld Z h0 a1 "java/util/ImmutableCollections$List12" "e0" "Ljava/lang/Object;" (.ref x_)) (F2 : Fld Z h0 a1 "java/util/ImmutableCollections$List12" "e1" "Ljava/lang/Object;" (.ref s_E)) (Ar : own_Arcs Z h0 [x_] ss) (hN : n ≤ 4) (hss : ∀ j, j < ss.length → ss.getD j 0 < n) (Fn : own_Fn Z "com/example/hodos/hodos/analysis/Course" own_sg fa fk) :
    oM l Y43_ prog_15_method_2_code 6 (some (.array .int)) ws (own_rm_ 3 2 9 39) #[(.int n.toInt32), (.ref a1), (.ref fa)] Z h0 n0 (own_QA Z .int (n + 1).toInt32 (own_c2 n ss n)) := by
  have G0 := G
  obtain ⟨S_D, E_D, V_D, S_L, E_L, F_L, V_L, S_E, E_E, S_A, S_Z, E_Z, M_A⟩ := G
  refine MetFree.of_bodySF (plainFor_of_name pn_14) hisR ?_
  intro p e s m args below meth c s₁ Bd hml0 hP hK
  obtain ⟨rfl, hZ, hh⟩ := hP
  have hx := Bd.exec
  have hby := Bd.bytes
  have hml : c.maxLocals = 6 := hml0
  have hown := findClass_of_methodNamed Bd.named
  have X0 : Stand p l e (own_rm_ 3 2 9 39) s m #[(.int n.toInt32), (.ref a1), (.ref fa)] below meth c s₁ [] 0 0 := Stand.of_body Bd
  have e0 : s₁.heap = h0 := by rw [← hh, Bd.state]; rfl
  have N0 := Fr.nil n0
  have pre0 := own_pre (tb := p.tables) (e := e) (below := below) (T := s₁) (ef_11_36 m n.toInt32 a1 fa)
  have hn4 : [x_].length ≤ 4 := Nat.le_of_ble_eq_true rfl
  have hL4 : ss.length ≤ 4 := by rw [Ar.1]; exact hn4
  obtain ⟨T1, h1, ka1, X1, e1, E1, A1, st1⟩ := newP X0 hx hZ (oW hw 90 rfl) e0 (g := (mkF m 3 #[vI (n.toInt32), vR (a1), vR (fa), .unset, .unset, .unset] [(.int (n + 1).toInt32)])) rfl (hb hby d11_3) rfl (own_ti (own_k5 hN)).2.1 (cap := 5) (by rw [(own_ti (own_k5 hN)).1]; omega) (by decide) (by decide) (by decide)
  obtain ⟨b1, g1⟩ := oZ h0.size
  have g_b1 : n0 ≤ b1 := Nat.le_trans (O0.1 ▸ O0.2.1) (Nat.le_of_eq g1.symm)
  have sz_b1 : h0.size ≤ b1 := Nat.le_trans (Keep.refl h0 []).1 (Nat.le_of_eq g1.symm)
  rw [← g1] at A1 st1
  have f2 := E1_.ext E1
  have f3 := F1.ext E1
  have f4 := F2.ext E1
  have O1 := O0.ext E1
  have K1 : Keep h0 h1 [] := (Keep.refl h0 []).ext E1
  have V1 : Arv Z h1 b1 ka1 .int (n + 1).toInt32 (List.replicate (n + 1) (.int (0 : Int32))) (.int (0 : Int32)) := (Arv.new A1 (own_ti (own_k5 hN)).2.1).pad (pad_rep [] (.int (0 : Int32)) (n + 1))
  obtain ⟨cq5, kq5, q5a, q5b, q5c⟩ := isOf hZ e1 f2
  obtain ⟨_, _, ⟨T5, L5, k5, n5⟩, -, X5, ⟨Lc5, hQ5, l5, y5, z5⟩, st5⟩ := X1.interfaceBack hx (xi := Y44_) (y := Y34_) hown (mvT hZ (oW hw 91 rfl)) (mvT hZ (oW hw 92 rfl)) (mvT hZ (oW hw 93 rfl)) (mvT hZ (oW hw 323 rfl)) (mvT hZ (oW hw 95 rfl)) (mvT hZ (oW hw 96 rfl)) (mvT hZ (oW hw 324 rfl)) (mvT hZ (oW hw 325 rfl)) (by decide) (backOf (W := 0) (r_itA l Z a0 hw [] s_D s_L s_LE s_E s_Z mr kd_ kl_ h1 n0 O1 G0 a1 x_ f2 f3 f4) hZ (oW hw 100 rfl) (oW hw 99 rfl) (by decide) (by decide)) q5a q5b q5c (g := (mkF m 7 #[vI (n.toInt32), vR (a1), vR (fa), vR (b1), .unset, .unset] [(.ref a1)])) rfl (by rw [hml]; rfl) (Steps.refl _) (argsL := []) (rest := []) (lenOf pd_21 rfl) rfl (by exact Nat.le_of_eq rfl) (hb hby d11_7) (fun _ _ => ⟨rfl, e1, (by decide : 1 + 1 ≤ _), (by decide : 5 + 4 ≤ _)⟩)
  dsimp only [Pt.U, Pt.locs, Pt.cells, Pt.slots] at X5 l5 y5 z5 st5 hQ5
  subst l5 y5 z5
  obtain ⟨t5, rfl, N5q, Kq5, gt5, It5⟩ := hQ5
  have N5 := Fr.app N0 N5q
  have ne_b1_t5 := oL V1.lt gt5
  have g_t5 : n0 ≤ t5 := Nat.le_trans (O1.1 ▸ O1.2.1) gt5
  have sz_t5 : h0.size ≤ t5 := Nat.le_trans K1.1 gt5
  have f9 := V1.keep Kq5 (fun q => nomatch q)
  have O5 := O1.keep Kq5 all0
  have K5 : Keep h0 T5.heap [] := K1.trans Kq5 all0
  have va0 : Arv Z T5.heap b1 ka1 .int (n + 1).toInt32 (own_c1 n (ss.take 0)) (.int (0 : Int32)) := by rw [List.take_zero, own_c1_nil]; exact f9
  obtain ⟨T9, h9, L9, s59, X9, e9, N9, O9, K9, V9, st9⟩ := own_fe1 s_D s_L s_LE s_E s_Z mr kd_ kl_ a1 fa b1 t5 fk ka1 [x_] ss n h0 hx hZ hw hby hml hown G0 g_t5 sz_t5 g_b1 sz_b1 ne_b1_t5 (Or.inr (Or.inl ⟨x_, rfl, E1_, F1, F2⟩)) Ar hn4 hN hss Fn [x_].length 0 _ _ _ .unset (Nat.zero_add _) One.u X5 rfl N5 O5 K5 It5 va0
  rw [own_c2_start] at V9
  obtain ⟨T7, h7, L7, X7, e7, N7, O7, K7, V7, st7⟩ := own_fe2 s_D s_L s_LE s_E s_Z mr kd_ kl_ a1 fa b1 ka1 ss n s59 hx hZ hw hby hml hown G0 g_b1 hN hL4 n 0 _ _ _ (Nat.zero_add _) X9 e9 N9 O9 V9
  have K7' : Keep h0 h7 [] := K9.trans K7 (allS (Or.inr sz_b1) all0)
  obtain ⟨fs, hr, hrun, hended, hW, hsame⟩ := X7.leave (v := some (.ref b1)) (oR Bd.returns)
  refine ⟨_, _, pre0 _ ?_, hrun, hended, _, _, rfl, ?_, ⟨_, rfl⟩, hW, hsame.mono (by decide) (by decide)⟩
  · show own_St p e below s₁ m 0 #[vI (n.toInt32), vR (a1), vR (fa), .unset, .unset, .unset] [] _
    refine XS.iloadN X0.here hx rfl (hb hby d11_0) rfl ?_
    refine XS.iconst X0.here hx rfl (hb hby d11_1) ?_
    refine XS.iadd X0.here hx rfl (hb hby d11_2) rfl ?_
    show own_St p e below s₁ m 3 #[vI (n.toInt32), vR (a1), vR (fa), .unset, .unset, .unset] [(.int (n.toInt32 + (1 : Int32)))] _
    rw [own_ts (own_k hN)]
    refine st1 _ ?_
    show own_St p e below T1 m 5 #[vI (n.toInt32), vR (a1), vR (fa), .unset, .unset, .unset] [(.ref b1)] _
    refine XS.astoreN X1.here hx rfl (hb hby d11_5) rfl rfl (l' := #[vI (n.toInt32), vR (a1), vR (fa), vR (b1), .unset, .unset]) rfl ?_
    refine XS.aloadN X1.here hx rfl (hb hby d11_6) rfl rfl ?_
    refine st5.trans ?_
    show own_St p e below T5 m 12 #[vI (n.toInt32), vR (a1), vR (fa), vR (b1), .unset, .unset] [(.ref t5)] _
    refine XS.astore X5.here hx rfl (hb hby d11_12) rfl rfl (l' := #[vI (n.toInt32), vR (a1), vR (fa), vR (b1), vR (t5), .unset]) rfl ?_
    refine st9 _ ?_
    refine XS.iconst X9.here hx rfl (hb hby d11_52) ?_
    refine XS.istore X9.here hx rfl (hb hby d11_53) rfl (l' := #[vI (n.toInt32), vR (a1), vR (fa), vR (b1), vI ((0 : Int32)), s59]) rfl ?_
    refine st7 _ ?_
    refine XS.aloadN X7.here hx rfl (hb hby d11_80) rfl rfl ?_
    show own_St p e below T7 m 81 #[vI (n.toInt32), vR (a1), vR (fa), vR (b1), vI (n.toInt32), s59] [(.ref b1)] _
    exact retOut X7 hx Bd.returns rfl (Or.inr (Or.inr (Or.inr (Or.inr ⟨rfl, rfl, rfl⟩)))) (hb hby d11_81) hr
  · show own_QA Z .int (n + 1).toInt32 (own_c2 n ss n) h0 n0 _ T7.heap _
    rw [e7]
    exact ⟨b1, ka1, rfl, N7, K7', sz_b1, V7⟩
theorem r_feB (l Z a0) (hw : own_HW a0 Z) (ws s_D s_L s_LE s_E s_Z mr kd_ kl_ h0 n0) (O0 : Old Z n0 h0) (G : own_Ctx Z Z.heap s_D s_L s_LE s_E s_Z mr kd_ kl_) (n : Nat) (fa : Addr) (fk : ClassId) (ss : List Nat) (a1 x_ y_ : Addr) (E1_ : Exa Z h0 a1 "java/util/ImmutableCollections$List12") (F1 : Fld Z h0 a1 "java/util/ImmutableCollections$List12" "e0" "Ljava/lang/Object;" (.ref x_)) (F2 : Fld Z h0 a1 "java/util/ImmutableCollections$List12" "e1" "Ljava/lang/Object;" (.ref y_)) (hyE : y_ ≠ s_E) (Ar : own_Arcs Z h0 [x_, y_] ss) (hN : n ≤ 4) (hss : ∀ j, j < ss.length → ss.getD j 0 < n) (Fn : own_Fn Z "com/example/hodos/hodos/analysis/Course" own_sg fa fk) :
    oM l Y43_ prog_15_method_2_code 6 (some (.array .int)) ws (own_rm_ 3 2 9 39) #[(.int n.toInt32), (.ref a1), (.ref fa)] Z h0 n0 (own_QA Z .int (n + 1).toInt32 (own_c2 n ss n)) := by
  have G0 := G
  obtain ⟨S_D, E_D, V_D, S_L, E_L, F_L, V_L, S_E, E_E, S_A, S_Z, E_Z, M_A⟩ := G
  refine MetFree.of_bodySF (plainFor_of_name pn_14) hisR ?_
  intro p e s m args below meth c s₁ Bd hml0 hP hK
  obtain ⟨rfl, hZ, hh⟩ := hP
  have hx := Bd.exec
  have hby := Bd.bytes
  have hml : c.maxLocals = 6 := hml0
  have hown := findClass_of_methodNamed Bd.named
  have X0 : Stand p l e (own_rm_ 3 2 9 39) s m #[(.int n.toInt32), (.ref a1), (.ref fa)] below meth c s₁ [] 0 0 := Stand.of_body Bd
  have e0 : s₁.heap = h0 := by rw [← hh, Bd.state]; rfl
  have N0 := Fr.nil n0
  have pre0 := own_pre (tb := p.tables) (e := e) (below := below) (T := s₁) (ef_11_36 m n.toInt32 a1 fa)
  have hn4 : [x_, y_].length ≤ 4 := Nat.le_of_ble_eq_true rfl
  have hL4 : ss.length ≤ 4 := by rw [Ar.1]; exact hn4
  obtain ⟨T1, h1, ka1, X1, e1, E1, A1, st1⟩ := newP X0 hx hZ (oW hw 90 rfl) e0 (g := (mkF m 3 #[vI (n.toInt32), vR (a1), vR (fa), .unset, .unset, .unset] [(.int (n + 1).toInt32)])) rfl (hb hby d11_3) rfl (own_ti (own_k5 hN)).2.1 (cap := 5) (by rw [(own_ti (own_k5 hN)).1]; omega) (by decide) (by decide) (by decide)
  obtain ⟨b1, g1⟩ := oZ h0.size
  have g_b1 : n0 ≤ b1 := Nat.le_trans (O0.1 ▸ O0.2.1) (Nat.le_of_eq g1.symm)
  have sz_b1 : h0.size ≤ b1 := Nat.le_trans (Keep.refl h0 []).1 (Nat.le_of_eq g1.symm)
  rw [← g1] at A1 st1
  have f2 := E1_.ext E1
  have f3 := F1.ext E1
  have f4 := F2.ext E1
  have O1 := O0.ext E1
  have K1 : Keep h0 h1 [] := (Keep.refl h0 []).ext E1
  have V1 : Arv Z h1 b1 ka1 .int (n + 1).toInt32 (List.replicate (n + 1) (.int (0 : Int32))) (.int (0 : Int32)) := (Arv.new A1 (own_ti (own_k5 hN)).2.1).pad (pad_rep [] (.int (0 : Int32)) (n + 1))
  obtain ⟨cq5, kq5, q5a, q5b, q5c⟩ := isOf hZ e1 f2
  obtain ⟨_, _, ⟨T5, L5, k5, n5⟩, -, X5, ⟨Lc5, hQ5, l5, y5, z5⟩, st5⟩ := X1.interfaceBack hx (xi := Y44_) (y := Y34_) hown (mvT hZ (oW hw 91 rfl)) (mvT hZ (oW hw 92 rfl)) (mvT hZ (oW hw 93 rfl)) (mvT hZ (oW hw 323 rfl)) (mvT hZ (oW hw 95 rfl)) (mvT hZ (oW hw 96 rfl)) (mvT hZ (oW hw 324 rfl)) (mvT hZ (oW hw 325 rfl)) (by decide) (backOf (W := 0) (r_itB l Z a0 hw [] s_D s_L s_LE s_E s_Z mr kd_ kl_ h1 n0 O1 G0 a1 x_ y_ f2 f3 f4 hyE) hZ (oW hw 100 rfl) (oW hw 99 rfl) (by decide) (by decide)) q5a q5b q5c (g := (mkF m 7 #[vI (n.toInt32), vR (a1), vR (fa), vR (b1), .unset, .unset] [(.ref a1)])) rfl (by rw [hml]; rfl) (Steps.refl _) (argsL := []) (rest := []) (lenOf pd_21 rfl) rfl (by exact Nat.le_of_eq rfl) (hb hby d11_7) (fun _ _ => ⟨rfl, e1, (by decide : 1 + 1 ≤ _), (by decide : 5 + 4 ≤ _)⟩)
  dsimp only [Pt.U, Pt.locs, Pt.cells, Pt.slots] at X5 l5 y5 z5 st5 hQ5
  subst l5 y5 z5
  obtain ⟨t5, rfl, N5q, Kq5, gt5, It5⟩ := hQ5
  have N5 := Fr.app N0 N5q
  have ne_b1_t5 := oL V1.lt gt5
  have g_t5 : n0 ≤ t5 := Nat.le_trans (O1.1 ▸ O1.2.1) gt5
  have sz_t5 : h0.size ≤ t5 := Nat.le_trans K1.1 gt5
  have f9 := V1.keep Kq5 (fun q => nomatch q)
  have O5 := O1.keep Kq5 all0
  have K5 : Keep h0 T5.heap [] := K1.trans Kq5 all0
  have va0 : Arv Z T5.heap b1 ka1 .int (n + 1).toInt32 (own_c1 n (ss.take 0)) (.int (0 : Int32)) := by rw [List.take_zero, own_c1_nil]; exact f9
  obtain ⟨T9, h9, L9, s59, X9, e9, N9, O9, K9, V9, st9⟩ := own_fe1 s_D s_L s_LE s_E s_Z mr kd_ kl_ a1 fa b1 t5 fk ka1 [x_, y_] ss n h0 hx hZ hw hby hml hown G0 g_t5 sz_t5 g_b1 sz_b1 ne_b1_t5 (Or.inr (Or.inr ⟨x_, y_, rfl, hyE, E1_, F1, F2⟩)) Ar hn4 hN hss Fn [x_, y_].length 0 _ _ _ .unset (Nat.zero_add _) One.u X5 rfl N5 O5 K5 It5 va0
  rw [own_c2_start] at V9
  obtain ⟨T7, h7, L7, X7, e7, N7, O7, K7, V7, st7⟩ := own_fe2 s_D s_L s_LE s_E s_Z mr kd_ kl_ a1 fa b1 ka1 ss n s59 hx hZ hw hby hml hown G0 g_b1 hN hL4 n 0 _ _ _ (Nat.zero_add _) X9 e9 N9 O9 V9
  have K7' : Keep h0 h7 [] := K9.trans K7 (allS (Or.inr sz_b1) all0)
  obtain ⟨fs, hr, hrun, hended, hW, hsame⟩ := X7.leave (v := some (.ref b1)) (oR Bd.returns)
  refine ⟨_, _, pre0 _ ?_, hrun, hended, _, _, rfl, ?_, ⟨_, rfl⟩, hW, hsame.mono (by decide) (by decide)⟩
  · show own_St p e below s₁ m 0 #[vI (n.toInt32), vR (a1), vR (fa), .unset, .unset, .unset] [] _
    refine XS.iloadN X0.here hx rfl (hb hby d11_0) rfl ?_
    refine XS.iconst X0.here hx rfl (hb hby d11_1) ?_
    refine XS.iadd X0.here hx rfl (hb hby d11_2) rfl ?_
    show own_St p e below s₁ m 3 #[vI (n.toInt32), vR (a1), vR (fa), .unset, .unset, .unset] [(.int (n.toInt32 + (1 : Int32)))] _
    rw [own_ts (own_k hN)]
    refine st1 _ ?_
    show own_St p e below T1 m 5 #[vI (n.toInt32), vR (a1), vR (fa), .unset, .unset, .unset] [(.ref b1)] _
    refine XS.astoreN X1.here hx rfl (hb hby d11_5) rfl rfl (l' := #[vI (n.toInt32), vR (a1), vR (fa), vR (b1), .unset, .unset]) rfl ?_
    refine XS.aloadN X1.here hx rfl (hb hby d11_6) rfl rfl ?_
    refine st5.trans ?_
    show own_St p e below T5 m 12 #[vI (n.toInt32), vR (a1), vR (fa), vR (b1), .unset, .unset] [(.ref t5)] _
    refine XS.astore X5.here hx rfl (hb hby d11_12) rfl rfl (l' := #[vI (n.toInt32), vR (a1), vR (fa), vR (b1), vR (t5), .unset]) rfl ?_
    refine st9 _ ?_
    refine XS.iconst X9.here hx rfl (hb hby d11_52) ?_
    refine XS.istore X9.here hx rfl (hb hby d11_53) rfl (l' := #[vI (n.toInt32), vR (a1), vR (fa), vR (b1), vI ((0 : Int32)), s59]) rfl ?_
    refine st7 _ ?_
    refine XS.aloadN X7.here hx rfl (hb hby d11_80) rfl rfl ?_
    show own_St p e below T7 m 81 #[vI (n.toInt32), vR (a1), vR (fa), vR (b1), vI (n.toInt32), s59] [(.ref b1)] _
    exact retOut X7 hx Bd.returns rfl (Or.inr (Or.inr (Or.inr (Or.inr ⟨rfl, rfl, rfl⟩)))) (hb hby d11_81) hr
  · show own_QA Z .int (n + 1).toInt32 (own_c2 n ss n) h0 n0 _ T7.heap _
    rw [e7]
    exact ⟨b1, ka1, rfl, N7, K7', sz_b1, V7⟩
theorem r_fe (l Z a0) (hw : own_HW a0 Z) (ws s_D s_L s_LE s_E s_Z mr kd_ kl_ h0 n0) (O0 : Old Z n0 h0) (G : own_Ctx Z Z.heap s_D s_L s_LE s_E s_Z mr kd_ kl_) (n : Nat) (fa : Addr) (fk : ClassId) (ss : List Nat) (a1 : Addr) (xs : List Addr) (I : own_IL Z h0 a1 s_E xs) (hn : xs.length ≤ 4) (Ar : own_Arcs Z h0 xs ss) (hN : n ≤ 4) (hss : ∀ j, j < ss.length → ss.getD j 0 < n) (Fn : own_Fn Z "com/example/hodos/hodos/analysis/Course" own_sg fa fk) :
    oM l Y43_ prog_15_method_2_code 6 (some (.array .int)) ws (own_rm_ 3 2 9 39) #[(.int n.toInt32), (.ref a1), (.ref fa)] Z h0 n0 (own_QA Z .int (n + 1).toInt32 (own_c2 n ss n)) := by
  rcases I with ⟨E1, b, k, F, V⟩ | ⟨x, rfl, E1, F0, F1⟩ | ⟨x, y, rfl, ne, E1, F0, F1⟩
  · exact r_feN l Z a0 hw ws s_D s_L s_LE s_E s_Z mr kd_ kl_ h0 n0 O0 G n fa fk ss a1 b k xs E1 F V hn Ar hN hss Fn
  · exact r_feA l Z a0 hw ws s_D s_L s_LE s_E s_Z mr kd_ kl_ h0 n0 O0 G n fa fk ss a1 x E1 F0 F1 Ar hN hss Fn
  · exact r_feB l Z a0 hw ws s_D s_L s_LE s_E s_Z mr kd_ kl_ h0 n0 O0 G n fa fk ss a1 x y E1 F0 F1 ne Ar hN hss Fn
theorem own_IL_wr {Z : State} {a0 : Array Value} {h h' : Heap} {a s_E a1 : Addr} {xs : List Addr} {C : String} {n sl : Nat} {v : Value} (W : Wr h h' a1 sl v) (E : Exa Z h a1 C) (w : (Cond.instantiable C n).before a0 Z = true) (h1 : "java/util/ImmutableCollections$ListN" ≠ C) (h2 : "java/util/ImmutableCollections$List12" ≠ C) (S : own_IL Z h a s_E xs) : own_IL Z h' a s_E xs := by
  rcases S with ⟨E1, b, k, F, V⟩ | ⟨x, q, E1, F0, F1⟩ | ⟨x, y, q, n, E1, F0, F1⟩
  · exact Or.inl ⟨E1.wr W, b, k, F.other W (Or.inl (Exa.ne E1 E h1)), V.other W (Ne.symm (Exa.neArv E V w))⟩
  · exact Or.inr (Or.inl ⟨x, q, E1.wr W, F0.other W (Or.inl (Exa.ne E1 E h2)), F1.other W (Or.inl (Exa.ne E1 E h2))⟩)
  · exact Or.inr (Or.inr ⟨x, y, q, n, E1.wr W, F0.other W (Or.inl (Exa.ne E1 E h2)), F1.other W (Or.inl (Exa.ne E1 E h2))⟩)
theorem own_Arcs_ext {Z : State} {h h' : Heap} {xs : List Addr} {ss : List Nat} (K : Ext h h') (A : own_Arcs Z h xs ss) : own_Arcs Z h' xs ss := ⟨A.1, fun j hj => ⟨(A.2 j hj).1.ext K, (A.2 j hj).2.1.ext K, (A.2 j hj).2.2.ext K⟩⟩
theorem own_Arcs_wr {Z : State} {h h' : Heap} {a1 : Addr} {xs : List Addr} {ss : List Nat} {C : String} {sl : Nat} {v : Value} (W : Wr h h' a1 sl v) (E : Exa Z h a1 C) (h1 : "com/example/hodos/hodos/analysis/Course$Arc" ≠ C) (A : own_Arcs Z h xs ss) : own_Arcs Z h' xs ss := ⟨A.1, fun j hj => ⟨(A.2 j hj).1.wr W, (A.2 j hj).2.1.other W (Or.inl (Exa.ne (A.2 j hj).1 E h1)), (A.2 j hj).2.2.other W (Or.inl (Exa.ne (A.2 j hj).1 E h1))⟩⟩
def own_Co (Z : State) (h : Heap) (a1 : Addr) (n : Nat) (s_E : Addr) (xs : List Addr) (ss : List Nat) : Prop := ∃ (st : Addr) (kst : ClassId) (vst : List Value) (la fi : Addr) (kfi : ClassId), Exa Z h a1 "com/example/hodos/hodos/analysis/Course" ∧ Fld Z h a1 "com/example/hodos/hodos/analysis/Course" "stops" "[Z" (.ref st) ∧ Arv Z h st kst .boolean n.toInt32 vst (.int (0 : Int32)) ∧ Fld Z h a1 "com/example/hodos/hodos/analysis/Course" "arcs" "Ljava/util/List;" (.ref la) ∧ own_IL Z h la s_E xs ∧ Fld Z h a1 "com/example/hodos/hodos/analysis/Course" "firstArc" "[I" (.ref fi) ∧ Arv Z h fi kfi .int (n + 1).toInt32 (own_c2 n ss n) (.int (0 : Int32))
def own_Qco (Z : State) (a1 : Addr) (n : Nat) (s_E : Addr) (xs : List Addr) (ss : List Nat) (h0 : Heap) (n0 : Nat) (v : Option Value) (h : Heap) (L : List Loc) : Prop := v = none ∧ Fr n0 L ∧ Keep h0 h [a1] ∧ own_Co Z h a1 n s_E xs ss

theorem d6_0 : D6_ 0 = .ok (.aload_n 0, 1) := by decide +kernel
theorem d6_1 : D6_ 1 = .ok (.invokespecial 1, 3) := by decide +kernel
theorem d6_4 : D6_ 4 = .ok (.aload_n 0, 1) := by decide +kernel
theorem d6_5 : D6_ 5 = .ok (.aload_n 1, 1) := by decide +kernel
theorem d6_6 : D6_ 6 = .ok (.invokevirtual 7, 3) := by decide +kernel
theorem d6_9 : D6_ 9 = .ok (.checkcast 8, 3) := by decide +kernel
theorem d6_12 : D6_ 12 = .ok (.putfield 13, 3) := by decide +kernel
theorem d6_15 : D6_ 15 = .ok (.aload_n 0, 1) := by decide +kernel
theorem d6_16 : D6_ 16 = .ok (.aload_n 2, 1) := by decide +kernel
theorem d6_17 : D6_ 17 = .ok (.invokestatic 18, 3) := by decide +kernel
theorem d6_20 : D6_ 20 = .ok (.putfield 24, 3) := by decide +kernel
theorem d6_23 : D6_ 23 = .ok (.aload_n 0, 1) := by decide +kernel
theorem d6_24 : D6_ 24 = .ok (.aload_n 3, 1) := by decide +kernel
theorem d6_25 : D6_ 25 = .ok (.invokestatic 18, 3) := by decide +kernel
theorem d6_28 : D6_ 28 = .ok (.putfield 28, 3) := by decide +kernel
theorem d6_31 : D6_ 31 = .ok (.aload_n 0, 1) := by decide +kernel
theorem d6_32 : D6_ 32 = .ok (.aload_n 1, 1) := by decide +kernel
theorem d6_33 : D6_ 33 = .ok (.arraylength, 1) := by decide +kernel
theorem d6_34 : D6_ 34 = .ok (.aload_n 0, 1) := by decide +kernel
theorem d6_35 : D6_ 35 = .ok (.getfield 28, 3) := by decide +kernel
theorem d6_38 : D6_ 38 = .ok (.invokedynamic 31, 5) := by decide +kernel
theorem d6_43 : D6_ 43 = .ok (.invokestatic 35, 3) := by decide +kernel
theorem pd_22 : parseMethodDescriptor "(ILjava/util/List;Ljava/util/function/ToIntFunction;)[I" = some ⟨[.int, (.object "java/util/List"), (.object "java/util/function/ToIntFunction")], some (.array .int)⟩ := by decide +kernel
theorem d6_46 : D6_ 46 = .ok (.putfield 41, 3) := by decide +kernel
theorem d6_49 : D6_ 49 = .ok (.return_, 1) := by decide +kernel
theorem ef_6_37 (m : MethodId) (x0 : Addr) (x1 : Addr) (x2 : Addr) (x3 : Addr) : entryFrame m #[(.ref x0), (.ref x1), (.ref x2), (.ref x3)] 4 = mkF m 0 #[vR (x0), vR (x1), vR (x2), vR (x3)] [] := by first | (simp [entryFrame, mkF, argsToLocals, Value.category]; done) | rfl
theorem pn_15 : plainName "com/example/hodos/hodos/analysis/Course" = true := by first | (simp [plainName, overriddenIn]; done) | decide +kernel
theorem r_coi0 (l Z a0) (hw : own_HW a0 Z) (ws s_D s_L s_LE s_E s_Z mr kd_ kl_ h0 n0) (O0 : Old Z n0 h0) (G : own_Ctx Z Z.heap s_D s_L s_LE s_E s_Z mr kd_ kl_) (a1 a4 a5 a6 : Addr) (k4 : ClassId) (vs4 : List Value) (n : Nat) (ss : List Nat) (Ec : Exa Z h0 a1 "com/example/hodos/hodos/analysis/Course") (ga : n0 ≤ a1) (F_stops : Fld Z h0 a1 "com/example/hodos/hodos/analysis/Course" "stops" "[Z" .null) (F_starts : Fld Z h0 a1 "com/example/hodos/hodos/analysis/Course" "starts" "Ljava/util/List;" .null) (F_arcs : Fld Z h0 a1 "com/example/hodos/hodos/analysis/Course" "arcs" "Ljava/util/List;" .null) (F_firstArc : Fld Z h0 a1 "com/example/hodos/hodos/analysis/Course" "firstArc" "[I" .null) (E4 : Exa Z h0 a4 "[Z") (V4 : Arv Z h0 a4 k4 .boolean n.toInt32 vs4 (.int (0 : Int32))) (hN : n ≤ 4) (E5 : Exa Z h0 a5 "java/util/ArrayList") (Fe5 : Fld Z h0 a5 "java/util/ArrayList" "elementData" "[Ljava/lang/Object;" (.ref s_D)) (Fs5 : Fld Z h0 a5 "java/util/ArrayList" "size" "I" (.int (0 : Int32))) (E6 : Exa Z h0 a6 "java/util/ArrayList") (Fe6 : Fld Z h0 a6 "java/util/ArrayList" "elementData" "[Ljava/lang/Object;" (.ref s_D)) (Fs6 : Fld Z h0 a6 "java/util/ArrayList" "size" "I" (.int (0 : Int32))) (Ar : own_Arcs Z h0 ([] : List Addr) ss) (hss : ∀ j, j < ss.length → ss.getD j 0 < n) :
    oM l Y45_ prog_8_method_1_code 4 none ws (own_rm_ 4 3 13 3075) #[(.ref a1), (.ref a4), (.ref a5), (.ref a6)] Z h0 n0 (own_Qco Z a1 n s_E ([] : List Addr) ss) := by
  have G0 := G
  obtain ⟨S_D, E_D, V_D, S_L, E_L, F_L, V_L, S_E, E_E, S_A, S_Z, E_Z, M_A⟩ := G
  refine MetFree.of_bodySF (plainFor_of_name pn_15) hisR ?_
  intro p e s m args below meth c s₁ Bd hml0 hP hK
  obtain ⟨rfl, hZ, hh⟩ := hP
  have hx := Bd.exec
  have hby := Bd.bytes
  have hml : c.maxLocals = 4 := hml0
  have hown := findClass_of_methodNamed Bd.named
  have hnm := (name_of_methodNamed Bd.named Bd.method).1
  have X0 : Stand p l e (own_rm_ 4 3 13 3075) s m #[(.ref a1), (.ref a4), (.ref a5), (.ref a6)] below meth c s₁ [] 0 0 := Stand.of_body Bd
  have e0 : s₁.heap = h0 := by rw [← hh, Bd.state]; rfl
  have N0 := Fr.nil n0
  have pre0 := own_pre (tb := p.tables) (e := e) (below := below) (T := s₁) (ef_6_37 m a1 a4 a5 a6)
  obtain ⟨T1, X1, e1, st1⟩ := initO X0 hx hZ hown (oW hw 38 rfl) (oW hw 25 rfl) (oW hw 26 rfl) e0 (g := (mkF m 1 #[vR (a1), vR (a4), vR (a5), vR (a6)] [(.ref a1)])) rfl (by rw [hml]; rfl) rfl (hb hby d6_1) (by decide) (W := 0) (by exact Nat.le_of_eq rfl) (by decide)
  have vc2 := V4
  obtain ⟨cl2, Ar2, qk2, S2, Nn2, Hs2, Gf2⟩ := vc2
  obtain ⟨T3, h3, X3, e3, E3, A3, B3, st3⟩ := cloneA X1 hx hZ hown (oW hw 39 rfl) (oW hw 40 rfl) (oW hw 44 rfl) (oW hw 42 rfl) (oW hw 43 rfl) (oW hw 45 rfl) e1 Ar2 E4 (fitC_of Ar2 (fun i hi v hv => by rw [Hs2 i hi] at hv; cases hv; exact Gf2 i hi)) (g := (mkF m 6 #[vR (a1), vR (a4), vR (a5), vR (a6)] [(.ref a4), (.ref a1)])) rfl (by rw [hml]; rfl) rfl (hb hby d6_6) (by decide) (W := 1) (cap := 4) (by exact Nat.le_of_eq rfl) (by decide) (by rw [S2]; exact (own_capn hN)) (by decide) (by decide)
  obtain ⟨b3, g3⟩ := oZ h0.size
  have ne_a1_b3 := oE Ec.lt g3
  rw [← g3] at A3 B3 st3
  have f4 := Ec.ext E3
  have f5 := F_stops.ext E3
  have f6 := F_starts.ext E3
  have f7 := F_arcs.ext E3
  have f8 := F_firstArc.ext E3
  have f10 := V4.ext E3
  have f11 := E5.ext E3
  have f12 := Fe5.ext E3
  have f13 := Fs5.ext E3
  have f14 := E6.ext E3
  have f15 := Fe6.ext E3
  have f16 := Fs6.ext E3
  have O3 := O0.ext E3
  have K3 : Keep h0 h3 [a1] := (Keep.refl h0 [a1]).ext E3
  have f17 := own_Arcs_ext E3 Ar
  have V3 : Arv Z h3 b3 k4 .boolean n.toInt32 vs4 (.int (0 : Int32)) := ⟨cloneOf cl2, A3, qk2, S2, Nn2, Hs2, Gf2⟩
  obtain ⟨T18, X18, e18, st18⟩ := castY X3 hx hZ hown (oW hw 46 rfl) e3 (Ins.self B3) (g := (mkF m 9 #[vR (a1), vR (a4), vR (a5), vR (a6)] [(.ref b3), (.ref a1)])) rfl rfl (hb hby d6_9)
  obtain ⟨T19, h19, X19, e19, W19, st19⟩ := putF X18 hx hZ hown (host := "") (Or.inl (oW hw 48 rfl)) Via.refl e18 f5 f4 (Or.inr ⟨(oW hw 49 rfl), rfl, hnm⟩) (oW hw 33 rfl) (ty := (.array .boolean)) (by decide) rfl rfl (g := (mkF m 12 #[vR (a1), vR (a4), vR (a5), vR (a6)] [(.ref b3), (.ref a1)])) rfl rfl (hb hby d6_12)
  have f20 := f4.wr W19
  have f21 := f6.other W19 (Or.inr (slot_ne (Or.inr (oW hw 80 rfl)) (Or.inr (oW hw 49 rfl)) (by decide) (t := (.object "java/util/List")) (t' := (.array .boolean)) (by decide) (by decide)))
  have f22 := f7.other W19 (Or.inr (slot_ne (Or.inr (oW hw 82 rfl)) (Or.inr (oW hw 49 rfl)) (by decide) (t := (.object "java/util/List")) (t' := (.array .boolean)) (by decide) (by decide)))
  have f23 := f8.other W19 (Or.inr (slot_ne (Or.inr (oW hw 136 rfl)) (Or.inr (oW hw 49 rfl)) (by decide) (t := (.array .int)) (t' := (.array .boolean)) (by decide) (by decide)))
  have f25 := f10.other W19 (Ne.symm (Exa.neArv Ec V4 (oW hw 33 rfl)))
  have f26 := f11.wr W19
  have f27 := f12.other W19 (Or.inl (Exa.ne E5 Ec (by decide)))
  have f28 := f13.other W19 (Or.inl (Exa.ne E5 Ec (by decide)))
  have f29 := f14.wr W19
  have f30 := f15.other W19 (Or.inl (Exa.ne E6 Ec (by decide)))
  have f31 := f16.other W19 (Or.inl (Exa.ne E6 Ec (by decide)))
  have f33 := V3.other W19 (Ne.symm ne_a1_b3)
  have O19 := O3.wr W19 ga
  have K19 : Keep h0 h19 [a1] := K3.wr W19 (Or.inl (List.mem_of_getElem? (i := 0) rfl))
  have N19 := Fr.snoc X19 N0 ga
  have f34 := own_Arcs_wr W19 f4 (by decide) f17
  have f35 := f5.same W19
  obtain ⟨LL36, X36, N36⟩ : ∃ LL, Stand p l e (own_rm_ 4 3 13 3075) s m #[(.ref a1), (.ref a4), (.ref a5), (.ref a6)] below meth c T19 LL 1 4 ∧ Fr n0 LL := ⟨_, X19, N19⟩
  obtain ⟨_, _, ⟨T37, L37, k37, n37⟩, -, X37, ⟨Lc37, hQ37, l37, y37, z37⟩, st37⟩ := Jvm.LawKit.callS X36 hx (y := Y27_) hown (mvT hZ (oW hw 50 rfl)) (mvT hZ (oW hw 51 rfl)) (mvT hZ (oW hw 52 rfl)) (mvT hZ (oW hw 53 rfl)) (by decide) (backOf (W := 1) (r_co0 l Z a0 hw [] s_D s_L s_LE s_E s_Z mr kd_ kl_ h19 n0 O19 G0 a5 f26 f27 f28) hZ (oW hw 53 rfl) (oW hw 52 rfl) (by decide) (by decide)) (g := (mkF m 17 #[vR (a1), vR (a4), vR (a5), vR (a6)] [(.ref a5), (.ref a1)])) rfl (by rw [hml]; rfl) (argsL := [(.ref a5)]) (rest := [(.ref a1)]) (lenOf pd_15 rfl) rfl (by exact Nat.le_of_eq rfl) (hb hby d6_17) (fun _ _ => ⟨rfl, e19, (by decide : 1 + 0 ≤ _), (by decide : 4 + 0 ≤ _)⟩)
  dsimp only [Pt.U, Pt.locs, Pt.cells, Pt.slots] at X37 l37 y37 z37 st37 hQ37
  subst l37 y37 z37
  obtain ⟨t37, rfl, N37q, Kq37, Iq37⟩ := hQ37
  have N37 := Fr.app N36 N37q
  have f38 := f20.keep Kq37
  have f39 := f35.keep Kq37 (fun q => nomatch q)
  have f40 := f21.keep Kq37 (fun q => nomatch q)
  have f41 := f22.keep Kq37 (fun q => nomatch q)
  have f42 := f23.keep Kq37 (fun q => nomatch q)
  have f44 := f25.keep Kq37 (fun q => nomatch q)
  have f48 := f29.keep Kq37
  have f49 := f30.keep Kq37 (fun q => nomatch q)
  have f50 := f31.keep Kq37 (fun q => nomatch q)
  have f52 := f33.keep Kq37 (fun q => nomatch q)
  have O37 := O19.keep Kq37 all0
  have K37 : Keep h0 T37.heap [a1] := K19.trans Kq37 all0
  have f53 := own_Arcs_keep Kq37 f34
  obtain ⟨T54, h54, X54, e54, W54, st54⟩ := putF X37 hx hZ hown (host := "") (Or.inl (oW hw 79 rfl)) Via.refl rfl f40 f38 (Or.inr ⟨(oW hw 80 rfl), rfl, hnm⟩) (oW hw 33 rfl) (ty := (.object "java/util/List")) (by decide) rfl rfl (g := (mkF m 20 #[vR (a1), vR (a4), vR (a5), vR (a6)] [(.ref t37), (.ref a1)])) rfl rfl (hb hby d6_20)
  have f55 := f38.wr W54
  have f56 := f39.other W54 (Or.inr (slot_ne (Or.inr (oW hw 49 rfl)) (Or.inr (oW hw 80 rfl)) (by decide) (t := (.array .boolean)) (t' := (.object "java/util/List")) (by decide) (by decide)))
  have f57 := f41.other W54 (Or.inr (slot_ne (Or.inr (oW hw 82 rfl)) (Or.inr (oW hw 80 rfl)) (by decide) (t := (.object "java/util/List")) (t' := (.object "java/util/List")) (by decide) (by decide)))
  have f58 := f42.other W54 (Or.inr (slot_ne (Or.inr (oW hw 136 rfl)) (Or.inr (oW hw 80 rfl)) (by decide) (t := (.array .int)) (t' := (.object "java/util/List")) (by decide) (by decide)))
  have f60 := f44.other W54 (Ne.symm (Exa.neArv Ec V4 (oW hw 33 rfl)))
  have f61 := f48.wr W54
  have f62 := f49.other W54 (Or.inl (Exa.ne E6 Ec (by decide)))
  have f63 := f50.other W54 (Or.inl (Exa.ne E6 Ec (by decide)))
  have f65 := f52.other W54 (Ne.symm ne_a1_b3)
  have O54 := O37.wr W54 ga
  have K54 : Keep h0 h54 [a1] := K37.wr W54 (Or.inl (List.mem_of_getElem? (i := 0) rfl))
  have N54 := Fr.snoc X54 N37 ga
  have f66 := own_Arcs_wr W54 f38 (by decide) f53
  obtain ⟨LL69, X69, N69⟩ : ∃ LL, Stand p l e (own_rm_ 4 3 13 3075) s m #[(.ref a1), (.ref a4), (.ref a5), (.ref a6)] below meth c T54 LL 1 4 ∧ Fr n0 LL := ⟨_, X54, N54⟩
  obtain ⟨_, _, ⟨T70, L70, k70, n70⟩, -, X70, ⟨Lc70, hQ70, l70, y70, z70⟩, st70⟩ := Jvm.LawKit.callS X69 hx (y := Y27_) hown (mvT hZ (oW hw 50 rfl)) (mvT hZ (oW hw 51 rfl)) (mvT hZ (oW hw 52 rfl)) (mvT hZ (oW hw 53 rfl)) (by decide) (backOf (W := 1) (r_co0 l Z a0 hw [] s_D s_L s_LE s_E s_Z mr kd_ kl_ h54 n0 O54 G0 a6 f61 f62 f63) hZ (oW hw 53 rfl) (oW hw 52 rfl) (by decide) (by decide)) (g := (mkF m 25 #[vR (a1), vR (a4), vR (a5), vR (a6)] [(.ref a6), (.ref a1)])) rfl (by rw [hml]; rfl) (argsL := [(.ref a6)]) (rest := [(.ref a1)]) (lenOf pd_15 rfl) rfl (by exact Nat.le_of_eq rfl) (hb hby d6_25) (fun _ _ => ⟨rfl, e54, (by decide : 1 + 0 ≤ _), (by decide : 4 + 0 ≤ _)⟩)
  dsimp only [Pt.U, Pt.locs, Pt.cells, Pt.slots] at X70 l70 y70 z70 st70 hQ70
  subst l70 y70 z70
  obtain ⟨t70, rfl, N70q, Kq70, Iq70⟩ := hQ70
  have N70 := Fr.app N69 N70q
  have f71 := f55.keep Kq70
  have f72 := f56.keep Kq70 (fun q => nomatch q)
  have f74 := f57.keep Kq70 (fun q => nomatch q)
  have f75 := f58.keep Kq70 (fun q => nomatch q)
  have f77 := f60.keep Kq70 (fun q => nomatch q)
  have f82 := f65.keep Kq70 (fun q => nomatch q)
  have O70 := O54.keep Kq70 all0
  have K70 : Keep h0 T70.heap [a1] := K54.trans Kq70 all0
  have f83 := own_Arcs_keep Kq70 f66
  obtain ⟨T85, h85, X85, e85, W85, st85⟩ := putF X70 hx hZ hown (host := "") (Or.inl (oW hw 81 rfl)) Via.refl rfl f74 f71 (Or.inr ⟨(oW hw 82 rfl), rfl, hnm⟩) (oW hw 33 rfl) (ty := (.object "java/util/List")) (by decide) rfl rfl (g := (mkF m 28 #[vR (a1), vR (a4), vR (a5), vR (a6)] [(.ref t70), (.ref a1)])) rfl rfl (hb hby d6_28)
  have f86 := f71.wr W85
  have f87 := f72.other W85 (Or.inr (slot_ne (Or.inr (oW hw 49 rfl)) (Or.inr (oW hw 82 rfl)) (by decide) (t := (.array .boolean)) (t' := (.object "java/util/List")) (by decide) (by decide)))
  have f89 := f75.other W85 (Or.inr (slot_ne (Or.inr (oW hw 136 rfl)) (Or.inr (oW hw 82 rfl)) (by decide) (t := (.array .int)) (t' := (.object "java/util/List")) (by decide) (by decide)))
  have f91 := f77.other W85 (Ne.symm (Exa.neArv Ec V4 (oW hw 33 rfl)))
  have f93 := f82.other W85 (Ne.symm ne_a1_b3)
  have O85 := O70.wr W85 ga
  have K85 : Keep h0 h85 [a1] := K70.wr W85 (Or.inl (List.mem_of_getElem? (i := 0) rfl))
  have N85 := Fr.snoc X85 N70 ga
  have f94 := own_Arcs_wr W85 f71 (by decide) f83
  have f95 := own_IL_wr W85 f71 (oW hw 33 rfl) (by decide) (by decide) Iq70
  have f96 := f74.same W85
  have vc97 := f91
  obtain ⟨cl97, Ar97, qk97, S97, Nn97, Hs97, Gf97⟩ := vc97
  obtain ⟨T98, X98, e98, st98⟩ := getF X85 hx hZ hown (host := "") (Or.inl (oW hw 81 rfl)) Via.refl e85 f96 (g := (mkF m 35 #[vR (a1), vR (a4), vR (a5), vR (a6)] [(.ref a1), (.int n.toInt32), (.ref a1)])) rfl rfl (hb hby d6_35)
  obtain ⟨fa99, fk99, Fn99, st99⟩ := own_site X98 hx hZ Bd.named (oW hw 83 rfl) rfl (g := (mkF m 38 #[vR (a1), vR (a4), vR (a5), vR (a6)] [(.ref t70), (.int n.toInt32), (.ref a1)])) rfl rfl (by rw [hml]; rfl) (hb hby d6_38) (Nat.le_of_ble_eq_true rfl)
  obtain ⟨LL100, X100, N100⟩ : ∃ LL, Stand p l e (own_rm_ 4 3 13 3075) s m #[(.ref a1), (.ref a4), (.ref a5), (.ref a6)] below meth c T98 LL 1 4 ∧ Fr n0 LL := ⟨_, X98, N85⟩
  obtain ⟨_, _, ⟨T101, L101, k101, n101⟩, -, X101, ⟨Lc101, hQ101, l101, y101, z101⟩, st101⟩ := Jvm.LawKit.callS X100 hx (y := Y43_) hown (mvT hZ (oW hw 86 rfl)) (mvT hZ (oW hw 87 rfl)) (mvT hZ (oW hw 88 rfl)) (mvT hZ (oW hw 89 rfl)) (by decide) (backOf (W := 1) (r_fe l Z a0 hw [] s_D s_L s_LE s_E s_Z mr kd_ kl_ h85 n0 O85 G0 n fa99 fk99 ss t70 ([] : List Addr) f95 (Nat.le_of_ble_eq_true rfl) f94 hN hss Fn99) hZ (oW hw 89 rfl) (oW hw 88 rfl) (by decide) (by decide)) (g := (mkF m 43 #[vR (a1), vR (a4), vR (a5), vR (a6)] [(.ref fa99), (.ref t70), (.int n.toInt32), (.ref a1)])) rfl (by rw [hml]; rfl) (argsL := [(.int n.toInt32), (.ref t70), (.ref fa99)]) (rest := [(.ref a1)]) (lenOf pd_22 rfl) rfl (by exact Nat.le_of_eq rfl) (hb hby d6_43) (fun _ _ => ⟨rfl, e98, (by decide : 1 + 2 ≤ _), (by decide : 4 + 9 ≤ _)⟩)
  dsimp only [Pt.U, Pt.locs, Pt.cells, Pt.slots] at X101 l101 y101 z101 st101 hQ101
  subst l101 y101 z101
  obtain ⟨t101, kt101, rfl, N101q, Kq101, gt101, Vt101⟩ := hQ101
  have N101 := Fr.app N100 N101q
  have ne_a1_t101 := oL f86.lt gt101
  have f102 := f86.keep Kq101
  have f103 := f87.keep Kq101 (fun q => nomatch q)
  have f105 := f96.keep Kq101 (fun q => nomatch q)
  have f106 := f89.keep Kq101 (fun q => nomatch q)
  have f110 := f93.keep Kq101 (fun q => nomatch q)
  have K101 : Keep h0 T101.heap [a1] := K85.trans Kq101 all0
  have f112 := own_IL_keep Kq101 f95
  obtain ⟨T113, h113, X113, e113, W113, st113⟩ := putF X101 hx hZ hown (host := "") (Or.inl (oW hw 135 rfl)) Via.refl rfl f106 f102 (Or.inr ⟨(oW hw 136 rfl), rfl, hnm⟩) (oW hw 33 rfl) (ty := (.array .int)) (by decide) rfl rfl (g := (mkF m 46 #[vR (a1), vR (a4), vR (a5), vR (a6)] [(.ref t101), (.ref a1)])) rfl rfl (hb hby d6_46)
  have f114 := f102.wr W113
  have f115 := f103.other W113 (Or.inr (slot_ne (Or.inr (oW hw 49 rfl)) (Or.inr (oW hw 136 rfl)) (by decide) (t := (.array .boolean)) (t' := (.array .int)) (by decide) (by decide)))
  have f117 := f105.other W113 (Or.inr (slot_ne (Or.inr (oW hw 82 rfl)) (Or.inr (oW hw 136 rfl)) (by decide) (t := (.object "java/util/List")) (t' := (.array .int)) (by decide) (by decide)))
  have f121 := f110.other W113 (Ne.symm ne_a1_b3)
  have f122 := Vt101.other W113 (Ne.symm ne_a1_t101)
  have K113 : Keep h0 h113 [a1] := K101.wr W113 (Or.inl (List.mem_of_getElem? (i := 0) rfl))
  have N113 := Fr.snoc X113 N101 ga
  have f124 := own_IL_wr W113 f102 (oW hw 33 rfl) (by decide) (by decide) f112
  have f125 := f106.same W113
  obtain ⟨fs, hr, hrun, hended, hW, hsame⟩ := X113.leave (v := none) (fun _ => rfl)
  refine ⟨_, _, pre0 _ ?_, hrun, hended, _, _, rfl, ?_, ⟨_, rfl⟩, hW, hsame.mono (by decide) (by decide)⟩
  · show own_St p e below s₁ m 0 #[vR (a1), vR (a4), vR (a5), vR (a6)] [] _
    refine XS.aloadN X0.here hx rfl (hb hby d6_0) rfl rfl ?_
    refine st1 _ ?_
    show own_St p e below T1 m 4 #[vR (a1), vR (a4), vR (a5), vR (a6)] [] _
    refine XS.aloadN X1.here hx rfl (hb hby d6_4) rfl rfl ?_
    refine XS.aloadN X1.here hx rfl (hb hby d6_5) rfl rfl ?_
    refine st3 _ ?_
    refine st18 _ ?_
    refine st19 _ ?_
    show own_St p e below T19 m 15 #[vR (a1), vR (a4), vR (a5), vR (a6)] [] _
    refine XS.aloadN X19.here hx rfl (hb hby d6_15) rfl rfl ?_
    refine XS.aloadN X19.here hx rfl (hb hby d6_16) rfl rfl ?_
    refine st37 _ ?_
    refine st54 _ ?_
    show own_St p e below T54 m 23 #[vR (a1), vR (a4), vR (a5), vR (a6)] [] _
    refine XS.aloadN X54.here hx rfl (hb hby d6_23) rfl rfl ?_
    refine XS.aloadN X54.here hx rfl (hb hby d6_24) rfl rfl ?_
    refine st70 _ ?_
    refine st85 _ ?_
    show own_St p e below T85 m 31 #[vR (a1), vR (a4), vR (a5), vR (a6)] [] _
    refine XS.aloadN X85.here hx rfl (hb hby d6_31) rfl rfl ?_
    refine XS.aloadN X85.here hx rfl (hb hby d6_32) rfl rfl ?_
    show own_St p e below T85 m 33 #[vR (a1), vR (a4), vR (a5), vR (a6)] [(.ref a4), (.ref a1)] _
    refine X85.arraylength hx (by rw [e85]; exact Ar97.1) (State.isArrayOf_alike hZ.alike Ar97.2.1) (g := (mkF m 33 #[vR (a1), vR (a4), vR (a5), vR (a6)] [(.ref a4), (.ref a1)])) rfl rfl (hb hby d6_33) _ ?_
    rw [len_of S97 Nn97]
    show own_St p e below T85 m 34 #[vR (a1), vR (a4), vR (a5), vR (a6)] [(.int n.toInt32), (.ref a1)] _
    refine XS.aloadN X85.here hx rfl (hb hby d6_34) rfl rfl ?_
    refine st98 _ ?_
    refine st99 _ ?_
    refine st101 _ ?_
    refine st113 _ ?_
    show own_St p e below T113 m 49 #[vR (a1), vR (a4), vR (a5), vR (a6)] [] _
    exact X113.returnOut hx Bd.returns (hb hby d6_49) hr
  · show own_Qco Z a1 n s_E ([] : List Addr) ss h0 n0 _ T113.heap _
    rw [e113]
    exact ⟨rfl, N113, K113, b3, k4, _, t70, t101, kt101, f114, f115, f121, f117, f124, f125, f122⟩
theorem r_coi1 (l Z a0) (hw : own_HW a0 Z) (ws s_D s_L s_LE s_E s_Z mr kd_ kl_ h0 n0) (O0 : Old Z n0 h0) (G : own_Ctx Z Z.heap s_D s_L s_LE s_E s_Z mr kd_ kl_) (a1 a4 a5 a6 : Addr) (k4 : ClassId) (vs4 : List Value) (n : Nat) (ss : List Nat) (a2 : Addr) (k2 : ClassId) (xs : List Addr) (Ec : Exa Z h0 a1 "com/example/hodos/hodos/analysis/Course") (ga : n0 ≤ a1) (F_stops : Fld Z h0 a1 "com/example/hodos/hodos/analysis/Course" "stops" "[Z" .null) (F_starts : Fld Z h0 a1 "com/example/hodos/hodos/analysis/Course" "starts" "Ljava/util/List;" .null) (F_arcs : Fld Z h0 a1 "com/example/hodos/hodos/analysis/Course" "arcs" "Ljava/util/List;" .null) (F_firstArc : Fld Z h0 a1 "com/example/hodos/hodos/analysis/Course" "firstArc" "[I" .null) (E4 : Exa Z h0 a4 "[Z") (V4 : Arv Z h0 a4 k4 .boolean n.toInt32 vs4 (.int (0 : Int32))) (hN : n ≤ 4) (E5 : Exa Z h0 a5 "java/util/ArrayList") (Fe5 : Fld Z h0 a5 "java/util/ArrayList" "elementData" "[Ljava/lang/Object;" (.ref s_D)) (Fs5 : Fld Z h0 a5 "java/util/ArrayList" "size" "I" (.int (0 : Int32))) (E6 : Exa Z h0 a6 "java/util/ArrayList") (Fe6 : Fld Z h0 a6 "java/util/ArrayList" "elementData" "[Ljava/lang/Object;" (.ref a2)) (Fs6 : Fld Z h0 a6 "java/util/ArrayList" "size" "I" (.int xs.length.toInt32)) (Ed : Exa Z h0 a2 "[Ljava/lang/Object;") (Vd : Arv Z h0 a2 k2 (.object "java/lang/Object") (10 : Int32) (xs.map Value.ref) .null) (hn : xs.length ≤ 4) (h1 : 1 ≤ xs.length) (hnE : ∀ q : 1 < xs.length, xs[1] ≠ s_E) (Ar : own_Arcs Z h0 xs ss) (hss : ∀ j, j < ss.length → ss.getD j 0 < n) :
    oM l Y45_ prog_8_method_1_code 4 none ws (own_rm_ 9 6 23 3075) #[(.ref a1), (.ref a4), (.ref a5), (.ref a6)] Z h0 n0 (own_Qco Z a1 n s_E xs ss) := by
  have G0 := G
  obtain ⟨S_D, E_D, V_D, S_L, E_L, F_L, V_L, S_E, E_E, S_A, S_Z, E_Z, M_A⟩ := G
  refine MetFree.of_bodySF (plainFor_of_name pn_15) hisR ?_
  intro p e s m args below meth c s₁ Bd hml0 hP hK
  obtain ⟨rfl, hZ, hh⟩ := hP
  have hx := Bd.exec
  have hby := Bd.bytes
  have hml : c.maxLocals = 4 := hml0
  have hown := findClass_of_methodNamed Bd.named
  have hnm := (name_of_methodNamed Bd.named Bd.method).1
  have X0 : Stand p l e (own_rm_ 9 6 23 3075) s m #[(.ref a1), (.ref a4), (.ref a5), (.ref a6)] below meth c s₁ [] 0 0 := Stand.of_body Bd
  have e0 : s₁.heap = h0 := by rw [← hh, Bd.state]; rfl
  have N0 := Fr.nil n0
  have pre0 := own_pre (tb := p.tables) (e := e) (below := below) (T := s₁) (ef_6_37 m a1 a4 a5 a6)
  obtain ⟨T1, X1, e1, st1⟩ := initO X0 hx hZ hown (oW hw 38 rfl) (oW hw 25 rfl) (oW hw 26 rfl) e0 (g := (mkF m 1 #[vR (a1), vR (a4), vR (a5), vR (a6)] [(.ref a1)])) rfl (by rw [hml]; rfl) rfl (hb hby d6_1) (by decide) (W := 0) (by exact Nat.le_of_eq rfl) (by decide)
  have vc2 := V4
  obtain ⟨cl2, Ar2, qk2, S2, Nn2, Hs2, Gf2⟩ := vc2
  obtain ⟨T3, h3, X3, e3, E3, A3, B3, st3⟩ := cloneA X1 hx hZ hown (oW hw 39 rfl) (oW hw 40 rfl) (oW hw 44 rfl) (oW hw 42 rfl) (oW hw 43 rfl) (oW hw 45 rfl) e1 Ar2 E4 (fitC_of Ar2 (fun i hi v hv => by rw [Hs2 i hi] at hv; cases hv; exact Gf2 i hi)) (g := (mkF m 6 #[vR (a1), vR (a4), vR (a5), vR (a6)] [(.ref a4), (.ref a1)])) rfl (by rw [hml]; rfl) rfl (hb hby d6_6) (by decide) (W := 1) (cap := 4) (by exact Nat.le_of_eq rfl) (by decide) (by rw [S2]; exact (own_capn hN)) (by decide) (by decide)
  obtain ⟨b3, g3⟩ := oZ h0.size
  have ne_a1_b3 := oE Ec.lt g3
  rw [← g3] at A3 B3 st3
  have f4 := Ec.ext E3
  have f5 := F_stops.ext E3
  have f6 := F_starts.ext E3
  have f7 := F_arcs.ext E3
  have f8 := F_firstArc.ext E3
  have f10 := V4.ext E3
  have f11 := E5.ext E3
  have f12 := Fe5.ext E3
  have f13 := Fs5.ext E3
  have f14 := E6.ext E3
  have f15 := Fe6.ext E3
  have f16 := Fs6.ext E3
  have f17 := Ed.ext E3
  have f18 := Vd.ext E3
  have O3 := O0.ext E3
  have K3 : Keep h0 h3 [a1] := (Keep.refl h0 [a1]).ext E3
  have f19 := own_Arcs_ext E3 Ar
  have V3 : Arv Z h3 b3 k4 .boolean n.toInt32 vs4 (.int (0 : Int32)) := ⟨cloneOf cl2, A3, qk2, S2, Nn2, Hs2, Gf2⟩
  obtain ⟨T20, X20, e20, st20⟩ := castY X3 hx hZ hown (oW hw 46 rfl) e3 (Ins.self B3) (g := (mkF m 9 #[vR (a1), vR (a4), vR (a5), vR (a6)] [(.ref b3), (.ref a1)])) rfl rfl (hb hby d6_9)
  obtain ⟨T21, h21, X21, e21, W21, st21⟩ := putF X20 hx hZ hown (host := "") (Or.inl (oW hw 48 rfl)) Via.refl e20 f5 f4 (Or.inr ⟨(oW hw 49 rfl), rfl, hnm⟩) (oW hw 33 rfl) (ty := (.array .boolean)) (by decide) rfl rfl (g := (mkF m 12 #[vR (a1), vR (a4), vR (a5), vR (a6)] [(.ref b3), (.ref a1)])) rfl rfl (hb hby d6_12)
  have f22 := f4.wr W21
  have f23 := f6.other W21 (Or.inr (slot_ne (Or.inr (oW hw 80 rfl)) (Or.inr (oW hw 49 rfl)) (by decide) (t := (.object "java/util/List")) (t' := (.array .boolean)) (by decide) (by decide)))
  have f24 := f7.other W21 (Or.inr (slot_ne (Or.inr (oW hw 82 rfl)) (Or.inr (oW hw 49 rfl)) (by decide) (t := (.object "java/util/List")) (t' := (.array .boolean)) (by decide) (by decide)))
  have f25 := f8.other W21 (Or.inr (slot_ne (Or.inr (oW hw 136 rfl)) (Or.inr (oW hw 49 rfl)) (by decide) (t := (.array .int)) (t' := (.array .boolean)) (by decide) (by decide)))
  have f27 := f10.other W21 (Ne.symm (Exa.neArv Ec V4 (oW hw 33 rfl)))
  have f28 := f11.wr W21
  have f29 := f12.other W21 (Or.inl (Exa.ne E5 Ec (by decide)))
  have f30 := f13.other W21 (Or.inl (Exa.ne E5 Ec (by decide)))
  have f31 := f14.wr W21
  have f32 := f15.other W21 (Or.inl (Exa.ne E6 Ec (by decide)))
  have f33 := f16.other W21 (Or.inl (Exa.ne E6 Ec (by decide)))
  have f34 := f17.wr W21
  have f35 := f18.other W21 (Ne.symm (Exa.neArv Ec Vd (oW hw 33 rfl)))
  have f37 := V3.other W21 (Ne.symm ne_a1_b3)
  have O21 := O3.wr W21 ga
  have K21 : Keep h0 h21 [a1] := K3.wr W21 (Or.inl (List.mem_of_getElem? (i := 0) rfl))
  have N21 := Fr.snoc X21 N0 ga
  have f38 := own_Arcs_wr W21 f4 (by decide) f19
  have f39 := f5.same W21
  obtain ⟨LL40, X40, N40⟩ : ∃ LL, Stand p l e (own_rm_ 9 6 23 3075) s m #[(.ref a1), (.ref a4), (.ref a5), (.ref a6)] below meth c T21 LL 1 4 ∧ Fr n0 LL := ⟨_, X21, N21⟩
  obtain ⟨_, _, ⟨T41, L41, k41, n41⟩, -, X41, ⟨Lc41, hQ41, l41, y41, z41⟩, st41⟩ := Jvm.LawKit.callS X40 hx (y := Y27_) hown (mvT hZ (oW hw 50 rfl)) (mvT hZ (oW hw 51 rfl)) (mvT hZ (oW hw 52 rfl)) (mvT hZ (oW hw 53 rfl)) (by decide) (backOf (W := 1) (r_co0 l Z a0 hw [] s_D s_L s_LE s_E s_Z mr kd_ kl_ h21 n0 O21 G0 a5 f28 f29 f30) hZ (oW hw 53 rfl) (oW hw 52 rfl) (by decide) (by decide)) (g := (mkF m 17 #[vR (a1), vR (a4), vR (a5), vR (a6)] [(.ref a5), (.ref a1)])) rfl (by rw [hml]; rfl) (argsL := [(.ref a5)]) (rest := [(.ref a1)]) (lenOf pd_15 rfl) rfl (by exact Nat.le_of_eq rfl) (hb hby d6_17) (fun _ _ => ⟨rfl, e21, (by decide : 1 + 0 ≤ _), (by decide : 4 + 0 ≤ _)⟩)
  dsimp only [Pt.U, Pt.locs, Pt.cells, Pt.slots] at X41 l41 y41 z41 st41 hQ41
  subst l41 y41 z41
  obtain ⟨t41, rfl, N41q, Kq41, Iq41⟩ := hQ41
  have N41 := Fr.app N40 N41q
  have f42 := f22.keep Kq41
  have f43 := f39.keep Kq41 (fun q => nomatch q)
  have f44 := f23.keep Kq41 (fun q => nomatch q)
  have f45 := f24.keep Kq41 (fun q => nomatch q)
  have f46 := f25.keep Kq41 (fun q => nomatch q)
  have f48 := f27.keep Kq41 (fun q => nomatch q)
  have f52 := f31.keep Kq41
  have f53 := f32.keep Kq41 (fun q => nomatch q)
  have f54 := f33.keep Kq41 (fun q => nomatch q)
  have f55 := f34.keep Kq41
  have f56 := f35.keep Kq41 (fun q => nomatch q)
  have f58 := f37.keep Kq41 (fun q => nomatch q)
  have O41 := O21.keep Kq41 all0
  have K41 : Keep h0 T41.heap [a1] := K21.trans Kq41 all0
  have f59 := own_Arcs_keep Kq41 f38
  obtain ⟨T60, h60, X60, e60, W60, st60⟩ := putF X41 hx hZ hown (host := "") (Or.inl (oW hw 79 rfl)) Via.refl rfl f44 f42 (Or.inr ⟨(oW hw 80 rfl), rfl, hnm⟩) (oW hw 33 rfl) (ty := (.object "java/util/List")) (by decide) rfl rfl (g := (mkF m 20 #[vR (a1), vR (a4), vR (a5), vR (a6)] [(.ref t41), (.ref a1)])) rfl rfl (hb hby d6_20)
  have f61 := f42.wr W60
  have f62 := f43.other W60 (Or.inr (slot_ne (Or.inr (oW hw 49 rfl)) (Or.inr (oW hw 80 rfl)) (by decide) (t := (.array .boolean)) (t' := (.object "java/util/List")) (by decide) (by decide)))
  have f63 := f45.other W60 (Or.inr (slot_ne (Or.inr (oW hw 82 rfl)) (Or.inr (oW hw 80 rfl)) (by decide) (t := (.object "java/util/List")) (t' := (.object "java/util/List")) (by decide) (by decide)))
  have f64 := f46.other W60 (Or.inr (slot_ne (Or.inr (oW hw 136 rfl)) (Or.inr (oW hw 80 rfl)) (by decide) (t := (.array .int)) (t' := (.object "java/util/List")) (by decide) (by decide)))
  have f66 := f48.other W60 (Ne.symm (Exa.neArv Ec V4 (oW hw 33 rfl)))
  have f67 := f52.wr W60
  have f68 := f53.other W60 (Or.inl (Exa.ne E6 Ec (by decide)))
  have f69 := f54.other W60 (Or.inl (Exa.ne E6 Ec (by decide)))
  have f70 := f55.wr W60
  have f71 := f56.other W60 (Ne.symm (Exa.neArv Ec Vd (oW hw 33 rfl)))
  have f73 := f58.other W60 (Ne.symm ne_a1_b3)
  have O60 := O41.wr W60 ga
  have K60 : Keep h0 h60 [a1] := K41.wr W60 (Or.inl (List.mem_of_getElem? (i := 0) rfl))
  have N60 := Fr.snoc X60 N41 ga
  have f74 := own_Arcs_wr W60 f42 (by decide) f59
  obtain ⟨LL77, X77, N77⟩ : ∃ LL, Stand p l e (own_rm_ 9 6 23 3075) s m #[(.ref a1), (.ref a4), (.ref a5), (.ref a6)] below meth c T60 LL 1 4 ∧ Fr n0 LL := ⟨_, X60, N60⟩
  obtain ⟨_, _, ⟨T78, L78, k78, n78⟩, -, X78, ⟨Lc78, hQ78, l78, y78, z78⟩, st78⟩ := Jvm.LawKit.callS X77 hx (y := Y27_) hown (mvT hZ (oW hw 50 rfl)) (mvT hZ (oW hw 51 rfl)) (mvT hZ (oW hw 52 rfl)) (mvT hZ (oW hw 53 rfl)) (by decide) (backOf (W := 1) (r_co1 l Z a0 hw [] s_D s_L s_LE s_E s_Z mr kd_ kl_ h60 n0 O60 G0 a6 a2 k2 xs f67 f68 f69 f70 f71 (fun j hj => (f74.2 j hj).1) hn h1 hnE) hZ (oW hw 53 rfl) (oW hw 52 rfl) (by decide) (by decide)) (g := (mkF m 25 #[vR (a1), vR (a4), vR (a5), vR (a6)] [(.ref a6), (.ref a1)])) rfl (by rw [hml]; rfl) (argsL := [(.ref a6)]) (rest := [(.ref a1)]) (lenOf pd_15 rfl) rfl (by exact Nat.le_of_eq rfl) (hb hby d6_25) (fun _ _ => ⟨rfl, e60, (by decide : 1 + 3 ≤ _), (by decide : 4 + 10 ≤ _)⟩)
  dsimp only [Pt.U, Pt.locs, Pt.cells, Pt.slots] at X78 l78 y78 z78 st78 hQ78
  subst l78 y78 z78
  obtain ⟨t78, rfl, N78q, Kq78, Iq78⟩ := hQ78
  have N78 := Fr.app N77 N78q
  have f79 := f61.keep Kq78
  have f80 := f62.keep Kq78 (fun q => nomatch q)
  have f82 := f63.keep Kq78 (fun q => nomatch q)
  have f83 := f64.keep Kq78 (fun q => nomatch q)
  have f85 := f66.keep Kq78 (fun q => nomatch q)
  have f92 := f73.keep Kq78 (fun q => nomatch q)
  have O78 := O60.keep Kq78 all0
  have K78 : Keep h0 T78.heap [a1] := K60.trans Kq78 all0
  have f93 := own_Arcs_keep Kq78 f74
  obtain ⟨T95, h95, X95, e95, W95, st95⟩ := putF X78 hx hZ hown (host := "") (Or.inl (oW hw 81 rfl)) Via.refl rfl f82 f79 (Or.inr ⟨(oW hw 82 rfl), rfl, hnm⟩) (oW hw 33 rfl) (ty := (.object "java/util/List")) (by decide) rfl rfl (g := (mkF m 28 #[vR (a1), vR (a4), vR (a5), vR (a6)] [(.ref t78), (.ref a1)])) rfl rfl (hb hby d6_28)
  have f96 := f79.wr W95
  have f97 := f80.other W95 (Or.inr (slot_ne (Or.inr (oW hw 49 rfl)) (Or.inr (oW hw 82 rfl)) (by decide) (t := (.array .boolean)) (t' := (.object "java/util/List")) (by decide) (by decide)))
  have f99 := f83.other W95 (Or.inr (slot_ne (Or.inr (oW hw 136 rfl)) (Or.inr (oW hw 82 rfl)) (by decide) (t := (.array .int)) (t' := (.object "java/util/List")) (by decide) (by decide)))
  have f101 := f85.other W95 (Ne.symm (Exa.neArv Ec V4 (oW hw 33 rfl)))
  have f103 := f92.other W95 (Ne.symm ne_a1_b3)
  have O95 := O78.wr W95 ga
  have K95 : Keep h0 h95 [a1] := K78.wr W95 (Or.inl (List.mem_of_getElem? (i := 0) rfl))
  have N95 := Fr.snoc X95 N78 ga
  have f104 := own_Arcs_wr W95 f79 (by decide) f93
  have f105 := own_IL_wr W95 f79 (oW hw 33 rfl) (by decide) (by decide) Iq78
  have f106 := f82.same W95
  have vc107 := f101
  obtain ⟨cl107, Ar107, qk107, S107, Nn107, Hs107, Gf107⟩ := vc107
  obtain ⟨T108, X108, e108, st108⟩ := getF X95 hx hZ hown (host := "") (Or.inl (oW hw 81 rfl)) Via.refl e95 f106 (g := (mkF m 35 #[vR (a1), vR (a4), vR (a5), vR (a6)] [(.ref a1), (.int n.toInt32), (.ref a1)])) rfl rfl (hb hby d6_35)
  obtain ⟨fa109, fk109, Fn109, st109⟩ := own_site X108 hx hZ Bd.named (oW hw 83 rfl) rfl (g := (mkF m 38 #[vR (a1), vR (a4), vR (a5), vR (a6)] [(.ref t78), (.int n.toInt32), (.ref a1)])) rfl rfl (by rw [hml]; rfl) (hb hby d6_38) (Nat.le_of_ble_eq_true rfl)
  obtain ⟨LL110, X110, N110⟩ : ∃ LL, Stand p l e (own_rm_ 9 6 23 3075) s m #[(.ref a1), (.ref a4), (.ref a5), (.ref a6)] below meth c T108 LL 4 14 ∧ Fr n0 LL := ⟨_, X108, N95⟩
  obtain ⟨_, _, ⟨T111, L111, k111, n111⟩, -, X111, ⟨Lc111, hQ111, l111, y111, z111⟩, st111⟩ := Jvm.LawKit.callS X110 hx (y := Y43_) hown (mvT hZ (oW hw 86 rfl)) (mvT hZ (oW hw 87 rfl)) (mvT hZ (oW hw 88 rfl)) (mvT hZ (oW hw 89 rfl)) (by decide) (backOf (W := 1) (r_fe l Z a0 hw [] s_D s_L s_LE s_E s_Z mr kd_ kl_ h95 n0 O95 G0 n fa109 fk109 ss t78 xs f105 hn f104 hN hss Fn109) hZ (oW hw 89 rfl) (oW hw 88 rfl) (by decide) (by decide)) (g := (mkF m 43 #[vR (a1), vR (a4), vR (a5), vR (a6)] [(.ref fa109), (.ref t78), (.int n.toInt32), (.ref a1)])) rfl (by rw [hml]; rfl) (argsL := [(.int n.toInt32), (.ref t78), (.ref fa109)]) (rest := [(.ref a1)]) (lenOf pd_22 rfl) rfl (by exact Nat.le_of_eq rfl) (hb hby d6_43) (fun _ _ => ⟨rfl, e108, (by decide : 4 + 2 ≤ _), (by decide : 14 + 9 ≤ _)⟩)
  dsimp only [Pt.U, Pt.locs, Pt.cells, Pt.slots] at X111 l111 y111 z111 st111 hQ111
  subst l111 y111 z111
  obtain ⟨t111, kt111, rfl, N111q, Kq111, gt111, Vt111⟩ := hQ111
  have N111 := Fr.app N110 N111q
  have ne_a1_t111 := oL f96.lt gt111
  have f112 := f96.keep Kq111
  have f113 := f97.keep Kq111 (fun q => nomatch q)
  have f115 := f106.keep Kq111 (fun q => nomatch q)
  have f116 := f99.keep Kq111 (fun q => nomatch q)
  have f120 := f103.keep Kq111 (fun q => nomatch q)
  have K111 : Keep h0 T111.heap [a1] := K95.trans Kq111 all0
  have f122 := own_IL_keep Kq111 f105
  obtain ⟨T123, h123, X123, e123, W123, st123⟩ := putF X111 hx hZ hown (host := "") (Or.inl (oW hw 135 rfl)) Via.refl rfl f116 f112 (Or.inr ⟨(oW hw 136 rfl), rfl, hnm⟩) (oW hw 33 rfl) (ty := (.array .int)) (by decide) rfl rfl (g := (mkF m 46 #[vR (a1), vR (a4), vR (a5), vR (a6)] [(.ref t111), (.ref a1)])) rfl rfl (hb hby d6_46)
  have f124 := f112.wr W123
  have f125 := f113.other W123 (Or.inr (slot_ne (Or.inr (oW hw 49 rfl)) (Or.inr (oW hw 136 rfl)) (by decide) (t := (.array .boolean)) (t' := (.array .int)) (by decide) (by decide)))
  have f127 := f115.other W123 (Or.inr (slot_ne (Or.inr (oW hw 82 rfl)) (Or.inr (oW hw 136 rfl)) (by decide) (t := (.object "java/util/List")) (t' := (.array .int)) (by decide) (by decide)))
  have f131 := f120.other W123 (Ne.symm ne_a1_b3)
  have f132 := Vt111.other W123 (Ne.symm ne_a1_t111)
  have K123 : Keep h0 h123 [a1] := K111.wr W123 (Or.inl (List.mem_of_getElem? (i := 0) rfl))
  have N123 := Fr.snoc X123 N111 ga
  have f134 := own_IL_wr W123 f112 (oW hw 33 rfl) (by decide) (by decide) f122
  have f135 := f116.same W123
  obtain ⟨fs, hr, hrun, hended, hW, hsame⟩ := X123.leave (v := none) (fun _ => rfl)
  refine ⟨_, _, pre0 _ ?_, hrun, hended, _, _, rfl, ?_, ⟨_, rfl⟩, hW, hsame.mono (by decide) (by decide)⟩
  · show own_St p e below s₁ m 0 #[vR (a1), vR (a4), vR (a5), vR (a6)] [] _
    refine XS.aloadN X0.here hx rfl (hb hby d6_0) rfl rfl ?_
    refine st1 _ ?_
    show own_St p e below T1 m 4 #[vR (a1), vR (a4), vR (a5), vR (a6)] [] _
    refine XS.aloadN X1.here hx rfl (hb hby d6_4) rfl rfl ?_
    refine XS.aloadN X1.here hx rfl (hb hby d6_5) rfl rfl ?_
    refine st3 _ ?_
    refine st20 _ ?_
    refine st21 _ ?_
    show own_St p e below T21 m 15 #[vR (a1), vR (a4), vR (a5), vR (a6)] [] _
    refine XS.aloadN X21.here hx rfl (hb hby d6_15) rfl rfl ?_
    refine XS.aloadN X21.here hx rfl (hb hby d6_16) rfl rfl ?_
    refine st41 _ ?_
    refine st60 _ ?_
    show own_St p e below T60 m 23 #[vR (a1), vR (a4), vR (a5), vR (a6)] [] _
    refine XS.aloadN X60.here hx rfl (hb hby d6_23) rfl rfl ?_
    refine XS.aloadN X60.here hx rfl (hb hby d6_24) rfl rfl ?_
    refine st78 _ ?_
    refine st95 _ ?_
    show own_St p e below T95 m 31 #[vR (a1), vR (a4), vR (a5), vR (a6)] [] _
    refine XS.aloadN X95.here hx rfl (hb hby d6_31) rfl rfl ?_
    refine XS.aloadN X95.here hx rfl (hb hby d6_32) rfl rfl ?_
    show own_St p e below T95 m 33 #[vR (a1), vR (a4), vR (a5), vR (a6)] [(.ref a4), (.ref a1)] _
    refine X95.arraylength hx (by rw [e95]; exact Ar107.1) (State.isArrayOf_alike hZ.alike Ar107.2.1) (g := (mkF m 33 #[vR (a1), vR (a4), vR (a5), vR (a6)] [(.ref a4), (.ref a1)])) rfl rfl (hb hby d6_33) _ ?_
    rw [len_of S107 Nn107]
    show own_St p e below T95 m 34 #[vR (a1), vR (a4), vR (a5), vR (a6)] [(.int n.toInt32), (.ref a1)] _
    refine XS.aloadN X95.here hx rfl (hb hby d6_34) rfl rfl ?_
    refine st108 _ ?_
    refine st109 _ ?_
    refine st111 _ ?_
    refine st123 _ ?_
    show own_St p e below T123 m 49 #[vR (a1), vR (a4), vR (a5), vR (a6)] [] _
    exact X123.returnOut hx Bd.returns (hb hby d6_49) hr
  · show own_Qco Z a1 n s_E xs ss h0 n0 _ T123.heap _
    rw [e123]
    exact ⟨rfl, N123, K123, b3, k4, _, t78, t111, kt111, f124, f125, f131, f127, f134, f135, f132⟩
def own_Sl (Z : State) (h : Heap) (t a : Addr) (lo sz : Nat) : Prop := Exa Z h t "java/util/ImmutableCollections$SubList" ∧ Fld Z h t "java/util/ImmutableCollections$SubList" "root" "Ljava/util/ImmutableCollections$AbstractImmutableList;" (.ref a) ∧ Fld Z h t "java/util/ImmutableCollections$SubList" "offset" "I" (.int lo.toInt32) ∧ Fld Z h t "java/util/ImmutableCollections$SubList" "size" "I" (.int sz.toInt32)
def own_Qsl (Z : State) (a : Addr) (lo sz : Nat) (h0 : Heap) (n0 : Nat) (v : Option Value) (h : Heap) (L : List Loc) : Prop := ∃ t : Addr, v = some (.ref t) ∧ Fr n0 L ∧ Keep h0 h [] ∧ own_Sl Z h t a lo sz
def own_Qsi (Z : State) (t a : Addr) (lo sz : Int32) (h0 : Heap) (n0 : Nat) (v : Option Value) (h : Heap) (L : List Loc) : Prop := v = none ∧ Fr n0 L ∧ Keep h0 h [t] ∧ Fld Z h t "java/util/ImmutableCollections$SubList" "root" "Ljava/util/ImmutableCollections$AbstractImmutableList;" (.ref a) ∧ Fld Z h t "java/util/ImmutableCollections$SubList" "offset" "I" (.int lo) ∧ Fld Z h t "java/util/ImmutableCollections$SubList" "size" "I" (.int sz)
theorem own_subn {a b : Nat} (h : a ≤ b) (hb : b ≤ 100) : b.toInt32 - a.toInt32 = (b - a).toInt32 := by
  apply Int32.toInt_inj.mp
  have e := len_toInt (n := a) (by omega)
  have e1 := len_toInt (n := b) (by omega)
  have e2 := len_toInt (n := b - a) (by omega)
  rw [Jvm.Kit.i32_sub (by omega) (by omega), e, e1, e2]; omega
theorem own_lek {a b : Nat} (h : a ≤ b) (hb : b ≤ 4) : a ≤ 1000 := by omega
theorem own_le100 {b : Nat} (hb : b ≤ 4) : b ≤ 100 := by omega
theorem d22_0 : D22_ 0 = .ok (.aload_n 0, 1) := by decide +kernel
theorem d22_1 : D22_ 1 = .ok (.invokespecial 1, 3) := by decide +kernel
theorem d22_4 : D22_ 4 = .ok (.getstatic 7, 3) := by decide +kernel
theorem d22_7 : D22_ 7 = .ok (.ifCond .ne 25, 3) := by decide +kernel
theorem d22_32 : D22_ 32 = .ok (.aload_n 0, 1) := by decide +kernel
theorem d22_33 : D22_ 33 = .ok (.aload_n 1, 1) := by decide +kernel
theorem d22_34 : D22_ 34 = .ok (.putfield 20, 3) := by decide +kernel
theorem d22_37 : D22_ 37 = .ok (.aload_n 0, 1) := by decide +kernel
theorem d22_38 : D22_ 38 = .ok (.iload_n 2, 1) := by decide +kernel
theorem d22_39 : D22_ 39 = .ok (.putfield 24, 3) := by decide +kernel
theorem d22_42 : D22_ 42 = .ok (.aload_n 0, 1) := by decide +kernel
theorem d22_43 : D22_ 43 = .ok (.iload_n 3, 1) := by decide +kernel
theorem d22_44 : D22_ 44 = .ok (.putfield 28, 3) := by decide +kernel
theorem d22_47 : D22_ 47 = .ok (.return_, 1) := by decide +kernel
theorem ef_22_38 (m : MethodId) (x0 : Addr) (x1 : Addr) (x2 : Int32) (x3 : Int32) : entryFrame m #[(.ref x0), (.ref x1), (.int x2), (.int x3)] 4 = mkF m 0 #[vR (x0), vR (x1), vI (x2), vI (x3)] [] := by first | (simp [entryFrame, mkF, argsToLocals, Value.category]; done) | rfl
theorem pn_16 : plainName "java/util/ImmutableCollections$SubList" = true := by first | (simp [plainName, overriddenIn]; done) | decide +kernel
theorem r_sli (l Z a0) (hw : own_HW a0 Z) (ws s_D s_L s_LE s_E s_Z mr kd_ kl_ h0 n0) (O0 : Old Z n0 h0) (G : own_Ctx Z Z.heap s_D s_L s_LE s_E s_Z mr kd_ kl_) (t1 a1 : Addr) (lo sz : Int32) (Et : Exa Z h0 t1 "java/util/ImmutableCollections$SubList") (ga : n0 ≤ t1) (Fr_ : Fld Z h0 t1 "java/util/ImmutableCollections$SubList" "root" "Ljava/util/ImmutableCollections$AbstractImmutableList;" .null) (Fo : Fld Z h0 t1 "java/util/ImmutableCollections$SubList" "offset" "I" (.int (0 : Int32))) (Fz : Fld Z h0 t1 "java/util/ImmutableCollections$SubList" "size" "I" (.int (0 : Int32))) :
    oM l Y46_ jdk_2608_method_1_code 4 none ws (own_rm_ 4 0 0 48) #[(.ref t1), (.ref a1), (.int lo), (.int sz)] Z h0 n0 (own_Qsi Z t1 a1 lo sz) := by
  have G0 := G
  obtain ⟨S_D, E_D, V_D, S_L, E_L, F_L, V_L, S_E, E_E, S_A, S_Z, E_Z, M_A⟩ := G
  refine MetFree.of_bodySF (plainFor_of_name pn_16) hisR ?_
  intro p e s m args below meth c s₁ Bd hml0 hP hK
  obtain ⟨rfl, hZ, hh⟩ := hP
  have hx := Bd.exec
  have hby := Bd.bytes
  have hml : c.maxLocals = 4 := hml0
  have hown := findClass_of_methodNamed Bd.named
  have hnm := (name_of_methodNamed Bd.named Bd.method).1
  have X0 : Stand p l e (own_rm_ 4 0 0 48) s m #[(.ref t1), (.ref a1), (.int lo), (.int sz)] below meth c s₁ [] 0 0 := Stand.of_body Bd
  have e0 : s₁.heap = h0 := by rw [← hh, Bd.state]; rfl
  have N0 := Fr.nil n0
  have pre0 := own_pre (tb := p.tables) (e := e) (below := below) (T := s₁) (ef_22_38 m t1 a1 lo sz)
  obtain ⟨_, _, ⟨T1, L1, k1, n1⟩, -, X1, ⟨Lc1, hQ1, l1, y1, z1⟩, st1⟩ := X0.specialBack hx (y := Y10_) rfl hown (mvT hZ (oW hw 171 rfl)) (mvT hZ (oW hw 172 rfl)) (mvT hZ (oW hw 175 rfl)) (by decide) (backOf (W := 0) (r_ail l Z a0 hw [] s_D s_L s_LE s_E s_Z mr kd_ kl_ h0 n0 O0 G0 t1) hZ (oW hw 175 rfl) (oW hw 99 rfl) (by decide) (by decide)) (g := (mkF m 1 #[vR (t1), vR (a1), vI (lo), vI (sz)] [(.ref t1)])) rfl (by rw [hml]; rfl) (Steps.refl _) (a := t1) (argsL := []) (rest := []) (lenOf pd_0 rfl) rfl (by exact Nat.le_of_eq rfl) (hb hby d22_1) (fun _ _ => ⟨rfl, e0, (by decide : 0 + 0 ≤ _), (by decide : 0 + 0 ≤ _)⟩)
  dsimp only [Pt.U, Pt.locs, Pt.cells, Pt.slots] at X1 l1 y1 z1 st1 hQ1
  subst l1 y1 z1
  obtain ⟨rfl, N1q, e1⟩ := hQ1
  have N1 := Fr.app N0 N1q
  obtain ⟨T2, X2, e2, st2⟩ := getS2 X1 hx hZ hown (host := "") (Or.inl (oW hw 184 rfl)) Via.refl e1 (S_A.ext O0.2) (g := (mkF m 4 #[vR (t1), vR (a1), vI (lo), vI (sz)] [])) rfl (hb hby d22_4)
  obtain ⟨T3, h3, X3, e3, W3, st3⟩ := putF X2 hx hZ hown (host := "") (Or.inl (oW hw 185 rfl)) Via.refl e2 Fr_ Et (Or.inr ⟨(oW hw 186 rfl), rfl, hnm⟩) (oW hw 166 rfl) (ty := (.object "java/util/ImmutableCollections$AbstractImmutableList")) (by decide) rfl rfl (g := (mkF m 34 #[vR (t1), vR (a1), vI (lo), vI (sz)] [(.ref a1), (.ref t1)])) rfl rfl (hb hby d22_34)
  have f4 := Et.wr W3
  have f5 := Fo.other W3 (Or.inr (slot_ne (Or.inr (oW hw 188 rfl)) (Or.inr (oW hw 186 rfl)) (by decide) (t := .int) (t' := (.object "java/util/ImmutableCollections$AbstractImmutableList")) (by decide) (by decide)))
  have f6 := Fz.other W3 (Or.inr (slot_ne (Or.inr (oW hw 190 rfl)) (Or.inr (oW hw 186 rfl)) (by decide) (t := .int) (t' := (.object "java/util/ImmutableCollections$AbstractImmutableList")) (by decide) (by decide)))
  have K3 : Keep h0 h3 [t1] := (Keep.refl h0 [t1]).wr W3 (Or.inl (List.mem_of_getElem? (i := 0) rfl))
  have N3 := Fr.snoc X3 N1 ga
  have f7 := Fr_.same W3
  obtain ⟨T8, h8, X8, e8, W8, st8⟩ := putF X3 hx hZ hown (host := "") (Or.inl (oW hw 187 rfl)) Via.refl e3 f5 f4 (Or.inr ⟨(oW hw 188 rfl), rfl, hnm⟩) (oW hw 166 rfl) (ty := .int) (by decide) rfl rfl (g := (mkF m 39 #[vR (t1), vR (a1), vI (lo), vI (sz)] [(.int lo), (.ref t1)])) rfl rfl (hb hby d22_39)
  have f9 := f4.wr W8
  have f10 := f7.other W8 (Or.inr (slot_ne (Or.inr (oW hw 186 rfl)) (Or.inr (oW hw 188 rfl)) (by decide) (t := (.object "java/util/ImmutableCollections$AbstractImmutableList")) (t' := .int) (by decide) (by decide)))
  have f11 := f6.other W8 (Or.inr (slot_ne (Or.inr (oW hw 190 rfl)) (Or.inr (oW hw 188 rfl)) (by decide) (t := .int) (t' := .int) (by decide) (by decide)))
  have K8 : Keep h0 h8 [t1] := K3.wr W8 (Or.inl (List.mem_of_getElem? (i := 0) rfl))
  have N8 := Fr.snoc X8 N3 ga
  have f12 := f5.same W8
  obtain ⟨T13, h13, X13, e13, W13, st13⟩ := putF X8 hx hZ hown (host := "") (Or.inl (oW hw 189 rfl)) Via.refl e8 f11 f9 (Or.inr ⟨(oW hw 190 rfl), rfl, hnm⟩) (oW hw 166 rfl) (ty := .int) (by decide) rfl rfl (g := (mkF m 44 #[vR (t1), vR (a1), vI (lo), vI (sz)] [(.int sz), (.ref t1)])) rfl rfl (hb hby d22_44)
  have f15 := f10.other W13 (Or.inr (slot_ne (Or.inr (oW hw 186 rfl)) (Or.inr (oW hw 190 rfl)) (by decide) (t := (.object "java/util/ImmutableCollections$AbstractImmutableList")) (t' := .int) (by decide) (by decide)))
  have f16 := f12.other W13 (Or.inr (slot_ne (Or.inr (oW hw 188 rfl)) (Or.inr (oW hw 190 rfl)) (by decide) (t := .int) (t' := .int) (by decide) (by decide)))
  have K13 : Keep h0 h13 [t1] := K8.wr W13 (Or.inl (List.mem_of_getElem? (i := 0) rfl))
  have N13 := Fr.snoc X13 N8 ga
  have f17 := f11.same W13
  obtain ⟨fs, hr, hrun, hended, hW, hsame⟩ := X13.leave (v := none) (fun _ => rfl)
  refine ⟨_, _, pre0 _ ?_, hrun, hended, _, _, rfl, ?_, ⟨_, rfl⟩, hW, hsame.mono (by decide) (by decide)⟩
  · show own_St p e below s₁ m 0 #[vR (t1), vR (a1), vI (lo), vI (sz)] [] _
    refine XS.aloadN X0.here hx rfl (hb hby d22_0) rfl rfl ?_
    refine st1.trans ?_
    refine st2 _ ?_
    show own_St p e below T2 m 7 #[vR (t1), vR (a1), vI (lo), vI (sz)] [(.int (1 : Int32))] _
    refine XS.ifYes X2.here hx rfl (pc0 := 7) (pc' := 32) rfl (hb hby d22_7) rfl ((if0 _ _).trans (feq (by decide : ¬ ((1 : Int32) = (0 : Int32)))).2) (by decide) (by decide) ?_
    refine XS.aloadN X2.here hx rfl (hb hby d22_32) rfl rfl ?_
    refine XS.aloadN X2.here hx rfl (hb hby d22_33) rfl rfl ?_
    refine st3 _ ?_
    show own_St p e below T3 m 37 #[vR (t1), vR (a1), vI (lo), vI (sz)] [] _
    refine XS.aloadN X3.here hx rfl (hb hby d22_37) rfl rfl ?_
    refine XS.iloadN X3.here hx rfl (hb hby d22_38) rfl ?_
    refine st8 _ ?_
    show own_St p e below T8 m 42 #[vR (t1), vR (a1), vI (lo), vI (sz)] [] _
    refine XS.aloadN X8.here hx rfl (hb hby d22_42) rfl rfl ?_
    refine XS.iloadN X8.here hx rfl (hb hby d22_43) rfl ?_
    refine st13 _ ?_
    show own_St p e below T13 m 47 #[vR (t1), vR (a1), vI (lo), vI (sz)] [] _
    exact X13.returnOut hx Bd.returns (hb hby d22_47) hr
  · show own_Qsi Z t1 a1 lo sz h0 n0 _ T13.heap _
    rw [e13]
    exact ⟨rfl, N13, K13, f15, f16, f17⟩
theorem d21_0 : D21_ 0 = .ok (.new 8, 3) := by decide +kernel
theorem d21_3 : D21_ 3 = .ok (.dup, 1) := by decide +kernel
theorem d21_4 : D21_ 4 = .ok (.aload_n 0, 1) := by decide +kernel
theorem d21_5 : D21_ 5 = .ok (.iload_n 1, 1) := by decide +kernel
theorem d21_6 : D21_ 6 = .ok (.iload_n 2, 1) := by decide +kernel
theorem d21_7 : D21_ 7 = .ok (.iload_n 1, 1) := by decide +kernel
theorem d21_8 : D21_ 8 = .ok (.isub, 1) := by decide +kernel
theorem d21_9 : D21_ 9 = .ok (.invokespecial 31, 3) := by decide +kernel
theorem pd_23 : parseMethodDescriptor "(Ljava/util/ImmutableCollections$AbstractImmutableList;II)V" = some ⟨[(.object "java/util/ImmutableCollections$AbstractImmutableList"), .int, .int], none⟩ := by decide +kernel
theorem d21_12 : D21_ 12 = .ok (.areturn, 1) := by decide +kernel
theorem ef_21_39 (m : MethodId) (x0 : Addr) (x1 : Int32) (x2 : Int32) : entryFrame m #[(.ref x0), (.int x1), (.int x2)] 3 = mkF m 0 #[vR (x0), vI (x1), vI (x2)] [] := by first | (simp [entryFrame, mkF, argsToLocals, Value.category]; done) | rfl
theorem r_frl (l Z a0) (hw : own_HW a0 Z) (ws s_D s_L s_LE s_E s_Z mr kd_ kl_ h0 n0) (O0 : Old Z n0 h0) (G : own_Ctx Z Z.heap s_D s_L s_LE s_E s_Z mr kd_ kl_) (a1 : Addr) (lo hi_ : Nat) (hlh : lo ≤ hi_) (hh4 : hi_ ≤ 4) :
    oM l Y47_ jdk_2608_method_3_code 3 (some (.object "java/util/ImmutableCollections$SubList")) ws (own_rm_ 5 1 3 64) #[(.ref a1), (.int lo.toInt32), (.int hi_.toInt32)] Z h0 n0 (own_Qsl Z a1 lo (hi_ - lo)) := by
  have G0 := G
  obtain ⟨S_D, E_D, V_D, S_L, E_L, F_L, V_L, S_E, E_E, S_A, S_Z, E_Z, M_A⟩ := G
  refine MetFree.of_bodySF (plainFor_of_name pn_16) hisR ?_
  intro p e s m args below meth c s₁ Bd hml0 hP hK
  obtain ⟨rfl, hZ, hh⟩ := hP
  have hx := Bd.exec
  have hby := Bd.bytes
  have hml : c.maxLocals = 3 := hml0
  have hown := findClass_of_methodNamed Bd.named
  have X0 : Stand p l e (own_rm_ 5 1 3 64) s m #[(.ref a1), (.int lo.toInt32), (.int hi_.toInt32)] below meth c s₁ [] 0 0 := Stand.of_body Bd
  have e0 : s₁.heap = h0 := by rw [← hh, Bd.state]; rfl
  have N0 := Fr.nil n0
  have pre0 := own_pre (tb := p.tables) (e := e) (below := below) (T := s₁) (ef_21_39 m a1 lo.toInt32 hi_.toInt32)
  obtain ⟨T1, h1, X1, e1, E1, A1, D1, -, st1⟩ := newO X0 hx hZ hown (oW hw 165 rfl) (oW hw 166 rfl) (oW hw 163 rfl) e0 (g := (mkF m 0 #[vR (a1), vI (lo.toInt32), vI (hi_.toInt32)] [])) rfl (hb hby d21_0) (by decide) (by decide)
  obtain ⟨b1, g1⟩ := oZ h0.size
  have g_b1 : n0 ≤ b1 := Nat.le_trans (O0.1 ▸ O0.2.1) (Nat.le_of_eq g1.symm)
  have sz_b1 : h0.size ≤ b1 := Nat.le_trans (Keep.refl h0 []).1 (Nat.le_of_eq g1.symm)
  rw [← g1] at A1 D1 st1
  have O1 := O0.ext E1
  have K1 : Keep h0 h1 [] := (Keep.refl h0 []).ext E1
  have F1_186 : Fld Z h1 b1 "java/util/ImmutableCollections$SubList" "root" "Ljava/util/ImmutableCollections$AbstractImmutableList;" .null := D1 (Or.inr (oW hw 186 rfl)) (ty := (.object "java/util/ImmutableCollections$AbstractImmutableList")) (by decide)
  have F1_188 : Fld Z h1 b1 "java/util/ImmutableCollections$SubList" "offset" "I" (.int (0 : Int32)) := D1 (Or.inr (oW hw 188 rfl)) (ty := .int) (by decide)
  have F1_190 : Fld Z h1 b1 "java/util/ImmutableCollections$SubList" "size" "I" (.int (0 : Int32)) := D1 (Or.inr (oW hw 190 rfl)) (ty := .int) (by decide)
  obtain ⟨_, _, ⟨T2, L2, k2, n2⟩, -, X2, ⟨Lc2, hQ2, l2, y2, z2⟩, st2⟩ := X1.specialBack hx (y := Y46_) rfl hown (mvT hZ (oW hw 167 rfl)) (mvT hZ (oW hw 168 rfl)) (mvT hZ (oW hw 170 rfl)) (by decide) (backOf (W := 1) (r_sli l Z a0 hw [] s_D s_L s_LE s_E s_Z mr kd_ kl_ h1 n0 O1 G0 b1 a1 lo.toInt32 (hi_ - lo).toInt32 A1 g_b1 F1_186 F1_188 F1_190) hZ (oW hw 170 rfl) (oW hw 163 rfl) (by decide) (by decide)) (g := (mkF m 9 #[vR (a1), vI (lo.toInt32), vI (hi_.toInt32)] [(.int (hi_ - lo).toInt32), (.int lo.toInt32), (.ref a1), (.ref b1), (.ref b1)])) rfl (by rw [hml]; rfl) (Steps.refl _) (a := b1) (argsL := [(.ref a1), (.int lo.toInt32), (.int (hi_ - lo).toInt32)]) (rest := [(.ref b1)]) (lenOf pd_23 rfl) rfl (by exact Nat.le_of_eq rfl) (hb hby d21_9) (fun _ _ => ⟨rfl, e1, (by decide : 1 + 0 ≤ _), (by decide : 3 + 0 ≤ _)⟩)
  dsimp only [Pt.U, Pt.locs, Pt.cells, Pt.slots] at X2 l2 y2 z2 st2 hQ2
  subst l2 y2 z2
  obtain ⟨rfl, N2q, Kq2, Fr2, Fo2, Fz2⟩ := hQ2
  have N2 := Fr.app N0 N2q
  have f3 := A1.keep Kq2
  have K2 : Keep h0 T2.heap [] := K1.trans Kq2 (allS (Or.inr sz_b1) all0)
  obtain ⟨fs, hr, hrun, hended, hW, hsame⟩ := X2.leave (v := some (.ref b1)) (oR Bd.returns)
  refine ⟨_, _, pre0 _ ?_, hrun, hended, _, _, rfl, ?_, ⟨_, rfl⟩, hW, hsame.mono (by decide) (by decide)⟩
  · show own_St p e below s₁ m 0 #[vR (a1), vI (lo.toInt32), vI (hi_.toInt32)] [] _
    refine st1 _ ?_
    show own_St p e below T1 m 3 #[vR (a1), vI (lo.toInt32), vI (hi_.toInt32)] [(.ref b1)] _
    refine XS.dup X1.here hx rfl (hb hby d21_3) rfl rfl ?_
    refine XS.aloadN X1.here hx rfl (hb hby d21_4) rfl rfl ?_
    refine XS.iloadN X1.here hx rfl (hb hby d21_5) rfl ?_
    refine XS.iloadN X1.here hx rfl (hb hby d21_6) rfl ?_
    refine XS.iloadN X1.here hx rfl (hb hby d21_7) rfl ?_
    refine XS.isub X1.here hx rfl (hb hby d21_8) rfl ?_
    show own_St p e below T1 m 9 #[vR (a1), vI (lo.toInt32), vI (hi_.toInt32)] [(.int (hi_.toInt32 - lo.toInt32)), (.int lo.toInt32), (.ref a1), (.ref b1), (.ref b1)] _
    rw [own_subn hlh (own_le100 hh4)]
    refine st2.trans ?_
    show own_St p e below T2 m 12 #[vR (a1), vI (lo.toInt32), vI (hi_.toInt32)] [(.ref b1)] _
    exact retOut X2 hx Bd.returns rfl (Or.inr (Or.inr (Or.inr (Or.inr ⟨rfl, rfl, rfl⟩)))) (hb hby d21_12) hr
  · show own_Qsl Z a1 lo (hi_ - lo) h0 n0 _ T2.heap _
    exact ⟨b1, rfl, N2, K2, f3, Fr2, Fo2, Fz2⟩
theorem d20_0 : D20_ 0 = .ok (.iload_n 0, 1) := by decide +kernel
theorem d20_1 : D20_ 1 = .ok (.ifCond .ge 30, 3) := by decide +kernel
theorem d20_31 : D20_ 31 = .ok (.iload_n 1, 1) := by decide +kernel
theorem d20_32 : D20_ 32 = .ok (.iload_n 2, 1) := by decide +kernel
theorem d20_33 : D20_ 33 = .ok (.if_icmp .le 30, 3) := by decide +kernel
theorem d20_63 : D20_ 63 = .ok (.iload_n 0, 1) := by decide +kernel
theorem d20_64 : D20_ 64 = .ok (.iload_n 1, 1) := by decide +kernel
theorem d20_65 : D20_ 65 = .ok (.if_icmp .le 44, 3) := by decide +kernel
theorem d20_109 : D20_ 109 = .ok (.return_, 1) := by decide +kernel
theorem ef_20_40 (m : MethodId) (x0 : Int32) (x1 : Int32) (x2 : Int32) : entryFrame m #[(.int x0), (.int x1), (.int x2)] 3 = mkF m 0 #[vI (x0), vI (x1), vI (x2)] [] := by first | (simp [entryFrame, mkF, argsToLocals, Value.category]; done) | rfl
theorem r_rck (l Z a0) (hw : own_HW a0 Z) (ws s_D s_L s_LE s_E s_Z mr kd_ kl_ h0 n0) (O0 : Old Z n0 h0) (G : own_Ctx Z Z.heap s_D s_L s_LE s_E s_Z mr kd_ kl_) (lo hi_ : Nat) (n : Nat) (hlh : lo ≤ hi_) (hh4 : hi_ ≤ 4) (hhn : hi_ ≤ n) (hn : n ≤ 4) :
    oM l Y48_ jdk_46_method_9_code 3 none ws (own_rm_ 0 0 0 0) #[(.int lo.toInt32), (.int hi_.toInt32), (.int n.toInt32)] Z h0 n0 (own_Q (none)) := by
  have G0 := G
  refine MetFree.of_bodySF (plainFor_of_name pn_4) hisR ?_
  intro p e s m args below meth c s₁ Bd hml0 hP hK
  obtain ⟨rfl, hZ, hh⟩ := hP
  have hx := Bd.exec
  have hby := Bd.bytes
  have hml : c.maxLocals = 3 := hml0
  have hown := findClass_of_methodNamed Bd.named
  have X0 : Stand p l e (own_rm_ 0 0 0 0) s m #[(.int lo.toInt32), (.int hi_.toInt32), (.int n.toInt32)] below meth c s₁ [] 0 0 := Stand.of_body Bd
  have e0 : s₁.heap = h0 := by rw [← hh, Bd.state]; rfl
  have N0 := Fr.nil n0
  have pre0 := own_pre (tb := p.tables) (e := e) (below := below) (T := s₁) (ef_20_40 m lo.toInt32 hi_.toInt32 n.toInt32)
  obtain ⟨fs, hr, hrun, hended, hW, hsame⟩ := X0.leave (v := none) (fun _ => rfl)
  refine ⟨_, _, pre0 _ ?_, hrun, hended, _, _, rfl, ?_, ⟨_, rfl⟩, hW, hsame.mono (by decide) (by decide)⟩
  · show own_St p e below s₁ m 0 #[vI (lo.toInt32), vI (hi_.toInt32), vI (n.toInt32)] [] _
    refine XS.iloadN X0.here hx rfl (hb hby d20_0) rfl ?_
    refine XS.ifYes X0.here hx rfl (pc0 := 1) (pc' := 31) rfl (hb hby d20_1) rfl ((if0 _ _).trans (flt ((own_ti (own_lek hlh hh4)).2.1 : ¬ (lo.toInt32 < (0 : Int32)))).2.1) (by decide) (by decide) ?_
    refine XS.iloadN X0.here hx rfl (hb hby d20_31) rfl ?_
    refine XS.iloadN X0.here hx rfl (hb hby d20_32) rfl ?_
    refine XS.icmpYes X0.here hx rfl (pc0 := 33) (pc' := 63) rfl (hb hby d20_33) rfl (flt (own_nlt hhn (own_k hn) : ¬ (n.toInt32 < hi_.toInt32))).2.2.2 (by decide) (by decide) ?_
    refine XS.iloadN X0.here hx rfl (hb hby d20_63) rfl ?_
    refine XS.iloadN X0.here hx rfl (hb hby d20_64) rfl ?_
    refine XS.icmpYes X0.here hx rfl (pc0 := 65) (pc' := 109) rfl (hb hby d20_65) rfl (flt (own_nlt hlh (own_k hh4) : ¬ (hi_.toInt32 < lo.toInt32))).2.2.2 (by decide) (by decide) ?_
    show own_St p e below s₁ m 109 #[vI (lo.toInt32), vI (hi_.toInt32), vI (n.toInt32)] [] _
    exact X0.returnOut hx Bd.returns (hb hby d20_109) hr
  · show own_Q (none) h0 n0 _ s₁.heap _
    rw [e0]
    exact ⟨rfl, N0, rfl⟩
theorem d19_0 : D19_ 0 = .ok (.aload_n 0, 1) := by decide +kernel
theorem d19_1 : D19_ 1 = .ok (.invokevirtual 13, 3) := by decide +kernel
theorem d19_4 : D19_ 4 = .ok (.istore_n 3, 1) := by decide +kernel
theorem d19_5 : D19_ 5 = .ok (.iload_n 1, 1) := by decide +kernel
theorem d19_6 : D19_ 6 = .ok (.iload_n 2, 1) := by decide +kernel
theorem d19_7 : D19_ 7 = .ok (.iload_n 3, 1) := by decide +kernel
theorem d19_8 : D19_ 8 = .ok (.invokestatic 19, 3) := by decide +kernel
theorem pd_24 : parseMethodDescriptor "(III)V" = some ⟨[.int, .int, .int], none⟩ := by decide +kernel
theorem d19_11 : D19_ 11 = .ok (.aload_n 0, 1) := by decide +kernel
theorem d19_12 : D19_ 12 = .ok (.iload_n 1, 1) := by decide +kernel
theorem d19_13 : D19_ 13 = .ok (.iload_n 2, 1) := by decide +kernel
theorem d19_14 : D19_ 14 = .ok (.invokestatic 23, 3) := by decide +kernel
theorem pd_25 : parseMethodDescriptor "(Ljava/util/ImmutableCollections$AbstractImmutableList;II)Ljava/util/ImmutableCollections$SubList;" = some ⟨[(.object "java/util/ImmutableCollections$AbstractImmutableList"), .int, .int], some (.object "java/util/ImmutableCollections$SubList")⟩ := by decide +kernel
theorem d19_17 : D19_ 17 = .ok (.areturn, 1) := by decide +kernel
theorem ef_19_41 (m : MethodId) (x0 : Addr) (x1 : Int32) (x2 : Int32) : entryFrame m #[(.ref x0), (.int x1), (.int x2)] 4 = mkF m 0 #[vR (x0), vI (x1), vI (x2), .unset] [] := by first | (simp [entryFrame, mkF, argsToLocals, Value.category]; done) | rfl
theorem r_subN (l Z a0) (hw : own_HW a0 Z) (ws s_D s_L s_LE s_E s_Z mr kd_ kl_ h0 n0) (O0 : Old Z n0 h0) (G : own_Ctx Z Z.heap s_D s_L s_LE s_E s_Z mr kd_ kl_) (a1 a2 : Addr) (k2 : ClassId) (xs : List Addr) (lo hi_ : Nat) (E1_ : Exa Z h0 a1 "java/util/ImmutableCollections$ListN") (F1 : Fld Z h0 a1 "java/util/ImmutableCollections$ListN" "elements" "[Ljava/lang/Object;" (.ref a2)) (Va : Arv Z h0 a2 k2 (.object "java/lang/Object") xs.length.toInt32 (xs.map Value.ref) .null) (hn : xs.length ≤ 4) (hlh : lo ≤ hi_) (hh4 : hi_ ≤ 4) (hhn : hi_ ≤ xs.length) :
    oM l Y49_ jdk_46_method_8_code 4 (some (.object "java/util/List")) ws (own_rm_ 6 1 3 78) #[(.ref a1), (.int lo.toInt32), (.int hi_.toInt32)] Z h0 n0 (own_Qsl Z a1 lo (hi_ - lo)) := by
  have G0 := G
  refine MetFree.of_bodySF (plainFor_of_name pn_4) hisR ?_
  intro p e s m args below meth c s₁ Bd hml0 hP hK
  obtain ⟨rfl, hZ, hh⟩ := hP
  have hx := Bd.exec
  have hby := Bd.bytes
  have hml : c.maxLocals = 4 := hml0
  have hown := findClass_of_methodNamed Bd.named
  have X0 : Stand p l e (own_rm_ 6 1 3 78) s m #[(.ref a1), (.int lo.toInt32), (.int hi_.toInt32)] below meth c s₁ [] 0 0 := Stand.of_body Bd
  have e0 : s₁.heap = h0 := by rw [← hh, Bd.state]; rfl
  have N0 := Fr.nil n0
  have pre0 := own_pre (tb := p.tables) (e := e) (below := below) (T := s₁) (ef_19_41 m a1 lo.toInt32 hi_.toInt32)
  obtain ⟨cq1, kq1, q1a, q1b, q1c⟩ := isOf hZ e0 E1_
  obtain ⟨_, _, ⟨T1, L1, k1, n1⟩, -, X1, ⟨Lc1, hQ1, l1, y1, z1⟩, st1⟩ := X0.virtualBackUp hx (x := Y35_) (y := Y29_) (owner := "java/util/AbstractCollection") hown (mvT hZ (oW hw 104 rfl)) (mvT hZ (oW hw 105 rfl)) (mvT hZ (oW hw 106 rfl)) (by decide) (mvT hZ (oW hw 107 rfl)) (mvT hZ (oW hw 108 rfl)) (backOf (W := 0) (r_szN l Z a0 hw [] s_D s_L s_LE s_E s_Z mr kd_ kl_ h0 n0 O0 G0 a1 a2 k2 xs E1_ F1 Va hn) hZ (oW hw 110 rfl) (oW hw 109 rfl) (by decide) (by decide)) q1a q1c (g := (mkF m 1 #[vR (a1), vI (lo.toInt32), vI (hi_.toInt32), .unset] [(.ref a1)])) rfl (by rw [hml]; rfl) (Steps.refl _) (argsL := []) (rest := []) (lenOf pd_16 rfl) rfl (by exact Nat.le_of_eq rfl) (hb hby d19_1) (fun _ _ => ⟨rfl, e0, (by decide : 0 + 0 ≤ _), (by decide : 0 + 0 ≤ _)⟩)
  dsimp only [Pt.U, Pt.locs, Pt.cells, Pt.slots] at X1 l1 y1 z1 st1 hQ1
  subst l1 y1 z1
  obtain ⟨rfl, N1q, e1⟩ := hQ1
  have N1 := Fr.app N0 N1q
  obtain ⟨_, _, ⟨T2, L2, k2, n2⟩, -, X2, ⟨Lc2, hQ2, l2, y2, z2⟩, st2⟩ := Jvm.LawKit.callS X1 hx (y := Y48_) hown (mvT hZ (oW hw 158 rfl)) (mvT hZ (oW hw 159 rfl)) (mvT hZ (oW hw 99 rfl)) (mvT hZ (oW hw 160 rfl)) (by decide) (backOf (W := 0) (r_rck l Z a0 hw [] s_D s_L s_LE s_E s_Z mr kd_ kl_ h0 n0 O0 G0 lo hi_ xs.length hlh hh4 hhn hn) hZ (oW hw 160 rfl) (oW hw 99 rfl) (by decide) (by decide)) (g := (mkF m 8 #[vR (a1), vI (lo.toInt32), vI (hi_.toInt32), vI (xs.length.toInt32)] [(.int xs.length.toInt32), (.int hi_.toInt32), (.int lo.toInt32)])) rfl (by rw [hml]; rfl) (argsL := [(.int lo.toInt32), (.int hi_.toInt32), (.int xs.length.toInt32)]) (rest := []) (lenOf pd_24 rfl) rfl (by exact Nat.le_of_eq rfl) (hb hby d19_8) (fun _ _ => ⟨rfl, e1, (by decide : 0 + 0 ≤ _), (by decide : 0 + 0 ≤ _)⟩)
  dsimp only [Pt.U, Pt.locs, Pt.cells, Pt.slots] at X2 l2 y2 z2 st2 hQ2
  subst l2 y2 z2
  obtain ⟨rfl, N2q, e2⟩ := hQ2
  have N2 := Fr.app N1 N2q
  obtain ⟨_, _, ⟨T3, L3, k3, n3⟩, -, X3, ⟨Lc3, hQ3, l3, y3, z3⟩, st3⟩ := Jvm.LawKit.callS X2 hx (y := Y47_) hown (mvT hZ (oW hw 161 rfl)) (mvT hZ (oW hw 162 rfl)) (mvT hZ (oW hw 163 rfl)) (mvT hZ (oW hw 164 rfl)) (by decide) (backOf (W := 0) (r_frl l Z a0 hw [] s_D s_L s_LE s_E s_Z mr kd_ kl_ h0 n0 O0 G0 a1 lo hi_ hlh hh4) hZ (oW hw 164 rfl) (oW hw 163 rfl) (by decide) (by decide)) (g := (mkF m 14 #[vR (a1), vI (lo.toInt32), vI (hi_.toInt32), vI (xs.length.toInt32)] [(.int hi_.toInt32), (.int lo.toInt32), (.ref a1)])) rfl (by rw [hml]; rfl) (argsL := [(.ref a1), (.int lo.toInt32), (.int hi_.toInt32)]) (rest := []) (lenOf pd_25 rfl) rfl (by exact Nat.le_of_eq rfl) (hb hby d19_14) (fun _ _ => ⟨rfl, e2, (by decide : 0 + 1 ≤ _), (by decide : 0 + 3 ≤ _)⟩)
  dsimp only [Pt.U, Pt.locs, Pt.cells, Pt.slots] at X3 l3 y3 z3 st3 hQ3
  subst l3 y3 z3
  obtain ⟨t3, rfl, N3q, Kq3, Sl3⟩ := hQ3
  have N3 := Fr.app N2 N3q
  have K3 : Keep h0 T3.heap [] := (Keep.refl h0 []).trans Kq3 all0
  obtain ⟨fs, hr, hrun, hended, hW, hsame⟩ := X3.leave (v := some (.ref t3)) (oR Bd.returns)
  refine ⟨_, _, pre0 _ ?_, hrun, hended, _, _, rfl, ?_, ⟨_, rfl⟩, hW, hsame.mono (by decide) (by decide)⟩
  · show own_St p e below s₁ m 0 #[vR (a1), vI (lo.toInt32), vI (hi_.toInt32), .unset] [] _
    refine XS.aloadN X0.here hx rfl (hb hby d19_0) rfl rfl ?_
    refine st1.trans ?_
    show own_St p e below T1 m 4 #[vR (a1), vI (lo.toInt32), vI (hi_.toInt32), .unset] [(.int xs.length.toInt32)] _
    refine XS.istoreN X1.here hx rfl (hb hby d19_4) rfl (l' := #[vR (a1), vI (lo.toInt32), vI (hi_.toInt32), vI (xs.length.toInt32)]) rfl ?_
    refine XS.iloadN X1.here hx rfl (hb hby d19_5) rfl ?_
    refine XS.iloadN X1.here hx rfl (hb hby d19_6) rfl ?_
    refine XS.iloadN X1.here hx rfl (hb hby d19_7) rfl ?_
    refine st2 _ ?_
    show own_St p e below T2 m 11 #[vR (a1), vI (lo.toInt32), vI (hi_.toInt32), vI (xs.length.toInt32)] [] _
    refine XS.aloadN X2.here hx rfl (hb hby d19_11) rfl rfl ?_
    refine XS.iloadN X2.here hx rfl (hb hby d19_12) rfl ?_
    refine XS.iloadN X2.here hx rfl (hb hby d19_13) rfl ?_
    refine st3 _ ?_
    show own_St p e below T3 m 17 #[vR (a1), vI (lo.toInt32), vI (hi_.toInt32), vI (xs.length.toInt32)] [(.ref t3)] _
    exact retOut X3 hx Bd.returns rfl (Or.inr (Or.inr (Or.inr (Or.inr ⟨rfl, rfl, rfl⟩)))) (hb hby d19_17) hr
  · show own_Qsl Z a1 lo (hi_ - lo) h0 n0 _ T3.heap _
    exact ⟨t3, rfl, N3, K3, Sl3⟩
theorem r_subA (l Z a0) (hw : own_HW a0 Z) (ws s_D s_L s_LE s_E s_Z mr kd_ kl_ h0 n0) (O0 : Old Z n0 h0) (G : own_Ctx Z Z.heap s_D s_L s_LE s_E s_Z mr kd_ kl_) (a1 x_ : Addr) (lo hi_ : Nat) (E1_ : Exa Z h0 a1 "java/util/ImmutableCollections$List12") (F1 : Fld Z h0 a1 "java/util/ImmutableCollections$List12" "e0" "Ljava/lang/Object;" (.ref x_)) (F2 : Fld Z h0 a1 "java/util/ImmutableCollections$List12" "e1" "Ljava/lang/Object;" (.ref s_E)) (hlh : lo ≤ hi_) (hh4 : hi_ ≤ 4) (hhn : hi_ ≤ [x_].length) :
    oM l Y49_ jdk_46_method_8_code 4 (some (.object "java/util/List")) ws (own_rm_ 6 1 3 78) #[(.ref a1), (.int lo.toInt32), (.int hi_.toInt32)] Z h0 n0 (own_Qsl Z a1 lo (hi_ - lo)) := by
  have G0 := G
  refine MetFree.of_bodySF (plainFor_of_name pn_4) hisR ?_
  intro p e s m args below meth c s₁ Bd hml0 hP hK
  obtain ⟨rfl, hZ, hh⟩ := hP
  have hx := Bd.exec
  have hby := Bd.bytes
  have hml : c.maxLocals = 4 := hml0
  have hown := findClass_of_methodNamed Bd.named
  have X0 : Stand p l e (own_rm_ 6 1 3 78) s m #[(.ref a1), (.int lo.toInt32), (.int hi_.toInt32)] below meth c s₁ [] 0 0 := Stand.of_body Bd
  have e0 : s₁.heap = h0 := by rw [← hh, Bd.state]; rfl
  have N0 := Fr.nil n0
  have pre0 := own_pre (tb := p.tables) (e := e) (below := below) (T := s₁) (ef_19_41 m a1 lo.toInt32 hi_.toInt32)
  obtain ⟨cq1, kq1, q1a, q1b, q1c⟩ := isOf hZ e0 E1_
  obtain ⟨_, _, ⟨T1, L1, k1, n1⟩, -, X1, ⟨Lc1, hQ1, l1, y1, z1⟩, st1⟩ := X0.virtualBackUp hx (x := Y35_) (y := Y30_) (owner := "java/util/AbstractCollection") hown (mvT hZ (oW hw 104 rfl)) (mvT hZ (oW hw 105 rfl)) (mvT hZ (oW hw 106 rfl)) (by decide) (mvT hZ (oW hw 326 rfl)) (mvT hZ (oW hw 327 rfl)) (backOf (W := 0) (r_szA l Z a0 hw [] s_D s_L s_LE s_E s_Z mr kd_ kl_ h0 n0 O0 G0 a1 x_ E1_ F1 F2) hZ (oW hw 328 rfl) (oW hw 306 rfl) (by decide) (by decide)) q1a q1c (g := (mkF m 1 #[vR (a1), vI (lo.toInt32), vI (hi_.toInt32), .unset] [(.ref a1)])) rfl (by rw [hml]; rfl) (Steps.refl _) (argsL := []) (rest := []) (lenOf pd_16 rfl) rfl (by exact Nat.le_of_eq rfl) (hb hby d19_1) (fun _ _ => ⟨rfl, e0, (by decide : 0 + 0 ≤ _), (by decide : 0 + 0 ≤ _)⟩)
  dsimp only [Pt.U, Pt.locs, Pt.cells, Pt.slots] at X1 l1 y1 z1 st1 hQ1
  subst l1 y1 z1
  obtain ⟨rfl, N1q, e1⟩ := hQ1
  have N1 := Fr.app N0 N1q
  obtain ⟨_, _, ⟨T2, L2, k2, n2⟩, -, X2, ⟨Lc2, hQ2, l2, y2, z2⟩, st2⟩ := Jvm.LawKit.callS X1 hx (y := Y48_) hown (mvT hZ (oW hw 158 rfl)) (mvT hZ (oW hw 159 rfl)) (mvT hZ (oW hw 99 rfl)) (mvT hZ (oW hw 160 rfl)) (by decide) (backOf (W := 0) (r_rck l Z a0 hw [] s_D s_L s_LE s_E s_Z mr kd_ kl_ h0 n0 O0 G0 lo hi_ 1 hlh hh4 hhn (by decide)) hZ (oW hw 160 rfl) (oW hw 99 rfl) (by decide) (by decide)) (g := (mkF m 8 #[vR (a1), vI (lo.toInt32), vI (hi_.toInt32), vI ((1 : Int32))] [(.int (1 : Int32)), (.int hi_.toInt32), (.int lo.toInt32)])) rfl (by rw [hml]; rfl) (argsL := [(.int lo.toInt32), (.int hi_.toInt32), (.int (1 : Int32))]) (rest := []) (lenOf pd_24 rfl) rfl (by exact Nat.le_of_eq rfl) (hb hby d19_8) (fun _ _ => ⟨rfl, e1, (by decide : 0 + 0 ≤ _), (by decide : 0 + 0 ≤ _)⟩)
  dsimp only [Pt.U, Pt.locs, Pt.cells, Pt.slots] at X2 l2 y2 z2 st2 hQ2
  subst l2 y2 z2
  obtain ⟨rfl, N2q, e2⟩ := hQ2
  have N2 := Fr.app N1 N2q
  obtain ⟨_, _, ⟨T3, L3, k3, n3⟩, -, X3, ⟨Lc3, hQ3, l3, y3, z3⟩, st3⟩ := Jvm.LawKit.callS X2 hx (y := Y47_) hown (mvT hZ (oW hw 161 rfl)) (mvT hZ (oW hw 162 rfl)) (mvT hZ (oW hw 163 rfl)) (mvT hZ (oW hw 164 rfl)) (by decide) (backOf (W := 0) (r_frl l Z a0 hw [] s_D s_L s_LE s_E s_Z mr kd_ kl_ h0 n0 O0 G0 a1 lo hi_ hlh hh4) hZ (oW hw 164 rfl) (oW hw 163 rfl) (by decide) (by decide)) (g := (mkF m 14 #[vR (a1), vI (lo.toInt32), vI (hi_.toInt32), vI ((1 : Int32))] [(.int hi_.toInt32), (.int lo.toInt32), (.ref a1)])) rfl (by rw [hml]; rfl) (argsL := [(.ref a1), (.int lo.toInt32), (.int hi_.toInt32)]) (rest := []) (lenOf pd_25 rfl) rfl (by exact Nat.le_of_eq rfl) (hb hby d19_14) (fun _ _ => ⟨rfl, e2, (by decide : 0 + 1 ≤ _), (by decide : 0 + 3 ≤ _)⟩)
  dsimp only [Pt.U, Pt.locs, Pt.cells, Pt.slots] at X3 l3 y3 z3 st3 hQ3
  subst l3 y3 z3
  obtain ⟨t3, rfl, N3q, Kq3, Sl3⟩ := hQ3
  have N3 := Fr.app N2 N3q
  have K3 : Keep h0 T3.heap [] := (Keep.refl h0 []).trans Kq3 all0
  obtain ⟨fs, hr, hrun, hended, hW, hsame⟩ := X3.leave (v := some (.ref t3)) (oR Bd.returns)
  refine ⟨_, _, pre0 _ ?_, hrun, hended, _, _, rfl, ?_, ⟨_, rfl⟩, hW, hsame.mono (by decide) (by decide)⟩
  · show own_St p e below s₁ m 0 #[vR (a1), vI (lo.toInt32), vI (hi_.toInt32), .unset] [] _
    refine XS.aloadN X0.here hx rfl (hb hby d19_0) rfl rfl ?_
    refine st1.trans ?_
    show own_St p e below T1 m 4 #[vR (a1), vI (lo.toInt32), vI (hi_.toInt32), .unset] [(.int (1 : Int32))] _
    refine XS.istoreN X1.here hx rfl (hb hby d19_4) rfl (l' := #[vR (a1), vI (lo.toInt32), vI (hi_.toInt32), vI ((1 : Int32))]) rfl ?_
    refine XS.iloadN X1.here hx rfl (hb hby d19_5) rfl ?_
    refine XS.iloadN X1.here hx rfl (hb hby d19_6) rfl ?_
    refine XS.iloadN X1.here hx rfl (hb hby d19_7) rfl ?_
    refine st2 _ ?_
    show own_St p e below T2 m 11 #[vR (a1), vI (lo.toInt32), vI (hi_.toInt32), vI ((1 : Int32))] [] _
    refine XS.aloadN X2.here hx rfl (hb hby d19_11) rfl rfl ?_
    refine XS.iloadN X2.here hx rfl (hb hby d19_12) rfl ?_
    refine XS.iloadN X2.here hx rfl (hb hby d19_13) rfl ?_
    refine st3 _ ?_
    show own_St p e below T3 m 17 #[vR (a1), vI (lo.toInt32), vI (hi_.toInt32), vI ((1 : Int32))] [(.ref t3)] _
    exact retOut X3 hx Bd.returns rfl (Or.inr (Or.inr (Or.inr (Or.inr ⟨rfl, rfl, rfl⟩)))) (hb hby d19_17) hr
  · show own_Qsl Z a1 lo (hi_ - lo) h0 n0 _ T3.heap _
    exact ⟨t3, rfl, N3, K3, Sl3⟩
theorem r_subB (l Z a0) (hw : own_HW a0 Z) (ws s_D s_L s_LE s_E s_Z mr kd_ kl_ h0 n0) (O0 : Old Z n0 h0) (G : own_Ctx Z Z.heap s_D s_L s_LE s_E s_Z mr kd_ kl_) (a1 x_ y_ : Addr) (lo hi_ : Nat) (E1_ : Exa Z h0 a1 "java/util/ImmutableCollections$List12") (F1 : Fld Z h0 a1 "java/util/ImmutableCollections$List12" "e0" "Ljava/lang/Object;" (.ref x_)) (F2 : Fld Z h0 a1 "java/util/ImmutableCollections$List12" "e1" "Ljava/lang/Object;" (.ref y_)) (hyE : y_ ≠ s_E) (hlh : lo ≤ hi_) (hh4 : hi_ ≤ 4) (hhn : hi_ ≤ [x_, y_].length) :
    oM l Y49_ jdk_46_method_8_code 4 (some (.object "java/util/List")) ws (own_rm_ 6 1 3 78) #[(.ref a1), (.int lo.toInt32), (.int hi_.toInt32)] Z h0 n0 (own_Qsl Z a1 lo (hi_ - lo)) := by
  have G0 := G
  refine MetFree.of_bodySF (plainFor_of_name pn_4) hisR ?_
  intro p e s m args below meth c s₁ Bd hml0 hP hK
  obtain ⟨rfl, hZ, hh⟩ := hP
  have hx := Bd.exec
  have hby := Bd.bytes
  have hml : c.maxLocals = 4 := hml0
  have hown := findClass_of_methodNamed Bd.named
  have X0 : Stand p l e (own_rm_ 6 1 3 78) s m #[(.ref a1), (.int lo.toInt32), (.int hi_.toInt32)] below meth c s₁ [] 0 0 := Stand.of_body Bd
  have e0 : s₁.heap = h0 := by rw [← hh, Bd.state]; rfl
  have N0 := Fr.nil n0
  have pre0 := own_pre (tb := p.tables) (e := e) (below := below) (T := s₁) (ef_19_41 m a1 lo.toInt32 hi_.toInt32)
  obtain ⟨cq1, kq1, q1a, q1b, q1c⟩ := isOf hZ e0 E1_
  obtain ⟨_, _, ⟨T1, L1, k1, n1⟩, -, X1, ⟨Lc1, hQ1, l1, y1, z1⟩, st1⟩ := X0.virtualBackUp hx (x := Y35_) (y := Y30_) (owner := "java/util/AbstractCollection") hown (mvT hZ (oW hw 104 rfl)) (mvT hZ (oW hw 105 rfl)) (mvT hZ (oW hw 106 rfl)) (by decide) (mvT hZ (oW hw 326 rfl)) (mvT hZ (oW hw 327 rfl)) (backOf (W := 0) (r_szB l Z a0 hw [] s_D s_L s_LE s_E s_Z mr kd_ kl_ h0 n0 O0 G0 a1 x_ y_ E1_ F1 F2 hyE) hZ (oW hw 328 rfl) (oW hw 306 rfl) (by decide) (by decide)) q1a q1c (g := (mkF m 1 #[vR (a1), vI (lo.toInt32), vI (hi_.toInt32), .unset] [(.ref a1)])) rfl (by rw [hml]; rfl) (Steps.refl _) (argsL := []) (rest := []) (lenOf pd_16 rfl) rfl (by exact Nat.le_of_eq rfl) (hb hby d19_1) (fun _ _ => ⟨rfl, e0, (by decide : 0 + 0 ≤ _), (by decide : 0 + 0 ≤ _)⟩)
  dsimp only [Pt.U, Pt.locs, Pt.cells, Pt.slots] at X1 l1 y1 z1 st1 hQ1
  subst l1 y1 z1
  obtain ⟨rfl, N1q, e1⟩ := hQ1
  have N1 := Fr.app N0 N1q
  obtain ⟨_, _, ⟨T2, L2, k2, n2⟩, -, X2, ⟨Lc2, hQ2, l2, y2, z2⟩, st2⟩ := Jvm.LawKit.callS X1 hx (y := Y48_) hown (mvT hZ (oW hw 158 rfl)) (mvT hZ (oW hw 159 rfl)) (mvT hZ (oW hw 99 rfl)) (mvT hZ (oW hw 160 rfl)) (by decide) (backOf (W := 0) (r_rck l Z a0 hw [] s_D s_L s_LE s_E s_Z mr kd_ kl_ h0 n0 O0 G0 lo hi_ 2 hlh hh4 hhn (by decide)) hZ (oW hw 160 rfl) (oW hw 99 rfl) (by decide) (by decide)) (g := (mkF m 8 #[vR (a1), vI (lo.toInt32), vI (hi_.toInt32), vI ((2 : Int32))] [(.int (2 : Int32)), (.int hi_.toInt32), (.int lo.toInt32)])) rfl (by rw [hml]; rfl) (argsL := [(.int lo.toInt32), (.int hi_.toInt32), (.int (2 : Int32))]) (rest := []) (lenOf pd_24 rfl) rfl (by exact Nat.le_of_eq rfl) (hb hby d19_8) (fun _ _ => ⟨rfl, e1, (by decide : 0 + 0 ≤ _), (by decide : 0 + 0 ≤ _)⟩)
  dsimp only [Pt.U, Pt.locs, Pt.cells, Pt.slots] at X2 l2 y2 z2 st2 hQ2
  subst l2 y2 z2
  obtain ⟨rfl, N2q, e2⟩ := hQ2
  have N2 := Fr.app N1 N2q
  obtain ⟨_, _, ⟨T3, L3, k3, n3⟩, -, X3, ⟨Lc3, hQ3, l3, y3, z3⟩, st3⟩ := Jvm.LawKit.callS X2 hx (y := Y47_) hown (mvT hZ (oW hw 161 rfl)) (mvT hZ (oW hw 162 rfl)) (mvT hZ (oW hw 163 rfl)) (mvT hZ (oW hw 164 rfl)) (by decide) (backOf (W := 0) (r_frl l Z a0 hw [] s_D s_L s_LE s_E s_Z mr kd_ kl_ h0 n0 O0 G0 a1 lo hi_ hlh hh4) hZ (oW hw 164 rfl) (oW hw 163 rfl) (by decide) (by decide)) (g := (mkF m 14 #[vR (a1), vI (lo.toInt32), vI (hi_.toInt32), vI ((2 : Int32))] [(.int hi_.toInt32), (.int lo.toInt32), (.ref a1)])) rfl (by rw [hml]; rfl) (argsL := [(.ref a1), (.int lo.toInt32), (.int hi_.toInt32)]) (rest := []) (lenOf pd_25 rfl) rfl (by exact Nat.le_of_eq rfl) (hb hby d19_14) (fun _ _ => ⟨rfl, e2, (by decide : 0 + 1 ≤ _), (by decide : 0 + 3 ≤ _)⟩)
  dsimp only [Pt.U, Pt.locs, Pt.cells, Pt.slots] at X3 l3 y3 z3 st3 hQ3
  subst l3 y3 z3
  obtain ⟨t3, rfl, N3q, Kq3, Sl3⟩ := hQ3
  have N3 := Fr.app N2 N3q
  have K3 : Keep h0 T3.heap [] := (Keep.refl h0 []).trans Kq3 all0
  obtain ⟨fs, hr, hrun, hended, hW, hsame⟩ := X3.leave (v := some (.ref t3)) (oR Bd.returns)
  refine ⟨_, _, pre0 _ ?_, hrun, hended, _, _, rfl, ?_, ⟨_, rfl⟩, hW, hsame.mono (by decide) (by decide)⟩
  · show own_St p e below s₁ m 0 #[vR (a1), vI (lo.toInt32), vI (hi_.toInt32), .unset] [] _
    refine XS.aloadN X0.here hx rfl (hb hby d19_0) rfl rfl ?_
    refine st1.trans ?_
    show own_St p e below T1 m 4 #[vR (a1), vI (lo.toInt32), vI (hi_.toInt32), .unset] [(.int (2 : Int32))] _
    refine XS.istoreN X1.here hx rfl (hb hby d19_4) rfl (l' := #[vR (a1), vI (lo.toInt32), vI (hi_.toInt32), vI ((2 : Int32))]) rfl ?_
    refine XS.iloadN X1.here hx rfl (hb hby d19_5) rfl ?_
    refine XS.iloadN X1.here hx rfl (hb hby d19_6) rfl ?_
    refine XS.iloadN X1.here hx rfl (hb hby d19_7) rfl ?_
    refine st2 _ ?_
    show own_St p e below T2 m 11 #[vR (a1), vI (lo.toInt32), vI (hi_.toInt32), vI ((2 : Int32))] [] _
    refine XS.aloadN X2.here hx rfl (hb hby d19_11) rfl rfl ?_
    refine XS.iloadN X2.here hx rfl (hb hby d19_12) rfl ?_
    refine XS.iloadN X2.here hx rfl (hb hby d19_13) rfl ?_
    refine st3 _ ?_
    show own_St p e below T3 m 17 #[vR (a1), vI (lo.toInt32), vI (hi_.toInt32), vI ((2 : Int32))] [(.ref t3)] _
    exact retOut X3 hx Bd.returns rfl (Or.inr (Or.inr (Or.inr (Or.inr ⟨rfl, rfl, rfl⟩)))) (hb hby d19_17) hr
  · show own_Qsl Z a1 lo (hi_ - lo) h0 n0 _ T3.heap _
    exact ⟨t3, rfl, N3, K3, Sl3⟩
theorem d18_0 : D18_ 0 = .ok (.iload_n 0, 1) := by decide +kernel
theorem d18_1 : D18_ 1 = .ok (.ifCond .lt 8, 3) := by decide +kernel
theorem d18_4 : D18_ 4 = .ok (.iload_n 0, 1) := by decide +kernel
theorem d18_5 : D18_ 5 = .ok (.iload_n 1, 1) := by decide +kernel
theorem d18_6 : D18_ 6 = .ok (.if_icmp .lt 10, 3) := by decide +kernel
theorem d18_16 : D18_ 16 = .ok (.iload_n 0, 1) := by decide +kernel
theorem d18_17 : D18_ 17 = .ok (.ireturn, 1) := by decide +kernel
theorem ef_18_42 (m : MethodId) (x0 : Int32) (x1 : Int32) : entryFrame m #[(.int x0), (.int x1), .null] 3 = mkF m 0 #[vI (x0), vI (x1), .val .null] [] := by first | (simp [entryFrame, mkF, argsToLocals, Value.category]; done) | rfl
theorem pn_17 : plainName "jdk/internal/util/Preconditions" = true := by first | (simp [plainName, overriddenIn]; done) | decide +kernel
theorem r_pci (l Z a0) (hw : own_HW a0 Z) (ws s_D s_L s_LE s_E s_Z mr kd_ kl_ h0 n0) (O0 : Old Z n0 h0) (G : own_Ctx Z Z.heap s_D s_L s_LE s_E s_Z mr kd_ kl_) (i j : Int32) (h1 : ¬ (i < (0 : Int32))) (h2 : i < j) :
    oM l Y50_ jdk_41_method_11_code 3 (some .int) ws (own_rm_ 0 0 0 0) #[(.int i), (.int j), .null] Z h0 n0 (own_Q (some (.int i))) := by
  have G0 := G
  refine MetFree.of_bodySF (plainFor_of_name pn_17) hisR ?_
  intro p e s m args below meth c s₁ Bd hml0 hP hK
  obtain ⟨rfl, hZ, hh⟩ := hP
  have hx := Bd.exec
  have hby := Bd.bytes
  have hml : c.maxLocals = 3 := hml0
  have hown := findClass_of_methodNamed Bd.named
  have X0 : Stand p l e (own_rm_ 0 0 0 0) s m #[(.int i), (.int j), .null] below meth c s₁ [] 0 0 := Stand.of_body Bd
  have e0 : s₁.heap = h0 := by rw [← hh, Bd.state]; rfl
  have N0 := Fr.nil n0
  have pre0 := own_pre (tb := p.tables) (e := e) (below := below) (T := s₁) (ef_18_42 m i j)
  obtain ⟨fs, hr, hrun, hended, hW, hsame⟩ := X0.leave (v := some (.int i)) (oR Bd.returns)
  refine ⟨_, _, pre0 _ ?_, hrun, hended, _, _, rfl, ?_, ⟨_, rfl⟩, hW, hsame.mono (by decide) (by decide)⟩
  · show own_St p e below s₁ m 0 #[vI (i), vI (j), .val .null] [] _
    refine XS.iloadN X0.here hx rfl (hb hby d18_0) rfl ?_
    refine XS.ifNo X0.here hx rfl (hb hby d18_1) rfl ((if0 _ _).trans (flt (h1 : ¬ (i < (0 : Int32)))).1) ?_
    refine XS.iloadN X0.here hx rfl (hb hby d18_4) rfl ?_
    refine XS.iloadN X0.here hx rfl (hb hby d18_5) rfl ?_
    refine XS.icmpYes X0.here hx rfl (pc0 := 6) (pc' := 16) rfl (hb hby d18_6) rfl (tlt (h2 : i < j)).1 (by decide) (by decide) ?_
    refine XS.iloadN X0.here hx rfl (hb hby d18_16) rfl ?_
    show own_St p e below s₁ m 17 #[vI (i), vI (j), .val .null] [(.int i)] _
    exact retI X0 hx Bd.returns (hb hby d18_17) hr
  · show own_Q (some (.int i)) h0 n0 _ s₁.heap _
    rw [e0]
    exact ⟨rfl, N0, rfl⟩
theorem d17_0 : D17_ 0 = .ok (.iload_n 0, 1) := by decide +kernel
theorem d17_1 : D17_ 1 = .ok (.iload_n 1, 1) := by decide +kernel
theorem d17_2 : D17_ 2 = .ok (.aconst_null, 1) := by decide +kernel
theorem d17_3 : D17_ 3 = .ok (.invokestatic 105, 3) := by decide +kernel
theorem pd_26 : parseMethodDescriptor "(IILjava/util/function/BiFunction;)I" = some ⟨[.int, .int, (.object "java/util/function/BiFunction")], some .int⟩ := by decide +kernel
theorem d17_6 : D17_ 6 = .ok (.ireturn, 1) := by decide +kernel
theorem ef_17_43 (m : MethodId) (x0 : Int32) (x1 : Int32) : entryFrame m #[(.int x0), (.int x1)] 2 = mkF m 0 #[vI (x0), vI (x1)] [] := by first | (simp [entryFrame, mkF, argsToLocals, Value.category]; done) | rfl
theorem r_oci (l Z a0) (hw : own_HW a0 Z) (ws s_D s_L s_LE s_E s_Z mr kd_ kl_ h0 n0) (O0 : Old Z n0 h0) (G : own_Ctx Z Z.heap s_D s_L s_LE s_E s_Z mr kd_ kl_) (i j : Int32) (h1 : ¬ (i < (0 : Int32))) (h2 : i < j) :
    oM l Y51_ jdk_31_method_17_code 2 (some .int) ws (own_rm_ 1 0 0 14) #[(.int i), (.int j)] Z h0 n0 (own_Q (some (.int i))) := by
  have G0 := G
  refine MetFree.of_bodySF (plainFor_of_name pn_5) hisR ?_
  intro p e s m args below meth c s₁ Bd hml0 hP hK
  obtain ⟨rfl, hZ, hh⟩ := hP
  have hx := Bd.exec
  have hby := Bd.bytes
  have hml : c.maxLocals = 2 := hml0
  have hown := findClass_of_methodNamed Bd.named
  have X0 : Stand p l e (own_rm_ 1 0 0 14) s m #[(.int i), (.int j)] below meth c s₁ [] 0 0 := Stand.of_body Bd
  have e0 : s₁.heap = h0 := by rw [← hh, Bd.state]; rfl
  have N0 := Fr.nil n0
  have pre0 := own_pre (tb := p.tables) (e := e) (below := below) (T := s₁) (ef_17_43 m i j)
  obtain ⟨_, _, ⟨T1, L1, k1, n1⟩, -, X1, ⟨Lc1, hQ1, l1, y1, z1⟩, st1⟩ := Jvm.LawKit.callS X0 hx (y := Y50_) hown (mvT hZ (oW hw 146 rfl)) (mvT hZ (oW hw 147 rfl)) (mvT hZ (oW hw 148 rfl)) (mvT hZ (oW hw 149 rfl)) (by decide) (backOf (W := 0) (r_pci l Z a0 hw [] s_D s_L s_LE s_E s_Z mr kd_ kl_ h0 n0 O0 G0 i j h1 h2) hZ (oW hw 149 rfl) (oW hw 148 rfl) (by decide) (by decide)) (g := (mkF m 3 #[vI (i), vI (j)] [.null, (.int j), (.int i)])) rfl (by rw [hml]; rfl) (argsL := [(.int i), (.int j), .null]) (rest := []) (lenOf pd_26 rfl) rfl (by exact Nat.le_of_eq rfl) (hb hby d17_3) (fun _ _ => ⟨rfl, e0, (by decide : 0 + 0 ≤ _), (by decide : 0 + 0 ≤ _)⟩)
  dsimp only [Pt.U, Pt.locs, Pt.cells, Pt.slots] at X1 l1 y1 z1 st1 hQ1
  subst l1 y1 z1
  obtain ⟨rfl, N1q, e1⟩ := hQ1
  have N1 := Fr.app N0 N1q
  obtain ⟨fs, hr, hrun, hended, hW, hsame⟩ := X1.leave (v := some (.int i)) (oR Bd.returns)
  refine ⟨_, _, pre0 _ ?_, hrun, hended, _, _, rfl, ?_, ⟨_, rfl⟩, hW, hsame.mono (by decide) (by decide)⟩
  · show own_St p e below s₁ m 0 #[vI (i), vI (j)] [] _
    refine XS.iloadN X0.here hx rfl (hb hby d17_0) rfl ?_
    refine XS.iloadN X0.here hx rfl (hb hby d17_1) rfl ?_
    refine XS.aconstNull X0.here hx rfl (hb hby d17_2) ?_
    refine st1 _ ?_
    show own_St p e below T1 m 6 #[vI (i), vI (j)] [(.int i)] _
    exact retI X1 hx Bd.returns (hb hby d17_6) hr
  · show own_Q (some (.int i)) h0 n0 _ T1.heap _
    rw [e1]
    exact ⟨rfl, N1, rfl⟩
theorem own_c2_end {n t : Nat} (ss : List Nat) (h : t ≤ n) : (own_c2 n ss n).getD t (.int (0 : Int32)) = .int (own_ct ss t).toInt32 := by
  rw [own_c2_at ss n (by omega), if_pos h]
theorem own_ct_mono (ss : List Nat) (t : Nat) : own_ct ss t ≤ own_ct ss (t + 1) := by rw [own_ct_succ]; omega
theorem own_ins {i n : Nat} (h : i < n) (hn : n ≤ 4) : ¬ (i.toInt32 < 0) ∧ i.toInt32 < (n + 1).toInt32 := ⟨(own_ti (by omega)).2.1, own_tl (by omega) (by omega)⟩
theorem d16_0 : D16_ 0 = .ok (.iload_n 1, 1) := by decide +kernel
theorem d16_1 : D16_ 1 = .ok (.aload_n 0, 1) := by decide +kernel
theorem d16_2 : D16_ 2 = .ok (.getfield 13, 3) := by decide +kernel
theorem d16_5 : D16_ 5 = .ok (.arraylength, 1) := by decide +kernel
theorem d16_6 : D16_ 6 = .ok (.invokestatic 45, 3) := by decide +kernel
theorem d16_9 : D16_ 9 = .ok (.pop, 1) := by decide +kernel
theorem d16_10 : D16_ 10 = .ok (.aload_n 0, 1) := by decide +kernel
theorem d16_11 : D16_ 11 = .ok (.getfield 28, 3) := by decide +kernel
theorem d16_14 : D16_ 14 = .ok (.aload_n 0, 1) := by decide +kernel
theorem d16_15 : D16_ 15 = .ok (.getfield 41, 3) := by decide +kernel
theorem d16_18 : D16_ 18 = .ok (.iload_n 1, 1) := by decide +kernel
theorem d16_19 : D16_ 19 = .ok (.iaload, 1) := by decide +kernel
theorem d16_20 : D16_ 20 = .ok (.aload_n 0, 1) := by decide +kernel
theorem d16_21 : D16_ 21 = .ok (.getfield 41, 3) := by decide +kernel
theorem d16_24 : D16_ 24 = .ok (.iload_n 1, 1) := by decide +kernel
theorem d16_25 : D16_ 25 = .ok (.iconst 1, 1) := by decide +kernel
theorem d16_26 : D16_ 26 = .ok (.iadd, 1) := by decide +kernel
theorem d16_27 : D16_ 27 = .ok (.iaload, 1) := by decide +kernel
theorem d16_28 : D16_ 28 = .ok (.invokeinterface 51 3, 5) := by decide +kernel
theorem pd_27 : parseMethodDescriptor "(II)Ljava/util/List;" = some ⟨[.int, .int], some (.object "java/util/List")⟩ := by decide +kernel
theorem d16_33 : D16_ 33 = .ok (.areturn, 1) := by decide +kernel
theorem ef_16_44 (m : MethodId) (x0 : Addr) (x1 : Int32) : entryFrame m #[(.ref x0), (.int x1)] 2 = mkF m 0 #[vR (x0), vI (x1)] [] := by first | (simp [entryFrame, mkF, argsToLocals, Value.category]; done) | rfl
theorem r_afN (l Z a0) (hw : own_HW a0 Z) (ws s_D s_L s_LE s_E s_Z mr kd_ kl_ h0 n0) (O0 : Old Z n0 h0) (G : own_Ctx Z Z.heap s_D s_L s_LE s_E s_Z mr kd_ kl_) (a9 a4 a7 : Addr) (k4 k7 : ClassId) (vs4 : List Value) (n nd : Nat) (ss : List Nat) (a1 a2 : Addr) (k2 : ClassId) (xs : List Addr) (Ec : Exa Z h0 a9 "com/example/hodos/hodos/analysis/Course") (Fst : Fld Z h0 a9 "com/example/hodos/hodos/analysis/Course" "stops" "[Z" (.ref a4)) (Vst : Arv Z h0 a4 k4 .boolean n.toInt32 vs4 (.int (0 : Int32))) (Far : Fld Z h0 a9 "com/example/hodos/hodos/analysis/Course" "arcs" "Ljava/util/List;" (.ref a1)) (Ffi : Fld Z h0 a9 "com/example/hodos/hodos/analysis/Course" "firstArc" "[I" (.ref a7)) (Vfi : Arv Z h0 a7 k7 .int (n + 1).toInt32 (own_c2 n ss n) (.int (0 : Int32))) (hN : n ≤ 4) (hnd : nd < n) (hsl : ss.length = xs.length) (E1_ : Exa Z h0 a1 "java/util/ImmutableCollections$ListN") (F1 : Fld Z h0 a1 "java/util/ImmutableCollections$ListN" "elements" "[Ljava/lang/Object;" (.ref a2)) (Va : Arv Z h0 a2 k2 (.object "java/lang/Object") xs.length.toInt32 (xs.map Value.ref) .null) (hn : xs.length ≤ 4) :
    oM l Y52_ prog_8_method_4_code 2 (some (.object "java/util/List")) ws (own_rm_ 7 1 3 93) #[(.ref a9), (.int nd.toInt32)] Z h0 n0 (own_Qsl Z a1 (own_ct ss nd) (own_ct ss (nd + 1) - own_ct ss nd)) := by
  have G0 := G
  refine MetFree.of_bodySF (plainFor_of_name pn_15) hisR ?_
  intro p e s m args below meth c s₁ Bd hml0 hP hK
  obtain ⟨rfl, hZ, hh⟩ := hP
  have hx := Bd.exec
  have hby := Bd.bytes
  have hml : c.maxLocals = 2 := hml0
  have hown := findClass_of_methodNamed Bd.named
  have X0 : Stand p l e (own_rm_ 7 1 3 93) s m #[(.ref a9), (.int nd.toInt32)] below meth c s₁ [] 0 0 := Stand.of_body Bd
  have e0 : s₁.heap = h0 := by rw [← hh, Bd.state]; rfl
  have N0 := Fr.nil n0
  have pre0 := own_pre (tb := p.tables) (e := e) (below := below) (T := s₁) (ef_16_44 m a9 nd.toInt32)
  have hcn : own_ct ss (nd + 1) ≤ xs.length := by rw [← hsl]; exact own_ct_le ss _
  have hc4 : own_ct ss (nd + 1) ≤ 4 := Nat.le_trans hcn (hn)
  obtain ⟨T1, X1, e1, st1⟩ := getF X0 hx hZ hown (host := "") (Or.inl (oW hw 48 rfl)) Via.refl e0 Fst (g := (mkF m 2 #[vR (a9), vI (nd.toInt32)] [(.ref a9), (.int nd.toInt32)])) rfl rfl (hb hby d16_2)
  have vc2 := Vst
  obtain ⟨cl2, Ar2, qk2, S2, Nn2, Hs2, Gf2⟩ := vc2
  obtain ⟨_, _, ⟨T3, L3, k3, n3⟩, -, X3, ⟨Lc3, hQ3, l3, y3, z3⟩, st3⟩ := Jvm.LawKit.callS X1 hx (y := Y51_) hown (mvT hZ (oW hw 142 rfl)) (mvT hZ (oW hw 143 rfl)) (mvT hZ (oW hw 144 rfl)) (mvT hZ (oW hw 145 rfl)) (by decide) (backOf (W := 0) (r_oci l Z a0 hw [] s_D s_L s_LE s_E s_Z mr kd_ kl_ h0 n0 O0 G0 nd.toInt32 n.toInt32 (own_inx hnd hN).1 (own_inx hnd hN).2) hZ (oW hw 145 rfl) (oW hw 144 rfl) (by decide) (by decide)) (g := (mkF m 6 #[vR (a9), vI (nd.toInt32)] [(.int n.toInt32), (.int nd.toInt32)])) rfl (by rw [hml]; rfl) (argsL := [(.int nd.toInt32), (.int n.toInt32)]) (rest := []) (lenOf pd_1 rfl) rfl (by exact Nat.le_of_eq rfl) (hb hby d16_6) (fun _ _ => ⟨rfl, e1, (by decide : 0 + 0 ≤ _), (by decide : 0 + 0 ≤ _)⟩)
  dsimp only [Pt.U, Pt.locs, Pt.cells, Pt.slots] at X3 l3 y3 z3 st3 hQ3
  subst l3 y3 z3
  obtain ⟨rfl, N3q, e3⟩ := hQ3
  have N3 := Fr.app N0 N3q
  obtain ⟨T4, X4, e4, st4⟩ := getF X3 hx hZ hown (host := "") (Or.inl (oW hw 81 rfl)) Via.refl e3 Far (g := (mkF m 11 #[vR (a9), vI (nd.toInt32)] [(.ref a9)])) rfl rfl (hb hby d16_11)
  obtain ⟨T5, X5, e5, st5⟩ := getF X4 hx hZ hown (host := "") (Or.inl (oW hw 135 rfl)) Via.refl e4 Ffi (g := (mkF m 15 #[vR (a9), vI (nd.toInt32)] [(.ref a9), (.ref a1)])) rfl rfl (hb hby d16_15)
  have vc6 := Vfi
  obtain ⟨cl6, Ar6, qk6, S6, Nn6, Hs6, Gf6⟩ := vc6
  have hin6 : ¬ (nd.toInt32 < 0 ∨ cl6.slots.size ≤ (nd.toInt32).toNatClampNeg) := inb_of S6 (own_ins hnd hN)
  have hat6 : cl6.slots[(nd.toInt32).toNatClampNeg]? = some (.int (own_ct ss nd).toInt32) := Has.at Hs6 hin6 (by rw [(own_ti (own_k4 hnd hN)).1]; exact own_c2_end ss (Nat.le_of_lt hnd))
  obtain ⟨T7, X7, e7, st7⟩ := getF X5 hx hZ hown (host := "") (Or.inl (oW hw 135 rfl)) Via.refl e5 Ffi (g := (mkF m 21 #[vR (a9), vI (nd.toInt32)] [(.ref a9), (.int (own_ct ss nd).toInt32), (.ref a1)])) rfl rfl (hb hby d16_21)
  have vc8 := Vfi
  obtain ⟨cl8, Ar8, qk8, S8, Nn8, Hs8, Gf8⟩ := vc8
  have hin8 : ¬ ((nd + 1).toInt32 < 0 ∨ cl8.slots.size ≤ ((nd + 1).toInt32).toNatClampNeg) := inb_of S8 (own_in5 hnd hN)
  have hat8 : cl8.slots[((nd + 1).toInt32).toNatClampNeg]? = some (.int (own_ct ss (nd + 1)).toInt32) := Has.at Hs8 hin8 (by rw [(own_ti (own_k5 (Nat.le_trans (Nat.le_of_lt hnd) hN))).1]; exact own_c2_end ss hnd)
  obtain ⟨cq9, kq9, q9a, q9b, q9c⟩ := isOf hZ e7 E1_
  obtain ⟨_, _, ⟨T9, L9, k9, n9⟩, -, X9, ⟨Lc9, hQ9, l9, y9, z9⟩, st9⟩ := X7.interfaceBack hx (xi := Y53_) (y := Y49_) hown (mvT hZ (oW hw 150 rfl)) (mvT hZ (oW hw 151 rfl)) (mvT hZ (oW hw 152 rfl)) (mvT hZ (oW hw 153 rfl)) (mvT hZ (oW hw 154 rfl)) (mvT hZ (oW hw 155 rfl)) (mvT hZ (oW hw 156 rfl)) (mvT hZ (oW hw 98 rfl)) (by decide) (backOf (W := 0) (r_subN l Z a0 hw [] s_D s_L s_LE s_E s_Z mr kd_ kl_ h0 n0 O0 G0 a1 a2 k2 xs (own_ct ss nd) (own_ct ss (nd + 1))  E1_ F1 Va hn (own_ct_mono ss nd) hc4 hcn) hZ (oW hw 157 rfl) (oW hw 99 rfl) (by decide) (by decide)) q9a q9b q9c (g := (mkF m 28 #[vR (a9), vI (nd.toInt32)] [(.int (own_ct ss (nd + 1)).toInt32), (.int (own_ct ss nd).toInt32), (.ref a1)])) rfl (by rw [hml]; rfl) (Steps.refl _) (argsL := [(.int (own_ct ss nd).toInt32), (.int (own_ct ss (nd + 1)).toInt32)]) (rest := []) (lenOf pd_27 rfl) rfl (by exact Nat.le_of_eq rfl) (hb hby d16_28) (fun _ _ => ⟨rfl, e7, (by decide : 0 + 1 ≤ _), (by decide : 0 + 3 ≤ _)⟩)
  dsimp only [Pt.U, Pt.locs, Pt.cells, Pt.slots] at X9 l9 y9 z9 st9 hQ9
  subst l9 y9 z9
  obtain ⟨t9, rfl, N9q, Kq9, Sl9⟩ := hQ9
  have N9 := Fr.app N3 N9q
  have K9 : Keep h0 T9.heap [] := (Keep.refl h0 []).trans Kq9 all0
  obtain ⟨fs, hr, hrun, hended, hW, hsame⟩ := X9.leave (v := some (.ref t9)) (oR Bd.returns)
  refine ⟨_, _, pre0 _ ?_, hrun, hended, _, _, rfl, ?_, ⟨_, rfl⟩, hW, hsame.mono (by decide) (by decide)⟩
  · show own_St p e below s₁ m 0 #[vR (a9), vI (nd.toInt32)] [] _
    refine XS.iloadN X0.here hx rfl (hb hby d16_0) rfl ?_
    refine XS.aloadN X0.here hx rfl (hb hby d16_1) rfl rfl ?_
    refine st1 _ ?_
    show own_St p e below T1 m 5 #[vR (a9), vI (nd.toInt32)] [(.ref a4), (.int nd.toInt32)] _
    refine X1.arraylength hx (by rw [e1]; exact Ar2.1) (State.isArrayOf_alike hZ.alike Ar2.2.1) (g := (mkF m 5 #[vR (a9), vI (nd.toInt32)] [(.ref a4), (.int nd.toInt32)])) rfl rfl (hb hby d16_5) _ ?_
    rw [len_of S2 Nn2]
    refine st3 _ ?_
    show own_St p e below T3 m 9 #[vR (a9), vI (nd.toInt32)] [(.int nd.toInt32)] _
    refine XS.pop X3.here hx rfl (hb hby d16_9) rfl rfl ?_
    show own_St p e below T3 m 10 #[vR (a9), vI (nd.toInt32)] [] _
    refine XS.aloadN X3.here hx rfl (hb hby d16_10) rfl rfl ?_
    refine st4 _ ?_
    show own_St p e below T4 m 14 #[vR (a9), vI (nd.toInt32)] [(.ref a1)] _
    refine XS.aloadN X4.here hx rfl (hb hby d16_14) rfl rfl ?_
    refine st5 _ ?_
    show own_St p e below T5 m 18 #[vR (a9), vI (nd.toInt32)] [(.ref a7), (.ref a1)] _
    refine XS.iloadN X5.here hx rfl (hb hby d16_18) rfl ?_
    show own_St p e below T5 m 19 #[vR (a9), vI (nd.toInt32)] [(.int nd.toInt32), (.ref a7), (.ref a1)] _
    refine X5.iaload hx (j := nd.toInt32) (v := (.int (own_ct ss nd).toInt32)) (by rw [e5]; exact Ar6.1) (State.isArrayOf_alike hZ.alike Ar6.2.1) Ar6.2.2 hin6 hat6 (g := (mkF m 19 #[vR (a9), vI (nd.toInt32)] [(.int nd.toInt32), (.ref a7), (.ref a1)])) rfl rfl (hb hby d16_19) _ ?_
    show own_St p e below T5 m 20 #[vR (a9), vI (nd.toInt32)] [(.int (own_ct ss nd).toInt32), (.ref a1)] _
    refine XS.aloadN X5.here hx rfl (hb hby d16_20) rfl rfl ?_
    refine st7 _ ?_
    show own_St p e below T7 m 24 #[vR (a9), vI (nd.toInt32)] [(.ref a7), (.int (own_ct ss nd).toInt32), (.ref a1)] _
    refine XS.iloadN X7.here hx rfl (hb hby d16_24) rfl ?_
    refine XS.iconst X7.here hx rfl (hb hby d16_25) ?_
    refine XS.iadd X7.here hx rfl (hb hby d16_26) rfl ?_
    show own_St p e below T7 m 27 #[vR (a9), vI (nd.toInt32)] [(.int (nd.toInt32 + (1 : Int32))), (.ref a7), (.int (own_ct ss nd).toInt32), (.ref a1)] _
    rw [own_ts (own_k4 hnd hN)]
    show own_St p e below T7 m 27 #[vR (a9), vI (nd.toInt32)] [(.int (nd + 1).toInt32), (.ref a7), (.int (own_ct ss nd).toInt32), (.ref a1)] _
    refine X7.iaload hx (j := (nd + 1).toInt32) (v := (.int (own_ct ss (nd + 1)).toInt32)) (by rw [e7]; exact Ar8.1) (State.isArrayOf_alike hZ.alike Ar8.2.1) Ar8.2.2 hin8 hat8 (g := (mkF m 27 #[vR (a9), vI (nd.toInt32)] [(.int (nd + 1).toInt32), (.ref a7), (.int (own_ct ss nd).toInt32), (.ref a1)])) rfl rfl (hb hby d16_27) _ ?_
    refine st9.trans ?_
    show own_St p e below T9 m 33 #[vR (a9), vI (nd.toInt32)] [(.ref t9)] _
    exact retOut X9 hx Bd.returns rfl (Or.inr (Or.inr (Or.inr (Or.inr ⟨rfl, rfl, rfl⟩)))) (hb hby d16_33) hr
  · show own_Qsl Z a1 (own_ct ss nd) (own_ct ss (nd + 1) - own_ct ss nd) h0 n0 _ T9.heap _
    exact ⟨t9, rfl, N9, K9, Sl9⟩
theorem r_afA (l Z a0) (hw : own_HW a0 Z) (ws s_D s_L s_LE s_E s_Z mr kd_ kl_ h0 n0) (O0 : Old Z n0 h0) (G : own_Ctx Z Z.heap s_D s_L s_LE s_E s_Z mr kd_ kl_) (a9 a4 a7 : Addr) (k4 k7 : ClassId) (vs4 : List Value) (n nd : Nat) (ss : List Nat) (a1 x_ : Addr) (Ec : Exa Z h0 a9 "com/example/hodos/hodos/analysis/Course") (Fst : Fld Z h0 a9 "com/example/hodos/hodos/analysis/Course" "stops" "[Z" (.ref a4)) (Vst : Arv Z h0 a4 k4 .boolean n.toInt32 vs4 (.int (0 : Int32))) (Far : Fld Z h0 a9 "com/example/hodos/hodos/analysis/Course" "arcs" "Ljava/util/List;" (.ref a1)) (Ffi : Fld Z h0 a9 "com/example/hodos/hodos/analysis/Course" "firstArc" "[I" (.ref a7)) (Vfi : Arv Z h0 a7 k7 .int (n + 1).toInt32 (own_c2 n ss n) (.int (0 : Int32))) (hN : n ≤ 4) (hnd : nd < n) (hsl : ss.length = [x_].length) (E1_ : Exa Z h0 a1 "java/util/ImmutableCollections$List12") (F1 : Fld Z h0 a1 "java/util/ImmutableCollections$List12" "e0" "Ljava/lang/Object;" (.ref x_)) (F2 : Fld Z h0 a1 "java/util/ImmutableCollections$List12" "e1" "Ljava/lang/Object;" (.ref s_E)) :
    oM l Y52_ prog_8_method_4_code 2 (some (.object "java/util/List")) ws (own_rm_ 7 1 3 93) #[(.ref a9), (.int nd.toInt32)] Z h0 n0 (own_Qsl Z a1 (own_ct ss nd) (own_ct ss (nd + 1) - own_ct ss nd)) := by
  have G0 := G
  refine MetFree.of_bodySF (plainFor_of_name pn_15) hisR ?_
  intro p e s m args below meth c s₁ Bd hml0 hP hK
  obtain ⟨rfl, hZ, hh⟩ := hP
  have hx := Bd.exec
  have hby := Bd.bytes
  have hml : c.maxLocals = 2 := hml0
  have hown := findClass_of_methodNamed Bd.named
  have X0 : Stand p l e (own_rm_ 7 1 3 93) s m #[(.ref a9), (.int nd.toInt32)] below meth c s₁ [] 0 0 := Stand.of_body Bd
  have e0 : s₁.heap = h0 := by rw [← hh, Bd.state]; rfl
  have N0 := Fr.nil n0
  have pre0 := own_pre (tb := p.tables) (e := e) (below := below) (T := s₁) (ef_16_44 m a9 nd.toInt32)
  have hcn : own_ct ss (nd + 1) ≤ [x_].length := by rw [← hsl]; exact own_ct_le ss _
  have hc4 : own_ct ss (nd + 1) ≤ 4 := Nat.le_trans hcn (Nat.le_of_ble_eq_true rfl)
  obtain ⟨T1, X1, e1, st1⟩ := getF X0 hx hZ hown (host := "") (Or.inl (oW hw 48 rfl)) Via.refl e0 Fst (g := (mkF m 2 #[vR (a9), vI (nd.toInt32)] [(.ref a9), (.int nd.toInt32)])) rfl rfl (hb hby d16_2)
  have vc2 := Vst
  obtain ⟨cl2, Ar2, qk2, S2, Nn2, Hs2, Gf2⟩ := vc2
  obtain ⟨_, _, ⟨T3, L3, k3, n3⟩, -, X3, ⟨Lc3, hQ3, l3, y3, z3⟩, st3⟩ := Jvm.LawKit.callS X1 hx (y := Y51_) hown (mvT hZ (oW hw 142 rfl)) (mvT hZ (oW hw 143 rfl)) (mvT hZ (oW hw 144 rfl)) (mvT hZ (oW hw 145 rfl)) (by decide) (backOf (W := 0) (r_oci l Z a0 hw [] s_D s_L s_LE s_E s_Z mr kd_ kl_ h0 n0 O0 G0 nd.toInt32 n.toInt32 (own_inx hnd hN).1 (own_inx hnd hN).2) hZ (oW hw 145 rfl) (oW hw 144 rfl) (by decide) (by decide)) (g := (mkF m 6 #[vR (a9), vI (nd.toInt32)] [(.int n.toInt32), (.int nd.toInt32)])) rfl (by rw [hml]; rfl) (argsL := [(.int nd.toInt32), (.int n.toInt32)]) (rest := []) (lenOf pd_1 rfl) rfl (by exact Nat.le_of_eq rfl) (hb hby d16_6) (fun _ _ => ⟨rfl, e1, (by decide : 0 + 0 ≤ _), (by decide : 0 + 0 ≤ _)⟩)
  dsimp only [Pt.U, Pt.locs, Pt.cells, Pt.slots] at X3 l3 y3 z3 st3 hQ3
  subst l3 y3 z3
  obtain ⟨rfl, N3q, e3⟩ := hQ3
  have N3 := Fr.app N0 N3q
  obtain ⟨T4, X4, e4, st4⟩ := getF X3 hx hZ hown (host := "") (Or.inl (oW hw 81 rfl)) Via.refl e3 Far (g := (mkF m 11 #[vR (a9), vI (nd.toInt32)] [(.ref a9)])) rfl rfl (hb hby d16_11)
  obtain ⟨T5, X5, e5, st5⟩ := getF X4 hx hZ hown (host := "") (Or.inl (oW hw 135 rfl)) Via.refl e4 Ffi (g := (mkF m 15 #[vR (a9), vI (nd.toInt32)] [(.ref a9), (.ref a1)])) rfl rfl (hb hby d16_15)
  have vc6 := Vfi
  obtain ⟨cl6, Ar6, qk6, S6, Nn6, Hs6, Gf6⟩ := vc6
  have hin6 : ¬ (nd.toInt32 < 0 ∨ cl6.slots.size ≤ (nd.toInt32).toNatClampNeg) := inb_of S6 (own_ins hnd hN)
  have hat6 : cl6.slots[(nd.toInt32).toNatClampNeg]? = some (.int (own_ct ss nd).toInt32) := Has.at Hs6 hin6 (by rw [(own_ti (own_k4 hnd hN)).1]; exact own_c2_end ss (Nat.le_of_lt hnd))
  obtain ⟨T7, X7, e7, st7⟩ := getF X5 hx hZ hown (host := "") (Or.inl (oW hw 135 rfl)) Via.refl e5 Ffi (g := (mkF m 21 #[vR (a9), vI (nd.toInt32)] [(.ref a9), (.int (own_ct ss nd).toInt32), (.ref a1)])) rfl rfl (hb hby d16_21)
  have vc8 := Vfi
  obtain ⟨cl8, Ar8, qk8, S8, Nn8, Hs8, Gf8⟩ := vc8
  have hin8 : ¬ ((nd + 1).toInt32 < 0 ∨ cl8.slots.size ≤ ((nd + 1).toInt32).toNatClampNeg) := inb_of S8 (own_in5 hnd hN)
  have hat8 : cl8.slots[((nd + 1).toInt32).toNatClampNeg]? = some (.int (own_ct ss (nd + 1)).toInt32) := Has.at Hs8 hin8 (by rw [(own_ti (own_k5 (Nat.le_trans (Nat.le_of_lt hnd) hN))).1]; exact own_c2_end ss hnd)
  obtain ⟨cq9, kq9, q9a, q9b, q9c⟩ := isOf hZ e7 E1_
  obtain ⟨_, _, ⟨T9, L9, k9, n9⟩, -, X9, ⟨Lc9, hQ9, l9, y9, z9⟩, st9⟩ := X7.interfaceBack hx (xi := Y53_) (y := Y49_) hown (mvT hZ (oW hw 150 rfl)) (mvT hZ (oW hw 151 rfl)) (mvT hZ (oW hw 152 rfl)) (mvT hZ (oW hw 352 rfl)) (mvT hZ (oW hw 154 rfl)) (mvT hZ (oW hw 155 rfl)) (mvT hZ (oW hw 353 rfl)) (mvT hZ (oW hw 325 rfl)) (by decide) (backOf (W := 0) (r_subA l Z a0 hw [] s_D s_L s_LE s_E s_Z mr kd_ kl_ h0 n0 O0 G0 a1 x_ (own_ct ss nd) (own_ct ss (nd + 1))  E1_ F1 F2 (own_ct_mono ss nd) hc4 hcn) hZ (oW hw 157 rfl) (oW hw 99 rfl) (by decide) (by decide)) q9a q9b q9c (g := (mkF m 28 #[vR (a9), vI (nd.toInt32)] [(.int (own_ct ss (nd + 1)).toInt32), (.int (own_ct ss nd).toInt32), (.ref a1)])) rfl (by rw [hml]; rfl) (Steps.refl _) (argsL := [(.int (own_ct ss nd).toInt32), (.int (own_ct ss (nd + 1)).toInt32)]) (rest := []) (lenOf pd_27 rfl) rfl (by exact Nat.le_of_eq rfl) (hb hby d16_28) (fun _ _ => ⟨rfl, e7, (by decide : 0 + 1 ≤ _), (by decide : 0 + 3 ≤ _)⟩)
  dsimp only [Pt.U, Pt.locs, Pt.cells, Pt.slots] at X9 l9 y9 z9 st9 hQ9
  subst l9 y9 z9
  obtain ⟨t9, rfl, N9q, Kq9, Sl9⟩ := hQ9
  have N9 := Fr.app N3 N9q
  have K9 : Keep h0 T9.heap [] := (Keep.refl h0 []).trans Kq9 all0
  obtain ⟨fs, hr, hrun, hended, hW, hsame⟩ := X9.leave (v := some (.ref t9)) (oR Bd.returns)
  refine ⟨_, _, pre0 _ ?_, hrun, hended, _, _, rfl, ?_, ⟨_, rfl⟩, hW, hsame.mono (by decide) (by decide)⟩
  · show own_St p e below s₁ m 0 #[vR (a9), vI (nd.toInt32)] [] _
    refine XS.iloadN X0.here hx rfl (hb hby d16_0) rfl ?_
    refine XS.aloadN X0.here hx rfl (hb hby d16_1) rfl rfl ?_
    refine st1 _ ?_
    show own_St p e below T1 m 5 #[vR (a9), vI (nd.toInt32)] [(.ref a4), (.int nd.toInt32)] _
    refine X1.arraylength hx (by rw [e1]; exact Ar2.1) (State.isArrayOf_alike hZ.alike Ar2.2.1) (g := (mkF m 5 #[vR (a9), vI (nd.toInt32)] [(.ref a4), (.int nd.toInt32)])) rfl rfl (hb hby d16_5) _ ?_
    rw [len_of S2 Nn2]
    refine st3 _ ?_
    show own_St p e below T3 m 9 #[vR (a9), vI (nd.toInt32)] [(.int nd.toInt32)] _
    refine XS.pop X3.here hx rfl (hb hby d16_9) rfl rfl ?_
    show own_St p e below T3 m 10 #[vR (a9), vI (nd.toInt32)] [] _
    refine XS.aloadN X3.here hx rfl (hb hby d16_10) rfl rfl ?_
    refine st4 _ ?_
    show own_St p e below T4 m 14 #[vR (a9), vI (nd.toInt32)] [(.ref a1)] _
    refine XS.aloadN X4.here hx rfl (hb hby d16_14) rfl rfl ?_
    refine st5 _ ?_
    show own_St p e below T5 m 18 #[vR (a9), vI (nd.toInt32)] [(.ref a7), (.ref a1)] _
    refine XS.iloadN X5.here hx rfl (hb hby d16_18) rfl ?_
    show own_St p e below T5 m 19 #[vR (a9), vI (nd.toInt32)] [(.int nd.toInt32), (.ref a7), (.ref a1)] _
    refine X5.iaload hx (j := nd.toInt32) (v := (.int (own_ct ss nd).toInt32)) (by rw [e5]; exact Ar6.1) (State.isArrayOf_alike hZ.alike Ar6.2.1) Ar6.2.2 hin6 hat6 (g := (mkF m 19 #[vR (a9), vI (nd.toInt32)] [(.int nd.toInt32), (.ref a7), (.ref a1)])) rfl rfl (hb hby d16_19) _ ?_
    show own_St p e below T5 m 20 #[vR (a9), vI (nd.toInt32)] [(.int (own_ct ss nd).toInt32), (.ref a1)] _
    refine XS.aloadN X5.here hx rfl (hb hby d16_20) rfl rfl ?_
    refine st7 _ ?_
    show own_St p e below T7 m 24 #[vR (a9), vI (nd.toInt32)] [(.ref a7), (.int (own_ct ss nd).toInt32), (.ref a1)] _
    refine XS.iloadN X7.here hx rfl (hb hby d16_24) rfl ?_
    refine XS.iconst X7.here hx rfl (hb hby d16_25) ?_
    refine XS.iadd X7.here hx rfl (hb hby d16_26) rfl ?_
    show own_St p e below T7 m 27 #[vR (a9), vI (nd.toInt32)] [(.int (nd.toInt32 + (1 : Int32))), (.ref a7), (.int (own_ct ss nd).toInt32), (.ref a1)] _
    rw [own_ts (own_k4 hnd hN)]
    show own_St p e below T7 m 27 #[vR (a9), vI (nd.toInt32)] [(.int (nd + 1).toInt32), (.ref a7), (.int (own_ct ss nd).toInt32), (.ref a1)] _
    refine X7.iaload hx (j := (nd + 1).toInt32) (v := (.int (own_ct ss (nd + 1)).toInt32)) (by rw [e7]; exact Ar8.1) (State.isArrayOf_alike hZ.alike Ar8.2.1) Ar8.2.2 hin8 hat8 (g := (mkF m 27 #[vR (a9), vI (nd.toInt32)] [(.int (nd + 1).toInt32), (.ref a7), (.int (own_ct ss nd).toInt32), (.ref a1)])) rfl rfl (hb hby d16_27) _ ?_
    refine st9.trans ?_
    show own_St p e below T9 m 33 #[vR (a9), vI (nd.toInt32)] [(.ref t9)] _
    exact retOut X9 hx Bd.returns rfl (Or.inr (Or.inr (Or.inr (Or.inr ⟨rfl, rfl, rfl⟩)))) (hb hby d16_33) hr
  · show own_Qsl Z a1 (own_ct ss nd) (own_ct ss (nd + 1) - own_ct ss nd) h0 n0 _ T9.heap _
    exact ⟨t9, rfl, N9, K9, Sl9⟩
theorem r_afB (l Z a0) (hw : own_HW a0 Z) (ws s_D s_L s_LE s_E s_Z mr kd_ kl_ h0 n0) (O0 : Old Z n0 h0) (G : own_Ctx Z Z.heap s_D s_L s_LE s_E s_Z mr kd_ kl_) (a9 a4 a7 : Addr) (k4 k7 : ClassId) (vs4 : List Value) (n nd : Nat) (ss : List Nat) (a1 x_ y_ : Addr) (Ec : Exa Z h0 a9 "com/example/hodos/hodos/analysis/Course") (Fst : Fld Z h0 a9 "com/example/hodos/hodos/analysis/Course" "stops" "[Z" (.ref a4)) (Vst : Arv Z h0 a4 k4 .boolean n.toInt32 vs4 (.int (0 : Int32))) (Far : Fld Z h0 a9 "com/example/hodos/hodos/analysis/Course" "arcs" "Ljava/util/List;" (.ref a1)) (Ffi : Fld Z h0 a9 "com/example/hodos/hodos/analysis/Course" "firstArc" "[I" (.ref a7)) (Vfi : Arv Z h0 a7 k7 .int (n + 1).toInt32 (own_c2 n ss n) (.int (0 : Int32))) (hN : n ≤ 4) (hnd : nd < n) (hsl : ss.length = [x_, y_].length) (E1_ : Exa Z h0 a1 "java/util/ImmutableCollections$List12") (F1 : Fld Z h0 a1 "java/util/ImmutableCollections$List12" "e0" "Ljava/lang/Object;" (.ref x_)) (F2 : Fld Z h0 a1 "java/util/ImmutableCollections$List12" "e1" "Ljava/lang/Object;" (.ref y_)) (hyE : y_ ≠ s_E) :
    oM l Y52_ prog_8_method_4_code 2 (some (.object "java/util/List")) ws (own_rm_ 7 1 3 93) #[(.ref a9), (.int nd.toInt32)] Z h0 n0 (own_Qsl Z a1 (own_ct ss nd) (own_ct ss (nd + 1) - own_ct ss nd)) := by
  have G0 := G
  refine MetFree.of_bodySF (plainFor_of_name pn_15) hisR ?_
  intro p e s m args below meth c s₁ Bd hml0 hP hK
  obtain ⟨rfl, hZ, hh⟩ := hP
  have hx := Bd.exec
  have hby := Bd.bytes
  have hml : c.maxLocals = 2 := hml0
  have hown := findClass_of_methodNamed Bd.named
  have X0 : Stand p l e (own_rm_ 7 1 3 93) s m #[(.ref a9), (.int nd.toInt32)] below meth c s₁ [] 0 0 := Stand.of_body Bd
  have e0 : s₁.heap = h0 := by rw [← hh, Bd.state]; rfl
  have N0 := Fr.nil n0
  have pre0 := own_pre (tb := p.tables) (e := e) (below := below) (T := s₁) (ef_16_44 m a9 nd.toInt32)
  have hcn : own_ct ss (nd + 1) ≤ [x_, y_].length := by rw [← hsl]; exact own_ct_le ss _
  have hc4 : own_ct ss (nd + 1) ≤ 4 := Nat.le_trans hcn (Nat.le_of_ble_eq_true rfl)
  obtain ⟨T1, X1, e1, st1⟩ := getF X0 hx hZ hown (host := "") (Or.inl (oW hw 48 rfl)) Via.refl e0 Fst (g := (mkF m 2 #[vR (a9), vI (nd.toInt32)] [(.ref a9), (.int nd.toInt32)])) rfl rfl (hb hby d16_2)
  have vc2 := Vst
  obtain ⟨cl2, Ar2, qk2, S2, Nn2, Hs2, Gf2⟩ := vc2
  obtain ⟨_, _, ⟨T3, L3, k3, n3⟩, -, X3, ⟨Lc3, hQ3, l3, y3, z3⟩, st3⟩ := Jvm.LawKit.callS X1 hx (y := Y51_) hown (mvT hZ (oW hw 142 rfl)) (mvT hZ (oW hw 143 rfl)) (mvT hZ (oW hw 144 rfl)) (mvT hZ (oW hw 145 rfl)) (by decide) (backOf (W := 0) (r_oci l Z a0 hw [] s_D s_L s_LE s_E s_Z mr kd_ kl_ h0 n0 O0 G0 nd.toInt32 n.toInt32 (own_inx hnd hN).1 (own_inx hnd hN).2) hZ (oW hw 145 rfl) (oW hw 144 rfl) (by decide) (by decide)) (g := (mkF m 6 #[vR (a9), vI (nd.toInt32)] [(.int n.toInt32), (.int nd.toInt32)])) rfl (by rw [hml]; rfl) (argsL := [(.int nd.toInt32), (.int n.toInt32)]) (rest := []) (lenOf pd_1 rfl) rfl (by exact Nat.le_of_eq rfl) (hb hby d16_6) (fun _ _ => ⟨rfl, e1, (by decide : 0 + 0 ≤ _), (by decide : 0 + 0 ≤ _)⟩)
  dsimp only [Pt.U, Pt.locs, Pt.cells, Pt.slots] at X3 l3 y3 z3 st3 hQ3
  subst l3 y3 z3
  obtain ⟨rfl, N3q, e3⟩ := hQ3
  have N3 := Fr.app N0 N3q
  obtain ⟨T4, X4, e4, st4⟩ := getF X3 hx hZ hown (host := "") (Or.inl (oW hw 81 rfl)) Via.refl e3 Far (g := (mkF m 11 #[vR (a9), vI (nd.toInt32)] [(.ref a9)])) rfl rfl (hb hby d16_11)
  obtain ⟨T5, X5, e5, st5⟩ := getF X4 hx hZ hown (host := "") (Or.inl (oW hw 135 rfl)) Via.refl e4 Ffi (g := (mkF m 15 #[vR (a9), vI (nd.toInt32)] [(.ref a9), (.ref a1)])) rfl rfl (hb hby d16_15)
  have vc6 := Vfi
  obtain ⟨cl6, Ar6, qk6, S6, Nn6, Hs6, Gf6⟩ := vc6
  have hin6 : ¬ (nd.toInt32 < 0 ∨ cl6.slots.size ≤ (nd.toInt32).toNatClampNeg) := inb_of S6 (own_ins hnd hN)
  have hat6 : cl6.slots[(nd.toInt32).toNatClampNeg]? = some (.int (own_ct ss nd).toInt32) := Has.at Hs6 hin6 (by rw [(own_ti (own_k4 hnd hN)).1]; exact own_c2_end ss (Nat.le_of_lt hnd))
  obtain ⟨T7, X7, e7, st7⟩ := getF X5 hx hZ hown (host := "") (Or.inl (oW hw 135 rfl)) Via.refl e5 Ffi (g := (mkF m 21 #[vR (a9), vI (nd.toInt32)] [(.ref a9), (.int (own_ct ss nd).toInt32), (.ref a1)])) rfl rfl (hb hby d16_21)
  have vc8 := Vfi
  obtain ⟨cl8, Ar8, qk8, S8, Nn8, Hs8, Gf8⟩ := vc8
  have hin8 : ¬ ((nd + 1).toInt32 < 0 ∨ cl8.slots.size ≤ ((nd + 1).toInt32).toNatClampNeg) := inb_of S8 (own_in5 hnd hN)
  have hat8 : cl8.slots[((nd + 1).toInt32).toNatClampNeg]? = some (.int (own_ct ss (nd + 1)).toInt32) := Has.at Hs8 hin8 (by rw [(own_ti (own_k5 (Nat.le_trans (Nat.le_of_lt hnd) hN))).1]; exact own_c2_end ss hnd)
  obtain ⟨cq9, kq9, q9a, q9b, q9c⟩ := isOf hZ e7 E1_
  obtain ⟨_, _, ⟨T9, L9, k9, n9⟩, -, X9, ⟨Lc9, hQ9, l9, y9, z9⟩, st9⟩ := X7.interfaceBack hx (xi := Y53_) (y := Y49_) hown (mvT hZ (oW hw 150 rfl)) (mvT hZ (oW hw 151 rfl)) (mvT hZ (oW hw 152 rfl)) (mvT hZ (oW hw 352 rfl)) (mvT hZ (oW hw 154 rfl)) (mvT hZ (oW hw 155 rfl)) (mvT hZ (oW hw 353 rfl)) (mvT hZ (oW hw 325 rfl)) (by decide) (backOf (W := 0) (r_subB l Z a0 hw [] s_D s_L s_LE s_E s_Z mr kd_ kl_ h0 n0 O0 G0 a1 x_ y_ (own_ct ss nd) (own_ct ss (nd + 1))  E1_ F1 F2 hyE (own_ct_mono ss nd) hc4 hcn) hZ (oW hw 157 rfl) (oW hw 99 rfl) (by decide) (by decide)) q9a q9b q9c (g := (mkF m 28 #[vR (a9), vI (nd.toInt32)] [(.int (own_ct ss (nd + 1)).toInt32), (.int (own_ct ss nd).toInt32), (.ref a1)])) rfl (by rw [hml]; rfl) (Steps.refl _) (argsL := [(.int (own_ct ss nd).toInt32), (.int (own_ct ss (nd + 1)).toInt32)]) (rest := []) (lenOf pd_27 rfl) rfl (by exact Nat.le_of_eq rfl) (hb hby d16_28) (fun _ _ => ⟨rfl, e7, (by decide : 0 + 1 ≤ _), (by decide : 0 + 3 ≤ _)⟩)
  dsimp only [Pt.U, Pt.locs, Pt.cells, Pt.slots] at X9 l9 y9 z9 st9 hQ9
  subst l9 y9 z9
  obtain ⟨t9, rfl, N9q, Kq9, Sl9⟩ := hQ9
  have N9 := Fr.app N3 N9q
  have K9 : Keep h0 T9.heap [] := (Keep.refl h0 []).trans Kq9 all0
  obtain ⟨fs, hr, hrun, hended, hW, hsame⟩ := X9.leave (v := some (.ref t9)) (oR Bd.returns)
  refine ⟨_, _, pre0 _ ?_, hrun, hended, _, _, rfl, ?_, ⟨_, rfl⟩, hW, hsame.mono (by decide) (by decide)⟩
  · show own_St p e below s₁ m 0 #[vR (a9), vI (nd.toInt32)] [] _
    refine XS.iloadN X0.here hx rfl (hb hby d16_0) rfl ?_
    refine XS.aloadN X0.here hx rfl (hb hby d16_1) rfl rfl ?_
    refine st1 _ ?_
    show own_St p e below T1 m 5 #[vR (a9), vI (nd.toInt32)] [(.ref a4), (.int nd.toInt32)] _
    refine X1.arraylength hx (by rw [e1]; exact Ar2.1) (State.isArrayOf_alike hZ.alike Ar2.2.1) (g := (mkF m 5 #[vR (a9), vI (nd.toInt32)] [(.ref a4), (.int nd.toInt32)])) rfl rfl (hb hby d16_5) _ ?_
    rw [len_of S2 Nn2]
    refine st3 _ ?_
    show own_St p e below T3 m 9 #[vR (a9), vI (nd.toInt32)] [(.int nd.toInt32)] _
    refine XS.pop X3.here hx rfl (hb hby d16_9) rfl rfl ?_
    show own_St p e below T3 m 10 #[vR (a9), vI (nd.toInt32)] [] _
    refine XS.aloadN X3.here hx rfl (hb hby d16_10) rfl rfl ?_
    refine st4 _ ?_
    show own_St p e below T4 m 14 #[vR (a9), vI (nd.toInt32)] [(.ref a1)] _
    refine XS.aloadN X4.here hx rfl (hb hby d16_14) rfl rfl ?_
    refine st5 _ ?_
    show own_St p e below T5 m 18 #[vR (a9), vI (nd.toInt32)] [(.ref a7), (.ref a1)] _
    refine XS.iloadN X5.here hx rfl (hb hby d16_18) rfl ?_
    show own_St p e below T5 m 19 #[vR (a9), vI (nd.toInt32)] [(.int nd.toInt32), (.ref a7), (.ref a1)] _
    refine X5.iaload hx (j := nd.toInt32) (v := (.int (own_ct ss nd).toInt32)) (by rw [e5]; exact Ar6.1) (State.isArrayOf_alike hZ.alike Ar6.2.1) Ar6.2.2 hin6 hat6 (g := (mkF m 19 #[vR (a9), vI (nd.toInt32)] [(.int nd.toInt32), (.ref a7), (.ref a1)])) rfl rfl (hb hby d16_19) _ ?_
    show own_St p e below T5 m 20 #[vR (a9), vI (nd.toInt32)] [(.int (own_ct ss nd).toInt32), (.ref a1)] _
    refine XS.aloadN X5.here hx rfl (hb hby d16_20) rfl rfl ?_
    refine st7 _ ?_
    show own_St p e below T7 m 24 #[vR (a9), vI (nd.toInt32)] [(.ref a7), (.int (own_ct ss nd).toInt32), (.ref a1)] _
    refine XS.iloadN X7.here hx rfl (hb hby d16_24) rfl ?_
    refine XS.iconst X7.here hx rfl (hb hby d16_25) ?_
    refine XS.iadd X7.here hx rfl (hb hby d16_26) rfl ?_
    show own_St p e below T7 m 27 #[vR (a9), vI (nd.toInt32)] [(.int (nd.toInt32 + (1 : Int32))), (.ref a7), (.int (own_ct ss nd).toInt32), (.ref a1)] _
    rw [own_ts (own_k4 hnd hN)]
    show own_St p e below T7 m 27 #[vR (a9), vI (nd.toInt32)] [(.int (nd + 1).toInt32), (.ref a7), (.int (own_ct ss nd).toInt32), (.ref a1)] _
    refine X7.iaload hx (j := (nd + 1).toInt32) (v := (.int (own_ct ss (nd + 1)).toInt32)) (by rw [e7]; exact Ar8.1) (State.isArrayOf_alike hZ.alike Ar8.2.1) Ar8.2.2 hin8 hat8 (g := (mkF m 27 #[vR (a9), vI (nd.toInt32)] [(.int (nd + 1).toInt32), (.ref a7), (.int (own_ct ss nd).toInt32), (.ref a1)])) rfl rfl (hb hby d16_27) _ ?_
    refine st9.trans ?_
    show own_St p e below T9 m 33 #[vR (a9), vI (nd.toInt32)] [(.ref t9)] _
    exact retOut X9 hx Bd.returns rfl (Or.inr (Or.inr (Or.inr (Or.inr ⟨rfl, rfl, rfl⟩)))) (hb hby d16_33) hr
  · show own_Qsl Z a1 (own_ct ss nd) (own_ct ss (nd + 1) - own_ct ss nd) h0 n0 _ T9.heap _
    exact ⟨t9, rfl, N9, K9, Sl9⟩
def own_Qaf (Z : State) (s_E : Addr) (xs : List Addr) (lo sz : Nat) (h0 : Heap) (n0 : Nat) (v : Option Value) (h : Heap) (L : List Loc) : Prop := ∃ la, own_IL Z h0 la s_E xs ∧ own_Qsl Z la lo sz h0 n0 v h L
theorem own_afm {l : Launch} {x : MethodName} {S : Spec} {A : Array Value} {Z : State} {h0 : Heap} {n0 : Nat} {s_E la : Addr} {xs : List Addr} {lo sz k n : Nat} (I : own_IL Z h0 la s_E xs) (h : MetFree l x S (fun a U => a = A ∧ Z.Warmed39 U.vm ∧ U.heap = h0) (fun _ _ _ _ _ => True) (fun _ U o U' => ∃ v L, o = .returned v ∧ own_Qsl Z la lo sz h0 n0 v U'.heap L ∧ FrameEnd U o U' L k n)) : MetFree l x S (fun a U => a = A ∧ Z.Warmed39 U.vm ∧ U.heap = h0) (fun _ _ _ _ _ => True) (fun _ U o U' => ∃ v L, o = .returned v ∧ own_Qaf Z s_E xs lo sz h0 n0 v U'.heap L ∧ FrameEnd U o U' L k n) :=
  h.mono (fun _ _ q => q) (fun _ _ _ _ _ q => q) (fun _ _ _ _ _ ⟨v, L, h1, h2, h3⟩ => ⟨v, L, h1, ⟨la, I, h2⟩, h3⟩)
theorem r_af (l Z a0) (hw : own_HW a0 Z) (ws s_D s_L s_LE s_E s_Z mr kd_ kl_ h0 n0) (O0 : Old Z n0 h0) (G : own_Ctx Z Z.heap s_D s_L s_LE s_E s_Z mr kd_ kl_) (a9 : Addr) (n nd : Nat) (xs : List Addr) (ss : List Nat) (C : own_Co Z h0 a9 n s_E xs ss) (hN : n ≤ 4) (hnd : nd < n) (hsl : ss.length = xs.length) (hn : xs.length ≤ 4) :
    oM l Y52_ prog_8_method_4_code 2 (some (.object "java/util/List")) ws (own_rm_ 7 1 3 93) #[(.ref a9), (.int nd.toInt32)] Z h0 n0 (own_Qaf Z s_E xs (own_ct ss nd) (own_ct ss (nd + 1) - own_ct ss nd)) := by
  obtain ⟨st, kst, vst, la, fi, kfi, Ec, Fst, Vst, Far, I, Ffi, Vfi⟩ := C
  have I0 := I
  rcases I with ⟨E1, b, k, F, V⟩ | ⟨x, rfl, E1, F0, F1⟩ | ⟨x, y, rfl, ne, E1, F0, F1⟩
  · exact own_afm I0 (r_afN l Z a0 hw ws s_D s_L s_LE s_E s_Z mr kd_ kl_ h0 n0 O0 G a9 st fi kst kfi vst n nd ss la b k xs Ec Fst Vst Far Ffi Vfi hN hnd hsl E1 F V hn)
  · exact own_afm I0 (r_afA l Z a0 hw ws s_D s_L s_LE s_E s_Z mr kd_ kl_ h0 n0 O0 G a9 st fi kst kfi vst n nd ss la x Ec Fst Vst Far Ffi Vfi hN hnd hsl E1 F0 F1)
  · exact own_afm I0 (r_afB l Z a0 hw ws s_D s_L s_LE s_E s_Z mr kd_ kl_ h0 n0 O0 G a9 st fi kst kfi vst n nd ss la x y Ec Fst Vst Far Ffi Vfi hN hnd hsl E1 F0 F1 ne)
def own_cz (k j s t : Nat) : Nat := if j < k ∧ s < t then 1 else 0
theorem own_cz_le (k j s t : Nat) : own_cz k j s t ≤ 1 := by unfold own_cz; split <;> omega
theorem own_ct_cons (s : Nat) (ss : List Nat) (t : Nat) : own_ct (s :: ss) t = (if s < t then 1 else 0) + own_ct ss t := by
  simp only [own_ct, List.filter_cons]
  by_cases a : s < t
  · simp [a]; omega
  · simp [a]
theorem own_ct_nil (t : Nat) : own_ct [] t = 0 := rfl
theorem own_lo {k : Nat} (hk : k ≤ 4) (s0 s1 s2 s3 t : Nat) : own_cz k 0 s0 t + own_cz k 1 s1 t + own_cz k 2 s2 t + own_cz k 3 s3 t = own_ct ([s0, s1, s2, s3].take k) t := by
  have h3 : k = 0 ∨ k = 1 ∨ k = 2 ∨ k = 3 ∨ k = 4 := by omega
  rcases h3 with rfl | rfl | rfl | rfl | rfl <;> simp [own_cz, own_ct_cons, own_ct_nil] <;> omega
theorem own_1p {m : Nat} (h : m ≤ 100) : (1 : Int32) + m.toInt32 = (m + 1).toInt32 := by
  rw [Int32.add_comm]; exact own_ts (by omega)
theorem own_s1 {m : Nat} (h : m ≤ 100) : (m + 1).toInt32 - (1 : Int32) = m.toInt32 := by
  have q := own_subn (a := 1) (b := m + 1) (by omega)
  by_cases hm : m + 1 ≤ 100
  · have q1 := q hm
    rw [Nat.add_sub_cancel] at q1; exact q1
  · have : m = 100 := by omega
    subst this; decide
theorem own_nz {m : Nat} (h : m ≤ 3) : ¬ ((m + 1).toInt32 = (0 : Int32)) := by
  have h3 : m = 0 ∨ m = 1 ∨ m = 2 ∨ m = 3 := by omega
  rcases h3 with rfl | rfl | rfl | rfl <;> decide
theorem own_mn {a b : Nat} : min a b ≤ b := Nat.min_le_right a b
theorem own_nat {x : Int32} {k : Nat} (h0 : 0 ≤ x.toInt) (h : x.toInt ≤ k) (hk : k ≤ 1000) : ∃ q : Nat, q ≤ k ∧ x = q.toInt32 := by
  refine ⟨x.toInt.toNat, by omega, Int32.toInt_inj.mp ?_⟩
  have e := len_toInt (n := x.toInt.toNat) (by omega)
  rw [e]; omega
theorem own_and3 (x : Int32) : ∃ q : Nat, q ≤ 3 ∧ x &&& (3 : Int32) = q.toInt32 := by
  have h1 := c_and x (3 : Int32) (by decide)
  have h2 : (3 : Int32).toInt = 3 := rfl
  exact own_nat h1.1 (by omega) (by omega)
theorem own_nd (x : Int32) {m : Nat} (h : m ≤ 3) : ∃ q : Nat, q < m + 1 ∧ (x &&& (2147483647 : Int32)) % (m + 1).toInt32 = q.toInt32 := by
  have h1 := c_and x (2147483647 : Int32) (by decide)
  have e := len_toInt (n := m + 1) (by omega)
  have h2 := (c_iremV (x &&& (2147483647 : Int32)) (m + 1).toInt32).1 h1.1 (by rw [e]; omega)
  obtain ⟨q, hq, r⟩ := own_nat (k := m) (x := (x &&& (2147483647 : Int32)) % (m + 1).toInt32) (by omega) (by omega) (by omega)
  exact ⟨q, by omega, r⟩
theorem own_kk (x : Int32) : ((x.toUInt32 >>> ((2 : Int32) &&& 31).toUInt32).toInt32) % (5 : Int32) = (0 : Int32) ∨ ((x.toUInt32 >>> ((2 : Int32) &&& 31).toUInt32).toInt32) % (5 : Int32) = (1 : Int32) ∨ ((x.toUInt32 >>> ((2 : Int32) &&& 31).toUInt32).toInt32) % (5 : Int32) = (2 : Int32) ∨ ((x.toUInt32 >>> ((2 : Int32) &&& 31).toUInt32).toInt32) % (5 : Int32) = (3 : Int32) ∨ ((x.toUInt32 >>> ((2 : Int32) &&& 31).toUInt32).toInt32) % (5 : Int32) = (4 : Int32) := by
  have h0 : 0 ≤ ((x.toUInt32 >>> ((2 : Int32) &&& 31).toUInt32).toInt32).toInt := by
    have q := c_iushr x (2 : Int32) 2 (by decide) (by decide)
    rw [q]
    exact Int.ediv_nonneg (Int.emod_nonneg _ (by decide)) (Int.natCast_nonneg _)
  have h2 := (c_iremV ((x.toUInt32 >>> ((2 : Int32) &&& 31).toUInt32).toInt32) (5 : Int32)).1 h0 (by decide)
  have h5 : (5 : Int32).toInt = 5 := rfl
  rw [h5] at h2
  generalize ((x.toUInt32 >>> ((2 : Int32) &&& 31).toUInt32).toInt32) % (5 : Int32) = y at h2
  have h3 : y.toInt = 0 ∨ y.toInt = 1 ∨ y.toInt = 2 ∨ y.toInt = 3 ∨ y.toInt = 4 := by omega
  rcases h3 with h | h | h | h | h
  · exact Or.inl (Int32.toInt_inj.mp (h.trans rfl))
  · exact Or.inr (Or.inl (Int32.toInt_inj.mp (h.trans rfl)))
  · exact Or.inr (Or.inr (Or.inl (Int32.toInt_inj.mp (h.trans rfl))))
  · exact Or.inr (Or.inr (Or.inr (Or.inl (Int32.toInt_inj.mp (h.trans rfl)))))
  · exact Or.inr (Or.inr (Or.inr (Or.inr (Int32.toInt_inj.mp (h.trans rfl)))))
theorem own_c100 {a b : Nat} (h : a ≤ 1) (g : b ≤ 3) : a + b ≤ 100 := by omega

theorem own_arcs0 {Z : State} {h : Heap}  : own_Arcs Z h ([] : List Addr) ([] : List Nat) := ⟨rfl, fun j hj => by
  exact absurd hj (Nat.not_lt_zero _)⟩
theorem own_hss0 {n : Nat}  : ∀ j, j < ([] : List Nat).length → ([] : List Nat).getD j 0 < n := fun j hj => by
  exact absurd hj (Nat.not_lt_zero _)
theorem own_arcs1 {Z : State} {h : Heap} {x0_ : Addr} {z0_ : Nat} (E0 : Exa Z h x0_ "com/example/hodos/hodos/analysis/Course$Arc") (S0 : Fld Z h x0_ "com/example/hodos/hodos/analysis/Course$Arc" "source" "I" (.int z0_.toInt32)) (O0 : Fld Z h x0_ "com/example/hodos/hodos/analysis/Course$Arc" "origin" "I" (.int (0 : Int32))) : own_Arcs Z h [x0_] [z0_] := ⟨rfl, fun j hj => by
  match j, hj with
  | 0, _ => exact ⟨E0, S0, O0⟩
  | _ + 1, q => exact absurd q (by simp)⟩
theorem own_hss1 {n : Nat} {z0_ : Nat} (h0 : z0_ < n) : ∀ j, j < [z0_].length → [z0_].getD j 0 < n := fun j hj => by
  match j, hj with
  | 0, _ => exact h0
  | _ + 1, q => exact absurd q (by simp)
theorem own_arcs2 {Z : State} {h : Heap} {x0_ x1_ : Addr} {z0_ z1_ : Nat} (E0 : Exa Z h x0_ "com/example/hodos/hodos/analysis/Course$Arc") (S0 : Fld Z h x0_ "com/example/hodos/hodos/analysis/Course$Arc" "source" "I" (.int z0_.toInt32)) (O0 : Fld Z h x0_ "com/example/hodos/hodos/analysis/Course$Arc" "origin" "I" (.int (0 : Int32))) (E1 : Exa Z h x1_ "com/example/hodos/hodos/analysis/Course$Arc") (S1 : Fld Z h x1_ "com/example/hodos/hodos/analysis/Course$Arc" "source" "I" (.int z1_.toInt32)) (O1 : Fld Z h x1_ "com/example/hodos/hodos/analysis/Course$Arc" "origin" "I" (.int (1 : Int32))) : own_Arcs Z h [x0_, x1_] [z0_, z1_] := ⟨rfl, fun j hj => by
  match j, hj with
  | 0, _ => exact ⟨E0, S0, O0⟩
  | 1, _ => exact ⟨E1, S1, O1⟩
  | _ + 2, q => exact absurd q (by simp)⟩
theorem own_hss2 {n : Nat} {z0_ z1_ : Nat} (h0 : z0_ < n) (h1 : z1_ < n) : ∀ j, j < [z0_, z1_].length → [z0_, z1_].getD j 0 < n := fun j hj => by
  match j, hj with
  | 0, _ => exact h0
  | 1, _ => exact h1
  | _ + 2, q => exact absurd q (by simp)
theorem own_arcs3 {Z : State} {h : Heap} {x0_ x1_ x2_ : Addr} {z0_ z1_ z2_ : Nat} (E0 : Exa Z h x0_ "com/example/hodos/hodos/analysis/Course$Arc") (S0 : Fld Z h x0_ "com/example/hodos/hodos/analysis/Course$Arc" "source" "I" (.int z0_.toInt32)) (O0 : Fld Z h x0_ "com/example/hodos/hodos/analysis/Course$Arc" "origin" "I" (.int (0 : Int32))) (E1 : Exa Z h x1_ "com/example/hodos/hodos/analysis/Course$Arc") (S1 : Fld Z h x1_ "com/example/hodos/hodos/analysis/Course$Arc" "source" "I" (.int z1_.toInt32)) (O1 : Fld Z h x1_ "com/example/hodos/hodos/analysis/Course$Arc" "origin" "I" (.int (1 : Int32))) (E2 : Exa Z h x2_ "com/example/hodos/hodos/analysis/Course$Arc") (S2 : Fld Z h x2_ "com/example/hodos/hodos/analysis/Course$Arc" "source" "I" (.int z2_.toInt32)) (O2 : Fld Z h x2_ "com/example/hodos/hodos/analysis/Course$Arc" "origin" "I" (.int (2 : Int32))) : own_Arcs Z h [x0_, x1_, x2_] [z0_, z1_, z2_] := ⟨rfl, fun j hj => by
  match j, hj with
  | 0, _ => exact ⟨E0, S0, O0⟩
  | 1, _ => exact ⟨E1, S1, O1⟩
  | 2, _ => exact ⟨E2, S2, O2⟩
  | _ + 3, q => exact absurd q (by simp)⟩
theorem own_hss3 {n : Nat} {z0_ z1_ z2_ : Nat} (h0 : z0_ < n) (h1 : z1_ < n) (h2 : z2_ < n) : ∀ j, j < [z0_, z1_, z2_].length → [z0_, z1_, z2_].getD j 0 < n := fun j hj => by
  match j, hj with
  | 0, _ => exact h0
  | 1, _ => exact h1
  | 2, _ => exact h2
  | _ + 3, q => exact absurd q (by simp)
theorem own_arcs4 {Z : State} {h : Heap} {x0_ x1_ x2_ x3_ : Addr} {z0_ z1_ z2_ z3_ : Nat} (E0 : Exa Z h x0_ "com/example/hodos/hodos/analysis/Course$Arc") (S0 : Fld Z h x0_ "com/example/hodos/hodos/analysis/Course$Arc" "source" "I" (.int z0_.toInt32)) (O0 : Fld Z h x0_ "com/example/hodos/hodos/analysis/Course$Arc" "origin" "I" (.int (0 : Int32))) (E1 : Exa Z h x1_ "com/example/hodos/hodos/analysis/Course$Arc") (S1 : Fld Z h x1_ "com/example/hodos/hodos/analysis/Course$Arc" "source" "I" (.int z1_.toInt32)) (O1 : Fld Z h x1_ "com/example/hodos/hodos/analysis/Course$Arc" "origin" "I" (.int (1 : Int32))) (E2 : Exa Z h x2_ "com/example/hodos/hodos/analysis/Course$Arc") (S2 : Fld Z h x2_ "com/example/hodos/hodos/analysis/Course$Arc" "source" "I" (.int z2_.toInt32)) (O2 : Fld Z h x2_ "com/example/hodos/hodos/analysis/Course$Arc" "origin" "I" (.int (2 : Int32))) (E3 : Exa Z h x3_ "com/example/hodos/hodos/analysis/Course$Arc") (S3 : Fld Z h x3_ "com/example/hodos/hodos/analysis/Course$Arc" "source" "I" (.int z3_.toInt32)) (O3 : Fld Z h x3_ "com/example/hodos/hodos/analysis/Course$Arc" "origin" "I" (.int (3 : Int32))) : own_Arcs Z h [x0_, x1_, x2_, x3_] [z0_, z1_, z2_, z3_] := ⟨rfl, fun j hj => by
  match j, hj with
  | 0, _ => exact ⟨E0, S0, O0⟩
  | 1, _ => exact ⟨E1, S1, O1⟩
  | 2, _ => exact ⟨E2, S2, O2⟩
  | 3, _ => exact ⟨E3, S3, O3⟩
  | _ + 4, q => exact absurd q (by simp)⟩
theorem own_hss4 {n : Nat} {z0_ z1_ z2_ z3_ : Nat} (h0 : z0_ < n) (h1 : z1_ < n) (h2 : z2_ < n) (h3 : z3_ < n) : ∀ j, j < [z0_, z1_, z2_, z3_].length → [z0_, z1_, z2_, z3_].getD j 0 < n := fun j hj => by
  match j, hj with
  | 0, _ => exact h0
  | 1, _ => exact h1
  | 2, _ => exact h2
  | 3, _ => exact h3
  | _ + 4, q => exact absurd q (by simp)

theorem d26_0 : D26_ 0 = .ok (.aload_n 0, 1) := by decide +kernel
theorem d26_1 : D26_ 1 = .ok (.getfield 28, 3) := by decide +kernel
theorem d26_4 : D26_ 4 = .ok (.ireturn, 1) := by decide +kernel
theorem ef_26_45 (m : MethodId) (x0 : Addr) : entryFrame m #[(.ref x0)] 1 = mkF m 0 #[vR (x0)] [] := by first | (simp [entryFrame, mkF, argsToLocals, Value.category]; done) | rfl
theorem r_slz (l Z a0) (hw : own_HW a0 Z) (ws s_D s_L s_LE s_E s_Z mr kd_ kl_ h0 n0) (O0 : Old Z n0 h0) (G : own_Ctx Z Z.heap s_D s_L s_LE s_E s_Z mr kd_ kl_) (t1 a1 : Addr) (lo sz : Nat) (Sl : own_Sl Z h0 t1 a1 lo sz) :
    oM l Y54_ jdk_2608_method_5_code 1 (some .int) ws (own_rm_ 0 0 0 0) #[(.ref t1)] Z h0 n0 (own_Q (some (.int sz.toInt32))) := by
  have G0 := G
  refine MetFree.of_bodySF (plainFor_of_name pn_16) hisR ?_
  intro p e s m args below meth c s₁ Bd hml0 hP hK
  obtain ⟨rfl, hZ, hh⟩ := hP
  have hx := Bd.exec
  have hby := Bd.bytes
  have hml : c.maxLocals = 1 := hml0
  have hown := findClass_of_methodNamed Bd.named
  have X0 : Stand p l e (own_rm_ 0 0 0 0) s m #[(.ref t1)] below meth c s₁ [] 0 0 := Stand.of_body Bd
  have e0 : s₁.heap = h0 := by rw [← hh, Bd.state]; rfl
  have N0 := Fr.nil n0
  have pre0 := own_pre (tb := p.tables) (e := e) (below := below) (T := s₁) (ef_26_45 m t1)
  obtain ⟨T1, X1, e1, st1⟩ := getF X0 hx hZ hown (host := "") (Or.inl (oW hw 189 rfl)) Via.refl e0 Sl.2.2.2 (g := (mkF m 1 #[vR (t1)] [(.ref t1)])) rfl rfl (hb hby d26_1)
  obtain ⟨fs, hr, hrun, hended, hW, hsame⟩ := X1.leave (v := some (.int sz.toInt32)) (oR Bd.returns)
  refine ⟨_, _, pre0 _ ?_, hrun, hended, _, _, rfl, ?_, ⟨_, rfl⟩, hW, hsame.mono (by decide) (by decide)⟩
  · show own_St p e below s₁ m 0 #[vR (t1)] [] _
    refine XS.aloadN X0.here hx rfl (hb hby d26_0) rfl rfl ?_
    refine st1 _ ?_
    show own_St p e below T1 m 4 #[vR (t1)] [(.int sz.toInt32)] _
    exact retI X1 hx Bd.returns (hb hby d26_4) hr
  · show own_Q (some (.int sz.toInt32)) h0 n0 _ T1.heap _
    rw [e1]
    exact ⟨rfl, N0, rfl⟩
theorem own_lt8 {lo i sz n : Nat} (h : i < sz) (hbd : lo + sz ≤ n) : lo + i < n := by omega
theorem own_h1 {i sz lo n : Nat} (h : i < sz) (hbd : lo + sz ≤ n) (hn : n ≤ 4) : i ≤ 100 ∧ lo ≤ 100 ∧ sz ≤ 4 := by omega
theorem d46_0 : D46_ 0 = .ok (.iload_n 1, 1) := by decide +kernel
theorem d46_1 : D46_ 1 = .ok (.aload_n 0, 1) := by decide +kernel
theorem d46_2 : D46_ 2 = .ok (.getfield 28, 3) := by decide +kernel
theorem d46_5 : D46_ 5 = .ok (.invokestatic 34, 3) := by decide +kernel
theorem d46_8 : D46_ 8 = .ok (.pop, 1) := by decide +kernel
theorem d46_9 : D46_ 9 = .ok (.aload_n 0, 1) := by decide +kernel
theorem d46_10 : D46_ 10 = .ok (.getfield 20, 3) := by decide +kernel
theorem d46_13 : D46_ 13 = .ok (.aload_n 0, 1) := by decide +kernel
theorem d46_14 : D46_ 14 = .ok (.getfield 24, 3) := by decide +kernel
theorem d46_17 : D46_ 17 = .ok (.iload_n 1, 1) := by decide +kernel
theorem d46_18 : D46_ 18 = .ok (.iadd, 1) := by decide +kernel
theorem d46_19 : D46_ 19 = .ok (.invokevirtual 40, 3) := by decide +kernel
theorem d46_22 : D46_ 22 = .ok (.areturn, 1) := by decide +kernel
theorem ef_46_46 (m : MethodId) (x0 : Addr) (x1 : Int32) : entryFrame m #[(.ref x0), (.int x1)] 2 = mkF m 0 #[vR (x0), vI (x1)] [] := by first | (simp [entryFrame, mkF, argsToLocals, Value.category]; done) | rfl
theorem r_sgN (l Z a0) (hw : own_HW a0 Z) (ws s_D s_L s_LE s_E s_Z mr kd_ kl_ h0 n0) (O0 : Old Z n0 h0) (G : own_Ctx Z Z.heap s_D s_L s_LE s_E s_Z mr kd_ kl_) (t1 : Addr) (sz : Nat) (a1 a2 : Addr) (k2 : ClassId) (xs : List Addr) (lo i : Nat) (Et : Exa Z h0 t1 "java/util/ImmutableCollections$SubList") (Frt : Fld Z h0 t1 "java/util/ImmutableCollections$SubList" "root" "Ljava/util/ImmutableCollections$AbstractImmutableList;" (.ref a1)) (Fo : Fld Z h0 t1 "java/util/ImmutableCollections$SubList" "offset" "I" (.int lo.toInt32)) (Fz : Fld Z h0 t1 "java/util/ImmutableCollections$SubList" "size" "I" (.int sz.toInt32)) (E1_ : Exa Z h0 a1 "java/util/ImmutableCollections$ListN") (F1 : Fld Z h0 a1 "java/util/ImmutableCollections$ListN" "elements" "[Ljava/lang/Object;" (.ref a2)) (Va : Arv Z h0 a2 k2 (.object "java/lang/Object") xs.length.toInt32 (xs.map Value.ref) .null) (hn : xs.length ≤ 4) (hi : i < sz) (hz4 : sz ≤ 4) (hbd : lo + sz ≤ xs.length) :
    oM l Y55_ jdk_2608_method_4_code 2 (some (.object "java/lang/Object")) ws (own_rm_ 2 0 0 27) #[(.ref t1), (.int i.toInt32)] Z h0 n0 (own_Q (some (.ref (xs[lo + i]'(own_lt8 hi hbd))))) := by
  have G0 := G
  refine MetFree.of_bodySF (plainFor_of_name pn_16) hisR ?_
  intro p e s m args below meth c s₁ Bd hml0 hP hK
  obtain ⟨rfl, hZ, hh⟩ := hP
  have hx := Bd.exec
  have hby := Bd.bytes
  have hml : c.maxLocals = 2 := hml0
  have hown := findClass_of_methodNamed Bd.named
  have X0 : Stand p l e (own_rm_ 2 0 0 27) s m #[(.ref t1), (.int i.toInt32)] below meth c s₁ [] 0 0 := Stand.of_body Bd
  have e0 : s₁.heap = h0 := by rw [← hh, Bd.state]; rfl
  have N0 := Fr.nil n0
  have pre0 := own_pre (tb := p.tables) (e := e) (below := below) (T := s₁) (ef_46_46 m t1 i.toInt32)
  have hlt8 : lo + i < xs.length := own_lt8 hi hbd
  obtain ⟨T1, X1, e1, st1⟩ := getF X0 hx hZ hown (host := "") (Or.inl (oW hw 189 rfl)) Via.refl e0 Fz (g := (mkF m 2 #[vR (t1), vI (i.toInt32)] [(.ref t1), (.int i.toInt32)])) rfl rfl (hb hby d46_2)
  obtain ⟨_, _, ⟨T2, L2, k2, n2⟩, -, X2, ⟨Lc2, hQ2, l2, y2, z2⟩, st2⟩ := Jvm.LawKit.callS X1 hx (y := Y51_) hown (mvT hZ (oW hw 360 rfl)) (mvT hZ (oW hw 143 rfl)) (mvT hZ (oW hw 144 rfl)) (mvT hZ (oW hw 145 rfl)) (by decide) (backOf (W := 0) (r_oci l Z a0 hw [] s_D s_L s_LE s_E s_Z mr kd_ kl_ h0 n0 O0 G0 i.toInt32 sz.toInt32 (own_inx hi hz4).1 (own_inx hi hz4).2) hZ (oW hw 145 rfl) (oW hw 144 rfl) (by decide) (by decide)) (g := (mkF m 5 #[vR (t1), vI (i.toInt32)] [(.int sz.toInt32), (.int i.toInt32)])) rfl (by rw [hml]; rfl) (argsL := [(.int i.toInt32), (.int sz.toInt32)]) (rest := []) (lenOf pd_1 rfl) rfl (by exact Nat.le_of_eq rfl) (hb hby d46_5) (fun _ _ => ⟨rfl, e1, (by decide : 0 + 0 ≤ _), (by decide : 0 + 0 ≤ _)⟩)
  dsimp only [Pt.U, Pt.locs, Pt.cells, Pt.slots] at X2 l2 y2 z2 st2 hQ2
  subst l2 y2 z2
  obtain ⟨rfl, N2q, e2⟩ := hQ2
  have N2 := Fr.app N0 N2q
  obtain ⟨T3, X3, e3, st3⟩ := getF X2 hx hZ hown (host := "") (Or.inl (oW hw 185 rfl)) Via.refl e2 Frt (g := (mkF m 10 #[vR (t1), vI (i.toInt32)] [(.ref t1)])) rfl rfl (hb hby d46_10)
  obtain ⟨T4, X4, e4, st4⟩ := getF X3 hx hZ hown (host := "") (Or.inl (oW hw 187 rfl)) Via.refl e3 Fo (g := (mkF m 14 #[vR (t1), vI (i.toInt32)] [(.ref t1), (.ref a1)])) rfl rfl (hb hby d46_14)
  obtain ⟨cq5, kq5, q5a, q5b, q5c⟩ := isOf hZ e4 E1_
  obtain ⟨_, _, ⟨T5, L5, k5, n5⟩, -, X5, ⟨Lc5, hQ5, l5, y5, z5⟩, st5⟩ := X4.virtualBackUp hx (x := Y56_) (y := Y31_) (owner := "java/util/List") hown (mvT hZ (oW hw 361 rfl)) (mvT hZ (oW hw 362 rfl)) (mvT hZ (oW hw 338 rfl)) (by decide) (mvT hZ (oW hw 393 rfl)) (mvT hZ (oW hw 386 rfl)) (backOf (W := 0) (r_getN l Z a0 hw [] s_D s_L s_LE s_E s_Z mr kd_ kl_ h0 n0 O0 G0 a1 a2 k2 xs (lo + i) E1_ F1 Va hn (own_lt8 hi hbd)) hZ (oW hw 389 rfl) (oW hw 109 rfl) (by decide) (by decide)) q5a q5c (g := (mkF m 19 #[vR (t1), vI (i.toInt32)] [(.int (lo + i).toInt32), (.ref a1)])) rfl (by rw [hml]; rfl) (Steps.refl _) (argsL := [(.int (lo + i).toInt32)]) (rest := []) (lenOf pd_18 rfl) rfl (by exact Nat.le_of_eq rfl) (hb hby d46_19) (fun _ _ => ⟨rfl, e4, (by decide : 0 + 0 ≤ _), (by decide : 0 + 0 ≤ _)⟩)
  dsimp only [Pt.U, Pt.locs, Pt.cells, Pt.slots] at X5 l5 y5 z5 st5 hQ5
  subst l5 y5 z5
  obtain ⟨rfl, N5q, e5⟩ := hQ5
  have N5 := Fr.app N2 N5q
  obtain ⟨fs, hr, hrun, hended, hW, hsame⟩ := X5.leave (v := some (.ref xs[lo + i])) (oR Bd.returns)
  refine ⟨_, _, pre0 _ ?_, hrun, hended, _, _, rfl, ?_, ⟨_, rfl⟩, hW, hsame.mono (by decide) (by decide)⟩
  · show own_St p e below s₁ m 0 #[vR (t1), vI (i.toInt32)] [] _
    refine XS.iloadN X0.here hx rfl (hb hby d46_0) rfl ?_
    refine XS.aloadN X0.here hx rfl (hb hby d46_1) rfl rfl ?_
    refine st1 _ ?_
    refine st2 _ ?_
    show own_St p e below T2 m 8 #[vR (t1), vI (i.toInt32)] [(.int i.toInt32)] _
    refine XS.pop X2.here hx rfl (hb hby d46_8) rfl rfl ?_
    show own_St p e below T2 m 9 #[vR (t1), vI (i.toInt32)] [] _
    refine XS.aloadN X2.here hx rfl (hb hby d46_9) rfl rfl ?_
    refine st3 _ ?_
    show own_St p e below T3 m 13 #[vR (t1), vI (i.toInt32)] [(.ref a1)] _
    refine XS.aloadN X3.here hx rfl (hb hby d46_13) rfl rfl ?_
    refine st4 _ ?_
    show own_St p e below T4 m 17 #[vR (t1), vI (i.toInt32)] [(.int lo.toInt32), (.ref a1)] _
    refine XS.iloadN X4.here hx rfl (hb hby d46_17) rfl ?_
    refine XS.iadd X4.here hx rfl (hb hby d46_18) rfl ?_
    show own_St p e below T4 m 19 #[vR (t1), vI (i.toInt32)] [(.int (lo.toInt32 + i.toInt32)), (.ref a1)] _
    rw [own_add (own_h1 hi hbd hn).2.1 (own_h1 hi hbd hn).1]
    refine st5.trans ?_
    show own_St p e below T5 m 22 #[vR (t1), vI (i.toInt32)] [(.ref xs[lo + i])] _
    exact retOut X5 hx Bd.returns rfl (Or.inr (Or.inr (Or.inr (Or.inr ⟨rfl, rfl, rfl⟩)))) (hb hby d46_22) hr
  · show own_Q (some (.ref (xs[lo + i]'(own_lt8 hi hbd)))) h0 n0 _ T5.heap _
    rw [e5]
    exact ⟨rfl, N5, rfl⟩
theorem r_sgA (l Z a0) (hw : own_HW a0 Z) (ws s_D s_L s_LE s_E s_Z mr kd_ kl_ h0 n0) (O0 : Old Z n0 h0) (G : own_Ctx Z Z.heap s_D s_L s_LE s_E s_Z mr kd_ kl_) (t1 : Addr) (sz : Nat) (a1 x_ : Addr) (Et : Exa Z h0 t1 "java/util/ImmutableCollections$SubList") (Frt : Fld Z h0 t1 "java/util/ImmutableCollections$SubList" "root" "Ljava/util/ImmutableCollections$AbstractImmutableList;" (.ref a1)) (Fo : Fld Z h0 t1 "java/util/ImmutableCollections$SubList" "offset" "I" (.int (0 : Int32))) (Fz : Fld Z h0 t1 "java/util/ImmutableCollections$SubList" "size" "I" (.int sz.toInt32)) (E1_ : Exa Z h0 a1 "java/util/ImmutableCollections$List12") (F1 : Fld Z h0 a1 "java/util/ImmutableCollections$List12" "e0" "Ljava/lang/Object;" (.ref x_)) (F2 : Fld Z h0 a1 "java/util/ImmutableCollections$List12" "e1" "Ljava/lang/Object;" (.ref s_E)) (hi : 0 < sz) (hz4 : sz ≤ 4) :
    oM l Y55_ jdk_2608_method_4_code 2 (some (.object "java/lang/Object")) ws (own_rm_ 2 0 0 27) #[(.ref t1), (.int (0 : Int32))] Z h0 n0 (own_Q (some (.ref x_))) := by
  have G0 := G
  refine MetFree.of_bodySF (plainFor_of_name pn_16) hisR ?_
  intro p e s m args below meth c s₁ Bd hml0 hP hK
  obtain ⟨rfl, hZ, hh⟩ := hP
  have hx := Bd.exec
  have hby := Bd.bytes
  have hml : c.maxLocals = 2 := hml0
  have hown := findClass_of_methodNamed Bd.named
  have X0 : Stand p l e (own_rm_ 2 0 0 27) s m #[(.ref t1), (.int (0 : Int32))] below meth c s₁ [] 0 0 := Stand.of_body Bd
  have e0 : s₁.heap = h0 := by rw [← hh, Bd.state]; rfl
  have N0 := Fr.nil n0
  have pre0 := own_pre (tb := p.tables) (e := e) (below := below) (T := s₁) (ef_46_46 m t1 (0 : Int32))
  obtain ⟨T1, X1, e1, st1⟩ := getF X0 hx hZ hown (host := "") (Or.inl (oW hw 189 rfl)) Via.refl e0 Fz (g := (mkF m 2 #[vR (t1), vI ((0 : Int32))] [(.ref t1), (.int (0 : Int32))])) rfl rfl (hb hby d46_2)
  obtain ⟨_, _, ⟨T2, L2, k2, n2⟩, -, X2, ⟨Lc2, hQ2, l2, y2, z2⟩, st2⟩ := Jvm.LawKit.callS X1 hx (y := Y51_) hown (mvT hZ (oW hw 360 rfl)) (mvT hZ (oW hw 143 rfl)) (mvT hZ (oW hw 144 rfl)) (mvT hZ (oW hw 145 rfl)) (by decide) (backOf (W := 0) (r_oci l Z a0 hw [] s_D s_L s_LE s_E s_Z mr kd_ kl_ h0 n0 O0 G0 (0 : Int32) sz.toInt32 (own_inx hi hz4).1 (own_inx hi hz4).2) hZ (oW hw 145 rfl) (oW hw 144 rfl) (by decide) (by decide)) (g := (mkF m 5 #[vR (t1), vI ((0 : Int32))] [(.int sz.toInt32), (.int (0 : Int32))])) rfl (by rw [hml]; rfl) (argsL := [(.int (0 : Int32)), (.int sz.toInt32)]) (rest := []) (lenOf pd_1 rfl) rfl (by exact Nat.le_of_eq rfl) (hb hby d46_5) (fun _ _ => ⟨rfl, e1, (by decide : 0 + 0 ≤ _), (by decide : 0 + 0 ≤ _)⟩)
  dsimp only [Pt.U, Pt.locs, Pt.cells, Pt.slots] at X2 l2 y2 z2 st2 hQ2
  subst l2 y2 z2
  obtain ⟨rfl, N2q, e2⟩ := hQ2
  have N2 := Fr.app N0 N2q
  obtain ⟨T3, X3, e3, st3⟩ := getF X2 hx hZ hown (host := "") (Or.inl (oW hw 185 rfl)) Via.refl e2 Frt (g := (mkF m 10 #[vR (t1), vI ((0 : Int32))] [(.ref t1)])) rfl rfl (hb hby d46_10)
  obtain ⟨T4, X4, e4, st4⟩ := getF X3 hx hZ hown (host := "") (Or.inl (oW hw 187 rfl)) Via.refl e3 Fo (g := (mkF m 14 #[vR (t1), vI ((0 : Int32))] [(.ref t1), (.ref a1)])) rfl rfl (hb hby d46_14)
  obtain ⟨cq5, kq5, q5a, q5b, q5c⟩ := isOf hZ e4 E1_
  obtain ⟨_, _, ⟨T5, L5, k5, n5⟩, -, X5, ⟨Lc5, hQ5, l5, y5, z5⟩, st5⟩ := X4.virtualBackUp hx (x := Y56_) (y := Y32_) (owner := "java/util/List") hown (mvT hZ (oW hw 361 rfl)) (mvT hZ (oW hw 362 rfl)) (mvT hZ (oW hw 338 rfl)) (by decide) (mvT hZ (oW hw 363 rfl)) (mvT hZ (oW hw 341 rfl)) (backOf (W := 0) (r_getA l Z a0 hw [] s_D s_L s_LE s_E s_Z mr kd_ kl_ h0 n0 O0 G0 a1 x_ E1_ F1 F2) hZ (oW hw 344 rfl) (oW hw 306 rfl) (by decide) (by decide)) q5a q5c (g := (mkF m 19 #[vR (t1), vI ((0 : Int32))] [(.int ((0 : Int32) + (0 : Int32))), (.ref a1)])) rfl (by rw [hml]; rfl) (Steps.refl _) (argsL := [(.int ((0 : Int32) + (0 : Int32)))]) (rest := []) (lenOf pd_18 rfl) rfl (by exact Nat.le_of_eq rfl) (hb hby d46_19) (fun _ _ => ⟨rfl, e4, (by decide : 0 + 0 ≤ _), (by decide : 0 + 0 ≤ _)⟩)
  dsimp only [Pt.U, Pt.locs, Pt.cells, Pt.slots] at X5 l5 y5 z5 st5 hQ5
  subst l5 y5 z5
  obtain ⟨rfl, N5q, e5⟩ := hQ5
  have N5 := Fr.app N2 N5q
  obtain ⟨fs, hr, hrun, hended, hW, hsame⟩ := X5.leave (v := some (.ref x_)) (oR Bd.returns)
  refine ⟨_, _, pre0 _ ?_, hrun, hended, _, _, rfl, ?_, ⟨_, rfl⟩, hW, hsame.mono (by decide) (by decide)⟩
  · show own_St p e below s₁ m 0 #[vR (t1), vI ((0 : Int32))] [] _
    refine XS.iloadN X0.here hx rfl (hb hby d46_0) rfl ?_
    refine XS.aloadN X0.here hx rfl (hb hby d46_1) rfl rfl ?_
    refine st1 _ ?_
    refine st2 _ ?_
    show own_St p e below T2 m 8 #[vR (t1), vI ((0 : Int32))] [(.int (0 : Int32))] _
    refine XS.pop X2.here hx rfl (hb hby d46_8) rfl rfl ?_
    show own_St p e below T2 m 9 #[vR (t1), vI ((0 : Int32))] [] _
    refine XS.aloadN X2.here hx rfl (hb hby d46_9) rfl rfl ?_
    refine st3 _ ?_
    show own_St p e below T3 m 13 #[vR (t1), vI ((0 : Int32))] [(.ref a1)] _
    refine XS.aloadN X3.here hx rfl (hb hby d46_13) rfl rfl ?_
    refine st4 _ ?_
    show own_St p e below T4 m 17 #[vR (t1), vI ((0 : Int32))] [(.int (0 : Int32)), (.ref a1)] _
    refine XS.iloadN X4.here hx rfl (hb hby d46_17) rfl ?_
    refine XS.iadd X4.here hx rfl (hb hby d46_18) rfl ?_
    refine st5.trans ?_
    show own_St p e below T5 m 22 #[vR (t1), vI ((0 : Int32))] [(.ref x_)] _
    exact retOut X5 hx Bd.returns rfl (Or.inr (Or.inr (Or.inr (Or.inr ⟨rfl, rfl, rfl⟩)))) (hb hby d46_22) hr
  · show own_Q (some (.ref x_)) h0 n0 _ T5.heap _
    rw [e5]
    exact ⟨rfl, N5, rfl⟩
theorem r_sgB00 (l Z a0) (hw : own_HW a0 Z) (ws s_D s_L s_LE s_E s_Z mr kd_ kl_ h0 n0) (O0 : Old Z n0 h0) (G : own_Ctx Z Z.heap s_D s_L s_LE s_E s_Z mr kd_ kl_) (t1 : Addr) (sz : Nat) (a1 x_ y_ : Addr) (Et : Exa Z h0 t1 "java/util/ImmutableCollections$SubList") (Frt : Fld Z h0 t1 "java/util/ImmutableCollections$SubList" "root" "Ljava/util/ImmutableCollections$AbstractImmutableList;" (.ref a1)) (Fo : Fld Z h0 t1 "java/util/ImmutableCollections$SubList" "offset" "I" (.int (0 : Int32))) (Fz : Fld Z h0 t1 "java/util/ImmutableCollections$SubList" "size" "I" (.int sz.toInt32)) (E1_ : Exa Z h0 a1 "java/util/ImmutableCollections$List12") (F1 : Fld Z h0 a1 "java/util/ImmutableCollections$List12" "e0" "Ljava/lang/Object;" (.ref x_)) (F2 : Fld Z h0 a1 "java/util/ImmutableCollections$List12" "e1" "Ljava/lang/Object;" (.ref y_)) (hyE : y_ ≠ s_E) (hi : 0 < sz) (hz4 : sz ≤ 4) :
    oM l Y55_ jdk_2608_method_4_code 2 (some (.object "java/lang/Object")) ws (own_rm_ 2 0 0 27) #[(.ref t1), (.int (0 : Int32))] Z h0 n0 (own_Q (some (.ref x_))) := by
  have G0 := G
  refine MetFree.of_bodySF (plainFor_of_name pn_16) hisR ?_
  intro p e s m args below meth c s₁ Bd hml0 hP hK
  obtain ⟨rfl, hZ, hh⟩ := hP
  have hx := Bd.exec
  have hby := Bd.bytes
  have hml : c.maxLocals = 2 := hml0
  have hown := findClass_of_methodNamed Bd.named
  have X0 : Stand p l e (own_rm_ 2 0 0 27) s m #[(.ref t1), (.int (0 : Int32))] below meth c s₁ [] 0 0 := Stand.of_body Bd
  have e0 : s₁.heap = h0 := by rw [← hh, Bd.state]; rfl
  have N0 := Fr.nil n0
  have pre0 := own_pre (tb := p.tables) (e := e) (below := below) (T := s₁) (ef_46_46 m t1 (0 : Int32))
  obtain ⟨T1, X1, e1, st1⟩ := getF X0 hx hZ hown (host := "") (Or.inl (oW hw 189 rfl)) Via.refl e0 Fz (g := (mkF m 2 #[vR (t1), vI ((0 : Int32))] [(.ref t1), (.int (0 : Int32))])) rfl rfl (hb hby d46_2)
  obtain ⟨_, _, ⟨T2, L2, k2, n2⟩, -, X2, ⟨Lc2, hQ2, l2, y2, z2⟩, st2⟩ := Jvm.LawKit.callS X1 hx (y := Y51_) hown (mvT hZ (oW hw 360 rfl)) (mvT hZ (oW hw 143 rfl)) (mvT hZ (oW hw 144 rfl)) (mvT hZ (oW hw 145 rfl)) (by decide) (backOf (W := 0) (r_oci l Z a0 hw [] s_D s_L s_LE s_E s_Z mr kd_ kl_ h0 n0 O0 G0 (0 : Int32) sz.toInt32 (own_inx hi hz4).1 (own_inx hi hz4).2) hZ (oW hw 145 rfl) (oW hw 144 rfl) (by decide) (by decide)) (g := (mkF m 5 #[vR (t1), vI ((0 : Int32))] [(.int sz.toInt32), (.int (0 : Int32))])) rfl (by rw [hml]; rfl) (argsL := [(.int (0 : Int32)), (.int sz.toInt32)]) (rest := []) (lenOf pd_1 rfl) rfl (by exact Nat.le_of_eq rfl) (hb hby d46_5) (fun _ _ => ⟨rfl, e1, (by decide : 0 + 0 ≤ _), (by decide : 0 + 0 ≤ _)⟩)
  dsimp only [Pt.U, Pt.locs, Pt.cells, Pt.slots] at X2 l2 y2 z2 st2 hQ2
  subst l2 y2 z2
  obtain ⟨rfl, N2q, e2⟩ := hQ2
  have N2 := Fr.app N0 N2q
  obtain ⟨T3, X3, e3, st3⟩ := getF X2 hx hZ hown (host := "") (Or.inl (oW hw 185 rfl)) Via.refl e2 Frt (g := (mkF m 10 #[vR (t1), vI ((0 : Int32))] [(.ref t1)])) rfl rfl (hb hby d46_10)
  obtain ⟨T4, X4, e4, st4⟩ := getF X3 hx hZ hown (host := "") (Or.inl (oW hw 187 rfl)) Via.refl e3 Fo (g := (mkF m 14 #[vR (t1), vI ((0 : Int32))] [(.ref t1), (.ref a1)])) rfl rfl (hb hby d46_14)
  obtain ⟨cq5, kq5, q5a, q5b, q5c⟩ := isOf hZ e4 E1_
  obtain ⟨_, _, ⟨T5, L5, k5, n5⟩, -, X5, ⟨Lc5, hQ5, l5, y5, z5⟩, st5⟩ := X4.virtualBackUp hx (x := Y56_) (y := Y32_) (owner := "java/util/List") hown (mvT hZ (oW hw 361 rfl)) (mvT hZ (oW hw 362 rfl)) (mvT hZ (oW hw 338 rfl)) (by decide) (mvT hZ (oW hw 363 rfl)) (mvT hZ (oW hw 341 rfl)) (backOf (W := 0) (r_getB0 l Z a0 hw [] s_D s_L s_LE s_E s_Z mr kd_ kl_ h0 n0 O0 G0 a1 x_ y_ E1_ F1 F2 hyE) hZ (oW hw 344 rfl) (oW hw 306 rfl) (by decide) (by decide)) q5a q5c (g := (mkF m 19 #[vR (t1), vI ((0 : Int32))] [(.int ((0 : Int32) + (0 : Int32))), (.ref a1)])) rfl (by rw [hml]; rfl) (Steps.refl _) (argsL := [(.int ((0 : Int32) + (0 : Int32)))]) (rest := []) (lenOf pd_18 rfl) rfl (by exact Nat.le_of_eq rfl) (hb hby d46_19) (fun _ _ => ⟨rfl, e4, (by decide : 0 + 0 ≤ _), (by decide : 0 + 0 ≤ _)⟩)
  dsimp only [Pt.U, Pt.locs, Pt.cells, Pt.slots] at X5 l5 y5 z5 st5 hQ5
  subst l5 y5 z5
  obtain ⟨rfl, N5q, e5⟩ := hQ5
  have N5 := Fr.app N2 N5q
  obtain ⟨fs, hr, hrun, hended, hW, hsame⟩ := X5.leave (v := some (.ref x_)) (oR Bd.returns)
  refine ⟨_, _, pre0 _ ?_, hrun, hended, _, _, rfl, ?_, ⟨_, rfl⟩, hW, hsame.mono (by decide) (by decide)⟩
  · show own_St p e below s₁ m 0 #[vR (t1), vI ((0 : Int32))] [] _
    refine XS.iloadN X0.here hx rfl (hb hby d46_0) rfl ?_
    refine XS.aloadN X0.here hx rfl (hb hby d46_1) rfl rfl ?_
    refine st1 _ ?_
    refine st2 _ ?_
    show own_St p e below T2 m 8 #[vR (t1), vI ((0 : Int32))] [(.int (0 : Int32))] _
    refine XS.pop X2.here hx rfl (hb hby d46_8) rfl rfl ?_
    show own_St p e below T2 m 9 #[vR (t1), vI ((0 : Int32))] [] _
    refine XS.aloadN X2.here hx rfl (hb hby d46_9) rfl rfl ?_
    refine st3 _ ?_
    show own_St p e below T3 m 13 #[vR (t1), vI ((0 : Int32))] [(.ref a1)] _
    refine XS.aloadN X3.here hx rfl (hb hby d46_13) rfl rfl ?_
    refine st4 _ ?_
    show own_St p e below T4 m 17 #[vR (t1), vI ((0 : Int32))] [(.int (0 : Int32)), (.ref a1)] _
    refine XS.iloadN X4.here hx rfl (hb hby d46_17) rfl ?_
    refine XS.iadd X4.here hx rfl (hb hby d46_18) rfl ?_
    refine st5.trans ?_
    show own_St p e below T5 m 22 #[vR (t1), vI ((0 : Int32))] [(.ref x_)] _
    exact retOut X5 hx Bd.returns rfl (Or.inr (Or.inr (Or.inr (Or.inr ⟨rfl, rfl, rfl⟩)))) (hb hby d46_22) hr
  · show own_Q (some (.ref x_)) h0 n0 _ T5.heap _
    rw [e5]
    exact ⟨rfl, N5, rfl⟩
theorem r_sgB01 (l Z a0) (hw : own_HW a0 Z) (ws s_D s_L s_LE s_E s_Z mr kd_ kl_ h0 n0) (O0 : Old Z n0 h0) (G : own_Ctx Z Z.heap s_D s_L s_LE s_E s_Z mr kd_ kl_) (t1 : Addr) (sz : Nat) (a1 x_ y_ : Addr) (Et : Exa Z h0 t1 "java/util/ImmutableCollections$SubList") (Frt : Fld Z h0 t1 "java/util/ImmutableCollections$SubList" "root" "Ljava/util/ImmutableCollections$AbstractImmutableList;" (.ref a1)) (Fo : Fld Z h0 t1 "java/util/ImmutableCollections$SubList" "offset" "I" (.int (0 : Int32))) (Fz : Fld Z h0 t1 "java/util/ImmutableCollections$SubList" "size" "I" (.int sz.toInt32)) (E1_ : Exa Z h0 a1 "java/util/ImmutableCollections$List12") (F1 : Fld Z h0 a1 "java/util/ImmutableCollections$List12" "e0" "Ljava/lang/Object;" (.ref x_)) (F2 : Fld Z h0 a1 "java/util/ImmutableCollections$List12" "e1" "Ljava/lang/Object;" (.ref y_)) (hyE : y_ ≠ s_E) (hi : 1 < sz) (hz4 : sz ≤ 4) :
    oM l Y55_ jdk_2608_method_4_code 2 (some (.object "java/lang/Object")) ws (own_rm_ 2 0 0 27) #[(.ref t1), (.int (1 : Int32))] Z h0 n0 (own_Q (some (.ref y_))) := by
  have G0 := G
  refine MetFree.of_bodySF (plainFor_of_name pn_16) hisR ?_
  intro p e s m args below meth c s₁ Bd hml0 hP hK
  obtain ⟨rfl, hZ, hh⟩ := hP
  have hx := Bd.exec
  have hby := Bd.bytes
  have hml : c.maxLocals = 2 := hml0
  have hown := findClass_of_methodNamed Bd.named
  have X0 : Stand p l e (own_rm_ 2 0 0 27) s m #[(.ref t1), (.int (1 : Int32))] below meth c s₁ [] 0 0 := Stand.of_body Bd
  have e0 : s₁.heap = h0 := by rw [← hh, Bd.state]; rfl
  have N0 := Fr.nil n0
  have pre0 := own_pre (tb := p.tables) (e := e) (below := below) (T := s₁) (ef_46_46 m t1 (1 : Int32))
  obtain ⟨T1, X1, e1, st1⟩ := getF X0 hx hZ hown (host := "") (Or.inl (oW hw 189 rfl)) Via.refl e0 Fz (g := (mkF m 2 #[vR (t1), vI ((1 : Int32))] [(.ref t1), (.int (1 : Int32))])) rfl rfl (hb hby d46_2)
  obtain ⟨_, _, ⟨T2, L2, k2, n2⟩, -, X2, ⟨Lc2, hQ2, l2, y2, z2⟩, st2⟩ := Jvm.LawKit.callS X1 hx (y := Y51_) hown (mvT hZ (oW hw 360 rfl)) (mvT hZ (oW hw 143 rfl)) (mvT hZ (oW hw 144 rfl)) (mvT hZ (oW hw 145 rfl)) (by decide) (backOf (W := 0) (r_oci l Z a0 hw [] s_D s_L s_LE s_E s_Z mr kd_ kl_ h0 n0 O0 G0 (1 : Int32) sz.toInt32 (own_inx hi hz4).1 (own_inx hi hz4).2) hZ (oW hw 145 rfl) (oW hw 144 rfl) (by decide) (by decide)) (g := (mkF m 5 #[vR (t1), vI ((1 : Int32))] [(.int sz.toInt32), (.int (1 : Int32))])) rfl (by rw [hml]; rfl) (argsL := [(.int (1 : Int32)), (.int sz.toInt32)]) (rest := []) (lenOf pd_1 rfl) rfl (by exact Nat.le_of_eq rfl) (hb hby d46_5) (fun _ _ => ⟨rfl, e1, (by decide : 0 + 0 ≤ _), (by decide : 0 + 0 ≤ _)⟩)
  dsimp only [Pt.U, Pt.locs, Pt.cells, Pt.slots] at X2 l2 y2 z2 st2 hQ2
  subst l2 y2 z2
  obtain ⟨rfl, N2q, e2⟩ := hQ2
  have N2 := Fr.app N0 N2q
  obtain ⟨T3, X3, e3, st3⟩ := getF X2 hx hZ hown (host := "") (Or.inl (oW hw 185 rfl)) Via.refl e2 Frt (g := (mkF m 10 #[vR (t1), vI ((1 : Int32))] [(.ref t1)])) rfl rfl (hb hby d46_10)
  obtain ⟨T4, X4, e4, st4⟩ := getF X3 hx hZ hown (host := "") (Or.inl (oW hw 187 rfl)) Via.refl e3 Fo (g := (mkF m 14 #[vR (t1), vI ((1 : Int32))] [(.ref t1), (.ref a1)])) rfl rfl (hb hby d46_14)
  obtain ⟨cq5, kq5, q5a, q5b, q5c⟩ := isOf hZ e4 E1_
  obtain ⟨_, _, ⟨T5, L5, k5, n5⟩, -, X5, ⟨Lc5, hQ5, l5, y5, z5⟩, st5⟩ := X4.virtualBackUp hx (x := Y56_) (y := Y32_) (owner := "java/util/List") hown (mvT hZ (oW hw 361 rfl)) (mvT hZ (oW hw 362 rfl)) (mvT hZ (oW hw 338 rfl)) (by decide) (mvT hZ (oW hw 363 rfl)) (mvT hZ (oW hw 341 rfl)) (backOf (W := 0) (r_getB1 l Z a0 hw [] s_D s_L s_LE s_E s_Z mr kd_ kl_ h0 n0 O0 G0 a1 x_ y_ E1_ F1 F2 hyE) hZ (oW hw 344 rfl) (oW hw 306 rfl) (by decide) (by decide)) q5a q5c (g := (mkF m 19 #[vR (t1), vI ((1 : Int32))] [(.int ((0 : Int32) + (1 : Int32))), (.ref a1)])) rfl (by rw [hml]; rfl) (Steps.refl _) (argsL := [(.int ((0 : Int32) + (1 : Int32)))]) (rest := []) (lenOf pd_18 rfl) rfl (by exact Nat.le_of_eq rfl) (hb hby d46_19) (fun _ _ => ⟨rfl, e4, (by decide : 0 + 0 ≤ _), (by decide : 0 + 0 ≤ _)⟩)
  dsimp only [Pt.U, Pt.locs, Pt.cells, Pt.slots] at X5 l5 y5 z5 st5 hQ5
  subst l5 y5 z5
  obtain ⟨rfl, N5q, e5⟩ := hQ5
  have N5 := Fr.app N2 N5q
  obtain ⟨fs, hr, hrun, hended, hW, hsame⟩ := X5.leave (v := some (.ref y_)) (oR Bd.returns)
  refine ⟨_, _, pre0 _ ?_, hrun, hended, _, _, rfl, ?_, ⟨_, rfl⟩, hW, hsame.mono (by decide) (by decide)⟩
  · show own_St p e below s₁ m 0 #[vR (t1), vI ((1 : Int32))] [] _
    refine XS.iloadN X0.here hx rfl (hb hby d46_0) rfl ?_
    refine XS.aloadN X0.here hx rfl (hb hby d46_1) rfl rfl ?_
    refine st1 _ ?_
    refine st2 _ ?_
    show own_St p e below T2 m 8 #[vR (t1), vI ((1 : Int32))] [(.int (1 : Int32))] _
    refine XS.pop X2.here hx rfl (hb hby d46_8) rfl rfl ?_
    show own_St p e below T2 m 9 #[vR (t1), vI ((1 : Int32))] [] _
    refine XS.aloadN X2.here hx rfl (hb hby d46_9) rfl rfl ?_
    refine st3 _ ?_
    show own_St p e below T3 m 13 #[vR (t1), vI ((1 : Int32))] [(.ref a1)] _
    refine XS.aloadN X3.here hx rfl (hb hby d46_13) rfl rfl ?_
    refine st4 _ ?_
    show own_St p e below T4 m 17 #[vR (t1), vI ((1 : Int32))] [(.int (0 : Int32)), (.ref a1)] _
    refine XS.iloadN X4.here hx rfl (hb hby d46_17) rfl ?_
    refine XS.iadd X4.here hx rfl (hb hby d46_18) rfl ?_
    refine st5.trans ?_
    show own_St p e below T5 m 22 #[vR (t1), vI ((1 : Int32))] [(.ref y_)] _
    exact retOut X5 hx Bd.returns rfl (Or.inr (Or.inr (Or.inr (Or.inr ⟨rfl, rfl, rfl⟩)))) (hb hby d46_22) hr
  · show own_Q (some (.ref y_)) h0 n0 _ T5.heap _
    rw [e5]
    exact ⟨rfl, N5, rfl⟩
theorem r_sgB10 (l Z a0) (hw : own_HW a0 Z) (ws s_D s_L s_LE s_E s_Z mr kd_ kl_ h0 n0) (O0 : Old Z n0 h0) (G : own_Ctx Z Z.heap s_D s_L s_LE s_E s_Z mr kd_ kl_) (t1 : Addr) (sz : Nat) (a1 x_ y_ : Addr) (Et : Exa Z h0 t1 "java/util/ImmutableCollections$SubList") (Frt : Fld Z h0 t1 "java/util/ImmutableCollections$SubList" "root" "Ljava/util/ImmutableCollections$AbstractImmutableList;" (.ref a1)) (Fo : Fld Z h0 t1 "java/util/ImmutableCollections$SubList" "offset" "I" (.int (1 : Int32))) (Fz : Fld Z h0 t1 "java/util/ImmutableCollections$SubList" "size" "I" (.int sz.toInt32)) (E1_ : Exa Z h0 a1 "java/util/ImmutableCollections$List12") (F1 : Fld Z h0 a1 "java/util/ImmutableCollections$List12" "e0" "Ljava/lang/Object;" (.ref x_)) (F2 : Fld Z h0 a1 "java/util/ImmutableCollections$List12" "e1" "Ljava/lang/Object;" (.ref y_)) (hyE : y_ ≠ s_E) (hi : 0 < sz) (hz4 : sz ≤ 4) :
    oM l Y55_ jdk_2608_method_4_code 2 (some (.object "java/lang/Object")) ws (own_rm_ 2 0 0 27) #[(.ref t1), (.int (0 : Int32))] Z h0 n0 (own_Q (some (.ref y_))) := by
  have G0 := G
  refine MetFree.of_bodySF (plainFor_of_name pn_16) hisR ?_
  intro p e s m args below meth c s₁ Bd hml0 hP hK
  obtain ⟨rfl, hZ, hh⟩ := hP
  have hx := Bd.exec
  have hby := Bd.bytes
  have hml : c.maxLocals = 2 := hml0
  have hown := findClass_of_methodNamed Bd.named
  have X0 : Stand p l e (own_rm_ 2 0 0 27) s m #[(.ref t1), (.int (0 : Int32))] below meth c s₁ [] 0 0 := Stand.of_body Bd
  have e0 : s₁.heap = h0 := by rw [← hh, Bd.state]; rfl
  have N0 := Fr.nil n0
  have pre0 := own_pre (tb := p.tables) (e := e) (below := below) (T := s₁) (ef_46_46 m t1 (0 : Int32))
  obtain ⟨T1, X1, e1, st1⟩ := getF X0 hx hZ hown (host := "") (Or.inl (oW hw 189 rfl)) Via.refl e0 Fz (g := (mkF m 2 #[vR (t1), vI ((0 : Int32))] [(.ref t1), (.int (0 : Int32))])) rfl rfl (hb hby d46_2)
  obtain ⟨_, _, ⟨T2, L2, k2, n2⟩, -, X2, ⟨Lc2, hQ2, l2, y2, z2⟩, st2⟩ := Jvm.LawKit.callS X1 hx (y := Y51_) hown (mvT hZ (oW hw 360 rfl)) (mvT hZ (oW hw 143 rfl)) (mvT hZ (oW hw 144 rfl)) (mvT hZ (oW hw 145 rfl)) (by decide) (backOf (W := 0) (r_oci l Z a0 hw [] s_D s_L s_LE s_E s_Z mr kd_ kl_ h0 n0 O0 G0 (0 : Int32) sz.toInt32 (own_inx hi hz4).1 (own_inx hi hz4).2) hZ (oW hw 145 rfl) (oW hw 144 rfl) (by decide) (by decide)) (g := (mkF m 5 #[vR (t1), vI ((0 : Int32))] [(.int sz.toInt32), (.int (0 : Int32))])) rfl (by rw [hml]; rfl) (argsL := [(.int (0 : Int32)), (.int sz.toInt32)]) (rest := []) (lenOf pd_1 rfl) rfl (by exact Nat.le_of_eq rfl) (hb hby d46_5) (fun _ _ => ⟨rfl, e1, (by decide : 0 + 0 ≤ _), (by decide : 0 + 0 ≤ _)⟩)
  dsimp only [Pt.U, Pt.locs, Pt.cells, Pt.slots] at X2 l2 y2 z2 st2 hQ2
  subst l2 y2 z2
  obtain ⟨rfl, N2q, e2⟩ := hQ2
  have N2 := Fr.app N0 N2q
  obtain ⟨T3, X3, e3, st3⟩ := getF X2 hx hZ hown (host := "") (Or.inl (oW hw 185 rfl)) Via.refl e2 Frt (g := (mkF m 10 #[vR (t1), vI ((0 : Int32))] [(.ref t1)])) rfl rfl (hb hby d46_10)
  obtain ⟨T4, X4, e4, st4⟩ := getF X3 hx hZ hown (host := "") (Or.inl (oW hw 187 rfl)) Via.refl e3 Fo (g := (mkF m 14 #[vR (t1), vI ((0 : Int32))] [(.ref t1), (.ref a1)])) rfl rfl (hb hby d46_14)
  obtain ⟨cq5, kq5, q5a, q5b, q5c⟩ := isOf hZ e4 E1_
  obtain ⟨_, _, ⟨T5, L5, k5, n5⟩, -, X5, ⟨Lc5, hQ5, l5, y5, z5⟩, st5⟩ := X4.virtualBackUp hx (x := Y56_) (y := Y32_) (owner := "java/util/List") hown (mvT hZ (oW hw 361 rfl)) (mvT hZ (oW hw 362 rfl)) (mvT hZ (oW hw 338 rfl)) (by decide) (mvT hZ (oW hw 363 rfl)) (mvT hZ (oW hw 341 rfl)) (backOf (W := 0) (r_getB1 l Z a0 hw [] s_D s_L s_LE s_E s_Z mr kd_ kl_ h0 n0 O0 G0 a1 x_ y_ E1_ F1 F2 hyE) hZ (oW hw 344 rfl) (oW hw 306 rfl) (by decide) (by decide)) q5a q5c (g := (mkF m 19 #[vR (t1), vI ((0 : Int32))] [(.int ((1 : Int32) + (0 : Int32))), (.ref a1)])) rfl (by rw [hml]; rfl) (Steps.refl _) (argsL := [(.int ((1 : Int32) + (0 : Int32)))]) (rest := []) (lenOf pd_18 rfl) rfl (by exact Nat.le_of_eq rfl) (hb hby d46_19) (fun _ _ => ⟨rfl, e4, (by decide : 0 + 0 ≤ _), (by decide : 0 + 0 ≤ _)⟩)
  dsimp only [Pt.U, Pt.locs, Pt.cells, Pt.slots] at X5 l5 y5 z5 st5 hQ5
  subst l5 y5 z5
  obtain ⟨rfl, N5q, e5⟩ := hQ5
  have N5 := Fr.app N2 N5q
  obtain ⟨fs, hr, hrun, hended, hW, hsame⟩ := X5.leave (v := some (.ref y_)) (oR Bd.returns)
  refine ⟨_, _, pre0 _ ?_, hrun, hended, _, _, rfl, ?_, ⟨_, rfl⟩, hW, hsame.mono (by decide) (by decide)⟩
  · show own_St p e below s₁ m 0 #[vR (t1), vI ((0 : Int32))] [] _
    refine XS.iloadN X0.here hx rfl (hb hby d46_0) rfl ?_
    refine XS.aloadN X0.here hx rfl (hb hby d46_1) rfl rfl ?_
    refine st1 _ ?_
    refine st2 _ ?_
    show own_St p e below T2 m 8 #[vR (t1), vI ((0 : Int32))] [(.int (0 : Int32))] _
    refine XS.pop X2.here hx rfl (hb hby d46_8) rfl rfl ?_
    show own_St p e below T2 m 9 #[vR (t1), vI ((0 : Int32))] [] _
    refine XS.aloadN X2.here hx rfl (hb hby d46_9) rfl rfl ?_
    refine st3 _ ?_
    show own_St p e below T3 m 13 #[vR (t1), vI ((0 : Int32))] [(.ref a1)] _
    refine XS.aloadN X3.here hx rfl (hb hby d46_13) rfl rfl ?_
    refine st4 _ ?_
    show own_St p e below T4 m 17 #[vR (t1), vI ((0 : Int32))] [(.int (1 : Int32)), (.ref a1)] _
    refine XS.iloadN X4.here hx rfl (hb hby d46_17) rfl ?_
    refine XS.iadd X4.here hx rfl (hb hby d46_18) rfl ?_
    refine st5.trans ?_
    show own_St p e below T5 m 22 #[vR (t1), vI ((0 : Int32))] [(.ref y_)] _
    exact retOut X5 hx Bd.returns rfl (Or.inr (Or.inr (Or.inr (Or.inr ⟨rfl, rfl, rfl⟩)))) (hb hby d46_22) hr
  · show own_Q (some (.ref y_)) h0 n0 _ T5.heap _
    rw [e5]
    exact ⟨rfl, N5, rfl⟩
theorem r_sg (l Z a0) (hw : own_HW a0 Z) (ws s_D s_L s_LE s_E s_Z mr kd_ kl_ h0 n0) (O0 : Old Z n0 h0) (G : own_Ctx Z Z.heap s_D s_L s_LE s_E s_Z mr kd_ kl_) (t1 a1 : Addr) (lo sz i : Nat) (xs : List Addr) (Sl : own_Sl Z h0 t1 a1 lo sz) (I : own_IL Z h0 a1 s_E xs) (hi : i < sz) (hz4 : sz ≤ 4) (hbd : lo + sz ≤ xs.length) (hn : xs.length ≤ 4) :
    oM l Y55_ jdk_2608_method_4_code 2 (some (.object "java/lang/Object")) ws (own_rm_ 2 0 0 27) #[(.ref t1), (.int i.toInt32)] Z h0 n0 (own_Q (some (.ref (xs[lo + i]'(own_lt8 hi hbd))))) := by
  obtain ⟨Et, Fr, Fo, Fz⟩ := Sl
  rcases I with ⟨E1, b, k, F, V⟩ | ⟨x, rfl, E1, F0, F1⟩ | ⟨x, y, rfl, ne, E1, F0, F1⟩
  · exact r_sgN l Z a0 hw ws s_D s_L s_LE s_E s_Z mr kd_ kl_ h0 n0 O0 G t1 sz a1 b k xs lo i Et Fr Fo Fz E1 F V hn hi hz4 hbd
  · have hb1 : lo + sz ≤ 1 := hbd
    obtain rfl : lo = 0 := by omega
    obtain rfl : i = 0 := by omega
    exact r_sgA l Z a0 hw ws s_D s_L s_LE s_E s_Z mr kd_ kl_ h0 n0 O0 G t1 sz a1 x Et Fr Fo Fz E1 F0 F1 hi hz4
  · have hb1 : lo + sz ≤ 2 := hbd
    have h3 : (lo = 0 ∧ i = 0) ∨ (lo = 0 ∧ i = 1) ∨ (lo = 1 ∧ i = 0) := by omega
    rcases h3 with ⟨rfl, rfl⟩ | ⟨rfl, rfl⟩ | ⟨rfl, rfl⟩
    · exact r_sgB00 l Z a0 hw ws s_D s_L s_LE s_E s_Z mr kd_ kl_ h0 n0 O0 G t1 sz a1 x y Et Fr Fo Fz E1 F0 F1 ne hi hz4
    · exact r_sgB01 l Z a0 hw ws s_D s_L s_LE s_E s_Z mr kd_ kl_ h0 n0 O0 G t1 sz a1 x y Et Fr Fo Fz E1 F0 F1 ne hi hz4
    · exact r_sgB10 l Z a0 hw ws s_D s_L s_LE s_E s_Z mr kd_ kl_ h0 n0 O0 G t1 sz a1 x y Et Fr Fo Fz E1 F0 F1 ne hi hz4
theorem d47_0 : D47_ 0 = .ok (.aload_n 0, 1) := by decide +kernel
theorem d47_1 : D47_ 1 = .ok (.getfield 34, 3) := by decide +kernel
theorem d47_4 : D47_ 4 = .ok (.ireturn, 1) := by decide +kernel
theorem ef_47_47 (m : MethodId) (x0 : Addr) : entryFrame m #[(.ref x0)] 1 = mkF m 0 #[vR (x0)] [] := by first | (simp [entryFrame, mkF, argsToLocals, Value.category]; done) | rfl
theorem r_org (l Z a0) (hw : own_HW a0 Z) (ws s_D s_L s_LE s_E s_Z mr kd_ kl_ h0 n0) (O0 : Old Z n0 h0) (G : own_Ctx Z Z.heap s_D s_L s_LE s_E s_Z mr kd_ kl_) (a1 : Addr) (z1 : Int32) (F1 : Fld Z h0 a1 "com/example/hodos/hodos/analysis/Course$Arc" "origin" "I" (.int z1)) :
    oM l Y57_ prog_9_method_10_code 1 (some .int) ws (own_rm_ 0 0 0 0) #[(.ref a1)] Z h0 n0 (own_Q (some (.int z1))) := by
  have G0 := G
  refine MetFree.of_bodySF (plainFor_of_name pn_12) hisR ?_
  intro p e s m args below meth c s₁ Bd hml0 hP hK
  obtain ⟨rfl, hZ, hh⟩ := hP
  have hx := Bd.exec
  have hby := Bd.bytes
  have hml : c.maxLocals = 1 := hml0
  have hown := findClass_of_methodNamed Bd.named
  have X0 : Stand p l e (own_rm_ 0 0 0 0) s m #[(.ref a1)] below meth c s₁ [] 0 0 := Stand.of_body Bd
  have e0 : s₁.heap = h0 := by rw [← hh, Bd.state]; rfl
  have N0 := Fr.nil n0
  have pre0 := own_pre (tb := p.tables) (e := e) (below := below) (T := s₁) (ef_47_47 m a1)
  obtain ⟨T1, X1, e1, st1⟩ := getF X0 hx hZ hown (host := "") (Or.inl (oW hw 243 rfl)) Via.refl e0 F1 (g := (mkF m 1 #[vR (a1)] [(.ref a1)])) rfl rfl (hb hby d47_1)
  obtain ⟨fs, hr, hrun, hended, hW, hsame⟩ := X1.leave (v := some (.int z1)) (oR Bd.returns)
  refine ⟨_, _, pre0 _ ?_, hrun, hended, _, _, rfl, ?_, ⟨_, rfl⟩, hW, hsame.mono (by decide) (by decide)⟩
  · show own_St p e below s₁ m 0 #[vR (a1)] [] _
    refine XS.aloadN X0.here hx rfl (hb hby d47_0) rfl rfl ?_
    refine st1 _ ?_
    show own_St p e below T1 m 4 #[vR (a1)] [(.int z1)] _
    exact retI X1 hx Bd.returns (hb hby d47_4) hr
  · show own_Q (some (.int z1)) h0 n0 _ T1.heap _
    rw [e1]
    exact ⟨rfl, N0, rfl⟩
theorem own_geq {i n : Nat} (h : ¬ (i < n)) (hi : i < 4) : ¬ (i.toInt32 < n.toInt32) := own_nlt (by omega) (by omega)
theorem d27_0 : D27_ 0 = .ok (.iload_n 1, 1) := by decide +kernel
theorem d27_1 : D27_ 1 = .ok (.iload_n 3, 1) := by decide +kernel
theorem d27_2 : D27_ 2 = .ok (.if_icmp .ge 22, 3) := by decide +kernel
theorem d27_24 : D27_ 24 = .ok (.iconst 1, 1) := by decide +kernel
theorem d27_25 : D27_ 25 = .ok (.goto 4, 3) := by decide +kernel
theorem d27_29 : D27_ 29 = .ok (.ireturn, 1) := by decide +kernel
theorem ef_27_48 (m : MethodId) (x0 : Addr) (x1 : Int32) (x2 : Int32) (x3 : Int32) : entryFrame m #[(.ref x0), (.int x1), (.int x2), (.int x3)] 4 = mkF m 0 #[vR (x0), vI (x1), vI (x2), vI (x3)] [] := by first | (simp [entryFrame, mkF, argsToLocals, Value.category]; done) | rfl
theorem pn_18 : plainName "com/example/hodos/hodos/analysis/CourseArcsFromPinLaw" = true := by first | (simp [plainName, overriddenIn]; done) | decide +kernel
theorem r_ck0 (l Z a0) (hw : own_HW a0 Z) (ws s_D s_L s_LE s_E s_Z mr kd_ kl_ h0 n0) (O0 : Old Z n0 h0) (G : own_Ctx Z Z.heap s_D s_L s_LE s_E s_Z mr kd_ kl_) (t1 a1 : Addr) (lo sz i : Nat) (xs : List Addr) (ss : List Nat) (Sl : own_Sl Z h0 t1 a1 lo sz) (I : own_IL Z h0 a1 s_E xs) (Ar : own_Arcs Z h0 xs ss) (h4 : i < 4) (hbd : lo + sz ≤ xs.length) (hn : xs.length ≤ 4) (hi : ¬ (i < sz)) :
    oM l Y58_ method_3_code 4 (some .boolean) ws (own_rm_ 3 0 0 40) #[(.ref t1), (.int i.toInt32), (.int lo.toInt32), (.int sz.toInt32)] Z h0 n0 (own_Q (some (.int (1 : Int32)))) := by
  have G0 := G
  refine MetFree.of_bodySF (plainFor_of_name pn_18) hisR ?_
  intro p e s m args below meth c s₁ Bd hml0 hP hK
  obtain ⟨rfl, hZ, hh⟩ := hP
  have hx := Bd.exec
  have hby := Bd.bytes
  have hml : c.maxLocals = 4 := hml0
  have hown := findClass_of_methodNamed Bd.named
  have X0 : Stand p l e (own_rm_ 3 0 0 40) s m #[(.ref t1), (.int i.toInt32), (.int lo.toInt32), (.int sz.toInt32)] below meth c s₁ [] 0 0 := Stand.of_body Bd
  have e0 : s₁.heap = h0 := by rw [← hh, Bd.state]; rfl
  have N0 := Fr.nil n0
  have pre0 := own_pre (tb := p.tables) (e := e) (below := below) (T := s₁) (ef_27_48 m t1 i.toInt32 lo.toInt32 sz.toInt32)
  obtain ⟨fs, hr, hrun, hended, hW, hsame⟩ := X0.leave (v := some (.int (1 : Int32))) (oR Bd.returns)
  refine ⟨_, _, pre0 _ ?_, hrun, hended, _, _, rfl, ?_, ⟨_, rfl⟩, hW, hsame.mono (by decide) (by decide)⟩
  · show own_St p e below s₁ m 0 #[vR (t1), vI (i.toInt32), vI (lo.toInt32), vI (sz.toInt32)] [] _
    refine XS.iloadN X0.here hx rfl (hb hby d27_0) rfl ?_
    refine XS.iloadN X0.here hx rfl (hb hby d27_1) rfl ?_
    refine XS.icmpYes X0.here hx rfl (pc0 := 2) (pc' := 24) rfl (hb hby d27_2) rfl (flt (own_geq hi h4 : ¬ (i.toInt32 < sz.toInt32))).2.1 (by decide) (by decide) ?_
    refine XS.iconst X0.here hx rfl (hb hby d27_24) ?_
    refine XS.goto X0.here hx rfl (pc0 := 25) (pc' := 29) rfl (hb hby d27_25) (by decide) (by decide) ?_
    show own_St p e below s₁ m 29 #[vR (t1), vI (i.toInt32), vI (lo.toInt32), vI (sz.toInt32)] [(.int (1 : Int32))] _
    exact retN X0 hx (t := .boolean) Bd.returns (by simp) (hb hby d27_29) hr
  · show own_Q (some (.int (1 : Int32))) h0 n0 _ s₁.heap _
    rw [e0]
    exact ⟨rfl, N0, rfl⟩
theorem d27_5 : D27_ 5 = .ok (.aload_n 0, 1) := by decide +kernel
theorem d27_6 : D27_ 6 = .ok (.iload_n 1, 1) := by decide +kernel
theorem d27_7 : D27_ 7 = .ok (.invokeinterface 7 2, 5) := by decide +kernel
theorem d27_12 : D27_ 12 = .ok (.checkcast 13, 3) := by decide +kernel
theorem d27_15 : D27_ 15 = .ok (.invokevirtual 15, 3) := by decide +kernel
theorem d27_18 : D27_ 18 = .ok (.iload_n 2, 1) := by decide +kernel
theorem d27_19 : D27_ 19 = .ok (.iload_n 1, 1) := by decide +kernel
theorem d27_20 : D27_ 20 = .ok (.iadd, 1) := by decide +kernel
theorem d27_21 : D27_ 21 = .ok (.if_icmp .ne 7, 3) := by decide +kernel
theorem r_ck1 (l Z a0) (hw : own_HW a0 Z) (ws s_D s_L s_LE s_E s_Z mr kd_ kl_ h0 n0) (O0 : Old Z n0 h0) (G : own_Ctx Z Z.heap s_D s_L s_LE s_E s_Z mr kd_ kl_) (t1 a1 : Addr) (lo sz i : Nat) (xs : List Addr) (ss : List Nat) (Sl : own_Sl Z h0 t1 a1 lo sz) (I : own_IL Z h0 a1 s_E xs) (Ar : own_Arcs Z h0 xs ss) (h4 : i < 4) (hbd : lo + sz ≤ xs.length) (hn : xs.length ≤ 4) (hi : i < sz) :
    oM l Y58_ method_3_code 4 (some .boolean) ws (own_rm_ 3 0 0 40) #[(.ref t1), (.int i.toInt32), (.int lo.toInt32), (.int sz.toInt32)] Z h0 n0 (own_Q (some (.int (1 : Int32)))) := by
  have G0 := G
  refine MetFree.of_bodySF (plainFor_of_name pn_18) hisR ?_
  intro p e s m args below meth c s₁ Bd hml0 hP hK
  obtain ⟨rfl, hZ, hh⟩ := hP
  have hx := Bd.exec
  have hby := Bd.bytes
  have hml : c.maxLocals = 4 := hml0
  have hown := findClass_of_methodNamed Bd.named
  have X0 : Stand p l e (own_rm_ 3 0 0 40) s m #[(.ref t1), (.int i.toInt32), (.int lo.toInt32), (.int sz.toInt32)] below meth c s₁ [] 0 0 := Stand.of_body Bd
  have e0 : s₁.heap = h0 := by rw [← hh, Bd.state]; rfl
  have N0 := Fr.nil n0
  have pre0 := own_pre (tb := p.tables) (e := e) (below := below) (T := s₁) (ef_27_48 m t1 i.toInt32 lo.toInt32 sz.toInt32)
  have hx8 : lo + i < xs.length := own_lt8 hi hbd
  have hz4 : sz ≤ 4 := (own_h1 hi hbd hn).2.2
  obtain ⟨cq1, kq1, q1a, q1b, q1c⟩ := isOf hZ e0 Sl.1
  obtain ⟨_, _, ⟨T1, L1, k1, n1⟩, -, X1, ⟨Lc1, hQ1, l1, y1, z1⟩, st1⟩ := X0.interfaceBack hx (xi := Y38_) (y := Y55_) hown (mvT hZ (oW hw 354 rfl)) (mvT hZ (oW hw 338 rfl)) (mvT hZ (oW hw 339 rfl)) (mvT hZ (oW hw 355 rfl)) (mvT hZ (oW hw 356 rfl)) (mvT hZ (oW hw 357 rfl)) (mvT hZ (oW hw 358 rfl)) (mvT hZ (oW hw 202 rfl)) (by decide) (backOf (W := 0) (r_sg l Z a0 hw [] s_D s_L s_LE s_E s_Z mr kd_ kl_ h0 n0 O0 G0 t1 a1 lo sz i xs Sl I hi hz4 hbd hn) hZ (oW hw 359 rfl) (oW hw 163 rfl) (by decide) (by decide)) q1a q1b q1c (g := (mkF m 7 #[vR (t1), vI (i.toInt32), vI (lo.toInt32), vI (sz.toInt32)] [(.int i.toInt32), (.ref t1)])) rfl (by rw [hml]; rfl) (Steps.refl _) (argsL := [(.int i.toInt32)]) (rest := []) (lenOf pd_18 rfl) rfl (by exact Nat.le_of_eq rfl) (hb hby d27_7) (fun _ _ => ⟨rfl, e0, (by decide : 0 + 0 ≤ _), (by decide : 0 + 0 ≤ _)⟩)
  dsimp only [Pt.U, Pt.locs, Pt.cells, Pt.slots] at X1 l1 y1 z1 st1 hQ1
  subst l1 y1 z1
  obtain ⟨rfl, N1q, e1⟩ := hQ1
  have N1 := Fr.app N0 N1q
  obtain ⟨T2, X2, e2, st2⟩ := castY X1 hx hZ hown (oW hw 207 rfl) e1 (Ins.self (Ar.2 (lo + i) hx8).1) (g := (mkF m 12 #[vR (t1), vI (i.toInt32), vI (lo.toInt32), vI (sz.toInt32)] [(.ref xs[lo + i])])) rfl rfl (hb hby d27_12)
  obtain ⟨cq3, kq3, q3a, q3b, q3c⟩ := isOf hZ e2 (Ar.2 (lo + i) hx8).1
  obtain ⟨_, _, ⟨T3, L3, k3, n3⟩, -, X3, ⟨Lc3, hQ3, l3, y3, z3⟩, st3⟩ := X2.virtualBack hx (y := Y57_) (z := Y57_) hown (mvT hZ (oW hw 364 rfl)) (mvT hZ (oW hw 365 rfl)) (notFace_of_selects (args := #[]) (mvT hZ (oW hw 367 rfl))) (mvT hZ (oW hw 367 rfl)) (mvT hZ (oW hw 366 rfl)) (by decide) (backOf (W := 0) (r_org l Z a0 hw [] s_D s_L s_LE s_E s_Z mr kd_ kl_ h0 n0 O0 G0 xs[lo + i] (lo + i).toInt32 (Ar.2 (lo + i) hx8).2.2) hZ (oW hw 368 rfl) (oW hw 209 rfl) (by decide) (by decide)) q3a q3c (g := (mkF m 15 #[vR (t1), vI (i.toInt32), vI (lo.toInt32), vI (sz.toInt32)] [(.ref xs[lo + i])])) rfl (by rw [hml]; rfl) (Steps.refl _) (argsL := []) (rest := []) (lenOf pd_16 rfl) rfl (by exact Nat.le_of_eq rfl) (hb hby d27_15) (fun _ _ => ⟨rfl, e2, (by decide : 0 + 0 ≤ _), (by decide : 0 + 0 ≤ _)⟩)
  dsimp only [Pt.U, Pt.locs, Pt.cells, Pt.slots] at X3 l3 y3 z3 st3 hQ3
  subst l3 y3 z3
  obtain ⟨rfl, N3q, e3⟩ := hQ3
  have N3 := Fr.app N1 N3q
  obtain ⟨fs, hr, hrun, hended, hW, hsame⟩ := X3.leave (v := some (.int (1 : Int32))) (oR Bd.returns)
  refine ⟨_, _, pre0 _ ?_, hrun, hended, _, _, rfl, ?_, ⟨_, rfl⟩, hW, hsame.mono (by decide) (by decide)⟩
  · show own_St p e below s₁ m 0 #[vR (t1), vI (i.toInt32), vI (lo.toInt32), vI (sz.toInt32)] [] _
    refine XS.iloadN X0.here hx rfl (hb hby d27_0) rfl ?_
    refine XS.iloadN X0.here hx rfl (hb hby d27_1) rfl ?_
    refine XS.icmpNo X0.here hx rfl (hb hby d27_2) rfl (tlt ((own_inx hi hz4).2 : i.toInt32 < sz.toInt32)).2.1 ?_
    refine XS.aloadN X0.here hx rfl (hb hby d27_5) rfl rfl ?_
    refine XS.iloadN X0.here hx rfl (hb hby d27_6) rfl ?_
    refine st1.trans ?_
    refine st2 _ ?_
    refine st3.trans ?_
    show own_St p e below T3 m 18 #[vR (t1), vI (i.toInt32), vI (lo.toInt32), vI (sz.toInt32)] [(.int (lo + i).toInt32)] _
    refine XS.iloadN X3.here hx rfl (hb hby d27_18) rfl ?_
    refine XS.iloadN X3.here hx rfl (hb hby d27_19) rfl ?_
    refine XS.iadd X3.here hx rfl (hb hby d27_20) rfl ?_
    show own_St p e below T3 m 21 #[vR (t1), vI (i.toInt32), vI (lo.toInt32), vI (sz.toInt32)] [(.int (lo.toInt32 + i.toInt32)), (.int (lo + i).toInt32)] _
    rw [own_add (own_h1 hi hbd hn).2.1 (own_h1 hi hbd hn).1]
    refine XS.icmpNo X3.here hx rfl (hb hby d27_21) rfl (teq (rfl : (lo + i).toInt32 = (lo + i).toInt32)).2 ?_
    refine XS.iconst X3.here hx rfl (hb hby d27_24) ?_
    refine XS.goto X3.here hx rfl (pc0 := 25) (pc' := 29) rfl (hb hby d27_25) (by decide) (by decide) ?_
    show own_St p e below T3 m 29 #[vR (t1), vI (i.toInt32), vI (lo.toInt32), vI (sz.toInt32)] [(.int (1 : Int32))] _
    exact retN X3 hx (t := .boolean) Bd.returns (by simp) (hb hby d27_29) hr
  · show own_Q (some (.int (1 : Int32))) h0 n0 _ T3.heap _
    rw [e3]
    exact ⟨rfl, N3, rfl⟩
theorem r_ck (l Z a0) (hw : own_HW a0 Z) (ws s_D s_L s_LE s_E s_Z mr kd_ kl_ h0 n0) (O0 : Old Z n0 h0) (G : own_Ctx Z Z.heap s_D s_L s_LE s_E s_Z mr kd_ kl_) (t1 a1 : Addr) (lo sz i : Nat) (xs : List Addr) (ss : List Nat) (Sl : own_Sl Z h0 t1 a1 lo sz) (I : own_IL Z h0 a1 s_E xs) (Ar : own_Arcs Z h0 xs ss) (h4 : i < 4) (hbd : lo + sz ≤ xs.length) (hn : xs.length ≤ 4) :
    oM l Y58_ method_3_code 4 (some .boolean) ws (own_rm_ 3 0 0 40) #[(.ref t1), (.int i.toInt32), (.int lo.toInt32), (.int sz.toInt32)] Z h0 n0 (own_Q (some (.int (1 : Int32)))) := by
  rcases Classical.em (i < sz) with hi | hi
  · exact r_ck1 l Z a0 hw ws s_D s_L s_LE s_E s_Z mr kd_ kl_ h0 n0 O0 G t1 a1 lo sz i xs ss Sl I Ar h4 hbd hn hi
  · exact r_ck0 l Z a0 hw ws s_D s_L s_LE s_E s_Z mr kd_ kl_ h0 n0 O0 G t1 a1 lo sz i xs ss Sl I Ar h4 hbd hn hi
theorem d25_0 : D25_ 0 = .ok (.iload_n 1, 1) := by decide +kernel
theorem d25_1 : D25_ 1 = .ok (.iload_n 0, 1) := by decide +kernel
theorem d25_2 : D25_ 2 = .ok (.if_icmp .ge 12, 3) := by decide +kernel
theorem d25_5 : D25_ 5 = .ok (.iload_n 2, 1) := by decide +kernel
theorem d25_6 : D25_ 6 = .ok (.iload_n 3, 1) := by decide +kernel
theorem d25_7 : D25_ 7 = .ok (.if_icmp .ge 7, 3) := by decide +kernel
theorem d25_10 : D25_ 10 = .ok (.iconst 1, 1) := by decide +kernel
theorem d25_11 : D25_ 11 = .ok (.goto 4, 3) := by decide +kernel
theorem d25_15 : D25_ 15 = .ok (.ireturn, 1) := by decide +kernel
theorem ef_25_49 (m : MethodId) (x0 : Int32) (x1 : Int32) (x2 : Int32) (x3 : Int32) : entryFrame m #[(.int x0), (.int x1), (.int x2), (.int x3)] 4 = mkF m 0 #[vI (x0), vI (x1), vI (x2), vI (x3)] [] := by first | (simp [entryFrame, mkF, argsToLocals, Value.category]; done) | rfl
theorem r_cnta (l Z a0) (hw : own_HW a0 Z) (ws s_D s_L s_LE s_E s_Z mr kd_ kl_ h0 n0) (O0 : Old Z n0 h0) (G : own_Ctx Z Z.heap s_D s_L s_LE s_E s_Z mr kd_ kl_) (k j u t : Nat) (hk : k ≤ 100) (hj : j ≤ 100) (hu : u ≤ 100) (ht : t ≤ 100) (h1 : j < k) (h2 : u < t) :
    oM l Y59_ method_2_code 4 (some .int) ws (own_rm_ 0 0 0 0) #[(.int k.toInt32), (.int j.toInt32), (.int u.toInt32), (.int t.toInt32)] Z h0 n0 (own_Q (some (.int (own_cz k j u t).toInt32))) := by
  have G0 := G
  refine MetFree.of_bodySF (plainFor_of_name pn_18) hisR ?_
  intro p e s m args below meth c s₁ Bd hml0 hP hK
  obtain ⟨rfl, hZ, hh⟩ := hP
  have hx := Bd.exec
  have hby := Bd.bytes
  have hml : c.maxLocals = 4 := hml0
  have hown := findClass_of_methodNamed Bd.named
  have X0 : Stand p l e (own_rm_ 0 0 0 0) s m #[(.int k.toInt32), (.int j.toInt32), (.int u.toInt32), (.int t.toInt32)] below meth c s₁ [] 0 0 := Stand.of_body Bd
  have e0 : s₁.heap = h0 := by rw [← hh, Bd.state]; rfl
  have N0 := Fr.nil n0
  have pre0 := own_pre (tb := p.tables) (e := e) (below := below) (T := s₁) (ef_25_49 m k.toInt32 j.toInt32 u.toInt32 t.toInt32)
  obtain ⟨fs, hr, hrun, hended, hW, hsame⟩ := X0.leave (v := some (.int (1 : Int32))) (oR Bd.returns)
  refine ⟨_, _, pre0 _ ?_, hrun, hended, _, _, rfl, ?_, ⟨_, rfl⟩, hW, hsame.mono (by decide) (by decide)⟩
  · show own_St p e below s₁ m 0 #[vI (k.toInt32), vI (j.toInt32), vI (u.toInt32), vI (t.toInt32)] [] _
    refine XS.iloadN X0.here hx rfl (hb hby d25_0) rfl ?_
    refine XS.iloadN X0.here hx rfl (hb hby d25_1) rfl ?_
    refine XS.icmpNo X0.here hx rfl (hb hby d25_2) rfl (tlt (own_t1 h1 hk : j.toInt32 < k.toInt32)).2.1 ?_
    refine XS.iloadN X0.here hx rfl (hb hby d25_5) rfl ?_
    refine XS.iloadN X0.here hx rfl (hb hby d25_6) rfl ?_
    refine XS.icmpNo X0.here hx rfl (hb hby d25_7) rfl (tlt (own_t1 h2 ht : u.toInt32 < t.toInt32)).2.1 ?_
    refine XS.iconst X0.here hx rfl (hb hby d25_10) ?_
    refine XS.goto X0.here hx rfl (pc0 := 11) (pc' := 15) rfl (hb hby d25_11) (by decide) (by decide) ?_
    show own_St p e below s₁ m 15 #[vI (k.toInt32), vI (j.toInt32), vI (u.toInt32), vI (t.toInt32)] [(.int (1 : Int32))] _
    exact retI X0 hx Bd.returns (hb hby d25_15) hr
  · show own_Q (some (.int (own_cz k j u t).toInt32)) h0 n0 _ s₁.heap _
    rw [e0]
    exact ⟨by unfold own_cz; rw [if_pos ⟨h1, h2⟩]; rfl, N0, rfl⟩
theorem d25_14 : D25_ 14 = .ok (.iconst 0, 1) := by decide +kernel
theorem r_cntb (l Z a0) (hw : own_HW a0 Z) (ws s_D s_L s_LE s_E s_Z mr kd_ kl_ h0 n0) (O0 : Old Z n0 h0) (G : own_Ctx Z Z.heap s_D s_L s_LE s_E s_Z mr kd_ kl_) (k j u t : Nat) (hk : k ≤ 100) (hj : j ≤ 100) (hu : u ≤ 100) (ht : t ≤ 100) (h1 : ¬ (j < k)) :
    oM l Y59_ method_2_code 4 (some .int) ws (own_rm_ 0 0 0 0) #[(.int k.toInt32), (.int j.toInt32), (.int u.toInt32), (.int t.toInt32)] Z h0 n0 (own_Q (some (.int (own_cz k j u t).toInt32))) := by
  have G0 := G
  refine MetFree.of_bodySF (plainFor_of_name pn_18) hisR ?_
  intro p e s m args below meth c s₁ Bd hml0 hP hK
  obtain ⟨rfl, hZ, hh⟩ := hP
  have hx := Bd.exec
  have hby := Bd.bytes
  have hml : c.maxLocals = 4 := hml0
  have hown := findClass_of_methodNamed Bd.named
  have X0 : Stand p l e (own_rm_ 0 0 0 0) s m #[(.int k.toInt32), (.int j.toInt32), (.int u.toInt32), (.int t.toInt32)] below meth c s₁ [] 0 0 := Stand.of_body Bd
  have e0 : s₁.heap = h0 := by rw [← hh, Bd.state]; rfl
  have N0 := Fr.nil n0
  have pre0 := own_pre (tb := p.tables) (e := e) (below := below) (T := s₁) (ef_25_49 m k.toInt32 j.toInt32 u.toInt32 t.toInt32)
  obtain ⟨fs, hr, hrun, hended, hW, hsame⟩ := X0.leave (v := some (.int (0 : Int32))) (oR Bd.returns)
  refine ⟨_, _, pre0 _ ?_, hrun, hended, _, _, rfl, ?_, ⟨_, rfl⟩, hW, hsame.mono (by decide) (by decide)⟩
  · show own_St p e below s₁ m 0 #[vI (k.toInt32), vI (j.toInt32), vI (u.toInt32), vI (t.toInt32)] [] _
    refine XS.iloadN X0.here hx rfl (hb hby d25_0) rfl ?_
    refine XS.iloadN X0.here hx rfl (hb hby d25_1) rfl ?_
    refine XS.icmpYes X0.here hx rfl (pc0 := 2) (pc' := 14) rfl (hb hby d25_2) rfl (flt (own_t0 h1 hj : ¬ (j.toInt32 < k.toInt32))).2.1 (by decide) (by decide) ?_
    refine XS.iconst X0.here hx rfl (hb hby d25_14) ?_
    show own_St p e below s₁ m 15 #[vI (k.toInt32), vI (j.toInt32), vI (u.toInt32), vI (t.toInt32)] [(.int (0 : Int32))] _
    exact retI X0 hx Bd.returns (hb hby d25_15) hr
  · show own_Q (some (.int (own_cz k j u t).toInt32)) h0 n0 _ s₁.heap _
    rw [e0]
    exact ⟨by unfold own_cz; rw [if_neg (fun q => h1 q.1)]; rfl, N0, rfl⟩
theorem r_cntc (l Z a0) (hw : own_HW a0 Z) (ws s_D s_L s_LE s_E s_Z mr kd_ kl_ h0 n0) (O0 : Old Z n0 h0) (G : own_Ctx Z Z.heap s_D s_L s_LE s_E s_Z mr kd_ kl_) (k j u t : Nat) (hk : k ≤ 100) (hj : j ≤ 100) (hu : u ≤ 100) (ht : t ≤ 100) (h1 : j < k) (h2 : ¬ (u < t)) :
    oM l Y59_ method_2_code 4 (some .int) ws (own_rm_ 0 0 0 0) #[(.int k.toInt32), (.int j.toInt32), (.int u.toInt32), (.int t.toInt32)] Z h0 n0 (own_Q (some (.int (own_cz k j u t).toInt32))) := by
  have G0 := G
  refine MetFree.of_bodySF (plainFor_of_name pn_18) hisR ?_
  intro p e s m args below meth c s₁ Bd hml0 hP hK
  obtain ⟨rfl, hZ, hh⟩ := hP
  have hx := Bd.exec
  have hby := Bd.bytes
  have hml : c.maxLocals = 4 := hml0
  have hown := findClass_of_methodNamed Bd.named
  have X0 : Stand p l e (own_rm_ 0 0 0 0) s m #[(.int k.toInt32), (.int j.toInt32), (.int u.toInt32), (.int t.toInt32)] below meth c s₁ [] 0 0 := Stand.of_body Bd
  have e0 : s₁.heap = h0 := by rw [← hh, Bd.state]; rfl
  have N0 := Fr.nil n0
  have pre0 := own_pre (tb := p.tables) (e := e) (below := below) (T := s₁) (ef_25_49 m k.toInt32 j.toInt32 u.toInt32 t.toInt32)
  obtain ⟨fs, hr, hrun, hended, hW, hsame⟩ := X0.leave (v := some (.int (0 : Int32))) (oR Bd.returns)
  refine ⟨_, _, pre0 _ ?_, hrun, hended, _, _, rfl, ?_, ⟨_, rfl⟩, hW, hsame.mono (by decide) (by decide)⟩
  · show own_St p e below s₁ m 0 #[vI (k.toInt32), vI (j.toInt32), vI (u.toInt32), vI (t.toInt32)] [] _
    refine XS.iloadN X0.here hx rfl (hb hby d25_0) rfl ?_
    refine XS.iloadN X0.here hx rfl (hb hby d25_1) rfl ?_
    refine XS.icmpNo X0.here hx rfl (hb hby d25_2) rfl (tlt (own_t1 h1 hk : j.toInt32 < k.toInt32)).2.1 ?_
    refine XS.iloadN X0.here hx rfl (hb hby d25_5) rfl ?_
    refine XS.iloadN X0.here hx rfl (hb hby d25_6) rfl ?_
    refine XS.icmpYes X0.here hx rfl (pc0 := 7) (pc' := 14) rfl (hb hby d25_7) rfl (flt (own_t0 h2 hu : ¬ (u.toInt32 < t.toInt32))).2.1 (by decide) (by decide) ?_
    refine XS.iconst X0.here hx rfl (hb hby d25_14) ?_
    show own_St p e below s₁ m 15 #[vI (k.toInt32), vI (j.toInt32), vI (u.toInt32), vI (t.toInt32)] [(.int (0 : Int32))] _
    exact retI X0 hx Bd.returns (hb hby d25_15) hr
  · show own_Q (some (.int (own_cz k j u t).toInt32)) h0 n0 _ s₁.heap _
    rw [e0]
    exact ⟨by unfold own_cz; rw [if_neg (fun q => h2 q.2)]; rfl, N0, rfl⟩
theorem r_cnt (l Z a0) (hw : own_HW a0 Z) (ws s_D s_L s_LE s_E s_Z mr kd_ kl_ h0 n0) (O0 : Old Z n0 h0) (G : own_Ctx Z Z.heap s_D s_L s_LE s_E s_Z mr kd_ kl_) (k j u t : Nat) (hk : k ≤ 100) (hj : j ≤ 100) (hu : u ≤ 100) (ht : t ≤ 100) :
    oM l Y59_ method_2_code 4 (some .int) ws (own_rm_ 0 0 0 0) #[(.int k.toInt32), (.int j.toInt32), (.int u.toInt32), (.int t.toInt32)] Z h0 n0 (own_Q (some (.int (own_cz k j u t).toInt32))) := by
  rcases Classical.em (j < k) with h1 | h1
  · rcases Classical.em (u < t) with h2 | h2
    · exact r_cnta l Z a0 hw ws s_D s_L s_LE s_E s_Z mr kd_ kl_ h0 n0 O0 G k j u t hk hj hu ht h1 h2
    · exact r_cntc l Z a0 hw ws s_D s_L s_LE s_E s_Z mr kd_ kl_ h0 n0 O0 G k j u t hk hj hu ht h1 h2
  · exact r_cntb l Z a0 hw ws s_D s_L s_LE s_E s_Z mr kd_ kl_ h0 n0 O0 G k j u t hk hj hu ht h1
theorem own_room {a k b r : Nat} (h : a + b ≤ r) (q : k ≤ b) : a + k ≤ r := Nat.le_trans (Nat.add_le_add_left q a) h
theorem own_q4 {a b c d : Nat} (ha : a ≤ 3) (hb : b ≤ 3) (hc : c ≤ 3) (hd : d ≤ 3) : a ≤ 100 ∧ b ≤ 100 ∧ c ≤ 100 ∧ d ≤ 100 ∧ a + b ≤ 100 ∧ a + b + c ≤ 100 ∧ a + b + c + d ≤ 100 := by omega
theorem t_lp {p : Program} {l : Launch} {e : Env} {s : State} {m : MethodId} {args : Array Value} {below : List Frame} {meth : Method} {c : Code} {T0 : State} {locs : List Loc} {Z : State} {a0 : Array Value} {h0 : Heap} {n0 : Nat} (s_D s_L s_LE s_E s_Z mr : Addr) (kd_ kl_ : ClassId) (p1 p2 p3 kk_ : Int32) (m_ u0_ u1_ u2_ u3_ nd : Nat) (cells slots : Nat) (hce : cells + 0 ≤ 48) (hsl : slots + 0 ≤ 1280)
    (X0 : Stand p l e (own_rm_ 13 48 1280 3312) s m args below meth c T0 locs cells slots) (hx : p.tables.exec = Jvm.exec) (hZ : Z.Warmed39 s.vm) (hw : own_HW a0 Z) (hby : c.code = code) (hml : c.maxLocals = 22) (hown : s.vm.findClass "com/example/hodos/hodos/analysis/CourseArcsFromPinLaw" = some m.cls) (e0 : T0.heap = h0) (N0 : Fr n0 locs) (O0 : Old Z n0 h0) (G : own_Ctx Z Z.heap s_D s_L s_LE s_E s_Z mr kd_ kl_) (hm : p1 &&& (3 : Int32) = m_.toInt32) (hm3 : m_ ≤ 3) (hk : ((p1.toUInt32 >>> ((2 : Int32) &&& 31).toUInt32).toInt32) % (5 : Int32) = kk_) (hu0 : (((p2.toUInt32 >>> ((0 : Int32) &&& 31).toUInt32).toInt32) &&& (3 : Int32)) = u0_.toInt32) (hv0 : u0_ ≤ 3) (hu1 : (((p2.toUInt32 >>> ((2 : Int32) &&& 31).toUInt32).toInt32) &&& (3 : Int32)) = u1_.toInt32) (hv1 : u1_ ≤ 3) (hu2 : (((p2.toUInt32 >>> ((4 : Int32) &&& 31).toUInt32).toInt32) &&& (3 : Int32)) = u2_.toInt32) (hv2 : u2_ ≤ 3) (hu3 : (((p2.toUInt32 >>> ((6 : Int32) &&& 31).toUInt32).toInt32) &&& (3 : Int32)) = u3_.toInt32) (hv3 : u3_ ≤ 3) (hnd : (p3 &&& (2147483647 : Int32)) % (m_ + 1).toInt32 = nd.toInt32) :
    ∃ (T' : State) (h' : Heap) (L' : List Loc), Stand p l e (own_rm_ 13 48 1280 3312) s m args below meth c T' L' cells slots ∧ T'.heap = h' ∧ Fr n0 L' ∧ Old Z n0 h' ∧ (h' = h0) ∧ ∀ target, Steps p.tables e below (T'.setTop (mkF m 99 (oC p1 p2 p3 m_ kk_ u0_ u1_ u2_ u3_ (vI (nd.toInt32)) oU oU oU oU oU oU oU oU) [])) target → Steps p.tables e below (T0.setTop (mkF m 0 #[vI (p1), vI (p2), vI (p3), .unset, .unset, .unset, .unset, .unset, .unset, .unset, .unset, .unset, .unset, .unset, .unset, .unset, .unset, .unset, .unset, .unset, .unset, .unset] [])) target := by
  have G0 := G
  have q9 := own_q4 hv0 hv1 hv2 hv3
  obtain ⟨_, _, ⟨T1, L1, k1, n1⟩, -, X1, ⟨Lc1, hQ1, l1, y1, z1⟩, st1⟩ := Jvm.LawKit.callS X0 hx (y := Y8_) hown (mvT hZ (oW hw 0 rfl)) (mvT hZ (oW hw 1 rfl)) (mvT hZ (oW hw 2 rfl)) (mvT hZ (oW hw 3 rfl)) (by decide) (backOf (W := 0) (r_mi l Z a0 hw [] s_D s_L s_LE s_E s_Z mr kd_ kl_ h0 n0 O0 G0 u0_ m_ q9.1 (Nat.le_trans hm3 (by decide))) hZ (oW hw 3 rfl) (oW hw 2 rfl) (by decide) (by decide)) (g := (mkF m 56 (oD p1 p2 p3 m_ kk_ u0_ u1_ u2_ u3_ oU oU oU oU oU oU oU oU oU oU oU oU oU) [(.int m_.toInt32), (.int u0_.toInt32)])) rfl (by rw [hml]; rfl) (argsL := [(.int u0_.toInt32), (.int m_.toInt32)]) (rest := []) (lenOf pd_1 rfl) rfl (by exact Nat.le_of_eq rfl) (hb hby at_56) (fun _ _ => ⟨rfl, e0, (own_room hce (by decide)), (own_room hsl (by decide))⟩)
  dsimp only [Pt.U, Pt.locs, Pt.cells, Pt.slots] at X1 l1 y1 z1 st1 hQ1
  subst l1 y1 z1
  obtain ⟨rfl, N1q, e1⟩ := hQ1
  have N1 := Fr.app N0 N1q
  obtain ⟨_, _, ⟨T2, L2, k2, n2⟩, -, X2, ⟨Lc2, hQ2, l2, y2, z2⟩, st2⟩ := Jvm.LawKit.callS X1 hx (y := Y8_) hown (mvT hZ (oW hw 0 rfl)) (mvT hZ (oW hw 1 rfl)) (mvT hZ (oW hw 2 rfl)) (mvT hZ (oW hw 3 rfl)) (by decide) (backOf (W := 0) (r_mi l Z a0 hw [] s_D s_L s_LE s_E s_Z mr kd_ kl_ h0 n0 O0 G0 (u0_ + u1_) m_ q9.2.2.2.2.1 (Nat.le_trans hm3 (by decide))) hZ (oW hw 3 rfl) (oW hw 2 rfl) (by decide) (by decide)) (g := (mkF m 66 (oD p1 p2 p3 m_ kk_ u0_ u1_ u2_ u3_ (vI ((min u0_ m_).toInt32)) oU oU oU oU oU oU oU oU oU oU oU oU) [(.int m_.toInt32), (.int (u0_ + u1_).toInt32)])) rfl (by rw [hml]; rfl) (argsL := [(.int (u0_ + u1_).toInt32), (.int m_.toInt32)]) (rest := []) (lenOf pd_1 rfl) rfl (by exact Nat.le_of_eq rfl) (hb hby at_66) (fun _ _ => ⟨rfl, e1, (own_room hce (by decide)), (own_room hsl (by decide))⟩)
  dsimp only [Pt.U, Pt.locs, Pt.cells, Pt.slots] at X2 l2 y2 z2 st2 hQ2
  subst l2 y2 z2
  obtain ⟨rfl, N2q, e2⟩ := hQ2
  have N2 := Fr.app N1 N2q
  obtain ⟨_, _, ⟨T3, L3, k3, n3⟩, -, X3, ⟨Lc3, hQ3, l3, y3, z3⟩, st3⟩ := Jvm.LawKit.callS X2 hx (y := Y8_) hown (mvT hZ (oW hw 0 rfl)) (mvT hZ (oW hw 1 rfl)) (mvT hZ (oW hw 2 rfl)) (mvT hZ (oW hw 3 rfl)) (by decide) (backOf (W := 0) (r_mi l Z a0 hw [] s_D s_L s_LE s_E s_Z mr kd_ kl_ h0 n0 O0 G0 (u0_ + u1_ + u2_) m_ q9.2.2.2.2.2.1 (Nat.le_trans hm3 (by decide))) hZ (oW hw 3 rfl) (oW hw 2 rfl) (by decide) (by decide)) (g := (mkF m 76 (oD p1 p2 p3 m_ kk_ u0_ u1_ u2_ u3_ (vI ((min u0_ m_).toInt32)) (vI ((min (u0_ + u1_) m_).toInt32)) oU oU oU oU oU oU oU oU oU oU oU) [(.int m_.toInt32), (.int (u0_ + u1_ + u2_).toInt32)])) rfl (by rw [hml]; rfl) (argsL := [(.int (u0_ + u1_ + u2_).toInt32), (.int m_.toInt32)]) (rest := []) (lenOf pd_1 rfl) rfl (by exact Nat.le_of_eq rfl) (hb hby at_76) (fun _ _ => ⟨rfl, e2, (own_room hce (by decide)), (own_room hsl (by decide))⟩)
  dsimp only [Pt.U, Pt.locs, Pt.cells, Pt.slots] at X3 l3 y3 z3 st3 hQ3
  subst l3 y3 z3
  obtain ⟨rfl, N3q, e3⟩ := hQ3
  have N3 := Fr.app N2 N3q
  obtain ⟨_, _, ⟨T4, L4, k4, n4⟩, -, X4, ⟨Lc4, hQ4, l4, y4, z4⟩, st4⟩ := Jvm.LawKit.callS X3 hx (y := Y8_) hown (mvT hZ (oW hw 0 rfl)) (mvT hZ (oW hw 1 rfl)) (mvT hZ (oW hw 2 rfl)) (mvT hZ (oW hw 3 rfl)) (by decide) (backOf (W := 0) (r_mi l Z a0 hw [] s_D s_L s_LE s_E s_Z mr kd_ kl_ h0 n0 O0 G0 (u0_ + u1_ + u2_ + u3_) m_ q9.2.2.2.2.2.2 (Nat.le_trans hm3 (by decide))) hZ (oW hw 3 rfl) (oW hw 2 rfl) (by decide) (by decide)) (g := (mkF m 86 (oD p1 p2 p3 m_ kk_ u0_ u1_ u2_ u3_ (vI ((min u0_ m_).toInt32)) (vI ((min (u0_ + u1_) m_).toInt32)) (vI ((min (u0_ + u1_ + u2_) m_).toInt32)) oU oU oU oU oU oU oU oU oU oU) [(.int m_.toInt32), (.int (u0_ + u1_ + u2_ + u3_).toInt32)])) rfl (by rw [hml]; rfl) (argsL := [(.int (u0_ + u1_ + u2_ + u3_).toInt32), (.int m_.toInt32)]) (rest := []) (lenOf pd_1 rfl) rfl (by exact Nat.le_of_eq rfl) (hb hby at_86) (fun _ _ => ⟨rfl, e3, (own_room hce (by decide)), (own_room hsl (by decide))⟩)
  dsimp only [Pt.U, Pt.locs, Pt.cells, Pt.slots] at X4 l4 y4 z4 st4 hQ4
  subst l4 y4 z4
  obtain ⟨rfl, N4q, e4⟩ := hQ4
  have N4 := Fr.app N3 N4q
  refine ⟨T4, h0, _, X4, e4, N4, O0, rfl, fun target kt => ?_⟩
  show own_St p e below T0 m 0 #[vI (p1), vI (p2), vI (p3), .unset, .unset, .unset, .unset, .unset, .unset, .unset, .unset, .unset, .unset, .unset, .unset, .unset, .unset, .unset, .unset, .unset, .unset, .unset] [] _
  refine XS.iconst X0.here hx rfl (hb hby at_0) ?_
  refine XS.iloadN X0.here hx rfl (hb hby at_1) rfl ?_
  refine XS.iconst X0.here hx rfl (hb hby at_2) ?_
  refine XS.iand X0.here hx rfl (hb hby at_3) rfl ?_
  show own_St p e below T0 m 4 #[vI (p1), vI (p2), vI (p3), .unset, .unset, .unset, .unset, .unset, .unset, .unset, .unset, .unset, .unset, .unset, .unset, .unset, .unset, .unset, .unset, .unset, .unset, .unset] [(.int (p1 &&& (3 : Int32))), (.int (1 : Int32))] _
  rw [hm]
  refine XS.iadd X0.here hx rfl (hb hby at_4) rfl ?_
  show own_St p e below T0 m 5 #[vI (p1), vI (p2), vI (p3), .unset, .unset, .unset, .unset, .unset, .unset, .unset, .unset, .unset, .unset, .unset, .unset, .unset, .unset, .unset, .unset, .unset, .unset, .unset] [(.int ((1 : Int32) + m_.toInt32))] _
  rw [own_1p (Nat.le_trans hm3 (by decide))]
  refine XS.istoreN X0.here hx rfl (hb hby at_5) rfl (l' := #[vI (p1), vI (p2), vI (p3), vI ((m_ + 1).toInt32), .unset, .unset, .unset, .unset, .unset, .unset, .unset, .unset, .unset, .unset, .unset, .unset, .unset, .unset, .unset, .unset, .unset, .unset]) rfl ?_
  refine XS.iloadN X0.here hx rfl (hb hby at_6) rfl ?_
  refine XS.iconst X0.here hx rfl (hb hby at_7) ?_
  show own_St p e below T0 m 8 #[vI (p1), vI (p2), vI (p3), vI ((m_ + 1).toInt32), .unset, .unset, .unset, .unset, .unset, .unset, .unset, .unset, .unset, .unset, .unset, .unset, .unset, .unset, .unset, .unset, .unset, .unset] [(.int (2 : Int32)), (.int p1)] _
  refine XS.iushr X0.here hx rfl (hb hby at_8) rfl ?_
  show own_St p e below T0 m 9 #[vI (p1), vI (p2), vI (p3), vI ((m_ + 1).toInt32), .unset, .unset, .unset, .unset, .unset, .unset, .unset, .unset, .unset, .unset, .unset, .unset, .unset, .unset, .unset, .unset, .unset, .unset] [(.int ((p1.toUInt32 >>> ((2 : Int32) &&& 31).toUInt32).toInt32))] _
  refine XS.iconst X0.here hx rfl (hb hby at_9) ?_
  show own_St p e below T0 m 10 #[vI (p1), vI (p2), vI (p3), vI ((m_ + 1).toInt32), .unset, .unset, .unset, .unset, .unset, .unset, .unset, .unset, .unset, .unset, .unset, .unset, .unset, .unset, .unset, .unset, .unset, .unset] [(.int (5 : Int32)), (.int ((p1.toUInt32 >>> ((2 : Int32) &&& 31).toUInt32).toInt32))] _
  refine iremM X0 hx rfl (hb hby at_10) rfl (by decide) ?_
  show own_St p e below T0 m 11 #[vI (p1), vI (p2), vI (p3), vI ((m_ + 1).toInt32), .unset, .unset, .unset, .unset, .unset, .unset, .unset, .unset, .unset, .unset, .unset, .unset, .unset, .unset, .unset, .unset, .unset, .unset] [(.int (((p1.toUInt32 >>> ((2 : Int32) &&& 31).toUInt32).toInt32) % (5 : Int32)))] _
  rw [hk]
  show own_St p e below T0 m 11 #[vI (p1), vI (p2), vI (p3), vI ((m_ + 1).toInt32), .unset, .unset, .unset, .unset, .unset, .unset, .unset, .unset, .unset, .unset, .unset, .unset, .unset, .unset, .unset, .unset, .unset, .unset] [(.int kk_)] _
  refine XS.istore X0.here hx rfl (hb hby at_11) rfl (l' := #[vI (p1), vI (p2), vI (p3), vI ((m_ + 1).toInt32), vI (kk_), .unset, .unset, .unset, .unset, .unset, .unset, .unset, .unset, .unset, .unset, .unset, .unset, .unset, .unset, .unset, .unset, .unset]) rfl ?_
  refine XS.iloadN X0.here hx rfl (hb hby at_13) rfl ?_
  refine XS.iconst X0.here hx rfl (hb hby at_14) ?_
  show own_St p e below T0 m 15 #[vI (p1), vI (p2), vI (p3), vI ((m_ + 1).toInt32), vI (kk_), .unset, .unset, .unset, .unset, .unset, .unset, .unset, .unset, .unset, .unset, .unset, .unset, .unset, .unset, .unset, .unset, .unset] [(.int (0 : Int32)), (.int p2)] _
  refine XS.iushr X0.here hx rfl (hb hby at_15) rfl ?_
  show own_St p e below T0 m 16 #[vI (p1), vI (p2), vI (p3), vI ((m_ + 1).toInt32), vI (kk_), .unset, .unset, .unset, .unset, .unset, .unset, .unset, .unset, .unset, .unset, .unset, .unset, .unset, .unset, .unset, .unset, .unset] [(.int ((p2.toUInt32 >>> ((0 : Int32) &&& 31).toUInt32).toInt32))] _
  refine XS.iconst X0.here hx rfl (hb hby at_16) ?_
  refine XS.iand X0.here hx rfl (hb hby at_17) rfl ?_
  show own_St p e below T0 m 18 #[vI (p1), vI (p2), vI (p3), vI ((m_ + 1).toInt32), vI (kk_), .unset, .unset, .unset, .unset, .unset, .unset, .unset, .unset, .unset, .unset, .unset, .unset, .unset, .unset, .unset, .unset, .unset] [(.int (((p2.toUInt32 >>> ((0 : Int32) &&& 31).toUInt32).toInt32) &&& (3 : Int32)))] _
  rw [hu0]
  refine XS.istore X0.here hx rfl (hb hby at_18) rfl (l' := #[vI (p1), vI (p2), vI (p3), vI ((m_ + 1).toInt32), vI (kk_), vI (u0_.toInt32), .unset, .unset, .unset, .unset, .unset, .unset, .unset, .unset, .unset, .unset, .unset, .unset, .unset, .unset, .unset, .unset]) rfl ?_
  refine XS.iload X0.here hx rfl (hb hby at_20) rfl ?_
  refine XS.iloadN X0.here hx rfl (hb hby at_22) rfl ?_
  refine XS.iconst X0.here hx rfl (hb hby at_23) ?_
  show own_St p e below T0 m 24 #[vI (p1), vI (p2), vI (p3), vI ((m_ + 1).toInt32), vI (kk_), vI (u0_.toInt32), .unset, .unset, .unset, .unset, .unset, .unset, .unset, .unset, .unset, .unset, .unset, .unset, .unset, .unset, .unset, .unset] [(.int (2 : Int32)), (.int p2), (.int u0_.toInt32)] _
  refine XS.iushr X0.here hx rfl (hb hby at_24) rfl ?_
  show own_St p e below T0 m 25 #[vI (p1), vI (p2), vI (p3), vI ((m_ + 1).toInt32), vI (kk_), vI (u0_.toInt32), .unset, .unset, .unset, .unset, .unset, .unset, .unset, .unset, .unset, .unset, .unset, .unset, .unset, .unset, .unset, .unset] [(.int ((p2.toUInt32 >>> ((2 : Int32) &&& 31).toUInt32).toInt32)), (.int u0_.toInt32)] _
  refine XS.iconst X0.here hx rfl (hb hby at_25) ?_
  refine XS.iand X0.here hx rfl (hb hby at_26) rfl ?_
  show own_St p e below T0 m 27 #[vI (p1), vI (p2), vI (p3), vI ((m_ + 1).toInt32), vI (kk_), vI (u0_.toInt32), .unset, .unset, .unset, .unset, .unset, .unset, .unset, .unset, .unset, .unset, .unset, .unset, .unset, .unset, .unset, .unset] [(.int (((p2.toUInt32 >>> ((2 : Int32) &&& 31).toUInt32).toInt32) &&& (3 : Int32))), (.int u0_.toInt32)] _
  rw [hu1]
  refine XS.iadd X0.here hx rfl (hb hby at_27) rfl ?_
  show own_St p e below T0 m 28 #[vI (p1), vI (p2), vI (p3), vI ((m_ + 1).toInt32), vI (kk_), vI (u0_.toInt32), .unset, .unset, .unset, .unset, .unset, .unset, .unset, .unset, .unset, .unset, .unset, .unset, .unset, .unset, .unset, .unset] [(.int (u0_.toInt32 + u1_.toInt32))] _
  rw [own_add q9.1 q9.2.1]
  refine XS.istore X0.here hx rfl (hb hby at_28) rfl (l' := #[vI (p1), vI (p2), vI (p3), vI ((m_ + 1).toInt32), vI (kk_), vI (u0_.toInt32), vI ((u0_ + u1_).toInt32), .unset, .unset, .unset, .unset, .unset, .unset, .unset, .unset, .unset, .unset, .unset, .unset, .unset, .unset, .unset]) rfl ?_
  refine XS.iload X0.here hx rfl (hb hby at_30) rfl ?_
  refine XS.iloadN X0.here hx rfl (hb hby at_32) rfl ?_
  refine XS.iconst X0.here hx rfl (hb hby at_33) ?_
  show own_St p e below T0 m 34 #[vI (p1), vI (p2), vI (p3), vI ((m_ + 1).toInt32), vI (kk_), vI (u0_.toInt32), vI ((u0_ + u1_).toInt32), .unset, .unset, .unset, .unset, .unset, .unset, .unset, .unset, .unset, .unset, .unset, .unset, .unset, .unset, .unset] [(.int (4 : Int32)), (.int p2), (.int (u0_ + u1_).toInt32)] _
  refine XS.iushr X0.here hx rfl (hb hby at_34) rfl ?_
  show own_St p e below T0 m 35 #[vI (p1), vI (p2), vI (p3), vI ((m_ + 1).toInt32), vI (kk_), vI (u0_.toInt32), vI ((u0_ + u1_).toInt32), .unset, .unset, .unset, .unset, .unset, .unset, .unset, .unset, .unset, .unset, .unset, .unset, .unset, .unset, .unset] [(.int ((p2.toUInt32 >>> ((4 : Int32) &&& 31).toUInt32).toInt32)), (.int (u0_ + u1_).toInt32)] _
  refine XS.iconst X0.here hx rfl (hb hby at_35) ?_
  refine XS.iand X0.here hx rfl (hb hby at_36) rfl ?_
  show own_St p e below T0 m 37 #[vI (p1), vI (p2), vI (p3), vI ((m_ + 1).toInt32), vI (kk_), vI (u0_.toInt32), vI ((u0_ + u1_).toInt32), .unset, .unset, .unset, .unset, .unset, .unset, .unset, .unset, .unset, .unset, .unset, .unset, .unset, .unset, .unset] [(.int (((p2.toUInt32 >>> ((4 : Int32) &&& 31).toUInt32).toInt32) &&& (3 : Int32))), (.int (u0_ + u1_).toInt32)] _
  rw [hu2]
  refine XS.iadd X0.here hx rfl (hb hby at_37) rfl ?_
  show own_St p e below T0 m 38 #[vI (p1), vI (p2), vI (p3), vI ((m_ + 1).toInt32), vI (kk_), vI (u0_.toInt32), vI ((u0_ + u1_).toInt32), .unset, .unset, .unset, .unset, .unset, .unset, .unset, .unset, .unset, .unset, .unset, .unset, .unset, .unset, .unset] [(.int ((u0_ + u1_).toInt32 + u2_.toInt32))] _
  rw [own_add q9.2.2.2.2.1 q9.2.2.1]
  refine XS.istore X0.here hx rfl (hb hby at_38) rfl (l' := #[vI (p1), vI (p2), vI (p3), vI ((m_ + 1).toInt32), vI (kk_), vI (u0_.toInt32), vI ((u0_ + u1_).toInt32), vI ((u0_ + u1_ + u2_).toInt32), .unset, .unset, .unset, .unset, .unset, .unset, .unset, .unset, .unset, .unset, .unset, .unset, .unset, .unset]) rfl ?_
  refine XS.iload X0.here hx rfl (hb hby at_40) rfl ?_
  refine XS.iloadN X0.here hx rfl (hb hby at_42) rfl ?_
  refine XS.bipush X0.here hx rfl (hb hby at_43) ?_
  show own_St p e below T0 m 45 #[vI (p1), vI (p2), vI (p3), vI ((m_ + 1).toInt32), vI (kk_), vI (u0_.toInt32), vI ((u0_ + u1_).toInt32), vI ((u0_ + u1_ + u2_).toInt32), .unset, .unset, .unset, .unset, .unset, .unset, .unset, .unset, .unset, .unset, .unset, .unset, .unset, .unset] [(.int (6 : Int32)), (.int p2), (.int (u0_ + u1_ + u2_).toInt32)] _
  refine XS.iushr X0.here hx rfl (hb hby at_45) rfl ?_
  show own_St p e below T0 m 46 #[vI (p1), vI (p2), vI (p3), vI ((m_ + 1).toInt32), vI (kk_), vI (u0_.toInt32), vI ((u0_ + u1_).toInt32), vI ((u0_ + u1_ + u2_).toInt32), .unset, .unset, .unset, .unset, .unset, .unset, .unset, .unset, .unset, .unset, .unset, .unset, .unset, .unset] [(.int ((p2.toUInt32 >>> ((6 : Int32) &&& 31).toUInt32).toInt32)), (.int (u0_ + u1_ + u2_).toInt32)] _
  refine XS.iconst X0.here hx rfl (hb hby at_46) ?_
  refine XS.iand X0.here hx rfl (hb hby at_47) rfl ?_
  show own_St p e below T0 m 48 #[vI (p1), vI (p2), vI (p3), vI ((m_ + 1).toInt32), vI (kk_), vI (u0_.toInt32), vI ((u0_ + u1_).toInt32), vI ((u0_ + u1_ + u2_).toInt32), .unset, .unset, .unset, .unset, .unset, .unset, .unset, .unset, .unset, .unset, .unset, .unset, .unset, .unset] [(.int (((p2.toUInt32 >>> ((6 : Int32) &&& 31).toUInt32).toInt32) &&& (3 : Int32))), (.int (u0_ + u1_ + u2_).toInt32)] _
  rw [hu3]
  refine XS.iadd X0.here hx rfl (hb hby at_48) rfl ?_
  show own_St p e below T0 m 49 #[vI (p1), vI (p2), vI (p3), vI ((m_ + 1).toInt32), vI (kk_), vI (u0_.toInt32), vI ((u0_ + u1_).toInt32), vI ((u0_ + u1_ + u2_).toInt32), .unset, .unset, .unset, .unset, .unset, .unset, .unset, .unset, .unset, .unset, .unset, .unset, .unset, .unset] [(.int ((u0_ + u1_ + u2_).toInt32 + u3_.toInt32))] _
  rw [own_add q9.2.2.2.2.2.1 q9.2.2.2.1]
  refine XS.istore X0.here hx rfl (hb hby at_49) rfl (l' := (oD p1 p2 p3 m_ kk_ u0_ u1_ u2_ u3_ oU oU oU oU oU oU oU oU oU oU oU oU oU)) rfl ?_
  refine XS.iload X0.here hx rfl (hb hby at_51) rfl ?_
  refine XS.iloadN X0.here hx rfl (hb hby at_53) rfl ?_
  refine XS.iconst X0.here hx rfl (hb hby at_54) ?_
  refine XS.isub X0.here hx rfl (hb hby at_55) rfl ?_
  show own_St p e below T0 m 56 (oD p1 p2 p3 m_ kk_ u0_ u1_ u2_ u3_ oU oU oU oU oU oU oU oU oU oU oU oU oU) [(.int ((m_ + 1).toInt32 - (1 : Int32))), (.int u0_.toInt32)] _
  rw [own_s1 (Nat.le_trans hm3 (by decide))]
  refine st1 _ ?_
  show own_St p e below T1 m 59 (oD p1 p2 p3 m_ kk_ u0_ u1_ u2_ u3_ oU oU oU oU oU oU oU oU oU oU oU oU oU) [(.int (min u0_ m_).toInt32)] _
  refine XS.istore X1.here hx rfl (hb hby at_59) rfl (l' := (oD p1 p2 p3 m_ kk_ u0_ u1_ u2_ u3_ (vI ((min u0_ m_).toInt32)) oU oU oU oU oU oU oU oU oU oU oU oU)) rfl ?_
  refine XS.iload X1.here hx rfl (hb hby at_61) rfl ?_
  refine XS.iloadN X1.here hx rfl (hb hby at_63) rfl ?_
  refine XS.iconst X1.here hx rfl (hb hby at_64) ?_
  refine XS.isub X1.here hx rfl (hb hby at_65) rfl ?_
  show own_St p e below T1 m 66 (oD p1 p2 p3 m_ kk_ u0_ u1_ u2_ u3_ (vI ((min u0_ m_).toInt32)) oU oU oU oU oU oU oU oU oU oU oU oU) [(.int ((m_ + 1).toInt32 - (1 : Int32))), (.int (u0_ + u1_).toInt32)] _
  rw [own_s1 (Nat.le_trans hm3 (by decide))]
  refine st2 _ ?_
  show own_St p e below T2 m 69 (oD p1 p2 p3 m_ kk_ u0_ u1_ u2_ u3_ (vI ((min u0_ m_).toInt32)) oU oU oU oU oU oU oU oU oU oU oU oU) [(.int (min (u0_ + u1_) m_).toInt32)] _
  refine XS.istore X2.here hx rfl (hb hby at_69) rfl (l' := (oD p1 p2 p3 m_ kk_ u0_ u1_ u2_ u3_ (vI ((min u0_ m_).toInt32)) (vI ((min (u0_ + u1_) m_).toInt32)) oU oU oU oU oU oU oU oU oU oU oU)) rfl ?_
  refine XS.iload X2.here hx rfl (hb hby at_71) rfl ?_
  refine XS.iloadN X2.here hx rfl (hb hby at_73) rfl ?_
  refine XS.iconst X2.here hx rfl (hb hby at_74) ?_
  refine XS.isub X2.here hx rfl (hb hby at_75) rfl ?_
  show own_St p e below T2 m 76 (oD p1 p2 p3 m_ kk_ u0_ u1_ u2_ u3_ (vI ((min u0_ m_).toInt32)) (vI ((min (u0_ + u1_) m_).toInt32)) oU oU oU oU oU oU oU oU oU oU oU) [(.int ((m_ + 1).toInt32 - (1 : Int32))), (.int (u0_ + u1_ + u2_).toInt32)] _
  rw [own_s1 (Nat.le_trans hm3 (by decide))]
  refine st3 _ ?_
  show own_St p e below T3 m 79 (oD p1 p2 p3 m_ kk_ u0_ u1_ u2_ u3_ (vI ((min u0_ m_).toInt32)) (vI ((min (u0_ + u1_) m_).toInt32)) oU oU oU oU oU oU oU oU oU oU oU) [(.int (min (u0_ + u1_ + u2_) m_).toInt32)] _
  refine XS.istore X3.here hx rfl (hb hby at_79) rfl (l' := (oD p1 p2 p3 m_ kk_ u0_ u1_ u2_ u3_ (vI ((min u0_ m_).toInt32)) (vI ((min (u0_ + u1_) m_).toInt32)) (vI ((min (u0_ + u1_ + u2_) m_).toInt32)) oU oU oU oU oU oU oU oU oU oU)) rfl ?_
  refine XS.iload X3.here hx rfl (hb hby at_81) rfl ?_
  refine XS.iloadN X3.here hx rfl (hb hby at_83) rfl ?_
  refine XS.iconst X3.here hx rfl (hb hby at_84) ?_
  refine XS.isub X3.here hx rfl (hb hby at_85) rfl ?_
  show own_St p e below T3 m 86 (oD p1 p2 p3 m_ kk_ u0_ u1_ u2_ u3_ (vI ((min u0_ m_).toInt32)) (vI ((min (u0_ + u1_) m_).toInt32)) (vI ((min (u0_ + u1_ + u2_) m_).toInt32)) oU oU oU oU oU oU oU oU oU oU) [(.int ((m_ + 1).toInt32 - (1 : Int32))), (.int (u0_ + u1_ + u2_ + u3_).toInt32)] _
  rw [own_s1 (Nat.le_trans hm3 (by decide))]
  refine st4 _ ?_
  show own_St p e below T4 m 89 (oD p1 p2 p3 m_ kk_ u0_ u1_ u2_ u3_ (vI ((min u0_ m_).toInt32)) (vI ((min (u0_ + u1_) m_).toInt32)) (vI ((min (u0_ + u1_ + u2_) m_).toInt32)) oU oU oU oU oU oU oU oU oU oU) [(.int (min (u0_ + u1_ + u2_ + u3_) m_).toInt32)] _
  refine XS.istore X4.here hx rfl (hb hby at_89) rfl (l' := (oC p1 p2 p3 m_ kk_ u0_ u1_ u2_ u3_ oU oU oU oU oU oU oU oU oU)) rfl ?_
  refine XS.iloadN X4.here hx rfl (hb hby at_91) rfl ?_
  show own_St p e below T4 m 92 (oC p1 p2 p3 m_ kk_ u0_ u1_ u2_ u3_ oU oU oU oU oU oU oU oU oU) [(.int p3)] _
  refine X4.ldcInt hx hown (mvT hZ (oW hw 4 rfl)) (g := (mkF m 92 (oC p1 p2 p3 m_ kk_ u0_ u1_ u2_ u3_ oU oU oU oU oU oU oU oU oU) [(.int p3)])) rfl (hb hby at_92) _ ?_
  show own_St p e below T4 m 94 (oC p1 p2 p3 m_ kk_ u0_ u1_ u2_ u3_ oU oU oU oU oU oU oU oU oU) [(.int (2147483647 : Int32)), (.int p3)] _
  refine XS.iand X4.here hx rfl (hb hby at_94) rfl ?_
  refine XS.iloadN X4.here hx rfl (hb hby at_95) rfl ?_
  show own_St p e below T4 m 96 (oC p1 p2 p3 m_ kk_ u0_ u1_ u2_ u3_ oU oU oU oU oU oU oU oU oU) [(.int (m_ + 1).toInt32), (.int (p3 &&& (2147483647 : Int32)))] _
  refine iremM X4 hx rfl (hb hby at_96) rfl (own_nz hm3) ?_
  show own_St p e below T4 m 97 (oC p1 p2 p3 m_ kk_ u0_ u1_ u2_ u3_ oU oU oU oU oU oU oU oU oU) [(.int ((p3 &&& (2147483647 : Int32)) % (m_ + 1).toInt32))] _
  rw [hnd]
  show own_St p e below T4 m 97 (oC p1 p2 p3 m_ kk_ u0_ u1_ u2_ u3_ oU oU oU oU oU oU oU oU oU) [(.int nd.toInt32)] _
  refine XS.istore X4.here hx rfl (hb hby at_97) rfl (l' := (oC p1 p2 p3 m_ kk_ u0_ u1_ u2_ u3_ (vI (nd.toInt32)) oU oU oU oU oU oU oU oU)) rfl ?_
  exact kt
theorem pd_28 : parseMethodDescriptor "(IIII)I" = some ⟨[.int, .int, .int, .int], some .int⟩ := by decide +kernel
theorem pd_29 : parseMethodDescriptor "(Ljava/util/List;III)Z" = some ⟨[(.object "java/util/List"), .int, .int, .int], some .boolean⟩ := by decide +kernel
theorem t_ls {p : Program} {l : Launch} {e : Env} {s : State} {m : MethodId} {args : Array Value} {below : List Frame} {meth : Method} {c : Code} {T0 : State} {locs : List Loc} {Z : State} {a0 : Array Value} {h0 : Heap} {n0 : Nat} (s_D s_L s_LE s_E s_Z mr : Addr) (kd_ kl_ : ClassId) (p1 p2 p3 n1_ r0_ r1_ r2_ r3_ : Int32) (k w0_ w1_ w2_ w3_ nd : Nat) (a14 a15 a16 a17 t1 a1 : Addr) (xs : List Addr) (ss : List Nat) (cells slots : Nat) (hce : cells + 0 ≤ 48) (hsl : slots + 0 ≤ 1280)
    (X0 : Stand p l e (own_rm_ 13 48 1280 3312) s m args below meth c T0 locs cells slots) (hx : p.tables.exec = Jvm.exec) (hZ : Z.Warmed39 s.vm) (hw : own_HW a0 Z) (hby : c.code = code) (hml : c.maxLocals = 22) (hown : s.vm.findClass "com/example/hodos/hodos/analysis/CourseArcsFromPinLaw" = some m.cls) (e0 : T0.heap = h0) (N0 : Fr n0 locs) (O0 : Old Z n0 h0) (G : own_Ctx Z Z.heap s_D s_L s_LE s_E s_Z mr kd_ kl_) (Sl : own_Sl Z h0 t1 a1 (own_ct ss nd) (own_ct ss (nd + 1) - own_ct ss nd)) (I : own_IL Z h0 a1 s_E xs) (Ar : own_Arcs Z h0 xs ss) (hn : xs.length ≤ 4) (hss : ss = [w0_, w1_, w2_, w3_].take k) (hk4 : k ≤ 4) (hd : nd ≤ 4) (hw0 : w0_ ≤ 100) (hw1 : w1_ ≤ 100) (hw2 : w2_ ≤ 100) (hw3 : w3_ ≤ 100) :
    ∃ (T' : State) (h' : Heap) (L' : List Loc), Stand p l e (own_rm_ 13 48 1280 3312) s m args below meth c T' L' cells slots ∧ T'.heap = h' ∧ Fr n0 L' ∧ Old Z n0 h' ∧ (h' = h0) ∧ ∀ target, Steps p.tables e below (T'.setTop (mkF m 433 (oB p1 p2 p3 n1_ k r0_ r1_ r2_ r3_ w0_ w1_ w2_ w3_ nd a14 a15 a16 a17 t1 (vI ((own_ct ss nd).toInt32)) (vI ((own_ct ss (nd + 1)).toInt32)) (vI ((own_ct ss (nd + 1) - own_ct ss nd).toInt32))) [(.int (1 : Int32))])) target → Steps p.tables e below (T0.setTop (mkF m 257 (oB p1 p2 p3 n1_ k r0_ r1_ r2_ r3_ w0_ w1_ w2_ w3_ nd a14 a15 a16 a17 t1 oU oU oU) [])) target := by
  have G0 := G
  have hk1 : k ≤ 100 := by omega
  have hd1 : nd ≤ 100 := by omega
  have hd2 : nd + 1 ≤ 100 := by omega
  have hlo := (own_lo hk4 w0_ w1_ w2_ w3_ nd).trans (by rw [← hss] : _ = own_ct ss nd)
  have hhi := (own_lo hk4 w0_ w1_ w2_ w3_ (nd + 1)).trans (by rw [← hss] : _ = own_ct ss (nd + 1))
  have hcl : own_ct ss (nd + 1) ≤ xs.length := by rw [← Ar.1]; exact own_ct_le ss _
  have hc9 : own_ct ss (nd + 1) ≤ 100 := by omega
  have hbd : own_ct ss nd + (own_ct ss (nd + 1) - own_ct ss nd) ≤ xs.length := by have := own_ct_mono ss nd; omega
  obtain ⟨_, _, ⟨T1, L1, k1, n1⟩, -, X1, ⟨Lc1, hQ1, l1, y1, z1⟩, st1⟩ := Jvm.LawKit.callS X0 hx (y := Y59_) hown (mvT hZ (oW hw 191 rfl)) (mvT hZ (oW hw 192 rfl)) (mvT hZ (oW hw 193 rfl)) (mvT hZ (oW hw 194 rfl)) (by decide) (backOf (W := 0) (r_cnt l Z a0 hw [] s_D s_L s_LE s_E s_Z mr kd_ kl_ h0 n0 O0 G0 k 0 w0_ nd hk1 (by decide) hw0 hd1) hZ (oW hw 194 rfl) (oW hw 193 rfl) (by decide) (by decide)) (g := (mkF m 264 (oB p1 p2 p3 n1_ k r0_ r1_ r2_ r3_ w0_ w1_ w2_ w3_ nd a14 a15 a16 a17 t1 oU oU oU) [(.int nd.toInt32), (.int w0_.toInt32), (.int (0 : Int32)), (.int k.toInt32)])) rfl (by rw [hml]; rfl) (argsL := [(.int k.toInt32), (.int (0 : Int32)), (.int w0_.toInt32), (.int nd.toInt32)]) (rest := []) (lenOf pd_28 rfl) rfl (by exact Nat.le_of_eq rfl) (hb hby at_264) (fun _ _ => ⟨rfl, e0, (own_room hce (by decide)), (own_room hsl (by decide))⟩)
  dsimp only [Pt.U, Pt.locs, Pt.cells, Pt.slots] at X1 l1 y1 z1 st1 hQ1
  subst l1 y1 z1
  obtain ⟨rfl, N1q, e1⟩ := hQ1
  have N1 := Fr.app N0 N1q
  obtain ⟨_, _, ⟨T2, L2, k2, n2⟩, -, X2, ⟨Lc2, hQ2, l2, y2, z2⟩, st2⟩ := Jvm.LawKit.callS X1 hx (y := Y59_) hown (mvT hZ (oW hw 191 rfl)) (mvT hZ (oW hw 192 rfl)) (mvT hZ (oW hw 193 rfl)) (mvT hZ (oW hw 194 rfl)) (by decide) (backOf (W := 1) (r_cnt l Z a0 hw [] s_D s_L s_LE s_E s_Z mr kd_ kl_ h0 n0 O0 G0 k 1 w1_ nd hk1 (by decide) hw1 hd1) hZ (oW hw 194 rfl) (oW hw 193 rfl) (by decide) (by decide)) (g := (mkF m 274 (oB p1 p2 p3 n1_ k r0_ r1_ r2_ r3_ w0_ w1_ w2_ w3_ nd a14 a15 a16 a17 t1 oU oU oU) [(.int nd.toInt32), (.int w1_.toInt32), (.int (1 : Int32)), (.int k.toInt32), (.int (own_cz k 0 w0_ nd).toInt32)])) rfl (by rw [hml]; rfl) (argsL := [(.int k.toInt32), (.int (1 : Int32)), (.int w1_.toInt32), (.int nd.toInt32)]) (rest := [(.int (own_cz k 0 w0_ nd).toInt32)]) (lenOf pd_28 rfl) rfl (by exact Nat.le_of_eq rfl) (hb hby at_274) (fun _ _ => ⟨rfl, e1, (own_room hce (by decide)), (own_room hsl (by decide))⟩)
  dsimp only [Pt.U, Pt.locs, Pt.cells, Pt.slots] at X2 l2 y2 z2 st2 hQ2
  subst l2 y2 z2
  obtain ⟨rfl, N2q, e2⟩ := hQ2
  have N2 := Fr.app N1 N2q
  obtain ⟨_, _, ⟨T3, L3, k3, n3⟩, -, X3, ⟨Lc3, hQ3, l3, y3, z3⟩, st3⟩ := Jvm.LawKit.callS X2 hx (y := Y59_) hown (mvT hZ (oW hw 191 rfl)) (mvT hZ (oW hw 192 rfl)) (mvT hZ (oW hw 193 rfl)) (mvT hZ (oW hw 194 rfl)) (by decide) (backOf (W := 1) (r_cnt l Z a0 hw [] s_D s_L s_LE s_E s_Z mr kd_ kl_ h0 n0 O0 G0 k 2 w2_ nd hk1 (by decide) hw2 hd1) hZ (oW hw 194 rfl) (oW hw 193 rfl) (by decide) (by decide)) (g := (mkF m 285 (oB p1 p2 p3 n1_ k r0_ r1_ r2_ r3_ w0_ w1_ w2_ w3_ nd a14 a15 a16 a17 t1 oU oU oU) [(.int nd.toInt32), (.int w2_.toInt32), (.int (2 : Int32)), (.int k.toInt32), (.int (own_cz k 0 w0_ nd + own_cz k 1 w1_ nd).toInt32)])) rfl (by rw [hml]; rfl) (argsL := [(.int k.toInt32), (.int (2 : Int32)), (.int w2_.toInt32), (.int nd.toInt32)]) (rest := [(.int (own_cz k 0 w0_ nd + own_cz k 1 w1_ nd).toInt32)]) (lenOf pd_28 rfl) rfl (by exact Nat.le_of_eq rfl) (hb hby at_285) (fun _ _ => ⟨rfl, e2, (own_room hce (by decide)), (own_room hsl (by decide))⟩)
  dsimp only [Pt.U, Pt.locs, Pt.cells, Pt.slots] at X3 l3 y3 z3 st3 hQ3
  subst l3 y3 z3
  obtain ⟨rfl, N3q, e3⟩ := hQ3
  have N3 := Fr.app N2 N3q
  obtain ⟨_, _, ⟨T4, L4, k4, n4⟩, -, X4, ⟨Lc4, hQ4, l4, y4, z4⟩, st4⟩ := Jvm.LawKit.callS X3 hx (y := Y59_) hown (mvT hZ (oW hw 191 rfl)) (mvT hZ (oW hw 192 rfl)) (mvT hZ (oW hw 193 rfl)) (mvT hZ (oW hw 194 rfl)) (by decide) (backOf (W := 1) (r_cnt l Z a0 hw [] s_D s_L s_LE s_E s_Z mr kd_ kl_ h0 n0 O0 G0 k 3 w3_ nd hk1 (by decide) hw3 hd1) hZ (oW hw 194 rfl) (oW hw 193 rfl) (by decide) (by decide)) (g := (mkF m 296 (oB p1 p2 p3 n1_ k r0_ r1_ r2_ r3_ w0_ w1_ w2_ w3_ nd a14 a15 a16 a17 t1 oU oU oU) [(.int nd.toInt32), (.int w3_.toInt32), (.int (3 : Int32)), (.int k.toInt32), (.int (own_cz k 0 w0_ nd + own_cz k 1 w1_ nd + own_cz k 2 w2_ nd).toInt32)])) rfl (by rw [hml]; rfl) (argsL := [(.int k.toInt32), (.int (3 : Int32)), (.int w3_.toInt32), (.int nd.toInt32)]) (rest := [(.int (own_cz k 0 w0_ nd + own_cz k 1 w1_ nd + own_cz k 2 w2_ nd).toInt32)]) (lenOf pd_28 rfl) rfl (by exact Nat.le_of_eq rfl) (hb hby at_296) (fun _ _ => ⟨rfl, e3, (own_room hce (by decide)), (own_room hsl (by decide))⟩)
  dsimp only [Pt.U, Pt.locs, Pt.cells, Pt.slots] at X4 l4 y4 z4 st4 hQ4
  subst l4 y4 z4
  obtain ⟨rfl, N4q, e4⟩ := hQ4
  have N4 := Fr.app N3 N4q
  obtain ⟨_, _, ⟨T5, L5, k5, n5⟩, -, X5, ⟨Lc5, hQ5, l5, y5, z5⟩, st5⟩ := Jvm.LawKit.callS X4 hx (y := Y59_) hown (mvT hZ (oW hw 191 rfl)) (mvT hZ (oW hw 192 rfl)) (mvT hZ (oW hw 193 rfl)) (mvT hZ (oW hw 194 rfl)) (by decide) (backOf (W := 0) (r_cnt l Z a0 hw [] s_D s_L s_LE s_E s_Z mr kd_ kl_ h0 n0 O0 G0 k 0 w0_ (nd + 1) hk1 (by decide) hw0 hd2) hZ (oW hw 194 rfl) (oW hw 193 rfl) (by decide) (by decide)) (g := (mkF m 311 (oB p1 p2 p3 n1_ k r0_ r1_ r2_ r3_ w0_ w1_ w2_ w3_ nd a14 a15 a16 a17 t1 (vI ((own_ct ss nd).toInt32)) oU oU) [(.int (nd + 1).toInt32), (.int w0_.toInt32), (.int (0 : Int32)), (.int k.toInt32)])) rfl (by rw [hml]; rfl) (argsL := [(.int k.toInt32), (.int (0 : Int32)), (.int w0_.toInt32), (.int (nd + 1).toInt32)]) (rest := []) (lenOf pd_28 rfl) rfl (by exact Nat.le_of_eq rfl) (hb hby at_311) (fun _ _ => ⟨rfl, e4, (own_room hce (by decide)), (own_room hsl (by decide))⟩)
  dsimp only [Pt.U, Pt.locs, Pt.cells, Pt.slots] at X5 l5 y5 z5 st5 hQ5
  subst l5 y5 z5
  obtain ⟨rfl, N5q, e5⟩ := hQ5
  have N5 := Fr.app N4 N5q
  obtain ⟨_, _, ⟨T6, L6, k6, n6⟩, -, X6, ⟨Lc6, hQ6, l6, y6, z6⟩, st6⟩ := Jvm.LawKit.callS X5 hx (y := Y59_) hown (mvT hZ (oW hw 191 rfl)) (mvT hZ (oW hw 192 rfl)) (mvT hZ (oW hw 193 rfl)) (mvT hZ (oW hw 194 rfl)) (by decide) (backOf (W := 1) (r_cnt l Z a0 hw [] s_D s_L s_LE s_E s_Z mr kd_ kl_ h0 n0 O0 G0 k 1 w1_ (nd + 1) hk1 (by decide) hw1 hd2) hZ (oW hw 194 rfl) (oW hw 193 rfl) (by decide) (by decide)) (g := (mkF m 323 (oB p1 p2 p3 n1_ k r0_ r1_ r2_ r3_ w0_ w1_ w2_ w3_ nd a14 a15 a16 a17 t1 (vI ((own_ct ss nd).toInt32)) oU oU) [(.int (nd + 1).toInt32), (.int w1_.toInt32), (.int (1 : Int32)), (.int k.toInt32), (.int (own_cz k 0 w0_ (nd + 1)).toInt32)])) rfl (by rw [hml]; rfl) (argsL := [(.int k.toInt32), (.int (1 : Int32)), (.int w1_.toInt32), (.int (nd + 1).toInt32)]) (rest := [(.int (own_cz k 0 w0_ (nd + 1)).toInt32)]) (lenOf pd_28 rfl) rfl (by exact Nat.le_of_eq rfl) (hb hby at_323) (fun _ _ => ⟨rfl, e5, (own_room hce (by decide)), (own_room hsl (by decide))⟩)
  dsimp only [Pt.U, Pt.locs, Pt.cells, Pt.slots] at X6 l6 y6 z6 st6 hQ6
  subst l6 y6 z6
  obtain ⟨rfl, N6q, e6⟩ := hQ6
  have N6 := Fr.app N5 N6q
  obtain ⟨_, _, ⟨T7, L7, k7, n7⟩, -, X7, ⟨Lc7, hQ7, l7, y7, z7⟩, st7⟩ := Jvm.LawKit.callS X6 hx (y := Y59_) hown (mvT hZ (oW hw 191 rfl)) (mvT hZ (oW hw 192 rfl)) (mvT hZ (oW hw 193 rfl)) (mvT hZ (oW hw 194 rfl)) (by decide) (backOf (W := 1) (r_cnt l Z a0 hw [] s_D s_L s_LE s_E s_Z mr kd_ kl_ h0 n0 O0 G0 k 2 w2_ (nd + 1) hk1 (by decide) hw2 hd2) hZ (oW hw 194 rfl) (oW hw 193 rfl) (by decide) (by decide)) (g := (mkF m 336 (oB p1 p2 p3 n1_ k r0_ r1_ r2_ r3_ w0_ w1_ w2_ w3_ nd a14 a15 a16 a17 t1 (vI ((own_ct ss nd).toInt32)) oU oU) [(.int (nd + 1).toInt32), (.int w2_.toInt32), (.int (2 : Int32)), (.int k.toInt32), (.int (own_cz k 0 w0_ (nd + 1) + own_cz k 1 w1_ (nd + 1)).toInt32)])) rfl (by rw [hml]; rfl) (argsL := [(.int k.toInt32), (.int (2 : Int32)), (.int w2_.toInt32), (.int (nd + 1).toInt32)]) (rest := [(.int (own_cz k 0 w0_ (nd + 1) + own_cz k 1 w1_ (nd + 1)).toInt32)]) (lenOf pd_28 rfl) rfl (by exact Nat.le_of_eq rfl) (hb hby at_336) (fun _ _ => ⟨rfl, e6, (own_room hce (by decide)), (own_room hsl (by decide))⟩)
  dsimp only [Pt.U, Pt.locs, Pt.cells, Pt.slots] at X7 l7 y7 z7 st7 hQ7
  subst l7 y7 z7
  obtain ⟨rfl, N7q, e7⟩ := hQ7
  have N7 := Fr.app N6 N7q
  obtain ⟨_, _, ⟨T8, L8, k8, n8⟩, -, X8, ⟨Lc8, hQ8, l8, y8, z8⟩, st8⟩ := Jvm.LawKit.callS X7 hx (y := Y59_) hown (mvT hZ (oW hw 191 rfl)) (mvT hZ (oW hw 192 rfl)) (mvT hZ (oW hw 193 rfl)) (mvT hZ (oW hw 194 rfl)) (by decide) (backOf (W := 1) (r_cnt l Z a0 hw [] s_D s_L s_LE s_E s_Z mr kd_ kl_ h0 n0 O0 G0 k 3 w3_ (nd + 1) hk1 (by decide) hw3 hd2) hZ (oW hw 194 rfl) (oW hw 193 rfl) (by decide) (by decide)) (g := (mkF m 349 (oB p1 p2 p3 n1_ k r0_ r1_ r2_ r3_ w0_ w1_ w2_ w3_ nd a14 a15 a16 a17 t1 (vI ((own_ct ss nd).toInt32)) oU oU) [(.int (nd + 1).toInt32), (.int w3_.toInt32), (.int (3 : Int32)), (.int k.toInt32), (.int (own_cz k 0 w0_ (nd + 1) + own_cz k 1 w1_ (nd + 1) + own_cz k 2 w2_ (nd + 1)).toInt32)])) rfl (by rw [hml]; rfl) (argsL := [(.int k.toInt32), (.int (3 : Int32)), (.int w3_.toInt32), (.int (nd + 1).toInt32)]) (rest := [(.int (own_cz k 0 w0_ (nd + 1) + own_cz k 1 w1_ (nd + 1) + own_cz k 2 w2_ (nd + 1)).toInt32)]) (lenOf pd_28 rfl) rfl (by exact Nat.le_of_eq rfl) (hb hby at_349) (fun _ _ => ⟨rfl, e7, (own_room hce (by decide)), (own_room hsl (by decide))⟩)
  dsimp only [Pt.U, Pt.locs, Pt.cells, Pt.slots] at X8 l8 y8 z8 st8 hQ8
  subst l8 y8 z8
  obtain ⟨rfl, N8q, e8⟩ := hQ8
  have N8 := Fr.app N7 N8q
  obtain ⟨cq9, kq9, q9a, q9b, q9c⟩ := isOf hZ e8 Sl.1
  obtain ⟨_, _, ⟨T9, L9, k9, n9⟩, -, X9, ⟨Lc9, hQ9, l9, y9, z9⟩, st9⟩ := X8.interfaceBack hx (xi := Y60_) (y := Y54_) hown (mvT hZ (oW hw 195 rfl)) (mvT hZ (oW hw 196 rfl)) (mvT hZ (oW hw 197 rfl)) (mvT hZ (oW hw 198 rfl)) (mvT hZ (oW hw 199 rfl)) (mvT hZ (oW hw 200 rfl)) (mvT hZ (oW hw 201 rfl)) (mvT hZ (oW hw 202 rfl)) (by decide) (backOf (W := 0) (r_slz l Z a0 hw [] s_D s_L s_LE s_E s_Z mr kd_ kl_ h0 n0 O0 G0 t1 a1 (own_ct ss nd) (own_ct ss (nd + 1) - own_ct ss nd) Sl) hZ (oW hw 203 rfl) (oW hw 163 rfl) (by decide) (by decide)) q9a q9b q9c (g := (mkF m 364 (oB p1 p2 p3 n1_ k r0_ r1_ r2_ r3_ w0_ w1_ w2_ w3_ nd a14 a15 a16 a17 t1 (vI ((own_ct ss nd).toInt32)) (vI ((own_ct ss (nd + 1)).toInt32)) (vI ((own_ct ss (nd + 1) - own_ct ss nd).toInt32))) [(.ref t1)])) rfl (by rw [hml]; rfl) (Steps.refl _) (argsL := []) (rest := []) (lenOf pd_16 rfl) rfl (by exact Nat.le_of_eq rfl) (hb hby at_364) (fun _ _ => ⟨rfl, e8, (own_room hce (by decide)), (own_room hsl (by decide))⟩)
  dsimp only [Pt.U, Pt.locs, Pt.cells, Pt.slots] at X9 l9 y9 z9 st9 hQ9
  subst l9 y9 z9
  obtain ⟨rfl, N9q, e9⟩ := hQ9
  have N9 := Fr.app N8 N9q
  obtain ⟨_, _, ⟨T10, L10, k10, n10⟩, -, X10, ⟨Lc10, hQ10, l10, y10, z10⟩, st10⟩ := Jvm.LawKit.callS X9 hx (y := Y58_) hown (mvT hZ (oW hw 204 rfl)) (mvT hZ (oW hw 205 rfl)) (mvT hZ (oW hw 193 rfl)) (mvT hZ (oW hw 206 rfl)) (by decide) (backOf (W := 0) (r_ck l Z a0 hw [] s_D s_L s_LE s_E s_Z mr kd_ kl_ h0 n0 O0 G0 t1 a1 (own_ct ss nd) (own_ct ss (nd + 1) - own_ct ss nd) 0 xs ss Sl I Ar (by decide) hbd hn) hZ (oW hw 206 rfl) (oW hw 193 rfl) (by decide) (by decide)) (g := (mkF m 383 (oB p1 p2 p3 n1_ k r0_ r1_ r2_ r3_ w0_ w1_ w2_ w3_ nd a14 a15 a16 a17 t1 (vI ((own_ct ss nd).toInt32)) (vI ((own_ct ss (nd + 1)).toInt32)) (vI ((own_ct ss (nd + 1) - own_ct ss nd).toInt32))) [(.int (own_ct ss (nd + 1) - own_ct ss nd).toInt32), (.int (own_ct ss nd).toInt32), (.int (0 : Int32)), (.ref t1)])) rfl (by rw [hml]; rfl) (argsL := [(.ref t1), (.int (0 : Int32)), (.int (own_ct ss nd).toInt32), (.int (own_ct ss (nd + 1) - own_ct ss nd).toInt32)]) (rest := []) (lenOf pd_29 rfl) rfl (by exact Nat.le_of_eq rfl) (hb hby at_383) (fun _ _ => ⟨rfl, e9, (own_room hce (by decide)), (own_room hsl (by decide))⟩)
  dsimp only [Pt.U, Pt.locs, Pt.cells, Pt.slots] at X10 l10 y10 z10 st10 hQ10
  subst l10 y10 z10
  obtain ⟨rfl, N10q, e10⟩ := hQ10
  have N10 := Fr.app N9 N10q
  obtain ⟨_, _, ⟨T11, L11, k11, n11⟩, -, X11, ⟨Lc11, hQ11, l11, y11, z11⟩, st11⟩ := Jvm.LawKit.callS X10 hx (y := Y58_) hown (mvT hZ (oW hw 204 rfl)) (mvT hZ (oW hw 205 rfl)) (mvT hZ (oW hw 193 rfl)) (mvT hZ (oW hw 206 rfl)) (by decide) (backOf (W := 0) (r_ck l Z a0 hw [] s_D s_L s_LE s_E s_Z mr kd_ kl_ h0 n0 O0 G0 t1 a1 (own_ct ss nd) (own_ct ss (nd + 1) - own_ct ss nd) 1 xs ss Sl I Ar (by decide) hbd hn) hZ (oW hw 206 rfl) (oW hw 193 rfl) (by decide) (by decide)) (g := (mkF m 396 (oB p1 p2 p3 n1_ k r0_ r1_ r2_ r3_ w0_ w1_ w2_ w3_ nd a14 a15 a16 a17 t1 (vI ((own_ct ss nd).toInt32)) (vI ((own_ct ss (nd + 1)).toInt32)) (vI ((own_ct ss (nd + 1) - own_ct ss nd).toInt32))) [(.int (own_ct ss (nd + 1) - own_ct ss nd).toInt32), (.int (own_ct ss nd).toInt32), (.int (1 : Int32)), (.ref t1)])) rfl (by rw [hml]; rfl) (argsL := [(.ref t1), (.int (1 : Int32)), (.int (own_ct ss nd).toInt32), (.int (own_ct ss (nd + 1) - own_ct ss nd).toInt32)]) (rest := []) (lenOf pd_29 rfl) rfl (by exact Nat.le_of_eq rfl) (hb hby at_396) (fun _ _ => ⟨rfl, e10, (own_room hce (by decide)), (own_room hsl (by decide))⟩)
  dsimp only [Pt.U, Pt.locs, Pt.cells, Pt.slots] at X11 l11 y11 z11 st11 hQ11
  subst l11 y11 z11
  obtain ⟨rfl, N11q, e11⟩ := hQ11
  have N11 := Fr.app N10 N11q
  obtain ⟨_, _, ⟨T12, L12, k12, n12⟩, -, X12, ⟨Lc12, hQ12, l12, y12, z12⟩, st12⟩ := Jvm.LawKit.callS X11 hx (y := Y58_) hown (mvT hZ (oW hw 204 rfl)) (mvT hZ (oW hw 205 rfl)) (mvT hZ (oW hw 193 rfl)) (mvT hZ (oW hw 206 rfl)) (by decide) (backOf (W := 0) (r_ck l Z a0 hw [] s_D s_L s_LE s_E s_Z mr kd_ kl_ h0 n0 O0 G0 t1 a1 (own_ct ss nd) (own_ct ss (nd + 1) - own_ct ss nd) 2 xs ss Sl I Ar (by decide) hbd hn) hZ (oW hw 206 rfl) (oW hw 193 rfl) (by decide) (by decide)) (g := (mkF m 409 (oB p1 p2 p3 n1_ k r0_ r1_ r2_ r3_ w0_ w1_ w2_ w3_ nd a14 a15 a16 a17 t1 (vI ((own_ct ss nd).toInt32)) (vI ((own_ct ss (nd + 1)).toInt32)) (vI ((own_ct ss (nd + 1) - own_ct ss nd).toInt32))) [(.int (own_ct ss (nd + 1) - own_ct ss nd).toInt32), (.int (own_ct ss nd).toInt32), (.int (2 : Int32)), (.ref t1)])) rfl (by rw [hml]; rfl) (argsL := [(.ref t1), (.int (2 : Int32)), (.int (own_ct ss nd).toInt32), (.int (own_ct ss (nd + 1) - own_ct ss nd).toInt32)]) (rest := []) (lenOf pd_29 rfl) rfl (by exact Nat.le_of_eq rfl) (hb hby at_409) (fun _ _ => ⟨rfl, e11, (own_room hce (by decide)), (own_room hsl (by decide))⟩)
  dsimp only [Pt.U, Pt.locs, Pt.cells, Pt.slots] at X12 l12 y12 z12 st12 hQ12
  subst l12 y12 z12
  obtain ⟨rfl, N12q, e12⟩ := hQ12
  have N12 := Fr.app N11 N12q
  obtain ⟨_, _, ⟨T13, L13, k13, n13⟩, -, X13, ⟨Lc13, hQ13, l13, y13, z13⟩, st13⟩ := Jvm.LawKit.callS X12 hx (y := Y58_) hown (mvT hZ (oW hw 204 rfl)) (mvT hZ (oW hw 205 rfl)) (mvT hZ (oW hw 193 rfl)) (mvT hZ (oW hw 206 rfl)) (by decide) (backOf (W := 0) (r_ck l Z a0 hw [] s_D s_L s_LE s_E s_Z mr kd_ kl_ h0 n0 O0 G0 t1 a1 (own_ct ss nd) (own_ct ss (nd + 1) - own_ct ss nd) 3 xs ss Sl I Ar (by decide) hbd hn) hZ (oW hw 206 rfl) (oW hw 193 rfl) (by decide) (by decide)) (g := (mkF m 422 (oB p1 p2 p3 n1_ k r0_ r1_ r2_ r3_ w0_ w1_ w2_ w3_ nd a14 a15 a16 a17 t1 (vI ((own_ct ss nd).toInt32)) (vI ((own_ct ss (nd + 1)).toInt32)) (vI ((own_ct ss (nd + 1) - own_ct ss nd).toInt32))) [(.int (own_ct ss (nd + 1) - own_ct ss nd).toInt32), (.int (own_ct ss nd).toInt32), (.int (3 : Int32)), (.ref t1)])) rfl (by rw [hml]; rfl) (argsL := [(.ref t1), (.int (3 : Int32)), (.int (own_ct ss nd).toInt32), (.int (own_ct ss (nd + 1) - own_ct ss nd).toInt32)]) (rest := []) (lenOf pd_29 rfl) rfl (by exact Nat.le_of_eq rfl) (hb hby at_422) (fun _ _ => ⟨rfl, e12, (own_room hce (by decide)), (own_room hsl (by decide))⟩)
  dsimp only [Pt.U, Pt.locs, Pt.cells, Pt.slots] at X13 l13 y13 z13 st13 hQ13
  subst l13 y13 z13
  obtain ⟨rfl, N13q, e13⟩ := hQ13
  have N13 := Fr.app N12 N13q
  refine ⟨T13, h0, _, X13, e13, N13, O0, rfl, fun target kt => ?_⟩
  show own_St p e below T0 m 257 (oB p1 p2 p3 n1_ k r0_ r1_ r2_ r3_ w0_ w1_ w2_ w3_ nd a14 a15 a16 a17 t1 oU oU oU) [] _
  refine XS.iload X0.here hx rfl (hb hby at_257) rfl ?_
  refine XS.iconst X0.here hx rfl (hb hby at_259) ?_
  refine XS.iload X0.here hx rfl (hb hby at_260) rfl ?_
  refine XS.iload X0.here hx rfl (hb hby at_262) rfl ?_
  refine st1 _ ?_
  show own_St p e below T1 m 267 (oB p1 p2 p3 n1_ k r0_ r1_ r2_ r3_ w0_ w1_ w2_ w3_ nd a14 a15 a16 a17 t1 oU oU oU) [(.int (own_cz k 0 w0_ nd).toInt32)] _
  refine XS.iload X1.here hx rfl (hb hby at_267) rfl ?_
  refine XS.iconst X1.here hx rfl (hb hby at_269) ?_
  refine XS.iload X1.here hx rfl (hb hby at_270) rfl ?_
  refine XS.iload X1.here hx rfl (hb hby at_272) rfl ?_
  refine st2 _ ?_
  show own_St p e below T2 m 277 (oB p1 p2 p3 n1_ k r0_ r1_ r2_ r3_ w0_ w1_ w2_ w3_ nd a14 a15 a16 a17 t1 oU oU oU) [(.int (own_cz k 1 w1_ nd).toInt32), (.int (own_cz k 0 w0_ nd).toInt32)] _
  refine XS.iadd X2.here hx rfl (hb hby at_277) rfl ?_
  show own_St p e below T2 m 278 (oB p1 p2 p3 n1_ k r0_ r1_ r2_ r3_ w0_ w1_ w2_ w3_ nd a14 a15 a16 a17 t1 oU oU oU) [(.int ((own_cz k 0 w0_ nd).toInt32 + (own_cz k 1 w1_ nd).toInt32))] _
  rw [own_add (by have := own_cz_le k 0 w0_ nd; have := own_cz_le k 1 w1_ nd; have := own_cz_le k 2 w2_ nd; omega) (Nat.le_trans (own_cz_le _ _ _ _) (by decide))]
  refine XS.iload X2.here hx rfl (hb hby at_278) rfl ?_
  refine XS.iconst X2.here hx rfl (hb hby at_280) ?_
  refine XS.iload X2.here hx rfl (hb hby at_281) rfl ?_
  refine XS.iload X2.here hx rfl (hb hby at_283) rfl ?_
  refine st3 _ ?_
  show own_St p e below T3 m 288 (oB p1 p2 p3 n1_ k r0_ r1_ r2_ r3_ w0_ w1_ w2_ w3_ nd a14 a15 a16 a17 t1 oU oU oU) [(.int (own_cz k 2 w2_ nd).toInt32), (.int (own_cz k 0 w0_ nd + own_cz k 1 w1_ nd).toInt32)] _
  refine XS.iadd X3.here hx rfl (hb hby at_288) rfl ?_
  show own_St p e below T3 m 289 (oB p1 p2 p3 n1_ k r0_ r1_ r2_ r3_ w0_ w1_ w2_ w3_ nd a14 a15 a16 a17 t1 oU oU oU) [(.int ((own_cz k 0 w0_ nd + own_cz k 1 w1_ nd).toInt32 + (own_cz k 2 w2_ nd).toInt32))] _
  rw [own_add (by have := own_cz_le k 0 w0_ nd; have := own_cz_le k 1 w1_ nd; have := own_cz_le k 2 w2_ nd; omega) (Nat.le_trans (own_cz_le _ _ _ _) (by decide))]
  refine XS.iload X3.here hx rfl (hb hby at_289) rfl ?_
  refine XS.iconst X3.here hx rfl (hb hby at_291) ?_
  refine XS.iload X3.here hx rfl (hb hby at_292) rfl ?_
  refine XS.iload X3.here hx rfl (hb hby at_294) rfl ?_
  refine st4 _ ?_
  show own_St p e below T4 m 299 (oB p1 p2 p3 n1_ k r0_ r1_ r2_ r3_ w0_ w1_ w2_ w3_ nd a14 a15 a16 a17 t1 oU oU oU) [(.int (own_cz k 3 w3_ nd).toInt32), (.int (own_cz k 0 w0_ nd + own_cz k 1 w1_ nd + own_cz k 2 w2_ nd).toInt32)] _
  refine XS.iadd X4.here hx rfl (hb hby at_299) rfl ?_
  show own_St p e below T4 m 300 (oB p1 p2 p3 n1_ k r0_ r1_ r2_ r3_ w0_ w1_ w2_ w3_ nd a14 a15 a16 a17 t1 oU oU oU) [(.int ((own_cz k 0 w0_ nd + own_cz k 1 w1_ nd + own_cz k 2 w2_ nd).toInt32 + (own_cz k 3 w3_ nd).toInt32))] _
  rw [own_add (by have := own_cz_le k 0 w0_ nd; have := own_cz_le k 1 w1_ nd; have := own_cz_le k 2 w2_ nd; omega) (Nat.le_trans (own_cz_le _ _ _ _) (by decide))]
  show own_St p e below T4 m 300 (oB p1 p2 p3 n1_ k r0_ r1_ r2_ r3_ w0_ w1_ w2_ w3_ nd a14 a15 a16 a17 t1 oU oU oU) [(.int (own_cz k 0 w0_ nd + own_cz k 1 w1_ nd + own_cz k 2 w2_ nd + own_cz k 3 w3_ nd).toInt32)] _
  rw [hlo]
  refine XS.istore X4.here hx rfl (hb hby at_300) rfl (l' := (oB p1 p2 p3 n1_ k r0_ r1_ r2_ r3_ w0_ w1_ w2_ w3_ nd a14 a15 a16 a17 t1 (vI ((own_ct ss nd).toInt32)) oU oU)) rfl ?_
  refine XS.iload X4.here hx rfl (hb hby at_302) rfl ?_
  refine XS.iconst X4.here hx rfl (hb hby at_304) ?_
  refine XS.iload X4.here hx rfl (hb hby at_305) rfl ?_
  refine XS.iload X4.here hx rfl (hb hby at_307) rfl ?_
  refine XS.iconst X4.here hx rfl (hb hby at_309) ?_
  refine XS.iadd X4.here hx rfl (hb hby at_310) rfl ?_
  show own_St p e below T4 m 311 (oB p1 p2 p3 n1_ k r0_ r1_ r2_ r3_ w0_ w1_ w2_ w3_ nd a14 a15 a16 a17 t1 (vI ((own_ct ss nd).toInt32)) oU oU) [(.int (nd.toInt32 + (1 : Int32))), (.int w0_.toInt32), (.int (0 : Int32)), (.int k.toInt32)] _
  rw [own_ts (Nat.le_trans hd1 (by decide))]
  refine st5 _ ?_
  show own_St p e below T5 m 314 (oB p1 p2 p3 n1_ k r0_ r1_ r2_ r3_ w0_ w1_ w2_ w3_ nd a14 a15 a16 a17 t1 (vI ((own_ct ss nd).toInt32)) oU oU) [(.int (own_cz k 0 w0_ (nd + 1)).toInt32)] _
  refine XS.iload X5.here hx rfl (hb hby at_314) rfl ?_
  refine XS.iconst X5.here hx rfl (hb hby at_316) ?_
  refine XS.iload X5.here hx rfl (hb hby at_317) rfl ?_
  refine XS.iload X5.here hx rfl (hb hby at_319) rfl ?_
  refine XS.iconst X5.here hx rfl (hb hby at_321) ?_
  refine XS.iadd X5.here hx rfl (hb hby at_322) rfl ?_
  show own_St p e below T5 m 323 (oB p1 p2 p3 n1_ k r0_ r1_ r2_ r3_ w0_ w1_ w2_ w3_ nd a14 a15 a16 a17 t1 (vI ((own_ct ss nd).toInt32)) oU oU) [(.int (nd.toInt32 + (1 : Int32))), (.int w1_.toInt32), (.int (1 : Int32)), (.int k.toInt32), (.int (own_cz k 0 w0_ (nd + 1)).toInt32)] _
  rw [own_ts (Nat.le_trans hd1 (by decide))]
  refine st6 _ ?_
  show own_St p e below T6 m 326 (oB p1 p2 p3 n1_ k r0_ r1_ r2_ r3_ w0_ w1_ w2_ w3_ nd a14 a15 a16 a17 t1 (vI ((own_ct ss nd).toInt32)) oU oU) [(.int (own_cz k 1 w1_ (nd + 1)).toInt32), (.int (own_cz k 0 w0_ (nd + 1)).toInt32)] _
  refine XS.iadd X6.here hx rfl (hb hby at_326) rfl ?_
  show own_St p e below T6 m 327 (oB p1 p2 p3 n1_ k r0_ r1_ r2_ r3_ w0_ w1_ w2_ w3_ nd a14 a15 a16 a17 t1 (vI ((own_ct ss nd).toInt32)) oU oU) [(.int ((own_cz k 0 w0_ (nd + 1)).toInt32 + (own_cz k 1 w1_ (nd + 1)).toInt32))] _
  rw [own_add (by have := own_cz_le k 0 w0_ (nd + 1); have := own_cz_le k 1 w1_ (nd + 1); have := own_cz_le k 2 w2_ (nd + 1); omega) (Nat.le_trans (own_cz_le _ _ _ _) (by decide))]
  refine XS.iload X6.here hx rfl (hb hby at_327) rfl ?_
  refine XS.iconst X6.here hx rfl (hb hby at_329) ?_
  refine XS.iload X6.here hx rfl (hb hby at_330) rfl ?_
  refine XS.iload X6.here hx rfl (hb hby at_332) rfl ?_
  refine XS.iconst X6.here hx rfl (hb hby at_334) ?_
  refine XS.iadd X6.here hx rfl (hb hby at_335) rfl ?_
  show own_St p e below T6 m 336 (oB p1 p2 p3 n1_ k r0_ r1_ r2_ r3_ w0_ w1_ w2_ w3_ nd a14 a15 a16 a17 t1 (vI ((own_ct ss nd).toInt32)) oU oU) [(.int (nd.toInt32 + (1 : Int32))), (.int w2_.toInt32), (.int (2 : Int32)), (.int k.toInt32), (.int (own_cz k 0 w0_ (nd + 1) + own_cz k 1 w1_ (nd + 1)).toInt32)] _
  rw [own_ts (Nat.le_trans hd1 (by decide))]
  refine st7 _ ?_
  show own_St p e below T7 m 339 (oB p1 p2 p3 n1_ k r0_ r1_ r2_ r3_ w0_ w1_ w2_ w3_ nd a14 a15 a16 a17 t1 (vI ((own_ct ss nd).toInt32)) oU oU) [(.int (own_cz k 2 w2_ (nd + 1)).toInt32), (.int (own_cz k 0 w0_ (nd + 1) + own_cz k 1 w1_ (nd + 1)).toInt32)] _
  refine XS.iadd X7.here hx rfl (hb hby at_339) rfl ?_
  show own_St p e below T7 m 340 (oB p1 p2 p3 n1_ k r0_ r1_ r2_ r3_ w0_ w1_ w2_ w3_ nd a14 a15 a16 a17 t1 (vI ((own_ct ss nd).toInt32)) oU oU) [(.int ((own_cz k 0 w0_ (nd + 1) + own_cz k 1 w1_ (nd + 1)).toInt32 + (own_cz k 2 w2_ (nd + 1)).toInt32))] _
  rw [own_add (by have := own_cz_le k 0 w0_ (nd + 1); have := own_cz_le k 1 w1_ (nd + 1); have := own_cz_le k 2 w2_ (nd + 1); omega) (Nat.le_trans (own_cz_le _ _ _ _) (by decide))]
  refine XS.iload X7.here hx rfl (hb hby at_340) rfl ?_
  refine XS.iconst X7.here hx rfl (hb hby at_342) ?_
  refine XS.iload X7.here hx rfl (hb hby at_343) rfl ?_
  refine XS.iload X7.here hx rfl (hb hby at_345) rfl ?_
  refine XS.iconst X7.here hx rfl (hb hby at_347) ?_
  refine XS.iadd X7.here hx rfl (hb hby at_348) rfl ?_
  show own_St p e below T7 m 349 (oB p1 p2 p3 n1_ k r0_ r1_ r2_ r3_ w0_ w1_ w2_ w3_ nd a14 a15 a16 a17 t1 (vI ((own_ct ss nd).toInt32)) oU oU) [(.int (nd.toInt32 + (1 : Int32))), (.int w3_.toInt32), (.int (3 : Int32)), (.int k.toInt32), (.int (own_cz k 0 w0_ (nd + 1) + own_cz k 1 w1_ (nd + 1) + own_cz k 2 w2_ (nd + 1)).toInt32)] _
  rw [own_ts (Nat.le_trans hd1 (by decide))]
  refine st8 _ ?_
  show own_St p e below T8 m 352 (oB p1 p2 p3 n1_ k r0_ r1_ r2_ r3_ w0_ w1_ w2_ w3_ nd a14 a15 a16 a17 t1 (vI ((own_ct ss nd).toInt32)) oU oU) [(.int (own_cz k 3 w3_ (nd + 1)).toInt32), (.int (own_cz k 0 w0_ (nd + 1) + own_cz k 1 w1_ (nd + 1) + own_cz k 2 w2_ (nd + 1)).toInt32)] _
  refine XS.iadd X8.here hx rfl (hb hby at_352) rfl ?_
  show own_St p e below T8 m 353 (oB p1 p2 p3 n1_ k r0_ r1_ r2_ r3_ w0_ w1_ w2_ w3_ nd a14 a15 a16 a17 t1 (vI ((own_ct ss nd).toInt32)) oU oU) [(.int ((own_cz k 0 w0_ (nd + 1) + own_cz k 1 w1_ (nd + 1) + own_cz k 2 w2_ (nd + 1)).toInt32 + (own_cz k 3 w3_ (nd + 1)).toInt32))] _
  rw [own_add (by have := own_cz_le k 0 w0_ (nd + 1); have := own_cz_le k 1 w1_ (nd + 1); have := own_cz_le k 2 w2_ (nd + 1); omega) (Nat.le_trans (own_cz_le _ _ _ _) (by decide))]
  show own_St p e below T8 m 353 (oB p1 p2 p3 n1_ k r0_ r1_ r2_ r3_ w0_ w1_ w2_ w3_ nd a14 a15 a16 a17 t1 (vI ((own_ct ss nd).toInt32)) oU oU) [(.int (own_cz k 0 w0_ (nd + 1) + own_cz k 1 w1_ (nd + 1) + own_cz k 2 w2_ (nd + 1) + own_cz k 3 w3_ (nd + 1)).toInt32)] _
  rw [hhi]
  refine XS.istore X8.here hx rfl (hb hby at_353) rfl (l' := (oB p1 p2 p3 n1_ k r0_ r1_ r2_ r3_ w0_ w1_ w2_ w3_ nd a14 a15 a16 a17 t1 (vI ((own_ct ss nd).toInt32)) (vI ((own_ct ss (nd + 1)).toInt32)) oU)) rfl ?_
  refine XS.iload X8.here hx rfl (hb hby at_355) rfl ?_
  refine XS.iload X8.here hx rfl (hb hby at_357) rfl ?_
  refine XS.isub X8.here hx rfl (hb hby at_359) rfl ?_
  show own_St p e below T8 m 360 (oB p1 p2 p3 n1_ k r0_ r1_ r2_ r3_ w0_ w1_ w2_ w3_ nd a14 a15 a16 a17 t1 (vI ((own_ct ss nd).toInt32)) (vI ((own_ct ss (nd + 1)).toInt32)) oU) [(.int ((own_ct ss (nd + 1)).toInt32 - (own_ct ss nd).toInt32))] _
  rw [own_subn (own_ct_mono ss nd) hc9]
  refine XS.istore X8.here hx rfl (hb hby at_360) rfl (l' := (oB p1 p2 p3 n1_ k r0_ r1_ r2_ r3_ w0_ w1_ w2_ w3_ nd a14 a15 a16 a17 t1 (vI ((own_ct ss nd).toInt32)) (vI ((own_ct ss (nd + 1)).toInt32)) (vI ((own_ct ss (nd + 1) - own_ct ss nd).toInt32)))) rfl ?_
  refine XS.aload X8.here hx rfl (hb hby at_362) rfl rfl ?_
  refine st9.trans ?_
  show own_St p e below T9 m 369 (oB p1 p2 p3 n1_ k r0_ r1_ r2_ r3_ w0_ w1_ w2_ w3_ nd a14 a15 a16 a17 t1 (vI ((own_ct ss nd).toInt32)) (vI ((own_ct ss (nd + 1)).toInt32)) (vI ((own_ct ss (nd + 1) - own_ct ss nd).toInt32))) [(.int (own_ct ss (nd + 1) - own_ct ss nd).toInt32)] _
  refine XS.iload X9.here hx rfl (hb hby at_369) rfl ?_
  refine XS.icmpYes X9.here hx rfl (pc0 := 371) (pc' := 376) rfl (hb hby at_371) rfl (teq (rfl : (own_ct ss (nd + 1) - own_ct ss nd).toInt32 = (own_ct ss (nd + 1) - own_ct ss nd).toInt32)).1 (by decide) (by decide) ?_
  refine XS.aload X9.here hx rfl (hb hby at_376) rfl rfl ?_
  refine XS.iconst X9.here hx rfl (hb hby at_378) ?_
  refine XS.iload X9.here hx rfl (hb hby at_379) rfl ?_
  refine XS.iload X9.here hx rfl (hb hby at_381) rfl ?_
  refine st10 _ ?_
  show own_St p e below T10 m 386 (oB p1 p2 p3 n1_ k r0_ r1_ r2_ r3_ w0_ w1_ w2_ w3_ nd a14 a15 a16 a17 t1 (vI ((own_ct ss nd).toInt32)) (vI ((own_ct ss (nd + 1)).toInt32)) (vI ((own_ct ss (nd + 1) - own_ct ss nd).toInt32))) [(.int (1 : Int32))] _
  refine XS.ifNo X10.here hx rfl (hb hby at_386) rfl ((if0 _ _).trans (feq (by decide : ¬ ((1 : Int32) = (0 : Int32)))).1) ?_
  refine XS.aload X10.here hx rfl (hb hby at_389) rfl rfl ?_
  refine XS.iconst X10.here hx rfl (hb hby at_391) ?_
  refine XS.iload X10.here hx rfl (hb hby at_392) rfl ?_
  refine XS.iload X10.here hx rfl (hb hby at_394) rfl ?_
  refine st11 _ ?_
  show own_St p e below T11 m 399 (oB p1 p2 p3 n1_ k r0_ r1_ r2_ r3_ w0_ w1_ w2_ w3_ nd a14 a15 a16 a17 t1 (vI ((own_ct ss nd).toInt32)) (vI ((own_ct ss (nd + 1)).toInt32)) (vI ((own_ct ss (nd + 1) - own_ct ss nd).toInt32))) [(.int (1 : Int32))] _
  refine XS.ifNo X11.here hx rfl (hb hby at_399) rfl ((if0 _ _).trans (feq (by decide : ¬ ((1 : Int32) = (0 : Int32)))).1) ?_
  refine XS.aload X11.here hx rfl (hb hby at_402) rfl rfl ?_
  refine XS.iconst X11.here hx rfl (hb hby at_404) ?_
  refine XS.iload X11.here hx rfl (hb hby at_405) rfl ?_
  refine XS.iload X11.here hx rfl (hb hby at_407) rfl ?_
  refine st12 _ ?_
  show own_St p e below T12 m 412 (oB p1 p2 p3 n1_ k r0_ r1_ r2_ r3_ w0_ w1_ w2_ w3_ nd a14 a15 a16 a17 t1 (vI ((own_ct ss nd).toInt32)) (vI ((own_ct ss (nd + 1)).toInt32)) (vI ((own_ct ss (nd + 1) - own_ct ss nd).toInt32))) [(.int (1 : Int32))] _
  refine XS.ifNo X12.here hx rfl (hb hby at_412) rfl ((if0 _ _).trans (feq (by decide : ¬ ((1 : Int32) = (0 : Int32)))).1) ?_
  refine XS.aload X12.here hx rfl (hb hby at_415) rfl rfl ?_
  refine XS.iconst X12.here hx rfl (hb hby at_417) ?_
  refine XS.iload X12.here hx rfl (hb hby at_418) rfl ?_
  refine XS.iload X12.here hx rfl (hb hby at_420) rfl ?_
  refine st13 _ ?_
  show own_St p e below T13 m 425 (oB p1 p2 p3 n1_ k r0_ r1_ r2_ r3_ w0_ w1_ w2_ w3_ nd a14 a15 a16 a17 t1 (vI ((own_ct ss nd).toInt32)) (vI ((own_ct ss (nd + 1)).toInt32)) (vI ((own_ct ss (nd + 1) - own_ct ss nd).toInt32))) [(.int (1 : Int32))] _
  refine XS.ifNo X13.here hx rfl (hb hby at_425) rfl ((if0 _ _).trans (feq (by decide : ¬ ((1 : Int32) = (0 : Int32)))).1) ?_
  refine XS.iconst X13.here hx rfl (hb hby at_428) ?_
  refine XS.goto X13.here hx rfl (pc0 := 429) (pc' := 433) rfl (hb hby at_429) (by decide) (by decide) ?_
  exact kt
theorem pd_30 : parseMethodDescriptor "([ZLjava/util/List;Ljava/util/List;)V" = some ⟨[(.array .boolean), (.object "java/util/List"), (.object "java/util/List")], none⟩ := by decide +kernel
theorem pd_31 : parseMethodDescriptor "(I)Ljava/util/List;" = some ⟨[.int], some (.object "java/util/List")⟩ := by decide +kernel
theorem ef_0_50 (m : MethodId) (x0 : Int32) (x1 : Int32) (x2 : Int32) : entryFrame m #[(.int x0), (.int x1), (.int x2)] maxLocals = mkF m 0 #[vI (x0), vI (x1), vI (x2), .unset, .unset, .unset, .unset, .unset, .unset, .unset, .unset, .unset, .unset, .unset, .unset, .unset, .unset, .unset, .unset, .unset, .unset, .unset] [] := by first | (simp [entryFrame, mkF, argsToLocals, Value.category, maxLocals]; done) | rfl
theorem r_law0 (l Z a0) (hw : own_HW a0 Z) (ws s_D s_L s_LE s_E s_Z mr kd_ kl_ h0 n0) (O0 : Old Z n0 h0) (G : own_Ctx Z Z.heap s_D s_L s_LE s_E s_Z mr kd_ kl_) (p1 p2 p3 : Int32) (m_ u0_ u1_ u2_ u3_ nd : Nat) (hm : p1 &&& (3 : Int32) = m_.toInt32) (hm3 : m_ ≤ 3) (hk : ((p1.toUInt32 >>> ((2 : Int32) &&& 31).toUInt32).toInt32) % (5 : Int32) = (0 : Int32)) (hu0 : (((p2.toUInt32 >>> ((0 : Int32) &&& 31).toUInt32).toInt32) &&& (3 : Int32)) = u0_.toInt32) (hv0 : u0_ ≤ 3) (hu1 : (((p2.toUInt32 >>> ((2 : Int32) &&& 31).toUInt32).toInt32) &&& (3 : Int32)) = u1_.toInt32) (hv1 : u1_ ≤ 3) (hu2 : (((p2.toUInt32 >>> ((4 : Int32) &&& 31).toUInt32).toInt32) &&& (3 : Int32)) = u2_.toInt32) (hv2 : u2_ ≤ 3) (hu3 : (((p2.toUInt32 >>> ((6 : Int32) &&& 31).toUInt32).toInt32) &&& (3 : Int32)) = u3_.toInt32) (hv3 : u3_ ≤ 3) (hnd : (p3 &&& (2147483647 : Int32)) % (m_ + 1).toInt32 = nd.toInt32) (hnd1 : nd < m_ + 1) :
    own_M l x (head1 (Jvm.Cond.code x code maxLocals ret :: ws) room_1) #[(.int p1), (.int p2), (.int p3)] Z h0 n0 (own_Qk (some (.int (1 : Int32))) []) 48 1280 := by
  have G0 := G
  obtain ⟨S_D, E_D, V_D, S_L, E_L, F_L, V_L, S_E, E_E, S_A, S_Z, E_Z, M_A⟩ := G
  refine MetFree.of_bodySF (plainFor_of_name pn_18) hisR ?_
  intro p e s m args below meth c s₁ Bd hml0 hP hK
  obtain ⟨rfl, hZ, hh⟩ := hP
  have hx := Bd.exec
  have hby := Bd.bytes
  have hml : c.maxLocals = 22 := hml0
  have hown := findClass_of_methodNamed Bd.named
  have X0 : Stand p l e room_1 s m #[(.int p1), (.int p2), (.int p3)] below meth c s₁ [] 0 0 := Stand.of_body Bd
  have e0 : s₁.heap = h0 := by rw [← hh, Bd.state]; rfl
  have N0 := Fr.nil n0
  have pre0 := own_pre (tb := p.tables) (e := e) (below := below) (T := s₁) (ef_0_50 m p1 p2 p3)
  have hN5 : m_ + 1 ≤ 4 := by omega
  have hnd4 : nd ≤ 4 := by omega
  obtain ⟨T1, h1, L1, X1, e1, N1, O1, q1h, st1⟩ := t_lp s_D s_L s_LE s_E s_Z mr kd_ kl_ p1 p2 p3 (0 : Int32) m_ u0_ u1_ u2_ u3_ nd 0 0 (by decide) (by decide) X0 hx hZ hw hby hml hown e0 N0 O0 G0 hm hm3 hk hu0 hv0 hu1 hv1 hu2 hv2 hu3 hv3 hnd
  obtain rfl : h0 = h1 := q1h.symm
  obtain ⟨T2, h2, ka2, X2, e2, E2, A2, B2, st2⟩ := newPE X1 hx hZ (oW hw 5 rfl) e1 (g := (mkF m 100 (oA0 p1 p2 p3 m_ u0_ u1_ u2_ u3_ nd oU oU oU oU oU oU oU oU) [(.int (m_ + 1).toInt32)])) rfl (hb hby at_100) rfl (own_ti (own_k hN5)).2.1 (cap := 4) (own_capn hN5) (by decide) (by decide) (by decide) (ad := "[Z") rfl
  obtain ⟨b2, g2⟩ := oZ h0.size
  rw [← g2] at A2 B2 st2
  have O2 := O1.ext E2
  have K2 : Keep h0 h2 [] := (Keep.refl h0 []).ext E2
  have V2 : Arv Z h2 b2 ka2 .boolean (m_ + 1).toInt32 [] (.int (0 : Int32)) := Arv.new A2 (own_ti (own_k hN5)).2.1
  obtain ⟨T3, h3, X3, e3, E3, A3, D3, -, st3⟩ := newO X2 hx hZ hown (oW hw 6 rfl) (oW hw 7 rfl) (oW hw 8 rfl) e2 (g := (mkF m 104 (oA0 p1 p2 p3 m_ u0_ u1_ u2_ u3_ nd (vR (b2)) oU oU oU oU oU oU oU) [])) rfl (hb hby at_104) (by decide) (by decide)
  obtain ⟨b3, g3⟩ := oZ h2.size
  have ne_b2_b3 := oE B2.lt g3
  have g_b3 : n0 ≤ b3 := Nat.le_trans (O2.1 ▸ O2.2.1) (Nat.le_of_eq g3.symm)
  have sz_b3 : h0.size ≤ b3 := Nat.le_trans K2.1 (Nat.le_of_eq g3.symm)
  rw [← g3] at A3 D3 st3
  have f4 := B2.ext E3
  have f5 := V2.ext E3
  have O3 := O2.ext E3
  have K3 : Keep h0 h3 [] := K2.ext E3
  have F3_28 : Fld Z h3 b3 "java/util/AbstractList" "modCount" "I" (.int (0 : Int32)) := D3 (Or.inl (oW hw 28 rfl)) (ty := .int) (by decide)
  have F3_31 : Fld Z h3 b3 "java/util/ArrayList" "elementData" "[Ljava/lang/Object;" .null := D3 (Or.inl (oW hw 31 rfl)) (ty := (.array (.object "java/lang/Object"))) (by decide)
  have F3_74 : Fld Z h3 b3 "java/util/ArrayList" "size" "I" (.int (0 : Int32)) := D3 (Or.inl (oW hw 74 rfl)) (ty := .int) (by decide)
  obtain ⟨_, _, ⟨T6, L6, k6, n6⟩, -, X6, ⟨Lc6, hQ6, l6, y6, z6⟩, st6⟩ := X3.specialBack hx (y := Y2_) rfl hown (mvT hZ (oW hw 9 rfl)) (mvT hZ (oW hw 10 rfl)) (mvT hZ (oW hw 11 rfl)) (by decide) (backOf (W := 1) (r_ali l Z a0 hw [] s_D s_L s_LE s_E s_Z mr kd_ kl_ h3 n0 O3 G0 b3 A3 g_b3 F3_28 F3_31 F3_74) hZ (oW hw 11 rfl) (oW hw 8 rfl) (by decide) (by decide)) (g := (mkF m 108 (oA0 p1 p2 p3 m_ u0_ u1_ u2_ u3_ nd (vR (b2)) oU oU oU oU oU oU oU) [(.ref b3), (.ref b3)])) rfl (by rw [hml]; rfl) (Steps.refl _) (a := b3) (argsL := []) (rest := [(.ref b3)]) (lenOf pd_0 rfl) rfl (by exact Nat.le_of_eq rfl) (hb hby at_108) (fun _ _ => ⟨rfl, e3, (by decide : 2 + 0 ≤ _), (by decide : 7 + 0 ≤ _)⟩)
  dsimp only [Pt.U, Pt.locs, Pt.cells, Pt.slots] at X6 l6 y6 z6 st6 hQ6
  subst l6 y6 z6
  obtain ⟨rfl, N6q, Kq6, Fm6, Fe6, Fs6⟩ := hQ6
  have N6 := Fr.app N1 N6q
  have f7 := f4.keep Kq6
  have f8 := f5.keep Kq6 (oN1 ne_b2_b3)
  have f9 := A3.keep Kq6
  have O6 := O3.keep Kq6 (allS g_b3 all0)
  have K6 : Keep h0 T6.heap [] := K3.trans Kq6 (allS (Or.inr sz_b3) all0)
  obtain ⟨T10, h10, X10, e10, E10, A10, D10, -, st10⟩ := newO X6 hx hZ hown (oW hw 6 rfl) (oW hw 7 rfl) (oW hw 8 rfl) rfl (g := (mkF m 113 (oA0 p1 p2 p3 m_ u0_ u1_ u2_ u3_ nd (vR (b2)) (vR (b3)) oU oU oU oU oU oU) [])) rfl (hb hby at_113) (by decide) (by decide)
  obtain ⟨b10, g10⟩ := oZ T6.heap.size
  have ne_b2_b10 := oE f7.lt g10
  have ne_b3_b10 := oE f9.lt g10
  have g_b10 : n0 ≤ b10 := Nat.le_trans (O6.1 ▸ O6.2.1) (Nat.le_of_eq g10.symm)
  have sz_b10 : h0.size ≤ b10 := Nat.le_trans K6.1 (Nat.le_of_eq g10.symm)
  rw [← g10] at A10 D10 st10
  have f11 := f7.ext E10
  have f12 := f8.ext E10
  have f13 := f9.ext E10
  have f15 := Fe6.ext E10
  have f16 := Fs6.ext E10
  have O10 := O6.ext E10
  have K10 : Keep h0 h10 [] := K6.ext E10
  have F10_28 : Fld Z h10 b10 "java/util/AbstractList" "modCount" "I" (.int (0 : Int32)) := D10 (Or.inl (oW hw 28 rfl)) (ty := .int) (by decide)
  have F10_31 : Fld Z h10 b10 "java/util/ArrayList" "elementData" "[Ljava/lang/Object;" .null := D10 (Or.inl (oW hw 31 rfl)) (ty := (.array (.object "java/lang/Object"))) (by decide)
  have F10_74 : Fld Z h10 b10 "java/util/ArrayList" "size" "I" (.int (0 : Int32)) := D10 (Or.inl (oW hw 74 rfl)) (ty := .int) (by decide)
  obtain ⟨_, _, ⟨T17, L17, k17, n17⟩, -, X17, ⟨Lc17, hQ17, l17, y17, z17⟩, st17⟩ := X10.specialBack hx (y := Y2_) rfl hown (mvT hZ (oW hw 9 rfl)) (mvT hZ (oW hw 10 rfl)) (mvT hZ (oW hw 11 rfl)) (by decide) (backOf (W := 1) (r_ali l Z a0 hw [] s_D s_L s_LE s_E s_Z mr kd_ kl_ h10 n0 O10 G0 b10 A10 g_b10 F10_28 F10_31 F10_74) hZ (oW hw 11 rfl) (oW hw 8 rfl) (by decide) (by decide)) (g := (mkF m 117 (oA0 p1 p2 p3 m_ u0_ u1_ u2_ u3_ nd (vR (b2)) (vR (b3)) oU oU oU oU oU oU) [(.ref b10), (.ref b10)])) rfl (by rw [hml]; rfl) (Steps.refl _) (a := b10) (argsL := []) (rest := [(.ref b10)]) (lenOf pd_0 rfl) rfl (by exact Nat.le_of_eq rfl) (hb hby at_117) (fun _ _ => ⟨rfl, e10, (by decide : 3 + 0 ≤ _), (by decide : 10 + 0 ≤ _)⟩)
  dsimp only [Pt.U, Pt.locs, Pt.cells, Pt.slots] at X17 l17 y17 z17 st17 hQ17
  subst l17 y17 z17
  obtain ⟨rfl, N17q, Kq17, Fm17, Fe17, Fs17⟩ := hQ17
  have N17 := Fr.app N6 N17q
  have f18 := f11.keep Kq17
  have f19 := f12.keep Kq17 (oN1 ne_b2_b10)
  have f20 := f13.keep Kq17
  have f22 := f15.keep Kq17 (oN1 ne_b3_b10)
  have f23 := f16.keep Kq17 (oN1 ne_b3_b10)
  have f24 := A10.keep Kq17
  have O17 := O10.keep Kq17 (allS g_b10 all0)
  have K17 : Keep h0 T17.heap [] := K10.trans Kq17 (allS (Or.inr sz_b10) all0)
  obtain ⟨T25, h25, X25, e25, E25, A25, D25, -, st25⟩ := newO X17 hx hZ hown (oW hw 32 rfl) (oW hw 33 rfl) (oW hw 34 rfl) rfl (g := (mkF m 233 (oA0 p1 p2 p3 m_ u0_ u1_ u2_ u3_ nd (vR (b2)) (vR (b3)) (vR (b10)) oU oU oU oU oU) [])) rfl (hb hby at_233) (by decide) (by decide)
  obtain ⟨b25, g25⟩ := oZ T17.heap.size
  have g_b25 : n0 ≤ b25 := Nat.le_trans (O17.1 ▸ O17.2.1) (Nat.le_of_eq g25.symm)
  have sz_b25 : h0.size ≤ b25 := Nat.le_trans K17.1 (Nat.le_of_eq g25.symm)
  rw [← g25] at A25 D25 st25
  have f26 := f18.ext E25
  have f27 := f19.ext E25
  have f28 := f20.ext E25
  have f30 := f22.ext E25
  have f31 := f23.ext E25
  have f32 := f24.ext E25
  have f34 := Fe17.ext E25
  have f35 := Fs17.ext E25
  have O25 := O17.ext E25
  have K25 : Keep h0 h25 [] := K17.ext E25
  have F25_49 : Fld Z h25 b25 "com/example/hodos/hodos/analysis/Course" "stops" "[Z" .null := D25 (Or.inr (oW hw 49 rfl)) (ty := (.array .boolean)) (by decide)
  have F25_80 : Fld Z h25 b25 "com/example/hodos/hodos/analysis/Course" "starts" "Ljava/util/List;" .null := D25 (Or.inr (oW hw 80 rfl)) (ty := (.object "java/util/List")) (by decide)
  have F25_82 : Fld Z h25 b25 "com/example/hodos/hodos/analysis/Course" "arcs" "Ljava/util/List;" .null := D25 (Or.inr (oW hw 82 rfl)) (ty := (.object "java/util/List")) (by decide)
  have F25_136 : Fld Z h25 b25 "com/example/hodos/hodos/analysis/Course" "firstArc" "[I" .null := D25 (Or.inr (oW hw 136 rfl)) (ty := (.array .int)) (by decide)
  obtain ⟨_, _, ⟨T36, L36, k36, n36⟩, -, X36, ⟨Lc36, hQ36, l36, y36, z36⟩, st36⟩ := X25.specialBack hx (y := Y45_) rfl hown (mvT hZ (oW hw 35 rfl)) (mvT hZ (oW hw 36 rfl)) (mvT hZ (oW hw 37 rfl)) (by decide) (backOf (W := 1) (r_coi0 l Z a0 hw [] s_D s_L s_LE s_E s_Z mr kd_ kl_ h25 n0 O25 G0 b25 b2 b3 b10 ka2 [] (m_ + 1) ([] : List Nat) A25 g_b25 F25_49 F25_80 F25_82 F25_136 f26 f27 hN5 f28 f30 f31 f32 f34 f35 own_arcs0 own_hss0) hZ (oW hw 37 rfl) (oW hw 34 rfl) (by decide) (by decide)) (g := (mkF m 243 (oA0 p1 p2 p3 m_ u0_ u1_ u2_ u3_ nd (vR (b2)) (vR (b3)) (vR (b10)) oU oU oU oU oU) [(.ref b10), (.ref b3), (.ref b2), (.ref b25), (.ref b25)])) rfl (by rw [hml]; rfl) (Steps.refl _) (a := b25) (argsL := [(.ref b2), (.ref b3), (.ref b10)]) (rest := [(.ref b25)]) (lenOf pd_30 rfl) rfl (by exact Nat.le_of_eq rfl) (hb hby at_243) (fun _ _ => ⟨rfl, e25, (by decide : 4 + 3 ≤ _), (by decide : 14 + 13 ≤ _)⟩)
  dsimp only [Pt.U, Pt.locs, Pt.cells, Pt.slots] at X36 l36 y36 z36 st36 hQ36
  subst l36 y36 z36
  obtain ⟨rfl, N36q, Kq36, Co36⟩ := hQ36
  have N36 := Fr.app N17 N36q
  have f47 := A25.keep Kq36
  have O36 := O25.keep Kq36 (allS g_b25 all0)
  have K36 : Keep h0 T36.heap [] := K25.trans Kq36 (allS (Or.inr sz_b25) all0)
  obtain ⟨cq48, kq48, q48a, q48b, q48c⟩ := isOf hZ rfl f47
  obtain ⟨_, _, ⟨T48, L48, k48, n48⟩, -, X48, ⟨Lc48, hQ48, l48, y48, z48⟩, st48⟩ := X36.virtualBack hx (y := Y52_) (z := Y52_) hown (mvT hZ (oW hw 137 rfl)) (mvT hZ (oW hw 138 rfl)) (notFace_of_selects (args := #[]) (mvT hZ (oW hw 140 rfl))) (mvT hZ (oW hw 140 rfl)) (mvT hZ (oW hw 139 rfl)) (by decide) (backOf (W := 0) (r_af l Z a0 hw [] s_D s_L s_LE s_E s_Z mr kd_ kl_ T36.heap n0 O36 G0 b25 (m_ + 1) nd ([] : List Addr) ([] : List Nat) Co36 hN5 hnd1 rfl (Nat.le_of_ble_eq_true rfl)) hZ (oW hw 141 rfl) (oW hw 34 rfl) (by decide) (by decide)) q48a q48c (g := (mkF m 252 (oA0 p1 p2 p3 m_ u0_ u1_ u2_ u3_ nd (vR (b2)) (vR (b3)) (vR (b10)) (vR (b25)) oU oU oU oU) [(.int nd.toInt32), (.ref b25)])) rfl (by rw [hml]; rfl) (Steps.refl _) (argsL := [(.int nd.toInt32)]) (rest := []) (lenOf pd_31 rfl) rfl (by exact Nat.le_of_eq rfl) (hb hby at_252) (fun _ _ => ⟨rfl, rfl, (by decide : 7 + 1 ≤ _), (by decide : 27 + 3 ≤ _)⟩)
  dsimp only [Pt.U, Pt.locs, Pt.cells, Pt.slots] at X48 l48 y48 z48 st48 hQ48
  subst l48 y48 z48
  obtain ⟨la48, Iq48, ta48, rfl, N48q, Kq48, Sl48⟩ := hQ48
  have N48 := Fr.app N36 N48q
  have O48 := O36.keep Kq48 all0
  have K48 : Keep h0 T48.heap [] := K36.trans Kq48 all0
  obtain ⟨T60, h60, L60, X60, e60, N60, O60, q60h, st60⟩ := t_ls s_D s_L s_LE s_E s_Z mr kd_ kl_ p1 p2 p3 (m_ + 1).toInt32 u0_.toInt32 (u0_ + u1_).toInt32 (u0_ + u1_ + u2_).toInt32 (u0_ + u1_ + u2_ + u3_).toInt32 0 (min u0_ m_) (min (u0_ + u1_) m_) (min (u0_ + u1_ + u2_) m_) (min (u0_ + u1_ + u2_ + u3_) m_) nd b2 b3 b10 b25 ta48 la48 ([] : List Addr) ([] : List Nat) 8 30 (by decide) (by decide) X48 hx hZ hw hby hml hown rfl N48 O48 G0 Sl48 (own_IL_keep Kq48 Iq48) own_arcs0 (Nat.le_of_ble_eq_true rfl) rfl (by decide) hnd4 (Nat.le_trans own_mn (Nat.le_trans hm3 (by decide))) (Nat.le_trans own_mn (Nat.le_trans hm3 (by decide))) (Nat.le_trans own_mn (Nat.le_trans hm3 (by decide))) (Nat.le_trans own_mn (Nat.le_trans hm3 (by decide)))
  obtain rfl : T48.heap = h60 := q60h.symm
  obtain ⟨fs, hr, hrun, hended, hW, hsame⟩ := X60.leave (v := some (.int (1 : Int32))) (oR Bd.returns)
  refine ⟨_, _, pre0 _ ?_, hrun, hended, _, _, rfl, ?_, ⟨_, rfl⟩, hW, hsame.mono (by decide) (by decide)⟩
  · show own_St p e below s₁ m 0 #[vI (p1), vI (p2), vI (p3), .unset, .unset, .unset, .unset, .unset, .unset, .unset, .unset, .unset, .unset, .unset, .unset, .unset, .unset, .unset, .unset, .unset, .unset, .unset] [] _
    refine st1 _ ?_
    show own_St p e below T1 m 99 (oA0 p1 p2 p3 m_ u0_ u1_ u2_ u3_ nd oU oU oU oU oU oU oU oU) [] _
    refine XS.iloadN X1.here hx rfl (hb hby at_99) rfl ?_
    refine st2 _ ?_
    show own_St p e below T2 m 102 (oA0 p1 p2 p3 m_ u0_ u1_ u2_ u3_ nd oU oU oU oU oU oU oU oU) [(.ref b2)] _
    refine XS.astore X2.here hx rfl (hb hby at_102) rfl rfl (l' := (oA0 p1 p2 p3 m_ u0_ u1_ u2_ u3_ nd (vR (b2)) oU oU oU oU oU oU oU)) rfl ?_
    refine st3 _ ?_
    show own_St p e below T3 m 107 (oA0 p1 p2 p3 m_ u0_ u1_ u2_ u3_ nd (vR (b2)) oU oU oU oU oU oU oU) [(.ref b3)] _
    refine XS.dup X3.here hx rfl (hb hby at_107) rfl rfl ?_
    refine st6.trans ?_
    show own_St p e below T6 m 111 (oA0 p1 p2 p3 m_ u0_ u1_ u2_ u3_ nd (vR (b2)) oU oU oU oU oU oU oU) [(.ref b3)] _
    refine XS.astore X6.here hx rfl (hb hby at_111) rfl rfl (l' := (oA0 p1 p2 p3 m_ u0_ u1_ u2_ u3_ nd (vR (b2)) (vR (b3)) oU oU oU oU oU oU)) rfl ?_
    refine st10 _ ?_
    show own_St p e below T10 m 116 (oA0 p1 p2 p3 m_ u0_ u1_ u2_ u3_ nd (vR (b2)) (vR (b3)) oU oU oU oU oU oU) [(.ref b10)] _
    refine XS.dup X10.here hx rfl (hb hby at_116) rfl rfl ?_
    refine st17.trans ?_
    show own_St p e below T17 m 120 (oA0 p1 p2 p3 m_ u0_ u1_ u2_ u3_ nd (vR (b2)) (vR (b3)) oU oU oU oU oU oU) [(.ref b10)] _
    refine XS.astore X17.here hx rfl (hb hby at_120) rfl rfl (l' := (oA0 p1 p2 p3 m_ u0_ u1_ u2_ u3_ nd (vR (b2)) (vR (b3)) (vR (b10)) oU oU oU oU oU)) rfl ?_
    refine XS.iload X17.here hx rfl (hb hby at_122) rfl ?_
    refine XS.ifYes X17.here hx rfl (pc0 := 124) (pc' := 149) rfl (hb hby at_124) rfl ((if0 _ _).trans (flt (by decide : ¬ ((0 : Int32) < (0 : Int32)))).2.2.2) (by decide) (by decide) ?_
    refine XS.iload X17.here hx rfl (hb hby at_149) rfl ?_
    refine XS.iconst X17.here hx rfl (hb hby at_151) ?_
    refine XS.icmpYes X17.here hx rfl (pc0 := 152) (pc' := 177) rfl (hb hby at_152) rfl (flt (by decide : ¬ ((1 : Int32) < (0 : Int32)))).2.2.2 (by decide) (by decide) ?_
    refine XS.iload X17.here hx rfl (hb hby at_177) rfl ?_
    refine XS.iconst X17.here hx rfl (hb hby at_179) ?_
    refine XS.icmpYes X17.here hx rfl (pc0 := 180) (pc' := 205) rfl (hb hby at_180) rfl (flt (by decide : ¬ ((2 : Int32) < (0 : Int32)))).2.2.2 (by decide) (by decide) ?_
    refine XS.iload X17.here hx rfl (hb hby at_205) rfl ?_
    show own_St p e below T17 m 207 (oA0 p1 p2 p3 m_ u0_ u1_ u2_ u3_ nd (vR (b2)) (vR (b3)) (vR (b10)) oU oU oU oU oU) [(.int (0 : Int32))] _
    refine XS.iconst X17.here hx rfl (hb hby at_207) ?_
    refine XS.icmpYes X17.here hx rfl (pc0 := 208) (pc' := 233) rfl (hb hby at_208) rfl (flt (by decide : ¬ ((3 : Int32) < (0 : Int32)))).2.2.2 (by decide) (by decide) ?_
    refine st25 _ ?_
    show own_St p e below T25 m 236 (oA0 p1 p2 p3 m_ u0_ u1_ u2_ u3_ nd (vR (b2)) (vR (b3)) (vR (b10)) oU oU oU oU oU) [(.ref b25)] _
    refine XS.dup X25.here hx rfl (hb hby at_236) rfl rfl ?_
    refine XS.aload X25.here hx rfl (hb hby at_237) rfl rfl ?_
    refine XS.aload X25.here hx rfl (hb hby at_239) rfl rfl ?_
    refine XS.aload X25.here hx rfl (hb hby at_241) rfl rfl ?_
    refine st36.trans ?_
    show own_St p e below T36 m 246 (oA0 p1 p2 p3 m_ u0_ u1_ u2_ u3_ nd (vR (b2)) (vR (b3)) (vR (b10)) oU oU oU oU oU) [(.ref b25)] _
    refine XS.astore X36.here hx rfl (hb hby at_246) rfl rfl (l' := (oA0 p1 p2 p3 m_ u0_ u1_ u2_ u3_ nd (vR (b2)) (vR (b3)) (vR (b10)) (vR (b25)) oU oU oU oU)) rfl ?_
    refine XS.aload X36.here hx rfl (hb hby at_248) rfl rfl ?_
    refine XS.iload X36.here hx rfl (hb hby at_250) rfl ?_
    refine st48.trans ?_
    show own_St p e below T48 m 255 (oA0 p1 p2 p3 m_ u0_ u1_ u2_ u3_ nd (vR (b2)) (vR (b3)) (vR (b10)) (vR (b25)) oU oU oU oU) [(.ref ta48)] _
    refine XS.astore X48.here hx rfl (hb hby at_255) rfl rfl (l' := (oA0 p1 p2 p3 m_ u0_ u1_ u2_ u3_ nd (vR (b2)) (vR (b3)) (vR (b10)) (vR (b25)) (vR (ta48)) oU oU oU)) rfl ?_
    refine st60 _ ?_
    show own_St p e below T60 m 433 (oA0 p1 p2 p3 m_ u0_ u1_ u2_ u3_ nd (vR (b2)) (vR (b3)) (vR (b10)) (vR (b25)) (vR (ta48)) (vI ((own_ct ([] : List Nat) nd).toInt32)) (vI ((own_ct ([] : List Nat) (nd + 1)).toInt32)) (vI ((own_ct ([] : List Nat) (nd + 1) - own_ct ([] : List Nat) nd).toInt32))) [(.int (1 : Int32))] _
    exact retN X60 hx (t := .boolean) Bd.returns (by simp) (hb hby at_433) hr
  · show own_Qk (some (.int (1 : Int32))) [] h0 n0 _ T60.heap _
    rw [e60]
    exact ⟨rfl, N60, K48⟩
theorem pd_32 : parseMethodDescriptor "(IILcom/example/hodos/hodos/model/Time;ZZI)V" = some ⟨[.int, .int, (.object "com/example/hodos/hodos/model/Time"), .boolean, .boolean, .int], none⟩ := by decide +kernel
theorem pd_33 : parseMethodDescriptor "(Ljava/lang/Object;)Z" = some ⟨[(.object "java/lang/Object")], some .boolean⟩ := by decide +kernel
theorem r_law1 (l Z a0) (hw : own_HW a0 Z) (ws s_D s_L s_LE s_E s_Z mr kd_ kl_ h0 n0) (O0 : Old Z n0 h0) (G : own_Ctx Z Z.heap s_D s_L s_LE s_E s_Z mr kd_ kl_) (wS : ∀ a ∈ Bundle.stringAtoms, a.before a0 Z = true) (p1 p2 p3 : Int32) (m_ u0_ u1_ u2_ u3_ nd : Nat) (hm : p1 &&& (3 : Int32) = m_.toInt32) (hm3 : m_ ≤ 3) (hk : ((p1.toUInt32 >>> ((2 : Int32) &&& 31).toUInt32).toInt32) % (5 : Int32) = (1 : Int32)) (hu0 : (((p2.toUInt32 >>> ((0 : Int32) &&& 31).toUInt32).toInt32) &&& (3 : Int32)) = u0_.toInt32) (hv0 : u0_ ≤ 3) (hu1 : (((p2.toUInt32 >>> ((2 : Int32) &&& 31).toUInt32).toInt32) &&& (3 : Int32)) = u1_.toInt32) (hv1 : u1_ ≤ 3) (hu2 : (((p2.toUInt32 >>> ((4 : Int32) &&& 31).toUInt32).toInt32) &&& (3 : Int32)) = u2_.toInt32) (hv2 : u2_ ≤ 3) (hu3 : (((p2.toUInt32 >>> ((6 : Int32) &&& 31).toUInt32).toInt32) &&& (3 : Int32)) = u3_.toInt32) (hv3 : u3_ ≤ 3) (hnd : (p3 &&& (2147483647 : Int32)) % (m_ + 1).toInt32 = nd.toInt32) (hnd1 : nd < m_ + 1) :
    MetFree l x (head1 (Jvm.Cond.code x code maxLocals ret :: ws) room_1) (fun a U => a = #[(.int p1), (.int p2), (.int p3)] ∧ Z.Warmed39 U.vm ∧ U.heap = h0) (fun _ _ _ _ _ => True) (fun _ U o U' => ∃ v L, o = .returned v ∧ own_Qk (some (.int (1 : Int32))) [] h0 n0 v U'.heap L ∧ ReturnedEndW U o U' L 48 1280) := by
  have G0 := G
  obtain ⟨S_D, E_D, V_D, S_L, E_L, F_L, V_L, S_E, E_E, S_A, S_Z, E_Z, M_A⟩ := G
  refine MetFree.of_bodySF (plainFor_of_name pn_18) hisR ?_
  intro p e s m args below meth c s₁ Bd hml0 hP hK
  obtain ⟨rfl, hZ, hh⟩ := hP
  have hx := Bd.exec
  have hby := Bd.bytes
  have hml : c.maxLocals = 22 := hml0
  have hown := findClass_of_methodNamed Bd.named
  have X0 : Stand p l e room_1 (s.setVm s.vm) m #[(.int p1), (.int p2), (.int p3)] below meth c s₁ [] 0 0 := Stand.of_body Bd
  have e0 : s₁.heap = h0 := by rw [← hh, Bd.state]; rfl
  have N0 := Fr.nil n0
  have hS0 : s.Since s.vm h0.size := State.WarmedH.since (State.WarmedH.refl s) _
  have hk0 : h0.size ≤ h0.size := Nat.le_refl _
  have pre0 := own_pre (tb := p.tables) (e := e) (below := below) (T := s₁) (ef_0_50 m p1 p2 p3)
  have hN5 : m_ + 1 ≤ 4 := by omega
  have hnd4 : nd ≤ 4 := by omega
  obtain ⟨T1, h1, L1, X1, e1, N1, O1, q1h, st1⟩ := t_lp s_D s_L s_LE s_E s_Z mr kd_ kl_ p1 p2 p3 (1 : Int32) m_ u0_ u1_ u2_ u3_ nd 0 0 (by decide) (by decide) X0 hx hZ hw hby hml hown e0 N0 O0 G0 hm hm3 hk hu0 hv0 hu1 hv1 hu2 hv2 hu3 hv3 hnd
  obtain rfl : h0 = h1 := q1h.symm
  obtain ⟨T2, h2, ka2, X2, e2, E2, A2, B2, st2⟩ := newPE X1 hx hZ (oW hw 5 rfl) e1 (g := (mkF m 100 (oA1 p1 p2 p3 m_ u0_ u1_ u2_ u3_ nd oU oU oU oU oU oU oU oU) [(.int (m_ + 1).toInt32)])) rfl (hb hby at_100) rfl (own_ti (own_k hN5)).2.1 (cap := 4) (own_capn hN5) (by decide) (by decide) (by decide) (ad := "[Z") rfl
  obtain ⟨b2, g2⟩ := oZ h0.size
  rw [← g2] at A2 B2 st2
  have O2 := O1.ext E2
  have K2 : Keep h0 h2 [] := (Keep.refl h0 []).ext E2
  have hk2 := Nat.le_trans hk0 E2.1
  have V2 : Arv Z h2 b2 ka2 .boolean (m_ + 1).toInt32 [] (.int (0 : Int32)) := Arv.new A2 (own_ti (own_k hN5)).2.1
  obtain ⟨T3, h3, X3, e3, E3, A3, D3, -, st3⟩ := newO X2 hx hZ hown (oW hw 6 rfl) (oW hw 7 rfl) (oW hw 8 rfl) e2 (g := (mkF m 104 (oA1 p1 p2 p3 m_ u0_ u1_ u2_ u3_ nd (vR (b2)) oU oU oU oU oU oU oU) [])) rfl (hb hby at_104) (by decide) (by decide)
  obtain ⟨b3, g3⟩ := oZ h2.size
  have ne_b2_b3 := oE B2.lt g3
  have g_b3 : n0 ≤ b3 := Nat.le_trans (O2.1 ▸ O2.2.1) (Nat.le_of_eq g3.symm)
  have sz_b3 : h0.size ≤ b3 := Nat.le_trans K2.1 (Nat.le_of_eq g3.symm)
  rw [← g3] at A3 D3 st3
  have f4 := B2.ext E3
  have f5 := V2.ext E3
  have O3 := O2.ext E3
  have K3 : Keep h0 h3 [] := K2.ext E3
  have hk3 := Nat.le_trans hk2 E3.1
  have F3_28 : Fld Z h3 b3 "java/util/AbstractList" "modCount" "I" (.int (0 : Int32)) := D3 (Or.inl (oW hw 28 rfl)) (ty := .int) (by decide)
  have F3_31 : Fld Z h3 b3 "java/util/ArrayList" "elementData" "[Ljava/lang/Object;" .null := D3 (Or.inl (oW hw 31 rfl)) (ty := (.array (.object "java/lang/Object"))) (by decide)
  have F3_74 : Fld Z h3 b3 "java/util/ArrayList" "size" "I" (.int (0 : Int32)) := D3 (Or.inl (oW hw 74 rfl)) (ty := .int) (by decide)
  obtain ⟨_, _, ⟨T6, L6, k6, n6⟩, -, X6, ⟨Lc6, hQ6, l6, y6, z6⟩, st6⟩ := X3.specialBack hx (y := Y2_) rfl hown (mvT hZ (oW hw 9 rfl)) (mvT hZ (oW hw 10 rfl)) (mvT hZ (oW hw 11 rfl)) (by decide) (backOf (W := 1) (r_ali l Z a0 hw [] s_D s_L s_LE s_E s_Z mr kd_ kl_ h3 n0 O3 G0 b3 A3 g_b3 F3_28 F3_31 F3_74) hZ (oW hw 11 rfl) (oW hw 8 rfl) (by decide) (by decide)) (g := (mkF m 108 (oA1 p1 p2 p3 m_ u0_ u1_ u2_ u3_ nd (vR (b2)) oU oU oU oU oU oU oU) [(.ref b3), (.ref b3)])) rfl (by rw [hml]; rfl) (Steps.refl _) (a := b3) (argsL := []) (rest := [(.ref b3)]) (lenOf pd_0 rfl) rfl (by exact Nat.le_of_eq rfl) (hb hby at_108) (fun _ _ => ⟨rfl, e3, (by decide : 2 + 0 ≤ _), (by decide : 7 + 0 ≤ _)⟩)
  dsimp only [Pt.U, Pt.locs, Pt.cells, Pt.slots] at X6 l6 y6 z6 st6 hQ6
  subst l6 y6 z6
  obtain ⟨rfl, N6q, Kq6, Fm6, Fe6, Fs6⟩ := hQ6
  have N6 := Fr.app N1 N6q
  have f7 := f4.keep Kq6
  have f8 := f5.keep Kq6 (oN1 ne_b2_b3)
  have f9 := A3.keep Kq6
  have O6 := O3.keep Kq6 (allS g_b3 all0)
  have K6 : Keep h0 T6.heap [] := K3.trans Kq6 (allS (Or.inr sz_b3) all0)
  have hk6 := Nat.le_trans hk3 Kq6.1
  obtain ⟨T10, h10, X10, e10, E10, A10, D10, -, st10⟩ := newO X6 hx hZ hown (oW hw 6 rfl) (oW hw 7 rfl) (oW hw 8 rfl) rfl (g := (mkF m 113 (oA1 p1 p2 p3 m_ u0_ u1_ u2_ u3_ nd (vR (b2)) (vR (b3)) oU oU oU oU oU oU) [])) rfl (hb hby at_113) (by decide) (by decide)
  obtain ⟨b10, g10⟩ := oZ T6.heap.size
  have ne_b2_b10 := oE f7.lt g10
  have ne_b3_b10 := oE f9.lt g10
  have g_b10 : n0 ≤ b10 := Nat.le_trans (O6.1 ▸ O6.2.1) (Nat.le_of_eq g10.symm)
  have sz_b10 : h0.size ≤ b10 := Nat.le_trans K6.1 (Nat.le_of_eq g10.symm)
  rw [← g10] at A10 D10 st10
  have f11 := f7.ext E10
  have f12 := f8.ext E10
  have f13 := f9.ext E10
  have f15 := Fe6.ext E10
  have f16 := Fs6.ext E10
  have O10 := O6.ext E10
  have K10 : Keep h0 h10 [] := K6.ext E10
  have hk10 := Nat.le_trans hk6 E10.1
  have F10_28 : Fld Z h10 b10 "java/util/AbstractList" "modCount" "I" (.int (0 : Int32)) := D10 (Or.inl (oW hw 28 rfl)) (ty := .int) (by decide)
  have F10_31 : Fld Z h10 b10 "java/util/ArrayList" "elementData" "[Ljava/lang/Object;" .null := D10 (Or.inl (oW hw 31 rfl)) (ty := (.array (.object "java/lang/Object"))) (by decide)
  have F10_74 : Fld Z h10 b10 "java/util/ArrayList" "size" "I" (.int (0 : Int32)) := D10 (Or.inl (oW hw 74 rfl)) (ty := .int) (by decide)
  obtain ⟨_, _, ⟨T17, L17, k17, n17⟩, -, X17, ⟨Lc17, hQ17, l17, y17, z17⟩, st17⟩ := X10.specialBack hx (y := Y2_) rfl hown (mvT hZ (oW hw 9 rfl)) (mvT hZ (oW hw 10 rfl)) (mvT hZ (oW hw 11 rfl)) (by decide) (backOf (W := 1) (r_ali l Z a0 hw [] s_D s_L s_LE s_E s_Z mr kd_ kl_ h10 n0 O10 G0 b10 A10 g_b10 F10_28 F10_31 F10_74) hZ (oW hw 11 rfl) (oW hw 8 rfl) (by decide) (by decide)) (g := (mkF m 117 (oA1 p1 p2 p3 m_ u0_ u1_ u2_ u3_ nd (vR (b2)) (vR (b3)) oU oU oU oU oU oU) [(.ref b10), (.ref b10)])) rfl (by rw [hml]; rfl) (Steps.refl _) (a := b10) (argsL := []) (rest := [(.ref b10)]) (lenOf pd_0 rfl) rfl (by exact Nat.le_of_eq rfl) (hb hby at_117) (fun _ _ => ⟨rfl, e10, (by decide : 3 + 0 ≤ _), (by decide : 10 + 0 ≤ _)⟩)
  dsimp only [Pt.U, Pt.locs, Pt.cells, Pt.slots] at X17 l17 y17 z17 st17 hQ17
  subst l17 y17 z17
  obtain ⟨rfl, N17q, Kq17, Fm17, Fe17, Fs17⟩ := hQ17
  have N17 := Fr.app N6 N17q
  have f18 := f11.keep Kq17
  have f19 := f12.keep Kq17 (oN1 ne_b2_b10)
  have f20 := f13.keep Kq17
  have f22 := f15.keep Kq17 (oN1 ne_b3_b10)
  have f23 := f16.keep Kq17 (oN1 ne_b3_b10)
  have f24 := A10.keep Kq17
  have O17 := O10.keep Kq17 (allS g_b10 all0)
  have K17 : Keep h0 T17.heap [] := K10.trans Kq17 (allS (Or.inr sz_b10) all0)
  have hk17 := Nat.le_trans hk10 Kq17.1
  obtain ⟨T25, h25, X25, e25, E25, A25, D25, -, st25⟩ := newO X17 hx hZ hown (oW hw 207 rfl) (oW hw 208 rfl) (oW hw 209 rfl) rfl (g := (mkF m 129 (oA1 p1 p2 p3 m_ u0_ u1_ u2_ u3_ nd (vR (b2)) (vR (b3)) (vR (b10)) oU oU oU oU oU) [(.ref b10)])) rfl (hb hby at_129) (by decide) (by decide)
  obtain ⟨b25, g25⟩ := oZ T17.heap.size
  have ne_b2_b25 := oE f18.lt g25
  have ne_b3_b25 := oE f20.lt g25
  have ne_b10_b25 := oE f24.lt g25
  have g_b25 : n0 ≤ b25 := Nat.le_trans (O17.1 ▸ O17.2.1) (Nat.le_of_eq g25.symm)
  have sz_b25 : h0.size ≤ b25 := Nat.le_trans K17.1 (Nat.le_of_eq g25.symm)
  rw [← g25] at A25 D25 st25
  have f26 := f18.ext E25
  have f27 := f19.ext E25
  have f28 := f20.ext E25
  have f30 := f22.ext E25
  have f31 := f23.ext E25
  have f32 := f24.ext E25
  have f33 := Fm17.ext E25
  have f34 := Fe17.ext E25
  have f35 := Fs17.ext E25
  have O25 := O17.ext E25
  have K25 : Keep h0 h25 [] := K17.ext E25
  have hk25 := Nat.le_trans hk17 E25.1
  have F25_234 : Fld Z h25 b25 "com/example/hodos/hodos/analysis/Course$Arc" "source" "I" (.int (0 : Int32)) := D25 (Or.inr (oW hw 234 rfl)) (ty := .int) (by decide)
  have F25_236 : Fld Z h25 b25 "com/example/hodos/hodos/analysis/Course$Arc" "target" "I" (.int (0 : Int32)) := D25 (Or.inr (oW hw 236 rfl)) (ty := .int) (by decide)
  have F25_238 : Fld Z h25 b25 "com/example/hodos/hodos/analysis/Course$Arc" "delay" "Lcom/example/hodos/hodos/model/Time;" .null := D25 (Or.inr (oW hw 238 rfl)) (ty := (.object "com/example/hodos/hodos/model/Time")) (by decide)
  have F25_240 : Fld Z h25 b25 "com/example/hodos/hodos/analysis/Course$Arc" "internal" "Z" (.int (0 : Int32)) := D25 (Or.inr (oW hw 240 rfl)) (ty := .boolean) (by decide)
  have F25_242 : Fld Z h25 b25 "com/example/hodos/hodos/analysis/Course$Arc" "ends" "Z" (.int (0 : Int32)) := D25 (Or.inr (oW hw 242 rfl)) (ty := .boolean) (by decide)
  have F25_244 : Fld Z h25 b25 "com/example/hodos/hodos/analysis/Course$Arc" "origin" "I" (.int (0 : Int32)) := D25 (Or.inr (oW hw 244 rfl)) (ty := .int) (by decide)
  obtain ⟨T36, X36, e36, st36⟩ := getS2 X25 hx hZ hown (host := "") (Or.inl (oW hw 210 rfl)) Via.refl e25 (S_Z.ext O25.2) (g := (mkF m 136 (oA1 p1 p2 p3 m_ u0_ u1_ u2_ u3_ nd (vR (b2)) (vR (b3)) (vR (b10)) oU oU oU oU oU) [(.int (-1 : Int32)), (.int (min u0_ m_).toInt32), (.ref b25), (.ref b25), (.ref b10)])) rfl (hb hby at_136)
  obtain ⟨_, _, ⟨T37, L37, k37, n37⟩, -, X37, S37a, z37a, ⟨Lc37, hQ37, l37, y37, z37⟩, st37⟩ := X36.specialBackS hx (y := Y22_) rfl hown (mvT hZ (oW hw 213 rfl)) (mvT hZ (oW hw 214 rfl)) (mvT hZ (oW hw 215 rfl)) (by decide) (backOfS (W := 2) (r_arc l Z a0 hw [] s_D s_L s_LE s_E s_Z mr kd_ kl_ h25 n0 O25 G0 wS b25 (min u0_ m_).toInt32 (0 : Int32) (0 : Int32) (0 : Int32) A25 g_b25 F25_234 F25_236 F25_238 F25_240 F25_242 F25_244) hZ (oW hw 215 rfl) (oW hw 209 rfl) (by decide) (by decide)) (g := (mkF m 142 (oA1 p1 p2 p3 m_ u0_ u1_ u2_ u3_ nd (vR (b2)) (vR (b3)) (vR (b10)) oU oU oU oU oU) [(.int (0 : Int32)), (.int (0 : Int32)), (.int (0 : Int32)), (.ref s_Z), (.int (-1 : Int32)), (.int (min u0_ m_).toInt32), (.ref b25), (.ref b25), (.ref b10)])) rfl (by rw [hml]; rfl) (Steps.refl _) (a := b25) (argsL := [(.int (min u0_ m_).toInt32), (.int (-1 : Int32)), (.ref s_Z), (.int (0 : Int32)), (.int (0 : Int32)), (.int (0 : Int32))]) (rest := [(.ref b25), (.ref b10)]) (lenOf pd_32 rfl) rfl (by exact Nat.le_of_eq rfl) (hb hby at_142) (fun _ _ => ⟨rfl, e36, (by decide : 4 + 2 ≤ _), (by decide : 16 + 24 ≤ _)⟩)
  dsimp only [Pt.U, Pt.locs, Pt.cells, Pt.slots] at X37 S37a z37a l37 y37 z37 st37 hQ37
  subst l37 y37 z37
  have X37 : Stand p l e room_1 (s.setVm T37.vm) m #[(.int p1), (.int p2), (.int p3)] below meth c T37 _ _ _ := X37
  have S37f : s.Since T37.vm T37.heap.size := foldS (T := T36) hS0 (by rw [e36]; exact hk25) S37a z37a
  have hZ37 : Z.Warmed39 T37.vm := State.Warmed39.trans (t := s.setVm s.vm) hZ S37a.1
  have hown37 : (s.setVm T37.vm).vm.findClass "com/example/hodos/hodos/analysis/CourseArcsFromPinLaw" = some m.cls := by rw [show (s.setVm T37.vm).vm = T37.vm from rfl, S37a.1.alike.findClass]; exact hown
  obtain ⟨rfl, N37q, Kq37, Fs37, Fo37⟩ := hQ37
  have N37 := Fr.app N17 N37q
  have f38 := f26.keep Kq37
  have f39 := f27.keep Kq37 (oN1 ne_b2_b25)
  have f40 := f28.keep Kq37
  have f42 := f30.keep Kq37 (oN1 ne_b3_b25)
  have f43 := f31.keep Kq37 (oN1 ne_b3_b25)
  have f44 := f32.keep Kq37
  have f45 := f33.keep Kq37 (oN1 ne_b10_b25)
  have f46 := f34.keep Kq37 (oN1 ne_b10_b25)
  have f47 := f35.keep Kq37 (oN1 ne_b10_b25)
  have f48 := A25.keep Kq37
  have O37 := O25.keep Kq37 (allS g_b25 all0)
  have K37 : Keep h0 T37.heap [] := K25.trans Kq37 (allS (Or.inr sz_b25) all0)
  obtain ⟨cq49, kq49, q49a, q49b, q49c⟩ := isOf hZ37 rfl f44
  obtain ⟨_, _, ⟨T49, L49, k49, n49⟩, -, X49, ⟨Lc49, hQ49, l49, y49, z49⟩, st49⟩ := X37.virtualBack hx (y := Y7_) (z := Y7_) hown37 (mvT hZ37 (oW hw 245 rfl)) (mvT hZ37 (oW hw 246 rfl)) (notFace_of_selects (args := #[]) (mvT hZ37 (oW hw 248 rfl))) (mvT hZ37 (oW hw 248 rfl)) (mvT hZ37 (oW hw 247 rfl)) (by decide) (backOf (W := 0) (r_add0 l Z a0 hw [] s_D s_L s_LE s_E s_Z mr kd_ kl_ T37.heap n0 O37 G0 b10 (0 : Int32) b25 f44 f45 f46 f47 g_b10 f48) hZ37 (oW hw 249 rfl) (oW hw 8 rfl) (by decide) (by decide)) q49a q49c (g := (mkF m 145 (oA1 p1 p2 p3 m_ u0_ u1_ u2_ u3_ nd (vR (b2)) (vR (b3)) (vR (b10)) oU oU oU oU oU) [(.ref b25), (.ref b10)])) rfl (by rw [hml]; rfl) (Steps.refl _) (argsL := [(.ref b25)]) (rest := []) (lenOf pd_33 rfl) rfl (by exact Nat.le_of_eq rfl) (hb hby at_145) (fun _ _ => ⟨rfl, rfl, (by decide : 6 + 1 ≤ _), (by decide : 40 + 10 ≤ _)⟩)
  dsimp only [Pt.U, Pt.locs, Pt.cells, Pt.slots] at X49 l49 y49 z49 st49 hQ49
  subst l49 y49 z49
  obtain ⟨t49, kt49, rfl, N49q, Kq49, gt49, Fm49, Fe49, Fs49, Et49, Vt49, Ot49⟩ := hQ49
  have N49 := Fr.app N37 N49q
  have f50 := f38.keep Kq49
  have f51 := f39.keep Kq49 (oN1 ne_b2_b10)
  have f52 := f40.keep Kq49
  have f54 := f42.keep Kq49 (oN1 ne_b3_b10)
  have f55 := f43.keep Kq49 (oN1 ne_b3_b10)
  have f56 := f44.keep Kq49
  have f57 := f48.keep Kq49
  have f58 := Fs37.keep Kq49 (oN1 (Ne.symm ne_b10_b25))
  have f59 := Fo37.keep Kq49 (oN1 (Ne.symm ne_b10_b25))
  have O49 := O37.keep Kq49 (allS g_b10 all0)
  have K49 : Keep h0 T49.heap [] := K37.trans Kq49 (allS (Or.inr sz_b10) all0)
  have hk49 := Nat.le_trans (Nat.le_refl _) Kq49.1
  obtain ⟨T60, h60, X60, e60, E60, A60, D60, -, st60⟩ := newO X49 hx hZ37 hown37 (oW hw 32 rfl) (oW hw 33 rfl) (oW hw 34 rfl) rfl (g := (mkF m 233 (oA1 p1 p2 p3 m_ u0_ u1_ u2_ u3_ nd (vR (b2)) (vR (b3)) (vR (b10)) oU oU oU oU oU) [])) rfl (hb hby at_233) (by decide) (by decide)
  obtain ⟨b60, g60⟩ := oZ T49.heap.size
  have ne_b25_b60 := oE f57.lt g60
  have g_b60 : n0 ≤ b60 := Nat.le_trans (O49.1 ▸ O49.2.1) (Nat.le_of_eq g60.symm)
  have sz_b60 : h0.size ≤ b60 := Nat.le_trans K49.1 (Nat.le_of_eq g60.symm)
  rw [← g60] at A60 D60 st60
  have f61 := f50.ext E60
  have f62 := f51.ext E60
  have f63 := f52.ext E60
  have f65 := f54.ext E60
  have f66 := f55.ext E60
  have f67 := f56.ext E60
  have f68 := f57.ext E60
  have f69 := f58.ext E60
  have f70 := f59.ext E60
  have f71 := Et49.ext E60
  have f72 := Vt49.ext E60
  have f74 := Fe49.ext E60
  have f75 := Fs49.ext E60
  have O60 := O49.ext E60
  have K60 : Keep h0 h60 [] := K49.ext E60
  have hk60 := Nat.le_trans hk49 E60.1
  have F60_49 : Fld Z h60 b60 "com/example/hodos/hodos/analysis/Course" "stops" "[Z" .null := D60 (Or.inr (oW hw 49 rfl)) (ty := (.array .boolean)) (by decide)
  have F60_80 : Fld Z h60 b60 "com/example/hodos/hodos/analysis/Course" "starts" "Ljava/util/List;" .null := D60 (Or.inr (oW hw 80 rfl)) (ty := (.object "java/util/List")) (by decide)
  have F60_82 : Fld Z h60 b60 "com/example/hodos/hodos/analysis/Course" "arcs" "Ljava/util/List;" .null := D60 (Or.inr (oW hw 82 rfl)) (ty := (.object "java/util/List")) (by decide)
  have F60_136 : Fld Z h60 b60 "com/example/hodos/hodos/analysis/Course" "firstArc" "[I" .null := D60 (Or.inr (oW hw 136 rfl)) (ty := (.array .int)) (by decide)
  obtain ⟨_, _, ⟨T76, L76, k76, n76⟩, -, X76, ⟨Lc76, hQ76, l76, y76, z76⟩, st76⟩ := X60.specialBack hx (y := Y45_) rfl hown37 (mvT hZ37 (oW hw 35 rfl)) (mvT hZ37 (oW hw 36 rfl)) (mvT hZ37 (oW hw 37 rfl)) (by decide) (backOf (W := 1) (r_coi1 l Z a0 hw [] s_D s_L s_LE s_E s_Z mr kd_ kl_ h60 n0 O60 G0 b60 b2 b3 b10 ka2 [] (m_ + 1) [(min u0_ m_)] t49 kt49 [b25] A60 g_b60 F60_49 F60_80 F60_82 F60_136 f61 f62 hN5 f63 f65 f66 f67 f74 f75 f71 f72 (Nat.le_of_ble_eq_true rfl) (Nat.le_of_ble_eq_true rfl) (fun q => absurd q (Nat.lt_irrefl 1)) (own_arcs1 f68 f69 f70) (own_hss1 (Nat.lt_succ_of_le own_mn))) hZ37 (oW hw 37 rfl) (oW hw 34 rfl) (by decide) (by decide)) (g := (mkF m 243 (oA1 p1 p2 p3 m_ u0_ u1_ u2_ u3_ nd (vR (b2)) (vR (b3)) (vR (b10)) oU oU oU oU oU) [(.ref b10), (.ref b3), (.ref b2), (.ref b60), (.ref b60)])) rfl (by rw [hml]; rfl) (Steps.refl _) (a := b60) (argsL := [(.ref b2), (.ref b3), (.ref b10)]) (rest := [(.ref b60)]) (lenOf pd_30 rfl) rfl (by exact Nat.le_of_eq rfl) (hb hby at_243) (fun _ _ => ⟨rfl, e60, (by decide : 8 + 6 ≤ _), (by decide : 54 + 23 ≤ _)⟩)
  dsimp only [Pt.U, Pt.locs, Pt.cells, Pt.slots] at X76 l76 y76 z76 st76 hQ76
  subst l76 y76 z76
  obtain ⟨rfl, N76q, Kq76, Co76⟩ := hQ76
  have N76 := Fr.app N49 N76q
  have f84 := f68.keep Kq76
  have f85 := f69.keep Kq76 (oN1 ne_b25_b60)
  have f86 := f70.keep Kq76 (oN1 ne_b25_b60)
  have f92 := A60.keep Kq76
  have O76 := O60.keep Kq76 (allS g_b60 all0)
  have K76 : Keep h0 T76.heap [] := K60.trans Kq76 (allS (Or.inr sz_b60) all0)
  have hk76 := Nat.le_trans hk60 Kq76.1
  obtain ⟨cq93, kq93, q93a, q93b, q93c⟩ := isOf hZ37 rfl f92
  obtain ⟨_, _, ⟨T93, L93, k93, n93⟩, -, X93, ⟨Lc93, hQ93, l93, y93, z93⟩, st93⟩ := X76.virtualBack hx (y := Y52_) (z := Y52_) hown37 (mvT hZ37 (oW hw 137 rfl)) (mvT hZ37 (oW hw 138 rfl)) (notFace_of_selects (args := #[]) (mvT hZ37 (oW hw 140 rfl))) (mvT hZ37 (oW hw 140 rfl)) (mvT hZ37 (oW hw 139 rfl)) (by decide) (backOf (W := 0) (r_af l Z a0 hw [] s_D s_L s_LE s_E s_Z mr kd_ kl_ T76.heap n0 O76 G0 b60 (m_ + 1) nd [b25] [(min u0_ m_)] Co76 hN5 hnd1 rfl (Nat.le_of_ble_eq_true rfl)) hZ37 (oW hw 141 rfl) (oW hw 34 rfl) (by decide) (by decide)) q93a q93c (g := (mkF m 252 (oA1 p1 p2 p3 m_ u0_ u1_ u2_ u3_ nd (vR (b2)) (vR (b3)) (vR (b10)) (vR (b60)) oU oU oU oU) [(.int nd.toInt32), (.ref b60)])) rfl (by rw [hml]; rfl) (Steps.refl _) (argsL := [(.int nd.toInt32)]) (rest := []) (lenOf pd_31 rfl) rfl (by exact Nat.le_of_eq rfl) (hb hby at_252) (fun _ _ => ⟨rfl, rfl, (by decide : 14 + 1 ≤ _), (by decide : 77 + 3 ≤ _)⟩)
  dsimp only [Pt.U, Pt.locs, Pt.cells, Pt.slots] at X93 l93 y93 z93 st93 hQ93
  subst l93 y93 z93
  obtain ⟨la93, Iq93, ta93, rfl, N93q, Kq93, Sl93⟩ := hQ93
  have N93 := Fr.app N76 N93q
  have f101 := f84.keep Kq93
  have f102 := f85.keep Kq93 (fun q => nomatch q)
  have f103 := f86.keep Kq93 (fun q => nomatch q)
  have O93 := O76.keep Kq93 all0
  have K93 : Keep h0 T93.heap [] := K76.trans Kq93 all0
  have hk93 := Nat.le_trans hk76 Kq93.1
  obtain ⟨T110, h110, L110, X110, e110, N110, O110, q110h, st110⟩ := t_ls s_D s_L s_LE s_E s_Z mr kd_ kl_ p1 p2 p3 (m_ + 1).toInt32 u0_.toInt32 (u0_ + u1_).toInt32 (u0_ + u1_ + u2_).toInt32 (u0_ + u1_ + u2_ + u3_).toInt32 1 (min u0_ m_) (min (u0_ + u1_) m_) (min (u0_ + u1_ + u2_) m_) (min (u0_ + u1_ + u2_ + u3_) m_) nd b2 b3 b10 b60 ta93 la93 [b25] [(min u0_ m_)] 15 80 (by decide) (by decide) X93 hx hZ37 hw hby hml hown37 rfl N93 O93 G0 Sl93 (own_IL_keep Kq93 Iq93) (own_arcs1 f101 f102 f103) (Nat.le_of_ble_eq_true rfl) rfl (by decide) hnd4 (Nat.le_trans own_mn (Nat.le_trans hm3 (by decide))) (Nat.le_trans own_mn (Nat.le_trans hm3 (by decide))) (Nat.le_trans own_mn (Nat.le_trans hm3 (by decide))) (Nat.le_trans own_mn (Nat.le_trans hm3 (by decide)))
  obtain rfl : T93.heap = h110 := q110h.symm
  obtain ⟨fs, hr, hrun, hended, hRW⟩ := X110.leaveW S37f (by rw [e110]; exact hk93) (v := some (.int (1 : Int32))) (oR Bd.returns)
  refine ⟨_, _, pre0 _ ?_, hrun, hended, _, _, rfl, ?_, hRW.1, hRW.2.1, hRW.2.2.1, hRW.2.2.2.mono (by decide) (by decide)⟩
  · show own_St p e below s₁ m 0 #[vI (p1), vI (p2), vI (p3), .unset, .unset, .unset, .unset, .unset, .unset, .unset, .unset, .unset, .unset, .unset, .unset, .unset, .unset, .unset, .unset, .unset, .unset, .unset] [] _
    refine st1 _ ?_
    show own_St p e below T1 m 99 (oA1 p1 p2 p3 m_ u0_ u1_ u2_ u3_ nd oU oU oU oU oU oU oU oU) [] _
    refine XS.iloadN X1.here hx rfl (hb hby at_99) rfl ?_
    refine st2 _ ?_
    show own_St p e below T2 m 102 (oA1 p1 p2 p3 m_ u0_ u1_ u2_ u3_ nd oU oU oU oU oU oU oU oU) [(.ref b2)] _
    refine XS.astore X2.here hx rfl (hb hby at_102) rfl rfl (l' := (oA1 p1 p2 p3 m_ u0_ u1_ u2_ u3_ nd (vR (b2)) oU oU oU oU oU oU oU)) rfl ?_
    refine st3 _ ?_
    show own_St p e below T3 m 107 (oA1 p1 p2 p3 m_ u0_ u1_ u2_ u3_ nd (vR (b2)) oU oU oU oU oU oU oU) [(.ref b3)] _
    refine XS.dup X3.here hx rfl (hb hby at_107) rfl rfl ?_
    refine st6.trans ?_
    show own_St p e below T6 m 111 (oA1 p1 p2 p3 m_ u0_ u1_ u2_ u3_ nd (vR (b2)) oU oU oU oU oU oU oU) [(.ref b3)] _
    refine XS.astore X6.here hx rfl (hb hby at_111) rfl rfl (l' := (oA1 p1 p2 p3 m_ u0_ u1_ u2_ u3_ nd (vR (b2)) (vR (b3)) oU oU oU oU oU oU)) rfl ?_
    refine st10 _ ?_
    show own_St p e below T10 m 116 (oA1 p1 p2 p3 m_ u0_ u1_ u2_ u3_ nd (vR (b2)) (vR (b3)) oU oU oU oU oU oU) [(.ref b10)] _
    refine XS.dup X10.here hx rfl (hb hby at_116) rfl rfl ?_
    refine st17.trans ?_
    show own_St p e below T17 m 120 (oA1 p1 p2 p3 m_ u0_ u1_ u2_ u3_ nd (vR (b2)) (vR (b3)) oU oU oU oU oU oU) [(.ref b10)] _
    refine XS.astore X17.here hx rfl (hb hby at_120) rfl rfl (l' := (oA1 p1 p2 p3 m_ u0_ u1_ u2_ u3_ nd (vR (b2)) (vR (b3)) (vR (b10)) oU oU oU oU oU)) rfl ?_
    refine XS.iload X17.here hx rfl (hb hby at_122) rfl ?_
    refine XS.ifNo X17.here hx rfl (hb hby at_124) rfl ((if0 _ _).trans (tlt (by decide : (0 : Int32) < (1 : Int32))).2.2.2) ?_
    refine XS.aload X17.here hx rfl (hb hby at_127) rfl rfl ?_
    refine st25 _ ?_
    show own_St p e below T25 m 132 (oA1 p1 p2 p3 m_ u0_ u1_ u2_ u3_ nd (vR (b2)) (vR (b3)) (vR (b10)) oU oU oU oU oU) [(.ref b25), (.ref b10)] _
    refine XS.dup X25.here hx rfl (hb hby at_132) rfl rfl ?_
    refine XS.iload X25.here hx rfl (hb hby at_133) rfl ?_
    refine XS.iconst X25.here hx rfl (hb hby at_135) ?_
    refine st36 _ ?_
    show own_St p e below T36 m 139 (oA1 p1 p2 p3 m_ u0_ u1_ u2_ u3_ nd (vR (b2)) (vR (b3)) (vR (b10)) oU oU oU oU oU) [(.ref s_Z), (.int (-1 : Int32)), (.int (min u0_ m_).toInt32), (.ref b25), (.ref b25), (.ref b10)] _
    refine XS.iconst X36.here hx rfl (hb hby at_139) ?_
    refine XS.iconst X36.here hx rfl (hb hby at_140) ?_
    refine XS.iconst X36.here hx rfl (hb hby at_141) ?_
    refine st37.trans ?_
    refine st49.trans ?_
    show own_St p e below T49 m 148 (oA1 p1 p2 p3 m_ u0_ u1_ u2_ u3_ nd (vR (b2)) (vR (b3)) (vR (b10)) oU oU oU oU oU) [(.int (1 : Int32))] _
    refine XS.pop X49.here hx rfl (hb hby at_148) rfl rfl ?_
    show own_St p e below T49 m 149 (oA1 p1 p2 p3 m_ u0_ u1_ u2_ u3_ nd (vR (b2)) (vR (b3)) (vR (b10)) oU oU oU oU oU) [] _
    refine XS.iload X49.here hx rfl (hb hby at_149) rfl ?_
    refine XS.iconst X49.here hx rfl (hb hby at_151) ?_
    refine XS.icmpYes X49.here hx rfl (pc0 := 152) (pc' := 177) rfl (hb hby at_152) rfl (flt (by decide : ¬ ((1 : Int32) < (1 : Int32)))).2.2.2 (by decide) (by decide) ?_
    refine XS.iload X49.here hx rfl (hb hby at_177) rfl ?_
    refine XS.iconst X49.here hx rfl (hb hby at_179) ?_
    refine XS.icmpYes X49.here hx rfl (pc0 := 180) (pc' := 205) rfl (hb hby at_180) rfl (flt (by decide : ¬ ((2 : Int32) < (1 : Int32)))).2.2.2 (by decide) (by decide) ?_
    refine XS.iload X49.here hx rfl (hb hby at_205) rfl ?_
    refine XS.iconst X49.here hx rfl (hb hby at_207) ?_
    refine XS.icmpYes X49.here hx rfl (pc0 := 208) (pc' := 233) rfl (hb hby at_208) rfl (flt (by decide : ¬ ((3 : Int32) < (1 : Int32)))).2.2.2 (by decide) (by decide) ?_
    refine st60 _ ?_
    show own_St p e below T60 m 236 (oA1 p1 p2 p3 m_ u0_ u1_ u2_ u3_ nd (vR (b2)) (vR (b3)) (vR (b10)) oU oU oU oU oU) [(.ref b60)] _
    refine XS.dup X60.here hx rfl (hb hby at_236) rfl rfl ?_
    refine XS.aload X60.here hx rfl (hb hby at_237) rfl rfl ?_
    refine XS.aload X60.here hx rfl (hb hby at_239) rfl rfl ?_
    refine XS.aload X60.here hx rfl (hb hby at_241) rfl rfl ?_
    refine st76.trans ?_
    show own_St p e below T76 m 246 (oA1 p1 p2 p3 m_ u0_ u1_ u2_ u3_ nd (vR (b2)) (vR (b3)) (vR (b10)) oU oU oU oU oU) [(.ref b60)] _
    refine XS.astore X76.here hx rfl (hb hby at_246) rfl rfl (l' := (oA1 p1 p2 p3 m_ u0_ u1_ u2_ u3_ nd (vR (b2)) (vR (b3)) (vR (b10)) (vR (b60)) oU oU oU oU)) rfl ?_
    refine XS.aload X76.here hx rfl (hb hby at_248) rfl rfl ?_
    refine XS.iload X76.here hx rfl (hb hby at_250) rfl ?_
    refine st93.trans ?_
    show own_St p e below T93 m 255 (oA1 p1 p2 p3 m_ u0_ u1_ u2_ u3_ nd (vR (b2)) (vR (b3)) (vR (b10)) (vR (b60)) oU oU oU oU) [(.ref ta93)] _
    refine XS.astore X93.here hx rfl (hb hby at_255) rfl rfl (l' := (oA1 p1 p2 p3 m_ u0_ u1_ u2_ u3_ nd (vR (b2)) (vR (b3)) (vR (b10)) (vR (b60)) (vR (ta93)) oU oU oU)) rfl ?_
    refine st110 _ ?_
    show own_St p e below T110 m 433 (oA1 p1 p2 p3 m_ u0_ u1_ u2_ u3_ nd (vR (b2)) (vR (b3)) (vR (b10)) (vR (b60)) (vR (ta93)) (vI ((own_ct [(min u0_ m_)] nd).toInt32)) (vI ((own_ct [(min u0_ m_)] (nd + 1)).toInt32)) (vI ((own_ct [(min u0_ m_)] (nd + 1) - own_ct [(min u0_ m_)] nd).toInt32))) [(.int (1 : Int32))] _
    exact retN X110 hx (t := .boolean) Bd.returns (by simp) (hb hby at_433) hr
  · show own_Qk (some (.int (1 : Int32))) [] h0 n0 _ T110.heap _
    rw [e110]
    exact ⟨rfl, N110, K93⟩
theorem r_law2 (l Z a0) (hw : own_HW a0 Z) (ws s_D s_L s_LE s_E s_Z mr kd_ kl_ h0 n0) (O0 : Old Z n0 h0) (G : own_Ctx Z Z.heap s_D s_L s_LE s_E s_Z mr kd_ kl_) (wS : ∀ a ∈ Bundle.stringAtoms, a.before a0 Z = true) (p1 p2 p3 : Int32) (m_ u0_ u1_ u2_ u3_ nd : Nat) (hm : p1 &&& (3 : Int32) = m_.toInt32) (hm3 : m_ ≤ 3) (hk : ((p1.toUInt32 >>> ((2 : Int32) &&& 31).toUInt32).toInt32) % (5 : Int32) = (2 : Int32)) (hu0 : (((p2.toUInt32 >>> ((0 : Int32) &&& 31).toUInt32).toInt32) &&& (3 : Int32)) = u0_.toInt32) (hv0 : u0_ ≤ 3) (hu1 : (((p2.toUInt32 >>> ((2 : Int32) &&& 31).toUInt32).toInt32) &&& (3 : Int32)) = u1_.toInt32) (hv1 : u1_ ≤ 3) (hu2 : (((p2.toUInt32 >>> ((4 : Int32) &&& 31).toUInt32).toInt32) &&& (3 : Int32)) = u2_.toInt32) (hv2 : u2_ ≤ 3) (hu3 : (((p2.toUInt32 >>> ((6 : Int32) &&& 31).toUInt32).toInt32) &&& (3 : Int32)) = u3_.toInt32) (hv3 : u3_ ≤ 3) (hnd : (p3 &&& (2147483647 : Int32)) % (m_ + 1).toInt32 = nd.toInt32) (hnd1 : nd < m_ + 1) :
    MetFree l x (head1 (Jvm.Cond.code x code maxLocals ret :: ws) room_1) (fun a U => a = #[(.int p1), (.int p2), (.int p3)] ∧ Z.Warmed39 U.vm ∧ U.heap = h0) (fun _ _ _ _ _ => True) (fun _ U o U' => ∃ v L, o = .returned v ∧ own_Qk (some (.int (1 : Int32))) [] h0 n0 v U'.heap L ∧ ReturnedEndW U o U' L 48 1280) := by
  have G0 := G
  obtain ⟨S_D, E_D, V_D, S_L, E_L, F_L, V_L, S_E, E_E, S_A, S_Z, E_Z, M_A⟩ := G
  refine MetFree.of_bodySF (plainFor_of_name pn_18) hisR ?_
  intro p e s m args below meth c s₁ Bd hml0 hP hK
  obtain ⟨rfl, hZ, hh⟩ := hP
  have hx := Bd.exec
  have hby := Bd.bytes
  have hml : c.maxLocals = 22 := hml0
  have hown := findClass_of_methodNamed Bd.named
  have X0 : Stand p l e room_1 (s.setVm s.vm) m #[(.int p1), (.int p2), (.int p3)] below meth c s₁ [] 0 0 := Stand.of_body Bd
  have e0 : s₁.heap = h0 := by rw [← hh, Bd.state]; rfl
  have N0 := Fr.nil n0
  have hS0 : s.Since s.vm h0.size := State.WarmedH.since (State.WarmedH.refl s) _
  have hk0 : h0.size ≤ h0.size := Nat.le_refl _
  have pre0 := own_pre (tb := p.tables) (e := e) (below := below) (T := s₁) (ef_0_50 m p1 p2 p3)
  have hN5 : m_ + 1 ≤ 4 := by omega
  have hnd4 : nd ≤ 4 := by omega
  obtain ⟨T1, h1, L1, X1, e1, N1, O1, q1h, st1⟩ := t_lp s_D s_L s_LE s_E s_Z mr kd_ kl_ p1 p2 p3 (2 : Int32) m_ u0_ u1_ u2_ u3_ nd 0 0 (by decide) (by decide) X0 hx hZ hw hby hml hown e0 N0 O0 G0 hm hm3 hk hu0 hv0 hu1 hv1 hu2 hv2 hu3 hv3 hnd
  obtain rfl : h0 = h1 := q1h.symm
  obtain ⟨T2, h2, ka2, X2, e2, E2, A2, B2, st2⟩ := newPE X1 hx hZ (oW hw 5 rfl) e1 (g := (mkF m 100 (oA2 p1 p2 p3 m_ u0_ u1_ u2_ u3_ nd oU oU oU oU oU oU oU oU) [(.int (m_ + 1).toInt32)])) rfl (hb hby at_100) rfl (own_ti (own_k hN5)).2.1 (cap := 4) (own_capn hN5) (by decide) (by decide) (by decide) (ad := "[Z") rfl
  obtain ⟨b2, g2⟩ := oZ h0.size
  rw [← g2] at A2 B2 st2
  have O2 := O1.ext E2
  have K2 : Keep h0 h2 [] := (Keep.refl h0 []).ext E2
  have hk2 := Nat.le_trans hk0 E2.1
  have V2 : Arv Z h2 b2 ka2 .boolean (m_ + 1).toInt32 [] (.int (0 : Int32)) := Arv.new A2 (own_ti (own_k hN5)).2.1
  obtain ⟨T3, h3, X3, e3, E3, A3, D3, -, st3⟩ := newO X2 hx hZ hown (oW hw 6 rfl) (oW hw 7 rfl) (oW hw 8 rfl) e2 (g := (mkF m 104 (oA2 p1 p2 p3 m_ u0_ u1_ u2_ u3_ nd (vR (b2)) oU oU oU oU oU oU oU) [])) rfl (hb hby at_104) (by decide) (by decide)
  obtain ⟨b3, g3⟩ := oZ h2.size
  have ne_b2_b3 := oE B2.lt g3
  have g_b3 : n0 ≤ b3 := Nat.le_trans (O2.1 ▸ O2.2.1) (Nat.le_of_eq g3.symm)
  have sz_b3 : h0.size ≤ b3 := Nat.le_trans K2.1 (Nat.le_of_eq g3.symm)
  rw [← g3] at A3 D3 st3
  have f4 := B2.ext E3
  have f5 := V2.ext E3
  have O3 := O2.ext E3
  have K3 : Keep h0 h3 [] := K2.ext E3
  have hk3 := Nat.le_trans hk2 E3.1
  have F3_28 : Fld Z h3 b3 "java/util/AbstractList" "modCount" "I" (.int (0 : Int32)) := D3 (Or.inl (oW hw 28 rfl)) (ty := .int) (by decide)
  have F3_31 : Fld Z h3 b3 "java/util/ArrayList" "elementData" "[Ljava/lang/Object;" .null := D3 (Or.inl (oW hw 31 rfl)) (ty := (.array (.object "java/lang/Object"))) (by decide)
  have F3_74 : Fld Z h3 b3 "java/util/ArrayList" "size" "I" (.int (0 : Int32)) := D3 (Or.inl (oW hw 74 rfl)) (ty := .int) (by decide)
  obtain ⟨_, _, ⟨T6, L6, k6, n6⟩, -, X6, ⟨Lc6, hQ6, l6, y6, z6⟩, st6⟩ := X3.specialBack hx (y := Y2_) rfl hown (mvT hZ (oW hw 9 rfl)) (mvT hZ (oW hw 10 rfl)) (mvT hZ (oW hw 11 rfl)) (by decide) (backOf (W := 1) (r_ali l Z a0 hw [] s_D s_L s_LE s_E s_Z mr kd_ kl_ h3 n0 O3 G0 b3 A3 g_b3 F3_28 F3_31 F3_74) hZ (oW hw 11 rfl) (oW hw 8 rfl) (by decide) (by decide)) (g := (mkF m 108 (oA2 p1 p2 p3 m_ u0_ u1_ u2_ u3_ nd (vR (b2)) oU oU oU oU oU oU oU) [(.ref b3), (.ref b3)])) rfl (by rw [hml]; rfl) (Steps.refl _) (a := b3) (argsL := []) (rest := [(.ref b3)]) (lenOf pd_0 rfl) rfl (by exact Nat.le_of_eq rfl) (hb hby at_108) (fun _ _ => ⟨rfl, e3, (by decide : 2 + 0 ≤ _), (by decide : 7 + 0 ≤ _)⟩)
  dsimp only [Pt.U, Pt.locs, Pt.cells, Pt.slots] at X6 l6 y6 z6 st6 hQ6
  subst l6 y6 z6
  obtain ⟨rfl, N6q, Kq6, Fm6, Fe6, Fs6⟩ := hQ6
  have N6 := Fr.app N1 N6q
  have f7 := f4.keep Kq6
  have f8 := f5.keep Kq6 (oN1 ne_b2_b3)
  have f9 := A3.keep Kq6
  have O6 := O3.keep Kq6 (allS g_b3 all0)
  have K6 : Keep h0 T6.heap [] := K3.trans Kq6 (allS (Or.inr sz_b3) all0)
  have hk6 := Nat.le_trans hk3 Kq6.1
  obtain ⟨T10, h10, X10, e10, E10, A10, D10, -, st10⟩ := newO X6 hx hZ hown (oW hw 6 rfl) (oW hw 7 rfl) (oW hw 8 rfl) rfl (g := (mkF m 113 (oA2 p1 p2 p3 m_ u0_ u1_ u2_ u3_ nd (vR (b2)) (vR (b3)) oU oU oU oU oU oU) [])) rfl (hb hby at_113) (by decide) (by decide)
  obtain ⟨b10, g10⟩ := oZ T6.heap.size
  have ne_b2_b10 := oE f7.lt g10
  have ne_b3_b10 := oE f9.lt g10
  have g_b10 : n0 ≤ b10 := Nat.le_trans (O6.1 ▸ O6.2.1) (Nat.le_of_eq g10.symm)
  have sz_b10 : h0.size ≤ b10 := Nat.le_trans K6.1 (Nat.le_of_eq g10.symm)
  rw [← g10] at A10 D10 st10
  have f11 := f7.ext E10
  have f12 := f8.ext E10
  have f13 := f9.ext E10
  have f15 := Fe6.ext E10
  have f16 := Fs6.ext E10
  have O10 := O6.ext E10
  have K10 : Keep h0 h10 [] := K6.ext E10
  have hk10 := Nat.le_trans hk6 E10.1
  have F10_28 : Fld Z h10 b10 "java/util/AbstractList" "modCount" "I" (.int (0 : Int32)) := D10 (Or.inl (oW hw 28 rfl)) (ty := .int) (by decide)
  have F10_31 : Fld Z h10 b10 "java/util/ArrayList" "elementData" "[Ljava/lang/Object;" .null := D10 (Or.inl (oW hw 31 rfl)) (ty := (.array (.object "java/lang/Object"))) (by decide)
  have F10_74 : Fld Z h10 b10 "java/util/ArrayList" "size" "I" (.int (0 : Int32)) := D10 (Or.inl (oW hw 74 rfl)) (ty := .int) (by decide)
  obtain ⟨_, _, ⟨T17, L17, k17, n17⟩, -, X17, ⟨Lc17, hQ17, l17, y17, z17⟩, st17⟩ := X10.specialBack hx (y := Y2_) rfl hown (mvT hZ (oW hw 9 rfl)) (mvT hZ (oW hw 10 rfl)) (mvT hZ (oW hw 11 rfl)) (by decide) (backOf (W := 1) (r_ali l Z a0 hw [] s_D s_L s_LE s_E s_Z mr kd_ kl_ h10 n0 O10 G0 b10 A10 g_b10 F10_28 F10_31 F10_74) hZ (oW hw 11 rfl) (oW hw 8 rfl) (by decide) (by decide)) (g := (mkF m 117 (oA2 p1 p2 p3 m_ u0_ u1_ u2_ u3_ nd (vR (b2)) (vR (b3)) oU oU oU oU oU oU) [(.ref b10), (.ref b10)])) rfl (by rw [hml]; rfl) (Steps.refl _) (a := b10) (argsL := []) (rest := [(.ref b10)]) (lenOf pd_0 rfl) rfl (by exact Nat.le_of_eq rfl) (hb hby at_117) (fun _ _ => ⟨rfl, e10, (by decide : 3 + 0 ≤ _), (by decide : 10 + 0 ≤ _)⟩)
  dsimp only [Pt.U, Pt.locs, Pt.cells, Pt.slots] at X17 l17 y17 z17 st17 hQ17
  subst l17 y17 z17
  obtain ⟨rfl, N17q, Kq17, Fm17, Fe17, Fs17⟩ := hQ17
  have N17 := Fr.app N6 N17q
  have f18 := f11.keep Kq17
  have f19 := f12.keep Kq17 (oN1 ne_b2_b10)
  have f20 := f13.keep Kq17
  have f22 := f15.keep Kq17 (oN1 ne_b3_b10)
  have f23 := f16.keep Kq17 (oN1 ne_b3_b10)
  have f24 := A10.keep Kq17
  have O17 := O10.keep Kq17 (allS g_b10 all0)
  have K17 : Keep h0 T17.heap [] := K10.trans Kq17 (allS (Or.inr sz_b10) all0)
  have hk17 := Nat.le_trans hk10 Kq17.1
  obtain ⟨T25, h25, X25, e25, E25, A25, D25, -, st25⟩ := newO X17 hx hZ hown (oW hw 207 rfl) (oW hw 208 rfl) (oW hw 209 rfl) rfl (g := (mkF m 129 (oA2 p1 p2 p3 m_ u0_ u1_ u2_ u3_ nd (vR (b2)) (vR (b3)) (vR (b10)) oU oU oU oU oU) [(.ref b10)])) rfl (hb hby at_129) (by decide) (by decide)
  obtain ⟨b25, g25⟩ := oZ T17.heap.size
  have ne_b2_b25 := oE f18.lt g25
  have ne_b3_b25 := oE f20.lt g25
  have ne_b10_b25 := oE f24.lt g25
  have g_b25 : n0 ≤ b25 := Nat.le_trans (O17.1 ▸ O17.2.1) (Nat.le_of_eq g25.symm)
  have sz_b25 : h0.size ≤ b25 := Nat.le_trans K17.1 (Nat.le_of_eq g25.symm)
  rw [← g25] at A25 D25 st25
  have f26 := f18.ext E25
  have f27 := f19.ext E25
  have f28 := f20.ext E25
  have f30 := f22.ext E25
  have f31 := f23.ext E25
  have f32 := f24.ext E25
  have f33 := Fm17.ext E25
  have f34 := Fe17.ext E25
  have f35 := Fs17.ext E25
  have O25 := O17.ext E25
  have K25 : Keep h0 h25 [] := K17.ext E25
  have hk25 := Nat.le_trans hk17 E25.1
  have F25_234 : Fld Z h25 b25 "com/example/hodos/hodos/analysis/Course$Arc" "source" "I" (.int (0 : Int32)) := D25 (Or.inr (oW hw 234 rfl)) (ty := .int) (by decide)
  have F25_236 : Fld Z h25 b25 "com/example/hodos/hodos/analysis/Course$Arc" "target" "I" (.int (0 : Int32)) := D25 (Or.inr (oW hw 236 rfl)) (ty := .int) (by decide)
  have F25_238 : Fld Z h25 b25 "com/example/hodos/hodos/analysis/Course$Arc" "delay" "Lcom/example/hodos/hodos/model/Time;" .null := D25 (Or.inr (oW hw 238 rfl)) (ty := (.object "com/example/hodos/hodos/model/Time")) (by decide)
  have F25_240 : Fld Z h25 b25 "com/example/hodos/hodos/analysis/Course$Arc" "internal" "Z" (.int (0 : Int32)) := D25 (Or.inr (oW hw 240 rfl)) (ty := .boolean) (by decide)
  have F25_242 : Fld Z h25 b25 "com/example/hodos/hodos/analysis/Course$Arc" "ends" "Z" (.int (0 : Int32)) := D25 (Or.inr (oW hw 242 rfl)) (ty := .boolean) (by decide)
  have F25_244 : Fld Z h25 b25 "com/example/hodos/hodos/analysis/Course$Arc" "origin" "I" (.int (0 : Int32)) := D25 (Or.inr (oW hw 244 rfl)) (ty := .int) (by decide)
  obtain ⟨T36, X36, e36, st36⟩ := getS2 X25 hx hZ hown (host := "") (Or.inl (oW hw 210 rfl)) Via.refl e25 (S_Z.ext O25.2) (g := (mkF m 136 (oA2 p1 p2 p3 m_ u0_ u1_ u2_ u3_ nd (vR (b2)) (vR (b3)) (vR (b10)) oU oU oU oU oU) [(.int (-1 : Int32)), (.int (min u0_ m_).toInt32), (.ref b25), (.ref b25), (.ref b10)])) rfl (hb hby at_136)
  obtain ⟨_, _, ⟨T37, L37, k37, n37⟩, -, X37, S37a, z37a, ⟨Lc37, hQ37, l37, y37, z37⟩, st37⟩ := X36.specialBackS hx (y := Y22_) rfl hown (mvT hZ (oW hw 213 rfl)) (mvT hZ (oW hw 214 rfl)) (mvT hZ (oW hw 215 rfl)) (by decide) (backOfS (W := 2) (r_arc l Z a0 hw [] s_D s_L s_LE s_E s_Z mr kd_ kl_ h25 n0 O25 G0 wS b25 (min u0_ m_).toInt32 (0 : Int32) (0 : Int32) (0 : Int32) A25 g_b25 F25_234 F25_236 F25_238 F25_240 F25_242 F25_244) hZ (oW hw 215 rfl) (oW hw 209 rfl) (by decide) (by decide)) (g := (mkF m 142 (oA2 p1 p2 p3 m_ u0_ u1_ u2_ u3_ nd (vR (b2)) (vR (b3)) (vR (b10)) oU oU oU oU oU) [(.int (0 : Int32)), (.int (0 : Int32)), (.int (0 : Int32)), (.ref s_Z), (.int (-1 : Int32)), (.int (min u0_ m_).toInt32), (.ref b25), (.ref b25), (.ref b10)])) rfl (by rw [hml]; rfl) (Steps.refl _) (a := b25) (argsL := [(.int (min u0_ m_).toInt32), (.int (-1 : Int32)), (.ref s_Z), (.int (0 : Int32)), (.int (0 : Int32)), (.int (0 : Int32))]) (rest := [(.ref b25), (.ref b10)]) (lenOf pd_32 rfl) rfl (by exact Nat.le_of_eq rfl) (hb hby at_142) (fun _ _ => ⟨rfl, e36, (by decide : 4 + 2 ≤ _), (by decide : 16 + 24 ≤ _)⟩)
  dsimp only [Pt.U, Pt.locs, Pt.cells, Pt.slots] at X37 S37a z37a l37 y37 z37 st37 hQ37
  subst l37 y37 z37
  have X37 : Stand p l e room_1 (s.setVm T37.vm) m #[(.int p1), (.int p2), (.int p3)] below meth c T37 _ _ _ := X37
  have S37f : s.Since T37.vm T37.heap.size := foldS (T := T36) hS0 (by rw [e36]; exact hk25) S37a z37a
  have hZ37 : Z.Warmed39 T37.vm := State.Warmed39.trans (t := s.setVm s.vm) hZ S37a.1
  have hown37 : (s.setVm T37.vm).vm.findClass "com/example/hodos/hodos/analysis/CourseArcsFromPinLaw" = some m.cls := by rw [show (s.setVm T37.vm).vm = T37.vm from rfl, S37a.1.alike.findClass]; exact hown
  obtain ⟨rfl, N37q, Kq37, Fs37, Fo37⟩ := hQ37
  have N37 := Fr.app N17 N37q
  have f38 := f26.keep Kq37
  have f39 := f27.keep Kq37 (oN1 ne_b2_b25)
  have f40 := f28.keep Kq37
  have f42 := f30.keep Kq37 (oN1 ne_b3_b25)
  have f43 := f31.keep Kq37 (oN1 ne_b3_b25)
  have f44 := f32.keep Kq37
  have f45 := f33.keep Kq37 (oN1 ne_b10_b25)
  have f46 := f34.keep Kq37 (oN1 ne_b10_b25)
  have f47 := f35.keep Kq37 (oN1 ne_b10_b25)
  have f48 := A25.keep Kq37
  have O37 := O25.keep Kq37 (allS g_b25 all0)
  have K37 : Keep h0 T37.heap [] := K25.trans Kq37 (allS (Or.inr sz_b25) all0)
  obtain ⟨cq49, kq49, q49a, q49b, q49c⟩ := isOf hZ37 rfl f44
  obtain ⟨_, _, ⟨T49, L49, k49, n49⟩, -, X49, ⟨Lc49, hQ49, l49, y49, z49⟩, st49⟩ := X37.virtualBack hx (y := Y7_) (z := Y7_) hown37 (mvT hZ37 (oW hw 245 rfl)) (mvT hZ37 (oW hw 246 rfl)) (notFace_of_selects (args := #[]) (mvT hZ37 (oW hw 248 rfl))) (mvT hZ37 (oW hw 248 rfl)) (mvT hZ37 (oW hw 247 rfl)) (by decide) (backOf (W := 0) (r_add0 l Z a0 hw [] s_D s_L s_LE s_E s_Z mr kd_ kl_ T37.heap n0 O37 G0 b10 (0 : Int32) b25 f44 f45 f46 f47 g_b10 f48) hZ37 (oW hw 249 rfl) (oW hw 8 rfl) (by decide) (by decide)) q49a q49c (g := (mkF m 145 (oA2 p1 p2 p3 m_ u0_ u1_ u2_ u3_ nd (vR (b2)) (vR (b3)) (vR (b10)) oU oU oU oU oU) [(.ref b25), (.ref b10)])) rfl (by rw [hml]; rfl) (Steps.refl _) (argsL := [(.ref b25)]) (rest := []) (lenOf pd_33 rfl) rfl (by exact Nat.le_of_eq rfl) (hb hby at_145) (fun _ _ => ⟨rfl, rfl, (by decide : 6 + 1 ≤ _), (by decide : 40 + 10 ≤ _)⟩)
  dsimp only [Pt.U, Pt.locs, Pt.cells, Pt.slots] at X49 l49 y49 z49 st49 hQ49
  subst l49 y49 z49
  obtain ⟨t49, kt49, rfl, N49q, Kq49, gt49, Fm49, Fe49, Fs49, Et49, Vt49, Ot49⟩ := hQ49
  have N49 := Fr.app N37 N49q
  have ne_b2_t49 := oL f38.lt gt49
  have ne_b3_t49 := oL f40.lt gt49
  have ne_b10_t49 := oL f44.lt gt49
  have ne_b25_t49 := oL f48.lt gt49
  have g_t49 : n0 ≤ t49 := Nat.le_trans (O37.1 ▸ O37.2.1) gt49
  have sz_t49 : h0.size ≤ t49 := Nat.le_trans K37.1 gt49
  have f50 := f38.keep Kq49
  have f51 := f39.keep Kq49 (oN1 ne_b2_b10)
  have f52 := f40.keep Kq49
  have f54 := f42.keep Kq49 (oN1 ne_b3_b10)
  have f55 := f43.keep Kq49 (oN1 ne_b3_b10)
  have f56 := f44.keep Kq49
  have f57 := f48.keep Kq49
  have f58 := Fs37.keep Kq49 (oN1 (Ne.symm ne_b10_b25))
  have f59 := Fo37.keep Kq49 (oN1 (Ne.symm ne_b10_b25))
  have O49 := O37.keep Kq49 (allS g_b10 all0)
  have K49 : Keep h0 T49.heap [] := K37.trans Kq49 (allS (Or.inr sz_b10) all0)
  have hk49 := Nat.le_trans (Nat.le_refl _) Kq49.1
  obtain ⟨T60, h60, X60, e60, E60, A60, D60, -, st60⟩ := newO X49 hx hZ37 hown37 (oW hw 207 rfl) (oW hw 208 rfl) (oW hw 209 rfl) rfl (g := (mkF m 157 (oA2 p1 p2 p3 m_ u0_ u1_ u2_ u3_ nd (vR (b2)) (vR (b3)) (vR (b10)) oU oU oU oU oU) [(.ref b10)])) rfl (hb hby at_157) (by decide) (by decide)
  obtain ⟨b60, g60⟩ := oZ T49.heap.size
  have ne_b2_b60 := oE f50.lt g60
  have ne_b3_b60 := oE f52.lt g60
  have ne_b10_b60 := oE f56.lt g60
  have ne_b25_b60 := oE f57.lt g60
  have ne_t49_b60 := oE Et49.lt g60
  have ne_s_E_b60 : s_E ≠ b60 := Nat.ne_of_lt (Nat.lt_of_lt_of_le (E_E.ext O49.2).lt (Nat.le_of_eq g60.symm))
  have g_b60 : n0 ≤ b60 := Nat.le_trans (O49.1 ▸ O49.2.1) (Nat.le_of_eq g60.symm)
  have sz_b60 : h0.size ≤ b60 := Nat.le_trans K49.1 (Nat.le_of_eq g60.symm)
  rw [← g60] at A60 D60 st60
  have f61 := f50.ext E60
  have f62 := f51.ext E60
  have f63 := f52.ext E60
  have f65 := f54.ext E60
  have f66 := f55.ext E60
  have f67 := f56.ext E60
  have f68 := f57.ext E60
  have f69 := f58.ext E60
  have f70 := f59.ext E60
  have f71 := Et49.ext E60
  have f72 := Vt49.ext E60
  have f73 := Fm49.ext E60
  have f74 := Fe49.ext E60
  have f75 := Fs49.ext E60
  have O60 := O49.ext E60
  have K60 : Keep h0 h60 [] := K49.ext E60
  have hk60 := Nat.le_trans hk49 E60.1
  have F60_234 : Fld Z h60 b60 "com/example/hodos/hodos/analysis/Course$Arc" "source" "I" (.int (0 : Int32)) := D60 (Or.inr (oW hw 234 rfl)) (ty := .int) (by decide)
  have F60_236 : Fld Z h60 b60 "com/example/hodos/hodos/analysis/Course$Arc" "target" "I" (.int (0 : Int32)) := D60 (Or.inr (oW hw 236 rfl)) (ty := .int) (by decide)
  have F60_238 : Fld Z h60 b60 "com/example/hodos/hodos/analysis/Course$Arc" "delay" "Lcom/example/hodos/hodos/model/Time;" .null := D60 (Or.inr (oW hw 238 rfl)) (ty := (.object "com/example/hodos/hodos/model/Time")) (by decide)
  have F60_240 : Fld Z h60 b60 "com/example/hodos/hodos/analysis/Course$Arc" "internal" "Z" (.int (0 : Int32)) := D60 (Or.inr (oW hw 240 rfl)) (ty := .boolean) (by decide)
  have F60_242 : Fld Z h60 b60 "com/example/hodos/hodos/analysis/Course$Arc" "ends" "Z" (.int (0 : Int32)) := D60 (Or.inr (oW hw 242 rfl)) (ty := .boolean) (by decide)
  have F60_244 : Fld Z h60 b60 "com/example/hodos/hodos/analysis/Course$Arc" "origin" "I" (.int (0 : Int32)) := D60 (Or.inr (oW hw 244 rfl)) (ty := .int) (by decide)
  obtain ⟨T76, X76, e76, st76⟩ := getS2 X60 hx hZ37 hown37 (host := "") (Or.inl (oW hw 210 rfl)) Via.refl e60 (S_Z.ext O60.2) (g := (mkF m 164 (oA2 p1 p2 p3 m_ u0_ u1_ u2_ u3_ nd (vR (b2)) (vR (b3)) (vR (b10)) oU oU oU oU oU) [(.int (-1 : Int32)), (.int (min (u0_ + u1_) m_).toInt32), (.ref b60), (.ref b60), (.ref b10)])) rfl (hb hby at_164)
  obtain ⟨_, _, ⟨T77, L77, k77, n77⟩, -, X77, S77a, z77a, ⟨Lc77, hQ77, l77, y77, z77⟩, st77⟩ := X76.specialBackS hx (y := Y22_) rfl hown37 (mvT hZ37 (oW hw 213 rfl)) (mvT hZ37 (oW hw 214 rfl)) (mvT hZ37 (oW hw 215 rfl)) (by decide) (backOfS (W := 2) (r_arc l Z a0 hw [] s_D s_L s_LE s_E s_Z mr kd_ kl_ h60 n0 O60 G0 wS b60 (min (u0_ + u1_) m_).toInt32 (1 : Int32) (0 : Int32) (1 : Int32) A60 g_b60 F60_234 F60_236 F60_238 F60_240 F60_242 F60_244) hZ37 (oW hw 215 rfl) (oW hw 209 rfl) (by decide) (by decide)) (g := (mkF m 170 (oA2 p1 p2 p3 m_ u0_ u1_ u2_ u3_ nd (vR (b2)) (vR (b3)) (vR (b10)) oU oU oU oU oU) [(.int (1 : Int32)), (.int (0 : Int32)), (.int (1 : Int32)), (.ref s_Z), (.int (-1 : Int32)), (.int (min (u0_ + u1_) m_).toInt32), (.ref b60), (.ref b60), (.ref b10)])) rfl (by rw [hml]; rfl) (Steps.refl _) (a := b60) (argsL := [(.int (min (u0_ + u1_) m_).toInt32), (.int (-1 : Int32)), (.ref s_Z), (.int (1 : Int32)), (.int (0 : Int32)), (.int (1 : Int32))]) (rest := [(.ref b60), (.ref b10)]) (lenOf pd_32 rfl) rfl (by exact Nat.le_of_eq rfl) (hb hby at_170) (fun _ _ => ⟨rfl, e76, (by decide : 8 + 2 ≤ _), (by decide : 56 + 24 ≤ _)⟩)
  dsimp only [Pt.U, Pt.locs, Pt.cells, Pt.slots] at X77 S77a z77a l77 y77 z77 st77 hQ77
  subst l77 y77 z77
  have X77 : Stand p l e room_1 (s.setVm T77.vm) m #[(.int p1), (.int p2), (.int p3)] below meth c T77 _ _ _ := X77
  have S77f : s.Since T77.vm T77.heap.size := foldS (T := T76) S37f (by rw [e76]; exact hk60) S77a z77a
  have hZ77 : Z.Warmed39 T77.vm := State.Warmed39.trans (t := s.setVm T37.vm) hZ37 S77a.1
  have hown77 : (s.setVm T77.vm).vm.findClass "com/example/hodos/hodos/analysis/CourseArcsFromPinLaw" = some m.cls := by rw [show (s.setVm T77.vm).vm = T77.vm from rfl, S77a.1.alike.findClass]; exact hown37
  obtain ⟨rfl, N77q, Kq77, Fs77, Fo77⟩ := hQ77
  have N77 := Fr.app N49 N77q
  have f78 := f61.keep Kq77
  have f79 := f62.keep Kq77 (oN1 ne_b2_b60)
  have f80 := f63.keep Kq77
  have f82 := f65.keep Kq77 (oN1 ne_b3_b60)
  have f83 := f66.keep Kq77 (oN1 ne_b3_b60)
  have f84 := f67.keep Kq77
  have f85 := f68.keep Kq77
  have f86 := f69.keep Kq77 (oN1 ne_b25_b60)
  have f87 := f70.keep Kq77 (oN1 ne_b25_b60)
  have f88 := f71.keep Kq77
  have f89 := f72.keep Kq77 (oN1 ne_t49_b60)
  have f90 := f73.keep Kq77 (oN1 ne_b10_b60)
  have f91 := f74.keep Kq77 (oN1 ne_b10_b60)
  have f92 := f75.keep Kq77 (oN1 ne_b10_b60)
  have f93 := A60.keep Kq77
  have O77 := O60.keep Kq77 (allS g_b60 all0)
  have K77 : Keep h0 T77.heap [] := K60.trans Kq77 (allS (Or.inr sz_b60) all0)
  obtain ⟨cq94, kq94, q94a, q94b, q94c⟩ := isOf hZ77 rfl f84
  obtain ⟨_, _, ⟨T94, L94, k94, n94⟩, -, X94, ⟨Lc94, hQ94, l94, y94, z94⟩, st94⟩ := X77.virtualBack hx (y := Y7_) (z := Y7_) hown77 (mvT hZ77 (oW hw 245 rfl)) (mvT hZ77 (oW hw 246 rfl)) (notFace_of_selects (args := #[]) (mvT hZ77 (oW hw 248 rfl))) (mvT hZ77 (oW hw 248 rfl)) (mvT hZ77 (oW hw 247 rfl)) (by decide) (backOf (W := 0) (r_add1 l Z a0 hw [] s_D s_L s_LE s_E s_Z mr kd_ kl_ T77.heap n0 O77 G0 b10 ((0 : Int32) + (1 : Int32)) t49 kt49 b25 b60 f84 f90 f91 f92 f88 f89 Ot49 g_b10 f93 g_t49 ne_b10_t49) hZ77 (oW hw 249 rfl) (oW hw 8 rfl) (by decide) (by decide)) q94a q94c (g := (mkF m 173 (oA2 p1 p2 p3 m_ u0_ u1_ u2_ u3_ nd (vR (b2)) (vR (b3)) (vR (b10)) oU oU oU oU oU) [(.ref b60), (.ref b10)])) rfl (by rw [hml]; rfl) (Steps.refl _) (argsL := [(.ref b60)]) (rest := []) (lenOf pd_33 rfl) rfl (by exact Nat.le_of_eq rfl) (hb hby at_173) (fun _ _ => ⟨rfl, rfl, (by decide : 10 + 0 ≤ _), (by decide : 80 + 0 ≤ _)⟩)
  dsimp only [Pt.U, Pt.locs, Pt.cells, Pt.slots] at X94 l94 y94 z94 st94 hQ94
  subst l94 y94 z94
  obtain ⟨rfl, N94q, Kq94, Fm94, Fe94, Fs94, Vt94⟩ := hQ94
  have N94 := Fr.app N77 N94q
  have f95 := f78.keep Kq94
  have f96 := f79.keep Kq94 (oN2 ne_b2_b10 ne_b2_t49)
  have f97 := f80.keep Kq94
  have f99 := f82.keep Kq94 (oN2 ne_b3_b10 ne_b3_t49)
  have f100 := f83.keep Kq94 (oN2 ne_b3_b10 ne_b3_t49)
  have f101 := f84.keep Kq94
  have f102 := f85.keep Kq94
  have f103 := f86.keep Kq94 (oN2 (Ne.symm ne_b10_b25) ne_b25_t49)
  have f104 := f87.keep Kq94 (oN2 (Ne.symm ne_b10_b25) ne_b25_t49)
  have f105 := f88.keep Kq94
  have f106 := f93.keep Kq94
  have f107 := Fs77.keep Kq94 (oN2 (Ne.symm ne_b10_b60) (Ne.symm ne_t49_b60))
  have f108 := Fo77.keep Kq94 (oN2 (Ne.symm ne_b10_b60) (Ne.symm ne_t49_b60))
  have O94 := O77.keep Kq94 (allS g_b10 (allS g_t49 all0))
  have K94 : Keep h0 T94.heap [] := K77.trans Kq94 (allS (Or.inr sz_b10) (allS (Or.inr sz_t49) all0))
  have hk94 := Nat.le_trans (Nat.le_refl _) Kq94.1
  obtain ⟨T109, h109, X109, e109, E109, A109, D109, -, st109⟩ := newO X94 hx hZ77 hown77 (oW hw 32 rfl) (oW hw 33 rfl) (oW hw 34 rfl) rfl (g := (mkF m 233 (oA2 p1 p2 p3 m_ u0_ u1_ u2_ u3_ nd (vR (b2)) (vR (b3)) (vR (b10)) oU oU oU oU oU) [])) rfl (hb hby at_233) (by decide) (by decide)
  obtain ⟨b109, g109⟩ := oZ T94.heap.size
  have ne_b25_b109 := oE f102.lt g109
  have ne_b60_b109 := oE f106.lt g109
  have g_b109 : n0 ≤ b109 := Nat.le_trans (O94.1 ▸ O94.2.1) (Nat.le_of_eq g109.symm)
  have sz_b109 : h0.size ≤ b109 := Nat.le_trans K94.1 (Nat.le_of_eq g109.symm)
  rw [← g109] at A109 D109 st109
  have f110 := f95.ext E109
  have f111 := f96.ext E109
  have f112 := f97.ext E109
  have f114 := f99.ext E109
  have f115 := f100.ext E109
  have f116 := f101.ext E109
  have f117 := f102.ext E109
  have f118 := f103.ext E109
  have f119 := f104.ext E109
  have f120 := f105.ext E109
  have f121 := f106.ext E109
  have f122 := f107.ext E109
  have f123 := f108.ext E109
  have f124 := Vt94.ext E109
  have f126 := Fe94.ext E109
  have f127 := Fs94.ext E109
  have O109 := O94.ext E109
  have K109 : Keep h0 h109 [] := K94.ext E109
  have hk109 := Nat.le_trans hk94 E109.1
  have F109_49 : Fld Z h109 b109 "com/example/hodos/hodos/analysis/Course" "stops" "[Z" .null := D109 (Or.inr (oW hw 49 rfl)) (ty := (.array .boolean)) (by decide)
  have F109_80 : Fld Z h109 b109 "com/example/hodos/hodos/analysis/Course" "starts" "Ljava/util/List;" .null := D109 (Or.inr (oW hw 80 rfl)) (ty := (.object "java/util/List")) (by decide)
  have F109_82 : Fld Z h109 b109 "com/example/hodos/hodos/analysis/Course" "arcs" "Ljava/util/List;" .null := D109 (Or.inr (oW hw 82 rfl)) (ty := (.object "java/util/List")) (by decide)
  have F109_136 : Fld Z h109 b109 "com/example/hodos/hodos/analysis/Course" "firstArc" "[I" .null := D109 (Or.inr (oW hw 136 rfl)) (ty := (.array .int)) (by decide)
  obtain ⟨_, _, ⟨T128, L128, k128, n128⟩, -, X128, ⟨Lc128, hQ128, l128, y128, z128⟩, st128⟩ := X109.specialBack hx (y := Y45_) rfl hown77 (mvT hZ77 (oW hw 35 rfl)) (mvT hZ77 (oW hw 36 rfl)) (mvT hZ77 (oW hw 37 rfl)) (by decide) (backOf (W := 1) (r_coi1 l Z a0 hw [] s_D s_L s_LE s_E s_Z mr kd_ kl_ h109 n0 O109 G0 b109 b2 b3 b10 ka2 [] (m_ + 1) [(min u0_ m_), (min (u0_ + u1_) m_)] t49 kt49 [b25, b60] A109 g_b109 F109_49 F109_80 F109_82 F109_136 f110 f111 hN5 f112 f114 f115 f116 f126 f127 f120 f124 (Nat.le_of_ble_eq_true rfl) (Nat.le_of_ble_eq_true rfl) (fun _ => (Ne.symm ne_s_E_b60)) (own_arcs2 f117 f118 f119 f121 f122 f123) (own_hss2 (Nat.lt_succ_of_le own_mn) (Nat.lt_succ_of_le own_mn))) hZ77 (oW hw 37 rfl) (oW hw 34 rfl) (by decide) (by decide)) (g := (mkF m 243 (oA2 p1 p2 p3 m_ u0_ u1_ u2_ u3_ nd (vR (b2)) (vR (b3)) (vR (b10)) oU oU oU oU oU) [(.ref b10), (.ref b3), (.ref b2), (.ref b109), (.ref b109)])) rfl (by rw [hml]; rfl) (Steps.refl _) (a := b109) (argsL := [(.ref b2), (.ref b3), (.ref b10)]) (rest := [(.ref b109)]) (lenOf pd_30 rfl) rfl (by exact Nat.le_of_eq rfl) (hb hby at_243) (fun _ _ => ⟨rfl, e109, (by decide : 11 + 6 ≤ _), (by decide : 84 + 23 ≤ _)⟩)
  dsimp only [Pt.U, Pt.locs, Pt.cells, Pt.slots] at X128 l128 y128 z128 st128 hQ128
  subst l128 y128 z128
  obtain ⟨rfl, N128q, Kq128, Co128⟩ := hQ128
  have N128 := Fr.app N94 N128q
  have f136 := f117.keep Kq128
  have f137 := f118.keep Kq128 (oN1 ne_b25_b109)
  have f138 := f119.keep Kq128 (oN1 ne_b25_b109)
  have f140 := f121.keep Kq128
  have f141 := f122.keep Kq128 (oN1 ne_b60_b109)
  have f142 := f123.keep Kq128 (oN1 ne_b60_b109)
  have f147 := A109.keep Kq128
  have O128 := O109.keep Kq128 (allS g_b109 all0)
  have K128 : Keep h0 T128.heap [] := K109.trans Kq128 (allS (Or.inr sz_b109) all0)
  have hk128 := Nat.le_trans hk109 Kq128.1
  obtain ⟨cq148, kq148, q148a, q148b, q148c⟩ := isOf hZ77 rfl f147
  obtain ⟨_, _, ⟨T148, L148, k148, n148⟩, -, X148, ⟨Lc148, hQ148, l148, y148, z148⟩, st148⟩ := X128.virtualBack hx (y := Y52_) (z := Y52_) hown77 (mvT hZ77 (oW hw 137 rfl)) (mvT hZ77 (oW hw 138 rfl)) (notFace_of_selects (args := #[]) (mvT hZ77 (oW hw 140 rfl))) (mvT hZ77 (oW hw 140 rfl)) (mvT hZ77 (oW hw 139 rfl)) (by decide) (backOf (W := 0) (r_af l Z a0 hw [] s_D s_L s_LE s_E s_Z mr kd_ kl_ T128.heap n0 O128 G0 b109 (m_ + 1) nd [b25, b60] [(min u0_ m_), (min (u0_ + u1_) m_)] Co128 hN5 hnd1 rfl (Nat.le_of_ble_eq_true rfl)) hZ77 (oW hw 141 rfl) (oW hw 34 rfl) (by decide) (by decide)) q148a q148c (g := (mkF m 252 (oA2 p1 p2 p3 m_ u0_ u1_ u2_ u3_ nd (vR (b2)) (vR (b3)) (vR (b10)) (vR (b109)) oU oU oU oU) [(.int nd.toInt32), (.ref b109)])) rfl (by rw [hml]; rfl) (Steps.refl _) (argsL := [(.int nd.toInt32)]) (rest := []) (lenOf pd_31 rfl) rfl (by exact Nat.le_of_eq rfl) (hb hby at_252) (fun _ _ => ⟨rfl, rfl, (by decide : 17 + 1 ≤ _), (by decide : 107 + 3 ≤ _)⟩)
  dsimp only [Pt.U, Pt.locs, Pt.cells, Pt.slots] at X148 l148 y148 z148 st148 hQ148
  subst l148 y148 z148
  obtain ⟨la148, Iq148, ta148, rfl, N148q, Kq148, Sl148⟩ := hQ148
  have N148 := Fr.app N128 N148q
  have f156 := f136.keep Kq148
  have f157 := f137.keep Kq148 (fun q => nomatch q)
  have f158 := f138.keep Kq148 (fun q => nomatch q)
  have f160 := f140.keep Kq148
  have f161 := f141.keep Kq148 (fun q => nomatch q)
  have f162 := f142.keep Kq148 (fun q => nomatch q)
  have O148 := O128.keep Kq148 all0
  have K148 : Keep h0 T148.heap [] := K128.trans Kq148 all0
  have hk148 := Nat.le_trans hk128 Kq148.1
  obtain ⟨T168, h168, L168, X168, e168, N168, O168, q168h, st168⟩ := t_ls s_D s_L s_LE s_E s_Z mr kd_ kl_ p1 p2 p3 (m_ + 1).toInt32 u0_.toInt32 (u0_ + u1_).toInt32 (u0_ + u1_ + u2_).toInt32 (u0_ + u1_ + u2_ + u3_).toInt32 2 (min u0_ m_) (min (u0_ + u1_) m_) (min (u0_ + u1_ + u2_) m_) (min (u0_ + u1_ + u2_ + u3_) m_) nd b2 b3 b10 b109 ta148 la148 [b25, b60] [(min u0_ m_), (min (u0_ + u1_) m_)] 18 110 (by decide) (by decide) X148 hx hZ77 hw hby hml hown77 rfl N148 O148 G0 Sl148 (own_IL_keep Kq148 Iq148) (own_arcs2 f156 f157 f158 f160 f161 f162) (Nat.le_of_ble_eq_true rfl) rfl (by decide) hnd4 (Nat.le_trans own_mn (Nat.le_trans hm3 (by decide))) (Nat.le_trans own_mn (Nat.le_trans hm3 (by decide))) (Nat.le_trans own_mn (Nat.le_trans hm3 (by decide))) (Nat.le_trans own_mn (Nat.le_trans hm3 (by decide)))
  obtain rfl : T148.heap = h168 := q168h.symm
  obtain ⟨fs, hr, hrun, hended, hRW⟩ := X168.leaveW S77f (by rw [e168]; exact hk148) (v := some (.int (1 : Int32))) (oR Bd.returns)
  refine ⟨_, _, pre0 _ ?_, hrun, hended, _, _, rfl, ?_, hRW.1, hRW.2.1, hRW.2.2.1, hRW.2.2.2.mono (by decide) (by decide)⟩
  · show own_St p e below s₁ m 0 #[vI (p1), vI (p2), vI (p3), .unset, .unset, .unset, .unset, .unset, .unset, .unset, .unset, .unset, .unset, .unset, .unset, .unset, .unset, .unset, .unset, .unset, .unset, .unset] [] _
    refine st1 _ ?_
    show own_St p e below T1 m 99 (oA2 p1 p2 p3 m_ u0_ u1_ u2_ u3_ nd oU oU oU oU oU oU oU oU) [] _
    refine XS.iloadN X1.here hx rfl (hb hby at_99) rfl ?_
    refine st2 _ ?_
    show own_St p e below T2 m 102 (oA2 p1 p2 p3 m_ u0_ u1_ u2_ u3_ nd oU oU oU oU oU oU oU oU) [(.ref b2)] _
    refine XS.astore X2.here hx rfl (hb hby at_102) rfl rfl (l' := (oA2 p1 p2 p3 m_ u0_ u1_ u2_ u3_ nd (vR (b2)) oU oU oU oU oU oU oU)) rfl ?_
    refine st3 _ ?_
    show own_St p e below T3 m 107 (oA2 p1 p2 p3 m_ u0_ u1_ u2_ u3_ nd (vR (b2)) oU oU oU oU oU oU oU) [(.ref b3)] _
    refine XS.dup X3.here hx rfl (hb hby at_107) rfl rfl ?_
    refine st6.trans ?_
    show own_St p e below T6 m 111 (oA2 p1 p2 p3 m_ u0_ u1_ u2_ u3_ nd (vR (b2)) oU oU oU oU oU oU oU) [(.ref b3)] _
    refine XS.astore X6.here hx rfl (hb hby at_111) rfl rfl (l' := (oA2 p1 p2 p3 m_ u0_ u1_ u2_ u3_ nd (vR (b2)) (vR (b3)) oU oU oU oU oU oU)) rfl ?_
    refine st10 _ ?_
    show own_St p e below T10 m 116 (oA2 p1 p2 p3 m_ u0_ u1_ u2_ u3_ nd (vR (b2)) (vR (b3)) oU oU oU oU oU oU) [(.ref b10)] _
    refine XS.dup X10.here hx rfl (hb hby at_116) rfl rfl ?_
    refine st17.trans ?_
    show own_St p e below T17 m 120 (oA2 p1 p2 p3 m_ u0_ u1_ u2_ u3_ nd (vR (b2)) (vR (b3)) oU oU oU oU oU oU) [(.ref b10)] _
    refine XS.astore X17.here hx rfl (hb hby at_120) rfl rfl (l' := (oA2 p1 p2 p3 m_ u0_ u1_ u2_ u3_ nd (vR (b2)) (vR (b3)) (vR (b10)) oU oU oU oU oU)) rfl ?_
    refine XS.iload X17.here hx rfl (hb hby at_122) rfl ?_
    refine XS.ifNo X17.here hx rfl (hb hby at_124) rfl ((if0 _ _).trans (tlt (by decide : (0 : Int32) < (2 : Int32))).2.2.2) ?_
    refine XS.aload X17.here hx rfl (hb hby at_127) rfl rfl ?_
    refine st25 _ ?_
    show own_St p e below T25 m 132 (oA2 p1 p2 p3 m_ u0_ u1_ u2_ u3_ nd (vR (b2)) (vR (b3)) (vR (b10)) oU oU oU oU oU) [(.ref b25), (.ref b10)] _
    refine XS.dup X25.here hx rfl (hb hby at_132) rfl rfl ?_
    refine XS.iload X25.here hx rfl (hb hby at_133) rfl ?_
    refine XS.iconst X25.here hx rfl (hb hby at_135) ?_
    refine st36 _ ?_
    show own_St p e below T36 m 139 (oA2 p1 p2 p3 m_ u0_ u1_ u2_ u3_ nd (vR (b2)) (vR (b3)) (vR (b10)) oU oU oU oU oU) [(.ref s_Z), (.int (-1 : Int32)), (.int (min u0_ m_).toInt32), (.ref b25), (.ref b25), (.ref b10)] _
    refine XS.iconst X36.here hx rfl (hb hby at_139) ?_
    refine XS.iconst X36.here hx rfl (hb hby at_140) ?_
    refine XS.iconst X36.here hx rfl (hb hby at_141) ?_
    refine st37.trans ?_
    refine st49.trans ?_
    show own_St p e below T49 m 148 (oA2 p1 p2 p3 m_ u0_ u1_ u2_ u3_ nd (vR (b2)) (vR (b3)) (vR (b10)) oU oU oU oU oU) [(.int (1 : Int32))] _
    refine XS.pop X49.here hx rfl (hb hby at_148) rfl rfl ?_
    show own_St p e below T49 m 149 (oA2 p1 p2 p3 m_ u0_ u1_ u2_ u3_ nd (vR (b2)) (vR (b3)) (vR (b10)) oU oU oU oU oU) [] _
    refine XS.iload X49.here hx rfl (hb hby at_149) rfl ?_
    refine XS.iconst X49.here hx rfl (hb hby at_151) ?_
    refine XS.icmpNo X49.here hx rfl (hb hby at_152) rfl (tlt (by decide : (1 : Int32) < (2 : Int32))).2.2.2 ?_
    refine XS.aload X49.here hx rfl (hb hby at_155) rfl rfl ?_
    refine st60 _ ?_
    show own_St p e below T60 m 160 (oA2 p1 p2 p3 m_ u0_ u1_ u2_ u3_ nd (vR (b2)) (vR (b3)) (vR (b10)) oU oU oU oU oU) [(.ref b60), (.ref b10)] _
    refine XS.dup X60.here hx rfl (hb hby at_160) rfl rfl ?_
    refine XS.iload X60.here hx rfl (hb hby at_161) rfl ?_
    refine XS.iconst X60.here hx rfl (hb hby at_163) ?_
    refine st76 _ ?_
    show own_St p e below T76 m 167 (oA2 p1 p2 p3 m_ u0_ u1_ u2_ u3_ nd (vR (b2)) (vR (b3)) (vR (b10)) oU oU oU oU oU) [(.ref s_Z), (.int (-1 : Int32)), (.int (min (u0_ + u1_) m_).toInt32), (.ref b60), (.ref b60), (.ref b10)] _
    refine XS.iconst X76.here hx rfl (hb hby at_167) ?_
    refine XS.iconst X76.here hx rfl (hb hby at_168) ?_
    refine XS.iconst X76.here hx rfl (hb hby at_169) ?_
    refine st77.trans ?_
    refine st94.trans ?_
    show own_St p e below T94 m 176 (oA2 p1 p2 p3 m_ u0_ u1_ u2_ u3_ nd (vR (b2)) (vR (b3)) (vR (b10)) oU oU oU oU oU) [(.int (1 : Int32))] _
    refine XS.pop X94.here hx rfl (hb hby at_176) rfl rfl ?_
    show own_St p e below T94 m 177 (oA2 p1 p2 p3 m_ u0_ u1_ u2_ u3_ nd (vR (b2)) (vR (b3)) (vR (b10)) oU oU oU oU oU) [] _
    refine XS.iload X94.here hx rfl (hb hby at_177) rfl ?_
    refine XS.iconst X94.here hx rfl (hb hby at_179) ?_
    refine XS.icmpYes X94.here hx rfl (pc0 := 180) (pc' := 205) rfl (hb hby at_180) rfl (flt (by decide : ¬ ((2 : Int32) < (2 : Int32)))).2.2.2 (by decide) (by decide) ?_
    refine XS.iload X94.here hx rfl (hb hby at_205) rfl ?_
    refine XS.iconst X94.here hx rfl (hb hby at_207) ?_
    refine XS.icmpYes X94.here hx rfl (pc0 := 208) (pc' := 233) rfl (hb hby at_208) rfl (flt (by decide : ¬ ((3 : Int32) < (2 : Int32)))).2.2.2 (by decide) (by decide) ?_
    refine st109 _ ?_
    show own_St p e below T109 m 236 (oA2 p1 p2 p3 m_ u0_ u1_ u2_ u3_ nd (vR (b2)) (vR (b3)) (vR (b10)) oU oU oU oU oU) [(.ref b109)] _
    refine XS.dup X109.here hx rfl (hb hby at_236) rfl rfl ?_
    refine XS.aload X109.here hx rfl (hb hby at_237) rfl rfl ?_
    refine XS.aload X109.here hx rfl (hb hby at_239) rfl rfl ?_
    refine XS.aload X109.here hx rfl (hb hby at_241) rfl rfl ?_
    refine st128.trans ?_
    show own_St p e below T128 m 246 (oA2 p1 p2 p3 m_ u0_ u1_ u2_ u3_ nd (vR (b2)) (vR (b3)) (vR (b10)) oU oU oU oU oU) [(.ref b109)] _
    refine XS.astore X128.here hx rfl (hb hby at_246) rfl rfl (l' := (oA2 p1 p2 p3 m_ u0_ u1_ u2_ u3_ nd (vR (b2)) (vR (b3)) (vR (b10)) (vR (b109)) oU oU oU oU)) rfl ?_
    refine XS.aload X128.here hx rfl (hb hby at_248) rfl rfl ?_
    refine XS.iload X128.here hx rfl (hb hby at_250) rfl ?_
    refine st148.trans ?_
    show own_St p e below T148 m 255 (oA2 p1 p2 p3 m_ u0_ u1_ u2_ u3_ nd (vR (b2)) (vR (b3)) (vR (b10)) (vR (b109)) oU oU oU oU) [(.ref ta148)] _
    refine XS.astore X148.here hx rfl (hb hby at_255) rfl rfl (l' := (oA2 p1 p2 p3 m_ u0_ u1_ u2_ u3_ nd (vR (b2)) (vR (b3)) (vR (b10)) (vR (b109)) (vR (ta148)) oU oU oU)) rfl ?_
    refine st168 _ ?_
    show own_St p e below T168 m 433 (oA2 p1 p2 p3 m_ u0_ u1_ u2_ u3_ nd (vR (b2)) (vR (b3)) (vR (b10)) (vR (b109)) (vR (ta148)) (vI ((own_ct [(min u0_ m_), (min (u0_ + u1_) m_)] nd).toInt32)) (vI ((own_ct [(min u0_ m_), (min (u0_ + u1_) m_)] (nd + 1)).toInt32)) (vI ((own_ct [(min u0_ m_), (min (u0_ + u1_) m_)] (nd + 1) - own_ct [(min u0_ m_), (min (u0_ + u1_) m_)] nd).toInt32))) [(.int (1 : Int32))] _
    exact retN X168 hx (t := .boolean) Bd.returns (by simp) (hb hby at_433) hr
  · show own_Qk (some (.int (1 : Int32))) [] h0 n0 _ T168.heap _
    rw [e168]
    exact ⟨rfl, N168, K148⟩
theorem r_law3 (l Z a0) (hw : own_HW a0 Z) (ws s_D s_L s_LE s_E s_Z mr kd_ kl_ h0 n0) (O0 : Old Z n0 h0) (G : own_Ctx Z Z.heap s_D s_L s_LE s_E s_Z mr kd_ kl_) (wS : ∀ a ∈ Bundle.stringAtoms, a.before a0 Z = true) (p1 p2 p3 : Int32) (m_ u0_ u1_ u2_ u3_ nd : Nat) (hm : p1 &&& (3 : Int32) = m_.toInt32) (hm3 : m_ ≤ 3) (hk : ((p1.toUInt32 >>> ((2 : Int32) &&& 31).toUInt32).toInt32) % (5 : Int32) = (3 : Int32)) (hu0 : (((p2.toUInt32 >>> ((0 : Int32) &&& 31).toUInt32).toInt32) &&& (3 : Int32)) = u0_.toInt32) (hv0 : u0_ ≤ 3) (hu1 : (((p2.toUInt32 >>> ((2 : Int32) &&& 31).toUInt32).toInt32) &&& (3 : Int32)) = u1_.toInt32) (hv1 : u1_ ≤ 3) (hu2 : (((p2.toUInt32 >>> ((4 : Int32) &&& 31).toUInt32).toInt32) &&& (3 : Int32)) = u2_.toInt32) (hv2 : u2_ ≤ 3) (hu3 : (((p2.toUInt32 >>> ((6 : Int32) &&& 31).toUInt32).toInt32) &&& (3 : Int32)) = u3_.toInt32) (hv3 : u3_ ≤ 3) (hnd : (p3 &&& (2147483647 : Int32)) % (m_ + 1).toInt32 = nd.toInt32) (hnd1 : nd < m_ + 1) :
    MetFree l x (head1 (Jvm.Cond.code x code maxLocals ret :: ws) room_1) (fun a U => a = #[(.int p1), (.int p2), (.int p3)] ∧ Z.Warmed39 U.vm ∧ U.heap = h0) (fun _ _ _ _ _ => True) (fun _ U o U' => ∃ v L, o = .returned v ∧ own_Qk (some (.int (1 : Int32))) [] h0 n0 v U'.heap L ∧ ReturnedEndW U o U' L 48 1280) := by
  have G0 := G
  obtain ⟨S_D, E_D, V_D, S_L, E_L, F_L, V_L, S_E, E_E, S_A, S_Z, E_Z, M_A⟩ := G
  refine MetFree.of_bodySF (plainFor_of_name pn_18) hisR ?_
  intro p e s m args below meth c s₁ Bd hml0 hP hK
  obtain ⟨rfl, hZ, hh⟩ := hP
  have hx := Bd.exec
  have hby := Bd.bytes
  have hml : c.maxLocals = 22 := hml0
  have hown := findClass_of_methodNamed Bd.named
  have X0 : Stand p l e room_1 (s.setVm s.vm) m #[(.int p1), (.int p2), (.int p3)] below meth c s₁ [] 0 0 := Stand.of_body Bd
  have e0 : s₁.heap = h0 := by rw [← hh, Bd.state]; rfl
  have N0 := Fr.nil n0
  have hS0 : s.Since s.vm h0.size := State.WarmedH.since (State.WarmedH.refl s) _
  have hk0 : h0.size ≤ h0.size := Nat.le_refl _
  have pre0 := own_pre (tb := p.tables) (e := e) (below := below) (T := s₁) (ef_0_50 m p1 p2 p3)
  have hN5 : m_ + 1 ≤ 4 := by omega
  have hnd4 : nd ≤ 4 := by omega
  obtain ⟨T1, h1, L1, X1, e1, N1, O1, q1h, st1⟩ := t_lp s_D s_L s_LE s_E s_Z mr kd_ kl_ p1 p2 p3 (3 : Int32) m_ u0_ u1_ u2_ u3_ nd 0 0 (by decide) (by decide) X0 hx hZ hw hby hml hown e0 N0 O0 G0 hm hm3 hk hu0 hv0 hu1 hv1 hu2 hv2 hu3 hv3 hnd
  obtain rfl : h0 = h1 := q1h.symm
  obtain ⟨T2, h2, ka2, X2, e2, E2, A2, B2, st2⟩ := newPE X1 hx hZ (oW hw 5 rfl) e1 (g := (mkF m 100 (oA3 p1 p2 p3 m_ u0_ u1_ u2_ u3_ nd oU oU oU oU oU oU oU oU) [(.int (m_ + 1).toInt32)])) rfl (hb hby at_100) rfl (own_ti (own_k hN5)).2.1 (cap := 4) (own_capn hN5) (by decide) (by decide) (by decide) (ad := "[Z") rfl
  obtain ⟨b2, g2⟩ := oZ h0.size
  rw [← g2] at A2 B2 st2
  have O2 := O1.ext E2
  have K2 : Keep h0 h2 [] := (Keep.refl h0 []).ext E2
  have hk2 := Nat.le_trans hk0 E2.1
  have V2 : Arv Z h2 b2 ka2 .boolean (m_ + 1).toInt32 [] (.int (0 : Int32)) := Arv.new A2 (own_ti (own_k hN5)).2.1
  obtain ⟨T3, h3, X3, e3, E3, A3, D3, -, st3⟩ := newO X2 hx hZ hown (oW hw 6 rfl) (oW hw 7 rfl) (oW hw 8 rfl) e2 (g := (mkF m 104 (oA3 p1 p2 p3 m_ u0_ u1_ u2_ u3_ nd (vR (b2)) oU oU oU oU oU oU oU) [])) rfl (hb hby at_104) (by decide) (by decide)
  obtain ⟨b3, g3⟩ := oZ h2.size
  have ne_b2_b3 := oE B2.lt g3
  have g_b3 : n0 ≤ b3 := Nat.le_trans (O2.1 ▸ O2.2.1) (Nat.le_of_eq g3.symm)
  have sz_b3 : h0.size ≤ b3 := Nat.le_trans K2.1 (Nat.le_of_eq g3.symm)
  rw [← g3] at A3 D3 st3
  have f4 := B2.ext E3
  have f5 := V2.ext E3
  have O3 := O2.ext E3
  have K3 : Keep h0 h3 [] := K2.ext E3
  have hk3 := Nat.le_trans hk2 E3.1
  have F3_28 : Fld Z h3 b3 "java/util/AbstractList" "modCount" "I" (.int (0 : Int32)) := D3 (Or.inl (oW hw 28 rfl)) (ty := .int) (by decide)
  have F3_31 : Fld Z h3 b3 "java/util/ArrayList" "elementData" "[Ljava/lang/Object;" .null := D3 (Or.inl (oW hw 31 rfl)) (ty := (.array (.object "java/lang/Object"))) (by decide)
  have F3_74 : Fld Z h3 b3 "java/util/ArrayList" "size" "I" (.int (0 : Int32)) := D3 (Or.inl (oW hw 74 rfl)) (ty := .int) (by decide)
  obtain ⟨_, _, ⟨T6, L6, k6, n6⟩, -, X6, ⟨Lc6, hQ6, l6, y6, z6⟩, st6⟩ := X3.specialBack hx (y := Y2_) rfl hown (mvT hZ (oW hw 9 rfl)) (mvT hZ (oW hw 10 rfl)) (mvT hZ (oW hw 11 rfl)) (by decide) (backOf (W := 1) (r_ali l Z a0 hw [] s_D s_L s_LE s_E s_Z mr kd_ kl_ h3 n0 O3 G0 b3 A3 g_b3 F3_28 F3_31 F3_74) hZ (oW hw 11 rfl) (oW hw 8 rfl) (by decide) (by decide)) (g := (mkF m 108 (oA3 p1 p2 p3 m_ u0_ u1_ u2_ u3_ nd (vR (b2)) oU oU oU oU oU oU oU) [(.ref b3), (.ref b3)])) rfl (by rw [hml]; rfl) (Steps.refl _) (a := b3) (argsL := []) (rest := [(.ref b3)]) (lenOf pd_0 rfl) rfl (by exact Nat.le_of_eq rfl) (hb hby at_108) (fun _ _ => ⟨rfl, e3, (by decide : 2 + 0 ≤ _), (by decide : 7 + 0 ≤ _)⟩)
  dsimp only [Pt.U, Pt.locs, Pt.cells, Pt.slots] at X6 l6 y6 z6 st6 hQ6
  subst l6 y6 z6
  obtain ⟨rfl, N6q, Kq6, Fm6, Fe6, Fs6⟩ := hQ6
  have N6 := Fr.app N1 N6q
  have f7 := f4.keep Kq6
  have f8 := f5.keep Kq6 (oN1 ne_b2_b3)
  have f9 := A3.keep Kq6
  have O6 := O3.keep Kq6 (allS g_b3 all0)
  have K6 : Keep h0 T6.heap [] := K3.trans Kq6 (allS (Or.inr sz_b3) all0)
  have hk6 := Nat.le_trans hk3 Kq6.1
  obtain ⟨T10, h10, X10, e10, E10, A10, D10, -, st10⟩ := newO X6 hx hZ hown (oW hw 6 rfl) (oW hw 7 rfl) (oW hw 8 rfl) rfl (g := (mkF m 113 (oA3 p1 p2 p3 m_ u0_ u1_ u2_ u3_ nd (vR (b2)) (vR (b3)) oU oU oU oU oU oU) [])) rfl (hb hby at_113) (by decide) (by decide)
  obtain ⟨b10, g10⟩ := oZ T6.heap.size
  have ne_b2_b10 := oE f7.lt g10
  have ne_b3_b10 := oE f9.lt g10
  have g_b10 : n0 ≤ b10 := Nat.le_trans (O6.1 ▸ O6.2.1) (Nat.le_of_eq g10.symm)
  have sz_b10 : h0.size ≤ b10 := Nat.le_trans K6.1 (Nat.le_of_eq g10.symm)
  rw [← g10] at A10 D10 st10
  have f11 := f7.ext E10
  have f12 := f8.ext E10
  have f13 := f9.ext E10
  have f15 := Fe6.ext E10
  have f16 := Fs6.ext E10
  have O10 := O6.ext E10
  have K10 : Keep h0 h10 [] := K6.ext E10
  have hk10 := Nat.le_trans hk6 E10.1
  have F10_28 : Fld Z h10 b10 "java/util/AbstractList" "modCount" "I" (.int (0 : Int32)) := D10 (Or.inl (oW hw 28 rfl)) (ty := .int) (by decide)
  have F10_31 : Fld Z h10 b10 "java/util/ArrayList" "elementData" "[Ljava/lang/Object;" .null := D10 (Or.inl (oW hw 31 rfl)) (ty := (.array (.object "java/lang/Object"))) (by decide)
  have F10_74 : Fld Z h10 b10 "java/util/ArrayList" "size" "I" (.int (0 : Int32)) := D10 (Or.inl (oW hw 74 rfl)) (ty := .int) (by decide)
  obtain ⟨_, _, ⟨T17, L17, k17, n17⟩, -, X17, ⟨Lc17, hQ17, l17, y17, z17⟩, st17⟩ := X10.specialBack hx (y := Y2_) rfl hown (mvT hZ (oW hw 9 rfl)) (mvT hZ (oW hw 10 rfl)) (mvT hZ (oW hw 11 rfl)) (by decide) (backOf (W := 1) (r_ali l Z a0 hw [] s_D s_L s_LE s_E s_Z mr kd_ kl_ h10 n0 O10 G0 b10 A10 g_b10 F10_28 F10_31 F10_74) hZ (oW hw 11 rfl) (oW hw 8 rfl) (by decide) (by decide)) (g := (mkF m 117 (oA3 p1 p2 p3 m_ u0_ u1_ u2_ u3_ nd (vR (b2)) (vR (b3)) oU oU oU oU oU oU) [(.ref b10), (.ref b10)])) rfl (by rw [hml]; rfl) (Steps.refl _) (a := b10) (argsL := []) (rest := [(.ref b10)]) (lenOf pd_0 rfl) rfl (by exact Nat.le_of_eq rfl) (hb hby at_117) (fun _ _ => ⟨rfl, e10, (by decide : 3 + 0 ≤ _), (by decide : 10 + 0 ≤ _)⟩)
  dsimp only [Pt.U, Pt.locs, Pt.cells, Pt.slots] at X17 l17 y17 z17 st17 hQ17
  subst l17 y17 z17
  obtain ⟨rfl, N17q, Kq17, Fm17, Fe17, Fs17⟩ := hQ17
  have N17 := Fr.app N6 N17q
  have f18 := f11.keep Kq17
  have f19 := f12.keep Kq17 (oN1 ne_b2_b10)
  have f20 := f13.keep Kq17
  have f22 := f15.keep Kq17 (oN1 ne_b3_b10)
  have f23 := f16.keep Kq17 (oN1 ne_b3_b10)
  have f24 := A10.keep Kq17
  have O17 := O10.keep Kq17 (allS g_b10 all0)
  have K17 : Keep h0 T17.heap [] := K10.trans Kq17 (allS (Or.inr sz_b10) all0)
  have hk17 := Nat.le_trans hk10 Kq17.1
  obtain ⟨T25, h25, X25, e25, E25, A25, D25, -, st25⟩ := newO X17 hx hZ hown (oW hw 207 rfl) (oW hw 208 rfl) (oW hw 209 rfl) rfl (g := (mkF m 129 (oA3 p1 p2 p3 m_ u0_ u1_ u2_ u3_ nd (vR (b2)) (vR (b3)) (vR (b10)) oU oU oU oU oU) [(.ref b10)])) rfl (hb hby at_129) (by decide) (by decide)
  obtain ⟨b25, g25⟩ := oZ T17.heap.size
  have ne_b2_b25 := oE f18.lt g25
  have ne_b3_b25 := oE f20.lt g25
  have ne_b10_b25 := oE f24.lt g25
  have g_b25 : n0 ≤ b25 := Nat.le_trans (O17.1 ▸ O17.2.1) (Nat.le_of_eq g25.symm)
  have sz_b25 : h0.size ≤ b25 := Nat.le_trans K17.1 (Nat.le_of_eq g25.symm)
  rw [← g25] at A25 D25 st25
  have f26 := f18.ext E25
  have f27 := f19.ext E25
  have f28 := f20.ext E25
  have f30 := f22.ext E25
  have f31 := f23.ext E25
  have f32 := f24.ext E25
  have f33 := Fm17.ext E25
  have f34 := Fe17.ext E25
  have f35 := Fs17.ext E25
  have O25 := O17.ext E25
  have K25 : Keep h0 h25 [] := K17.ext E25
  have hk25 := Nat.le_trans hk17 E25.1
  have F25_234 : Fld Z h25 b25 "com/example/hodos/hodos/analysis/Course$Arc" "source" "I" (.int (0 : Int32)) := D25 (Or.inr (oW hw 234 rfl)) (ty := .int) (by decide)
  have F25_236 : Fld Z h25 b25 "com/example/hodos/hodos/analysis/Course$Arc" "target" "I" (.int (0 : Int32)) := D25 (Or.inr (oW hw 236 rfl)) (ty := .int) (by decide)
  have F25_238 : Fld Z h25 b25 "com/example/hodos/hodos/analysis/Course$Arc" "delay" "Lcom/example/hodos/hodos/model/Time;" .null := D25 (Or.inr (oW hw 238 rfl)) (ty := (.object "com/example/hodos/hodos/model/Time")) (by decide)
  have F25_240 : Fld Z h25 b25 "com/example/hodos/hodos/analysis/Course$Arc" "internal" "Z" (.int (0 : Int32)) := D25 (Or.inr (oW hw 240 rfl)) (ty := .boolean) (by decide)
  have F25_242 : Fld Z h25 b25 "com/example/hodos/hodos/analysis/Course$Arc" "ends" "Z" (.int (0 : Int32)) := D25 (Or.inr (oW hw 242 rfl)) (ty := .boolean) (by decide)
  have F25_244 : Fld Z h25 b25 "com/example/hodos/hodos/analysis/Course$Arc" "origin" "I" (.int (0 : Int32)) := D25 (Or.inr (oW hw 244 rfl)) (ty := .int) (by decide)
  obtain ⟨T36, X36, e36, st36⟩ := getS2 X25 hx hZ hown (host := "") (Or.inl (oW hw 210 rfl)) Via.refl e25 (S_Z.ext O25.2) (g := (mkF m 136 (oA3 p1 p2 p3 m_ u0_ u1_ u2_ u3_ nd (vR (b2)) (vR (b3)) (vR (b10)) oU oU oU oU oU) [(.int (-1 : Int32)), (.int (min u0_ m_).toInt32), (.ref b25), (.ref b25), (.ref b10)])) rfl (hb hby at_136)
  obtain ⟨_, _, ⟨T37, L37, k37, n37⟩, -, X37, S37a, z37a, ⟨Lc37, hQ37, l37, y37, z37⟩, st37⟩ := X36.specialBackS hx (y := Y22_) rfl hown (mvT hZ (oW hw 213 rfl)) (mvT hZ (oW hw 214 rfl)) (mvT hZ (oW hw 215 rfl)) (by decide) (backOfS (W := 2) (r_arc l Z a0 hw [] s_D s_L s_LE s_E s_Z mr kd_ kl_ h25 n0 O25 G0 wS b25 (min u0_ m_).toInt32 (0 : Int32) (0 : Int32) (0 : Int32) A25 g_b25 F25_234 F25_236 F25_238 F25_240 F25_242 F25_244) hZ (oW hw 215 rfl) (oW hw 209 rfl) (by decide) (by decide)) (g := (mkF m 142 (oA3 p1 p2 p3 m_ u0_ u1_ u2_ u3_ nd (vR (b2)) (vR (b3)) (vR (b10)) oU oU oU oU oU) [(.int (0 : Int32)), (.int (0 : Int32)), (.int (0 : Int32)), (.ref s_Z), (.int (-1 : Int32)), (.int (min u0_ m_).toInt32), (.ref b25), (.ref b25), (.ref b10)])) rfl (by rw [hml]; rfl) (Steps.refl _) (a := b25) (argsL := [(.int (min u0_ m_).toInt32), (.int (-1 : Int32)), (.ref s_Z), (.int (0 : Int32)), (.int (0 : Int32)), (.int (0 : Int32))]) (rest := [(.ref b25), (.ref b10)]) (lenOf pd_32 rfl) rfl (by exact Nat.le_of_eq rfl) (hb hby at_142) (fun _ _ => ⟨rfl, e36, (by decide : 4 + 2 ≤ _), (by decide : 16 + 24 ≤ _)⟩)
  dsimp only [Pt.U, Pt.locs, Pt.cells, Pt.slots] at X37 S37a z37a l37 y37 z37 st37 hQ37
  subst l37 y37 z37
  have X37 : Stand p l e room_1 (s.setVm T37.vm) m #[(.int p1), (.int p2), (.int p3)] below meth c T37 _ _ _ := X37
  have S37f : s.Since T37.vm T37.heap.size := foldS (T := T36) hS0 (by rw [e36]; exact hk25) S37a z37a
  have hZ37 : Z.Warmed39 T37.vm := State.Warmed39.trans (t := s.setVm s.vm) hZ S37a.1
  have hown37 : (s.setVm T37.vm).vm.findClass "com/example/hodos/hodos/analysis/CourseArcsFromPinLaw" = some m.cls := by rw [show (s.setVm T37.vm).vm = T37.vm from rfl, S37a.1.alike.findClass]; exact hown
  obtain ⟨rfl, N37q, Kq37, Fs37, Fo37⟩ := hQ37
  have N37 := Fr.app N17 N37q
  have f38 := f26.keep Kq37
  have f39 := f27.keep Kq37 (oN1 ne_b2_b25)
  have f40 := f28.keep Kq37
  have f42 := f30.keep Kq37 (oN1 ne_b3_b25)
  have f43 := f31.keep Kq37 (oN1 ne_b3_b25)
  have f44 := f32.keep Kq37
  have f45 := f33.keep Kq37 (oN1 ne_b10_b25)
  have f46 := f34.keep Kq37 (oN1 ne_b10_b25)
  have f47 := f35.keep Kq37 (oN1 ne_b10_b25)
  have f48 := A25.keep Kq37
  have O37 := O25.keep Kq37 (allS g_b25 all0)
  have K37 : Keep h0 T37.heap [] := K25.trans Kq37 (allS (Or.inr sz_b25) all0)
  obtain ⟨cq49, kq49, q49a, q49b, q49c⟩ := isOf hZ37 rfl f44
  obtain ⟨_, _, ⟨T49, L49, k49, n49⟩, -, X49, ⟨Lc49, hQ49, l49, y49, z49⟩, st49⟩ := X37.virtualBack hx (y := Y7_) (z := Y7_) hown37 (mvT hZ37 (oW hw 245 rfl)) (mvT hZ37 (oW hw 246 rfl)) (notFace_of_selects (args := #[]) (mvT hZ37 (oW hw 248 rfl))) (mvT hZ37 (oW hw 248 rfl)) (mvT hZ37 (oW hw 247 rfl)) (by decide) (backOf (W := 0) (r_add0 l Z a0 hw [] s_D s_L s_LE s_E s_Z mr kd_ kl_ T37.heap n0 O37 G0 b10 (0 : Int32) b25 f44 f45 f46 f47 g_b10 f48) hZ37 (oW hw 249 rfl) (oW hw 8 rfl) (by decide) (by decide)) q49a q49c (g := (mkF m 145 (oA3 p1 p2 p3 m_ u0_ u1_ u2_ u3_ nd (vR (b2)) (vR (b3)) (vR (b10)) oU oU oU oU oU) [(.ref b25), (.ref b10)])) rfl (by rw [hml]; rfl) (Steps.refl _) (argsL := [(.ref b25)]) (rest := []) (lenOf pd_33 rfl) rfl (by exact Nat.le_of_eq rfl) (hb hby at_145) (fun _ _ => ⟨rfl, rfl, (by decide : 6 + 1 ≤ _), (by decide : 40 + 10 ≤ _)⟩)
  dsimp only [Pt.U, Pt.locs, Pt.cells, Pt.slots] at X49 l49 y49 z49 st49 hQ49
  subst l49 y49 z49
  obtain ⟨t49, kt49, rfl, N49q, Kq49, gt49, Fm49, Fe49, Fs49, Et49, Vt49, Ot49⟩ := hQ49
  have N49 := Fr.app N37 N49q
  have ne_b2_t49 := oL f38.lt gt49
  have ne_b3_t49 := oL f40.lt gt49
  have ne_b10_t49 := oL f44.lt gt49
  have ne_b25_t49 := oL f48.lt gt49
  have g_t49 : n0 ≤ t49 := Nat.le_trans (O37.1 ▸ O37.2.1) gt49
  have sz_t49 : h0.size ≤ t49 := Nat.le_trans K37.1 gt49
  have f50 := f38.keep Kq49
  have f51 := f39.keep Kq49 (oN1 ne_b2_b10)
  have f52 := f40.keep Kq49
  have f54 := f42.keep Kq49 (oN1 ne_b3_b10)
  have f55 := f43.keep Kq49 (oN1 ne_b3_b10)
  have f56 := f44.keep Kq49
  have f57 := f48.keep Kq49
  have f58 := Fs37.keep Kq49 (oN1 (Ne.symm ne_b10_b25))
  have f59 := Fo37.keep Kq49 (oN1 (Ne.symm ne_b10_b25))
  have O49 := O37.keep Kq49 (allS g_b10 all0)
  have K49 : Keep h0 T49.heap [] := K37.trans Kq49 (allS (Or.inr sz_b10) all0)
  have hk49 := Nat.le_trans (Nat.le_refl _) Kq49.1
  obtain ⟨T60, h60, X60, e60, E60, A60, D60, -, st60⟩ := newO X49 hx hZ37 hown37 (oW hw 207 rfl) (oW hw 208 rfl) (oW hw 209 rfl) rfl (g := (mkF m 157 (oA3 p1 p2 p3 m_ u0_ u1_ u2_ u3_ nd (vR (b2)) (vR (b3)) (vR (b10)) oU oU oU oU oU) [(.ref b10)])) rfl (hb hby at_157) (by decide) (by decide)
  obtain ⟨b60, g60⟩ := oZ T49.heap.size
  have ne_b2_b60 := oE f50.lt g60
  have ne_b3_b60 := oE f52.lt g60
  have ne_b10_b60 := oE f56.lt g60
  have ne_b25_b60 := oE f57.lt g60
  have ne_t49_b60 := oE Et49.lt g60
  have ne_s_E_b60 : s_E ≠ b60 := Nat.ne_of_lt (Nat.lt_of_lt_of_le (E_E.ext O49.2).lt (Nat.le_of_eq g60.symm))
  have g_b60 : n0 ≤ b60 := Nat.le_trans (O49.1 ▸ O49.2.1) (Nat.le_of_eq g60.symm)
  have sz_b60 : h0.size ≤ b60 := Nat.le_trans K49.1 (Nat.le_of_eq g60.symm)
  rw [← g60] at A60 D60 st60
  have f61 := f50.ext E60
  have f62 := f51.ext E60
  have f63 := f52.ext E60
  have f65 := f54.ext E60
  have f66 := f55.ext E60
  have f67 := f56.ext E60
  have f68 := f57.ext E60
  have f69 := f58.ext E60
  have f70 := f59.ext E60
  have f71 := Et49.ext E60
  have f72 := Vt49.ext E60
  have f73 := Fm49.ext E60
  have f74 := Fe49.ext E60
  have f75 := Fs49.ext E60
  have O60 := O49.ext E60
  have K60 : Keep h0 h60 [] := K49.ext E60
  have hk60 := Nat.le_trans hk49 E60.1
  have F60_234 : Fld Z h60 b60 "com/example/hodos/hodos/analysis/Course$Arc" "source" "I" (.int (0 : Int32)) := D60 (Or.inr (oW hw 234 rfl)) (ty := .int) (by decide)
  have F60_236 : Fld Z h60 b60 "com/example/hodos/hodos/analysis/Course$Arc" "target" "I" (.int (0 : Int32)) := D60 (Or.inr (oW hw 236 rfl)) (ty := .int) (by decide)
  have F60_238 : Fld Z h60 b60 "com/example/hodos/hodos/analysis/Course$Arc" "delay" "Lcom/example/hodos/hodos/model/Time;" .null := D60 (Or.inr (oW hw 238 rfl)) (ty := (.object "com/example/hodos/hodos/model/Time")) (by decide)
  have F60_240 : Fld Z h60 b60 "com/example/hodos/hodos/analysis/Course$Arc" "internal" "Z" (.int (0 : Int32)) := D60 (Or.inr (oW hw 240 rfl)) (ty := .boolean) (by decide)
  have F60_242 : Fld Z h60 b60 "com/example/hodos/hodos/analysis/Course$Arc" "ends" "Z" (.int (0 : Int32)) := D60 (Or.inr (oW hw 242 rfl)) (ty := .boolean) (by decide)
  have F60_244 : Fld Z h60 b60 "com/example/hodos/hodos/analysis/Course$Arc" "origin" "I" (.int (0 : Int32)) := D60 (Or.inr (oW hw 244 rfl)) (ty := .int) (by decide)
  obtain ⟨T76, X76, e76, st76⟩ := getS2 X60 hx hZ37 hown37 (host := "") (Or.inl (oW hw 210 rfl)) Via.refl e60 (S_Z.ext O60.2) (g := (mkF m 164 (oA3 p1 p2 p3 m_ u0_ u1_ u2_ u3_ nd (vR (b2)) (vR (b3)) (vR (b10)) oU oU oU oU oU) [(.int (-1 : Int32)), (.int (min (u0_ + u1_) m_).toInt32), (.ref b60), (.ref b60), (.ref b10)])) rfl (hb hby at_164)
  obtain ⟨_, _, ⟨T77, L77, k77, n77⟩, -, X77, S77a, z77a, ⟨Lc77, hQ77, l77, y77, z77⟩, st77⟩ := X76.specialBackS hx (y := Y22_) rfl hown37 (mvT hZ37 (oW hw 213 rfl)) (mvT hZ37 (oW hw 214 rfl)) (mvT hZ37 (oW hw 215 rfl)) (by decide) (backOfS (W := 2) (r_arc l Z a0 hw [] s_D s_L s_LE s_E s_Z mr kd_ kl_ h60 n0 O60 G0 wS b60 (min (u0_ + u1_) m_).toInt32 (1 : Int32) (0 : Int32) (1 : Int32) A60 g_b60 F60_234 F60_236 F60_238 F60_240 F60_242 F60_244) hZ37 (oW hw 215 rfl) (oW hw 209 rfl) (by decide) (by decide)) (g := (mkF m 170 (oA3 p1 p2 p3 m_ u0_ u1_ u2_ u3_ nd (vR (b2)) (vR (b3)) (vR (b10)) oU oU oU oU oU) [(.int (1 : Int32)), (.int (0 : Int32)), (.int (1 : Int32)), (.ref s_Z), (.int (-1 : Int32)), (.int (min (u0_ + u1_) m_).toInt32), (.ref b60), (.ref b60), (.ref b10)])) rfl (by rw [hml]; rfl) (Steps.refl _) (a := b60) (argsL := [(.int (min (u0_ + u1_) m_).toInt32), (.int (-1 : Int32)), (.ref s_Z), (.int (1 : Int32)), (.int (0 : Int32)), (.int (1 : Int32))]) (rest := [(.ref b60), (.ref b10)]) (lenOf pd_32 rfl) rfl (by exact Nat.le_of_eq rfl) (hb hby at_170) (fun _ _ => ⟨rfl, e76, (by decide : 8 + 2 ≤ _), (by decide : 56 + 24 ≤ _)⟩)
  dsimp only [Pt.U, Pt.locs, Pt.cells, Pt.slots] at X77 S77a z77a l77 y77 z77 st77 hQ77
  subst l77 y77 z77
  have X77 : Stand p l e room_1 (s.setVm T77.vm) m #[(.int p1), (.int p2), (.int p3)] below meth c T77 _ _ _ := X77
  have S77f : s.Since T77.vm T77.heap.size := foldS (T := T76) S37f (by rw [e76]; exact hk60) S77a z77a
  have hZ77 : Z.Warmed39 T77.vm := State.Warmed39.trans (t := s.setVm T37.vm) hZ37 S77a.1
  have hown77 : (s.setVm T77.vm).vm.findClass "com/example/hodos/hodos/analysis/CourseArcsFromPinLaw" = some m.cls := by rw [show (s.setVm T77.vm).vm = T77.vm from rfl, S77a.1.alike.findClass]; exact hown37
  obtain ⟨rfl, N77q, Kq77, Fs77, Fo77⟩ := hQ77
  have N77 := Fr.app N49 N77q
  have f78 := f61.keep Kq77
  have f79 := f62.keep Kq77 (oN1 ne_b2_b60)
  have f80 := f63.keep Kq77
  have f82 := f65.keep Kq77 (oN1 ne_b3_b60)
  have f83 := f66.keep Kq77 (oN1 ne_b3_b60)
  have f84 := f67.keep Kq77
  have f85 := f68.keep Kq77
  have f86 := f69.keep Kq77 (oN1 ne_b25_b60)
  have f87 := f70.keep Kq77 (oN1 ne_b25_b60)
  have f88 := f71.keep Kq77
  have f89 := f72.keep Kq77 (oN1 ne_t49_b60)
  have f90 := f73.keep Kq77 (oN1 ne_b10_b60)
  have f91 := f74.keep Kq77 (oN1 ne_b10_b60)
  have f92 := f75.keep Kq77 (oN1 ne_b10_b60)
  have f93 := A60.keep Kq77
  have O77 := O60.keep Kq77 (allS g_b60 all0)
  have K77 : Keep h0 T77.heap [] := K60.trans Kq77 (allS (Or.inr sz_b60) all0)
  obtain ⟨cq94, kq94, q94a, q94b, q94c⟩ := isOf hZ77 rfl f84
  obtain ⟨_, _, ⟨T94, L94, k94, n94⟩, -, X94, ⟨Lc94, hQ94, l94, y94, z94⟩, st94⟩ := X77.virtualBack hx (y := Y7_) (z := Y7_) hown77 (mvT hZ77 (oW hw 245 rfl)) (mvT hZ77 (oW hw 246 rfl)) (notFace_of_selects (args := #[]) (mvT hZ77 (oW hw 248 rfl))) (mvT hZ77 (oW hw 248 rfl)) (mvT hZ77 (oW hw 247 rfl)) (by decide) (backOf (W := 0) (r_add1 l Z a0 hw [] s_D s_L s_LE s_E s_Z mr kd_ kl_ T77.heap n0 O77 G0 b10 ((0 : Int32) + (1 : Int32)) t49 kt49 b25 b60 f84 f90 f91 f92 f88 f89 Ot49 g_b10 f93 g_t49 ne_b10_t49) hZ77 (oW hw 249 rfl) (oW hw 8 rfl) (by decide) (by decide)) q94a q94c (g := (mkF m 173 (oA3 p1 p2 p3 m_ u0_ u1_ u2_ u3_ nd (vR (b2)) (vR (b3)) (vR (b10)) oU oU oU oU oU) [(.ref b60), (.ref b10)])) rfl (by rw [hml]; rfl) (Steps.refl _) (argsL := [(.ref b60)]) (rest := []) (lenOf pd_33 rfl) rfl (by exact Nat.le_of_eq rfl) (hb hby at_173) (fun _ _ => ⟨rfl, rfl, (by decide : 10 + 0 ≤ _), (by decide : 80 + 0 ≤ _)⟩)
  dsimp only [Pt.U, Pt.locs, Pt.cells, Pt.slots] at X94 l94 y94 z94 st94 hQ94
  subst l94 y94 z94
  obtain ⟨rfl, N94q, Kq94, Fm94, Fe94, Fs94, Vt94⟩ := hQ94
  have N94 := Fr.app N77 N94q
  have f95 := f78.keep Kq94
  have f96 := f79.keep Kq94 (oN2 ne_b2_b10 ne_b2_t49)
  have f97 := f80.keep Kq94
  have f99 := f82.keep Kq94 (oN2 ne_b3_b10 ne_b3_t49)
  have f100 := f83.keep Kq94 (oN2 ne_b3_b10 ne_b3_t49)
  have f101 := f84.keep Kq94
  have f102 := f85.keep Kq94
  have f103 := f86.keep Kq94 (oN2 (Ne.symm ne_b10_b25) ne_b25_t49)
  have f104 := f87.keep Kq94 (oN2 (Ne.symm ne_b10_b25) ne_b25_t49)
  have f105 := f88.keep Kq94
  have f106 := f93.keep Kq94
  have f107 := Fs77.keep Kq94 (oN2 (Ne.symm ne_b10_b60) (Ne.symm ne_t49_b60))
  have f108 := Fo77.keep Kq94 (oN2 (Ne.symm ne_b10_b60) (Ne.symm ne_t49_b60))
  have O94 := O77.keep Kq94 (allS g_b10 (allS g_t49 all0))
  have K94 : Keep h0 T94.heap [] := K77.trans Kq94 (allS (Or.inr sz_b10) (allS (Or.inr sz_t49) all0))
  have hk94 := Nat.le_trans (Nat.le_refl _) Kq94.1
  obtain ⟨T109, h109, X109, e109, E109, A109, D109, -, st109⟩ := newO X94 hx hZ77 hown77 (oW hw 207 rfl) (oW hw 208 rfl) (oW hw 209 rfl) rfl (g := (mkF m 185 (oA3 p1 p2 p3 m_ u0_ u1_ u2_ u3_ nd (vR (b2)) (vR (b3)) (vR (b10)) oU oU oU oU oU) [(.ref b10)])) rfl (hb hby at_185) (by decide) (by decide)
  obtain ⟨b109, g109⟩ := oZ T94.heap.size
  have ne_b2_b109 := oE f95.lt g109
  have ne_b3_b109 := oE f97.lt g109
  have ne_b10_b109 := oE f101.lt g109
  have ne_b25_b109 := oE f102.lt g109
  have ne_t49_b109 := oE f105.lt g109
  have ne_b60_b109 := oE f106.lt g109
  have g_b109 : n0 ≤ b109 := Nat.le_trans (O94.1 ▸ O94.2.1) (Nat.le_of_eq g109.symm)
  have sz_b109 : h0.size ≤ b109 := Nat.le_trans K94.1 (Nat.le_of_eq g109.symm)
  rw [← g109] at A109 D109 st109
  have f110 := f95.ext E109
  have f111 := f96.ext E109
  have f112 := f97.ext E109
  have f114 := f99.ext E109
  have f115 := f100.ext E109
  have f116 := f101.ext E109
  have f117 := f102.ext E109
  have f118 := f103.ext E109
  have f119 := f104.ext E109
  have f120 := f105.ext E109
  have f121 := f106.ext E109
  have f122 := f107.ext E109
  have f123 := f108.ext E109
  have f124 := Vt94.ext E109
  have f125 := Fm94.ext E109
  have f126 := Fe94.ext E109
  have f127 := Fs94.ext E109
  have O109 := O94.ext E109
  have K109 : Keep h0 h109 [] := K94.ext E109
  have hk109 := Nat.le_trans hk94 E109.1
  have F109_234 : Fld Z h109 b109 "com/example/hodos/hodos/analysis/Course$Arc" "source" "I" (.int (0 : Int32)) := D109 (Or.inr (oW hw 234 rfl)) (ty := .int) (by decide)
  have F109_236 : Fld Z h109 b109 "com/example/hodos/hodos/analysis/Course$Arc" "target" "I" (.int (0 : Int32)) := D109 (Or.inr (oW hw 236 rfl)) (ty := .int) (by decide)
  have F109_238 : Fld Z h109 b109 "com/example/hodos/hodos/analysis/Course$Arc" "delay" "Lcom/example/hodos/hodos/model/Time;" .null := D109 (Or.inr (oW hw 238 rfl)) (ty := (.object "com/example/hodos/hodos/model/Time")) (by decide)
  have F109_240 : Fld Z h109 b109 "com/example/hodos/hodos/analysis/Course$Arc" "internal" "Z" (.int (0 : Int32)) := D109 (Or.inr (oW hw 240 rfl)) (ty := .boolean) (by decide)
  have F109_242 : Fld Z h109 b109 "com/example/hodos/hodos/analysis/Course$Arc" "ends" "Z" (.int (0 : Int32)) := D109 (Or.inr (oW hw 242 rfl)) (ty := .boolean) (by decide)
  have F109_244 : Fld Z h109 b109 "com/example/hodos/hodos/analysis/Course$Arc" "origin" "I" (.int (0 : Int32)) := D109 (Or.inr (oW hw 244 rfl)) (ty := .int) (by decide)
  obtain ⟨T128, X128, e128, st128⟩ := getS2 X109 hx hZ77 hown77 (host := "") (Or.inl (oW hw 210 rfl)) Via.refl e109 (S_Z.ext O109.2) (g := (mkF m 192 (oA3 p1 p2 p3 m_ u0_ u1_ u2_ u3_ nd (vR (b2)) (vR (b3)) (vR (b10)) oU oU oU oU oU) [(.int (-1 : Int32)), (.int (min (u0_ + u1_ + u2_) m_).toInt32), (.ref b109), (.ref b109), (.ref b10)])) rfl (hb hby at_192)
  obtain ⟨_, _, ⟨T129, L129, k129, n129⟩, -, X129, S129a, z129a, ⟨Lc129, hQ129, l129, y129, z129⟩, st129⟩ := X128.specialBackS hx (y := Y22_) rfl hown77 (mvT hZ77 (oW hw 213 rfl)) (mvT hZ77 (oW hw 214 rfl)) (mvT hZ77 (oW hw 215 rfl)) (by decide) (backOfS (W := 2) (r_arc l Z a0 hw [] s_D s_L s_LE s_E s_Z mr kd_ kl_ h109 n0 O109 G0 wS b109 (min (u0_ + u1_ + u2_) m_).toInt32 (0 : Int32) (1 : Int32) (2 : Int32) A109 g_b109 F109_234 F109_236 F109_238 F109_240 F109_242 F109_244) hZ77 (oW hw 215 rfl) (oW hw 209 rfl) (by decide) (by decide)) (g := (mkF m 198 (oA3 p1 p2 p3 m_ u0_ u1_ u2_ u3_ nd (vR (b2)) (vR (b3)) (vR (b10)) oU oU oU oU oU) [(.int (2 : Int32)), (.int (1 : Int32)), (.int (0 : Int32)), (.ref s_Z), (.int (-1 : Int32)), (.int (min (u0_ + u1_ + u2_) m_).toInt32), (.ref b109), (.ref b109), (.ref b10)])) rfl (by rw [hml]; rfl) (Steps.refl _) (a := b109) (argsL := [(.int (min (u0_ + u1_ + u2_) m_).toInt32), (.int (-1 : Int32)), (.ref s_Z), (.int (0 : Int32)), (.int (1 : Int32)), (.int (2 : Int32))]) (rest := [(.ref b109), (.ref b10)]) (lenOf pd_32 rfl) rfl (by exact Nat.le_of_eq rfl) (hb hby at_198) (fun _ _ => ⟨rfl, e128, (by decide : 11 + 2 ≤ _), (by decide : 86 + 24 ≤ _)⟩)
  dsimp only [Pt.U, Pt.locs, Pt.cells, Pt.slots] at X129 S129a z129a l129 y129 z129 st129 hQ129
  subst l129 y129 z129
  have X129 : Stand p l e room_1 (s.setVm T129.vm) m #[(.int p1), (.int p2), (.int p3)] below meth c T129 _ _ _ := X129
  have S129f : s.Since T129.vm T129.heap.size := foldS (T := T128) S77f (by rw [e128]; exact hk109) S129a z129a
  have hZ129 : Z.Warmed39 T129.vm := State.Warmed39.trans (t := s.setVm T77.vm) hZ77 S129a.1
  have hown129 : (s.setVm T129.vm).vm.findClass "com/example/hodos/hodos/analysis/CourseArcsFromPinLaw" = some m.cls := by rw [show (s.setVm T129.vm).vm = T129.vm from rfl, S129a.1.alike.findClass]; exact hown77
  obtain ⟨rfl, N129q, Kq129, Fs129, Fo129⟩ := hQ129
  have N129 := Fr.app N94 N129q
  have f130 := f110.keep Kq129
  have f131 := f111.keep Kq129 (oN1 ne_b2_b109)
  have f132 := f112.keep Kq129
  have f134 := f114.keep Kq129 (oN1 ne_b3_b109)
  have f135 := f115.keep Kq129 (oN1 ne_b3_b109)
  have f136 := f116.keep Kq129
  have f137 := f117.keep Kq129
  have f138 := f118.keep Kq129 (oN1 ne_b25_b109)
  have f139 := f119.keep Kq129 (oN1 ne_b25_b109)
  have f140 := f120.keep Kq129
  have f141 := f121.keep Kq129
  have f142 := f122.keep Kq129 (oN1 ne_b60_b109)
  have f143 := f123.keep Kq129 (oN1 ne_b60_b109)
  have f144 := f124.keep Kq129 (oN1 ne_t49_b109)
  have f145 := f125.keep Kq129 (oN1 ne_b10_b109)
  have f146 := f126.keep Kq129 (oN1 ne_b10_b109)
  have f147 := f127.keep Kq129 (oN1 ne_b10_b109)
  have f148 := A109.keep Kq129
  have O129 := O109.keep Kq129 (allS g_b109 all0)
  have K129 : Keep h0 T129.heap [] := K109.trans Kq129 (allS (Or.inr sz_b109) all0)
  obtain ⟨cq149, kq149, q149a, q149b, q149c⟩ := isOf hZ129 rfl f136
  obtain ⟨_, _, ⟨T149, L149, k149, n149⟩, -, X149, ⟨Lc149, hQ149, l149, y149, z149⟩, st149⟩ := X129.virtualBack hx (y := Y7_) (z := Y7_) hown129 (mvT hZ129 (oW hw 245 rfl)) (mvT hZ129 (oW hw 246 rfl)) (notFace_of_selects (args := #[]) (mvT hZ129 (oW hw 248 rfl))) (mvT hZ129 (oW hw 248 rfl)) (mvT hZ129 (oW hw 247 rfl)) (by decide) (backOf (W := 0) (r_add2 l Z a0 hw [] s_D s_L s_LE s_E s_Z mr kd_ kl_ T129.heap n0 O129 G0 b10 (((0 : Int32) + (1 : Int32)) + (1 : Int32)) t49 kt49 b25 b60 b109 f136 f145 f146 f147 f140 f144 Ot49 g_b10 f148 g_t49 ne_b10_t49) hZ129 (oW hw 249 rfl) (oW hw 8 rfl) (by decide) (by decide)) q149a q149c (g := (mkF m 201 (oA3 p1 p2 p3 m_ u0_ u1_ u2_ u3_ nd (vR (b2)) (vR (b3)) (vR (b10)) oU oU oU oU oU) [(.ref b109), (.ref b10)])) rfl (by rw [hml]; rfl) (Steps.refl _) (argsL := [(.ref b109)]) (rest := []) (lenOf pd_33 rfl) rfl (by exact Nat.le_of_eq rfl) (hb hby at_201) (fun _ _ => ⟨rfl, rfl, (by decide : 13 + 0 ≤ _), (by decide : 110 + 0 ≤ _)⟩)
  dsimp only [Pt.U, Pt.locs, Pt.cells, Pt.slots] at X149 l149 y149 z149 st149 hQ149
  subst l149 y149 z149
  obtain ⟨rfl, N149q, Kq149, Fm149, Fe149, Fs149, Vt149⟩ := hQ149
  have N149 := Fr.app N129 N149q
  have f150 := f130.keep Kq149
  have f151 := f131.keep Kq149 (oN2 ne_b2_b10 ne_b2_t49)
  have f152 := f132.keep Kq149
  have f154 := f134.keep Kq149 (oN2 ne_b3_b10 ne_b3_t49)
  have f155 := f135.keep Kq149 (oN2 ne_b3_b10 ne_b3_t49)
  have f156 := f136.keep Kq149
  have f157 := f137.keep Kq149
  have f158 := f138.keep Kq149 (oN2 (Ne.symm ne_b10_b25) ne_b25_t49)
  have f159 := f139.keep Kq149 (oN2 (Ne.symm ne_b10_b25) ne_b25_t49)
  have f160 := f140.keep Kq149
  have f161 := f141.keep Kq149
  have f162 := f142.keep Kq149 (oN2 (Ne.symm ne_b10_b60) (Ne.symm ne_t49_b60))
  have f163 := f143.keep Kq149 (oN2 (Ne.symm ne_b10_b60) (Ne.symm ne_t49_b60))
  have f164 := f148.keep Kq149
  have f165 := Fs129.keep Kq149 (oN2 (Ne.symm ne_b10_b109) (Ne.symm ne_t49_b109))
  have f166 := Fo129.keep Kq149 (oN2 (Ne.symm ne_b10_b109) (Ne.symm ne_t49_b109))
  have O149 := O129.keep Kq149 (allS g_b10 (allS g_t49 all0))
  have K149 : Keep h0 T149.heap [] := K129.trans Kq149 (allS (Or.inr sz_b10) (allS (Or.inr sz_t49) all0))
  have hk149 := Nat.le_trans (Nat.le_refl _) Kq149.1
  obtain ⟨T167, h167, X167, e167, E167, A167, D167, -, st167⟩ := newO X149 hx hZ129 hown129 (oW hw 32 rfl) (oW hw 33 rfl) (oW hw 34 rfl) rfl (g := (mkF m 233 (oA3 p1 p2 p3 m_ u0_ u1_ u2_ u3_ nd (vR (b2)) (vR (b3)) (vR (b10)) oU oU oU oU oU) [])) rfl (hb hby at_233) (by decide) (by decide)
  obtain ⟨b167, g167⟩ := oZ T149.heap.size
  have ne_b25_b167 := oE f157.lt g167
  have ne_b60_b167 := oE f161.lt g167
  have ne_b109_b167 := oE f164.lt g167
  have g_b167 : n0 ≤ b167 := Nat.le_trans (O149.1 ▸ O149.2.1) (Nat.le_of_eq g167.symm)
  have sz_b167 : h0.size ≤ b167 := Nat.le_trans K149.1 (Nat.le_of_eq g167.symm)
  rw [← g167] at A167 D167 st167
  have f168 := f150.ext E167
  have f169 := f151.ext E167
  have f170 := f152.ext E167
  have f172 := f154.ext E167
  have f173 := f155.ext E167
  have f174 := f156.ext E167
  have f175 := f157.ext E167
  have f176 := f158.ext E167
  have f177 := f159.ext E167
  have f178 := f160.ext E167
  have f179 := f161.ext E167
  have f180 := f162.ext E167
  have f181 := f163.ext E167
  have f182 := f164.ext E167
  have f183 := f165.ext E167
  have f184 := f166.ext E167
  have f185 := Vt149.ext E167
  have f187 := Fe149.ext E167
  have f188 := Fs149.ext E167
  have O167 := O149.ext E167
  have K167 : Keep h0 h167 [] := K149.ext E167
  have hk167 := Nat.le_trans hk149 E167.1
  have F167_49 : Fld Z h167 b167 "com/example/hodos/hodos/analysis/Course" "stops" "[Z" .null := D167 (Or.inr (oW hw 49 rfl)) (ty := (.array .boolean)) (by decide)
  have F167_80 : Fld Z h167 b167 "com/example/hodos/hodos/analysis/Course" "starts" "Ljava/util/List;" .null := D167 (Or.inr (oW hw 80 rfl)) (ty := (.object "java/util/List")) (by decide)
  have F167_82 : Fld Z h167 b167 "com/example/hodos/hodos/analysis/Course" "arcs" "Ljava/util/List;" .null := D167 (Or.inr (oW hw 82 rfl)) (ty := (.object "java/util/List")) (by decide)
  have F167_136 : Fld Z h167 b167 "com/example/hodos/hodos/analysis/Course" "firstArc" "[I" .null := D167 (Or.inr (oW hw 136 rfl)) (ty := (.array .int)) (by decide)
  obtain ⟨_, _, ⟨T189, L189, k189, n189⟩, -, X189, ⟨Lc189, hQ189, l189, y189, z189⟩, st189⟩ := X167.specialBack hx (y := Y45_) rfl hown129 (mvT hZ129 (oW hw 35 rfl)) (mvT hZ129 (oW hw 36 rfl)) (mvT hZ129 (oW hw 37 rfl)) (by decide) (backOf (W := 1) (r_coi1 l Z a0 hw [] s_D s_L s_LE s_E s_Z mr kd_ kl_ h167 n0 O167 G0 b167 b2 b3 b10 ka2 [] (m_ + 1) [(min u0_ m_), (min (u0_ + u1_) m_), (min (u0_ + u1_ + u2_) m_)] t49 kt49 [b25, b60, b109] A167 g_b167 F167_49 F167_80 F167_82 F167_136 f168 f169 hN5 f170 f172 f173 f174 f187 f188 f178 f185 (Nat.le_of_ble_eq_true rfl) (Nat.le_of_ble_eq_true rfl) (fun _ => (Ne.symm ne_s_E_b60)) (own_arcs3 f175 f176 f177 f179 f180 f181 f182 f183 f184) (own_hss3 (Nat.lt_succ_of_le own_mn) (Nat.lt_succ_of_le own_mn) (Nat.lt_succ_of_le own_mn))) hZ129 (oW hw 37 rfl) (oW hw 34 rfl) (by decide) (by decide)) (g := (mkF m 243 (oA3 p1 p2 p3 m_ u0_ u1_ u2_ u3_ nd (vR (b2)) (vR (b3)) (vR (b10)) oU oU oU oU oU) [(.ref b10), (.ref b3), (.ref b2), (.ref b167), (.ref b167)])) rfl (by rw [hml]; rfl) (Steps.refl _) (a := b167) (argsL := [(.ref b2), (.ref b3), (.ref b10)]) (rest := [(.ref b167)]) (lenOf pd_30 rfl) rfl (by exact Nat.le_of_eq rfl) (hb hby at_243) (fun _ _ => ⟨rfl, e167, (by decide : 14 + 6 ≤ _), (by decide : 114 + 23 ≤ _)⟩)
  dsimp only [Pt.U, Pt.locs, Pt.cells, Pt.slots] at X189 l189 y189 z189 st189 hQ189
  subst l189 y189 z189
  obtain ⟨rfl, N189q, Kq189, Co189⟩ := hQ189
  have N189 := Fr.app N149 N189q
  have f197 := f175.keep Kq189
  have f198 := f176.keep Kq189 (oN1 ne_b25_b167)
  have f199 := f177.keep Kq189 (oN1 ne_b25_b167)
  have f201 := f179.keep Kq189
  have f202 := f180.keep Kq189 (oN1 ne_b60_b167)
  have f203 := f181.keep Kq189 (oN1 ne_b60_b167)
  have f204 := f182.keep Kq189
  have f205 := f183.keep Kq189 (oN1 ne_b109_b167)
  have f206 := f184.keep Kq189 (oN1 ne_b109_b167)
  have f211 := A167.keep Kq189
  have O189 := O167.keep Kq189 (allS g_b167 all0)
  have K189 : Keep h0 T189.heap [] := K167.trans Kq189 (allS (Or.inr sz_b167) all0)
  have hk189 := Nat.le_trans hk167 Kq189.1
  obtain ⟨cq212, kq212, q212a, q212b, q212c⟩ := isOf hZ129 rfl f211
  obtain ⟨_, _, ⟨T212, L212, k212, n212⟩, -, X212, ⟨Lc212, hQ212, l212, y212, z212⟩, st212⟩ := X189.virtualBack hx (y := Y52_) (z := Y52_) hown129 (mvT hZ129 (oW hw 137 rfl)) (mvT hZ129 (oW hw 138 rfl)) (notFace_of_selects (args := #[]) (mvT hZ129 (oW hw 140 rfl))) (mvT hZ129 (oW hw 140 rfl)) (mvT hZ129 (oW hw 139 rfl)) (by decide) (backOf (W := 0) (r_af l Z a0 hw [] s_D s_L s_LE s_E s_Z mr kd_ kl_ T189.heap n0 O189 G0 b167 (m_ + 1) nd [b25, b60, b109] [(min u0_ m_), (min (u0_ + u1_) m_), (min (u0_ + u1_ + u2_) m_)] Co189 hN5 hnd1 rfl (Nat.le_of_ble_eq_true rfl)) hZ129 (oW hw 141 rfl) (oW hw 34 rfl) (by decide) (by decide)) q212a q212c (g := (mkF m 252 (oA3 p1 p2 p3 m_ u0_ u1_ u2_ u3_ nd (vR (b2)) (vR (b3)) (vR (b10)) (vR (b167)) oU oU oU oU) [(.int nd.toInt32), (.ref b167)])) rfl (by rw [hml]; rfl) (Steps.refl _) (argsL := [(.int nd.toInt32)]) (rest := []) (lenOf pd_31 rfl) rfl (by exact Nat.le_of_eq rfl) (hb hby at_252) (fun _ _ => ⟨rfl, rfl, (by decide : 20 + 1 ≤ _), (by decide : 137 + 3 ≤ _)⟩)
  dsimp only [Pt.U, Pt.locs, Pt.cells, Pt.slots] at X212 l212 y212 z212 st212 hQ212
  subst l212 y212 z212
  obtain ⟨la212, Iq212, ta212, rfl, N212q, Kq212, Sl212⟩ := hQ212
  have N212 := Fr.app N189 N212q
  have f220 := f197.keep Kq212
  have f221 := f198.keep Kq212 (fun q => nomatch q)
  have f222 := f199.keep Kq212 (fun q => nomatch q)
  have f224 := f201.keep Kq212
  have f225 := f202.keep Kq212 (fun q => nomatch q)
  have f226 := f203.keep Kq212 (fun q => nomatch q)
  have f227 := f204.keep Kq212
  have f228 := f205.keep Kq212 (fun q => nomatch q)
  have f229 := f206.keep Kq212 (fun q => nomatch q)
  have O212 := O189.keep Kq212 all0
  have K212 : Keep h0 T212.heap [] := K189.trans Kq212 all0
  have hk212 := Nat.le_trans hk189 Kq212.1
  obtain ⟨T235, h235, L235, X235, e235, N235, O235, q235h, st235⟩ := t_ls s_D s_L s_LE s_E s_Z mr kd_ kl_ p1 p2 p3 (m_ + 1).toInt32 u0_.toInt32 (u0_ + u1_).toInt32 (u0_ + u1_ + u2_).toInt32 (u0_ + u1_ + u2_ + u3_).toInt32 3 (min u0_ m_) (min (u0_ + u1_) m_) (min (u0_ + u1_ + u2_) m_) (min (u0_ + u1_ + u2_ + u3_) m_) nd b2 b3 b10 b167 ta212 la212 [b25, b60, b109] [(min u0_ m_), (min (u0_ + u1_) m_), (min (u0_ + u1_ + u2_) m_)] 21 140 (by decide) (by decide) X212 hx hZ129 hw hby hml hown129 rfl N212 O212 G0 Sl212 (own_IL_keep Kq212 Iq212) (own_arcs3 f220 f221 f222 f224 f225 f226 f227 f228 f229) (Nat.le_of_ble_eq_true rfl) rfl (by decide) hnd4 (Nat.le_trans own_mn (Nat.le_trans hm3 (by decide))) (Nat.le_trans own_mn (Nat.le_trans hm3 (by decide))) (Nat.le_trans own_mn (Nat.le_trans hm3 (by decide))) (Nat.le_trans own_mn (Nat.le_trans hm3 (by decide)))
  obtain rfl : T212.heap = h235 := q235h.symm
  obtain ⟨fs, hr, hrun, hended, hRW⟩ := X235.leaveW S129f (by rw [e235]; exact hk212) (v := some (.int (1 : Int32))) (oR Bd.returns)
  refine ⟨_, _, pre0 _ ?_, hrun, hended, _, _, rfl, ?_, hRW.1, hRW.2.1, hRW.2.2.1, hRW.2.2.2.mono (by decide) (by decide)⟩
  · show own_St p e below s₁ m 0 #[vI (p1), vI (p2), vI (p3), .unset, .unset, .unset, .unset, .unset, .unset, .unset, .unset, .unset, .unset, .unset, .unset, .unset, .unset, .unset, .unset, .unset, .unset, .unset] [] _
    refine st1 _ ?_
    show own_St p e below T1 m 99 (oA3 p1 p2 p3 m_ u0_ u1_ u2_ u3_ nd oU oU oU oU oU oU oU oU) [] _
    refine XS.iloadN X1.here hx rfl (hb hby at_99) rfl ?_
    refine st2 _ ?_
    show own_St p e below T2 m 102 (oA3 p1 p2 p3 m_ u0_ u1_ u2_ u3_ nd oU oU oU oU oU oU oU oU) [(.ref b2)] _
    refine XS.astore X2.here hx rfl (hb hby at_102) rfl rfl (l' := (oA3 p1 p2 p3 m_ u0_ u1_ u2_ u3_ nd (vR (b2)) oU oU oU oU oU oU oU)) rfl ?_
    refine st3 _ ?_
    show own_St p e below T3 m 107 (oA3 p1 p2 p3 m_ u0_ u1_ u2_ u3_ nd (vR (b2)) oU oU oU oU oU oU oU) [(.ref b3)] _
    refine XS.dup X3.here hx rfl (hb hby at_107) rfl rfl ?_
    refine st6.trans ?_
    show own_St p e below T6 m 111 (oA3 p1 p2 p3 m_ u0_ u1_ u2_ u3_ nd (vR (b2)) oU oU oU oU oU oU oU) [(.ref b3)] _
    refine XS.astore X6.here hx rfl (hb hby at_111) rfl rfl (l' := (oA3 p1 p2 p3 m_ u0_ u1_ u2_ u3_ nd (vR (b2)) (vR (b3)) oU oU oU oU oU oU)) rfl ?_
    refine st10 _ ?_
    show own_St p e below T10 m 116 (oA3 p1 p2 p3 m_ u0_ u1_ u2_ u3_ nd (vR (b2)) (vR (b3)) oU oU oU oU oU oU) [(.ref b10)] _
    refine XS.dup X10.here hx rfl (hb hby at_116) rfl rfl ?_
    refine st17.trans ?_
    show own_St p e below T17 m 120 (oA3 p1 p2 p3 m_ u0_ u1_ u2_ u3_ nd (vR (b2)) (vR (b3)) oU oU oU oU oU oU) [(.ref b10)] _
    refine XS.astore X17.here hx rfl (hb hby at_120) rfl rfl (l' := (oA3 p1 p2 p3 m_ u0_ u1_ u2_ u3_ nd (vR (b2)) (vR (b3)) (vR (b10)) oU oU oU oU oU)) rfl ?_
    refine XS.iload X17.here hx rfl (hb hby at_122) rfl ?_
    refine XS.ifNo X17.here hx rfl (hb hby at_124) rfl ((if0 _ _).trans (tlt (by decide : (0 : Int32) < (3 : Int32))).2.2.2) ?_
    refine XS.aload X17.here hx rfl (hb hby at_127) rfl rfl ?_
    refine st25 _ ?_
    show own_St p e below T25 m 132 (oA3 p1 p2 p3 m_ u0_ u1_ u2_ u3_ nd (vR (b2)) (vR (b3)) (vR (b10)) oU oU oU oU oU) [(.ref b25), (.ref b10)] _
    refine XS.dup X25.here hx rfl (hb hby at_132) rfl rfl ?_
    refine XS.iload X25.here hx rfl (hb hby at_133) rfl ?_
    refine XS.iconst X25.here hx rfl (hb hby at_135) ?_
    refine st36 _ ?_
    show own_St p e below T36 m 139 (oA3 p1 p2 p3 m_ u0_ u1_ u2_ u3_ nd (vR (b2)) (vR (b3)) (vR (b10)) oU oU oU oU oU) [(.ref s_Z), (.int (-1 : Int32)), (.int (min u0_ m_).toInt32), (.ref b25), (.ref b25), (.ref b10)] _
    refine XS.iconst X36.here hx rfl (hb hby at_139) ?_
    refine XS.iconst X36.here hx rfl (hb hby at_140) ?_
    refine XS.iconst X36.here hx rfl (hb hby at_141) ?_
    refine st37.trans ?_
    refine st49.trans ?_
    show own_St p e below T49 m 148 (oA3 p1 p2 p3 m_ u0_ u1_ u2_ u3_ nd (vR (b2)) (vR (b3)) (vR (b10)) oU oU oU oU oU) [(.int (1 : Int32))] _
    refine XS.pop X49.here hx rfl (hb hby at_148) rfl rfl ?_
    show own_St p e below T49 m 149 (oA3 p1 p2 p3 m_ u0_ u1_ u2_ u3_ nd (vR (b2)) (vR (b3)) (vR (b10)) oU oU oU oU oU) [] _
    refine XS.iload X49.here hx rfl (hb hby at_149) rfl ?_
    refine XS.iconst X49.here hx rfl (hb hby at_151) ?_
    refine XS.icmpNo X49.here hx rfl (hb hby at_152) rfl (tlt (by decide : (1 : Int32) < (3 : Int32))).2.2.2 ?_
    refine XS.aload X49.here hx rfl (hb hby at_155) rfl rfl ?_
    refine st60 _ ?_
    show own_St p e below T60 m 160 (oA3 p1 p2 p3 m_ u0_ u1_ u2_ u3_ nd (vR (b2)) (vR (b3)) (vR (b10)) oU oU oU oU oU) [(.ref b60), (.ref b10)] _
    refine XS.dup X60.here hx rfl (hb hby at_160) rfl rfl ?_
    refine XS.iload X60.here hx rfl (hb hby at_161) rfl ?_
    refine XS.iconst X60.here hx rfl (hb hby at_163) ?_
    refine st76 _ ?_
    show own_St p e below T76 m 167 (oA3 p1 p2 p3 m_ u0_ u1_ u2_ u3_ nd (vR (b2)) (vR (b3)) (vR (b10)) oU oU oU oU oU) [(.ref s_Z), (.int (-1 : Int32)), (.int (min (u0_ + u1_) m_).toInt32), (.ref b60), (.ref b60), (.ref b10)] _
    refine XS.iconst X76.here hx rfl (hb hby at_167) ?_
    refine XS.iconst X76.here hx rfl (hb hby at_168) ?_
    refine XS.iconst X76.here hx rfl (hb hby at_169) ?_
    refine st77.trans ?_
    refine st94.trans ?_
    show own_St p e below T94 m 176 (oA3 p1 p2 p3 m_ u0_ u1_ u2_ u3_ nd (vR (b2)) (vR (b3)) (vR (b10)) oU oU oU oU oU) [(.int (1 : Int32))] _
    refine XS.pop X94.here hx rfl (hb hby at_176) rfl rfl ?_
    show own_St p e below T94 m 177 (oA3 p1 p2 p3 m_ u0_ u1_ u2_ u3_ nd (vR (b2)) (vR (b3)) (vR (b10)) oU oU oU oU oU) [] _
    refine XS.iload X94.here hx rfl (hb hby at_177) rfl ?_
    refine XS.iconst X94.here hx rfl (hb hby at_179) ?_
    refine XS.icmpNo X94.here hx rfl (hb hby at_180) rfl (tlt (by decide : (2 : Int32) < (3 : Int32))).2.2.2 ?_
    refine XS.aload X94.here hx rfl (hb hby at_183) rfl rfl ?_
    refine st109 _ ?_
    show own_St p e below T109 m 188 (oA3 p1 p2 p3 m_ u0_ u1_ u2_ u3_ nd (vR (b2)) (vR (b3)) (vR (b10)) oU oU oU oU oU) [(.ref b109), (.ref b10)] _
    refine XS.dup X109.here hx rfl (hb hby at_188) rfl rfl ?_
    refine XS.iload X109.here hx rfl (hb hby at_189) rfl ?_
    refine XS.iconst X109.here hx rfl (hb hby at_191) ?_
    refine st128 _ ?_
    show own_St p e below T128 m 195 (oA3 p1 p2 p3 m_ u0_ u1_ u2_ u3_ nd (vR (b2)) (vR (b3)) (vR (b10)) oU oU oU oU oU) [(.ref s_Z), (.int (-1 : Int32)), (.int (min (u0_ + u1_ + u2_) m_).toInt32), (.ref b109), (.ref b109), (.ref b10)] _
    refine XS.iconst X128.here hx rfl (hb hby at_195) ?_
    refine XS.iconst X128.here hx rfl (hb hby at_196) ?_
    refine XS.iconst X128.here hx rfl (hb hby at_197) ?_
    refine st129.trans ?_
    refine st149.trans ?_
    show own_St p e below T149 m 204 (oA3 p1 p2 p3 m_ u0_ u1_ u2_ u3_ nd (vR (b2)) (vR (b3)) (vR (b10)) oU oU oU oU oU) [(.int (1 : Int32))] _
    refine XS.pop X149.here hx rfl (hb hby at_204) rfl rfl ?_
    show own_St p e below T149 m 205 (oA3 p1 p2 p3 m_ u0_ u1_ u2_ u3_ nd (vR (b2)) (vR (b3)) (vR (b10)) oU oU oU oU oU) [] _
    refine XS.iload X149.here hx rfl (hb hby at_205) rfl ?_
    refine XS.iconst X149.here hx rfl (hb hby at_207) ?_
    refine XS.icmpYes X149.here hx rfl (pc0 := 208) (pc' := 233) rfl (hb hby at_208) rfl (flt (by decide : ¬ ((3 : Int32) < (3 : Int32)))).2.2.2 (by decide) (by decide) ?_
    refine st167 _ ?_
    show own_St p e below T167 m 236 (oA3 p1 p2 p3 m_ u0_ u1_ u2_ u3_ nd (vR (b2)) (vR (b3)) (vR (b10)) oU oU oU oU oU) [(.ref b167)] _
    refine XS.dup X167.here hx rfl (hb hby at_236) rfl rfl ?_
    refine XS.aload X167.here hx rfl (hb hby at_237) rfl rfl ?_
    refine XS.aload X167.here hx rfl (hb hby at_239) rfl rfl ?_
    refine XS.aload X167.here hx rfl (hb hby at_241) rfl rfl ?_
    refine st189.trans ?_
    show own_St p e below T189 m 246 (oA3 p1 p2 p3 m_ u0_ u1_ u2_ u3_ nd (vR (b2)) (vR (b3)) (vR (b10)) oU oU oU oU oU) [(.ref b167)] _
    refine XS.astore X189.here hx rfl (hb hby at_246) rfl rfl (l' := (oA3 p1 p2 p3 m_ u0_ u1_ u2_ u3_ nd (vR (b2)) (vR (b3)) (vR (b10)) (vR (b167)) oU oU oU oU)) rfl ?_
    refine XS.aload X189.here hx rfl (hb hby at_248) rfl rfl ?_
    refine XS.iload X189.here hx rfl (hb hby at_250) rfl ?_
    refine st212.trans ?_
    show own_St p e below T212 m 255 (oA3 p1 p2 p3 m_ u0_ u1_ u2_ u3_ nd (vR (b2)) (vR (b3)) (vR (b10)) (vR (b167)) oU oU oU oU) [(.ref ta212)] _
    refine XS.astore X212.here hx rfl (hb hby at_255) rfl rfl (l' := (oA3 p1 p2 p3 m_ u0_ u1_ u2_ u3_ nd (vR (b2)) (vR (b3)) (vR (b10)) (vR (b167)) (vR (ta212)) oU oU oU)) rfl ?_
    refine st235 _ ?_
    show own_St p e below T235 m 433 (oA3 p1 p2 p3 m_ u0_ u1_ u2_ u3_ nd (vR (b2)) (vR (b3)) (vR (b10)) (vR (b167)) (vR (ta212)) (vI ((own_ct [(min u0_ m_), (min (u0_ + u1_) m_), (min (u0_ + u1_ + u2_) m_)] nd).toInt32)) (vI ((own_ct [(min u0_ m_), (min (u0_ + u1_) m_), (min (u0_ + u1_ + u2_) m_)] (nd + 1)).toInt32)) (vI ((own_ct [(min u0_ m_), (min (u0_ + u1_) m_), (min (u0_ + u1_ + u2_) m_)] (nd + 1) - own_ct [(min u0_ m_), (min (u0_ + u1_) m_), (min (u0_ + u1_ + u2_) m_)] nd).toInt32))) [(.int (1 : Int32))] _
    exact retN X235 hx (t := .boolean) Bd.returns (by simp) (hb hby at_433) hr
  · show own_Qk (some (.int (1 : Int32))) [] h0 n0 _ T235.heap _
    rw [e235]
    exact ⟨rfl, N235, K212⟩
theorem r_law4 (l Z a0) (hw : own_HW a0 Z) (ws s_D s_L s_LE s_E s_Z mr kd_ kl_ h0 n0) (O0 : Old Z n0 h0) (G : own_Ctx Z Z.heap s_D s_L s_LE s_E s_Z mr kd_ kl_) (wS : ∀ a ∈ Bundle.stringAtoms, a.before a0 Z = true) (p1 p2 p3 : Int32) (m_ u0_ u1_ u2_ u3_ nd : Nat) (hm : p1 &&& (3 : Int32) = m_.toInt32) (hm3 : m_ ≤ 3) (hk : ((p1.toUInt32 >>> ((2 : Int32) &&& 31).toUInt32).toInt32) % (5 : Int32) = (4 : Int32)) (hu0 : (((p2.toUInt32 >>> ((0 : Int32) &&& 31).toUInt32).toInt32) &&& (3 : Int32)) = u0_.toInt32) (hv0 : u0_ ≤ 3) (hu1 : (((p2.toUInt32 >>> ((2 : Int32) &&& 31).toUInt32).toInt32) &&& (3 : Int32)) = u1_.toInt32) (hv1 : u1_ ≤ 3) (hu2 : (((p2.toUInt32 >>> ((4 : Int32) &&& 31).toUInt32).toInt32) &&& (3 : Int32)) = u2_.toInt32) (hv2 : u2_ ≤ 3) (hu3 : (((p2.toUInt32 >>> ((6 : Int32) &&& 31).toUInt32).toInt32) &&& (3 : Int32)) = u3_.toInt32) (hv3 : u3_ ≤ 3) (hnd : (p3 &&& (2147483647 : Int32)) % (m_ + 1).toInt32 = nd.toInt32) (hnd1 : nd < m_ + 1) :
    MetFree l x (head1 (Jvm.Cond.code x code maxLocals ret :: ws) room_1) (fun a U => a = #[(.int p1), (.int p2), (.int p3)] ∧ Z.Warmed39 U.vm ∧ U.heap = h0) (fun _ _ _ _ _ => True) (fun _ U o U' => ∃ v L, o = .returned v ∧ own_Qk (some (.int (1 : Int32))) [] h0 n0 v U'.heap L ∧ ReturnedEndW U o U' L 48 1280) := by
  have G0 := G
  obtain ⟨S_D, E_D, V_D, S_L, E_L, F_L, V_L, S_E, E_E, S_A, S_Z, E_Z, M_A⟩ := G
  refine MetFree.of_bodySF (plainFor_of_name pn_18) hisR ?_
  intro p e s m args below meth c s₁ Bd hml0 hP hK
  obtain ⟨rfl, hZ, hh⟩ := hP
  have hx := Bd.exec
  have hby := Bd.bytes
  have hml : c.maxLocals = 22 := hml0
  have hown := findClass_of_methodNamed Bd.named
  have X0 : Stand p l e room_1 (s.setVm s.vm) m #[(.int p1), (.int p2), (.int p3)] below meth c s₁ [] 0 0 := Stand.of_body Bd
  have e0 : s₁.heap = h0 := by rw [← hh, Bd.state]; rfl
  have N0 := Fr.nil n0
  have hS0 : s.Since s.vm h0.size := State.WarmedH.since (State.WarmedH.refl s) _
  have hk0 : h0.size ≤ h0.size := Nat.le_refl _
  have pre0 := own_pre (tb := p.tables) (e := e) (below := below) (T := s₁) (ef_0_50 m p1 p2 p3)
  have hN5 : m_ + 1 ≤ 4 := by omega
  have hnd4 : nd ≤ 4 := by omega
  obtain ⟨T1, h1, L1, X1, e1, N1, O1, q1h, st1⟩ := t_lp s_D s_L s_LE s_E s_Z mr kd_ kl_ p1 p2 p3 (4 : Int32) m_ u0_ u1_ u2_ u3_ nd 0 0 (by decide) (by decide) X0 hx hZ hw hby hml hown e0 N0 O0 G0 hm hm3 hk hu0 hv0 hu1 hv1 hu2 hv2 hu3 hv3 hnd
  obtain rfl : h0 = h1 := q1h.symm
  obtain ⟨T2, h2, ka2, X2, e2, E2, A2, B2, st2⟩ := newPE X1 hx hZ (oW hw 5 rfl) e1 (g := (mkF m 100 (oA4 p1 p2 p3 m_ u0_ u1_ u2_ u3_ nd oU oU oU oU oU oU oU oU) [(.int (m_ + 1).toInt32)])) rfl (hb hby at_100) rfl (own_ti (own_k hN5)).2.1 (cap := 4) (own_capn hN5) (by decide) (by decide) (by decide) (ad := "[Z") rfl
  obtain ⟨b2, g2⟩ := oZ h0.size
  rw [← g2] at A2 B2 st2
  have O2 := O1.ext E2
  have K2 : Keep h0 h2 [] := (Keep.refl h0 []).ext E2
  have hk2 := Nat.le_trans hk0 E2.1
  have V2 : Arv Z h2 b2 ka2 .boolean (m_ + 1).toInt32 [] (.int (0 : Int32)) := Arv.new A2 (own_ti (own_k hN5)).2.1
  obtain ⟨T3, h3, X3, e3, E3, A3, D3, -, st3⟩ := newO X2 hx hZ hown (oW hw 6 rfl) (oW hw 7 rfl) (oW hw 8 rfl) e2 (g := (mkF m 104 (oA4 p1 p2 p3 m_ u0_ u1_ u2_ u3_ nd (vR (b2)) oU oU oU oU oU oU oU) [])) rfl (hb hby at_104) (by decide) (by decide)
  obtain ⟨b3, g3⟩ := oZ h2.size
  have ne_b2_b3 := oE B2.lt g3
  have g_b3 : n0 ≤ b3 := Nat.le_trans (O2.1 ▸ O2.2.1) (Nat.le_of_eq g3.symm)
  have sz_b3 : h0.size ≤ b3 := Nat.le_trans K2.1 (Nat.le_of_eq g3.symm)
  rw [← g3] at A3 D3 st3
  have f4 := B2.ext E3
  have f5 := V2.ext E3
  have O3 := O2.ext E3
  have K3 : Keep h0 h3 [] := K2.ext E3
  have hk3 := Nat.le_trans hk2 E3.1
  have F3_28 : Fld Z h3 b3 "java/util/AbstractList" "modCount" "I" (.int (0 : Int32)) := D3 (Or.inl (oW hw 28 rfl)) (ty := .int) (by decide)
  have F3_31 : Fld Z h3 b3 "java/util/ArrayList" "elementData" "[Ljava/lang/Object;" .null := D3 (Or.inl (oW hw 31 rfl)) (ty := (.array (.object "java/lang/Object"))) (by decide)
  have F3_74 : Fld Z h3 b3 "java/util/ArrayList" "size" "I" (.int (0 : Int32)) := D3 (Or.inl (oW hw 74 rfl)) (ty := .int) (by decide)
  obtain ⟨_, _, ⟨T6, L6, k6, n6⟩, -, X6, ⟨Lc6, hQ6, l6, y6, z6⟩, st6⟩ := X3.specialBack hx (y := Y2_) rfl hown (mvT hZ (oW hw 9 rfl)) (mvT hZ (oW hw 10 rfl)) (mvT hZ (oW hw 11 rfl)) (by decide) (backOf (W := 1) (r_ali l Z a0 hw [] s_D s_L s_LE s_E s_Z mr kd_ kl_ h3 n0 O3 G0 b3 A3 g_b3 F3_28 F3_31 F3_74) hZ (oW hw 11 rfl) (oW hw 8 rfl) (by decide) (by decide)) (g := (mkF m 108 (oA4 p1 p2 p3 m_ u0_ u1_ u2_ u3_ nd (vR (b2)) oU oU oU oU oU oU oU) [(.ref b3), (.ref b3)])) rfl (by rw [hml]; rfl) (Steps.refl _) (a := b3) (argsL := []) (rest := [(.ref b3)]) (lenOf pd_0 rfl) rfl (by exact Nat.le_of_eq rfl) (hb hby at_108) (fun _ _ => ⟨rfl, e3, (by decide : 2 + 0 ≤ _), (by decide : 7 + 0 ≤ _)⟩)
  dsimp only [Pt.U, Pt.locs, Pt.cells, Pt.slots] at X6 l6 y6 z6 st6 hQ6
  subst l6 y6 z6
  obtain ⟨rfl, N6q, Kq6, Fm6, Fe6, Fs6⟩ := hQ6
  have N6 := Fr.app N1 N6q
  have f7 := f4.keep Kq6
  have f8 := f5.keep Kq6 (oN1 ne_b2_b3)
  have f9 := A3.keep Kq6
  have O6 := O3.keep Kq6 (allS g_b3 all0)
  have K6 : Keep h0 T6.heap [] := K3.trans Kq6 (allS (Or.inr sz_b3) all0)
  have hk6 := Nat.le_trans hk3 Kq6.1
  obtain ⟨T10, h10, X10, e10, E10, A10, D10, -, st10⟩ := newO X6 hx hZ hown (oW hw 6 rfl) (oW hw 7 rfl) (oW hw 8 rfl) rfl (g := (mkF m 113 (oA4 p1 p2 p3 m_ u0_ u1_ u2_ u3_ nd (vR (b2)) (vR (b3)) oU oU oU oU oU oU) [])) rfl (hb hby at_113) (by decide) (by decide)
  obtain ⟨b10, g10⟩ := oZ T6.heap.size
  have ne_b2_b10 := oE f7.lt g10
  have ne_b3_b10 := oE f9.lt g10
  have g_b10 : n0 ≤ b10 := Nat.le_trans (O6.1 ▸ O6.2.1) (Nat.le_of_eq g10.symm)
  have sz_b10 : h0.size ≤ b10 := Nat.le_trans K6.1 (Nat.le_of_eq g10.symm)
  rw [← g10] at A10 D10 st10
  have f11 := f7.ext E10
  have f12 := f8.ext E10
  have f13 := f9.ext E10
  have f15 := Fe6.ext E10
  have f16 := Fs6.ext E10
  have O10 := O6.ext E10
  have K10 : Keep h0 h10 [] := K6.ext E10
  have hk10 := Nat.le_trans hk6 E10.1
  have F10_28 : Fld Z h10 b10 "java/util/AbstractList" "modCount" "I" (.int (0 : Int32)) := D10 (Or.inl (oW hw 28 rfl)) (ty := .int) (by decide)
  have F10_31 : Fld Z h10 b10 "java/util/ArrayList" "elementData" "[Ljava/lang/Object;" .null := D10 (Or.inl (oW hw 31 rfl)) (ty := (.array (.object "java/lang/Object"))) (by decide)
  have F10_74 : Fld Z h10 b10 "java/util/ArrayList" "size" "I" (.int (0 : Int32)) := D10 (Or.inl (oW hw 74 rfl)) (ty := .int) (by decide)
  obtain ⟨_, _, ⟨T17, L17, k17, n17⟩, -, X17, ⟨Lc17, hQ17, l17, y17, z17⟩, st17⟩ := X10.specialBack hx (y := Y2_) rfl hown (mvT hZ (oW hw 9 rfl)) (mvT hZ (oW hw 10 rfl)) (mvT hZ (oW hw 11 rfl)) (by decide) (backOf (W := 1) (r_ali l Z a0 hw [] s_D s_L s_LE s_E s_Z mr kd_ kl_ h10 n0 O10 G0 b10 A10 g_b10 F10_28 F10_31 F10_74) hZ (oW hw 11 rfl) (oW hw 8 rfl) (by decide) (by decide)) (g := (mkF m 117 (oA4 p1 p2 p3 m_ u0_ u1_ u2_ u3_ nd (vR (b2)) (vR (b3)) oU oU oU oU oU oU) [(.ref b10), (.ref b10)])) rfl (by rw [hml]; rfl) (Steps.refl _) (a := b10) (argsL := []) (rest := [(.ref b10)]) (lenOf pd_0 rfl) rfl (by exact Nat.le_of_eq rfl) (hb hby at_117) (fun _ _ => ⟨rfl, e10, (by decide : 3 + 0 ≤ _), (by decide : 10 + 0 ≤ _)⟩)
  dsimp only [Pt.U, Pt.locs, Pt.cells, Pt.slots] at X17 l17 y17 z17 st17 hQ17
  subst l17 y17 z17
  obtain ⟨rfl, N17q, Kq17, Fm17, Fe17, Fs17⟩ := hQ17
  have N17 := Fr.app N6 N17q
  have f18 := f11.keep Kq17
  have f19 := f12.keep Kq17 (oN1 ne_b2_b10)
  have f20 := f13.keep Kq17
  have f22 := f15.keep Kq17 (oN1 ne_b3_b10)
  have f23 := f16.keep Kq17 (oN1 ne_b3_b10)
  have f24 := A10.keep Kq17
  have O17 := O10.keep Kq17 (allS g_b10 all0)
  have K17 : Keep h0 T17.heap [] := K10.trans Kq17 (allS (Or.inr sz_b10) all0)
  have hk17 := Nat.le_trans hk10 Kq17.1
  obtain ⟨T25, h25, X25, e25, E25, A25, D25, -, st25⟩ := newO X17 hx hZ hown (oW hw 207 rfl) (oW hw 208 rfl) (oW hw 209 rfl) rfl (g := (mkF m 129 (oA4 p1 p2 p3 m_ u0_ u1_ u2_ u3_ nd (vR (b2)) (vR (b3)) (vR (b10)) oU oU oU oU oU) [(.ref b10)])) rfl (hb hby at_129) (by decide) (by decide)
  obtain ⟨b25, g25⟩ := oZ T17.heap.size
  have ne_b2_b25 := oE f18.lt g25
  have ne_b3_b25 := oE f20.lt g25
  have ne_b10_b25 := oE f24.lt g25
  have g_b25 : n0 ≤ b25 := Nat.le_trans (O17.1 ▸ O17.2.1) (Nat.le_of_eq g25.symm)
  have sz_b25 : h0.size ≤ b25 := Nat.le_trans K17.1 (Nat.le_of_eq g25.symm)
  rw [← g25] at A25 D25 st25
  have f26 := f18.ext E25
  have f27 := f19.ext E25
  have f28 := f20.ext E25
  have f30 := f22.ext E25
  have f31 := f23.ext E25
  have f32 := f24.ext E25
  have f33 := Fm17.ext E25
  have f34 := Fe17.ext E25
  have f35 := Fs17.ext E25
  have O25 := O17.ext E25
  have K25 : Keep h0 h25 [] := K17.ext E25
  have hk25 := Nat.le_trans hk17 E25.1
  have F25_234 : Fld Z h25 b25 "com/example/hodos/hodos/analysis/Course$Arc" "source" "I" (.int (0 : Int32)) := D25 (Or.inr (oW hw 234 rfl)) (ty := .int) (by decide)
  have F25_236 : Fld Z h25 b25 "com/example/hodos/hodos/analysis/Course$Arc" "target" "I" (.int (0 : Int32)) := D25 (Or.inr (oW hw 236 rfl)) (ty := .int) (by decide)
  have F25_238 : Fld Z h25 b25 "com/example/hodos/hodos/analysis/Course$Arc" "delay" "Lcom/example/hodos/hodos/model/Time;" .null := D25 (Or.inr (oW hw 238 rfl)) (ty := (.object "com/example/hodos/hodos/model/Time")) (by decide)
  have F25_240 : Fld Z h25 b25 "com/example/hodos/hodos/analysis/Course$Arc" "internal" "Z" (.int (0 : Int32)) := D25 (Or.inr (oW hw 240 rfl)) (ty := .boolean) (by decide)
  have F25_242 : Fld Z h25 b25 "com/example/hodos/hodos/analysis/Course$Arc" "ends" "Z" (.int (0 : Int32)) := D25 (Or.inr (oW hw 242 rfl)) (ty := .boolean) (by decide)
  have F25_244 : Fld Z h25 b25 "com/example/hodos/hodos/analysis/Course$Arc" "origin" "I" (.int (0 : Int32)) := D25 (Or.inr (oW hw 244 rfl)) (ty := .int) (by decide)
  obtain ⟨T36, X36, e36, st36⟩ := getS2 X25 hx hZ hown (host := "") (Or.inl (oW hw 210 rfl)) Via.refl e25 (S_Z.ext O25.2) (g := (mkF m 136 (oA4 p1 p2 p3 m_ u0_ u1_ u2_ u3_ nd (vR (b2)) (vR (b3)) (vR (b10)) oU oU oU oU oU) [(.int (-1 : Int32)), (.int (min u0_ m_).toInt32), (.ref b25), (.ref b25), (.ref b10)])) rfl (hb hby at_136)
  obtain ⟨_, _, ⟨T37, L37, k37, n37⟩, -, X37, S37a, z37a, ⟨Lc37, hQ37, l37, y37, z37⟩, st37⟩ := X36.specialBackS hx (y := Y22_) rfl hown (mvT hZ (oW hw 213 rfl)) (mvT hZ (oW hw 214 rfl)) (mvT hZ (oW hw 215 rfl)) (by decide) (backOfS (W := 2) (r_arc l Z a0 hw [] s_D s_L s_LE s_E s_Z mr kd_ kl_ h25 n0 O25 G0 wS b25 (min u0_ m_).toInt32 (0 : Int32) (0 : Int32) (0 : Int32) A25 g_b25 F25_234 F25_236 F25_238 F25_240 F25_242 F25_244) hZ (oW hw 215 rfl) (oW hw 209 rfl) (by decide) (by decide)) (g := (mkF m 142 (oA4 p1 p2 p3 m_ u0_ u1_ u2_ u3_ nd (vR (b2)) (vR (b3)) (vR (b10)) oU oU oU oU oU) [(.int (0 : Int32)), (.int (0 : Int32)), (.int (0 : Int32)), (.ref s_Z), (.int (-1 : Int32)), (.int (min u0_ m_).toInt32), (.ref b25), (.ref b25), (.ref b10)])) rfl (by rw [hml]; rfl) (Steps.refl _) (a := b25) (argsL := [(.int (min u0_ m_).toInt32), (.int (-1 : Int32)), (.ref s_Z), (.int (0 : Int32)), (.int (0 : Int32)), (.int (0 : Int32))]) (rest := [(.ref b25), (.ref b10)]) (lenOf pd_32 rfl) rfl (by exact Nat.le_of_eq rfl) (hb hby at_142) (fun _ _ => ⟨rfl, e36, (by decide : 4 + 2 ≤ _), (by decide : 16 + 24 ≤ _)⟩)
  dsimp only [Pt.U, Pt.locs, Pt.cells, Pt.slots] at X37 S37a z37a l37 y37 z37 st37 hQ37
  subst l37 y37 z37
  have X37 : Stand p l e room_1 (s.setVm T37.vm) m #[(.int p1), (.int p2), (.int p3)] below meth c T37 _ _ _ := X37
  have S37f : s.Since T37.vm T37.heap.size := foldS (T := T36) hS0 (by rw [e36]; exact hk25) S37a z37a
  have hZ37 : Z.Warmed39 T37.vm := State.Warmed39.trans (t := s.setVm s.vm) hZ S37a.1
  have hown37 : (s.setVm T37.vm).vm.findClass "com/example/hodos/hodos/analysis/CourseArcsFromPinLaw" = some m.cls := by rw [show (s.setVm T37.vm).vm = T37.vm from rfl, S37a.1.alike.findClass]; exact hown
  obtain ⟨rfl, N37q, Kq37, Fs37, Fo37⟩ := hQ37
  have N37 := Fr.app N17 N37q
  have f38 := f26.keep Kq37
  have f39 := f27.keep Kq37 (oN1 ne_b2_b25)
  have f40 := f28.keep Kq37
  have f42 := f30.keep Kq37 (oN1 ne_b3_b25)
  have f43 := f31.keep Kq37 (oN1 ne_b3_b25)
  have f44 := f32.keep Kq37
  have f45 := f33.keep Kq37 (oN1 ne_b10_b25)
  have f46 := f34.keep Kq37 (oN1 ne_b10_b25)
  have f47 := f35.keep Kq37 (oN1 ne_b10_b25)
  have f48 := A25.keep Kq37
  have O37 := O25.keep Kq37 (allS g_b25 all0)
  have K37 : Keep h0 T37.heap [] := K25.trans Kq37 (allS (Or.inr sz_b25) all0)
  obtain ⟨cq49, kq49, q49a, q49b, q49c⟩ := isOf hZ37 rfl f44
  obtain ⟨_, _, ⟨T49, L49, k49, n49⟩, -, X49, ⟨Lc49, hQ49, l49, y49, z49⟩, st49⟩ := X37.virtualBack hx (y := Y7_) (z := Y7_) hown37 (mvT hZ37 (oW hw 245 rfl)) (mvT hZ37 (oW hw 246 rfl)) (notFace_of_selects (args := #[]) (mvT hZ37 (oW hw 248 rfl))) (mvT hZ37 (oW hw 248 rfl)) (mvT hZ37 (oW hw 247 rfl)) (by decide) (backOf (W := 0) (r_add0 l Z a0 hw [] s_D s_L s_LE s_E s_Z mr kd_ kl_ T37.heap n0 O37 G0 b10 (0 : Int32) b25 f44 f45 f46 f47 g_b10 f48) hZ37 (oW hw 249 rfl) (oW hw 8 rfl) (by decide) (by decide)) q49a q49c (g := (mkF m 145 (oA4 p1 p2 p3 m_ u0_ u1_ u2_ u3_ nd (vR (b2)) (vR (b3)) (vR (b10)) oU oU oU oU oU) [(.ref b25), (.ref b10)])) rfl (by rw [hml]; rfl) (Steps.refl _) (argsL := [(.ref b25)]) (rest := []) (lenOf pd_33 rfl) rfl (by exact Nat.le_of_eq rfl) (hb hby at_145) (fun _ _ => ⟨rfl, rfl, (by decide : 6 + 1 ≤ _), (by decide : 40 + 10 ≤ _)⟩)
  dsimp only [Pt.U, Pt.locs, Pt.cells, Pt.slots] at X49 l49 y49 z49 st49 hQ49
  subst l49 y49 z49
  obtain ⟨t49, kt49, rfl, N49q, Kq49, gt49, Fm49, Fe49, Fs49, Et49, Vt49, Ot49⟩ := hQ49
  have N49 := Fr.app N37 N49q
  have ne_b2_t49 := oL f38.lt gt49
  have ne_b3_t49 := oL f40.lt gt49
  have ne_b10_t49 := oL f44.lt gt49
  have ne_b25_t49 := oL f48.lt gt49
  have g_t49 : n0 ≤ t49 := Nat.le_trans (O37.1 ▸ O37.2.1) gt49
  have sz_t49 : h0.size ≤ t49 := Nat.le_trans K37.1 gt49
  have f50 := f38.keep Kq49
  have f51 := f39.keep Kq49 (oN1 ne_b2_b10)
  have f52 := f40.keep Kq49
  have f54 := f42.keep Kq49 (oN1 ne_b3_b10)
  have f55 := f43.keep Kq49 (oN1 ne_b3_b10)
  have f56 := f44.keep Kq49
  have f57 := f48.keep Kq49
  have f58 := Fs37.keep Kq49 (oN1 (Ne.symm ne_b10_b25))
  have f59 := Fo37.keep Kq49 (oN1 (Ne.symm ne_b10_b25))
  have O49 := O37.keep Kq49 (allS g_b10 all0)
  have K49 : Keep h0 T49.heap [] := K37.trans Kq49 (allS (Or.inr sz_b10) all0)
  have hk49 := Nat.le_trans (Nat.le_refl _) Kq49.1
  obtain ⟨T60, h60, X60, e60, E60, A60, D60, -, st60⟩ := newO X49 hx hZ37 hown37 (oW hw 207 rfl) (oW hw 208 rfl) (oW hw 209 rfl) rfl (g := (mkF m 157 (oA4 p1 p2 p3 m_ u0_ u1_ u2_ u3_ nd (vR (b2)) (vR (b3)) (vR (b10)) oU oU oU oU oU) [(.ref b10)])) rfl (hb hby at_157) (by decide) (by decide)
  obtain ⟨b60, g60⟩ := oZ T49.heap.size
  have ne_b2_b60 := oE f50.lt g60
  have ne_b3_b60 := oE f52.lt g60
  have ne_b10_b60 := oE f56.lt g60
  have ne_b25_b60 := oE f57.lt g60
  have ne_t49_b60 := oE Et49.lt g60
  have ne_s_E_b60 : s_E ≠ b60 := Nat.ne_of_lt (Nat.lt_of_lt_of_le (E_E.ext O49.2).lt (Nat.le_of_eq g60.symm))
  have g_b60 : n0 ≤ b60 := Nat.le_trans (O49.1 ▸ O49.2.1) (Nat.le_of_eq g60.symm)
  have sz_b60 : h0.size ≤ b60 := Nat.le_trans K49.1 (Nat.le_of_eq g60.symm)
  rw [← g60] at A60 D60 st60
  have f61 := f50.ext E60
  have f62 := f51.ext E60
  have f63 := f52.ext E60
  have f65 := f54.ext E60
  have f66 := f55.ext E60
  have f67 := f56.ext E60
  have f68 := f57.ext E60
  have f69 := f58.ext E60
  have f70 := f59.ext E60
  have f71 := Et49.ext E60
  have f72 := Vt49.ext E60
  have f73 := Fm49.ext E60
  have f74 := Fe49.ext E60
  have f75 := Fs49.ext E60
  have O60 := O49.ext E60
  have K60 : Keep h0 h60 [] := K49.ext E60
  have hk60 := Nat.le_trans hk49 E60.1
  have F60_234 : Fld Z h60 b60 "com/example/hodos/hodos/analysis/Course$Arc" "source" "I" (.int (0 : Int32)) := D60 (Or.inr (oW hw 234 rfl)) (ty := .int) (by decide)
  have F60_236 : Fld Z h60 b60 "com/example/hodos/hodos/analysis/Course$Arc" "target" "I" (.int (0 : Int32)) := D60 (Or.inr (oW hw 236 rfl)) (ty := .int) (by decide)
  have F60_238 : Fld Z h60 b60 "com/example/hodos/hodos/analysis/Course$Arc" "delay" "Lcom/example/hodos/hodos/model/Time;" .null := D60 (Or.inr (oW hw 238 rfl)) (ty := (.object "com/example/hodos/hodos/model/Time")) (by decide)
  have F60_240 : Fld Z h60 b60 "com/example/hodos/hodos/analysis/Course$Arc" "internal" "Z" (.int (0 : Int32)) := D60 (Or.inr (oW hw 240 rfl)) (ty := .boolean) (by decide)
  have F60_242 : Fld Z h60 b60 "com/example/hodos/hodos/analysis/Course$Arc" "ends" "Z" (.int (0 : Int32)) := D60 (Or.inr (oW hw 242 rfl)) (ty := .boolean) (by decide)
  have F60_244 : Fld Z h60 b60 "com/example/hodos/hodos/analysis/Course$Arc" "origin" "I" (.int (0 : Int32)) := D60 (Or.inr (oW hw 244 rfl)) (ty := .int) (by decide)
  obtain ⟨T76, X76, e76, st76⟩ := getS2 X60 hx hZ37 hown37 (host := "") (Or.inl (oW hw 210 rfl)) Via.refl e60 (S_Z.ext O60.2) (g := (mkF m 164 (oA4 p1 p2 p3 m_ u0_ u1_ u2_ u3_ nd (vR (b2)) (vR (b3)) (vR (b10)) oU oU oU oU oU) [(.int (-1 : Int32)), (.int (min (u0_ + u1_) m_).toInt32), (.ref b60), (.ref b60), (.ref b10)])) rfl (hb hby at_164)
  obtain ⟨_, _, ⟨T77, L77, k77, n77⟩, -, X77, S77a, z77a, ⟨Lc77, hQ77, l77, y77, z77⟩, st77⟩ := X76.specialBackS hx (y := Y22_) rfl hown37 (mvT hZ37 (oW hw 213 rfl)) (mvT hZ37 (oW hw 214 rfl)) (mvT hZ37 (oW hw 215 rfl)) (by decide) (backOfS (W := 2) (r_arc l Z a0 hw [] s_D s_L s_LE s_E s_Z mr kd_ kl_ h60 n0 O60 G0 wS b60 (min (u0_ + u1_) m_).toInt32 (1 : Int32) (0 : Int32) (1 : Int32) A60 g_b60 F60_234 F60_236 F60_238 F60_240 F60_242 F60_244) hZ37 (oW hw 215 rfl) (oW hw 209 rfl) (by decide) (by decide)) (g := (mkF m 170 (oA4 p1 p2 p3 m_ u0_ u1_ u2_ u3_ nd (vR (b2)) (vR (b3)) (vR (b10)) oU oU oU oU oU) [(.int (1 : Int32)), (.int (0 : Int32)), (.int (1 : Int32)), (.ref s_Z), (.int (-1 : Int32)), (.int (min (u0_ + u1_) m_).toInt32), (.ref b60), (.ref b60), (.ref b10)])) rfl (by rw [hml]; rfl) (Steps.refl _) (a := b60) (argsL := [(.int (min (u0_ + u1_) m_).toInt32), (.int (-1 : Int32)), (.ref s_Z), (.int (1 : Int32)), (.int (0 : Int32)), (.int (1 : Int32))]) (rest := [(.ref b60), (.ref b10)]) (lenOf pd_32 rfl) rfl (by exact Nat.le_of_eq rfl) (hb hby at_170) (fun _ _ => ⟨rfl, e76, (by decide : 8 + 2 ≤ _), (by decide : 56 + 24 ≤ _)⟩)
  dsimp only [Pt.U, Pt.locs, Pt.cells, Pt.slots] at X77 S77a z77a l77 y77 z77 st77 hQ77
  subst l77 y77 z77
  have X77 : Stand p l e room_1 (s.setVm T77.vm) m #[(.int p1), (.int p2), (.int p3)] below meth c T77 _ _ _ := X77
  have S77f : s.Since T77.vm T77.heap.size := foldS (T := T76) S37f (by rw [e76]; exact hk60) S77a z77a
  have hZ77 : Z.Warmed39 T77.vm := State.Warmed39.trans (t := s.setVm T37.vm) hZ37 S77a.1
  have hown77 : (s.setVm T77.vm).vm.findClass "com/example/hodos/hodos/analysis/CourseArcsFromPinLaw" = some m.cls := by rw [show (s.setVm T77.vm).vm = T77.vm from rfl, S77a.1.alike.findClass]; exact hown37
  obtain ⟨rfl, N77q, Kq77, Fs77, Fo77⟩ := hQ77
  have N77 := Fr.app N49 N77q
  have f78 := f61.keep Kq77
  have f79 := f62.keep Kq77 (oN1 ne_b2_b60)
  have f80 := f63.keep Kq77
  have f82 := f65.keep Kq77 (oN1 ne_b3_b60)
  have f83 := f66.keep Kq77 (oN1 ne_b3_b60)
  have f84 := f67.keep Kq77
  have f85 := f68.keep Kq77
  have f86 := f69.keep Kq77 (oN1 ne_b25_b60)
  have f87 := f70.keep Kq77 (oN1 ne_b25_b60)
  have f88 := f71.keep Kq77
  have f89 := f72.keep Kq77 (oN1 ne_t49_b60)
  have f90 := f73.keep Kq77 (oN1 ne_b10_b60)
  have f91 := f74.keep Kq77 (oN1 ne_b10_b60)
  have f92 := f75.keep Kq77 (oN1 ne_b10_b60)
  have f93 := A60.keep Kq77
  have O77 := O60.keep Kq77 (allS g_b60 all0)
  have K77 : Keep h0 T77.heap [] := K60.trans Kq77 (allS (Or.inr sz_b60) all0)
  obtain ⟨cq94, kq94, q94a, q94b, q94c⟩ := isOf hZ77 rfl f84
  obtain ⟨_, _, ⟨T94, L94, k94, n94⟩, -, X94, ⟨Lc94, hQ94, l94, y94, z94⟩, st94⟩ := X77.virtualBack hx (y := Y7_) (z := Y7_) hown77 (mvT hZ77 (oW hw 245 rfl)) (mvT hZ77 (oW hw 246 rfl)) (notFace_of_selects (args := #[]) (mvT hZ77 (oW hw 248 rfl))) (mvT hZ77 (oW hw 248 rfl)) (mvT hZ77 (oW hw 247 rfl)) (by decide) (backOf (W := 0) (r_add1 l Z a0 hw [] s_D s_L s_LE s_E s_Z mr kd_ kl_ T77.heap n0 O77 G0 b10 ((0 : Int32) + (1 : Int32)) t49 kt49 b25 b60 f84 f90 f91 f92 f88 f89 Ot49 g_b10 f93 g_t49 ne_b10_t49) hZ77 (oW hw 249 rfl) (oW hw 8 rfl) (by decide) (by decide)) q94a q94c (g := (mkF m 173 (oA4 p1 p2 p3 m_ u0_ u1_ u2_ u3_ nd (vR (b2)) (vR (b3)) (vR (b10)) oU oU oU oU oU) [(.ref b60), (.ref b10)])) rfl (by rw [hml]; rfl) (Steps.refl _) (argsL := [(.ref b60)]) (rest := []) (lenOf pd_33 rfl) rfl (by exact Nat.le_of_eq rfl) (hb hby at_173) (fun _ _ => ⟨rfl, rfl, (by decide : 10 + 0 ≤ _), (by decide : 80 + 0 ≤ _)⟩)
  dsimp only [Pt.U, Pt.locs, Pt.cells, Pt.slots] at X94 l94 y94 z94 st94 hQ94
  subst l94 y94 z94
  obtain ⟨rfl, N94q, Kq94, Fm94, Fe94, Fs94, Vt94⟩ := hQ94
  have N94 := Fr.app N77 N94q
  have f95 := f78.keep Kq94
  have f96 := f79.keep Kq94 (oN2 ne_b2_b10 ne_b2_t49)
  have f97 := f80.keep Kq94
  have f99 := f82.keep Kq94 (oN2 ne_b3_b10 ne_b3_t49)
  have f100 := f83.keep Kq94 (oN2 ne_b3_b10 ne_b3_t49)
  have f101 := f84.keep Kq94
  have f102 := f85.keep Kq94
  have f103 := f86.keep Kq94 (oN2 (Ne.symm ne_b10_b25) ne_b25_t49)
  have f104 := f87.keep Kq94 (oN2 (Ne.symm ne_b10_b25) ne_b25_t49)
  have f105 := f88.keep Kq94
  have f106 := f93.keep Kq94
  have f107 := Fs77.keep Kq94 (oN2 (Ne.symm ne_b10_b60) (Ne.symm ne_t49_b60))
  have f108 := Fo77.keep Kq94 (oN2 (Ne.symm ne_b10_b60) (Ne.symm ne_t49_b60))
  have O94 := O77.keep Kq94 (allS g_b10 (allS g_t49 all0))
  have K94 : Keep h0 T94.heap [] := K77.trans Kq94 (allS (Or.inr sz_b10) (allS (Or.inr sz_t49) all0))
  have hk94 := Nat.le_trans (Nat.le_refl _) Kq94.1
  obtain ⟨T109, h109, X109, e109, E109, A109, D109, -, st109⟩ := newO X94 hx hZ77 hown77 (oW hw 207 rfl) (oW hw 208 rfl) (oW hw 209 rfl) rfl (g := (mkF m 185 (oA4 p1 p2 p3 m_ u0_ u1_ u2_ u3_ nd (vR (b2)) (vR (b3)) (vR (b10)) oU oU oU oU oU) [(.ref b10)])) rfl (hb hby at_185) (by decide) (by decide)
  obtain ⟨b109, g109⟩ := oZ T94.heap.size
  have ne_b2_b109 := oE f95.lt g109
  have ne_b3_b109 := oE f97.lt g109
  have ne_b10_b109 := oE f101.lt g109
  have ne_b25_b109 := oE f102.lt g109
  have ne_t49_b109 := oE f105.lt g109
  have ne_b60_b109 := oE f106.lt g109
  have g_b109 : n0 ≤ b109 := Nat.le_trans (O94.1 ▸ O94.2.1) (Nat.le_of_eq g109.symm)
  have sz_b109 : h0.size ≤ b109 := Nat.le_trans K94.1 (Nat.le_of_eq g109.symm)
  rw [← g109] at A109 D109 st109
  have f110 := f95.ext E109
  have f111 := f96.ext E109
  have f112 := f97.ext E109
  have f114 := f99.ext E109
  have f115 := f100.ext E109
  have f116 := f101.ext E109
  have f117 := f102.ext E109
  have f118 := f103.ext E109
  have f119 := f104.ext E109
  have f120 := f105.ext E109
  have f121 := f106.ext E109
  have f122 := f107.ext E109
  have f123 := f108.ext E109
  have f124 := Vt94.ext E109
  have f125 := Fm94.ext E109
  have f126 := Fe94.ext E109
  have f127 := Fs94.ext E109
  have O109 := O94.ext E109
  have K109 : Keep h0 h109 [] := K94.ext E109
  have hk109 := Nat.le_trans hk94 E109.1
  have F109_234 : Fld Z h109 b109 "com/example/hodos/hodos/analysis/Course$Arc" "source" "I" (.int (0 : Int32)) := D109 (Or.inr (oW hw 234 rfl)) (ty := .int) (by decide)
  have F109_236 : Fld Z h109 b109 "com/example/hodos/hodos/analysis/Course$Arc" "target" "I" (.int (0 : Int32)) := D109 (Or.inr (oW hw 236 rfl)) (ty := .int) (by decide)
  have F109_238 : Fld Z h109 b109 "com/example/hodos/hodos/analysis/Course$Arc" "delay" "Lcom/example/hodos/hodos/model/Time;" .null := D109 (Or.inr (oW hw 238 rfl)) (ty := (.object "com/example/hodos/hodos/model/Time")) (by decide)
  have F109_240 : Fld Z h109 b109 "com/example/hodos/hodos/analysis/Course$Arc" "internal" "Z" (.int (0 : Int32)) := D109 (Or.inr (oW hw 240 rfl)) (ty := .boolean) (by decide)
  have F109_242 : Fld Z h109 b109 "com/example/hodos/hodos/analysis/Course$Arc" "ends" "Z" (.int (0 : Int32)) := D109 (Or.inr (oW hw 242 rfl)) (ty := .boolean) (by decide)
  have F109_244 : Fld Z h109 b109 "com/example/hodos/hodos/analysis/Course$Arc" "origin" "I" (.int (0 : Int32)) := D109 (Or.inr (oW hw 244 rfl)) (ty := .int) (by decide)
  obtain ⟨T128, X128, e128, st128⟩ := getS2 X109 hx hZ77 hown77 (host := "") (Or.inl (oW hw 210 rfl)) Via.refl e109 (S_Z.ext O109.2) (g := (mkF m 192 (oA4 p1 p2 p3 m_ u0_ u1_ u2_ u3_ nd (vR (b2)) (vR (b3)) (vR (b10)) oU oU oU oU oU) [(.int (-1 : Int32)), (.int (min (u0_ + u1_ + u2_) m_).toInt32), (.ref b109), (.ref b109), (.ref b10)])) rfl (hb hby at_192)
  obtain ⟨_, _, ⟨T129, L129, k129, n129⟩, -, X129, S129a, z129a, ⟨Lc129, hQ129, l129, y129, z129⟩, st129⟩ := X128.specialBackS hx (y := Y22_) rfl hown77 (mvT hZ77 (oW hw 213 rfl)) (mvT hZ77 (oW hw 214 rfl)) (mvT hZ77 (oW hw 215 rfl)) (by decide) (backOfS (W := 2) (r_arc l Z a0 hw [] s_D s_L s_LE s_E s_Z mr kd_ kl_ h109 n0 O109 G0 wS b109 (min (u0_ + u1_ + u2_) m_).toInt32 (0 : Int32) (1 : Int32) (2 : Int32) A109 g_b109 F109_234 F109_236 F109_238 F109_240 F109_242 F109_244) hZ77 (oW hw 215 rfl) (oW hw 209 rfl) (by decide) (by decide)) (g := (mkF m 198 (oA4 p1 p2 p3 m_ u0_ u1_ u2_ u3_ nd (vR (b2)) (vR (b3)) (vR (b10)) oU oU oU oU oU) [(.int (2 : Int32)), (.int (1 : Int32)), (.int (0 : Int32)), (.ref s_Z), (.int (-1 : Int32)), (.int (min (u0_ + u1_ + u2_) m_).toInt32), (.ref b109), (.ref b109), (.ref b10)])) rfl (by rw [hml]; rfl) (Steps.refl _) (a := b109) (argsL := [(.int (min (u0_ + u1_ + u2_) m_).toInt32), (.int (-1 : Int32)), (.ref s_Z), (.int (0 : Int32)), (.int (1 : Int32)), (.int (2 : Int32))]) (rest := [(.ref b109), (.ref b10)]) (lenOf pd_32 rfl) rfl (by exact Nat.le_of_eq rfl) (hb hby at_198) (fun _ _ => ⟨rfl, e128, (by decide : 11 + 2 ≤ _), (by decide : 86 + 24 ≤ _)⟩)
  dsimp only [Pt.U, Pt.locs, Pt.cells, Pt.slots] at X129 S129a z129a l129 y129 z129 st129 hQ129
  subst l129 y129 z129
  have X129 : Stand p l e room_1 (s.setVm T129.vm) m #[(.int p1), (.int p2), (.int p3)] below meth c T129 _ _ _ := X129
  have S129f : s.Since T129.vm T129.heap.size := foldS (T := T128) S77f (by rw [e128]; exact hk109) S129a z129a
  have hZ129 : Z.Warmed39 T129.vm := State.Warmed39.trans (t := s.setVm T77.vm) hZ77 S129a.1
  have hown129 : (s.setVm T129.vm).vm.findClass "com/example/hodos/hodos/analysis/CourseArcsFromPinLaw" = some m.cls := by rw [show (s.setVm T129.vm).vm = T129.vm from rfl, S129a.1.alike.findClass]; exact hown77
  obtain ⟨rfl, N129q, Kq129, Fs129, Fo129⟩ := hQ129
  have N129 := Fr.app N94 N129q
  have f130 := f110.keep Kq129
  have f131 := f111.keep Kq129 (oN1 ne_b2_b109)
  have f132 := f112.keep Kq129
  have f134 := f114.keep Kq129 (oN1 ne_b3_b109)
  have f135 := f115.keep Kq129 (oN1 ne_b3_b109)
  have f136 := f116.keep Kq129
  have f137 := f117.keep Kq129
  have f138 := f118.keep Kq129 (oN1 ne_b25_b109)
  have f139 := f119.keep Kq129 (oN1 ne_b25_b109)
  have f140 := f120.keep Kq129
  have f141 := f121.keep Kq129
  have f142 := f122.keep Kq129 (oN1 ne_b60_b109)
  have f143 := f123.keep Kq129 (oN1 ne_b60_b109)
  have f144 := f124.keep Kq129 (oN1 ne_t49_b109)
  have f145 := f125.keep Kq129 (oN1 ne_b10_b109)
  have f146 := f126.keep Kq129 (oN1 ne_b10_b109)
  have f147 := f127.keep Kq129 (oN1 ne_b10_b109)
  have f148 := A109.keep Kq129
  have O129 := O109.keep Kq129 (allS g_b109 all0)
  have K129 : Keep h0 T129.heap [] := K109.trans Kq129 (allS (Or.inr sz_b109) all0)
  obtain ⟨cq149, kq149, q149a, q149b, q149c⟩ := isOf hZ129 rfl f136
  obtain ⟨_, _, ⟨T149, L149, k149, n149⟩, -, X149, ⟨Lc149, hQ149, l149, y149, z149⟩, st149⟩ := X129.virtualBack hx (y := Y7_) (z := Y7_) hown129 (mvT hZ129 (oW hw 245 rfl)) (mvT hZ129 (oW hw 246 rfl)) (notFace_of_selects (args := #[]) (mvT hZ129 (oW hw 248 rfl))) (mvT hZ129 (oW hw 248 rfl)) (mvT hZ129 (oW hw 247 rfl)) (by decide) (backOf (W := 0) (r_add2 l Z a0 hw [] s_D s_L s_LE s_E s_Z mr kd_ kl_ T129.heap n0 O129 G0 b10 (((0 : Int32) + (1 : Int32)) + (1 : Int32)) t49 kt49 b25 b60 b109 f136 f145 f146 f147 f140 f144 Ot49 g_b10 f148 g_t49 ne_b10_t49) hZ129 (oW hw 249 rfl) (oW hw 8 rfl) (by decide) (by decide)) q149a q149c (g := (mkF m 201 (oA4 p1 p2 p3 m_ u0_ u1_ u2_ u3_ nd (vR (b2)) (vR (b3)) (vR (b10)) oU oU oU oU oU) [(.ref b109), (.ref b10)])) rfl (by rw [hml]; rfl) (Steps.refl _) (argsL := [(.ref b109)]) (rest := []) (lenOf pd_33 rfl) rfl (by exact Nat.le_of_eq rfl) (hb hby at_201) (fun _ _ => ⟨rfl, rfl, (by decide : 13 + 0 ≤ _), (by decide : 110 + 0 ≤ _)⟩)
  dsimp only [Pt.U, Pt.locs, Pt.cells, Pt.slots] at X149 l149 y149 z149 st149 hQ149
  subst l149 y149 z149
  obtain ⟨rfl, N149q, Kq149, Fm149, Fe149, Fs149, Vt149⟩ := hQ149
  have N149 := Fr.app N129 N149q
  have f150 := f130.keep Kq149
  have f151 := f131.keep Kq149 (oN2 ne_b2_b10 ne_b2_t49)
  have f152 := f132.keep Kq149
  have f154 := f134.keep Kq149 (oN2 ne_b3_b10 ne_b3_t49)
  have f155 := f135.keep Kq149 (oN2 ne_b3_b10 ne_b3_t49)
  have f156 := f136.keep Kq149
  have f157 := f137.keep Kq149
  have f158 := f138.keep Kq149 (oN2 (Ne.symm ne_b10_b25) ne_b25_t49)
  have f159 := f139.keep Kq149 (oN2 (Ne.symm ne_b10_b25) ne_b25_t49)
  have f160 := f140.keep Kq149
  have f161 := f141.keep Kq149
  have f162 := f142.keep Kq149 (oN2 (Ne.symm ne_b10_b60) (Ne.symm ne_t49_b60))
  have f163 := f143.keep Kq149 (oN2 (Ne.symm ne_b10_b60) (Ne.symm ne_t49_b60))
  have f164 := f148.keep Kq149
  have f165 := Fs129.keep Kq149 (oN2 (Ne.symm ne_b10_b109) (Ne.symm ne_t49_b109))
  have f166 := Fo129.keep Kq149 (oN2 (Ne.symm ne_b10_b109) (Ne.symm ne_t49_b109))
  have O149 := O129.keep Kq149 (allS g_b10 (allS g_t49 all0))
  have K149 : Keep h0 T149.heap [] := K129.trans Kq149 (allS (Or.inr sz_b10) (allS (Or.inr sz_t49) all0))
  have hk149 := Nat.le_trans (Nat.le_refl _) Kq149.1
  obtain ⟨T167, h167, X167, e167, E167, A167, D167, -, st167⟩ := newO X149 hx hZ129 hown129 (oW hw 207 rfl) (oW hw 208 rfl) (oW hw 209 rfl) rfl (g := (mkF m 213 (oA4 p1 p2 p3 m_ u0_ u1_ u2_ u3_ nd (vR (b2)) (vR (b3)) (vR (b10)) oU oU oU oU oU) [(.ref b10)])) rfl (hb hby at_213) (by decide) (by decide)
  obtain ⟨b167, g167⟩ := oZ T149.heap.size
  have ne_b2_b167 := oE f150.lt g167
  have ne_b3_b167 := oE f152.lt g167
  have ne_b10_b167 := oE f156.lt g167
  have ne_b25_b167 := oE f157.lt g167
  have ne_t49_b167 := oE f160.lt g167
  have ne_b60_b167 := oE f161.lt g167
  have ne_b109_b167 := oE f164.lt g167
  have g_b167 : n0 ≤ b167 := Nat.le_trans (O149.1 ▸ O149.2.1) (Nat.le_of_eq g167.symm)
  have sz_b167 : h0.size ≤ b167 := Nat.le_trans K149.1 (Nat.le_of_eq g167.symm)
  rw [← g167] at A167 D167 st167
  have f168 := f150.ext E167
  have f169 := f151.ext E167
  have f170 := f152.ext E167
  have f172 := f154.ext E167
  have f173 := f155.ext E167
  have f174 := f156.ext E167
  have f175 := f157.ext E167
  have f176 := f158.ext E167
  have f177 := f159.ext E167
  have f178 := f160.ext E167
  have f179 := f161.ext E167
  have f180 := f162.ext E167
  have f181 := f163.ext E167
  have f182 := f164.ext E167
  have f183 := f165.ext E167
  have f184 := f166.ext E167
  have f185 := Vt149.ext E167
  have f186 := Fm149.ext E167
  have f187 := Fe149.ext E167
  have f188 := Fs149.ext E167
  have O167 := O149.ext E167
  have K167 : Keep h0 h167 [] := K149.ext E167
  have hk167 := Nat.le_trans hk149 E167.1
  have F167_234 : Fld Z h167 b167 "com/example/hodos/hodos/analysis/Course$Arc" "source" "I" (.int (0 : Int32)) := D167 (Or.inr (oW hw 234 rfl)) (ty := .int) (by decide)
  have F167_236 : Fld Z h167 b167 "com/example/hodos/hodos/analysis/Course$Arc" "target" "I" (.int (0 : Int32)) := D167 (Or.inr (oW hw 236 rfl)) (ty := .int) (by decide)
  have F167_238 : Fld Z h167 b167 "com/example/hodos/hodos/analysis/Course$Arc" "delay" "Lcom/example/hodos/hodos/model/Time;" .null := D167 (Or.inr (oW hw 238 rfl)) (ty := (.object "com/example/hodos/hodos/model/Time")) (by decide)
  have F167_240 : Fld Z h167 b167 "com/example/hodos/hodos/analysis/Course$Arc" "internal" "Z" (.int (0 : Int32)) := D167 (Or.inr (oW hw 240 rfl)) (ty := .boolean) (by decide)
  have F167_242 : Fld Z h167 b167 "com/example/hodos/hodos/analysis/Course$Arc" "ends" "Z" (.int (0 : Int32)) := D167 (Or.inr (oW hw 242 rfl)) (ty := .boolean) (by decide)
  have F167_244 : Fld Z h167 b167 "com/example/hodos/hodos/analysis/Course$Arc" "origin" "I" (.int (0 : Int32)) := D167 (Or.inr (oW hw 244 rfl)) (ty := .int) (by decide)
  obtain ⟨T189, X189, e189, st189⟩ := getS2 X167 hx hZ129 hown129 (host := "") (Or.inl (oW hw 210 rfl)) Via.refl e167 (S_Z.ext O167.2) (g := (mkF m 220 (oA4 p1 p2 p3 m_ u0_ u1_ u2_ u3_ nd (vR (b2)) (vR (b3)) (vR (b10)) oU oU oU oU oU) [(.int (-1 : Int32)), (.int (min (u0_ + u1_ + u2_ + u3_) m_).toInt32), (.ref b167), (.ref b167), (.ref b10)])) rfl (hb hby at_220)
  obtain ⟨_, _, ⟨T190, L190, k190, n190⟩, -, X190, S190a, z190a, ⟨Lc190, hQ190, l190, y190, z190⟩, st190⟩ := X189.specialBackS hx (y := Y22_) rfl hown129 (mvT hZ129 (oW hw 213 rfl)) (mvT hZ129 (oW hw 214 rfl)) (mvT hZ129 (oW hw 215 rfl)) (by decide) (backOfS (W := 2) (r_arc l Z a0 hw [] s_D s_L s_LE s_E s_Z mr kd_ kl_ h167 n0 O167 G0 wS b167 (min (u0_ + u1_ + u2_ + u3_) m_).toInt32 (1 : Int32) (1 : Int32) (3 : Int32) A167 g_b167 F167_234 F167_236 F167_238 F167_240 F167_242 F167_244) hZ129 (oW hw 215 rfl) (oW hw 209 rfl) (by decide) (by decide)) (g := (mkF m 226 (oA4 p1 p2 p3 m_ u0_ u1_ u2_ u3_ nd (vR (b2)) (vR (b3)) (vR (b10)) oU oU oU oU oU) [(.int (3 : Int32)), (.int (1 : Int32)), (.int (1 : Int32)), (.ref s_Z), (.int (-1 : Int32)), (.int (min (u0_ + u1_ + u2_ + u3_) m_).toInt32), (.ref b167), (.ref b167), (.ref b10)])) rfl (by rw [hml]; rfl) (Steps.refl _) (a := b167) (argsL := [(.int (min (u0_ + u1_ + u2_ + u3_) m_).toInt32), (.int (-1 : Int32)), (.ref s_Z), (.int (1 : Int32)), (.int (1 : Int32)), (.int (3 : Int32))]) (rest := [(.ref b167), (.ref b10)]) (lenOf pd_32 rfl) rfl (by exact Nat.le_of_eq rfl) (hb hby at_226) (fun _ _ => ⟨rfl, e189, (by decide : 14 + 2 ≤ _), (by decide : 116 + 24 ≤ _)⟩)
  dsimp only [Pt.U, Pt.locs, Pt.cells, Pt.slots] at X190 S190a z190a l190 y190 z190 st190 hQ190
  subst l190 y190 z190
  have X190 : Stand p l e room_1 (s.setVm T190.vm) m #[(.int p1), (.int p2), (.int p3)] below meth c T190 _ _ _ := X190
  have S190f : s.Since T190.vm T190.heap.size := foldS (T := T189) S129f (by rw [e189]; exact hk167) S190a z190a
  have hZ190 : Z.Warmed39 T190.vm := State.Warmed39.trans (t := s.setVm T129.vm) hZ129 S190a.1
  have hown190 : (s.setVm T190.vm).vm.findClass "com/example/hodos/hodos/analysis/CourseArcsFromPinLaw" = some m.cls := by rw [show (s.setVm T190.vm).vm = T190.vm from rfl, S190a.1.alike.findClass]; exact hown129
  obtain ⟨rfl, N190q, Kq190, Fs190, Fo190⟩ := hQ190
  have N190 := Fr.app N149 N190q
  have f191 := f168.keep Kq190
  have f192 := f169.keep Kq190 (oN1 ne_b2_b167)
  have f193 := f170.keep Kq190
  have f195 := f172.keep Kq190 (oN1 ne_b3_b167)
  have f196 := f173.keep Kq190 (oN1 ne_b3_b167)
  have f197 := f174.keep Kq190
  have f198 := f175.keep Kq190
  have f199 := f176.keep Kq190 (oN1 ne_b25_b167)
  have f200 := f177.keep Kq190 (oN1 ne_b25_b167)
  have f201 := f178.keep Kq190
  have f202 := f179.keep Kq190
  have f203 := f180.keep Kq190 (oN1 ne_b60_b167)
  have f204 := f181.keep Kq190 (oN1 ne_b60_b167)
  have f205 := f182.keep Kq190
  have f206 := f183.keep Kq190 (oN1 ne_b109_b167)
  have f207 := f184.keep Kq190 (oN1 ne_b109_b167)
  have f208 := f185.keep Kq190 (oN1 ne_t49_b167)
  have f209 := f186.keep Kq190 (oN1 ne_b10_b167)
  have f210 := f187.keep Kq190 (oN1 ne_b10_b167)
  have f211 := f188.keep Kq190 (oN1 ne_b10_b167)
  have f212 := A167.keep Kq190
  have O190 := O167.keep Kq190 (allS g_b167 all0)
  have K190 : Keep h0 T190.heap [] := K167.trans Kq190 (allS (Or.inr sz_b167) all0)
  obtain ⟨cq213, kq213, q213a, q213b, q213c⟩ := isOf hZ190 rfl f197
  obtain ⟨_, _, ⟨T213, L213, k213, n213⟩, -, X213, ⟨Lc213, hQ213, l213, y213, z213⟩, st213⟩ := X190.virtualBack hx (y := Y7_) (z := Y7_) hown190 (mvT hZ190 (oW hw 245 rfl)) (mvT hZ190 (oW hw 246 rfl)) (notFace_of_selects (args := #[]) (mvT hZ190 (oW hw 248 rfl))) (mvT hZ190 (oW hw 248 rfl)) (mvT hZ190 (oW hw 247 rfl)) (by decide) (backOf (W := 0) (r_add3 l Z a0 hw [] s_D s_L s_LE s_E s_Z mr kd_ kl_ T190.heap n0 O190 G0 b10 ((((0 : Int32) + (1 : Int32)) + (1 : Int32)) + (1 : Int32)) t49 kt49 b25 b60 b109 b167 f197 f209 f210 f211 f201 f208 Ot49 g_b10 f212 g_t49 ne_b10_t49) hZ190 (oW hw 249 rfl) (oW hw 8 rfl) (by decide) (by decide)) q213a q213c (g := (mkF m 229 (oA4 p1 p2 p3 m_ u0_ u1_ u2_ u3_ nd (vR (b2)) (vR (b3)) (vR (b10)) oU oU oU oU oU) [(.ref b167), (.ref b10)])) rfl (by rw [hml]; rfl) (Steps.refl _) (argsL := [(.ref b167)]) (rest := []) (lenOf pd_33 rfl) rfl (by exact Nat.le_of_eq rfl) (hb hby at_229) (fun _ _ => ⟨rfl, rfl, (by decide : 16 + 0 ≤ _), (by decide : 140 + 0 ≤ _)⟩)
  dsimp only [Pt.U, Pt.locs, Pt.cells, Pt.slots] at X213 l213 y213 z213 st213 hQ213
  subst l213 y213 z213
  obtain ⟨rfl, N213q, Kq213, Fm213, Fe213, Fs213, Vt213⟩ := hQ213
  have N213 := Fr.app N190 N213q
  have f214 := f191.keep Kq213
  have f215 := f192.keep Kq213 (oN2 ne_b2_b10 ne_b2_t49)
  have f216 := f193.keep Kq213
  have f218 := f195.keep Kq213 (oN2 ne_b3_b10 ne_b3_t49)
  have f219 := f196.keep Kq213 (oN2 ne_b3_b10 ne_b3_t49)
  have f220 := f197.keep Kq213
  have f221 := f198.keep Kq213
  have f222 := f199.keep Kq213 (oN2 (Ne.symm ne_b10_b25) ne_b25_t49)
  have f223 := f200.keep Kq213 (oN2 (Ne.symm ne_b10_b25) ne_b25_t49)
  have f224 := f201.keep Kq213
  have f225 := f202.keep Kq213
  have f226 := f203.keep Kq213 (oN2 (Ne.symm ne_b10_b60) (Ne.symm ne_t49_b60))
  have f227 := f204.keep Kq213 (oN2 (Ne.symm ne_b10_b60) (Ne.symm ne_t49_b60))
  have f228 := f205.keep Kq213
  have f229 := f206.keep Kq213 (oN2 (Ne.symm ne_b10_b109) (Ne.symm ne_t49_b109))
  have f230 := f207.keep Kq213 (oN2 (Ne.symm ne_b10_b109) (Ne.symm ne_t49_b109))
  have f231 := f212.keep Kq213
  have f232 := Fs190.keep Kq213 (oN2 (Ne.symm ne_b10_b167) (Ne.symm ne_t49_b167))
  have f233 := Fo190.keep Kq213 (oN2 (Ne.symm ne_b10_b167) (Ne.symm ne_t49_b167))
  have O213 := O190.keep Kq213 (allS g_b10 (allS g_t49 all0))
  have K213 : Keep h0 T213.heap [] := K190.trans Kq213 (allS (Or.inr sz_b10) (allS (Or.inr sz_t49) all0))
  have hk213 := Nat.le_trans (Nat.le_refl _) Kq213.1
  obtain ⟨T234, h234, X234, e234, E234, A234, D234, -, st234⟩ := newO X213 hx hZ190 hown190 (oW hw 32 rfl) (oW hw 33 rfl) (oW hw 34 rfl) rfl (g := (mkF m 233 (oA4 p1 p2 p3 m_ u0_ u1_ u2_ u3_ nd (vR (b2)) (vR (b3)) (vR (b10)) oU oU oU oU oU) [])) rfl (hb hby at_233) (by decide) (by decide)
  obtain ⟨b234, g234⟩ := oZ T213.heap.size
  have ne_b25_b234 := oE f221.lt g234
  have ne_b60_b234 := oE f225.lt g234
  have ne_b109_b234 := oE f228.lt g234
  have ne_b167_b234 := oE f231.lt g234
  have g_b234 : n0 ≤ b234 := Nat.le_trans (O213.1 ▸ O213.2.1) (Nat.le_of_eq g234.symm)
  have sz_b234 : h0.size ≤ b234 := Nat.le_trans K213.1 (Nat.le_of_eq g234.symm)
  rw [← g234] at A234 D234 st234
  have f235 := f214.ext E234
  have f236 := f215.ext E234
  have f237 := f216.ext E234
  have f239 := f218.ext E234
  have f240 := f219.ext E234
  have f241 := f220.ext E234
  have f242 := f221.ext E234
  have f243 := f222.ext E234
  have f244 := f223.ext E234
  have f245 := f224.ext E234
  have f246 := f225.ext E234
  have f247 := f226.ext E234
  have f248 := f227.ext E234
  have f249 := f228.ext E234
  have f250 := f229.ext E234
  have f251 := f230.ext E234
  have f252 := f231.ext E234
  have f253 := f232.ext E234
  have f254 := f233.ext E234
  have f255 := Vt213.ext E234
  have f257 := Fe213.ext E234
  have f258 := Fs213.ext E234
  have O234 := O213.ext E234
  have K234 : Keep h0 h234 [] := K213.ext E234
  have hk234 := Nat.le_trans hk213 E234.1
  have F234_49 : Fld Z h234 b234 "com/example/hodos/hodos/analysis/Course" "stops" "[Z" .null := D234 (Or.inr (oW hw 49 rfl)) (ty := (.array .boolean)) (by decide)
  have F234_80 : Fld Z h234 b234 "com/example/hodos/hodos/analysis/Course" "starts" "Ljava/util/List;" .null := D234 (Or.inr (oW hw 80 rfl)) (ty := (.object "java/util/List")) (by decide)
  have F234_82 : Fld Z h234 b234 "com/example/hodos/hodos/analysis/Course" "arcs" "Ljava/util/List;" .null := D234 (Or.inr (oW hw 82 rfl)) (ty := (.object "java/util/List")) (by decide)
  have F234_136 : Fld Z h234 b234 "com/example/hodos/hodos/analysis/Course" "firstArc" "[I" .null := D234 (Or.inr (oW hw 136 rfl)) (ty := (.array .int)) (by decide)
  obtain ⟨_, _, ⟨T259, L259, k259, n259⟩, -, X259, ⟨Lc259, hQ259, l259, y259, z259⟩, st259⟩ := X234.specialBack hx (y := Y45_) rfl hown190 (mvT hZ190 (oW hw 35 rfl)) (mvT hZ190 (oW hw 36 rfl)) (mvT hZ190 (oW hw 37 rfl)) (by decide) (backOf (W := 1) (r_coi1 l Z a0 hw [] s_D s_L s_LE s_E s_Z mr kd_ kl_ h234 n0 O234 G0 b234 b2 b3 b10 ka2 [] (m_ + 1) [(min u0_ m_), (min (u0_ + u1_) m_), (min (u0_ + u1_ + u2_) m_), (min (u0_ + u1_ + u2_ + u3_) m_)] t49 kt49 [b25, b60, b109, b167] A234 g_b234 F234_49 F234_80 F234_82 F234_136 f235 f236 hN5 f237 f239 f240 f241 f257 f258 f245 f255 (Nat.le_of_ble_eq_true rfl) (Nat.le_of_ble_eq_true rfl) (fun _ => (Ne.symm ne_s_E_b60)) (own_arcs4 f242 f243 f244 f246 f247 f248 f249 f250 f251 f252 f253 f254) (own_hss4 (Nat.lt_succ_of_le own_mn) (Nat.lt_succ_of_le own_mn) (Nat.lt_succ_of_le own_mn) (Nat.lt_succ_of_le own_mn))) hZ190 (oW hw 37 rfl) (oW hw 34 rfl) (by decide) (by decide)) (g := (mkF m 243 (oA4 p1 p2 p3 m_ u0_ u1_ u2_ u3_ nd (vR (b2)) (vR (b3)) (vR (b10)) oU oU oU oU oU) [(.ref b10), (.ref b3), (.ref b2), (.ref b234), (.ref b234)])) rfl (by rw [hml]; rfl) (Steps.refl _) (a := b234) (argsL := [(.ref b2), (.ref b3), (.ref b10)]) (rest := [(.ref b234)]) (lenOf pd_30 rfl) rfl (by exact Nat.le_of_eq rfl) (hb hby at_243) (fun _ _ => ⟨rfl, e234, (by decide : 17 + 6 ≤ _), (by decide : 144 + 23 ≤ _)⟩)
  dsimp only [Pt.U, Pt.locs, Pt.cells, Pt.slots] at X259 l259 y259 z259 st259 hQ259
  subst l259 y259 z259
  obtain ⟨rfl, N259q, Kq259, Co259⟩ := hQ259
  have N259 := Fr.app N213 N259q
  have f267 := f242.keep Kq259
  have f268 := f243.keep Kq259 (oN1 ne_b25_b234)
  have f269 := f244.keep Kq259 (oN1 ne_b25_b234)
  have f271 := f246.keep Kq259
  have f272 := f247.keep Kq259 (oN1 ne_b60_b234)
  have f273 := f248.keep Kq259 (oN1 ne_b60_b234)
  have f274 := f249.keep Kq259
  have f275 := f250.keep Kq259 (oN1 ne_b109_b234)
  have f276 := f251.keep Kq259 (oN1 ne_b109_b234)
  have f277 := f252.keep Kq259
  have f278 := f253.keep Kq259 (oN1 ne_b167_b234)
  have f279 := f254.keep Kq259 (oN1 ne_b167_b234)
  have f284 := A234.keep Kq259
  have O259 := O234.keep Kq259 (allS g_b234 all0)
  have K259 : Keep h0 T259.heap [] := K234.trans Kq259 (allS (Or.inr sz_b234) all0)
  have hk259 := Nat.le_trans hk234 Kq259.1
  obtain ⟨cq285, kq285, q285a, q285b, q285c⟩ := isOf hZ190 rfl f284
  obtain ⟨_, _, ⟨T285, L285, k285, n285⟩, -, X285, ⟨Lc285, hQ285, l285, y285, z285⟩, st285⟩ := X259.virtualBack hx (y := Y52_) (z := Y52_) hown190 (mvT hZ190 (oW hw 137 rfl)) (mvT hZ190 (oW hw 138 rfl)) (notFace_of_selects (args := #[]) (mvT hZ190 (oW hw 140 rfl))) (mvT hZ190 (oW hw 140 rfl)) (mvT hZ190 (oW hw 139 rfl)) (by decide) (backOf (W := 0) (r_af l Z a0 hw [] s_D s_L s_LE s_E s_Z mr kd_ kl_ T259.heap n0 O259 G0 b234 (m_ + 1) nd [b25, b60, b109, b167] [(min u0_ m_), (min (u0_ + u1_) m_), (min (u0_ + u1_ + u2_) m_), (min (u0_ + u1_ + u2_ + u3_) m_)] Co259 hN5 hnd1 rfl (Nat.le_of_ble_eq_true rfl)) hZ190 (oW hw 141 rfl) (oW hw 34 rfl) (by decide) (by decide)) q285a q285c (g := (mkF m 252 (oA4 p1 p2 p3 m_ u0_ u1_ u2_ u3_ nd (vR (b2)) (vR (b3)) (vR (b10)) (vR (b234)) oU oU oU oU) [(.int nd.toInt32), (.ref b234)])) rfl (by rw [hml]; rfl) (Steps.refl _) (argsL := [(.int nd.toInt32)]) (rest := []) (lenOf pd_31 rfl) rfl (by exact Nat.le_of_eq rfl) (hb hby at_252) (fun _ _ => ⟨rfl, rfl, (by decide : 23 + 1 ≤ _), (by decide : 167 + 3 ≤ _)⟩)
  dsimp only [Pt.U, Pt.locs, Pt.cells, Pt.slots] at X285 l285 y285 z285 st285 hQ285
  subst l285 y285 z285
  obtain ⟨la285, Iq285, ta285, rfl, N285q, Kq285, Sl285⟩ := hQ285
  have N285 := Fr.app N259 N285q
  have f293 := f267.keep Kq285
  have f294 := f268.keep Kq285 (fun q => nomatch q)
  have f295 := f269.keep Kq285 (fun q => nomatch q)
  have f297 := f271.keep Kq285
  have f298 := f272.keep Kq285 (fun q => nomatch q)
  have f299 := f273.keep Kq285 (fun q => nomatch q)
  have f300 := f274.keep Kq285
  have f301 := f275.keep Kq285 (fun q => nomatch q)
  have f302 := f276.keep Kq285 (fun q => nomatch q)
  have f303 := f277.keep Kq285
  have f304 := f278.keep Kq285 (fun q => nomatch q)
  have f305 := f279.keep Kq285 (fun q => nomatch q)
  have O285 := O259.keep Kq285 all0
  have K285 : Keep h0 T285.heap [] := K259.trans Kq285 all0
  have hk285 := Nat.le_trans hk259 Kq285.1
  obtain ⟨T311, h311, L311, X311, e311, N311, O311, q311h, st311⟩ := t_ls s_D s_L s_LE s_E s_Z mr kd_ kl_ p1 p2 p3 (m_ + 1).toInt32 u0_.toInt32 (u0_ + u1_).toInt32 (u0_ + u1_ + u2_).toInt32 (u0_ + u1_ + u2_ + u3_).toInt32 4 (min u0_ m_) (min (u0_ + u1_) m_) (min (u0_ + u1_ + u2_) m_) (min (u0_ + u1_ + u2_ + u3_) m_) nd b2 b3 b10 b234 ta285 la285 [b25, b60, b109, b167] [(min u0_ m_), (min (u0_ + u1_) m_), (min (u0_ + u1_ + u2_) m_), (min (u0_ + u1_ + u2_ + u3_) m_)] 24 170 (by decide) (by decide) X285 hx hZ190 hw hby hml hown190 rfl N285 O285 G0 Sl285 (own_IL_keep Kq285 Iq285) (own_arcs4 f293 f294 f295 f297 f298 f299 f300 f301 f302 f303 f304 f305) (Nat.le_of_ble_eq_true rfl) rfl (by decide) hnd4 (Nat.le_trans own_mn (Nat.le_trans hm3 (by decide))) (Nat.le_trans own_mn (Nat.le_trans hm3 (by decide))) (Nat.le_trans own_mn (Nat.le_trans hm3 (by decide))) (Nat.le_trans own_mn (Nat.le_trans hm3 (by decide)))
  obtain rfl : T285.heap = h311 := q311h.symm
  obtain ⟨fs, hr, hrun, hended, hRW⟩ := X311.leaveW S190f (by rw [e311]; exact hk285) (v := some (.int (1 : Int32))) (oR Bd.returns)
  refine ⟨_, _, pre0 _ ?_, hrun, hended, _, _, rfl, ?_, hRW.1, hRW.2.1, hRW.2.2.1, hRW.2.2.2.mono (by decide) (by decide)⟩
  · show own_St p e below s₁ m 0 #[vI (p1), vI (p2), vI (p3), .unset, .unset, .unset, .unset, .unset, .unset, .unset, .unset, .unset, .unset, .unset, .unset, .unset, .unset, .unset, .unset, .unset, .unset, .unset] [] _
    refine st1 _ ?_
    show own_St p e below T1 m 99 (oA4 p1 p2 p3 m_ u0_ u1_ u2_ u3_ nd oU oU oU oU oU oU oU oU) [] _
    refine XS.iloadN X1.here hx rfl (hb hby at_99) rfl ?_
    refine st2 _ ?_
    show own_St p e below T2 m 102 (oA4 p1 p2 p3 m_ u0_ u1_ u2_ u3_ nd oU oU oU oU oU oU oU oU) [(.ref b2)] _
    refine XS.astore X2.here hx rfl (hb hby at_102) rfl rfl (l' := (oA4 p1 p2 p3 m_ u0_ u1_ u2_ u3_ nd (vR (b2)) oU oU oU oU oU oU oU)) rfl ?_
    refine st3 _ ?_
    show own_St p e below T3 m 107 (oA4 p1 p2 p3 m_ u0_ u1_ u2_ u3_ nd (vR (b2)) oU oU oU oU oU oU oU) [(.ref b3)] _
    refine XS.dup X3.here hx rfl (hb hby at_107) rfl rfl ?_
    refine st6.trans ?_
    show own_St p e below T6 m 111 (oA4 p1 p2 p3 m_ u0_ u1_ u2_ u3_ nd (vR (b2)) oU oU oU oU oU oU oU) [(.ref b3)] _
    refine XS.astore X6.here hx rfl (hb hby at_111) rfl rfl (l' := (oA4 p1 p2 p3 m_ u0_ u1_ u2_ u3_ nd (vR (b2)) (vR (b3)) oU oU oU oU oU oU)) rfl ?_
    refine st10 _ ?_
    show own_St p e below T10 m 116 (oA4 p1 p2 p3 m_ u0_ u1_ u2_ u3_ nd (vR (b2)) (vR (b3)) oU oU oU oU oU oU) [(.ref b10)] _
    refine XS.dup X10.here hx rfl (hb hby at_116) rfl rfl ?_
    refine st17.trans ?_
    show own_St p e below T17 m 120 (oA4 p1 p2 p3 m_ u0_ u1_ u2_ u3_ nd (vR (b2)) (vR (b3)) oU oU oU oU oU oU) [(.ref b10)] _
    refine XS.astore X17.here hx rfl (hb hby at_120) rfl rfl (l' := (oA4 p1 p2 p3 m_ u0_ u1_ u2_ u3_ nd (vR (b2)) (vR (b3)) (vR (b10)) oU oU oU oU oU)) rfl ?_
    refine XS.iload X17.here hx rfl (hb hby at_122) rfl ?_
    refine XS.ifNo X17.here hx rfl (hb hby at_124) rfl ((if0 _ _).trans (tlt (by decide : (0 : Int32) < (4 : Int32))).2.2.2) ?_
    refine XS.aload X17.here hx rfl (hb hby at_127) rfl rfl ?_
    refine st25 _ ?_
    show own_St p e below T25 m 132 (oA4 p1 p2 p3 m_ u0_ u1_ u2_ u3_ nd (vR (b2)) (vR (b3)) (vR (b10)) oU oU oU oU oU) [(.ref b25), (.ref b10)] _
    refine XS.dup X25.here hx rfl (hb hby at_132) rfl rfl ?_
    refine XS.iload X25.here hx rfl (hb hby at_133) rfl ?_
    refine XS.iconst X25.here hx rfl (hb hby at_135) ?_
    refine st36 _ ?_
    show own_St p e below T36 m 139 (oA4 p1 p2 p3 m_ u0_ u1_ u2_ u3_ nd (vR (b2)) (vR (b3)) (vR (b10)) oU oU oU oU oU) [(.ref s_Z), (.int (-1 : Int32)), (.int (min u0_ m_).toInt32), (.ref b25), (.ref b25), (.ref b10)] _
    refine XS.iconst X36.here hx rfl (hb hby at_139) ?_
    refine XS.iconst X36.here hx rfl (hb hby at_140) ?_
    refine XS.iconst X36.here hx rfl (hb hby at_141) ?_
    refine st37.trans ?_
    refine st49.trans ?_
    show own_St p e below T49 m 148 (oA4 p1 p2 p3 m_ u0_ u1_ u2_ u3_ nd (vR (b2)) (vR (b3)) (vR (b10)) oU oU oU oU oU) [(.int (1 : Int32))] _
    refine XS.pop X49.here hx rfl (hb hby at_148) rfl rfl ?_
    show own_St p e below T49 m 149 (oA4 p1 p2 p3 m_ u0_ u1_ u2_ u3_ nd (vR (b2)) (vR (b3)) (vR (b10)) oU oU oU oU oU) [] _
    refine XS.iload X49.here hx rfl (hb hby at_149) rfl ?_
    refine XS.iconst X49.here hx rfl (hb hby at_151) ?_
    refine XS.icmpNo X49.here hx rfl (hb hby at_152) rfl (tlt (by decide : (1 : Int32) < (4 : Int32))).2.2.2 ?_
    refine XS.aload X49.here hx rfl (hb hby at_155) rfl rfl ?_
    refine st60 _ ?_
    show own_St p e below T60 m 160 (oA4 p1 p2 p3 m_ u0_ u1_ u2_ u3_ nd (vR (b2)) (vR (b3)) (vR (b10)) oU oU oU oU oU) [(.ref b60), (.ref b10)] _
    refine XS.dup X60.here hx rfl (hb hby at_160) rfl rfl ?_
    refine XS.iload X60.here hx rfl (hb hby at_161) rfl ?_
    refine XS.iconst X60.here hx rfl (hb hby at_163) ?_
    refine st76 _ ?_
    show own_St p e below T76 m 167 (oA4 p1 p2 p3 m_ u0_ u1_ u2_ u3_ nd (vR (b2)) (vR (b3)) (vR (b10)) oU oU oU oU oU) [(.ref s_Z), (.int (-1 : Int32)), (.int (min (u0_ + u1_) m_).toInt32), (.ref b60), (.ref b60), (.ref b10)] _
    refine XS.iconst X76.here hx rfl (hb hby at_167) ?_
    refine XS.iconst X76.here hx rfl (hb hby at_168) ?_
    refine XS.iconst X76.here hx rfl (hb hby at_169) ?_
    refine st77.trans ?_
    refine st94.trans ?_
    show own_St p e below T94 m 176 (oA4 p1 p2 p3 m_ u0_ u1_ u2_ u3_ nd (vR (b2)) (vR (b3)) (vR (b10)) oU oU oU oU oU) [(.int (1 : Int32))] _
    refine XS.pop X94.here hx rfl (hb hby at_176) rfl rfl ?_
    show own_St p e below T94 m 177 (oA4 p1 p2 p3 m_ u0_ u1_ u2_ u3_ nd (vR (b2)) (vR (b3)) (vR (b10)) oU oU oU oU oU) [] _
    refine XS.iload X94.here hx rfl (hb hby at_177) rfl ?_
    refine XS.iconst X94.here hx rfl (hb hby at_179) ?_
    refine XS.icmpNo X94.here hx rfl (hb hby at_180) rfl (tlt (by decide : (2 : Int32) < (4 : Int32))).2.2.2 ?_
    refine XS.aload X94.here hx rfl (hb hby at_183) rfl rfl ?_
    refine st109 _ ?_
    show own_St p e below T109 m 188 (oA4 p1 p2 p3 m_ u0_ u1_ u2_ u3_ nd (vR (b2)) (vR (b3)) (vR (b10)) oU oU oU oU oU) [(.ref b109), (.ref b10)] _
    refine XS.dup X109.here hx rfl (hb hby at_188) rfl rfl ?_
    refine XS.iload X109.here hx rfl (hb hby at_189) rfl ?_
    refine XS.iconst X109.here hx rfl (hb hby at_191) ?_
    refine st128 _ ?_
    show own_St p e below T128 m 195 (oA4 p1 p2 p3 m_ u0_ u1_ u2_ u3_ nd (vR (b2)) (vR (b3)) (vR (b10)) oU oU oU oU oU) [(.ref s_Z), (.int (-1 : Int32)), (.int (min (u0_ + u1_ + u2_) m_).toInt32), (.ref b109), (.ref b109), (.ref b10)] _
    refine XS.iconst X128.here hx rfl (hb hby at_195) ?_
    refine XS.iconst X128.here hx rfl (hb hby at_196) ?_
    refine XS.iconst X128.here hx rfl (hb hby at_197) ?_
    refine st129.trans ?_
    refine st149.trans ?_
    show own_St p e below T149 m 204 (oA4 p1 p2 p3 m_ u0_ u1_ u2_ u3_ nd (vR (b2)) (vR (b3)) (vR (b10)) oU oU oU oU oU) [(.int (1 : Int32))] _
    refine XS.pop X149.here hx rfl (hb hby at_204) rfl rfl ?_
    show own_St p e below T149 m 205 (oA4 p1 p2 p3 m_ u0_ u1_ u2_ u3_ nd (vR (b2)) (vR (b3)) (vR (b10)) oU oU oU oU oU) [] _
    refine XS.iload X149.here hx rfl (hb hby at_205) rfl ?_
    refine XS.iconst X149.here hx rfl (hb hby at_207) ?_
    refine XS.icmpNo X149.here hx rfl (hb hby at_208) rfl (tlt (by decide : (3 : Int32) < (4 : Int32))).2.2.2 ?_
    refine XS.aload X149.here hx rfl (hb hby at_211) rfl rfl ?_
    refine st167 _ ?_
    show own_St p e below T167 m 216 (oA4 p1 p2 p3 m_ u0_ u1_ u2_ u3_ nd (vR (b2)) (vR (b3)) (vR (b10)) oU oU oU oU oU) [(.ref b167), (.ref b10)] _
    refine XS.dup X167.here hx rfl (hb hby at_216) rfl rfl ?_
    refine XS.iload X167.here hx rfl (hb hby at_217) rfl ?_
    refine XS.iconst X167.here hx rfl (hb hby at_219) ?_
    refine st189 _ ?_
    show own_St p e below T189 m 223 (oA4 p1 p2 p3 m_ u0_ u1_ u2_ u3_ nd (vR (b2)) (vR (b3)) (vR (b10)) oU oU oU oU oU) [(.ref s_Z), (.int (-1 : Int32)), (.int (min (u0_ + u1_ + u2_ + u3_) m_).toInt32), (.ref b167), (.ref b167), (.ref b10)] _
    refine XS.iconst X189.here hx rfl (hb hby at_223) ?_
    refine XS.iconst X189.here hx rfl (hb hby at_224) ?_
    refine XS.iconst X189.here hx rfl (hb hby at_225) ?_
    refine st190.trans ?_
    refine st213.trans ?_
    show own_St p e below T213 m 232 (oA4 p1 p2 p3 m_ u0_ u1_ u2_ u3_ nd (vR (b2)) (vR (b3)) (vR (b10)) oU oU oU oU oU) [(.int (1 : Int32))] _
    refine XS.pop X213.here hx rfl (hb hby at_232) rfl rfl ?_
    refine st234 _ ?_
    show own_St p e below T234 m 236 (oA4 p1 p2 p3 m_ u0_ u1_ u2_ u3_ nd (vR (b2)) (vR (b3)) (vR (b10)) oU oU oU oU oU) [(.ref b234)] _
    refine XS.dup X234.here hx rfl (hb hby at_236) rfl rfl ?_
    refine XS.aload X234.here hx rfl (hb hby at_237) rfl rfl ?_
    refine XS.aload X234.here hx rfl (hb hby at_239) rfl rfl ?_
    refine XS.aload X234.here hx rfl (hb hby at_241) rfl rfl ?_
    refine st259.trans ?_
    show own_St p e below T259 m 246 (oA4 p1 p2 p3 m_ u0_ u1_ u2_ u3_ nd (vR (b2)) (vR (b3)) (vR (b10)) oU oU oU oU oU) [(.ref b234)] _
    refine XS.astore X259.here hx rfl (hb hby at_246) rfl rfl (l' := (oA4 p1 p2 p3 m_ u0_ u1_ u2_ u3_ nd (vR (b2)) (vR (b3)) (vR (b10)) (vR (b234)) oU oU oU oU)) rfl ?_
    refine XS.aload X259.here hx rfl (hb hby at_248) rfl rfl ?_
    refine XS.iload X259.here hx rfl (hb hby at_250) rfl ?_
    refine st285.trans ?_
    show own_St p e below T285 m 255 (oA4 p1 p2 p3 m_ u0_ u1_ u2_ u3_ nd (vR (b2)) (vR (b3)) (vR (b10)) (vR (b234)) oU oU oU oU) [(.ref ta285)] _
    refine XS.astore X285.here hx rfl (hb hby at_255) rfl rfl (l' := (oA4 p1 p2 p3 m_ u0_ u1_ u2_ u3_ nd (vR (b2)) (vR (b3)) (vR (b10)) (vR (b234)) (vR (ta285)) oU oU oU)) rfl ?_
    refine st311 _ ?_
    show own_St p e below T311 m 433 (oA4 p1 p2 p3 m_ u0_ u1_ u2_ u3_ nd (vR (b2)) (vR (b3)) (vR (b10)) (vR (b234)) (vR (ta285)) (vI ((own_ct [(min u0_ m_), (min (u0_ + u1_) m_), (min (u0_ + u1_ + u2_) m_), (min (u0_ + u1_ + u2_ + u3_) m_)] nd).toInt32)) (vI ((own_ct [(min u0_ m_), (min (u0_ + u1_) m_), (min (u0_ + u1_ + u2_) m_), (min (u0_ + u1_ + u2_ + u3_) m_)] (nd + 1)).toInt32)) (vI ((own_ct [(min u0_ m_), (min (u0_ + u1_) m_), (min (u0_ + u1_ + u2_) m_), (min (u0_ + u1_ + u2_ + u3_) m_)] (nd + 1) - own_ct [(min u0_ m_), (min (u0_ + u1_) m_), (min (u0_ + u1_ + u2_) m_), (min (u0_ + u1_ + u2_ + u3_) m_)] nd).toInt32))) [(.int (1 : Int32))] _
    exact retN X311 hx (t := .boolean) Bd.returns (by simp) (hb hby at_433) hr
  · show own_Qk (some (.int (1 : Int32))) [] h0 n0 _ T311.heap _
    rw [e311]
    exact ⟨rfl, N311, K285⟩
theorem own_wide {l : Launch} {Z : State} {h0 : Heap} {n0 : Nat} {S : Spec} {A : Array Value} {k n : Nat} (h : MetFree l x S (fun a U => a = A ∧ Z.Warmed39 U.vm ∧ U.heap = h0) (fun _ _ _ _ _ => True) (fun _ U o U' => ∃ v L, o = .returned v ∧ own_Qk (some (.int (1 : Int32))) [] h0 n0 v U'.heap L ∧ FrameEnd U o U' L k n)) : MetFree l x S (fun a U => a = A ∧ Z.Warmed39 U.vm ∧ U.heap = h0) (fun _ _ _ _ _ => True) (fun _ U o U' => ∃ v L, o = .returned v ∧ own_Qk (some (.int (1 : Int32))) [] h0 n0 v U'.heap L ∧ ReturnedEndW U o U' L k n) :=
  h.mono (fun _ _ q => q) (fun _ _ _ _ _ q => q) (fun _ _ _ _ _ ⟨v, L, h1, h2, h3⟩ => ⟨v, L, h1, h2, ReturnedEndW.of_narrow h3.1 h3.2.1 h3.2.2⟩)
theorem own_law (l Z a0) (hw : own_HW a0 Z) (ws s_D s_L s_LE s_E s_Z mr kd_ kl_ h0 n0) (O0 : Old Z n0 h0) (G : own_Ctx Z Z.heap s_D s_L s_LE s_E s_Z mr kd_ kl_) (wS : ∀ a ∈ Bundle.stringAtoms, a.before a0 Z = true) (p1 p2 p3 : Int32) : MetFree l x (head1 (Jvm.Cond.code x code maxLocals ret :: ws) room_1) (fun a U => a = #[(.int p1), (.int p2), (.int p3)] ∧ Z.Warmed39 U.vm ∧ U.heap = h0) (fun _ _ _ _ _ => True) (fun _ U o U' => ∃ v L, o = .returned v ∧ own_Qk (some (.int (1 : Int32))) [] h0 n0 v U'.heap L ∧ ReturnedEndW U o U' L 48 1280) := by
  obtain ⟨m_, hm3, hm⟩ := own_and3 p1
  obtain ⟨u0_, hv0, hu0⟩ := own_and3 ((p2.toUInt32 >>> ((0 : Int32) &&& 31).toUInt32).toInt32)
  obtain ⟨u1_, hv1, hu1⟩ := own_and3 ((p2.toUInt32 >>> ((2 : Int32) &&& 31).toUInt32).toInt32)
  obtain ⟨u2_, hv2, hu2⟩ := own_and3 ((p2.toUInt32 >>> ((4 : Int32) &&& 31).toUInt32).toInt32)
  obtain ⟨u3_, hv3, hu3⟩ := own_and3 ((p2.toUInt32 >>> ((6 : Int32) &&& 31).toUInt32).toInt32)
  obtain ⟨nd, hnd1, hnd⟩ := own_nd p3 hm3
  rcases own_kk p1 with hk | hk | hk | hk | hk
  · exact own_wide (r_law0 l Z a0 hw ws s_D s_L s_LE s_E s_Z mr kd_ kl_ h0 n0 O0 G p1 p2 p3 m_ u0_ u1_ u2_ u3_ nd hm hm3 hk hu0 hv0 hu1 hv1 hu2 hv2 hu3 hv3 hnd hnd1)
  · exact r_law1 l Z a0 hw ws s_D s_L s_LE s_E s_Z mr kd_ kl_ h0 n0 O0 G wS p1 p2 p3 m_ u0_ u1_ u2_ u3_ nd hm hm3 hk hu0 hv0 hu1 hv1 hu2 hv2 hu3 hv3 hnd hnd1
  · exact r_law2 l Z a0 hw ws s_D s_L s_LE s_E s_Z mr kd_ kl_ h0 n0 O0 G wS p1 p2 p3 m_ u0_ u1_ u2_ u3_ nd hm hm3 hk hu0 hv0 hu1 hv1 hu2 hv2 hu3 hv3 hnd hnd1
  · exact r_law3 l Z a0 hw ws s_D s_L s_LE s_E s_Z mr kd_ kl_ h0 n0 O0 G wS p1 p2 p3 m_ u0_ u1_ u2_ u3_ nd hm hm3 hk hu0 hv0 hu1 hv1 hu2 hv2 hu3 hv3 hnd hnd1
  · exact r_law4 l Z a0 hw ws s_D s_L s_LE s_E s_Z mr kd_ kl_ h0 n0 O0 G wS p1 p2 p3 m_ u0_ u1_ u2_ u3_ nd hm hm3 hk hu0 hv0 hu1 hv1 hu2 hv2 hu3 hv3 hnd hnd1
theorem own_len {args : Array Value} {Z : State} {t : Term} {a : Addr} {cl : Cell} {ty : FieldType} {z : Int32} (A : Arr Z Z.heap a cl ty) (ht : t.eval args Z none [] Z = some (.ref a)) (hl : (Term.length t).eval args Z none [] Z = some (.int z)) : cl.slots.size < 2 ^ 31 ∧ cl.slots.size.toInt32 = z := by
  have ha : Z.arrayAt? a = some cl := Arr.fin (State.Warmed39.refl Z).alike A
  by_cases q : cl.slots.size < 2 ^ 31
  · rw [len_f ht ha q] at hl; exact ⟨q, Value.int.inj (Option.some.inj hl)⟩
  · simp [Term.eval, ht, ha, q] at hl
theorem comes_1 {Post : Tables → Env → Array Value → State → Outcome → State → Prop} (hpost : ∀ tb e args s v u, (limb_1_1.after args s (.returned v) u = true ∧ limb_1_2.after args s (.returned v) u = true ∧ True) → ReturnedEndW s (.returned v) u (Jvm.fieldLocs frame_1_writes args s ++ Jvm.arrayLocs frame_1_arrays args s ++ Jvm.staticLocs frame_1_statics s) 48 1280 → Post tb e args s (.returned v) u) :
    ArmFor flags0 classFile x code maxLocals ret World_1 tables_1 room_1 Calls_1 rest_1 Pre_1 Post := by
  intro l hfl _ _ p e ha hc hk s m args below hf hA hF happ hP
  obtain ⟨hcalls, hrest, hpre⟩ := hP
  obtain ⟨-, -, -, hnamed, -, -, -, hat⟩ := (Spec.applies_iff hf).mp happ
  obtain ⟨hg, hn⟩ := and_e (Cond.before_iff.mp (show (Jvm.Cond.and given_1 narrow_1).before args s = true from hpre))
  obtain ⟨hg0, hg1⟩ := and_e hg
  obtain ⟨hg10, hg11⟩ := and_e hg1
  obtain ⟨hg110, hg111⟩ := and_e hg11
  obtain ⟨w0, w1, w2, rfl⟩ : ∃ w0 w1 w2 : Value, args = #[w0, w1, w2] := by
    have hs : args.size = 3 := by simpa [Cond.value, given_1] using hg0
    obtain ⟨L⟩ := args
    match L, hs with
    | [w0, w1, w2], _ => exact ⟨w0, w1, w2, rfl⟩
  obtain ⟨i0, ei0⟩ := is_v hg10
  obtain rfl : w0 = (.int i0) := Option.some.inj ei0
  obtain ⟨i1, ei1⟩ := is_v hg110
  obtain rfl : w1 = (.int i1) := Option.some.inj ei1
  obtain ⟨i2, ei2⟩ := is_v hg111
  obtain rfl : w2 = (.int i2) := Option.some.inj ei2
  have hw := fun d (hd : d ∈ tables_1) => atoms_spec (ws := Jvm.Cond.code x code maxLocals ret :: tables_1) hat d (List.mem_cons_of_mem _ hd)
  have hfit : Fit s := fun {y c} hc i hi => by
    obtain ⟨ha, rfl⟩ := Array.getElem?_eq_some_iff.mp hc
    have q := List.all_eq_true.mp ((Array.all_eq_true_iff_forall_mem.mp hF) _ (Array.getElem_mem ha)) i (List.mem_range.mpr hi)
    simpa [Array.getElem?_eq_getElem hi] using q
  obtain ⟨hsets, hown0⟩ := atoms_of _ (rest_1_c_eq ▸ (show rest_1_c.before _ s = true from hrest))
  obtain ⟨s_D, ev_D⟩ := exa_v (Cond.before_iff.mp (hsets _ (List.mem_of_getElem? (i := 7) rfl)))
  have E_D := Exa.start ev_D (Cond.before_iff.mp (hsets _ (List.mem_of_getElem? (i := 7) rfl)))
  have S_D := Sta.start ev_D (Or.inr ⟨(oW hw 8 rfl), hsets _ (List.mem_of_getElem? (i := 2) rfl)⟩)
  obtain ⟨clD, AD⟩ := Arr.start ev_D (Cond.before_iff.mp (hsets _ (List.mem_of_getElem? (i := 6) rfl)))
  obtain ⟨zaD, zbD⟩ := own_len AD ev_D (own_eqI (Cond.before_iff.mp (hsets _ (List.mem_of_getElem? (i := 8) rfl))))
  have V_D : Arv s s.heap _ clD.cls (.object "java/lang/Object") (0 : Int32) [] .null := Arv.start hfit AD zaD zbD (by decide) rfl trivial
  obtain ⟨kd_, ekd_⟩ : ∃ k, k = clD.cls := ⟨_, rfl⟩
  rw [← ekd_] at V_D
  obtain ⟨s_L, ev_L⟩ := exa_v (Cond.before_iff.mp (hsets _ (List.mem_of_getElem? (i := 11) rfl)))
  have E_L := Exa.start ev_L (Cond.before_iff.mp (hsets _ (List.mem_of_getElem? (i := 11) rfl)))
  have S_L := Sta.start ev_L (Or.inl (hsets _ (List.mem_of_getElem? (i := 10) rfl)))
  obtain ⟨s_LE, ev_LE⟩ := arr_v (Cond.before_iff.mp (hsets _ (List.mem_of_getElem? (i := 12) rfl)))
  have F_L := Fld.start ((fld_at ev_L).symm.trans ev_LE)
  obtain ⟨clL, AL⟩ := Arr.start ev_LE (Cond.before_iff.mp (hsets _ (List.mem_of_getElem? (i := 12) rfl)))
  obtain ⟨zaL, zbL⟩ := own_len AL ev_LE (own_eqI (Cond.before_iff.mp (hsets _ (List.mem_of_getElem? (i := 14) rfl))))
  have V_L : Arv s s.heap _ clL.cls (.object "java/lang/Object") (0 : Int32) [] .null := Arv.start hfit AL zaL zbL (by decide) rfl trivial
  obtain ⟨kl_, ekl_⟩ : ∃ k, k = clL.cls := ⟨_, rfl⟩
  rw [← ekl_] at V_L
  obtain ⟨s_E, ev_E⟩ := exa_v (Cond.before_iff.mp (hsets _ (List.mem_of_getElem? (i := 21) rfl)))
  have E_E := Exa.start ev_E (Cond.before_iff.mp (hsets _ (List.mem_of_getElem? (i := 21) rfl)))
  have S_E := Sta.start ev_E (Or.inl (hsets _ (List.mem_of_getElem? (i := 20) rfl)))
  have S_A := Sta.start (own_eqI (Cond.before_iff.mp (hsets _ (List.mem_of_getElem? (i := 18) rfl)))) (Or.inl (hsets _ (List.mem_of_getElem? (i := 17) rfl)))
  obtain ⟨s_Z, ev_Z⟩ := exa_v hn
  have E_Z := Exa.start ev_Z hn
  have S_Z := Sta.start ev_Z (Or.inr ⟨(oW hw 211 rfl), (oW hw 212 rfl)⟩)
  obtain ⟨mr, M_A⟩ : ∃ mr, own_Mi s "[Ljava/lang/Object;" mr := by
    obtain ⟨c, k, a, h1, h2, h3, -⟩ := hcalls.1
    exact ⟨a, c, k, h1, h2, h3⟩
  have G : own_Ctx s s.heap s_D s_L s_LE s_E s_Z mr kd_ kl_ := ⟨S_D, E_D, V_D, S_L, E_L, F_L, V_L, S_E, E_E, S_A, S_Z, E_Z, M_A⟩
  have wS : ∀ a ∈ Bundle.stringAtoms, a.before #[(.int i0), (.int i1), (.int i2)] s = true := fun a ha => by
    simp only [Bundle.stringAtoms, List.mem_cons, List.not_mem_nil, or_false] at ha
    rcases ha with rfl | rfl | rfl | rfl | rfl | rfl | rfl
    · exact (oW hw 223 rfl)
    · exact (oW hw 224 rfl)
    · exact (oW hw 225 rfl)
    · exact (oW hw 226 rfl)
    · exact (oW hw 227 rfl)
    · exact (oW hw 228 rfl)
    · exact (oW hw 229 rfl)
  obtain ⟨n, o, h1, h2, h3, _, L, rfl, ⟨rfl, N, -⟩, hq⟩ := own_law l s _ hw tables_1 s_D s_L s_LE s_E s_Z mr kd_ kl_ s.heap s.heap.size (Old.start s) G wS i0 i1 i2 p e ha hc hk s m _ below hf ((Spec.applies_iff_loose hf).mp happ).1 ⟨rfl, State.Warmed39.refl s, rfl⟩ trivial
  refine ⟨n, _, h1, h2, h3, hpost _ _ _ _ _ _ ⟨Cond.after_iff.mpr rfl, Cond.after_iff.mpr (eq_i res_at (Term.int_eval (1)) rfl), trivial⟩ ⟨hq.1, hq.2.1, hq.2.2.1, (hq.2.2.2.sift fun y hy => Or.inr (N y hy)).mono (by decide) (by decide)⟩⟩
theorem main_1_1 : Claimed_1_1 := comes_1 fun _ _ _ _ _ _ h hF => ⟨h.1, hF⟩
theorem main_1_2 : Claimed_1_2 := comes_1 fun _ _ _ _ _ _ h hF => ⟨h.2.1, hF⟩
end Jvm.Pilot.@@N@@
namespace Jvm.Pilot.@@N@@
open Jvm Jvm.ClassFile Sem Op Lib Jvm.Free Jvm.Stand Jvm.Pilot.@@N@@.Jvm.D
/-! MADE BY PROGRAM (witnessworld.py) out of the Statement's table words and the real class files: 46 classes; the members and pool entries that the words name. The judged class is class 1, her method 3. -/
namespace start1
set_option maxRecDepth 65536
open Jvm.ClassFile
def u (s : String) : CpInfo := .utf8 (stringToUtf16 s)
def gap : Nat → List CpInfo → List CpInfo
  | 0, r => r
  | n + 1, r => .unusable :: gap n r
def poolList (es : List (Nat × CpInfo)) (last : Nat) : List CpInfo := es.foldr (fun e r => gap e.1 (e.2 :: r)) (gap last [])
def pool (es : List (Nat × CpInfo)) (last : Nat) : Array CpInfo := ⟨poolList es last⟩
def fileOf (pool : Array CpInfo) (this : Nat) (attrs : Array Attribute := #[]) (ms : Array MethodInfo := #[]) (fl : Nat := 33) (sup : Nat := 0) (ifs : Array Nat := #[]) (fds : Array FieldInfo := #[]) : ClassFile where
  minorVersion := 0
  majorVersion := 65
  constantPool := pool
  accessFlags := fl
  thisClass := this
  superClass := sup
  interfaces := ifs
  fields := fds
  methods := ms
  attributes := attrs
def plain (name : String) (sup : Option ClassId) : Class where
  name := name
  kind := .ordinary
  loader := none
  accessFlags := 33
  super := sup
  interfaces := #[]
  cf := none
  fields := #[]
  methods := #[]
  instanceTypes := #[]
  staticTypes := #[]
  resolved := #[]
  callSites := []
  init := .initialized
  statics := none
  mirror := none
def pool0 : Array CpInfo := pool [(5, u "<init>"), (0, u "()V"), (1, .class_ 10), (1, u "java/lang/Object"), (0, u "getClass"), (0, u "()Ljava/lang/Class;"), (83, u "clone"), (0, u "()Ljava/lang/Object;")] 26
def k0c0 : Code := { maxStack := 0, maxLocals := 1, code := object_method_1_code, exceptionTable := #[], attributes := #[] }
def k0m0 : Method := { name := "<init>", desc := "()V", sig := { parameters := [], returnType := none }, accessFlags := 1, code := some k0c0 }
def k0m1 : Method := { name := "getClass", desc := "()Ljava/lang/Class;", sig := { parameters := [], returnType := some (.object "java/lang/Class") }, accessFlags := 273, code := none }
def k0m2 : Method := { name := "clone", desc := "()Ljava/lang/Object;", sig := { parameters := [], returnType := some (.object "java/lang/Object") }, accessFlags := 260, code := none }
def k0 : Class := { plain "java/lang/Object" none with
  accessFlags := 33
  cf := some (fileOf pool0 8 #[] #[⟨1, 5, 6, #[]⟩, ⟨273, 11, 12, #[]⟩, ⟨260, 96, 97, #[]⟩] 33 0 #[] #[])
  methods := #[k0m0, k0m1, k0m2]
  resolved := Array.replicate 124 none
  statics := none }
def pool1 : Array CpInfo := pool [(2, .class_ 4), (0, .nameAndType 5 6), (0, u "java/lang/Object"), (0, u "<init>"), (0, u "()V"), (0, .interfaceMethodref 8 9), (0, .class_ 10), (0, .nameAndType 11 12), (0, u "java/util/List"), (0, u "get"), (0, u "(I)Ljava/lang/Object;"), (0, .class_ 14), (0, u "com/example/hodos/hodos/analysis/Course$Arc"), (0, .methodref 13 16), (0, .nameAndType 17 18), (0, u "origin"), (0, u "()I"), (0, .methodref 20 21), (0, .class_ 22), (0, .nameAndType 23 24), (0, u "java/lang/Math"), (0, u "min"), (0, u "(II)I"), (0, .integer 2147483647), (0, .class_ 27), (0, u "java/util/ArrayList"), (0, .methodref 26 3), (0, .class_ 30), (0, u "com/example/hodos/hodos/analysis/Course"), (0, .fieldref 32 33), (0, .class_ 34), (0, .nameAndType 35 36), (0, u "com/example/hodos/hodos/model/Time"), (0, u "ZERO"), (0, u "Lcom/example/hodos/hodos/model/Time;"), (0, .methodref 13 38), (0, .nameAndType 5 39), (0, u "(IILcom/example/hodos/hodos/model/Time;ZZI)V"), (0, .methodref 26 41), (0, .nameAndType 42 43), (0, u "add"), (0, u "(Ljava/lang/Object;)Z"), (0, .methodref 29 45), (0, .nameAndType 5 46), (0, u "([ZLjava/util/List;Ljava/util/List;)V"), (0, .methodref 29 48), (0, .nameAndType 49 50), (0, u "arcsFrom"), (0, u "(I)Ljava/util/List;"), (0, .methodref 52 53), (0, .class_ 54), (0, .nameAndType 55 56), (0, u "com/example/hodos/hodos/analysis/CourseArcsFromPinLaw"), (0, u "cnt"), (0, u "(IIII)I"), (0, .interfaceMethodref 8 58), (0, .nameAndType 59 18), (0, u "size"), (0, .methodref 52 61), (0, .nameAndType 62 63), (0, u "check"), (0, u "(Ljava/util/List;III)Z"), (5, u "law"), (0, u "(III)Z")] 6
def k1m0 : Method := { name := "<init>", desc := "()V", sig := { parameters := [], returnType := none }, accessFlags := 2, code := none }
def k1c1 : Code := { maxStack := 2, maxLocals := 4, code := method_2_code, exceptionTable := #[], attributes := #[] }
def k1m1 : Method := { name := "cnt", desc := "(IIII)I", sig := { parameters := [.int, .int, .int, .int], returnType := some .int }, accessFlags := 10, code := some k1c1 }
def k1c2 : Code := { maxStack := 3, maxLocals := 4, code := method_3_code, exceptionTable := #[], attributes := #[] }
def k1m2 : Method := { name := "check", desc := "(Ljava/util/List;III)Z", sig := { parameters := [(.object "java/util/List"), .int, .int, .int], returnType := some .boolean }, accessFlags := 10, code := some k1c2 }
def k1c3 : Code := { maxStack := 9, maxLocals := 22, code := code, exceptionTable := #[], attributes := #[] }
def k1m3 : Method := { name := "law", desc := "(III)Z", sig := { parameters := [.int, .int, .int], returnType := some .boolean }, accessFlags := 9, code := some k1c3 }
def k1 : Class := { plain "com/example/hodos/hodos/analysis/CourseArcsFromPinLaw" (some 0) with
  accessFlags := 49
  cf := some (fileOf pool1 52 #[] #[⟨2, 5, 6, #[]⟩, ⟨10, 55, 56, #[]⟩, ⟨10, 62, 63, #[]⟩, ⟨9, 69, 70, #[]⟩] 49 2 #[] #[])
  methods := #[k1m0, k1m1, k1m2, k1m3]
  resolved := Array.replicate 77 none
  statics := none }
def pool2 : Array CpInfo := pool [(1, .class_ 2), (0, u "java/lang/Math"), (1, .class_ 6), (1, u "java/lang/Object"), (0, u "<init>"), (0, u "()V"), (89, .class_ 100), (1, u "java/lang/Math$RandomNumberGeneratorHolder"), (71, u "negativeZeroFloatBits"), (0, u "J"), (2, u "negativeZeroDoubleBits"), (21, u "max"), (2, u "min"), (43, u "$assertionsDisabled"), (0, u "Z"), (88, u "(II)I"), (2, u "twoToTheDoubleScaleDown"), (0, u "D"), (4, u "twoToTheDoubleScaleUp"), (9, u "E"), (3, u "PI"), (2, u "TAU"), (2, u "DEGREES_TO_RADIANS"), (0, u "RADIANS_TO_DEGREES")] 94
def k2m0 : Method := { name := "<init>", desc := "()V", sig := { parameters := [], returnType := none }, accessFlags := 2, code := none }
def k2c1 : Code := { maxStack := 2, maxLocals := 2, code := jdk_29_method_65_code, exceptionTable := #[], attributes := #[] }
def k2m1 : Method := { name := "max", desc := "(II)I", sig := { parameters := [.int, .int], returnType := some .int }, accessFlags := 9, code := some k2c1 }
def k2c2 : Code := { maxStack := 2, maxLocals := 2, code := jdk_29_method_69_code, exceptionTable := #[], attributes := #[] }
def k2m2 : Method := { name := "min", desc := "(II)I", sig := { parameters := [.int, .int], returnType := some .int }, accessFlags := 9, code := some k2c2 }
def k2 : Class := { plain "java/lang/Math" (some 0) with
  accessFlags := 49
  cf := some (fileOf pool2 1 #[.nestMembers #[98]] #[⟨2, 7, 8, #[]⟩, ⟨9, 198, 335, #[]⟩, ⟨9, 201, 335, #[]⟩] 49 4 #[] #[⟨25, 354, 339, #[]⟩, ⟨25, 358, 339, #[]⟩, ⟨25, 361, 339, #[]⟩, ⟨26, 364, 339, #[]⟩, ⟨26, 365, 339, #[]⟩, ⟨26, 172, 173, #[]⟩, ⟨26, 176, 173, #[]⟩, ⟨8, 344, 339, #[]⟩, ⟨8, 338, 339, #[]⟩, ⟨4120, 245, 246, #[]⟩])
  fields := #[⟨"E", .double, 25, 0, 0⟩, ⟨"PI", .double, 25, 1, 0⟩, ⟨"TAU", .double, 25, 2, 0⟩, ⟨"DEGREES_TO_RADIANS", .double, 26, 3, 0⟩, ⟨"RADIANS_TO_DEGREES", .double, 26, 4, 0⟩, ⟨"negativeZeroFloatBits", .long, 26, 5, 0⟩, ⟨"negativeZeroDoubleBits", .long, 26, 6, 0⟩, ⟨"twoToTheDoubleScaleUp", .double, 8, 7, 0⟩, ⟨"twoToTheDoubleScaleDown", .double, 8, 8, 0⟩, ⟨"$assertionsDisabled", .boolean, 4120, 9, 0⟩]
  methods := #[k2m0, k2m1, k2m2]
  staticTypes := #[.double, .double, .double, .double, .double, .long, .long, .double, .double, .boolean]
  resolved := Array.replicate 460 none
  statics := none }
def pool3 : Array CpInfo := pool [(8, .class_ 10), (1, u "java/lang/Iterable"), (24, .class_ 36), (0, u "java/lang/Object")] 25
def k3 : Class := { plain "java/lang/Iterable" (some 0) with
  accessFlags := 1537
  cf := some (fileOf pool3 8 #[] #[] 1537 35 #[] #[])
  resolved := Array.replicate 62 none
  statics := none }
def pool4 : Array CpInfo := pool [(10, .class_ 12), (1, u "java/util/Collection"), (0, u "toArray"), (16, u "()Z"), (29, .class_ 61), (0, u "java/lang/Object"), (0, .class_ 63), (0, u "java/lang/Iterable"), (2, u "isEmpty"), (3, u "()[Ljava/lang/Object;")] 44
def k4m0 : Method := { name := "isEmpty", desc := "()Z", sig := { parameters := [], returnType := some .boolean }, accessFlags := 1025, code := none }
def k4m1 : Method := { name := "toArray", desc := "()[Ljava/lang/Object;", sig := { parameters := [], returnType := some (.array (.object "java/lang/Object")) }, accessFlags := 1025, code := none }
def k4 : Class := { plain "java/util/Collection" (some 0) with
  accessFlags := 1537
  interfaces := #[3]
  cf := some (fileOf pool4 10 #[] #[⟨1025, 66, 30, #[]⟩, ⟨1025, 13, 70, #[]⟩] 1537 60 #[62] #[])
  methods := #[k4m0, k4m1]
  resolved := Array.replicate 115 none
  statics := none }
def pool5 : Array CpInfo := pool [(1, .methodref 2 3), (0, .class_ 4), (0, .nameAndType 5 6), (0, u "java/lang/Object"), (0, u "<init>"), (0, u "()V"), (1, .class_ 10), (1, u "java/util/AbstractCollection"), (0, u "size"), (0, u "()I"), (64, .class_ 78), (0, u "java/util/Collection")] 81
def k5c0 : Code := { maxStack := 1, maxLocals := 1, code := jdk_22_method_1_code, exceptionTable := #[], attributes := #[] }
def k5m0 : Method := { name := "<init>", desc := "()V", sig := { parameters := [], returnType := none }, accessFlags := 4, code := some k5c0 }
def k5m1 : Method := { name := "size", desc := "()I", sig := { parameters := [], returnType := some .int }, accessFlags := 1025, code := none }
def k5 : Class := { plain "java/util/AbstractCollection" (some 0) with
  accessFlags := 1057
  interfaces := #[4]
  cf := some (fileOf pool5 8 #[] #[⟨4, 5, 6, #[]⟩, ⟨1025, 11, 12, #[]⟩] 1057 2 #[77] #[])
  methods := #[k5m0, k5m1]
  resolved := Array.replicate 160 none
  statics := none }
def pool6 : Array CpInfo := pool [(8, .class_ 10), (1, u "java/util/SequencedCollection"), (15, .class_ 27), (0, u "java/lang/Object"), (0, .class_ 29), (0, u "java/util/Collection")] 27
def k6 : Class := { plain "java/util/SequencedCollection" (some 0) with
  accessFlags := 1537
  interfaces := #[4]
  cf := some (fileOf pool6 8 #[] #[] 1537 26 #[28] #[])
  resolved := Array.replicate 57 none
  statics := none }
def pool7 : Array CpInfo := pool [(8, .class_ 10), (1, u "java/util/List"), (20, u "(Ljava/lang/Object;)V"), (16, u "<init>"), (26, u "get"), (0, u "(I)Ljava/lang/Object;"), (2, u "size"), (0, u "()I"), (7, u "of"), (1, .fieldref 91 92), (0, .class_ 93), (0, .nameAndType 94 95), (0, u "java/util/ImmutableCollections"), (0, u "EMPTY_LIST"), (0, u "Ljava/util/ImmutableCollections$ListN;"), (0, .class_ 97), (0, u "java/util/ImmutableCollections$List12"), (0, .methodref 96 99), (0, .nameAndType 48 31), (0, .methodref 96 101), (0, .nameAndType 48 102), (0, u "(Ljava/lang/Object;Ljava/lang/Object;)V"), (0, .class_ 104), (0, u "java/lang/Object"), (3, u "([Ljava/lang/Object;)Ljava/util/List;"), (0, .methodref 91 110), (0, .nameAndType 111 108), (0, u "listFromArray"), (0, .methodref 91 113), (0, .nameAndType 114 115), (0, u "listCopy"), (0, u "(Ljava/util/Collection;)Ljava/util/List;"), (3, u "()Ljava/util/List;"), (0, .class_ 121), (0, u "java/util/SequencedCollection"), (1, u "iterator"), (0, u "()Ljava/util/Iterator;"), (57, u "subList"), (0, u "(II)Ljava/util/List;"), (50, u "copyOf")] 16
def k7m0 : Method := { name := "size", desc := "()I", sig := { parameters := [], returnType := some .int }, accessFlags := 1025, code := none }
def k7m1 : Method := { name := "iterator", desc := "()Ljava/util/Iterator;", sig := { parameters := [], returnType := some (.object "java/util/Iterator") }, accessFlags := 1025, code := none }
def k7m2 : Method := { name := "get", desc := "(I)Ljava/lang/Object;", sig := { parameters := [.int], returnType := some (.object "java/lang/Object") }, accessFlags := 1025, code := none }
def k7m3 : Method := { name := "subList", desc := "(II)Ljava/util/List;", sig := { parameters := [.int, .int], returnType := some (.object "java/util/List") }, accessFlags := 1025, code := none }
def k7c4 : Code := { maxStack := 1, maxLocals := 0, code := jdk_40_method_36_code, exceptionTable := #[], attributes := #[] }
def k7m4 : Method := { name := "of", desc := "()Ljava/util/List;", sig := { parameters := [], returnType := some (.object "java/util/List") }, accessFlags := 9, code := some k7c4 }
def k7c5 : Code := { maxStack := 5, maxLocals := 2, code := jdk_40_method_47_code, exceptionTable := #[], attributes := #[] }
def k7m5 : Method := { name := "of", desc := "([Ljava/lang/Object;)Ljava/util/List;", sig := { parameters := [(.array (.object "java/lang/Object"))], returnType := some (.object "java/util/List") }, accessFlags := 137, code := some k7c5 }
def k7c6 : Code := { maxStack := 1, maxLocals := 1, code := jdk_40_method_48_code, exceptionTable := #[], attributes := #[] }
def k7m6 : Method := { name := "copyOf", desc := "(Ljava/util/Collection;)Ljava/util/List;", sig := { parameters := [(.object "java/util/Collection")], returnType := some (.object "java/util/List") }, accessFlags := 9, code := some k7c6 }
def k7 : Class := { plain "java/util/List" (some 0) with
  accessFlags := 1537
  interfaces := #[6]
  cf := some (fileOf pool7 8 #[] #[⟨1025, 79, 80, #[]⟩, ⟨1025, 123, 124, #[]⟩, ⟨1025, 75, 76, #[]⟩, ⟨1025, 182, 183, #[]⟩, ⟨9, 88, 119, #[]⟩, ⟨137, 88, 108, #[]⟩, ⟨9, 234, 115, #[]⟩] 1537 103 #[120] #[])
  methods := #[k7m0, k7m1, k7m2, k7m3, k7m4, k7m5, k7m6]
  resolved := Array.replicate 251 none
  statics := none }
def pool8 : Array CpInfo := pool [(1, .methodref 2 3), (0, .class_ 4), (0, .nameAndType 5 6), (0, u "java/util/AbstractCollection"), (0, u "<init>"), (0, u "()V"), (0, .fieldref 8 9), (0, .class_ 10), (0, .nameAndType 11 12), (0, u "java/util/AbstractList"), (0, u "modCount"), (0, u "I"), (64, .class_ 78), (0, u "java/util/AbstractList$Itr"), (3, .class_ 83), (0, u "java/util/AbstractList$ListItr"), (9, .class_ 94), (0, u "java/util/AbstractList$RandomAccessSubList"), (3, .class_ 99), (0, u "java/util/AbstractList$SubList"), (33, .class_ 134), (0, u "java/util/List"), (73, .class_ 209), (0, u "java/util/AbstractList$SubList$1"), (0, .class_ 211), (0, u "java/util/AbstractList$RandomAccessSpliterator")] 6
def k8c0 : Code := { maxStack := 2, maxLocals := 1, code := jdk_39_method_1_code, exceptionTable := #[], attributes := #[] }
def k8m0 : Method := { name := "<init>", desc := "()V", sig := { parameters := [], returnType := none }, accessFlags := 4, code := some k8c0 }
def k8 : Class := { plain "java/util/AbstractList" (some 5) with
  accessFlags := 1057
  interfaces := #[7]
  cf := some (fileOf pool8 8 #[.nestMembers #[93, 98, 208, 210, 82, 77]] #[⟨4, 5, 6, #[]⟩] 1057 2 #[133] #[⟨132, 11, 12, #[]⟩])
  fields := #[⟨"modCount", .int, 132, 0, 0⟩]
  methods := #[k8m0]
  instanceTypes := #[.int]
  resolved := Array.replicate 218 none
  statics := none }
def pool9 : Array CpInfo := pool [(1, .class_ 2), (0, u "java/util/RandomAccess"), (0, .class_ 4), (0, u "java/lang/Object")] 2
def k9 : Class := { plain "java/util/RandomAccess" (some 0) with
  accessFlags := 1537
  cf := some (fileOf pool9 1 #[] #[] 1537 3 #[] #[])
  resolved := Array.replicate 7 none
  statics := none }
def pool10 : Array CpInfo := pool [(1, .class_ 2), (0, u "java/lang/Cloneable"), (0, .class_ 4), (0, u "java/lang/Object")] 2
def k10 : Class := { plain "java/lang/Cloneable" (some 0) with
  accessFlags := 1537
  cf := some (fileOf pool10 1 #[] #[] 1537 3 #[] #[])
  resolved := Array.replicate 7 none
  statics := none }
def pool11 : Array CpInfo := pool [(1, .class_ 2), (0, u "java/io/Serializable"), (0, .class_ 4), (0, u "java/lang/Object")] 2
def k11 : Class := { plain "java/io/Serializable" (some 0) with
  accessFlags := 1537
  cf := some (fileOf pool11 1 #[] #[] 1537 3 #[] #[])
  resolved := Array.replicate 7 none
  statics := none }
def pool12 : Array CpInfo := pool [(1, .methodref 2 3), (0, .class_ 4), (0, .nameAndType 5 6), (0, u "java/util/AbstractList"), (0, u "<init>"), (0, u "()V"), (0, .class_ 8), (0, u "java/lang/Object"), (0, .fieldref 10 11), (0, .class_ 12), (0, .nameAndType 13 14), (0, u "java/util/ArrayList"), (0, u "elementData"), (0, u "[Ljava/lang/Object;"), (2, u "EMPTY_ELEMENTDATA"), (21, .fieldref 10 40), (0, .nameAndType 41 14), (0, u "DEFAULTCAPACITY_EMPTY_ELEMENTDATA"), (4, u "toArray"), (0, u "()[Ljava/lang/Object;"), (0, .fieldref 10 49), (0, .nameAndType 50 51), (0, u "size"), (0, u "I"), (6, .class_ 60), (1, u "java/util/Arrays"), (0, u "copyOf"), (1, .fieldref 10 64), (0, .nameAndType 65 51), (0, u "modCount"), (0, .methodref 58 67), (0, .nameAndType 61 68), (0, u "([Ljava/lang/Object;I)[Ljava/lang/Object;"), (0, .methodref 10 70), (0, .nameAndType 71 72), (0, u "grow"), (0, u "(I)[Ljava/lang/Object;"), (6, .methodref 80 81), (0, .class_ 82), (0, .nameAndType 83 84), (0, u "java/lang/Math"), (0, u "max"), (0, u "(II)I"), (11, u "(Ljava/lang/Object;)Z"), (32, .methodref 10 130), (0, .nameAndType 71 47), (0, .methodref 10 132), (0, .nameAndType 133 134), (0, u "add"), (0, u "(Ljava/lang/Object;[Ljava/lang/Object;I)V"), (13, .class_ 149), (0, u "java/util/List"), (23, u "()Z"), (88, .class_ 263), (0, u "java/util/ArrayList$ListItr"), (3, .class_ 268), (0, u "java/util/ArrayList$Itr"), (7, .class_ 277), (0, u "java/util/ArrayList$SubList"), (12, .class_ 291), (0, u "java/util/ArrayList$ArrayListSpliterator"), (37, .class_ 330), (0, u "java/util/RandomAccess"), (0, .class_ 332), (0, u "java/lang/Cloneable"), (0, .class_ 334), (0, u "java/io/Serializable"), (0, u "serialVersionUID"), (0, u "J"), (3, u "DEFAULT_CAPACITY"), (22, u "isEmpty"), (136, .class_ 501), (0, u "java/util/ArrayList$SubList$2"), (0, .class_ 503), (0, u "java/util/ArrayList$SubList$1")] 5
def k12c0 : Code := { maxStack := 2, maxLocals := 1, code := jdk_38_method_2_code, exceptionTable := #[], attributes := #[] }
def k12m0 : Method := { name := "<init>", desc := "()V", sig := { parameters := [], returnType := none }, accessFlags := 1, code := some k12c0 }
def k12c1 : Code := { maxStack := 4, maxLocals := 4, code := jdk_38_method_6_code, exceptionTable := #[], attributes := #[] }
def k12m1 : Method := { name := "grow", desc := "(I)[Ljava/lang/Object;", sig := { parameters := [.int], returnType := some (.array (.object "java/lang/Object")) }, accessFlags := 2, code := some k12c1 }
def k12c2 : Code := { maxStack := 3, maxLocals := 1, code := jdk_38_method_7_code, exceptionTable := #[], attributes := #[] }
def k12m2 : Method := { name := "grow", desc := "()[Ljava/lang/Object;", sig := { parameters := [], returnType := some (.array (.object "java/lang/Object")) }, accessFlags := 2, code := some k12c2 }
def k12c3 : Code := { maxStack := 1, maxLocals := 1, code := jdk_38_method_9_code, exceptionTable := #[], attributes := #[] }
def k12m3 : Method := { name := "isEmpty", desc := "()Z", sig := { parameters := [], returnType := some .boolean }, accessFlags := 1, code := some k12c3 }
def k12c4 : Code := { maxStack := 2, maxLocals := 1, code := jdk_38_method_16_code, exceptionTable := #[], attributes := #[] }
def k12m4 : Method := { name := "toArray", desc := "()[Ljava/lang/Object;", sig := { parameters := [], returnType := some (.array (.object "java/lang/Object")) }, accessFlags := 1, code := some k12c4 }
def k12c5 : Code := { maxStack := 3, maxLocals := 4, code := jdk_38_method_24_code, exceptionTable := #[], attributes := #[] }
def k12m5 : Method := { name := "add", desc := "(Ljava/lang/Object;[Ljava/lang/Object;I)V", sig := { parameters := [(.object "java/lang/Object"), (.array (.object "java/lang/Object")), .int], returnType := none }, accessFlags := 2, code := some k12c5 }
def k12c6 : Code := { maxStack := 4, maxLocals := 2, code := jdk_38_method_25_code, exceptionTable := #[], attributes := #[] }
def k12m6 : Method := { name := "add", desc := "(Ljava/lang/Object;)Z", sig := { parameters := [(.object "java/lang/Object")], returnType := some .boolean }, accessFlags := 1, code := some k12c6 }
def k12 : Class := { plain "java/util/ArrayList" (some 8) with
  accessFlags := 33
  interfaces := #[7, 9, 10, 11]
  cf := some (fileOf pool12 10 #[.nestMembers #[290, 276, 500, 502, 262, 267]] #[⟨1, 5, 6, #[]⟩, ⟨2, 71, 72, #[]⟩, ⟨2, 71, 47, #[]⟩, ⟨1, 363, 173, #[]⟩, ⟨1, 46, 47, #[]⟩, ⟨2, 133, 134, #[]⟩, ⟨1, 133, 96, #[]⟩] 33 2 #[148, 329, 331, 333] #[⟨26, 335, 336, #[]⟩, ⟨26, 340, 51, #[]⟩, ⟨26, 17, 14, #[]⟩, ⟨26, 41, 14, #[]⟩, ⟨128, 13, 14, #[]⟩, ⟨2, 50, 51, #[]⟩])
  fields := #[⟨"serialVersionUID", .long, 26, 0, 0⟩, ⟨"DEFAULT_CAPACITY", .int, 26, 1, 0⟩, ⟨"EMPTY_ELEMENTDATA", (.array (.object "java/lang/Object")), 26, 2, 0⟩, ⟨"DEFAULTCAPACITY_EMPTY_ELEMENTDATA", (.array (.object "java/lang/Object")), 26, 3, 0⟩, ⟨"elementData", (.array (.object "java/lang/Object")), 128, 1, 0⟩, ⟨"size", .int, 2, 2, 0⟩]
  methods := #[k12m0, k12m1, k12m2, k12m3, k12m4, k12m5, k12m6]
  instanceTypes := #[.int, (.array (.object "java/lang/Object")), .int]
  staticTypes := #[.long, .int, (.array (.object "java/lang/Object")), (.array (.object "java/lang/Object"))]
  resolved := Array.replicate 509 none
  statics := some 0 }
def pool13 : Array CpInfo := pool [(1, .methodref 2 3), (0, .class_ 4), (0, .nameAndType 5 6), (0, u "java/lang/Object"), (0, u "<init>"), (0, u "()V"), (0, .methodref 8 9), (0, .class_ 10), (0, .nameAndType 11 12), (0, u "[Z"), (0, u "clone"), (0, u "()Ljava/lang/Object;"), (0, .fieldref 14 15), (0, .class_ 16), (0, .nameAndType 17 10), (0, u "com/example/hodos/hodos/analysis/Course"), (0, u "stops"), (0, .interfaceMethodref 19 20), (0, .class_ 21), (0, .nameAndType 22 23), (0, u "java/util/List"), (0, u "copyOf"), (0, u "(Ljava/util/Collection;)Ljava/util/List;"), (0, .fieldref 14 25), (0, .nameAndType 26 27), (0, u "starts"), (0, u "Ljava/util/List;"), (0, .fieldref 14 29), (0, .nameAndType 30 27), (0, u "arcs"), (0, .invokeDynamic 0 32), (0, .nameAndType 33 34), (0, u "applyAsInt"), (0, u "()Ljava/util/function/ToIntFunction;"), (0, .methodref 36 37), (0, .class_ 38), (0, .nameAndType 39 40), (0, u "com/example/hodos/hodos/analysis/Graph"), (0, u "firstOfEach"), (0, u "(ILjava/util/List;Ljava/util/function/ToIntFunction;)[I"), (0, .fieldref 14 42), (0, .nameAndType 43 44), (0, u "firstArc"), (0, u "[I"), (0, .methodref 46 47), (0, .class_ 48), (0, .nameAndType 49 50), (0, u "java/util/Objects"), (0, u "checkIndex"), (0, u "(II)I"), (0, .interfaceMethodref 19 52), (0, .nameAndType 53 54), (0, u "subList"), (0, u "(II)Ljava/util/List;"), (0, u "NOWHERE"), (0, u "I"), (5, u "([ZLjava/util/List;Ljava/util/List;)V"), (4, u "()I"), (2, u "arcsFrom"), (0, u "(I)Ljava/util/List;"), (5, .class_ 78), (0, u "com/example/hodos/hodos/analysis/Course$Run"), (0, .class_ 80), (0, u "com/example/hodos/hodos/analysis/Course$Arc"), (0, .class_ 82), (0, u "com/example/hodos/hodos/analysis/Course$Start"), (1, .methodType 85), (0, u "(Ljava/lang/Object;)I"), (0, .methodHandle 5 87), (0, .methodref 79 88), (0, .nameAndType 89 67), (0, u "source"), (0, .methodType 91), (0, u "(Lcom/example/hodos/hodos/analysis/Course$Arc;)I"), (0, .methodHandle 6 93), (0, .methodref 94 95), (0, .class_ 96), (0, .nameAndType 97 98), (0, u "java/lang/invoke/LambdaMetafactory"), (0, u "metafactory"), (0, u "(Ljava/lang/invoke/MethodHandles$Lookup;Ljava/lang/String;Ljava/lang/invoke/MethodType;Ljava/lang/invoke/MethodType;Ljava/lang/invoke/MethodHandle;Ljava/lang/invoke/MethodType;)Ljava/lang/invoke/CallSite;")] 9
def k13c0 : Code := { maxStack := 4, maxLocals := 4, code := prog_8_method_1_code, exceptionTable := #[], attributes := #[] }
def k13m0 : Method := { name := "<init>", desc := "([ZLjava/util/List;Ljava/util/List;)V", sig := { parameters := [(.array .boolean), (.object "java/util/List"), (.object "java/util/List")], returnType := none }, accessFlags := 0, code := some k13c0 }
def k13c1 : Code := { maxStack := 5, maxLocals := 2, code := prog_8_method_4_code, exceptionTable := #[], attributes := #[] }
def k13m1 : Method := { name := "arcsFrom", desc := "(I)Ljava/util/List;", sig := { parameters := [.int], returnType := some (.object "java/util/List") }, accessFlags := 0, code := some k13c1 }
def k13 : Class := { plain "com/example/hodos/hodos/analysis/Course" (some 0) with
  accessFlags := 48
  cf := some (fileOf pool13 14 #[.nestMembers #[77, 79, 81], .bootstrapMethods #[⟨92, #[84, 86, 90]⟩]] #[⟨0, 5, 62, #[]⟩, ⟨0, 70, 71, #[]⟩] 48 2 #[] #[⟨24, 55, 56, #[]⟩, ⟨18, 17, 10, #[]⟩, ⟨18, 26, 27, #[]⟩, ⟨18, 30, 27, #[]⟩, ⟨18, 43, 44, #[]⟩])
  fields := #[⟨"NOWHERE", .int, 24, 0, 0⟩, ⟨"stops", (.array .boolean), 18, 0, 0⟩, ⟨"starts", (.object "java/util/List"), 18, 1, 0⟩, ⟨"arcs", (.object "java/util/List"), 18, 2, 0⟩, ⟨"firstArc", (.array .int), 18, 3, 0⟩]
  methods := #[k13m0, k13m1]
  instanceTypes := #[(.array .boolean), (.object "java/util/List"), (.object "java/util/List"), (.array .int)]
  staticTypes := #[.int]
  resolved := Array.replicate 108 none
  callSites := [(0, 38, .constant 5)]
  statics := none }
def pool14 : Array CpInfo := pool [(2, .class_ 4), (1, u "java/lang/Object"), (0, u "<init>"), (0, u "()V"), (3, .class_ 11), (0, u "java/util/ImmutableCollections$List12"), (0, .class_ 13), (0, u "java/util/ImmutableCollections$ListN"), (3, u "Z"), (0, .class_ 19), (0, u "java/util/List"), (0, .interfaceMethodref 21 22), (0, .class_ 23), (0, .nameAndType 24 25), (0, u "java/util/Collection"), (0, u "isEmpty"), (0, u "()Z"), (0, .interfaceMethodref 18 27), (0, .nameAndType 28 29), (0, u "of"), (0, u "()Ljava/util/List;"), (0, .interfaceMethodref 21 31), (0, .nameAndType 32 33), (0, u "toArray"), (0, u "()[Ljava/lang/Object;"), (0, .interfaceMethodref 18 35), (0, .nameAndType 28 36), (0, u "([Ljava/lang/Object;)Ljava/util/List;"), (0, .methodref 38 39), (0, .class_ 40), (0, .nameAndType 41 42), (0, u "java/util/Objects"), (0, u "requireNonNull"), (0, u "(Ljava/lang/Object;)Ljava/lang/Object;"), (0, .methodref 12 44), (0, .nameAndType 5 45), (0, u "([Ljava/lang/Object;Z)V"), (1, .class_ 49), (1, u "java/util/ImmutableCollections"), (0, u "$assertionsDisabled"), (5, u "[Ljava/lang/Object;"), (5, u "EMPTY_LIST"), (0, u "Ljava/util/ImmutableCollections$ListN;"), (8, u "EMPTY_LIST_NULLS"), (22, u "SALT32L"), (0, u "J"), (2, u "REVERSE"), (6, u "archivedObjects"), (2, u "EMPTY"), (0, u "Ljava/lang/Object;"), (0, .class_ 112), (0, u "java/util/ImmutableCollections$SetN"), (5, u "EMPTY_SET"), (0, u "Ljava/util/ImmutableCollections$SetN;"), (0, .class_ 121), (0, u "java/util/ImmutableCollections$MapN"), (3, u "EMPTY_MAP"), (0, u "Ljava/util/ImmutableCollections$MapN;"), (4, u "EXPAND_FACTOR"), (0, u "I"), (9, u "listCopy"), (0, u "(Ljava/util/Collection;)Ljava/util/List;"), (7, u "listFromArray"), (17, .class_ 170), (0, u "java/util/ImmutableCollections$MapN$MapNIterator"), (0, .class_ 172), (0, u "java/util/ImmutableCollections$MapN$1"), (0, .class_ 174), (0, u "java/util/ImmutableCollections$Map1"), (0, .class_ 176), (0, u "java/util/ImmutableCollections$AbstractImmutableMap"), (0, .class_ 178), (0, u "java/util/ImmutableCollections$SetN$SetNIterator"), (0, .class_ 180), (0, u "java/util/ImmutableCollections$Set12"), (0, .class_ 182), (0, u "java/util/ImmutableCollections$Set12$1"), (0, .class_ 184), (0, u "java/util/ImmutableCollections$AbstractImmutableSet"), (0, .class_ 186), (0, u "java/util/ImmutableCollections$SubList"), (0, .class_ 188), (0, u "java/util/ImmutableCollections$ListItr"), (0, .class_ 190), (0, u "java/util/ImmutableCollections$AbstractImmutableList"), (0, .class_ 192), (0, u "java/util/ImmutableCollections$AbstractImmutableCollection"), (0, .class_ 194), (0, u "java/util/ImmutableCollections$Access"), (0, .class_ 196), (0, u "java/util/ImmutableCollections$Access$1")] 16
def k14m0 : Method := { name := "<init>", desc := "()V", sig := { parameters := [], returnType := none }, accessFlags := 2, code := none }
def k14c1 : Code := { maxStack := 1, maxLocals := 2, code := jdk_56_method_3_code, exceptionTable := #[], attributes := #[] }
def k14m1 : Method := { name := "listCopy", desc := "(Ljava/util/Collection;)Ljava/util/List;", sig := { parameters := [(.object "java/util/Collection")], returnType := some (.object "java/util/List") }, accessFlags := 8, code := some k14c1 }
def k14c2 : Code := { maxStack := 4, maxLocals := 3, code := jdk_56_method_4_code, exceptionTable := #[], attributes := #[] }
def k14m2 : Method := { name := "listFromArray", desc := "([Ljava/lang/Object;)Ljava/util/List;", sig := { parameters := [(.array (.object "java/lang/Object"))], returnType := some (.object "java/util/List") }, accessFlags := 136, code := some k14c2 }
def k14 : Class := { plain "java/util/ImmutableCollections" (some 0) with
  accessFlags := 32
  cf := some (fileOf pool14 47 #[.nestMembers #[120, 169, 171, 173, 175, 111, 177, 179, 181, 183, 12, 10, 185, 187, 189, 191, 193, 195]] #[⟨2, 5, 6, #[]⟩, ⟨8, 142, 143, #[]⟩, ⟨136, 151, 36, #[]⟩] 32 2 #[] #[⟨26, 95, 96, #[]⟩, ⟨26, 99, 17, #[]⟩, ⟨10, 106, 56, #[]⟩, ⟨26, 109, 110, #[]⟩, ⟨24, 62, 63, #[]⟩, ⟨24, 72, 63, #[]⟩, ⟨24, 118, 119, #[]⟩, ⟨24, 125, 126, #[]⟩, ⟨24, 131, 132, #[]⟩, ⟨4120, 50, 17, #[]⟩])
  fields := #[⟨"SALT32L", .long, 26, 0, 0⟩, ⟨"REVERSE", .boolean, 26, 1, 0⟩, ⟨"archivedObjects", (.array (.object "java/lang/Object")), 10, 2, 0⟩, ⟨"EMPTY", (.object "java/lang/Object"), 26, 3, 0⟩, ⟨"EMPTY_LIST", (.object "java/util/ImmutableCollections$ListN"), 24, 4, 0⟩, ⟨"EMPTY_LIST_NULLS", (.object "java/util/ImmutableCollections$ListN"), 24, 5, 0⟩, ⟨"EMPTY_SET", (.object "java/util/ImmutableCollections$SetN"), 24, 6, 0⟩, ⟨"EMPTY_MAP", (.object "java/util/ImmutableCollections$MapN"), 24, 7, 0⟩, ⟨"EXPAND_FACTOR", .int, 24, 8, 0⟩, ⟨"$assertionsDisabled", .boolean, 4120, 9, 0⟩]
  methods := #[k14m0, k14m1, k14m2]
  staticTypes := #[.long, .boolean, (.array (.object "java/lang/Object")), (.object "java/lang/Object"), (.object "java/util/ImmutableCollections$ListN"), (.object "java/util/ImmutableCollections$ListN"), (.object "java/util/ImmutableCollections$SetN"), (.object "java/util/ImmutableCollections$MapN"), .int, .boolean]
  resolved := Array.replicate 213 none
  statics := some 1 }
def pool15 : Array CpInfo := pool [(1, .methodref 2 3), (0, .class_ 4), (0, .nameAndType 5 6), (0, u "java/util/AbstractCollection"), (0, u "<init>"), (0, u "()V"), (1, .class_ 10), (1, u "java/util/ImmutableCollections"), (2, .class_ 14), (0, u "java/util/ImmutableCollections$AbstractImmutableCollection")] 41
def k15c0 : Code := { maxStack := 1, maxLocals := 1, code := jdk_47_method_1_code, exceptionTable := #[], attributes := #[] }
def k15m0 : Method := { name := "<init>", desc := "()V", sig := { parameters := [], returnType := none }, accessFlags := 0, code := some k15c0 }
def k15 : Class := { plain "java/util/ImmutableCollections$AbstractImmutableCollection" (some 5) with
  accessFlags := 1056
  cf := some (fileOf pool15 13 #[.nestHost 8] #[⟨0, 5, 6, #[]⟩] 1056 2 #[] #[])
  methods := #[k15m0]
  resolved := Array.replicate 56 none
  statics := none }
def pool16 : Array CpInfo := pool [(1, .methodref 2 3), (0, .class_ 4), (0, .nameAndType 5 6), (0, u "java/util/ImmutableCollections$AbstractImmutableCollection"), (0, u "<init>"), (0, u "()V"), (1, .class_ 10), (1, u "java/util/ImmutableCollections"), (2, .methodref 14 15), (0, .class_ 16), (0, .nameAndType 17 18), (0, u "java/util/ImmutableCollections$AbstractImmutableList"), (0, u "size"), (0, u "()I"), (0, .methodref 14 20), (0, .nameAndType 21 22), (0, u "subListRangeCheck"), (0, u "(III)V"), (0, .methodref 24 25), (0, .class_ 26), (0, .nameAndType 27 28), (0, u "java/util/ImmutableCollections$SubList"), (0, u "fromList"), (0, u "(Ljava/util/ImmutableCollections$AbstractImmutableList;II)Ljava/util/ImmutableCollections$SubList;"), (32, .class_ 62), (0, u "java/util/ImmutableCollections$ListItr"), (0, .methodref 61 64), (0, .nameAndType 5 65), (0, u "(Ljava/util/List;I)V"), (11, .class_ 78), (0, u "java/util/List"), (2, u "iterator"), (0, u "()Ljava/util/Iterator;"), (41, .class_ 125), (0, u "java/util/RandomAccess"), (38, u "subList"), (0, u "(II)Ljava/util/List;")] 30
def k16c0 : Code := { maxStack := 1, maxLocals := 1, code := jdk_46_method_1_code, exceptionTable := #[], attributes := #[] }
def k16m0 : Method := { name := "<init>", desc := "()V", sig := { parameters := [], returnType := none }, accessFlags := 0, code := some k16c0 }
def k16c1 : Code := { maxStack := 3, maxLocals := 4, code := jdk_46_method_8_code, exceptionTable := #[], attributes := #[] }
def k16m1 : Method := { name := "subList", desc := "(II)Ljava/util/List;", sig := { parameters := [.int, .int], returnType := some (.object "java/util/List") }, accessFlags := 1, code := some k16c1 }
def k16c2 : Code := { maxStack := 4, maxLocals := 3, code := jdk_46_method_9_code, exceptionTable := #[], attributes := #[] }
def k16m2 : Method := { name := "subListRangeCheck", desc := "(III)V", sig := { parameters := [.int, .int, .int], returnType := none }, accessFlags := 8, code := some k16c2 }
def k16c3 : Code := { maxStack := 4, maxLocals := 1, code := jdk_46_method_10_code, exceptionTable := #[], attributes := #[] }
def k16m3 : Method := { name := "iterator", desc := "()Ljava/util/Iterator;", sig := { parameters := [], returnType := some (.object "java/util/Iterator") }, accessFlags := 1, code := some k16c3 }
def k16 : Class := { plain "java/util/ImmutableCollections$AbstractImmutableList" (some 15) with
  accessFlags := 1056
  interfaces := #[7, 9]
  cf := some (fileOf pool16 14 #[.nestHost 8] #[⟨0, 5, 6, #[]⟩, ⟨1, 164, 165, #[]⟩, ⟨8, 21, 22, #[]⟩, ⟨1, 81, 82, #[]⟩] 1056 2 #[77, 124] #[])
  methods := #[k16m0, k16m1, k16m2, k16m3]
  resolved := Array.replicate 196 none
  statics := none }
def pool17 : Array CpInfo := pool [(1, .methodref 2 3), (0, .class_ 4), (0, .nameAndType 5 6), (0, u "java/util/ImmutableCollections$AbstractImmutableList"), (0, u "<init>"), (0, u "()V"), (0, .methodref 8 9), (0, .class_ 10), (0, .nameAndType 11 12), (0, u "java/util/Objects"), (0, u "requireNonNull"), (0, u "(Ljava/lang/Object;)Ljava/lang/Object;"), (0, .fieldref 14 15), (0, .class_ 16), (0, .nameAndType 17 18), (0, u "java/util/ImmutableCollections$List12"), (0, u "e0"), (0, u "Ljava/lang/Object;"), (0, .fieldref 20 21), (0, .class_ 22), (0, .nameAndType 23 18), (0, u "java/util/ImmutableCollections"), (0, u "EMPTY"), (0, .fieldref 14 25), (0, .nameAndType 26 18), (0, u "e1"), (24, u "size"), (0, u "()I"), (17, .class_ 71), (0, u "java/io/Serializable"), (4, u "(Ljava/lang/Object;)V"), (8, u "(Ljava/lang/Object;Ljava/lang/Object;)V"), (4, u "get"), (0, u "(I)Ljava/lang/Object;")] 33
def k17c0 : Code := { maxStack := 2, maxLocals := 2, code := jdk_44_method_1_code, exceptionTable := #[], attributes := #[] }
def k17m0 : Method := { name := "<init>", desc := "(Ljava/lang/Object;)V", sig := { parameters := [(.object "java/lang/Object")], returnType := none }, accessFlags := 0, code := some k17c0 }
def k17c1 : Code := { maxStack := 2, maxLocals := 3, code := jdk_44_method_2_code, exceptionTable := #[], attributes := #[] }
def k17m1 : Method := { name := "<init>", desc := "(Ljava/lang/Object;Ljava/lang/Object;)V", sig := { parameters := [(.object "java/lang/Object"), (.object "java/lang/Object")], returnType := none }, accessFlags := 0, code := some k17c1 }
def k17c2 : Code := { maxStack := 2, maxLocals := 1, code := jdk_44_method_3_code, exceptionTable := #[], attributes := #[] }
def k17m2 : Method := { name := "size", desc := "()I", sig := { parameters := [], returnType := some .int }, accessFlags := 1, code := some k17c2 }
def k17c3 : Code := { maxStack := 2, maxLocals := 2, code := jdk_44_method_5_code, exceptionTable := #[], attributes := #[] }
def k17m3 : Method := { name := "get", desc := "(I)Ljava/lang/Object;", sig := { parameters := [.int], returnType := some (.object "java/lang/Object") }, accessFlags := 1, code := some k17c3 }
def k17 : Class := { plain "java/util/ImmutableCollections$List12" (some 16) with
  accessFlags := 48
  interfaces := #[11]
  cf := some (fileOf pool17 14 #[.nestHost 20] #[⟨0, 5, 76, #[]⟩, ⟨0, 5, 85, #[]⟩, ⟨1, 51, 52, #[]⟩, ⟨1, 90, 91, #[]⟩] 48 2 #[70] #[⟨18, 17, 18, #[]⟩, ⟨18, 26, 18, #[]⟩])
  fields := #[⟨"e0", (.object "java/lang/Object"), 18, 0, 0⟩, ⟨"e1", (.object "java/lang/Object"), 18, 1, 0⟩]
  methods := #[k17m0, k17m1, k17m2, k17m3]
  instanceTypes := #[(.object "java/lang/Object"), (.object "java/lang/Object")]
  resolved := Array.replicate 125 none
  statics := none }
def pool18 : Array CpInfo := pool [(1, .methodref 2 3), (0, .class_ 4), (0, .nameAndType 5 6), (0, u "java/util/ImmutableCollections$AbstractImmutableList"), (0, u "<init>"), (0, u "()V"), (0, .fieldref 8 9), (0, .class_ 10), (0, .nameAndType 11 12), (0, u "java/util/ImmutableCollections$ListN"), (0, u "elements"), (0, u "[Ljava/lang/Object;"), (0, .fieldref 8 14), (0, .nameAndType 15 16), (0, u "allowNulls"), (0, u "Z"), (42, .class_ 60), (0, u "java/io/Serializable"), (4, u "([Ljava/lang/Object;Z)V"), (11, u "size"), (0, u "()I"), (0, u "get"), (0, u "(I)Ljava/lang/Object;"), (33, .class_ 115), (0, u "java/util/ImmutableCollections")] 3
def k18c0 : Code := { maxStack := 2, maxLocals := 3, code := jdk_45_method_1_code, exceptionTable := #[], attributes := #[] }
def k18m0 : Method := { name := "<init>", desc := "([Ljava/lang/Object;Z)V", sig := { parameters := [(.array (.object "java/lang/Object")), .boolean], returnType := none }, accessFlags := 2, code := some k18c0 }
def k18c1 : Code := { maxStack := 1, maxLocals := 1, code := jdk_45_method_3_code, exceptionTable := #[], attributes := #[] }
def k18m1 : Method := { name := "size", desc := "()I", sig := { parameters := [], returnType := some .int }, accessFlags := 1, code := some k18c1 }
def k18c2 : Code := { maxStack := 2, maxLocals := 2, code := jdk_45_method_4_code, exceptionTable := #[], attributes := #[] }
def k18m2 : Method := { name := "get", desc := "(I)Ljava/lang/Object;", sig := { parameters := [.int], returnType := some (.object "java/lang/Object") }, accessFlags := 1, code := some k18c2 }
def k18 : Class := { plain "java/util/ImmutableCollections$ListN" (some 16) with
  accessFlags := 48
  interfaces := #[11]
  cf := some (fileOf pool18 8 #[.nestHost 114] #[⟨2, 5, 65, #[]⟩, ⟨1, 77, 78, #[]⟩, ⟨1, 79, 80, #[]⟩] 48 2 #[59] #[⟨18, 11, 12, #[]⟩, ⟨18, 15, 16, #[]⟩])
  fields := #[⟨"elements", (.array (.object "java/lang/Object")), 18, 0, 0⟩, ⟨"allowNulls", .boolean, 18, 1, 0⟩]
  methods := #[k18m0, k18m1, k18m2]
  instanceTypes := #[(.array (.object "java/lang/Object")), .boolean]
  resolved := Array.replicate 119 none
  statics := none }
def pool19 : Array CpInfo := pool [(1, .class_ 2), (0, u "java/util/function/ToIntFunction"), (0, .class_ 4), (0, u "java/lang/Object"), (0, u "applyAsInt"), (0, u "(Ljava/lang/Object;)I")] 7
def k19m0 : Method := { name := "applyAsInt", desc := "(Ljava/lang/Object;)I", sig := { parameters := [(.object "java/lang/Object")], returnType := some .int }, accessFlags := 1025, code := none }
def k19 : Class := { plain "java/util/function/ToIntFunction" (some 0) with
  accessFlags := 1537
  cf := some (fileOf pool19 1 #[] #[⟨1025, 5, 6, #[]⟩] 1537 3 #[] #[])
  methods := #[k19m0]
  resolved := Array.replicate 14 none
  statics := none }
def pool20 : Array CpInfo := pool [(1, .methodref 2 3), (0, .class_ 4), (0, .nameAndType 5 6), (0, u "java/lang/Object"), (0, u "<init>"), (0, u "()V"), (0, .class_ 8), (0, u "java/lang/Record")] 13
def k20c0 : Code := { maxStack := 1, maxLocals := 1, code := jdk_30_method_1_code, exceptionTable := #[], attributes := #[] }
def k20m0 : Method := { name := "<init>", desc := "()V", sig := { parameters := [], returnType := none }, accessFlags := 4, code := some k20c0 }
def k20 : Class := { plain "java/lang/Record" (some 0) with
  accessFlags := 1057
  cf := some (fileOf pool20 7 #[] #[⟨4, 5, 6, #[]⟩] 1057 2 #[] #[])
  methods := #[k20m0]
  resolved := Array.replicate 22 none
  statics := none }
def pool21 : Array CpInfo := pool [(1, .methodref 2 3), (0, .class_ 4), (0, .nameAndType 5 6), (0, u "java/lang/Record"), (0, u "<init>"), (0, u "()V"), (0, .string 8), (0, u "delay"), (0, .methodref 10 11), (0, .class_ 12), (0, .nameAndType 13 14), (0, u "java/util/Objects"), (0, u "requireNonNull"), (0, u "(Ljava/lang/Object;Ljava/lang/String;)Ljava/lang/Object;"), (0, .fieldref 16 17), (0, .class_ 18), (0, .nameAndType 19 20), (0, u "com/example/hodos/hodos/analysis/Course$Arc"), (0, u "source"), (0, u "I"), (0, .fieldref 16 22), (0, .nameAndType 23 20), (0, u "target"), (0, .fieldref 16 25), (0, .nameAndType 8 26), (0, u "Lcom/example/hodos/hodos/model/Time;"), (0, .fieldref 16 28), (0, .nameAndType 29 30), (0, u "internal"), (0, u "Z"), (0, .fieldref 16 32), (0, .nameAndType 33 30), (0, u "ends"), (0, .fieldref 16 35), (0, .nameAndType 36 20), (0, u "origin"), (12, u "(IILcom/example/hodos/hodos/model/Time;ZZI)V"), (4, u "()I"), (6, .class_ 62), (0, u "com/example/hodos/hodos/analysis/Course")] 24
def k21c0 : Code := { maxStack := 2, maxLocals := 7, code := prog_9_method_1_code, exceptionTable := #[], attributes := #[] }
def k21m0 : Method := { name := "<init>", desc := "(IILcom/example/hodos/hodos/model/Time;ZZI)V", sig := { parameters := [.int, .int, (.object "com/example/hodos/hodos/model/Time"), .boolean, .boolean, .int], returnType := none }, accessFlags := 0, code := some k21c0 }
def k21c1 : Code := { maxStack := 1, maxLocals := 1, code := prog_9_method_5_code, exceptionTable := #[], attributes := #[] }
def k21m1 : Method := { name := "source", desc := "()I", sig := { parameters := [], returnType := some .int }, accessFlags := 1, code := some k21c1 }
def k21c2 : Code := { maxStack := 1, maxLocals := 1, code := prog_9_method_10_code, exceptionTable := #[], attributes := #[] }
def k21m2 : Method := { name := "origin", desc := "()I", sig := { parameters := [], returnType := some .int }, accessFlags := 1, code := some k21c2 }
def k21 : Class := { plain "com/example/hodos/hodos/analysis/Course$Arc" (some 20) with
  accessFlags := 48
  cf := some (fileOf pool21 16 #[.nestHost 61] #[⟨0, 5, 49, #[]⟩, ⟨1, 19, 54, #[]⟩, ⟨1, 36, 54, #[]⟩] 48 2 #[] #[⟨18, 19, 20, #[]⟩, ⟨18, 23, 20, #[]⟩, ⟨18, 8, 26, #[]⟩, ⟨18, 29, 30, #[]⟩, ⟨18, 33, 30, #[]⟩, ⟨18, 36, 20, #[]⟩])
  fields := #[⟨"source", .int, 18, 0, 0⟩, ⟨"target", .int, 18, 1, 0⟩, ⟨"delay", (.object "com/example/hodos/hodos/model/Time"), 18, 2, 0⟩, ⟨"internal", .boolean, 18, 3, 0⟩, ⟨"ends", .boolean, 18, 4, 0⟩, ⟨"origin", .int, 18, 5, 0⟩]
  methods := #[k21m0, k21m1, k21m2]
  instanceTypes := #[.int, .int, (.object "com/example/hodos/hodos/model/Time"), .boolean, .boolean, .int]
  resolved := Array.replicate 87 none
  statics := none }
def pool22 : Array CpInfo := pool [(2, .class_ 4), (1, u "java/lang/Object"), (3, .class_ 10), (1, u "com/example/hodos/hodos/analysis/Graph"), (0, u "network"), (0, u "Lcom/example/hodos/hodos/model/CoupledModel;"), (2, u "vertexCount"), (0, u "I"), (1, .class_ 20), (1, u "java/util/List"), (4, u "edges"), (0, u "Ljava/util/List;"), (2, u "applyAsInt"), (3, u "firstOfEach"), (0, u "(ILjava/util/List;Ljava/util/function/ToIntFunction;)[I"), (2, u "firstEdge"), (0, u "[I"), (0, .interfaceMethodref 18 40), (0, .nameAndType 41 42), (0, u "iterator"), (0, u "()Ljava/util/Iterator;"), (0, .interfaceMethodref 44 45), (0, .class_ 46), (0, .nameAndType 47 48), (0, u "java/util/Iterator"), (0, u "hasNext"), (0, u "()Z"), (0, .interfaceMethodref 44 50), (0, .nameAndType 51 52), (0, u "next"), (0, u "()Ljava/lang/Object;"), (0, .interfaceMethodref 54 55), (0, .class_ 56), (0, .nameAndType 29 57), (0, u "java/util/function/ToIntFunction"), (0, u "(Ljava/lang/Object;)I"), (37, u "DEFAULT_MAX_VERTICES")] 50
def k22c0 : Code := { maxStack := 5, maxLocals := 6, code := prog_15_method_2_code, exceptionTable := #[], attributes := #[] }
def k22m0 : Method := { name := "firstOfEach", desc := "(ILjava/util/List;Ljava/util/function/ToIntFunction;)[I", sig := { parameters := [.int, (.object "java/util/List"), (.object "java/util/function/ToIntFunction")], returnType := some (.array .int) }, accessFlags := 8, code := some k22c0 }
def k22 : Class := { plain "com/example/hodos/hodos/analysis/Graph" (some 0) with
  accessFlags := 1057
  cf := some (fileOf pool22 8 #[] #[⟨8, 33, 34, #[]⟩] 1057 2 #[] #[⟨25, 95, 16, #[]⟩, ⟨18, 11, 12, #[]⟩, ⟨18, 15, 16, #[]⟩, ⟨18, 25, 26, #[]⟩, ⟨18, 37, 38, #[]⟩])
  fields := #[⟨"DEFAULT_MAX_VERTICES", .int, 25, 0, 0⟩, ⟨"network", (.object "com/example/hodos/hodos/model/CoupledModel"), 18, 0, 0⟩, ⟨"vertexCount", .int, 18, 1, 0⟩, ⟨"edges", (.object "java/util/List"), 18, 2, 0⟩, ⟨"firstEdge", (.array .int), 18, 3, 0⟩]
  methods := #[k22m0]
  instanceTypes := #[(.object "com/example/hodos/hodos/model/CoupledModel"), .int, (.object "java/util/List"), (.array .int)]
  staticTypes := #[.int]
  resolved := Array.replicate 146 none
  statics := none }
def pool23 : Array CpInfo := pool [(16, .class_ 18), (1, u "java/util/Iterator"), (0, u "hasNext"), (0, u "()Z"), (2, u "next"), (0, u "()Ljava/lang/Object;"), (6, .class_ 32), (0, u "java/lang/Object")] 20
def k23m0 : Method := { name := "hasNext", desc := "()Z", sig := { parameters := [], returnType := some .boolean }, accessFlags := 1025, code := none }
def k23m1 : Method := { name := "next", desc := "()Ljava/lang/Object;", sig := { parameters := [], returnType := some (.object "java/lang/Object") }, accessFlags := 1025, code := none }
def k23 : Class := { plain "java/util/Iterator" (some 0) with
  accessFlags := 1537
  cf := some (fileOf pool23 16 #[] #[⟨1025, 19, 20, #[]⟩, ⟨1025, 23, 24, #[]⟩] 1537 31 #[] #[])
  methods := #[k23m0, k23m1]
  resolved := Array.replicate 53 none
  statics := none }
def pool24 : Array CpInfo := pool [(1, .class_ 2), (0, u "java/util/ListIterator"), (0, .class_ 4), (0, u "java/lang/Object"), (0, .class_ 6), (0, u "java/util/Iterator")] 20
def k24 : Class := { plain "java/util/ListIterator" (some 0) with
  accessFlags := 1537
  interfaces := #[23]
  cf := some (fileOf pool24 1 #[] #[] 1537 3 #[5] #[])
  resolved := Array.replicate 27 none
  statics := none }
def pool25 : Array CpInfo := pool [(1, .methodref 2 3), (0, .class_ 4), (0, .nameAndType 5 6), (0, u "java/lang/Object"), (0, u "<init>"), (0, u "()V"), (0, .fieldref 8 9), (0, .class_ 10), (0, .nameAndType 11 12), (0, u "java/util/ImmutableCollections$ListItr"), (0, u "list"), (0, u "Ljava/util/List;"), (0, .fieldref 8 14), (0, .nameAndType 15 16), (0, u "size"), (0, u "I"), (0, .fieldref 8 18), (0, .nameAndType 19 16), (0, u "cursor"), (0, .fieldref 8 21), (0, .nameAndType 22 23), (0, u "isListIterator"), (0, u "Z"), (0, .interfaceMethodref 25 26), (0, .class_ 27), (0, .nameAndType 28 29), (0, u "java/util/List"), (0, u "get"), (0, u "(I)Ljava/lang/Object;"), (6, .class_ 38), (1, u "java/util/ImmutableCollections"), (2, .class_ 42), (0, u "java/util/ListIterator"), (4, u "(Ljava/util/List;I)V"), (11, u "hasNext"), (0, u "()Z"), (1, u "next"), (0, u "()Ljava/lang/Object;")] 22
def k25c0 : Code := { maxStack := 2, maxLocals := 3, code := jdk_53_method_1_code, exceptionTable := #[], attributes := #[] }
def k25m0 : Method := { name := "<init>", desc := "(Ljava/util/List;I)V", sig := { parameters := [(.object "java/util/List"), .int], returnType := none }, accessFlags := 0, code := some k25c0 }
def k25c1 : Code := { maxStack := 2, maxLocals := 1, code := jdk_53_method_3_code, exceptionTable := #[], attributes := #[] }
def k25m1 : Method := { name := "hasNext", desc := "()Z", sig := { parameters := [], returnType := some .boolean }, accessFlags := 1, code := some k25c1 }
def k25c2 : Code := { maxStack := 3, maxLocals := 3, code := jdk_53_method_4_code, exceptionTable := #[{ startPc := 0, endPc := 24, handlerPc := 25, catchType := 30 }], attributes := #[] }
def k25m2 : Method := { name := "next", desc := "()Ljava/lang/Object;", sig := { parameters := [], returnType := some (.object "java/lang/Object") }, accessFlags := 1, code := some k25c2 }
def k25 : Class := { plain "java/util/ImmutableCollections$ListItr" (some 0) with
  accessFlags := 48
  interfaces := #[24]
  cf := some (fileOf pool25 8 #[.nestHost 36] #[⟨0, 5, 47, #[]⟩, ⟨1, 59, 60, #[]⟩, ⟨1, 62, 63, #[]⟩] 48 2 #[41] #[⟨18, 11, 12, #[]⟩, ⟨18, 15, 16, #[]⟩, ⟨18, 22, 23, #[]⟩, ⟨2, 19, 16, #[]⟩])
  fields := #[⟨"list", (.object "java/util/List"), 18, 0, 0⟩, ⟨"size", .int, 18, 1, 0⟩, ⟨"isListIterator", .boolean, 18, 2, 0⟩, ⟨"cursor", .int, 2, 3, 0⟩]
  methods := #[k25m0, k25m1, k25m2]
  instanceTypes := #[(.object "java/util/List"), .int, .boolean, .int]
  resolved := Array.replicate 86 none
  statics := none }
def pool26 : Array CpInfo := pool [(2, .class_ 4), (1, u "java/lang/Object"), (0, u "<init>"), (0, u "()V"), (35, .class_ 44), (1, u "java/util/Objects"), (0, u "requireNonNull"), (0, u "(Ljava/lang/Object;)Ljava/lang/Object;"), (47, u "(Ljava/lang/Object;Ljava/lang/String;)Ljava/lang/Object;"), (10, .methodref 106 107), (0, .class_ 108), (0, .nameAndType 109 110), (0, u "jdk/internal/util/Preconditions"), (0, u "checkIndex"), (0, u "(IILjava/util/function/BiFunction;)I"), (60, u "(II)I")] 12
def k26m0 : Method := { name := "<init>", desc := "()V", sig := { parameters := [], returnType := none }, accessFlags := 2, code := none }
def k26c1 : Code := { maxStack := 2, maxLocals := 1, code := jdk_31_method_10_code, exceptionTable := #[], attributes := #[] }
def k26m1 : Method := { name := "requireNonNull", desc := "(Ljava/lang/Object;)Ljava/lang/Object;", sig := { parameters := [(.object "java/lang/Object")], returnType := some (.object "java/lang/Object") }, accessFlags := 9, code := some k26c1 }
def k26c2 : Code := { maxStack := 3, maxLocals := 2, code := jdk_31_method_11_code, exceptionTable := #[], attributes := #[] }
def k26m2 : Method := { name := "requireNonNull", desc := "(Ljava/lang/Object;Ljava/lang/String;)Ljava/lang/Object;", sig := { parameters := [(.object "java/lang/Object"), (.object "java/lang/String")], returnType := some (.object "java/lang/Object") }, accessFlags := 9, code := some k26c2 }
def k26c3 : Code := { maxStack := 3, maxLocals := 2, code := jdk_31_method_17_code, exceptionTable := #[], attributes := #[] }
def k26m3 : Method := { name := "checkIndex", desc := "(II)I", sig := { parameters := [.int, .int], returnType := some .int }, accessFlags := 9, code := some k26c3 }
def k26 : Class := { plain "java/util/Objects" (some 0) with
  accessFlags := 49
  cf := some (fileOf pool26 42 #[] #[⟨2, 5, 6, #[]⟩, ⟨9, 45, 46, #[]⟩, ⟨9, 45, 94, #[]⟩, ⟨9, 109, 171, #[]⟩] 49 2 #[] #[])
  methods := #[k26m0, k26m1, k26m2, k26m3]
  resolved := Array.replicate 184 none
  statics := none }
def pool27 : Array CpInfo := pool [(2, .class_ 4), (1, u "java/lang/Object"), (0, u "<init>"), (0, u "()V"), (17, .class_ 26), (1, u "jdk/internal/util/Preconditions"), (6, u "checkIndex"), (21, .class_ 56), (0, u "jdk/internal/util/Preconditions$4"), (57, .class_ 115), (0, u "jdk/internal/util/Preconditions$1"), (7, u "SIOOBE_FORMATTER"), (0, u "Ljava/util/function/BiFunction;"), (0, .class_ 126), (0, u "jdk/internal/util/Preconditions$2"), (3, u "AIOOBE_FORMATTER"), (0, .class_ 132), (0, u "jdk/internal/util/Preconditions$3"), (3, u "IOOBE_FORMATTER"), (41, u "(IILjava/util/function/BiFunction;)I")] 15
def k27m0 : Method := { name := "<init>", desc := "()V", sig := { parameters := [], returnType := none }, accessFlags := 1, code := none }
def k27c1 : Code := { maxStack := 3, maxLocals := 3, code := jdk_41_method_11_code, exceptionTable := #[], attributes := #[] }
def k27m1 : Method := { name := "checkIndex", desc := "(IILjava/util/function/BiFunction;)I", sig := { parameters := [.int, .int, (.object "java/util/function/BiFunction")], returnType := some .int }, accessFlags := 9, code := some k27c1 }
def k27 : Class := { plain "jdk/internal/util/Preconditions" (some 0) with
  accessFlags := 33
  cf := some (fileOf pool27 24 #[.nestMembers #[55, 131, 125, 114]] #[⟨1, 5, 6, #[]⟩, ⟨9, 33, 178, #[]⟩] 33 2 #[] #[⟨25, 123, 124, #[]⟩, ⟨25, 130, 124, #[]⟩, ⟨25, 136, 124, #[]⟩])
  fields := #[⟨"SIOOBE_FORMATTER", (.object "java/util/function/BiFunction"), 25, 0, 0⟩, ⟨"AIOOBE_FORMATTER", (.object "java/util/function/BiFunction"), 25, 1, 0⟩, ⟨"IOOBE_FORMATTER", (.object "java/util/function/BiFunction"), 25, 2, 0⟩]
  methods := #[k27m0, k27m1]
  staticTypes := #[(.object "java/util/function/BiFunction"), (.object "java/util/function/BiFunction"), (.object "java/util/function/BiFunction")]
  resolved := Array.replicate 194 none
  statics := none }
def pool28 : Array CpInfo := pool [(1, .methodref 2 3), (0, .class_ 4), (0, .nameAndType 5 6), (0, u "java/util/ImmutableCollections$AbstractImmutableList"), (0, u "<init>"), (0, u "()V"), (0, .fieldref 8 9), (0, .class_ 10), (0, .nameAndType 11 12), (0, u "java/util/ImmutableCollections$SubList"), (0, u "$assertionsDisabled"), (0, u "Z"), (7, .fieldref 8 21), (0, .nameAndType 22 23), (0, u "root"), (0, u "Ljava/util/ImmutableCollections$AbstractImmutableList;"), (0, .fieldref 8 25), (0, .nameAndType 26 27), (0, u "offset"), (0, u "I"), (0, .fieldref 8 29), (0, .nameAndType 30 27), (0, u "size"), (0, .methodref 8 32), (0, .nameAndType 5 33), (0, u "(Ljava/util/ImmutableCollections$AbstractImmutableList;II)V"), (0, .methodref 35 36), (0, .class_ 37), (0, .nameAndType 38 39), (0, u "java/util/Objects"), (0, u "checkIndex"), (0, u "(II)I"), (0, .methodref 2 41), (0, .nameAndType 42 43), (0, u "get"), (0, u "(I)Ljava/lang/Object;"), (4, u "()I"), (55, .class_ 105), (0, u "java/util/ImmutableCollections"), (3, .class_ 110), (0, u "java/util/RandomAccess"), (17, u "fromList"), (0, u "(Ljava/util/ImmutableCollections$AbstractImmutableList;II)Ljava/util/ImmutableCollections$SubList;")] 38
def k28c0 : Code := { maxStack := 2, maxLocals := 4, code := jdk_2608_method_1_code, exceptionTable := #[], attributes := #[] }
def k28m0 : Method := { name := "<init>", desc := "(Ljava/util/ImmutableCollections$AbstractImmutableList;II)V", sig := { parameters := [(.object "java/util/ImmutableCollections$AbstractImmutableList"), .int, .int], returnType := none }, accessFlags := 2, code := some k28c0 }
def k28c1 : Code := { maxStack := 6, maxLocals := 3, code := jdk_2608_method_3_code, exceptionTable := #[], attributes := #[] }
def k28m1 : Method := { name := "fromList", desc := "(Ljava/util/ImmutableCollections$AbstractImmutableList;II)Ljava/util/ImmutableCollections$SubList;", sig := { parameters := [(.object "java/util/ImmutableCollections$AbstractImmutableList"), .int, .int], returnType := some (.object "java/util/ImmutableCollections$SubList") }, accessFlags := 8, code := some k28c1 }
def k28c2 : Code := { maxStack := 3, maxLocals := 2, code := jdk_2608_method_4_code, exceptionTable := #[], attributes := #[] }
def k28m2 : Method := { name := "get", desc := "(I)Ljava/lang/Object;", sig := { parameters := [.int], returnType := some (.object "java/lang/Object") }, accessFlags := 1, code := some k28c2 }
def k28c3 : Code := { maxStack := 1, maxLocals := 1, code := jdk_2608_method_5_code, exceptionTable := #[], attributes := #[] }
def k28m3 : Method := { name := "size", desc := "()I", sig := { parameters := [], returnType := some .int }, accessFlags := 1, code := some k28c3 }
def k28 : Class := { plain "java/util/ImmutableCollections$SubList" (some 16) with
  accessFlags := 48
  interfaces := #[9]
  cf := some (fileOf pool28 8 #[.nestHost 104] #[⟨2, 5, 33, #[]⟩, ⟨8, 128, 129, #[]⟩, ⟨1, 42, 43, #[]⟩, ⟨1, 30, 48, #[]⟩] 48 2 #[109] #[⟨18, 22, 23, #[]⟩, ⟨18, 26, 27, #[]⟩, ⟨18, 30, 27, #[]⟩, ⟨4120, 11, 12, #[]⟩])
  fields := #[⟨"root", (.object "java/util/ImmutableCollections$AbstractImmutableList"), 18, 0, 0⟩, ⟨"offset", .int, 18, 1, 0⟩, ⟨"size", .int, 18, 2, 0⟩, ⟨"$assertionsDisabled", .boolean, 4120, 0, 0⟩]
  methods := #[k28m0, k28m1, k28m2, k28m3]
  instanceTypes := #[(.object "java/util/ImmutableCollections$AbstractImmutableList"), .int, .int]
  staticTypes := #[.boolean]
  resolved := Array.replicate 168 none
  statics := some 2 }
def pool29 : Array CpInfo := pool [(1, .class_ 2), (0, u "java/lang/Comparable"), (0, .class_ 4), (0, u "java/lang/Object")] 7
def k29 : Class := { plain "java/lang/Comparable" (some 0) with
  accessFlags := 1537
  cf := some (fileOf pool29 1 #[] #[] 1537 3 #[] #[])
  resolved := Array.replicate 12 none
  statics := none }
def pool30 : Array CpInfo := pool [(2, .class_ 4), (1, u "java/lang/Object"), (3, .class_ 10), (1, u "com/example/hodos/hodos/model/Time"), (0, u "numerator"), (0, u "Ljava/math/BigInteger;"), (2, u "denominator"), (60, u "DECIMAL"), (0, u "Ljava/util/regex/Pattern;"), (8, u "FRACTION"), (8, u "INFINITY"), (0, u "Lcom/example/hodos/hodos/model/Time;"), (109, u "FIVE"), (11, u "ZERO"), (12, .class_ 232), (0, u "java/lang/Comparable"), (0, u "MAX_WRITTEN_LENGTH"), (0, u "I"), (2, u "INFINITY_TEXT"), (0, u "Ljava/lang/String;"), (0, u "HASH_FACTOR")] 47
def k30 : Class := { plain "com/example/hodos/hodos/model/Time" (some 0) with
  accessFlags := 49
  interfaces := #[29]
  cf := some (fileOf pool30 8 #[] #[] 49 2 #[231] #[⟨25, 218, 96, #[]⟩, ⟨25, 95, 96, #[]⟩, ⟨25, 233, 234, #[]⟩, ⟨26, 237, 238, #[]⟩, ⟨26, 76, 77, #[]⟩, ⟨26, 86, 77, #[]⟩, ⟨26, 206, 12, #[]⟩, ⟨24, 239, 234, #[]⟩, ⟨18, 11, 12, #[]⟩, ⟨18, 15, 12, #[]⟩])
  fields := #[⟨"ZERO", (.object "com/example/hodos/hodos/model/Time"), 25, 0, 0⟩, ⟨"INFINITY", (.object "com/example/hodos/hodos/model/Time"), 25, 1, 0⟩, ⟨"MAX_WRITTEN_LENGTH", .int, 25, 2, 0⟩, ⟨"INFINITY_TEXT", (.object "java/lang/String"), 26, 3, 0⟩, ⟨"DECIMAL", (.object "java/util/regex/Pattern"), 26, 4, 0⟩, ⟨"FRACTION", (.object "java/util/regex/Pattern"), 26, 5, 0⟩, ⟨"FIVE", (.object "java/math/BigInteger"), 26, 6, 0⟩, ⟨"HASH_FACTOR", .int, 24, 7, 0⟩, ⟨"numerator", (.object "java/math/BigInteger"), 18, 0, 0⟩, ⟨"denominator", (.object "java/math/BigInteger"), 18, 1, 0⟩]
  instanceTypes := #[(.object "java/math/BigInteger"), (.object "java/math/BigInteger")]
  staticTypes := #[(.object "com/example/hodos/hodos/model/Time"), (.object "com/example/hodos/hodos/model/Time"), .int, (.object "java/lang/String"), (.object "java/util/regex/Pattern"), (.object "java/util/regex/Pattern"), (.object "java/math/BigInteger"), .int]
  resolved := Array.replicate 287 none
  statics := some 3 }
def pool31 : Array CpInfo := pool [(2, .class_ 4), (1, u "java/lang/CharSequence"), (42, .class_ 48), (0, u "java/lang/CharSequence$1CodePointIterator"), (10, .class_ 60), (0, u "java/lang/CharSequence$1CharIterator"), (5, .class_ 67), (0, u "java/lang/Object")] 63
def k31 : Class := { plain "java/lang/CharSequence" (some 0) with
  accessFlags := 1537
  cf := some (fileOf pool31 2 #[.nestMembers #[47, 59]] #[] 1537 66 #[] #[])
  resolved := Array.replicate 131 none
  statics := none }
def pool32 : Array CpInfo := pool [(1, .class_ 2), (0, u "java/lang/constant/Constable"), (0, .class_ 4), (0, u "java/lang/Object")] 6
def k32 : Class := { plain "java/lang/constant/Constable" (some 0) with
  accessFlags := 1537
  cf := some (fileOf pool32 1 #[] #[] 1537 3 #[] #[])
  resolved := Array.replicate 11 none
  statics := none }
def pool33 : Array CpInfo := pool [(1, .class_ 2), (0, u "java/lang/constant/ConstantDesc"), (0, .class_ 4), (0, u "java/lang/Object")] 32
def k33 : Class := { plain "java/lang/constant/ConstantDesc" (some 0) with
  accessFlags := 1537
  cf := some (fileOf pool33 1 #[] #[] 1537 3 #[] #[])
  resolved := Array.replicate 37 none
  statics := none }
def pool34 : Array CpInfo := pool [(2, .class_ 4), (1, u "java/lang/Object"), (0, u "<init>"), (0, u "()V"), (3, .class_ 12), (1, u "java/lang/String"), (0, u "value"), (0, u "[B"), (2, u "coder"), (0, u "B"), (2, u "hash"), (0, u "I"), (2, u "hashIsZero"), (0, u "Z"), (13, u "COMPACT_STRINGS"), (534, .class_ 576), (0, u "java/lang/CharSequence"), (22, u "CASE_INSENSITIVE_ORDER"), (0, u "Ljava/util/Comparator;"), (500, u "serialPersistentFields"), (0, u "[Ljava/io/ObjectStreamField;"), (0, .class_ 1104), (0, u "java/lang/String$CaseInsensitiveComparator"), (1, .class_ 1107), (0, u "java/io/Serializable"), (0, .class_ 1109), (0, u "java/lang/Comparable"), (0, .class_ 1111), (0, u "java/lang/constant/Constable"), (0, .class_ 1113), (0, u "java/lang/constant/ConstantDesc"), (2, u "serialVersionUID"), (0, u "J"), (3, u "REPL"), (0, u "C"), (2, u "LATIN1"), (1, u "UTF16")] 323
def k34m0 : Method := { name := "<init>", desc := "()V", sig := { parameters := [], returnType := none }, accessFlags := 1, code := none }
def k34 : Class := { plain "java/lang/String" (some 0) with
  accessFlags := 49
  interfaces := #[11, 29, 31, 32, 33]
  cf := some (fileOf pool34 10 #[.nestMembers #[1103]] #[⟨1, 5, 6, #[]⟩] 49 2 #[1106, 1108, 575, 1110, 1112] #[⟨18, 13, 14, #[]⟩, ⟨18, 17, 18, #[]⟩, ⟨2, 21, 22, #[]⟩, ⟨2, 25, 26, #[]⟩, ⟨26, 1116, 1117, #[]⟩, ⟨24, 40, 26, #[]⟩, ⟨26, 1101, 1102, #[]⟩, ⟨26, 1121, 1122, #[]⟩, ⟨25, 599, 600, #[]⟩, ⟨24, 1125, 18, #[]⟩, ⟨24, 1127, 18, #[]⟩])
  fields := #[⟨"value", (.array .byte), 18, 0, 0⟩, ⟨"coder", .byte, 18, 1, 0⟩, ⟨"hash", .int, 2, 2, 0⟩, ⟨"hashIsZero", .boolean, 2, 3, 0⟩, ⟨"serialVersionUID", .long, 26, 0, 0⟩, ⟨"COMPACT_STRINGS", .boolean, 24, 1, 0⟩, ⟨"serialPersistentFields", (.array (.object "java/io/ObjectStreamField")), 26, 2, 0⟩, ⟨"REPL", .char, 26, 3, 0⟩, ⟨"CASE_INSENSITIVE_ORDER", (.object "java/util/Comparator"), 25, 4, 0⟩, ⟨"LATIN1", .byte, 24, 5, 0⟩, ⟨"UTF16", .byte, 24, 6, 0⟩]
  methods := #[k34m0]
  instanceTypes := #[(.array .byte), .byte, .int, .boolean]
  staticTypes := #[.long, .boolean, (.array (.object "java/io/ObjectStreamField")), .char, (.object "java/util/Comparator"), .byte, .byte]
  resolved := Array.replicate 1451 none
  statics := none }
def pool35 : Array CpInfo := pool [(2, .class_ 4), (1, u "java/lang/Object"), (0, u "<init>"), (0, u "()V"), (7, .class_ 16), (1, u "java/util/Arrays"), (57, .class_ 76), (1, u "java/util/Arrays$NaturalOrder"), (9, .methodref 2 87), (0, .nameAndType 88 89), (0, u "getClass"), (0, u "()Ljava/lang/Class;"), (20, .class_ 111), (0, u "[Ljava/lang/Object;"), (1, .class_ 115), (1, u "java/util/Arrays$LegacyMergeSort"), (1, u "Z"), (32, .methodref 151 152), (0, .class_ 153), (0, .nameAndType 154 155), (0, u "java/lang/System"), (0, u "arraycopy"), (0, u "(Ljava/lang/Object;ILjava/lang/Object;II)V"), (144, .methodref 14 301), (0, .nameAndType 302 303), (0, u "copyOf"), (0, u "([Ljava/lang/Object;ILjava/lang/Class;)[Ljava/lang/Object;"), (0, .methodref 305 306), (0, .class_ 307), (0, .nameAndType 308 309), (0, u "java/lang/Math"), (0, u "min"), (0, u "(II)I"), (65, .class_ 376), (0, u "java/util/Arrays$ArrayList"), (68, u "$assertionsDisabled"), (269, u "MIN_ARRAY_SORT_GRAN"), (0, u "I"), (2, u "INSERTIONSORT_THRESHOLD"), (140, u "([Ljava/lang/Object;I)[Ljava/lang/Object;"), (114, .class_ 976), (0, u "java/util/Arrays$ArrayItr")] 52
def k35m0 : Method := { name := "<init>", desc := "()V", sig := { parameters := [], returnType := none }, accessFlags := 2, code := none }
def k35c1 : Code := { maxStack := 3, maxLocals := 2, code := jdk_65_method_119_code, exceptionTable := #[], attributes := #[] }
def k35m1 : Method := { name := "copyOf", desc := "([Ljava/lang/Object;I)[Ljava/lang/Object;", sig := { parameters := [(.array (.object "java/lang/Object")), .int], returnType := some (.array (.object "java/lang/Object")) }, accessFlags := 9, code := some k35c1 }
def k35c2 : Code := { maxStack := 6, maxLocals := 4, code := jdk_65_method_120_code, exceptionTable := #[], attributes := #[] }
def k35m2 : Method := { name := "copyOf", desc := "([Ljava/lang/Object;ILjava/lang/Class;)[Ljava/lang/Object;", sig := { parameters := [(.array (.object "java/lang/Object")), .int, (.object "java/lang/Class")], returnType := some (.array (.object "java/lang/Object")) }, accessFlags := 9, code := some k35c2 }
def k35 : Class := { plain "java/util/Arrays" (some 0) with
  accessFlags := 49
  cf := some (fileOf pool35 14 #[.nestMembers #[975, 375, 113, 74]] #[⟨2, 5, 6, #[]⟩, ⟨9, 302, 860, #[]⟩, ⟨9, 302, 303, #[]⟩] 49 2 #[] #[⟨26, 715, 716, #[]⟩, ⟨26, 719, 716, #[]⟩, ⟨4120, 445, 117, #[]⟩])
  fields := #[⟨"MIN_ARRAY_SORT_GRAN", .int, 26, 0, 0⟩, ⟨"INSERTIONSORT_THRESHOLD", .int, 26, 1, 0⟩, ⟨"$assertionsDisabled", .boolean, 4120, 2, 0⟩]
  methods := #[k35m0, k35m1, k35m2]
  staticTypes := #[.int, .int, .boolean]
  resolved := Array.replicate 1029 none
  statics := none }
def pool36 : Array CpInfo := pool [(2, .class_ 4), (1, u "java/lang/Object"), (0, u "<init>"), (0, u "()V"), (1, .class_ 10), (1, u "java/lang/System"), (0, u "allowSecurityManager"), (0, u "I"), (16, u "cons"), (0, u "Ljava/io/Console;"), (77, .class_ 110), (1, u "java/lang/System$CallersHolder"), (43, u "initialErrStream"), (0, u "Ljava/io/PrintStream;"), (19, u "security"), (0, u "Ljava/lang/SecurityManager;"), (31, .class_ 209), (0, u "java/lang/System$1"), (7, u "props"), (0, u "Ljava/util/Properties;"), (2, u "lineSeparator"), (0, u "Ljava/lang/String;"), (96, .class_ 321), (1, u "java/lang/System$LoggerFinder"), (5, .class_ 328), (0, u "java/lang/System$Logger"), (67, u "err"), (2, u "out"), (91, u "notSupportedJnuEncoding"), (15, u "in"), (17, u "initialIn"), (0, u "Ljava/io/InputStream;"), (35, u "bootLayer"), (0, u "Ljava/lang/ModuleLayer;"), (99, .class_ 664), (0, u "java/lang/System$2"), (9, u "NEVER"), (2, u "MAYBE"), (49, u "arraycopy"), (0, u "(Ljava/lang/Object;ILjava/lang/Object;II)V"), (72, .class_ 802), (0, u "java/lang/System$Logger$Level")] 31
def k36m0 : Method := { name := "<init>", desc := "()V", sig := { parameters := [], returnType := none }, accessFlags := 2, code := none }
def k36m1 : Method := { name := "arraycopy", desc := "(Ljava/lang/Object;ILjava/lang/Object;II)V", sig := { parameters := [(.object "java/lang/Object"), .int, (.object "java/lang/Object"), .int, .int], returnType := none }, accessFlags := 265, code := none }
def k36 : Class := { plain "java/lang/System" (some 0) with
  accessFlags := 49
  cf := some (fileOf pool36 8 #[.nestMembers #[319, 327, 801, 108, 663, 208]] #[⟨2, 5, 6, #[]⟩, ⟨265, 727, 728, #[]⟩] 49 2 #[] #[⟨25, 507, 526, #[]⟩, ⟨25, 399, 155, #[]⟩, ⟨25, 396, 155, #[]⟩, ⟨10, 525, 526, #[]⟩, ⟨26, 674, 12, #[]⟩, ⟨26, 677, 12, #[]⟩, ⟨10, 11, 12, #[]⟩, ⟨74, 175, 176, #[]⟩, ⟨10, 491, 222, #[]⟩, ⟨74, 29, 30, #[]⟩, ⟨74, 154, 155, #[]⟩, ⟨10, 217, 218, #[]⟩, ⟨10, 221, 222, #[]⟩, ⟨8, 562, 563, #[]⟩])
  fields := #[⟨"in", (.object "java/io/InputStream"), 25, 0, 0⟩, ⟨"out", (.object "java/io/PrintStream"), 25, 1, 0⟩, ⟨"err", (.object "java/io/PrintStream"), 25, 2, 0⟩, ⟨"initialIn", (.object "java/io/InputStream"), 10, 3, 0⟩, ⟨"NEVER", .int, 26, 4, 0⟩, ⟨"MAYBE", .int, 26, 5, 0⟩, ⟨"allowSecurityManager", .int, 10, 6, 0⟩, ⟨"security", (.object "java/lang/SecurityManager"), 74, 7, 0⟩, ⟨"notSupportedJnuEncoding", (.object "java/lang/String"), 10, 8, 0⟩, ⟨"cons", (.object "java/io/Console"), 74, 9, 0⟩, ⟨"initialErrStream", (.object "java/io/PrintStream"), 74, 10, 0⟩, ⟨"props", (.object "java/util/Properties"), 10, 11, 0⟩, ⟨"lineSeparator", (.object "java/lang/String"), 10, 12, 0⟩, ⟨"bootLayer", (.object "java/lang/ModuleLayer"), 8, 13, 0⟩]
  methods := #[k36m0, k36m1]
  staticTypes := #[(.object "java/io/InputStream"), (.object "java/io/PrintStream"), (.object "java/io/PrintStream"), (.object "java/io/InputStream"), .int, .int, .int, (.object "java/lang/SecurityManager"), (.object "java/lang/String"), (.object "java/io/Console"), (.object "java/io/PrintStream"), (.object "java/util/Properties"), (.object "java/lang/String"), (.object "java/lang/ModuleLayer")]
  resolved := Array.replicate 834 none
  statics := none }
def pool37 : Array CpInfo := pool [(1, u "java/lang/Class"), (0, .class_ 1), (0, u "java/lang/Object"), (0, .class_ 3)] 0
def k37 : Class := { plain "java/lang/Class" (some 0) with
  accessFlags := 49
  cf := some (fileOf pool37 2 #[] #[] 49 4 #[] #[])
  resolved := Array.replicate 5 none
  statics := none }
def k38 : Class := { plain "boolean" none with kind := .primitive 'Z', accessFlags := 0x411 }
def k39 : Class := { plain "[Z" (some 0) with kind := .array 38 .boolean, interfaces := #[10, 11], accessFlags := 1041 }
def k40 : Class := { plain "byte" none with kind := .primitive 'B', accessFlags := 0x411 }
def k41 : Class := { plain "[B" (some 0) with kind := .array 40 .byte, interfaces := #[10, 11], accessFlags := 1041 }
def k42 : Class := { plain "int" none with kind := .primitive 'I', accessFlags := 0x411 }
def k43 : Class := { plain "[I" (some 0) with kind := .array 42 .int, interfaces := #[10, 11], accessFlags := 1041 }
def k44 : Class := { plain "[Ljava/lang/Object;" (some 0) with kind := .array 0 (.object "java/lang/Object"), interfaces := #[10, 11], accessFlags := 1041, mirror := some 4 }
def classes0 : Array Class := #[k0, k1, k2, k3, k4, k5, k6, k7, k8, k9, k10, k11, k12, k13, k14, k15, k16, k17, k18, k19, k20, k21, k22, k23, k24, k25, k26, k27, k28, k29, k30, k31, k32, k33, k34, k35, k36, k37, k38, k39, k40, k41, k42, k43, k44]
def k45 : Class := Jvm.LamKit.madeRec { classes := classes0 } "com/example/hodos/hodos/analysis/Course" (Jvm.Lambda.Shape.mk "java/util/function/ToIntFunction" "applyAsInt" (Jvm.ClassFile.MethodDescriptor.mk ([(Jvm.ClassFile.FieldType.object "java/lang/Object")] : List Jvm.ClassFile.FieldType) (Option.some Jvm.ClassFile.FieldType.int)) ([] : List Jvm.ClassFile.FieldType) (5 : Nat) "com/example/hodos/hodos/analysis/Course$Arc" "source" (Jvm.ClassFile.MethodDescriptor.mk ([] : List Jvm.ClassFile.FieldType) (Option.some Jvm.ClassFile.FieldType.int)) false (Jvm.ClassFile.MethodDescriptor.mk ([(Jvm.ClassFile.FieldType.object "com/example/hodos/hodos/analysis/Course$Arc")] : List Jvm.ClassFile.FieldType) (Option.some Jvm.ClassFile.FieldType.int))) 45
def heap : Heap := #[{ cls := 12, slots := #[.long 0, .int 0, .ref 9, .ref 10], vm := .statics 12 },
  { cls := 14, slots := #[.long 0, .int 0, .null, .ref 11, .ref 8, .null, .null, .null, .int 0, .int 1], vm := .statics 14 },
  { cls := 28, slots := #[.int 1], vm := .statics 28 },
  { cls := 30, slots := #[.ref 7, .null, .int 0, .null, .null, .null, .null, .int 0], vm := .statics 30 },
  { cls := 37, slots := #[], vm := .mirror 44 },
  { cls := 45, slots := #[], vm := .none },
  { cls := 44, slots := #[], vm := .none },
  { cls := 30, slots := #[.null, .null], vm := .none },
  { cls := 18, slots := #[.ref 6, .int 0], vm := .none },
  { cls := 44, slots := #[], vm := .none },
  { cls := 44, slots := #[], vm := .none },
  { cls := 0, slots := #[], vm := .none }]
def classes : Array Class := #[k0, k1, k2, k3, k4, k5, k6, k7, k8, k9, k10, k11, k12, k13, k14, k15, k16, k17, k18, k19, k20, k21, k22, k23, k24, k25, k26, k27, k28, k29, k30, k31, k32, k33, k34, k35, k36, k37, k38, k39, k40, k41, k42, k43, k44, k45]
def interned : List (Array UInt16 × Addr) := []
def slotsUsed : Nat := 27
def theMethod : MethodId := ⟨1, 3⟩
def args0 : Array Value := #[.int 5, .int 2, .int 7]
def aboutOver (below : List Frame) : State where
  vm := { classes := classes, interned := interned.toArray }
  heap := heap
  slotsUsed := slotsUsed
  threads := #[{ frames := .invoking theMethod args0 :: below }]
def below0 : List Frame := [.native { method := ⟨0, 0⟩, args := #[] }]
def about1 : State := aboutOver below0
def p0 : Program := .bare "" "" ""
def e0 : Env := launch0.env 0 0 0
theorem w_frames : about1.frames = Frame.invoking theMethod args0 :: below0 := rfl
theorem w_args : argsFit about1.vm theMethod args0 = true := by decide +kernel
theorem w_heap : heapFits about1 = true := by decide +kernel
theorem w_runnable : about1.curStatus? = some .runnable := by decide +kernel
theorem w_alone : about1.alone = true := by decide +kernel
theorem w_named : about1.methodNamed? x = some theMethod := by decide +kernel
theorem w_hears : about1.hears theMethod below0 = true := by decide +kernel
theorem w_ripe : about1.ripe theMethod args0 below0 = true := by decide +kernel
theorem w_running : about1.status = .running := rfl
theorem w_room : about1.hasRoom e0.platform room_1 = true :=
  launch0.hasRoom_least _ room_1 (by decide +kernel) (by decide +kernel) (by decide +kernel) (by decide +kernel) (by decide +kernel) (by decide +kernel)
theorem allAtoms_all (ts : List Jvm.Cond) (a : Array Jvm.Value) (st : Jvm.State) : (allAtoms ts).before a st = ts.all (fun c => c.before a st) := by
  induction ts with
  | nil => rfl
  | cons c t ih =>
    show (Jvm.Cond.and c (allAtoms t)).before a st = _
    rw [Jvm.Cond.before_and, ih, List.all_cons]
def words1 : List Jvm.Cond := Jvm.Cond.code x code maxLocals ret :: tables_1
theorem code_word {y : MethodName} {bytes : ByteArray} {mx : Nat} {rt : Option FieldType} {a : Array Value} {s : State} {m : MethodId} {meth : Method} {c : Code} (h1 : s.methodNamed? y = some m) (h2 : s.vm.method? m = some meth) (h3 : meth.code = some c) (h4 : c.code = bytes)
    (h5 : (c.maxLocals == mx && c.exceptionTable.isEmpty && decide (c.maxStack ≤ mostOperands) && decide (meth.sig.returnType = rt) && !meth.locks && decide (parseMethodDescriptor y.desc = some meth.sig)) = true) : (Jvm.Cond.code y bytes mx rt).before a s = true := by
  simp only [Bool.and_eq_true, beq_iff_eq, Bool.not_eq_true', decide_eq_true_eq] at h5
  obtain ⟨⟨⟨⟨⟨g1, g2⟩, g3⟩, g4⟩, g5⟩, g6⟩ := h5
  simp [Cond.before, Cond.holds, Cond.value, h1, h2, h3, h4, g1, g2, g3, g4, g5, g6]
def isCode : Jvm.Cond → Bool
  | .code _ _ _ _ => true
  | _ => false
theorem all_split {L : List Jvm.Cond} {P : Jvm.Cond → Bool} (h1 : L.all (fun c => isCode c || P c) = true) (h2 : ∀ c ∈ L.filter isCode, P c = true) : L.all P = true := by
  refine List.all_eq_true.mpr fun c hc => ?_
  have h := List.all_eq_true.mp h1 c hc
  rcases Bool.eq_false_or_eq_true (isCode c) with hi | hi
  · exact h2 c (List.mem_filter.mpr ⟨hc, hi⟩)
  · simpa [hi] using h
theorem w_c0 : (Jvm.Cond.code x code maxLocals ret).before args0 about1 = true := code_word (m := ⟨1, 3⟩) (meth := k1m3) (c := k1c3) (by decide +kernel) rfl rfl rfl (by decide +kernel)
theorem w_c1 : (Jvm.Cond.code ({ cls := "java/lang/Math", name := "min", desc := "(II)I" } : Jvm.MethodName) jdk_29_method_69_code (2 : Nat) (Option.some Jvm.ClassFile.FieldType.int)).before args0 about1 = true := code_word (m := ⟨2, 2⟩) (meth := k2m2) (c := k2c2) (by decide +kernel) rfl rfl rfl (by decide +kernel)
theorem w_c2 : (Jvm.Cond.code ({ cls := "java/util/ArrayList", name := "<init>", desc := "()V" } : Jvm.MethodName) jdk_38_method_2_code (1 : Nat) (Option.none : Option Jvm.ClassFile.FieldType)).before args0 about1 = true := code_word (m := ⟨12, 0⟩) (meth := k12m0) (c := k12c0) (by decide +kernel) rfl rfl rfl (by decide +kernel)
theorem w_c3 : (Jvm.Cond.code ({ cls := "java/util/AbstractList", name := "<init>", desc := "()V" } : Jvm.MethodName) jdk_39_method_1_code (1 : Nat) (Option.none : Option Jvm.ClassFile.FieldType)).before args0 about1 = true := code_word (m := ⟨8, 0⟩) (meth := k8m0) (c := k8c0) (by decide +kernel) rfl rfl rfl (by decide +kernel)
theorem w_c4 : (Jvm.Cond.code ({ cls := "java/util/AbstractCollection", name := "<init>", desc := "()V" } : Jvm.MethodName) jdk_22_method_1_code (1 : Nat) (Option.none : Option Jvm.ClassFile.FieldType)).before args0 about1 = true := code_word (m := ⟨5, 0⟩) (meth := k5m0) (c := k5c0) (by decide +kernel) rfl rfl rfl (by decide +kernel)
theorem w_c5 : (Jvm.Cond.code ({ cls := "java/lang/Object", name := "<init>", desc := "()V" } : Jvm.MethodName) object_method_1_code (1 : Nat) (Option.none : Option Jvm.ClassFile.FieldType)).before args0 about1 = true := code_word (m := ⟨0, 0⟩) (meth := k0m0) (c := k0c0) (by decide +kernel) rfl rfl rfl (by decide +kernel)
theorem w_c6 : (Jvm.Cond.code ({ cls := "com/example/hodos/hodos/analysis/Course", name := "<init>", desc := "([ZLjava/util/List;Ljava/util/List;)V" } : Jvm.MethodName) prog_8_method_1_code (4 : Nat) (Option.none : Option Jvm.ClassFile.FieldType)).before args0 about1 = true := code_word (m := ⟨13, 0⟩) (meth := k13m0) (c := k13c0) (by decide +kernel) rfl rfl rfl (by decide +kernel)
theorem w_c7 : (Jvm.Cond.code ({ cls := "java/util/List", name := "copyOf", desc := "(Ljava/util/Collection;)Ljava/util/List;" } : Jvm.MethodName) jdk_40_method_48_code (1 : Nat) (Option.some (Jvm.ClassFile.FieldType.object "java/util/List"))).before args0 about1 = true := code_word (m := ⟨7, 6⟩) (meth := k7m6) (c := k7c6) (by decide +kernel) rfl rfl rfl (by decide +kernel)
theorem w_c8 : (Jvm.Cond.code ({ cls := "java/util/ImmutableCollections", name := "listCopy", desc := "(Ljava/util/Collection;)Ljava/util/List;" } : Jvm.MethodName) jdk_56_method_3_code (2 : Nat) (Option.some (Jvm.ClassFile.FieldType.object "java/util/List"))).before args0 about1 = true := code_word (m := ⟨14, 1⟩) (meth := k14m1) (c := k14c1) (by decide +kernel) rfl rfl rfl (by decide +kernel)
theorem w_c9 : (Jvm.Cond.code ({ cls := "java/util/ArrayList", name := "isEmpty", desc := "()Z" } : Jvm.MethodName) jdk_38_method_9_code (1 : Nat) (Option.some Jvm.ClassFile.FieldType.boolean)).before args0 about1 = true := code_word (m := ⟨12, 3⟩) (meth := k12m3) (c := k12c3) (by decide +kernel) rfl rfl rfl (by decide +kernel)
theorem w_c10 : (Jvm.Cond.code ({ cls := "java/util/List", name := "of", desc := "()Ljava/util/List;" } : Jvm.MethodName) jdk_40_method_36_code (0 : Nat) (Option.some (Jvm.ClassFile.FieldType.object "java/util/List"))).before args0 about1 = true := code_word (m := ⟨7, 4⟩) (meth := k7m4) (c := k7c4) (by decide +kernel) rfl rfl rfl (by decide +kernel)
theorem w_c11 : (Jvm.Cond.code ({ cls := "com/example/hodos/hodos/analysis/Graph", name := "firstOfEach", desc := "(ILjava/util/List;Ljava/util/function/ToIntFunction;)[I" } : Jvm.MethodName) prog_15_method_2_code (6 : Nat) (Option.some (Jvm.ClassFile.FieldType.array Jvm.ClassFile.FieldType.int))).before args0 about1 = true := code_word (m := ⟨22, 0⟩) (meth := k22m0) (c := k22c0) (by decide +kernel) rfl rfl rfl (by decide +kernel)
theorem w_c12 : (Jvm.Cond.code ({ cls := "java/util/ImmutableCollections$AbstractImmutableList", name := "iterator", desc := "()Ljava/util/Iterator;" } : Jvm.MethodName) jdk_46_method_10_code (1 : Nat) (Option.some (Jvm.ClassFile.FieldType.object "java/util/Iterator"))).before args0 about1 = true := code_word (m := ⟨16, 3⟩) (meth := k16m3) (c := k16c3) (by decide +kernel) rfl rfl rfl (by decide +kernel)
theorem w_c13 : (Jvm.Cond.code ({ cls := "java/util/ImmutableCollections$ListN", name := "size", desc := "()I" } : Jvm.MethodName) jdk_45_method_3_code (1 : Nat) (Option.some Jvm.ClassFile.FieldType.int)).before args0 about1 = true := code_word (m := ⟨18, 1⟩) (meth := k18m1) (c := k18c1) (by decide +kernel) rfl rfl rfl (by decide +kernel)
theorem w_c14 : (Jvm.Cond.code ({ cls := "java/util/ImmutableCollections$ListItr", name := "<init>", desc := "(Ljava/util/List;I)V" } : Jvm.MethodName) jdk_53_method_1_code (3 : Nat) (Option.none : Option Jvm.ClassFile.FieldType)).before args0 about1 = true := code_word (m := ⟨25, 0⟩) (meth := k25m0) (c := k25c0) (by decide +kernel) rfl rfl rfl (by decide +kernel)
theorem w_c15 : (Jvm.Cond.code ({ cls := "java/util/ImmutableCollections$ListItr", name := "hasNext", desc := "()Z" } : Jvm.MethodName) jdk_53_method_3_code (1 : Nat) (Option.some Jvm.ClassFile.FieldType.boolean)).before args0 about1 = true := code_word (m := ⟨25, 1⟩) (meth := k25m1) (c := k25c1) (by decide +kernel) rfl rfl rfl (by decide +kernel)
theorem w_c16 : (Jvm.Cond.code ({ cls := "com/example/hodos/hodos/analysis/Course", name := "arcsFrom", desc := "(I)Ljava/util/List;" } : Jvm.MethodName) prog_8_method_4_code (2 : Nat) (Option.some (Jvm.ClassFile.FieldType.object "java/util/List"))).before args0 about1 = true := code_word (m := ⟨13, 1⟩) (meth := k13m1) (c := k13c1) (by decide +kernel) rfl rfl rfl (by decide +kernel)
theorem w_c17 : (Jvm.Cond.code ({ cls := "java/util/Objects", name := "checkIndex", desc := "(II)I" } : Jvm.MethodName) jdk_31_method_17_code (2 : Nat) (Option.some Jvm.ClassFile.FieldType.int)).before args0 about1 = true := code_word (m := ⟨26, 3⟩) (meth := k26m3) (c := k26c3) (by decide +kernel) rfl rfl rfl (by decide +kernel)
theorem w_c18 : (Jvm.Cond.code ({ cls := "jdk/internal/util/Preconditions", name := "checkIndex", desc := "(IILjava/util/function/BiFunction;)I" } : Jvm.MethodName) jdk_41_method_11_code (3 : Nat) (Option.some Jvm.ClassFile.FieldType.int)).before args0 about1 = true := code_word (m := ⟨27, 1⟩) (meth := k27m1) (c := k27c1) (by decide +kernel) rfl rfl rfl (by decide +kernel)
theorem w_c19 : (Jvm.Cond.code ({ cls := "java/util/ImmutableCollections$AbstractImmutableList", name := "subList", desc := "(II)Ljava/util/List;" } : Jvm.MethodName) jdk_46_method_8_code (4 : Nat) (Option.some (Jvm.ClassFile.FieldType.object "java/util/List"))).before args0 about1 = true := code_word (m := ⟨16, 1⟩) (meth := k16m1) (c := k16c1) (by decide +kernel) rfl rfl rfl (by decide +kernel)
theorem w_c20 : (Jvm.Cond.code ({ cls := "java/util/ImmutableCollections$AbstractImmutableList", name := "subListRangeCheck", desc := "(III)V" } : Jvm.MethodName) jdk_46_method_9_code (3 : Nat) (Option.none : Option Jvm.ClassFile.FieldType)).before args0 about1 = true := code_word (m := ⟨16, 2⟩) (meth := k16m2) (c := k16c2) (by decide +kernel) rfl rfl rfl (by decide +kernel)
theorem w_c21 : (Jvm.Cond.code ({ cls := "java/util/ImmutableCollections$SubList", name := "fromList", desc := "(Ljava/util/ImmutableCollections$AbstractImmutableList;II)Ljava/util/ImmutableCollections$SubList;" } : Jvm.MethodName) jdk_2608_method_3_code (3 : Nat) (Option.some (Jvm.ClassFile.FieldType.object "java/util/ImmutableCollections$SubList"))).before args0 about1 = true := code_word (m := ⟨28, 1⟩) (meth := k28m1) (c := k28c1) (by decide +kernel) rfl rfl rfl (by decide +kernel)
theorem w_c22 : (Jvm.Cond.code ({ cls := "java/util/ImmutableCollections$SubList", name := "<init>", desc := "(Ljava/util/ImmutableCollections$AbstractImmutableList;II)V" } : Jvm.MethodName) jdk_2608_method_1_code (4 : Nat) (Option.none : Option Jvm.ClassFile.FieldType)).before args0 about1 = true := code_word (m := ⟨28, 0⟩) (meth := k28m0) (c := k28c0) (by decide +kernel) rfl rfl rfl (by decide +kernel)
theorem w_c23 : (Jvm.Cond.code ({ cls := "java/util/ImmutableCollections$AbstractImmutableList", name := "<init>", desc := "()V" } : Jvm.MethodName) jdk_46_method_1_code (1 : Nat) (Option.none : Option Jvm.ClassFile.FieldType)).before args0 about1 = true := code_word (m := ⟨16, 0⟩) (meth := k16m0) (c := k16c0) (by decide +kernel) rfl rfl rfl (by decide +kernel)
theorem w_c24 : (Jvm.Cond.code ({ cls := "java/util/ImmutableCollections$AbstractImmutableCollection", name := "<init>", desc := "()V" } : Jvm.MethodName) jdk_47_method_1_code (1 : Nat) (Option.none : Option Jvm.ClassFile.FieldType)).before args0 about1 = true := code_word (m := ⟨15, 0⟩) (meth := k15m0) (c := k15c0) (by decide +kernel) rfl rfl rfl (by decide +kernel)
theorem w_c25 : (Jvm.Cond.code ({ cls := "com/example/hodos/hodos/analysis/CourseArcsFromPinLaw", name := "cnt", desc := "(IIII)I" } : Jvm.MethodName) method_2_code (4 : Nat) (Option.some Jvm.ClassFile.FieldType.int)).before args0 about1 = true := code_word (m := ⟨1, 1⟩) (meth := k1m1) (c := k1c1) (by decide +kernel) rfl rfl rfl (by decide +kernel)
theorem w_c26 : (Jvm.Cond.code ({ cls := "java/util/ImmutableCollections$SubList", name := "size", desc := "()I" } : Jvm.MethodName) jdk_2608_method_5_code (1 : Nat) (Option.some Jvm.ClassFile.FieldType.int)).before args0 about1 = true := code_word (m := ⟨28, 3⟩) (meth := k28m3) (c := k28c3) (by decide +kernel) rfl rfl rfl (by decide +kernel)
theorem w_c27 : (Jvm.Cond.code ({ cls := "com/example/hodos/hodos/analysis/CourseArcsFromPinLaw", name := "check", desc := "(Ljava/util/List;III)Z" } : Jvm.MethodName) method_3_code (4 : Nat) (Option.some Jvm.ClassFile.FieldType.boolean)).before args0 about1 = true := code_word (m := ⟨1, 2⟩) (meth := k1m2) (c := k1c2) (by decide +kernel) rfl rfl rfl (by decide +kernel)
theorem w_c28 : (Jvm.Cond.code ({ cls := "com/example/hodos/hodos/analysis/Course$Arc", name := "<init>", desc := "(IILcom/example/hodos/hodos/model/Time;ZZI)V" } : Jvm.MethodName) prog_9_method_1_code (7 : Nat) (Option.none : Option Jvm.ClassFile.FieldType)).before args0 about1 = true := code_word (m := ⟨21, 0⟩) (meth := k21m0) (c := k21c0) (by decide +kernel) rfl rfl rfl (by decide +kernel)
theorem w_c29 : (Jvm.Cond.code ({ cls := "java/lang/Record", name := "<init>", desc := "()V" } : Jvm.MethodName) jdk_30_method_1_code (1 : Nat) (Option.none : Option Jvm.ClassFile.FieldType)).before args0 about1 = true := code_word (m := ⟨20, 0⟩) (meth := k20m0) (c := k20c0) (by decide +kernel) rfl rfl rfl (by decide +kernel)
theorem w_c30 : (Jvm.Cond.code ({ cls := "java/util/Objects", name := "requireNonNull", desc := "(Ljava/lang/Object;Ljava/lang/String;)Ljava/lang/Object;" } : Jvm.MethodName) jdk_31_method_11_code (2 : Nat) (Option.some (Jvm.ClassFile.FieldType.object "java/lang/Object"))).before args0 about1 = true := code_word (m := ⟨26, 2⟩) (meth := k26m2) (c := k26c2) (by decide +kernel) rfl rfl rfl (by decide +kernel)
theorem w_c31 : (Jvm.Cond.code ({ cls := "java/util/ArrayList", name := "add", desc := "(Ljava/lang/Object;)Z" } : Jvm.MethodName) jdk_38_method_25_code (2 : Nat) (Option.some Jvm.ClassFile.FieldType.boolean)).before args0 about1 = true := code_word (m := ⟨12, 6⟩) (meth := k12m6) (c := k12c6) (by decide +kernel) rfl rfl rfl (by decide +kernel)
theorem w_c32 : (Jvm.Cond.code ({ cls := "java/util/ArrayList", name := "add", desc := "(Ljava/lang/Object;[Ljava/lang/Object;I)V" } : Jvm.MethodName) jdk_38_method_24_code (4 : Nat) (Option.none : Option Jvm.ClassFile.FieldType)).before args0 about1 = true := code_word (m := ⟨12, 5⟩) (meth := k12m5) (c := k12c5) (by decide +kernel) rfl rfl rfl (by decide +kernel)
theorem w_c33 : (Jvm.Cond.code ({ cls := "java/util/ArrayList", name := "grow", desc := "()[Ljava/lang/Object;" } : Jvm.MethodName) jdk_38_method_7_code (1 : Nat) (Option.some (Jvm.ClassFile.FieldType.array (Jvm.ClassFile.FieldType.object "java/lang/Object")))).before args0 about1 = true := code_word (m := ⟨12, 2⟩) (meth := k12m2) (c := k12c2) (by decide +kernel) rfl rfl rfl (by decide +kernel)
theorem w_c34 : (Jvm.Cond.code ({ cls := "java/util/ArrayList", name := "grow", desc := "(I)[Ljava/lang/Object;" } : Jvm.MethodName) jdk_38_method_6_code (4 : Nat) (Option.some (Jvm.ClassFile.FieldType.array (Jvm.ClassFile.FieldType.object "java/lang/Object")))).before args0 about1 = true := code_word (m := ⟨12, 1⟩) (meth := k12m1) (c := k12c1) (by decide +kernel) rfl rfl rfl (by decide +kernel)
theorem w_c35 : (Jvm.Cond.code ({ cls := "java/lang/Math", name := "max", desc := "(II)I" } : Jvm.MethodName) jdk_29_method_65_code (2 : Nat) (Option.some Jvm.ClassFile.FieldType.int)).before args0 about1 = true := code_word (m := ⟨2, 1⟩) (meth := k2m1) (c := k2c1) (by decide +kernel) rfl rfl rfl (by decide +kernel)
theorem w_c36 : (Jvm.Cond.code ({ cls := "java/util/ArrayList", name := "toArray", desc := "()[Ljava/lang/Object;" } : Jvm.MethodName) jdk_38_method_16_code (1 : Nat) (Option.some (Jvm.ClassFile.FieldType.array (Jvm.ClassFile.FieldType.object "java/lang/Object")))).before args0 about1 = true := code_word (m := ⟨12, 4⟩) (meth := k12m4) (c := k12c4) (by decide +kernel) rfl rfl rfl (by decide +kernel)
theorem w_c37 : (Jvm.Cond.code ({ cls := "java/util/Arrays", name := "copyOf", desc := "([Ljava/lang/Object;I)[Ljava/lang/Object;" } : Jvm.MethodName) jdk_65_method_119_code (2 : Nat) (Option.some (Jvm.ClassFile.FieldType.array (Jvm.ClassFile.FieldType.object "java/lang/Object")))).before args0 about1 = true := code_word (m := ⟨35, 1⟩) (meth := k35m1) (c := k35c1) (by decide +kernel) rfl rfl rfl (by decide +kernel)
theorem w_c38 : (Jvm.Cond.code ({ cls := "java/util/Arrays", name := "copyOf", desc := "([Ljava/lang/Object;ILjava/lang/Class;)[Ljava/lang/Object;" } : Jvm.MethodName) jdk_65_method_120_code (4 : Nat) (Option.some (Jvm.ClassFile.FieldType.array (Jvm.ClassFile.FieldType.object "java/lang/Object")))).before args0 about1 = true := code_word (m := ⟨35, 2⟩) (meth := k35m2) (c := k35c2) (by decide +kernel) rfl rfl rfl (by decide +kernel)
theorem w_c39 : (Jvm.Cond.code ({ cls := "java/util/List", name := "of", desc := "([Ljava/lang/Object;)Ljava/util/List;" } : Jvm.MethodName) jdk_40_method_47_code (2 : Nat) (Option.some (Jvm.ClassFile.FieldType.object "java/util/List"))).before args0 about1 = true := code_word (m := ⟨7, 5⟩) (meth := k7m5) (c := k7c5) (by decide +kernel) rfl rfl rfl (by decide +kernel)
theorem w_c40 : (Jvm.Cond.code ({ cls := "java/util/ImmutableCollections$List12", name := "<init>", desc := "(Ljava/lang/Object;)V" } : Jvm.MethodName) jdk_44_method_1_code (2 : Nat) (Option.none : Option Jvm.ClassFile.FieldType)).before args0 about1 = true := code_word (m := ⟨17, 0⟩) (meth := k17m0) (c := k17c0) (by decide +kernel) rfl rfl rfl (by decide +kernel)
theorem w_c41 : (Jvm.Cond.code ({ cls := "java/util/Objects", name := "requireNonNull", desc := "(Ljava/lang/Object;)Ljava/lang/Object;" } : Jvm.MethodName) jdk_31_method_10_code (1 : Nat) (Option.some (Jvm.ClassFile.FieldType.object "java/lang/Object"))).before args0 about1 = true := code_word (m := ⟨26, 1⟩) (meth := k26m1) (c := k26c1) (by decide +kernel) rfl rfl rfl (by decide +kernel)
theorem w_c42 : (Jvm.Cond.code ({ cls := "java/util/ImmutableCollections$List12", name := "size", desc := "()I" } : Jvm.MethodName) jdk_44_method_3_code (1 : Nat) (Option.some Jvm.ClassFile.FieldType.int)).before args0 about1 = true := code_word (m := ⟨17, 2⟩) (meth := k17m2) (c := k17c2) (by decide +kernel) rfl rfl rfl (by decide +kernel)
theorem w_c43 : (Jvm.Cond.code ({ cls := "java/util/ImmutableCollections$List12", name := "get", desc := "(I)Ljava/lang/Object;" } : Jvm.MethodName) jdk_44_method_5_code (2 : Nat) (Option.some (Jvm.ClassFile.FieldType.object "java/lang/Object"))).before args0 about1 = true := code_word (m := ⟨17, 3⟩) (meth := k17m3) (c := k17c3) (by decide +kernel) rfl rfl rfl (by decide +kernel)
theorem w_c44 : (Jvm.Cond.code ({ cls := "com/example/hodos/hodos/analysis/Course$Arc", name := "source", desc := "()I" } : Jvm.MethodName) prog_9_method_5_code (1 : Nat) (Option.some Jvm.ClassFile.FieldType.int)).before args0 about1 = true := code_word (m := ⟨21, 1⟩) (meth := k21m1) (c := k21c1) (by decide +kernel) rfl rfl rfl (by decide +kernel)
theorem w_c45 : (Jvm.Cond.code ({ cls := "java/util/ImmutableCollections$SubList", name := "get", desc := "(I)Ljava/lang/Object;" } : Jvm.MethodName) jdk_2608_method_4_code (2 : Nat) (Option.some (Jvm.ClassFile.FieldType.object "java/lang/Object"))).before args0 about1 = true := code_word (m := ⟨28, 2⟩) (meth := k28m2) (c := k28c2) (by decide +kernel) rfl rfl rfl (by decide +kernel)
theorem w_c46 : (Jvm.Cond.code ({ cls := "com/example/hodos/hodos/analysis/Course$Arc", name := "origin", desc := "()I" } : Jvm.MethodName) prog_9_method_10_code (1 : Nat) (Option.some Jvm.ClassFile.FieldType.int)).before args0 about1 = true := code_word (m := ⟨21, 2⟩) (meth := k21m2) (c := k21c2) (by decide +kernel) rfl rfl rfl (by decide +kernel)
theorem w_c47 : (Jvm.Cond.code ({ cls := "java/util/ImmutableCollections", name := "listFromArray", desc := "([Ljava/lang/Object;)Ljava/util/List;" } : Jvm.MethodName) jdk_56_method_4_code (3 : Nat) (Option.some (Jvm.ClassFile.FieldType.object "java/util/List"))).before args0 about1 = true := code_word (m := ⟨14, 2⟩) (meth := k14m2) (c := k14c2) (by decide +kernel) rfl rfl rfl (by decide +kernel)
theorem w_c48 : (Jvm.Cond.code ({ cls := "java/util/ImmutableCollections$ListN", name := "<init>", desc := "([Ljava/lang/Object;Z)V" } : Jvm.MethodName) jdk_45_method_1_code (3 : Nat) (Option.none : Option Jvm.ClassFile.FieldType)).before args0 about1 = true := code_word (m := ⟨18, 0⟩) (meth := k18m0) (c := k18c0) (by decide +kernel) rfl rfl rfl (by decide +kernel)
theorem w_c49 : (Jvm.Cond.code ({ cls := "java/util/ImmutableCollections$ListN", name := "get", desc := "(I)Ljava/lang/Object;" } : Jvm.MethodName) jdk_45_method_4_code (2 : Nat) (Option.some (Jvm.ClassFile.FieldType.object "java/lang/Object"))).before args0 about1 = true := code_word (m := ⟨18, 2⟩) (meth := k18m2) (c := k18c2) (by decide +kernel) rfl rfl rfl (by decide +kernel)
theorem w_c50 : (Jvm.Cond.code ({ cls := "java/util/ImmutableCollections$List12", name := "<init>", desc := "(Ljava/lang/Object;Ljava/lang/Object;)V" } : Jvm.MethodName) jdk_44_method_2_code (3 : Nat) (Option.none : Option Jvm.ClassFile.FieldType)).before args0 about1 = true := code_word (m := ⟨17, 1⟩) (meth := k17m1) (c := k17c1) (by decide +kernel) rfl rfl rfl (by decide +kernel)
def codes1 : List Jvm.Cond := [Jvm.Cond.code x code maxLocals ret, Jvm.Cond.code ({ cls := "java/lang/Math", name := "min", desc := "(II)I" } : Jvm.MethodName) jdk_29_method_69_code (2 : Nat) (Option.some Jvm.ClassFile.FieldType.int), Jvm.Cond.code ({ cls := "java/util/ArrayList", name := "<init>", desc := "()V" } : Jvm.MethodName) jdk_38_method_2_code (1 : Nat) (Option.none : Option Jvm.ClassFile.FieldType), Jvm.Cond.code ({ cls := "java/util/AbstractList", name := "<init>", desc := "()V" } : Jvm.MethodName) jdk_39_method_1_code (1 : Nat) (Option.none : Option Jvm.ClassFile.FieldType), Jvm.Cond.code ({ cls := "java/util/AbstractCollection", name := "<init>", desc := "()V" } : Jvm.MethodName) jdk_22_method_1_code (1 : Nat) (Option.none : Option Jvm.ClassFile.FieldType), Jvm.Cond.code ({ cls := "java/lang/Object", name := "<init>", desc := "()V" } : Jvm.MethodName) object_method_1_code (1 : Nat) (Option.none : Option Jvm.ClassFile.FieldType), Jvm.Cond.code ({ cls := "com/example/hodos/hodos/analysis/Course", name := "<init>", desc := "([ZLjava/util/List;Ljava/util/List;)V" } : Jvm.MethodName) prog_8_method_1_code (4 : Nat) (Option.none : Option Jvm.ClassFile.FieldType), Jvm.Cond.code ({ cls := "java/util/List", name := "copyOf", desc := "(Ljava/util/Collection;)Ljava/util/List;" } : Jvm.MethodName) jdk_40_method_48_code (1 : Nat) (Option.some (Jvm.ClassFile.FieldType.object "java/util/List")), Jvm.Cond.code ({ cls := "java/util/ImmutableCollections", name := "listCopy", desc := "(Ljava/util/Collection;)Ljava/util/List;" } : Jvm.MethodName) jdk_56_method_3_code (2 : Nat) (Option.some (Jvm.ClassFile.FieldType.object "java/util/List")), Jvm.Cond.code ({ cls := "java/util/ArrayList", name := "isEmpty", desc := "()Z" } : Jvm.MethodName) jdk_38_method_9_code (1 : Nat) (Option.some Jvm.ClassFile.FieldType.boolean), Jvm.Cond.code ({ cls := "java/util/List", name := "of", desc := "()Ljava/util/List;" } : Jvm.MethodName) jdk_40_method_36_code (0 : Nat) (Option.some (Jvm.ClassFile.FieldType.object "java/util/List")), Jvm.Cond.code ({ cls := "com/example/hodos/hodos/analysis/Graph", name := "firstOfEach", desc := "(ILjava/util/List;Ljava/util/function/ToIntFunction;)[I" } : Jvm.MethodName) prog_15_method_2_code (6 : Nat) (Option.some (Jvm.ClassFile.FieldType.array Jvm.ClassFile.FieldType.int)), Jvm.Cond.code ({ cls := "java/util/ImmutableCollections$AbstractImmutableList", name := "iterator", desc := "()Ljava/util/Iterator;" } : Jvm.MethodName) jdk_46_method_10_code (1 : Nat) (Option.some (Jvm.ClassFile.FieldType.object "java/util/Iterator")), Jvm.Cond.code ({ cls := "java/util/ImmutableCollections$ListN", name := "size", desc := "()I" } : Jvm.MethodName) jdk_45_method_3_code (1 : Nat) (Option.some Jvm.ClassFile.FieldType.int), Jvm.Cond.code ({ cls := "java/util/ImmutableCollections$ListItr", name := "<init>", desc := "(Ljava/util/List;I)V" } : Jvm.MethodName) jdk_53_method_1_code (3 : Nat) (Option.none : Option Jvm.ClassFile.FieldType), Jvm.Cond.code ({ cls := "java/util/ImmutableCollections$ListItr", name := "hasNext", desc := "()Z" } : Jvm.MethodName) jdk_53_method_3_code (1 : Nat) (Option.some Jvm.ClassFile.FieldType.boolean), Jvm.Cond.code ({ cls := "com/example/hodos/hodos/analysis/Course", name := "arcsFrom", desc := "(I)Ljava/util/List;" } : Jvm.MethodName) prog_8_method_4_code (2 : Nat) (Option.some (Jvm.ClassFile.FieldType.object "java/util/List")), Jvm.Cond.code ({ cls := "java/util/Objects", name := "checkIndex", desc := "(II)I" } : Jvm.MethodName) jdk_31_method_17_code (2 : Nat) (Option.some Jvm.ClassFile.FieldType.int), Jvm.Cond.code ({ cls := "jdk/internal/util/Preconditions", name := "checkIndex", desc := "(IILjava/util/function/BiFunction;)I" } : Jvm.MethodName) jdk_41_method_11_code (3 : Nat) (Option.some Jvm.ClassFile.FieldType.int), Jvm.Cond.code ({ cls := "java/util/ImmutableCollections$AbstractImmutableList", name := "subList", desc := "(II)Ljava/util/List;" } : Jvm.MethodName) jdk_46_method_8_code (4 : Nat) (Option.some (Jvm.ClassFile.FieldType.object "java/util/List")), Jvm.Cond.code ({ cls := "java/util/ImmutableCollections$AbstractImmutableList", name := "subListRangeCheck", desc := "(III)V" } : Jvm.MethodName) jdk_46_method_9_code (3 : Nat) (Option.none : Option Jvm.ClassFile.FieldType), Jvm.Cond.code ({ cls := "java/util/ImmutableCollections$SubList", name := "fromList", desc := "(Ljava/util/ImmutableCollections$AbstractImmutableList;II)Ljava/util/ImmutableCollections$SubList;" } : Jvm.MethodName) jdk_2608_method_3_code (3 : Nat) (Option.some (Jvm.ClassFile.FieldType.object "java/util/ImmutableCollections$SubList")), Jvm.Cond.code ({ cls := "java/util/ImmutableCollections$SubList", name := "<init>", desc := "(Ljava/util/ImmutableCollections$AbstractImmutableList;II)V" } : Jvm.MethodName) jdk_2608_method_1_code (4 : Nat) (Option.none : Option Jvm.ClassFile.FieldType), Jvm.Cond.code ({ cls := "java/util/ImmutableCollections$AbstractImmutableList", name := "<init>", desc := "()V" } : Jvm.MethodName) jdk_46_method_1_code (1 : Nat) (Option.none : Option Jvm.ClassFile.FieldType), Jvm.Cond.code ({ cls := "java/util/ImmutableCollections$AbstractImmutableCollection", name := "<init>", desc := "()V" } : Jvm.MethodName) jdk_47_method_1_code (1 : Nat) (Option.none : Option Jvm.ClassFile.FieldType), Jvm.Cond.code ({ cls := "com/example/hodos/hodos/analysis/CourseArcsFromPinLaw", name := "cnt", desc := "(IIII)I" } : Jvm.MethodName) method_2_code (4 : Nat) (Option.some Jvm.ClassFile.FieldType.int), Jvm.Cond.code ({ cls := "java/util/ImmutableCollections$SubList", name := "size", desc := "()I" } : Jvm.MethodName) jdk_2608_method_5_code (1 : Nat) (Option.some Jvm.ClassFile.FieldType.int), Jvm.Cond.code ({ cls := "com/example/hodos/hodos/analysis/CourseArcsFromPinLaw", name := "check", desc := "(Ljava/util/List;III)Z" } : Jvm.MethodName) method_3_code (4 : Nat) (Option.some Jvm.ClassFile.FieldType.boolean), Jvm.Cond.code ({ cls := "com/example/hodos/hodos/analysis/Course$Arc", name := "<init>", desc := "(IILcom/example/hodos/hodos/model/Time;ZZI)V" } : Jvm.MethodName) prog_9_method_1_code (7 : Nat) (Option.none : Option Jvm.ClassFile.FieldType), Jvm.Cond.code ({ cls := "java/lang/Record", name := "<init>", desc := "()V" } : Jvm.MethodName) jdk_30_method_1_code (1 : Nat) (Option.none : Option Jvm.ClassFile.FieldType), Jvm.Cond.code ({ cls := "java/util/Objects", name := "requireNonNull", desc := "(Ljava/lang/Object;Ljava/lang/String;)Ljava/lang/Object;" } : Jvm.MethodName) jdk_31_method_11_code (2 : Nat) (Option.some (Jvm.ClassFile.FieldType.object "java/lang/Object")), Jvm.Cond.code ({ cls := "java/util/ArrayList", name := "add", desc := "(Ljava/lang/Object;)Z" } : Jvm.MethodName) jdk_38_method_25_code (2 : Nat) (Option.some Jvm.ClassFile.FieldType.boolean), Jvm.Cond.code ({ cls := "java/util/ArrayList", name := "add", desc := "(Ljava/lang/Object;[Ljava/lang/Object;I)V" } : Jvm.MethodName) jdk_38_method_24_code (4 : Nat) (Option.none : Option Jvm.ClassFile.FieldType), Jvm.Cond.code ({ cls := "java/util/ArrayList", name := "grow", desc := "()[Ljava/lang/Object;" } : Jvm.MethodName) jdk_38_method_7_code (1 : Nat) (Option.some (Jvm.ClassFile.FieldType.array (Jvm.ClassFile.FieldType.object "java/lang/Object"))), Jvm.Cond.code ({ cls := "java/util/ArrayList", name := "grow", desc := "(I)[Ljava/lang/Object;" } : Jvm.MethodName) jdk_38_method_6_code (4 : Nat) (Option.some (Jvm.ClassFile.FieldType.array (Jvm.ClassFile.FieldType.object "java/lang/Object"))), Jvm.Cond.code ({ cls := "java/lang/Math", name := "max", desc := "(II)I" } : Jvm.MethodName) jdk_29_method_65_code (2 : Nat) (Option.some Jvm.ClassFile.FieldType.int), Jvm.Cond.code ({ cls := "java/util/ArrayList", name := "toArray", desc := "()[Ljava/lang/Object;" } : Jvm.MethodName) jdk_38_method_16_code (1 : Nat) (Option.some (Jvm.ClassFile.FieldType.array (Jvm.ClassFile.FieldType.object "java/lang/Object"))), Jvm.Cond.code ({ cls := "java/util/Arrays", name := "copyOf", desc := "([Ljava/lang/Object;I)[Ljava/lang/Object;" } : Jvm.MethodName) jdk_65_method_119_code (2 : Nat) (Option.some (Jvm.ClassFile.FieldType.array (Jvm.ClassFile.FieldType.object "java/lang/Object"))), Jvm.Cond.code ({ cls := "java/util/Arrays", name := "copyOf", desc := "([Ljava/lang/Object;ILjava/lang/Class;)[Ljava/lang/Object;" } : Jvm.MethodName) jdk_65_method_120_code (4 : Nat) (Option.some (Jvm.ClassFile.FieldType.array (Jvm.ClassFile.FieldType.object "java/lang/Object"))), Jvm.Cond.code ({ cls := "java/util/List", name := "of", desc := "([Ljava/lang/Object;)Ljava/util/List;" } : Jvm.MethodName) jdk_40_method_47_code (2 : Nat) (Option.some (Jvm.ClassFile.FieldType.object "java/util/List")), Jvm.Cond.code ({ cls := "java/util/ImmutableCollections$List12", name := "<init>", desc := "(Ljava/lang/Object;)V" } : Jvm.MethodName) jdk_44_method_1_code (2 : Nat) (Option.none : Option Jvm.ClassFile.FieldType), Jvm.Cond.code ({ cls := "java/util/Objects", name := "requireNonNull", desc := "(Ljava/lang/Object;)Ljava/lang/Object;" } : Jvm.MethodName) jdk_31_method_10_code (1 : Nat) (Option.some (Jvm.ClassFile.FieldType.object "java/lang/Object")), Jvm.Cond.code ({ cls := "java/util/ImmutableCollections$List12", name := "size", desc := "()I" } : Jvm.MethodName) jdk_44_method_3_code (1 : Nat) (Option.some Jvm.ClassFile.FieldType.int), Jvm.Cond.code ({ cls := "java/util/ImmutableCollections$List12", name := "get", desc := "(I)Ljava/lang/Object;" } : Jvm.MethodName) jdk_44_method_5_code (2 : Nat) (Option.some (Jvm.ClassFile.FieldType.object "java/lang/Object")), Jvm.Cond.code ({ cls := "com/example/hodos/hodos/analysis/Course$Arc", name := "source", desc := "()I" } : Jvm.MethodName) prog_9_method_5_code (1 : Nat) (Option.some Jvm.ClassFile.FieldType.int), Jvm.Cond.code ({ cls := "java/util/ImmutableCollections$SubList", name := "get", desc := "(I)Ljava/lang/Object;" } : Jvm.MethodName) jdk_2608_method_4_code (2 : Nat) (Option.some (Jvm.ClassFile.FieldType.object "java/lang/Object")), Jvm.Cond.code ({ cls := "com/example/hodos/hodos/analysis/Course$Arc", name := "origin", desc := "()I" } : Jvm.MethodName) prog_9_method_10_code (1 : Nat) (Option.some Jvm.ClassFile.FieldType.int), Jvm.Cond.code ({ cls := "java/util/ImmutableCollections", name := "listFromArray", desc := "([Ljava/lang/Object;)Ljava/util/List;" } : Jvm.MethodName) jdk_56_method_4_code (3 : Nat) (Option.some (Jvm.ClassFile.FieldType.object "java/util/List")), Jvm.Cond.code ({ cls := "java/util/ImmutableCollections$ListN", name := "<init>", desc := "([Ljava/lang/Object;Z)V" } : Jvm.MethodName) jdk_45_method_1_code (3 : Nat) (Option.none : Option Jvm.ClassFile.FieldType), Jvm.Cond.code ({ cls := "java/util/ImmutableCollections$ListN", name := "get", desc := "(I)Ljava/lang/Object;" } : Jvm.MethodName) jdk_45_method_4_code (2 : Nat) (Option.some (Jvm.ClassFile.FieldType.object "java/lang/Object")), Jvm.Cond.code ({ cls := "java/util/ImmutableCollections$List12", name := "<init>", desc := "(Ljava/lang/Object;Ljava/lang/Object;)V" } : Jvm.MethodName) jdk_44_method_2_code (3 : Nat) (Option.none : Option Jvm.ClassFile.FieldType)]
theorem codes_eq : words1.filter isCode = codes1 := rfl
theorem w_codes : ∀ c ∈ words1.filter isCode, c.before args0 about1 = true := by
  rw [codes_eq]
  intro c hc
  simp only [codes1, List.mem_cons, List.not_mem_nil, or_false] at hc
  rcases hc with rfl | rfl | rfl | rfl | rfl | rfl | rfl | rfl | rfl | rfl | rfl | rfl | rfl | rfl | rfl | rfl | rfl | rfl | rfl | rfl | rfl | rfl | rfl | rfl | rfl | rfl | rfl | rfl | rfl | rfl | rfl | rfl | rfl | rfl | rfl | rfl | rfl | rfl | rfl | rfl | rfl | rfl | rfl | rfl | rfl | rfl | rfl | rfl | rfl | rfl | rfl
  · exact w_c0
  · exact w_c1
  · exact w_c2
  · exact w_c3
  · exact w_c4
  · exact w_c5
  · exact w_c6
  · exact w_c7
  · exact w_c8
  · exact w_c9
  · exact w_c10
  · exact w_c11
  · exact w_c12
  · exact w_c13
  · exact w_c14
  · exact w_c15
  · exact w_c16
  · exact w_c17
  · exact w_c18
  · exact w_c19
  · exact w_c20
  · exact w_c21
  · exact w_c22
  · exact w_c23
  · exact w_c24
  · exact w_c25
  · exact w_c26
  · exact w_c27
  · exact w_c28
  · exact w_c29
  · exact w_c30
  · exact w_c31
  · exact w_c32
  · exact w_c33
  · exact w_c34
  · exact w_c35
  · exact w_c36
  · exact w_c37
  · exact w_c38
  · exact w_c39
  · exact w_c40
  · exact w_c41
  · exact w_c42
  · exact w_c43
  · exact w_c44
  · exact w_c45
  · exact w_c46
  · exact w_c47
  · exact w_c48
  · exact w_c49
  · exact w_c50
theorem w_t1 : (words1.take 24).all (fun c => isCode c || c.before args0 about1) = true := by decide +kernel
theorem w_t2 : ((words1.drop 24).take 24).all (fun c => isCode c || c.before args0 about1) = true := by decide +kernel
theorem w_t3 : (((words1.drop 24).drop 24).take 24).all (fun c => isCode c || c.before args0 about1) = true := by decide +kernel
theorem w_t4 : ((((words1.drop 24).drop 24).drop 24).take 24).all (fun c => isCode c || c.before args0 about1) = true := by decide +kernel
theorem w_t5 : (((((words1.drop 24).drop 24).drop 24).drop 24).take 24).all (fun c => isCode c || c.before args0 about1) = true := by decide +kernel
theorem w_t6 : ((((((words1.drop 24).drop 24).drop 24).drop 24).drop 24).take 24).all (fun c => isCode c || c.before args0 about1) = true := by decide +kernel
theorem w_t7 : (((((((words1.drop 24).drop 24).drop 24).drop 24).drop 24).drop 24).take 24).all (fun c => isCode c || c.before args0 about1) = true := by decide +kernel
theorem w_t8 : ((((((((words1.drop 24).drop 24).drop 24).drop 24).drop 24).drop 24).drop 24).take 24).all (fun c => isCode c || c.before args0 about1) = true := by decide +kernel
theorem w_t9 : (((((((((words1.drop 24).drop 24).drop 24).drop 24).drop 24).drop 24).drop 24).drop 24).take 24).all (fun c => isCode c || c.before args0 about1) = true := by decide +kernel
theorem w_t10 : ((((((((((words1.drop 24).drop 24).drop 24).drop 24).drop 24).drop 24).drop 24).drop 24).drop 24).take 24).all (fun c => isCode c || c.before args0 about1) = true := by decide +kernel
theorem w_t11 : (((((((((((words1.drop 24).drop 24).drop 24).drop 24).drop 24).drop 24).drop 24).drop 24).drop 24).drop 24).take 24).all (fun c => isCode c || c.before args0 about1) = true := by decide +kernel
theorem w_t12 : ((((((((((((words1.drop 24).drop 24).drop 24).drop 24).drop 24).drop 24).drop 24).drop 24).drop 24).drop 24).drop 24).take 24).all (fun c => isCode c || c.before args0 about1) = true := by decide +kernel
theorem w_t13 : (((((((((((((words1.drop 24).drop 24).drop 24).drop 24).drop 24).drop 24).drop 24).drop 24).drop 24).drop 24).drop 24).drop 24).take 24).all (fun c => isCode c || c.before args0 about1) = true := by decide +kernel
theorem w_t14 : ((((((((((((((words1.drop 24).drop 24).drop 24).drop 24).drop 24).drop 24).drop 24).drop 24).drop 24).drop 24).drop 24).drop 24).drop 24).take 24).all (fun c => isCode c || c.before args0 about1) = true := by decide +kernel
theorem w_t15 : (((((((((((((((words1.drop 24).drop 24).drop 24).drop 24).drop 24).drop 24).drop 24).drop 24).drop 24).drop 24).drop 24).drop 24).drop 24).drop 24).take 24).all (fun c => isCode c || c.before args0 about1) = true := by decide +kernel
theorem w_t16 : ((((((((((((((((words1.drop 24).drop 24).drop 24).drop 24).drop 24).drop 24).drop 24).drop 24).drop 24).drop 24).drop 24).drop 24).drop 24).drop 24).drop 24).take 24).all (fun c => isCode c || c.before args0 about1) = true := by decide +kernel
theorem w_t17 : ((((((((((((((((words1.drop 24).drop 24).drop 24).drop 24).drop 24).drop 24).drop 24).drop 24).drop 24).drop 24).drop 24).drop 24).drop 24).drop 24).drop 24).drop 24).all (fun c => isCode c || c.before args0 about1) = true := by decide +kernel
theorem w_tables : (allAtoms (Jvm.Cond.code x code maxLocals ret :: tables_1)).before args0 about1 = true := by
  rw [allAtoms_all]
  show words1.all (fun c => c.before args0 about1) = true
  refine all_split ?_ w_codes
  rw [← List.take_append_drop 24 words1, List.all_append, w_t1, ← List.take_append_drop 24 (words1.drop 24), List.all_append, w_t2, ← List.take_append_drop 24 ((words1.drop 24).drop 24), List.all_append, w_t3, ← List.take_append_drop 24 (((words1.drop 24).drop 24).drop 24), List.all_append, w_t4, ← List.take_append_drop 24 ((((words1.drop 24).drop 24).drop 24).drop 24), List.all_append, w_t5, ← List.take_append_drop 24 (((((words1.drop 24).drop 24).drop 24).drop 24).drop 24), List.all_append, w_t6, ← List.take_append_drop 24 ((((((words1.drop 24).drop 24).drop 24).drop 24).drop 24).drop 24), List.all_append, w_t7, ← List.take_append_drop 24 (((((((words1.drop 24).drop 24).drop 24).drop 24).drop 24).drop 24).drop 24), List.all_append, w_t8, ← List.take_append_drop 24 ((((((((words1.drop 24).drop 24).drop 24).drop 24).drop 24).drop 24).drop 24).drop 24), List.all_append, w_t9, ← List.take_append_drop 24 (((((((((words1.drop 24).drop 24).drop 24).drop 24).drop 24).drop 24).drop 24).drop 24).drop 24), List.all_append, w_t10, ← List.take_append_drop 24 ((((((((((words1.drop 24).drop 24).drop 24).drop 24).drop 24).drop 24).drop 24).drop 24).drop 24).drop 24), List.all_append, w_t11, ← List.take_append_drop 24 (((((((((((words1.drop 24).drop 24).drop 24).drop 24).drop 24).drop 24).drop 24).drop 24).drop 24).drop 24).drop 24), List.all_append, w_t12, ← List.take_append_drop 24 ((((((((((((words1.drop 24).drop 24).drop 24).drop 24).drop 24).drop 24).drop 24).drop 24).drop 24).drop 24).drop 24).drop 24), List.all_append, w_t13, ← List.take_append_drop 24 (((((((((((((words1.drop 24).drop 24).drop 24).drop 24).drop 24).drop 24).drop 24).drop 24).drop 24).drop 24).drop 24).drop 24).drop 24), List.all_append, w_t14, ← List.take_append_drop 24 ((((((((((((((words1.drop 24).drop 24).drop 24).drop 24).drop 24).drop 24).drop 24).drop 24).drop 24).drop 24).drop 24).drop 24).drop 24).drop 24), List.all_append, w_t15, ← List.take_append_drop 24 (((((((((((((((words1.drop 24).drop 24).drop 24).drop 24).drop 24).drop 24).drop 24).drop 24).drop 24).drop 24).drop 24).drop 24).drop 24).drop 24).drop 24), List.all_append, w_t16, w_t17]
  rfl
theorem w_rest : rest_1_c.before args0 about1 = true := by decide +kernel
theorem w_case : (Jvm.Cond.and given_1 narrow_1).before args0 about1 = true := by decide +kernel
theorem w_applies : (headSpec (Jvm.Cond.code x code maxLocals ret :: tables_1) room_1).applies x e0.platform about1 = true :=
  (Spec.applies_iff w_frames).mpr ⟨w_running, w_runnable, w_alone, w_named, w_hears, w_ripe, w_room, w_tables⟩
theorem atStart : AtStart classFile x code maxLocals ret World_1 tables_1 room_1 Calls_1 rest_1 Pre_1 launch0 p0 e0 about1 theMethod args0 below0 :=
  ⟨lists_1, trivial, launch0.admits_env _ _ _, launch0.least_env, fairChoices_fair.cas, fairChoices_fair.clock, w_frames, w_args, w_heap, w_applies, ⟨⟨44, k44, 4, by decide +kernel, rfl, rfl, _, rfl, rfl⟩, trivial⟩, w_rest, w_case⟩
end start1
theorem witness_1 : WitnessClaimed_1 := ⟨start1.p0, start1.e0, start1.about1, start1.theMethod, start1.args0, start1.below0, start1.atStart⟩
end Jvm.Pilot.@@N@@
