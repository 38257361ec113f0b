import JvmDerived
import JvmDerived.Pilot.@@N@@Statement
import JvmDerived.Pilot.@@N@@Code
set_option linter.unusedVariables false
set_option linter.unusedSimpArgs false
set_option maxRecDepth 65536
set_option maxHeartbeats 40000000
@@BLOCK:TracedD.lean.txt@@
namespace Jvm.RoadKit
open Sem ClassFile Op Lib Jvm.Stand Jvm.Free Jvm.LawKit
section New
variable {p : Program} {l : Launch} {e : Env} {R : Room} {s : State} {m : MethodId} {args : Array Value} {below : List Frame} {meth : Method} {c : Code} {T : State} {locs : List Loc} {cells slots : Nat}
theorem retI (X : Stand p l e R s m args below meth c T locs cells slots) (hx : p.tables.exec = Jvm.exec) {pc : Nat} {Ls : Array Slot} {z : Int32} {rest : List Value} (hret : meth.sig.returnType = some .int) (hd : decode c.code pc = .ok (.ireturn, 1)) {fs : List Frame}
    (hl : ∀ (f : JFrame) (acts : List Action), f.method = m → f.locked = none → f.entered = [] → (doReturn e (T.setTop f) acts (some (.int z))).1 = T.setFrames fs) : Steps p.tables e below (T.setTop (mkF m pc Ls (.int z :: rest))) (T.setFrames fs) := by
  have hm' : T.vm.method? m = some meth := X.method'
  have hn : narrow .int (.int z) = .int z := rfl
  show Steps p.tables e below (T.setTop { method := m, pc := pc, locals := Ls, stack := _ :: rest, locked := none }) _
  jvm_step X.here [X.here.top, hx, hd, hm', hret, hn]
  first | (intro acts; rw [hl _ acts rfl rfl rfl]) | rw [hl _ _ rfl rfl rfl]
  exact Steps.refl _
end New
end Jvm.RoadKit
namespace Jvm.RoadKit
open Sem ClassFile Op Lib Bundle Jvm.Stand Jvm.Free Jvm.LawKit Jvm.Free.Exc Jvm.Free.SB Jvm.Free.SBG LibCode.Throwable
section OwExc
/-- what is asked of the tables where a stack trace is filled in on an object of class rc -/
def owAtoms (rc : String) : List Cond := [.initialized tN, .superclass tN "java/lang/Object", .instanceMethod tFill, .codeSync tFill Fill.code 1 (some (.object tN)), .instanceMethod tFill0, .native tFill0, .instanceMethod oInit, .code oInit ⟨#[0xb1]⟩ 1 none, .methodLink tN 1 oInit, .methodLink tN 27 tFill, .methodLink tN 202 tFill0,
  .fieldLink tN 7 tN "cause" thD, .fieldLink tN 17 tN "stackTrace" steD, .fieldLink tN 24 tN "suppressedExceptions" listD, .fieldLink tN 13 tN "UNASSIGNED_STACK" steD, .laysStatic tN "UNASSIGNED_STACK" steD, .fieldLink tN 20 tN "SUPPRESSED_SENTINEL" listD, .laysStatic tN "SUPPRESSED_SENTINEL" listD, .fieldLink tN 198 tN "backtrace" obD,
  .lays rc tN "cause" thD, .lays rc tN "stackTrace" steD, .lays rc tN "suppressedExceptions" listD, .lays rc tN "detailMessage" msgD, .lays rc tN "backtrace" obD, .lays rc tN "depth" "I", .selects rc tFill0 tFill0, .selects rc tFill tFill, .declares tFill, .arrayOver (.object "java/lang/Object"), .soleField tN "backtrace", .soleField tN "depth"]
theorem owAtoms_ok {rc : String} : (owAtoms rc).all xOk = true := rfl
theorem own_parm {x : MethodName} {t : MethodDescriptor} {l : List FieldType} (h : parseMethodDescriptor x.desc = some t) (q : (parseMethodDescriptor x.desc).map (·.parameters) = some l) : t.parameters = l := by rw [h] at q; simpa using q
theorem own_thr {args : Array Value} {s : State} {pl : Platform} {rc : String} {cR : ClassId} {kR : Class} (hR : s.vm.findClass rc = some cR) (hkR : s.vm.classes[cR]? = some kR) (howns : pl.frameOwnsMonitors = true) (hfin : pl.finalization = false) (hpl : pl.magicAccessors = ({} : Platform).magicAccessors)
    (h : ∀ d ∈ owAtoms rc, d.before args s = true) :
    ∃ T : ThrowableC, T.Links pl s ∧ s.vm.findClass tN = some T.cT ∧ s.methodNamed? tFill = some T.fill ∧ s.methodNamed? tFill0 = some T.fill0 ∧ s.fieldFound? tN "stackTrace" steD = some (T.cT, T.kT, T.i17, T.fStack) ∧ s.fieldFound? tN "suppressedExceptions" listD = some (T.cT, T.kT, T.i24, T.fSupp) ∧
      s.fieldFound? tN "UNASSIGNED_STACK" steD = some (T.cT, T.kT, T.i13, T.fUnassigned) ∧ T.fStack.type = .array (.object "java/lang/StackTraceElement") ∧ T.fStack.name = "stackTrace" ∧ T.fSupp.name = "suppressedExceptions" := by
  have w : ∀ d, d ∈ owAtoms rc → d.holds args s none s [] = true := fun d hd => h d hd
  obtain ⟨⟨c, j0⟩, f0, n0, m0, f0n, f0c, f0l, f0s⟩ := Cond.native_spec (w (.native tFill0) (by simp [owAtoms]))
  have hc : s.vm.findClass tN = some c := findClass_of_methodNamed n0
  obtain ⟨k, hk, nk⟩ := Vm.findClass_spec hc
  obtain ⟨_, k', _, _, hk', _, _, _, _, hni⟩ := Cond.superclass_spec hc (w (.superclass tN "java/lang/Object") (by simp [owAtoms]))
  cases hk.symm.trans hk'
  obtain ⟨j1, f1, n1, m1, at1, st1, ab1, -, -⟩ := Cond.ownMethod (x := tFill) hc hk (w (.instanceMethod tFill) (by simp [owAtoms]))
  obtain ⟨_, c1, m1', hc1, b1, l1, r1, lk1, -, sg1⟩ := Cond.codeSync_spec n1 (w (.codeSync tFill Fill.code 1 (some (.object tN))) (by simp [owAtoms]))
  cases m1.symm.trans m1'
  obtain ⟨_, _, n0', m0', at0, st0, ab0, nm0, ds0⟩ := Cond.ownMethod (x := tFill0) hc hk (w (.instanceMethod tFill0) (by simp [owAtoms]))
  cases n0.symm.trans n0'
  cases m0.symm.trans m0'
  obtain ⟨mo, fo, no_, mmo, sto, abo⟩ := Cond.instanceMethod_spec (w (.instanceMethod oInit) (by simp [owAtoms]))
  obtain ⟨_, co, mmo', hco, bo, -, -, lko, -, sgo⟩ := Cond.code_spec no_ (w (.code oInit ⟨#[0xb1]⟩ 1 none) (by simp [owAtoms]))
  cases mmo.symm.trans mmo'
  obtain ⟨ko, hko, nko⟩ := Vm.findClass_spec (findClass_of_methodNamed no_)
  obtain ⟨nmo, dso⟩ := name_of_methodNamed no_ mmo
  obtain ⟨i1, t1, cf, hl1, hr1, hcf, hp1⟩ := Cond.linkedMethod hc hk no_ (w (.methodLink tN 1 oInit) (by simp [owAtoms])) pl hpl
  obtain ⟨i27, t27, cf', hl27, hr27, hcf', hp27⟩ := Cond.linkedMethod hc hk n1 (w (.methodLink tN 27 tFill) (by simp [owAtoms])) pl hpl
  cases hcf.symm.trans hcf'
  obtain ⟨i202, t202, cf', hl202, hr202, hcf', hp202⟩ := Cond.linkedMethod hc hk n0 (w (.methodLink tN 202 tFill0) (by simp [owAtoms])) pl hpl
  cases hcf.symm.trans hcf'
  obtain ⟨x7, y7, g7, hk7, hg7, ha7, hs7, hf7, -, -, -⟩ := Cond.ownField (C' := rc) (t := .object tN) hc hk (by decide +kernel) (w (.fieldLink tN 7 tN "cause" thD) (by simp [owAtoms])) (w (.lays rc tN "cause" thD) (by simp [owAtoms])) pl hpl
  obtain ⟨x17, y17, g17, hk17, hg17, ha17, hs17, hf17, hn17, ht17, hff17⟩ := Cond.ownField (C' := rc) (t := .array (.object "java/lang/StackTraceElement")) hc hk (by decide +kernel) (w (.fieldLink tN 17 tN "stackTrace" steD) (by simp [owAtoms])) (w (.lays rc tN "stackTrace" steD) (by simp [owAtoms])) pl hpl
  obtain ⟨x24, y24, g24, hk24, hg24, ha24, hs24, hf24, hn24, ht24, hff24⟩ := Cond.ownField (C' := rc) (t := .object "java/util/List") hc hk (by decide +kernel) (w (.fieldLink tN 24 tN "suppressedExceptions" listD) (by simp [owAtoms])) (w (.lays rc tN "suppressedExceptions" listD) (by simp [owAtoms])) pl hpl
  obtain ⟨x13, y13, g13, aS, cS, hk13, hg13, ha13, hs13, -, -, hsta, -, -, -, -, hff13⟩ := Cond.ownStatic (t := .array (.object "java/lang/StackTraceElement")) hc hk (by decide +kernel) (w (.fieldLink tN 13 tN "UNASSIGNED_STACK" steD) (by simp [owAtoms])) (w (.laysStatic tN "UNASSIGNED_STACK" steD) (by simp [owAtoms])) pl hpl
  obtain ⟨x20, y20, g20, _, _, hk20, hg20, ha20, hs20, -, -, -, -, -, -, -, -⟩ := Cond.ownStatic (t := .object "java/util/List") hc hk (by decide +kernel) (w (.fieldLink tN 20 tN "SUPPRESSED_SENTINEL" listD) (by simp [owAtoms])) (w (.laysStatic tN "SUPPRESSED_SENTINEL" listD) (by simp [owAtoms])) pl hpl
  obtain ⟨_, _, _, _, _, gM, _, _, _, hsM, hfM, -⟩ := Cond.lays_spec (w (.lays rc tN "detailMessage" msgD) (by simp [owAtoms]))
  obtain ⟨-, dS, hdS, hdnS⟩ := Cond.laysAt hR hkR hff17 (w (.lays rc tN "stackTrace" steD) (by simp [owAtoms]))
  obtain ⟨-, dP, hdP, hdnP⟩ := Cond.laysAt hR hkR hff24 (w (.lays rc tN "suppressedExceptions" listD) (by simp [owAtoms]))
  have hapart : g17.slot ≠ g24.slot := Cond.laysApart hdS hdP hdnS hdnP (by rw [hn17, hn24]; decide)
  have pO : fo.sig.parameters = [] := own_parm (x := oInit) sgo (by decide +kernel)
  let T : ThrowableC := { cT := c, kT := k, cO := c, aS := aS, fillIdx := j1, fill0Idx := j0, initSIdx := 0, obj := mo, kObj := ko, methFill := f1, methFill0 := f0, methInitS := f1, methObj := fo, codeFill := c1, codeInitS := c1, codeObj := co, fBack := g7, fDepth := g7, fStack := g17, fCause := g7, fSupp := g24, fMsg := gM, fUnassigned := g13, fSentinel := g20, cfT := cf, ci1 := i1, n1 := t1, ci27 := i27, n27 := t27, ci202 := i202, n202 := t202, ci7 := x7, i7 := y7, ci13 := x13, i13 := y13, ci17 := x17, i17 := y17, ci20 := x20, i20 := y20, ci24 := x24, i24 := y24 }
  have L : T.Links pl s := { owns := howns, noFinalization := hfin, cls := hk, name := nk, boot := Vm.findClass_boot hc hk, notInterface := hni, initialized := Cond.initialized_spec hc hk (w (.initialized tN) (by simp [owAtoms])), statics := hsta, fillAt := at1, fillCode := hc1, fillBytes := b1, fillLocals := l1, fillLocks := lk1, fillStatic := st1, fillAbstract := ab1, fillReturns := r1, fillParams := own_parm (x := tFill) sg1 (by decide +kernel), fill0At := at0, fill0Name := nm0, fill0Desc := ds0, fill0Params := own_parm (x := tFill0) f0s (by decide +kernel), fill0Static := st0, fill0Native := f0n, fill0Code := f0c, fill0Locks := f0l, fill0Abstract := ab0, stackInstance := hs17, stackNotFinal := hf17, unassignedStatic := hs13, objClass := hko, objClassName := nko, objMethod := mmo, objName := nmo, objStatic := sto, objAbstract := abo, objFound := (by rw [dso]; exact lookupSpecial_of_named no_ mmo sto), objParams := (by show fo.sig.parameters.length = 0; rw [pO]; rfl), objCode := hco, objBytes := bo, objLocks := lko, causeInstance := hs7, causeNotFinal := hf7, sentinelStatic := hs20, suppInstance := hs24, suppNotFinal := hf24, msgInstance := hsM, msgNotFinal := hfM, stackApartSupp := hapart, file := hcf, mlink1 := hl1, mright1 := hr1, pool1 := hp1, mlink27 := hl27, mright27 := hr27, pool27 := hp27, mlink202 := hl202, mright202 := hr202, pool202 := hp202, link7 := hk7, right7 := hg7, at7 := ha7, link13 := hk13, right13 := hg13, at13 := ha13, link17 := hk17, right17 := hg17, at17 := ha17, link20 := hk20, right20 := hg20, at20 := ha20, link24 := hk24, right24 := hg24, at24 := ha24 }
  exact ⟨T, L, hc, n1, n0, hff17, hff24, hff13, ht17, hn17, hn24⟩
theorem own_kept {s t : State} {L : List Loc} {k n : Nat} {a : Addr} {h0 : Heap} (q : s.sameButNew t L k n) (hL : ∀ y ∈ L, y.base = a) (hh : s.heap = h0) : Keep h0 t.heap [a] := by
  subst hh
  obtain ⟨-, q2, -, -, -, q6⟩ := q
  refine ⟨q2, fun x c hx hn => ?_, fun x c hx => ?_⟩
  · obtain ⟨c', r1, r2, r3, r4⟩ := q6 x c hx
    have : c'.slots = c.slots := Array.ext_getElem? fun i => r4 i fun hm => hn (by rw [← hL _ hm]; exact List.mem_singleton.mpr rfl)
    rw [r1, r2, this]
  · obtain ⟨c', r1, r2, r3, -⟩ := q6 x c hx
    exact ⟨c', r1, by rw [r2], by rw [r2], r3⟩
theorem own_untk {s t : State} {L : List Loc} {k n : Nat} {a : Addr} {h0 : Heap} (q : s.sameButNew t L k n) (hh : s.heap = h0) (N : Unt h0 a) : Unt t.heap a := by
  subst hh
  obtain ⟨-, -, -, -, -, q6⟩ := q
  obtain ⟨c, h1, h2, h3⟩ := N
  obtain ⟨c', r1, r2, -⟩ := q6 a c h1
  exact ⟨c', r1, by rw [r2]; exact h2, by rw [r2]; exact h3⟩
variable {p : Program} {l : Launch} {e : Env} {R : Room} {s : State} {m : MethodId} {args : Array Value} {below : List Frame} {meth : Method} {c : Code} {T : State} {locs : List Loc} {cells slots : Nat} {Z : State} {a0 : Array Value} {h : Heap}
set_option maxHeartbeats 4000000 in
/-- 'invokevirtual Throwable.fillInStackTrace()' in a constructor of Throwable, on an object of class rc -/
theorem own_fill (X : Stand p l e R s m args below meth c T locs cells slots) (hx : p.tables.exec = Jvm.exec) (hl : l.stackTraces = true) (hZ : Z.Warmed39 s.vm) (hown : s.vm.findClass tN = some m.cls) {rc : String} {ni : Nat} (W : ∀ d ∈ owAtoms rc, d.before a0 Z = true) (wi : (Cond.instantiable rc ni).before a0 Z = true)
    (hT0 : ThS Z s.heap) (hTK : s.vm.MethodsKnown) (hBelow : s.vm.FramesKnown below) (eT : T.heap = h) {a u0 : Addr} {sv : Value} (E : Exa Z h a rc) (N : Unt h a) (B : Fld Z h a tN "backtrace" obD .null) (F : Fld Z h a tN "stackTrace" steD (.ref u0)) (G : Fld Z h a tN "suppressedExceptions" listD sv) (S : Sta Z h tN "UNASSIGNED_STACK" steD (.ref u0))
    {g : JFrame} (hg : g.method = m) (hsize : g.locals.size = c.maxLocals) {rest : List Value} (hs : g.stack = .ref a :: rest) (hd : decode c.code g.pc = .ok (.invokevirtual 27, 3)) (hf : 2 < R.frames) {Wd : Nat} (hW : 2 * g.monitorRoom + (rest.map fun v => v.category).sum ≤ Wd) (hlo : Wd + 42 ≤ R.locals) (hce : cells + 1 ≤ R.cells) (hsl : slots + 2752 ≤ R.slots) :
    ∃ (T' : State) (L : List Loc), Stand p l e R s m args below meth c T' (locs ++ L) (cells + 1) (slots + 2752) ∧ (∀ y ∈ L, y.base = a) ∧ Exa Z T'.heap a rc ∧ Fld Z T'.heap a tN "suppressedExceptions" listD sv ∧
      ∀ target, Steps p.tables e below (T'.setTop { g with pc := g.pc + 3, stack := .ref a :: rest }) target → Steps p.tables e below (T.setTop g) target := by
  subst eT
  have w : ∀ d, d ∈ owAtoms rc → d.before args s = true := fun d hd => mvX hT0 hZ (List.all_eq_true.mp owAtoms_ok d hd) (W d hd)
  have hal : Z.vm.Alike s.vm := hZ.alike
  obtain ⟨cell, kc, h1, h2, h3, h4, h5⟩ := E
  obtain ⟨_, u1, u2, u3⟩ := N
  cases h1.symm.trans u1
  obtain ⟨_, k2, i1, i2, i3, -⟩ := Cond.instantiable_spec wi
  cases h2.symm.trans i1
  cases h3.symm.trans i2
  obtain ⟨kX, kx1, kx2⟩ := hal.2.2 _ _ h3
  have hR : s.vm.findClass rc = some cell.cls := by rw [hal.findClass]; exact h2
  have hord : kX.kind = .ordinary := by rw [kx2]; exact i3
  have hsz : cell.slots.size = kX.instanceTypes.size := by rw [kx2]; exact h5 i3
  have htr : e.platform.stackTraces = true := by rw [X.admits.platform]; exact hl
  have hpl : e.platform.magicAccessors = ({} : Platform).magicAccessors := by rw [X.admits.platform]
  obtain ⟨Q, L, q1, q2, q3, q4, q5, q6, q7, q8, q9⟩ := own_thr hR kx1 (by rw [X.admits.platform]) (by rw [X.admits.platform]) hpl w
  have fnd : ∀ {n d : String} {cf i : Nat} {k : Class} {f : Field}, Z.fieldFound? tN n d = some (cf, k, i, f) → ∃ k', s.fieldFound? tN n d = some (cf, k', i, f) ∧ k'.statics = k.statics := fun {n d cf i k f} q => by
    obtain ⟨k', r1, r2⟩ := State.fieldFound?_setVm (s := Z) (vm' := s.vm) hal q
    exact ⟨k', r1, by rw [r2]⟩
  obtain ⟨_, _, _, _, fS, s1, s2, -, -, -, -, s7⟩ := F
  cases h1.symm.trans s1
  obtain ⟨_, s3, -⟩ := fnd s2
  cases q4.symm.trans s3
  obtain ⟨_, _, _, _, fG, g1, g2, gg3, gg4, gg5, gg6, g7⟩ := G
  cases h1.symm.trans g1
  obtain ⟨_, g3, -⟩ := fnd g2
  cases q5.symm.trans g3
  obtain ⟨_, _, _, _, fB, b1, b2, -, -, -, -, b7⟩ := B
  cases h1.symm.trans b1
  obtain ⟨_, b3, -⟩ := fnd b2
  obtain ⟨_, _, kS, fU, st, cS, t1, -, -, t4, t5, t6, t7⟩ := S
  obtain ⟨_, t3, t8⟩ := fnd t1
  cases q6.symm.trans t3
  have haS : st = Q.aS := Option.some.inj (t4.symm.trans (t8.symm.trans L.statics))
  subst haS
  obtain ⟨x1, x2, x3, hk198, hg198, ha198, hsB, -, hnB, htB, hffB⟩ := Cond.ownField (C' := rc) (t := .object "java/lang/Object") q1 L.cls (by decide +kernel) (w (.fieldLink tN 198 tN "backtrace" obD) (by simp [owAtoms])) (w (.lays rc tN "backtrace" obD) (by simp [owAtoms])) e.platform hpl
  obtain rfl : fB = x3 := by have z := b3.symm.trans hffB; simp only [Option.some.injEq, Prod.mk.injEq] at z; exact z.2.2.2
  obtain ⟨_, _, cD, kD, iD, fD, -, -, hffD, hstD, -⟩ := Cond.lays_spec (w (.lays rc tN "depth" "I") (by simp [owAtoms]))
  cases (Cond.lays_declared (w (.lays rc tN "depth" "I") (by simp [owAtoms])) hffD).symm.trans q1
  obtain ⟨hkD, hatD⟩ := State.fieldFound?_spec hffD
  cases hkD.symm.trans L.cls
  obtain ⟨hnD, htD⟩ := State.fieldFound?_type hffD (t := .int) (by decide +kernel)
  have hfb := Cond.soleField_find q1 L.cls (w (.soleField tN "backtrace") (by simp [owAtoms])) ha198 hnB hsB
  have hfd := Cond.soleField_find q1 L.cls (w (.soleField tN "depth") (by simp [owAtoms])) hatD hnD hstD
  obtain ⟨comp, cO, kO, -, -, hkO, hkindO, hO⟩ := Cond.arrayOver_spec (w (.arrayOver (.object "java/lang/Object")) (by simp [owAtoms]))
  obtain ⟨tyS, dS, hdS, hdnS⟩ := Cond.laysAt hR kx1 q4 (w (.lays rc tN "stackTrace" steD) (by simp [owAtoms]))
  obtain ⟨tyP, dP, hdP, hdnP⟩ := Cond.laysAt hR kx1 q5 (w (.lays rc tN "suppressedExceptions" listD) (by simp [owAtoms]))
  obtain ⟨tyB, dB, hdB, hdnB⟩ := Cond.laysAt hR kx1 hffB (w (.lays rc tN "backtrace" obD) (by simp [owAtoms]))
  obtain ⟨tyD, dD, hdD, hdnD⟩ := Cond.laysAt hR kx1 hffD (w (.lays rc tN "depth" "I") (by simp [owAtoms]))
  have pB := Cond.laysApart hdP hdB hdnP hdnB (by rw [q9, hnB]; decide)
  have pD := Cond.laysApart hdP hdD hdnP hdnD (by rw [q9, hnD]; decide)
  have tk : ∀ {f : Field} {v : Value}, kX.instanceTypes[f.slot]? = some f.type → fits f.type v = true → Jvm.Takes s cell f v := fun {f v} r1 r2 => by
    obtain ⟨z1, z2⟩ := Takes.of_laid (v := v) kx1 hord r1 r2
    exact ⟨by rw [hsz]; simpa using z1, by rw [u2]; exact z2⟩
  have hneS : Q.aS ≠ a := fun z => by rw [z] at t5; cases h1.symm.trans t5; rw [h4] at t6; cases t6
  have hsel0 : selectMethod e.platform s.vm cell.cls Q.fill0 = .method Q.fill0 := by
    obtain ⟨c2, r2, m2, z1, z2, z3, z4, -⟩ := Cond.selects_spec (w (.selects rc tFill0 tFill0) (by simp [owAtoms]))
    cases z1.symm.trans hR
    cases z2.symm.trans (State.methodFound?_of_named q3 (by decide))
    cases z3.symm.trans q3
    rw [Launch.admits_selectMethod X.admits]; exact z4
  have hSE := w (.selects rc tFill tFill) (by simp [owAtoms])
  obtain ⟨v6, vm6, ⟨T6, L6, c6, n6⟩, hW6, X6, ⟨hv6, C6, n, hn, hD6, y1, y2, y3, y4, hL6, hc6, hn6⟩, come⟩ := X.virtualBack hx (own := tN) (C := rc) (index := 27) (y := tFill) (z := tFill) hown (w (.methodLink tN 27 tFill) (by simp [owAtoms])) (w (.declares tFill) (by simp [owAtoms])) (notFace_of_selects hSE) hSE (w (.instanceMethod tFill) (by simp [owAtoms])) (by decide)
    (fillPaysAny (l := l) (W := Wd) hx htr Q L q2 (u0 := ⟨.ref u0, rfl⟩) (self := a) (cell := cell) (cellS := cS) (fun _ => by rw [u2]; simp) (by rw [u2]; simp) (by rw [u3]) (by rw [u3]) s7 hsel0 hneS (fun z => by rw [z] at t6; cases t6) t7 (tk tyS (by rw [q7]; rfl))
      ⟨{ ci198 := x1, i198 := x2, fBack := fB }, ⟨hk198, hg198, ha198, hsB⟩, b7⟩ hTK hBelow q1 hO hkO hkindO hfb hfd
      (fun x => tk tyB (by rw [htB]; rfl)) (fun x => tk tyD (by rw [htD]; rfl)) hf hlo)
    (b := a) (cB := cell.cls) hR ⟨cell, h1, rfl, h4⟩ (g := g) hg hsize (Steps.refl _) (argsL := []) (rest := rest)
    (fun sig h => by rw [show parseMethodDescriptor tFill.desc = some ⟨[], some (.object tN)⟩ from by decide +kernel] at h; rw [← Option.some.inj h]; rfl) hs hW hd
    (fun vmx hWx => ⟨rfl, hce, hsl, h1, t5⟩)
  dsimp only [Pt.U, Pt.locs, Pt.cells, Pt.slots] at X6 hD6 hL6 hc6 hn6 come
  subst hv6 hL6 hc6 hn6
  refine ⟨T6, _, X6.more (Nat.le_refl _) (by omega), fun y hy => ?_, ⟨C6, kc, hD6, by rw [y1]; exact h2, by rw [y1]; exact h3, by rw [y2]; exact h4, fun q => by rw [y3]; exact h5 q⟩, ⟨C6, _, _, _, _, hD6, g2, gg3, by rw [y2]; exact gg4, by rw [y2]; exact gg5, by rw [y1]; exact gg6, by rw [y4 _ pB pD L.stackApartSupp.symm]; exact g7⟩, fun target q => come.trans q⟩
  simp only [List.mem_cons, List.not_mem_nil, or_false] at hy
  rcases hy with rfl | rfl | rfl <;> rfl
end OwExc
section OwSync
variable {p : Program} {l : Launch} {e : Env} {R : Room} {s : State} {m : MethodId} {args : Array Value} {below : List Frame} {meth : Method} {c : Code} {T : State} {locs : List Loc} {cells slots : Nat} {Z : State} {a0 : Array Value} {h : Heap} {EL : List (String × Nat)} {vm0 : Vm}
/-- a synchronized method returns that may have interned: the end is said of the true start -/
theorem own_leaveSW {a : Addr} {cell : Cell} {vm₁ : Vm} {n : Nat} (X : Stand p l e R ((s.setCell a (cell.withEntry s.cur)).setVm vm₁) m args below meth c T locs cells slots) (hc : s.heap[a]? = some cell) (ho : cell.enterable s.cur) (hl : meth.locks = true) (hS : s.Since vm₁ n) (hn : n ≤ T.heap.size)
    {v : Option Value} (hv : meth.sig.returnType = none → v = none) : ∃ V : State, (∀ (f : JFrame) (acts : List Action), f.method = m → f.locked = some a → f.entered = [] → (doReturn e (T.setTop f) acts v).1 = V) ∧ V.status = .running ∧ Ended V below (.returned v) ∧ Mon T.heap V.heap ∧ Keep T.heap V.heap [a] ∧ V.vm = T.vm ∧ ReturnedEndW s (.returned v) V locs cells slots := by
  have X' : Stand p l e R ((s.setVm vm₁).setCell a (cell.withEntry (s.setVm vm₁).cur)) m args below meth c T locs cells slots := X
  obtain ⟨fs, cT, hcT, hr, hrun, hend, h1, h2⟩ := X'.leaveSync (s := s.setVm vm₁) hc ho hl hv
  have hm : Mon T.heap (T.heap.setIfInBounds a cT.left) := by unfold Cell.left; split <;> exact mon_set hcT _
  have hk : Keep T.heap (T.heap.setIfInBounds a cT.left) [a] := ⟨by simp, fun x cl hx hn => by rw [Array.getElem?_setIfInBounds_ne (fun z => hn (by rw [z]; exact List.mem_singleton.mpr rfl))]; exact hx, fun x cl hx => by
    obtain ⟨mo, q⟩ := hm.2 _ _ hx
    exact ⟨_, q, rfl, rfl, rfl⟩⟩
  obtain ⟨a1, b1, c1⟩ := hS.ended (U := (T.setCell a cT.left).setFrames fs) h1 (by show n ≤ (T.heap.setIfInBounds a cT.left).size; simpa using hn) h2
  exact ⟨_, hr, hrun, hend, hm, hk, rfl, ⟨v, rfl⟩, a1, b1, c1⟩
set_option maxHeartbeats 4000000 in
/-- a synchronized callee that may intern and reads held constants, in backOfSH's shape -/
theorem own_backSync {y : MethodName} {bytes : ByteArray} {maxL : Nat} {ret : Option FieldType} {rm : Room} {len W : Nat} {as' : Array Value} {r : Addr} {Q : Option Value → Heap → List Loc → Prop}
    (hM : MetFree l y (head1 [Cond.codeSync y bytes maxL ret, Cond.instanceMethod y] rm) (fun a U => a = as' ∧ Z.Warmed39 U.vm ∧ U.heap = h ∧ CHv Z EL U.vm h ∧ ∃ cell : Cell, h[r]? = some cell ∧ cell.enterable U.cur) (fun _ _ _ _ _ => True) (fun _ U o U' => ∃ v L, o = .returned v ∧ Q v U'.heap L ∧ CHr Z EL U.vm U.heap U'.vm U'.heap ∧ ReturnedEndW U o U' L rm.cells rm.slots))
    (hZ : Z.Warmed39 vm0) (wc : (Cond.codeSync y bytes maxL ret).before a0 Z = true) (wi : (Cond.instanceMethod y).before a0 Z = true) (wz : (Cond.initialized y.cls).before a0 Z = true) (hf : rm.frames + 1 ≤ R.frames) (hl : W + (maxL + 11) + rm.locals ≤ R.locals) (hEL : EW Z a0 EL) (H : CHv Z EL vm0 h) (N : Unt h r) :
    BackS l R p e below (s.setVm vm0) args y len W (fun A a => a = as' ∧ A.U.heap = h ∧ A.cells + rm.cells ≤ R.cells ∧ A.slots + rm.slots ≤ R.slots)
      (fun A _ v B => ∃ L, Q v B.U.heap L ∧ B.locs = A.locs ++ L ∧ B.cells = A.cells + rm.cells ∧ B.slots = A.slots + rm.slots ∧ CHr Z EL vm0 h B.U.vm B.U.heap) := by
  intro m meth c A g ig mk a X hg hsize hdg hW hn hp
  obtain ⟨hp1, hp2, hp3, hp4⟩ := hp
  have hU : Z.Warmed39 A.U.vm := wtrans (s := s.setVm vm0) hZ X.warmed
  have hcv := CHv.at X hZ hEL H
  obtain ⟨U, Ls, c0, s0⟩ := A
  dsimp only [Pt.U, Pt.locs, Pt.cells, Pt.slots] at X hn hp2 hp3 hp4 hU hcv ⊢
  obtain ⟨mY, cY, hmY, hcY, -, hlY, -⟩ := Cond.codeSync_spec hn (mv hU wc (args := a))
  obtain ⟨kY, hkY, -⟩ := className_of_methodNamed hn
  have hiY : kY.init = .initialized := Cond.initialized_spec (findClass_of_methodNamed hn) hkY (mv hU wz (args := a))
  subst hg
  have hA := X.here
  have happ : (head1 [Cond.codeSync y bytes maxL ret, Cond.instanceMethod y] rm).appliesLoose y e.platform (U.calling g mk a) = true :=
    Spec.appliesLoose_calling (g := g) hA hdg hn hkY hiY (X.room_calling (g := g) (R' := rm) hsize hmY hcY hf (by rw [hlY]; omega) hp3 hp4)
      (by show (Cond.and _ (Cond.and _ .tt)).before a U = true; rw [Cond.before_and, Cond.before_and, mv hU wc, mv hU wi]; rfl)
  obtain ⟨mid, hmid⟩ := hA.above
  have hfr : (U.setTop g).frames = (.java g :: mid) ++ below := by rw [State.frames_setTop' g hA.top, hmid]; rfl
  obtain ⟨o, t, hst, -, hend, hq⟩ := Steps.callFree hM p X.admits X.cas X.clock (acts := []) hfr happ ⟨hp1, hU, hp2, hcv.1, by obtain ⟨cl, u1, -, u3⟩ := N; exact ⟨cl, u1, by rw [Cell.enterable, u3]; simp⟩⟩ trivial
  have hq' : ∃ v L, o = .returned v ∧ Q v t.heap L ∧ CHr Z EL (U.calling g mk a).vm (U.calling g mk a).heap t.vm t.heap ∧ ReturnedEndW (U.calling g mk a) o t L rm.cells rm.slots := hq
  obtain ⟨v, L, rfl, hQ, hct, hre⟩ := hq'
  rw [State.frames_setTop' g hA.top] at hend
  obtain ⟨-, hW2, hB2, e2, q2, q3, q4, q5, q6⟩ := id hre
  obtain ⟨c2, i2, len2, hc2, hd2, hf2⟩ := hend
  have hW' : U.Warmed39 t.vm := hW2
  have hcc : c2 = c := Option.some.inj (hc2.symm.trans ((by rw [State.code?_eq, State.code?_eq, hW'.alike.method?] : t.code? g.method = U.code? g.method).trans hA.code))
  subst hcc
  obtain rfl : len2 = len := by rw [hdg] at hd2; cases hd2; rfl
  obtain ⟨g0, hg0⟩ := Option.isSome_iff_exists.mp hA.top
  obtain ⟨r', hr⟩ := State.topJava?_eq_some.mp hg0
  have et : t = ({ (U.calling g mk a).setFrames t.frames with heap := t.heap, slotsUsed := t.slotsUsed } : State).setVm t.vm := by
    have z : t = ({ t with vm := (U.calling g mk a).vm } : State).setVm t.vm := rfl
    rw [e2] at z; exact z
  have ht : t = (({ U with heap := t.heap, slotsUsed := t.slotsUsed } : State).setVm t.vm).setTop { g with pc := g.pc + len2, stack := v.toList ++ g.stack } := by
    have hr' : (({ U with heap := t.heap, slotsUsed := t.slotsUsed } : State).setVm t.vm).frames = .java g0 :: r' := hr
    refine et.trans ?_
    rw [hf2, State.calling_eq hA.top, State.setFrames_setFrames, State.setTop_of_frames _ hr', hr]
    rfl
  have hsame : U.sameButNew ({ U with heap := t.heap, slotsUsed := t.slotsUsed } : State) L rm.cells rm.slots := by
    refine ⟨?_, q2, q3, q4, q5, q6⟩
    obtain ⟨tt, htt, -⟩ := State.frames_cons hr
    show ({ U with heap := t.heap, slotsUsed := t.slotsUsed } : State) = { U.setFrames U.frames with heap := t.heap, slotsUsed := t.slotsUsed }
    rw [State.setFrames_self htt]
  obtain ⟨X', hS⟩ := X.movedW (T₂ := (({ U with heap := t.heap, slotsUsed := t.slotsUsed } : State).setVm t.vm)) ((X.here.setHeapUsed t.heap t.slotsUsed).setVm hW'.alike) X.tail rfl rfl hW' hB2 hsame
  refine ⟨v, ⟨(({ U with heap := t.heap, slotsUsed := t.slotsUsed } : State).setVm t.vm), Ls ++ L, c0 + rm.cells, s0 + rm.slots⟩, X', hS, hsame.2.1, ⟨L, hQ, rfl, rfl, rfl, hcv.trans ?_⟩, ?_⟩
  · rw [← hp2]; exact hct
  · show Steps p.tables e below _ ((({ U with heap := t.heap, slotsUsed := t.slotsUsed } : State).setVm t.vm).setTop { g with pc := g.pc + len2, stack := v.toList ++ g.stack })
    rw [← ht]; exact hst
/-- 'invokevirtual' of an inherited method whose law is a BackS -/
theorem own_upS (X : Stand p l e R s m args below meth c T locs cells slots) (hx : p.tables.exec = Jvm.exec) {own C owner : String} {index : Nat} {x y : MethodName}
    (hown : s.vm.findClass own = some m.cls) (hlink : (Cond.methodLink own index x).before args s = true) (hsame : (Cond.sameMethod x.cls owner x.name x.desc).before args s = true)
    (hdecl : (Cond.declares ⟨owner, x.name, x.desc⟩).before args s = true) (howner : owner ≠ "java/lang/invoke/MethodHandle" ∧ owner ≠ "java/lang/invoke/VarHandle")
    (hsel : (Cond.selects C x y).before args s = true) (hinst : (Cond.instanceMethod y).before args s = true)
    {W : Nat} {Pre : Pt → Array Value → Prop} {Post : Pt → Array Value → Option Value → Pt → Prop} (hK : BackS l R p e below s args y 3 W Pre Post)
    {b : Addr} {cB : ClassId} (hcB : s.vm.findClass C = some cB) (hrecv : IsOf cB T b)
    {g : JFrame} (hg : g.method = m) (hsize : g.locals.size = c.maxLocals) {s₀ : State} (hcome : Steps p.tables e below s₀ (T.setTop g)) {argsL rest : List Value}
    (hlen : ∀ sig, parseMethodDescriptor x.desc = some sig → argsL.length = sig.parameters.length) (hstack : g.stack = argsL.reverse ++ .ref b :: rest) (hW : 2 * g.monitorRoom + (rest.map fun v => v.category).sum ≤ W)
    (hdg : decode c.code g.pc = .ok (.invokevirtual index, 3)) (hpre : ∀ vm₁, s.WarmedH vm₁ → Pre ⟨T.setVm vm₁, locs, cells, slots⟩ (.ref b :: argsL).toArray) :
    ∃ (v : Option Value) (vm₁ : Vm) (B : Pt), s.WarmedH vm₁ ∧ Stand p l e R (s.setVm B.U.vm) m args below meth c B.U B.locs B.cells B.slots ∧ s.Since B.U.vm B.U.heap.size ∧ T.heap.size ≤ B.U.heap.size ∧ Post ⟨T.setVm vm₁, locs, cells, slots⟩ (.ref b :: argsL).toArray v B ∧
      Steps p.tables e below s₀ (B.U.setTop { g with pc := g.pc + 3, stack := v.toList ++ rest }) := by
  obtain ⟨cl, k1, k2, k3⟩ := hrecv
  obtain ⟨r0, r, n1, n2, n3, n4⟩ := Cond.declares_spec hdecl
  obtain ⟨_, _, r1, -, -, -, f1, f2⟩ := Cond.sameMethod_found hsame
  cases n1.symm.trans f2
  obtain ⟨mk, mM, i1, i2, -, i4⟩ := Cond.instanceMethod_spec hinst
  obtain ⟨_, _, _, q1, q2, q3, q4, kP, q5, q6⟩ := Cond.selects_spec hsel
  cases hcB.symm.trans q1
  cases f1.symm.trans q2
  cases i1.symm.trans q3
  obtain ⟨vm₁, X₁, st₁⟩ := X.invokevirtualUp hx hown hlink hsame howner n1 n2 n3 (a := b) (cell := cl) k1 (fun z q => by rw [q] at k3; cases k3) (by rw [Launch.admits_selectMethod X.admits, k2]; exact q4) i2 i4 q5 q6 (g := g) hg (argsL := argsL) (rest := rest) (hlen _ n4) hstack hdg
  obtain ⟨v, B, X', hS, hgr, hpost, hsteps⟩ := hK m meth c ⟨T.setVm vm₁, locs, cells, slots⟩ { g with stack := rest } (.invokevirtual index) mk (.ref b :: argsL).toArray X₁ hg hsize hdg hW (X₁.named i1) (hpre vm₁ X₁.warmed)
  exact ⟨v, vm₁, B, X₁.warmed, X', hS, hgr, hpost, (hcome.trans (st₁ _ fun acts => by rw [doInvoke_state]; exact Steps.refl _)).trans hsteps⟩
end OwSync
section OwSmall
variable {p : Program} {l : Launch} {e : Env} {R : Room} {s : State} {m : MethodId} {args : Array Value} {below : List Frame} {meth : Method} {c : Code} {T : State} {locs : List Loc} {cells slots : Nat} {Z : State} {a0 : Array Value} {h h' : Heap} {a b : Addr} {k : ClassId} {z : Int32}
theorem own_decl {y : MethodName} {bytes : ByteArray} {maxL : Nat} {ret : Option FieldType} (wi : (Cond.instanceMethod y).before args s = true) (wc : (Cond.code y bytes maxL ret).before args s = true) : (Cond.declares y).before args s = true := by
  obtain ⟨r, mt, h1, h2, h3, -⟩ := Cond.instanceMethod_spec wi
  obtain ⟨mt', _, h4, -, -, -, -, -, -, h5⟩ := Cond.code_spec h1 wc
  cases h2.symm.trans h4
  simp [Cond.before, Cond.holds, Cond.value, h1, h2, h3, h5]
theorem own_nf {C : String} {y q : MethodName} (w : (Cond.selects C q q).before args s = true) (hc : q.cls = y.cls) : NotFace s y := fun r0 h0 => by
  obtain ⟨_, _, m2, -, -, q3, -, kP, h5, h6⟩ := Cond.selects_spec w
  have e1 := findClass_of_methodNamed h0
  have e2 := findClass_of_methodNamed q3
  rw [hc] at e2
  have : r0.cls = m2.cls := Option.some.inj (e1.symm.trans e2)
  exact ⟨kP, by rw [this]; exact h5, h6⟩
theorem own_same {C : String} {y q : MethodName} (w : (Cond.selects C q q).before args s = true) (hc : q.cls = y.cls) (hy : y.cls ≠ "java/lang/invoke/MethodHandle" ∧ y.cls ≠ "java/lang/invoke/VarHandle") (wd : (Cond.declares y).before args s = true) : (Cond.sameMethod y.cls y.cls y.name y.desc).before args s = true := by
  obtain ⟨r0, r, h1, h2, h3, h4⟩ := Cond.declares_spec wd
  obtain ⟨kr, h5, h6⟩ := own_nf w hc r0 h1
  have e1 := findClass_of_methodNamed h1
  have e2 := State.methodFound?_of_named h1 hy
  have h1' : s.methodNamed? ⟨y.cls, y.name, y.desc⟩ = some r0 := h1
  simp [Cond.before, Cond.holds, Cond.value, e1, e2, h1', h5, h6]
/-- a byte array of this length: what it holds isn't said -/
def owB (Z : State) (h : Heap) (a : Addr) (k : ClassId) (z : Int32) : Prop := ∃ vs : List Value, z.toNatClampNeg ≤ vs.length ∧ Arv Z h a k .byte z vs (.int 0)
theorem owB.ext (F : owB Z h a k z) (E : Ext h h') : owB Z h' a k z := by obtain ⟨vs, q, A⟩ := F; exact ⟨vs, q, A.ext E⟩
theorem owB.other {sl : Nat} {v : Value} (F : owB Z h b k z) (W : Wr h h' a sl v) (q : b ≠ a) : owB Z h' b k z := by obtain ⟨vs, q', A⟩ := F; exact ⟨vs, q', A.other W q⟩
theorem owB.keep {ws : List Addr} (F : owB Z h a k z) (K : Keep h h' ws) (q : a ∉ ws) : owB Z h' a k z := by obtain ⟨vs, q', A⟩ := F; exact ⟨vs, q', A.keep K q⟩
theorem owB.lt (F : owB Z h a k z) : a < h.size := by obtain ⟨vs, q', A⟩ := F; exact A.lt
theorem owB.new (A : Arr Z h a (newA k .byte z) .byte) (q : ¬ z < 0) : owB Z h a k z :=
  ⟨[] ++ List.replicate z.toNatClampNeg (.int 0), by simp, Arv.pad (Arv.new A q) (pad_rep [] (.int 0) z.toNatClampNeg)⟩
theorem owB.of {vs : List Value} (A : Arv Z h a k .byte z vs (.int 0)) (q : z.toNatClampNeg ≤ vs.length) : owB Z h a k z := ⟨vs, q, A⟩
theorem owB.arr (F : owB Z h a k z) : ∃ cl : Cell, Arr Z h a cl .byte ∧ cl.slots.size = z.toNatClampNeg ∧ ¬ z < 0 := by obtain ⟨vs, -, cl, A, -, S, N, -⟩ := F; exact ⟨cl, A, S, N⟩
theorem own_neA {cl : Cell} {ty : FieldType} {C : String} {n : Nat} (A : Arr Z h a cl ty) (E : Exa Z h b C) (wi : (Cond.instantiable C n).before a0 Z = true) : a ≠ b := fun q => by
  subst q
  obtain ⟨c2, k2, h1, h2, h3, -⟩ := E
  cases A.1.symm.trans h1
  obtain ⟨-, k3, h4, comp, h5⟩ := A.2.1
  obtain ⟨_, k4, i1, i2, i3, -⟩ := Cond.instantiable_spec wi
  cases h2.symm.trans i1
  cases h4.symm.trans i2
  rw [i3] at h5; cases h5
theorem owB.ne {C : String} {n : Nat} (F : owB Z h a k z) (E : Exa Z h b C) (wi : (Cond.instantiable C n).before a0 Z = true) : a ≠ b := by obtain ⟨cl, A, -⟩ := F.arr; exact own_neA A E wi
theorem own_cpB (X : Stand p l e R s m args below meth c T locs cells slots) (hx : p.tables.exec = Jvm.exec) (hZ : Z.Warmed39 s.vm) {own : String} {index : Nat} (hown : s.vm.findClass own = some m.cls)
    (w1 : (Cond.methodLink own index Jvm.Stand.acN).before a0 Z = true) (w2 : (Cond.native Jvm.Stand.acN).before a0 Z = true) (w3 : (Cond.static Jvm.Stand.acN).before a0 Z = true) (w4 : (Cond.initialized "java/lang/System").before a0 Z = true) (eT : T.heap = h)
    {k' : ClassId} {z' sp dp nn : Int32} (A : owB Z h a k z) (B : owB Z h b k' z')
    (h1 : ¬ sp < 0) (h2 : ¬ dp < 0) (h3 : ¬ nn < 0) (h4 : sp.toNatClampNeg + nn.toNatClampNeg ≤ z.toNatClampNeg) (h5 : dp.toNatClampNeg + nn.toNatClampNeg ≤ z'.toNatClampNeg) {n0 : Nat} (N : Fr n0 locs) (ge : n0 ≤ b)
    {g : JFrame} (hg : g.method = m) (hsize : g.locals.size = c.maxLocals) {rest : List Value} (hs : g.stack = .int nn :: .int dp :: .ref b :: .int sp :: .ref a :: rest) (hd : decode c.code g.pc = .ok (.invokestatic index, 3))
    (hf : 1 ≤ R.frames) {W : Nat} (hW : 2 * g.monitorRoom + (rest.map fun v => v.category).sum ≤ W) (hlo : W + (nativeFrameWords "java/lang/System" "arraycopy" 5 + 11) ≤ R.locals) :
    ∃ T' h' L, Stand p l e R s m args below meth c T' L cells slots ∧ T'.heap = h' ∧ Fr n0 L ∧ Keep h h' [b] ∧ owB Z h' b k' z' ∧
      ∀ target, Steps p.tables e below (T'.setTop { g with pc := g.pc + 3, stack := rest }) target → Steps p.tables e below (T.setTop g) target := by
  obtain ⟨vs, q1, A'⟩ := A
  obtain ⟨vd, q2, B'⟩ := B
  obtain ⟨T', h', L, X', e', N', K', V', st⟩ := cpA X hx hZ hown w1 w2 w3 w4 eT A' B' (Or.inl ⟨rfl, rfl⟩) h1 h2 h3 h4 h5 rfl (by omega) N ge hg hsize hs hd hf hW hlo
  exact ⟨T', h', L, X', e', N', K', ⟨_, by simp; omega, V'⟩, st⟩
/-- the class object of an array's class -/
def owM (Z : State) (C : String) (mr : Addr) : Prop := ∃ (c : ClassId) (k : Class), Z.vm.findClass C = some c ∧ Z.vm.classes[c]? = some k ∧ k.mirror = some mr
theorem own_gcls (X : Stand p l e R s m args below meth c T locs cells slots) (hx : p.tables.exec = Jvm.exec) (hZ : Z.Warmed39 s.vm) {own C : String} {index : Nat} (hown : s.vm.findClass own = some m.cls)
    (w1 : (Cond.methodLink own index Jvm.Stand.gcN).before a0 Z = true) (w2 : (Cond.declares Jvm.Stand.gcN).before a0 Z = true) (w4 : (Cond.selects C Jvm.Stand.gcN Jvm.Stand.gcN).before a0 Z = true)
    (w5 : (Cond.instanceMethod Jvm.Stand.gcN).before a0 Z = true) (w6 : (Cond.native Jvm.Stand.gcN).before a0 Z = true) (eT : T.heap = h) (E : Exa Z h a C) {mr : Addr} (M : owM Z C mr)
    {g : JFrame} (hg : g.method = m) (hsize : g.locals.size = c.maxLocals) {rest : List Value} (hs : g.stack = .ref a :: rest) (hd : decode c.code g.pc = .ok (.invokevirtual index, 3)) (hf : 1 ≤ R.frames) {W : Nat} (hW : 2 * g.monitorRoom + (rest.map fun v => v.category).sum ≤ W) (hl : W + (nativeFrameWords "java/lang/Object" "getClass" 1 + 11) ≤ R.locals) :
    ∃ T', Stand p l e R s m args below meth c T' locs cells slots ∧ T'.heap = h ∧ ∀ target, Steps p.tables e below (T'.setTop { g with pc := g.pc + 3, stack := .ref mr :: rest }) target → Steps p.tables e below (T.setTop g) target := by
  obtain ⟨cB, kB, i1, i2, i3⟩ := isOf hZ eT E
  obtain ⟨cc, kc, m1, m2, m3⟩ := M
  rw [hZ.alike.findClass] at i1
  cases i1.symm.trans m1
  obtain ⟨k', q, ek⟩ := hZ.alike.2.2 _ _ m2
  have w4' : (Cond.selects C Jvm.Stand.gcN Jvm.Stand.gcN).before args s = true := mvT hZ w4
  obtain ⟨vm', X', st⟩ := X.getClassOf hx hown (mvT hZ w1) (mvT hZ w2) (notFace_of_selects w4') w4' (mvT hZ w5) (mvT hZ w6) (by rw [hZ.alike.findClass]; exact m1) i3 q (by rw [ek]; exact m3) hg hsize hs hd hf (by omega)
  exact ⟨_, X', eT, st⟩
theorem own_ldcM (X : Stand p l e R s m args below meth c T locs cells slots) (hx : p.tables.exec = Jvm.exec) (hZ : Z.Warmed39 s.vm) {own C : String} {index : Nat} (hown : s.vm.findClass own = some m.cls) (w : (Cond.classLink own index C).before a0 Z = true) (eT : T.heap = h) {mr : Addr} (M : owM Z C mr)
    {g : JFrame} (hg : g.method = m) (hd : decode c.code g.pc = .ok (.ldc index, 2)) :
    ∃ T', Stand p l e R s m args below meth c T' locs cells slots ∧ T'.heap = h ∧ ∀ target, Steps p.tables e below (T'.setTop { g with pc := g.pc + 2, stack := .ref mr :: g.stack }) target → Steps p.tables e below (T.setTop g) target := by
  obtain ⟨cc, kc, m1, m2, m3⟩ := M
  obtain ⟨k', q, ek⟩ := hZ.alike.2.2 _ _ m2
  have c1 : s.vm.findClass C = some cc := by rw [hZ.alike.findClass]; exact m1
  have mk : k'.mirror = some mr := by rw [ek]; exact m3
  obtain ⟨vm', X', st⟩ := X.ldcMirror hx hown (mvT hZ w) (a := mr) (by simp [Term.eval, c1, q, mk]) hg hd
  exact ⟨_, X', eT, st⟩
theorem own_neV {ty : FieldType} {vs : List Value} {dv : Value} {C : String} {n : Nat} (F : Arv Z h a k ty z vs dv) (E : Exa Z h b C) (wi : (Cond.instantiable C n).before a0 Z = true) : a ≠ b := by obtain ⟨cl, A, -⟩ := F; exact own_neA A E wi
end OwSmall
section OwThree
variable {Z : State} {a0 : Array Value} {h h' : Heap} {a : Addr}
theorem own_since {s : State} {x : Cell} {vm : Vm} {n : Nat} (q : (s.setCell a x).Since vm n) : s.Since vm n := ⟨q.1, fun j p h1 h2 => by
  have := q.2 j p h1 h2
  simpa [State.setCell] using this⟩
theorem own_keepset {cl cl' : Cell} (hc : h[a]? = some cl) (h1 : cl'.cls = cl.cls) (h2 : cl'.vm = cl.vm) (h3 : cl'.slots = cl.slots) : Keep h (h.setIfInBounds a cl') [a] := ⟨by simp, fun x c hx hn => by rw [Array.getElem?_setIfInBounds_ne (fun z => hn (by rw [z]; exact List.mem_singleton.mpr rfl))]; exact hx, fun x c hx => by
  by_cases z : a = x
  · subst z; cases hc.symm.trans hx
    exact ⟨cl', by rw [Array.getElem?_setIfInBounds_self_of_lt (Array.getElem?_eq_some_iff.mp hc).1], h1, h2, by rw [h3]⟩
  · exact ⟨c, by rw [Array.getElem?_setIfInBounds_ne z]; exact hx, rfl, rfl, rfl⟩⟩
theorem own_kw {ws ws' : List Addr} (K : Keep h h' ws) (q : ∀ x ∈ ws, x ∈ ws') : Keep h h' ws' := (Keep.refl h ws').trans K fun x hx => Or.inl (q x hx)
end OwThree
end Jvm.RoadKit
namespace Jvm.Pilot.@@N@@
open Jvm Jvm.ClassFile Sem Op Lib Jvm.Free Jvm.Stand Jvm.LawKit Jvm.RoadKit Bundle Jvm.Free.SB Jvm.Free.SBG Jvm.Free.Exc Jvm.Pilot.@@N@@.Jvm.D
/-- a body's contract: from these arguments and this heap it returns, and Q says what it leaves -/
abbrev OwCon (l : Launch) (y : MethodName) (bytes : ByteArray) (ml : Nat) (ret : Option FieldType) (ws : List Jvm.Cond) (rm : Room) (as : Array Value) (Z : State) (h0 : Heap) (Q : Option Value → Heap → List Loc → Prop) : Prop :=
  MetFree l y (head1 (Jvm.Cond.code y bytes ml ret :: ws) rm) (fun a U => a = as ∧ Z.Warmed39 U.vm ∧ U.heap = h0) (fun _ _ _ _ _ => True) (fun _ U o U' => ∃ v L, o = .returned v ∧ Q v U'.heap L ∧ FrameEnd U o U' L rm.cells rm.slots)
/-- .. it may load literals that nobody loaded before -/
abbrev OwConW (l : Launch) (y : MethodName) (bytes : ByteArray) (ml : Nat) (ret : Option FieldType) (ws : List Jvm.Cond) (rm : Room) (as : Array Value) (Z : State) (h0 : Heap) (Q : Option Value → Heap → List Loc → Prop) : Prop :=
  MetFree l y (head1 (Jvm.Cond.code y bytes ml ret :: ws) rm) (fun a U => a = as ∧ Z.Warmed39 U.vm ∧ U.heap = h0) (fun _ _ _ _ _ => True) (fun _ U o U' => ∃ v L, o = .returned v ∧ Q v U'.heap L ∧ ReturnedEndW U o U' L rm.cells rm.slots)
/-- .. and read some that are held -/
abbrev OwConH (l : Launch) (y : MethodName) (bytes : ByteArray) (ml : Nat) (ret : Option FieldType) (ws : List Jvm.Cond) (rm : Room) (as : Array Value) (Z : State) (h0 : Heap) (EL : List (String × Nat)) (Q : Option Value → Heap → List Loc → Prop) : Prop :=
  MetFree l y (head1 (Jvm.Cond.code y bytes ml ret :: ws) rm) (fun a U => a = as ∧ Z.Warmed39 U.vm ∧ U.heap = h0 ∧ CHv Z EL U.vm h0) (fun _ _ _ _ _ => True) (fun _ U o U' => ∃ v L, o = .returned v ∧ Q v U'.heap L ∧ CHr Z EL U.vm U.heap U'.vm U'.heap ∧ ReturnedEndW U o U' L rm.cells rm.slots)
/-- .. a stack trace may be filled in beneath it -/
abbrev OwConK (l : Launch) (y : MethodName) (bytes : ByteArray) (ml : Nat) (ret : Option FieldType) (ws : List Jvm.Cond) (rm : Room) (as : Array Value) (Z : State) (h0 : Heap) (Q : Option Value → Heap → List Loc → Prop) : Prop :=
  MetFree l y (head1 (Jvm.Cond.code y bytes ml ret :: ws) rm) (fun a U => a = as ∧ Z.Warmed39 U.vm ∧ U.heap = h0) (fun _ _ bl s _ => s.vm.MethodsKnown ∧ s.vm.FramesKnown bl) (fun _ U o U' => ∃ v L, o = .returned v ∧ Q v U'.heap L ∧ FrameEnd U o U' L rm.cells rm.slots)
abbrev OwConHK (l : Launch) (y : MethodName) (bytes : ByteArray) (ml : Nat) (ret : Option FieldType) (ws : List Jvm.Cond) (rm : Room) (as : Array Value) (Z : State) (h0 : Heap) (EL : List (String × Nat)) (Q : Option Value → Heap → List Loc → Prop) : Prop :=
  MetFree l y (head1 (Jvm.Cond.code y bytes ml ret :: ws) rm) (fun a U => a = as ∧ Z.Warmed39 U.vm ∧ U.heap = h0 ∧ CHv Z EL U.vm h0) (fun _ _ _ s _ => framesKnown s = true ∧ tablesKnown s = true) (fun _ U o U' => ∃ v L, o = .returned v ∧ Q v U'.heap L ∧ CHr Z EL U.vm U.heap U'.vm U'.heap ∧ ReturnedEndW U o U' L rm.cells rm.slots)
/-- it returns val and leaves the heap as it was -/
def OwQ (val : Option Value) (h0 : Heap) (n0 : Nat) (v : Option Value) (h : Heap) (L : List Loc) : Prop := v = val ∧ Fr n0 L ∧ h = h0
/-- it writes nothing old, and P holds of what it returns and leaves -/
def OwP (P : Option Value → Heap → Prop) (n0 : Nat) (v : Option Value) (h : Heap) (L : List Loc) : Prop := Fr n0 L ∧ P v h
theorem own_eqI {args : Array Value} {s : State} {t : Term} {k : Int32} (h : (Jvm.Cond.eq t (.int k)).value args s none s [] = some true) : t.eval args s none [] s = some (.int k) := by
  obtain ⟨x, y, h1, h2, -, q⟩ := cmp_v (Or.inl h)
  cases h2
  obtain ⟨z, rfl⟩ := q
  rw [h1]; simp [Cond.value, h1, Term.eval] at h; rw [h]
theorem own_eqJ {args : Array Value} {s : State} {t : Term} {k : Int64} (h : (Jvm.Cond.eq t (.long k)).value args s none s [] = some true) : t.eval args s none [] s = some (.long k) := by
  obtain ⟨x, y, h1, h2, -, q⟩ := cmp_v (Or.inl h)
  cases h2
  obtain ⟨z, rfl⟩ := q
  rw [h1]; simp [Cond.value, h1, Term.eval] at h; rw [h]
theorem own_eqR {args : Array Value} {s : State} {t t' : Term} {a : Addr} (h : (Jvm.Cond.eq t t').value args s none s [] = some true) (e : t'.eval args s none [] s = some (.ref a)) : t.eval args s none [] s = some (.ref a) := by
  obtain ⟨x, y, h1, h2, q, -⟩ := cmp_v (Or.inl h)
  cases e.symm.trans h2
  cases x with
  | null => simp [Cond.value, h1, h2] at h
  | ref b => simp [Cond.value, h1, h2] at h; rw [h1, h]
  | _ => simp [Kin, Value.isRef] at q
theorem own_retB {p : Program} {l : Launch} {e : Env} {R : Room} {s : State} {m : MethodId} {args : Array Value} {below : List Frame} {meth : Method} {c : Code} {T : State} {locs : List Loc} {cells slots : Nat} (X : Stand p l e R s m args below meth c T locs cells slots) (hx : p.tables.exec = Jvm.exec) {pc : Nat} {Ls : Array Slot} {z w : Int32} {t : FieldType} {rest : List Value} (hret : meth.sig.returnType = some t) (ht : t = .boolean ∨ t = .byte ∨ t = .char ∨ t = .short)
    (hd : decode c.code pc = .ok (.ireturn, 1)) (q : nar t z = w) {fs : List Frame} (hl : ∀ (f : JFrame) (acts : List Action), f.method = m → f.locked = none → f.entered = [] → (doReturn e (T.setTop f) acts (some (.int w))).1 = T.setFrames fs) : Steps p.tables e below (T.setTop (mkF m pc Ls (.int z :: rest))) (T.setFrames fs) := by
  subst q; exact retN X hx hret ht hd hl
theorem own_neI {args : Array Value} {s : State} {t : Term} {k x : Int32} (h : (Jvm.Cond.not (Jvm.Cond.eq t (.int k))).value args s none s [] = some true) (e : t.eval args s none [] s = some (.int x)) : ¬ x = k := by
  have q := not_v h
  simpa [Cond.value, e, Term.eval] using q
theorem own_cat {v : Value} (h : v.isRef = true) : v.category = 1 := by rcases ref_cases h with rfl | ⟨a, rfl⟩ <;> rfl
theorem own_len {args : Array Value} {s : State} {t : Term} {a : Addr} {cl : Cell} {ty : FieldType} {n : Int32} (e : t.eval args s none [] s = some (.ref a)) (A : Arr s s.heap a cl ty) (h : (Term.length t).eval args s none [] s = some (.int n)) : cl.slots.size < 2 ^ 31 ∧ cl.slots.size.toInt32 = n := by
  have q := Arr.fin (Vm.Alike.refl _) A
  simpa [Term.eval, e, q] using h
theorem own_el {args : Array Value} {s : State} {t : Term} {a : Addr} {cl : Cell} {ty : FieldType} {j : Int32} {v : Value} (e : t.eval args s none [] s = some (.ref a)) (A : Arr s s.heap a cl ty) (h : (Term.elem t (.int j)).eval args s none [] s = some v) : cl.slots[j.toNatClampNeg]? = some v := (elem_in h e rfl A.1).2
theorem own_fld {args : Array Value} {s : State} {t : Term} {a : Addr} {C n d : String} {v : Value} (e : t.eval args s none [] s = some (.ref a)) (h : (Term.field t C n d).eval args s none [] s = some v) : Fld s s.heap a C n d v := Fld.start ((fld_at e).symm.trans h)
abbrev rM (a b c d : Nat) : Room := { frames := a, cells := b, slots := c, locals := d }
abbrev OwHw (Z : State) (a0 : Array Value) : Prop := ∀ d ∈ tables_1, d.before a0 Z = true
abbrev yy0 : MethodName := ⟨"com/example/portable_transactions/portabletransactions/transaction/UnitEnding", "<init>", "(Z)V"⟩
abbrev yy1 : MethodName := ⟨"com/example/portable_transactions/portabletransactions/transaction/UnitEnding", "commitFailed", "(Ljava/lang/Exception;Z)V"⟩
abbrev yy2 : MethodName := ⟨"com/example/portable_transactions/portabletransactions/transaction/UnitEnding", "commitFailedUntold", "(Ljava/lang/Exception;)V"⟩
abbrev yy3 : MethodName := ⟨"com/example/portable_transactions/portabletransactions/transaction/UnitEnding", "isSettled", "()Z"⟩
abbrev yy4 : MethodName := ⟨"com/example/portable_transactions/portabletransactions/transaction/UnitEnding", "releaseFailed", "(Ljava/lang/Exception;Ljava/lang/String;)V"⟩
abbrev yy5 : MethodName := ⟨"com/example/portable_transactions/portabletransactions/transaction/UnitEnding", "rollbackFailed", "(Ljava/lang/Exception;)V"⟩
abbrev yy6 : MethodName := ⟨"com/example/portable_transactions/portabletransactions/transaction/UnitEndingIsSettledPinLaw", "apply", "(Lcom/example/portable_transactions/portabletransactions/transaction/UnitEnding;ILjava/lang/Exception;)V"⟩
abbrev yy7 : MethodName := ⟨"com/example/portable_transactions/portabletransactions/transaction/UnitEndingIsSettledPinLaw", "expect", "(IZ)Z"⟩
abbrev yy8 : MethodName := ⟨"java/lang/AbstractStringBuilder", "<init>", "(I)V"⟩
abbrev yy9 : MethodName := ⟨"java/lang/AbstractStringBuilder", "append", "(Ljava/lang/String;)Ljava/lang/AbstractStringBuilder;"⟩
abbrev yy10 : MethodName := ⟨"java/lang/AbstractStringBuilder", "ensureCapacityInternal", "(I)V"⟩
abbrev yy11 : MethodName := ⟨"java/lang/AbstractStringBuilder", "getValue", "()[B"⟩
abbrev yy12 : MethodName := ⟨"java/lang/AbstractStringBuilder", "inflateIfNeededFor", "(Ljava/lang/String;)V"⟩
abbrev yy13 : MethodName := ⟨"java/lang/AbstractStringBuilder", "isLatin1", "()Z"⟩
abbrev yy14 : MethodName := ⟨"java/lang/AbstractStringBuilder", "length", "()I"⟩
abbrev yy15 : MethodName := ⟨"java/lang/AbstractStringBuilder", "newCapacity", "(I)I"⟩
abbrev yy16 : MethodName := ⟨"java/lang/AbstractStringBuilder", "putStringAt", "(ILjava/lang/String;)V"⟩
abbrev yy17 : MethodName := ⟨"java/lang/Exception", "<init>", "()V"⟩
abbrev yy18 : MethodName := ⟨"java/lang/Exception", "addSuppressed", "(Ljava/lang/Throwable;)V"⟩
abbrev yy19 : MethodName := ⟨"java/lang/Math", "max", "(II)I"⟩
abbrev yy20 : MethodName := ⟨"java/lang/Math", "min", "(II)I"⟩
abbrev yy21 : MethodName := ⟨"java/lang/String", "<init>", "(Ljava/lang/AbstractStringBuilder;Ljava/lang/Void;)V"⟩
abbrev yy22 : MethodName := ⟨"java/lang/String", "<init>", "(Ljava/lang/StringBuilder;)V"⟩
abbrev yy23 : MethodName := ⟨"java/lang/String", "coder", "()B"⟩
abbrev yy24 : MethodName := ⟨"java/lang/String", "getBytes", "([BIB)V"⟩
abbrev yy25 : MethodName := ⟨"java/lang/String", "length", "()I"⟩
abbrev yy26 : MethodName := ⟨"java/lang/StringBuilder", "<init>", "()V"⟩
abbrev yy27 : MethodName := ⟨"java/lang/StringBuilder", "append", "(Ljava/lang/String;)Ljava/lang/StringBuilder;"⟩
abbrev yy28 : MethodName := ⟨"java/lang/StringBuilder", "length", "()I"⟩
abbrev yy29 : MethodName := ⟨"java/lang/StringBuilder", "toString", "()Ljava/lang/String;"⟩
abbrev yy30 : MethodName := ⟨"java/lang/Throwable", "<init>", "()V"⟩
abbrev yy31 : MethodName := ⟨"java/lang/Throwable", "addSuppressed", "(Ljava/lang/Throwable;)V"⟩
abbrev yy32 : MethodName := ⟨"java/util/AbstractCollection", "<init>", "()V"⟩
abbrev yy33 : MethodName := ⟨"java/util/AbstractList", "<init>", "()V"⟩
abbrev yy34 : MethodName := ⟨"java/util/ArrayList", "<init>", "(I)V"⟩
abbrev yy35 : MethodName := ⟨"java/util/ArrayList", "add", "(Ljava/lang/Object;)Z"⟩
abbrev yy36 : MethodName := ⟨"java/util/ArrayList", "add", "(Ljava/lang/Object;[Ljava/lang/Object;I)V"⟩
abbrev yy37 : MethodName := ⟨"java/util/ArrayList", "grow", "()[Ljava/lang/Object;"⟩
abbrev yy38 : MethodName := ⟨"java/util/ArrayList", "grow", "(I)[Ljava/lang/Object;"⟩
abbrev yy39 : MethodName := ⟨"java/util/Arrays", "checkLength", "(II)V"⟩
abbrev yy40 : MethodName := ⟨"java/util/Arrays", "copyOf", "([BI)[B"⟩
abbrev yy41 : MethodName := ⟨"java/util/Arrays", "copyOf", "([Ljava/lang/Object;I)[Ljava/lang/Object;"⟩
abbrev yy42 : MethodName := ⟨"java/util/Arrays", "copyOf", "([Ljava/lang/Object;ILjava/lang/Class;)[Ljava/lang/Object;"⟩
abbrev yy43 : MethodName := ⟨"java/util/Arrays", "copyOfRange", "([BII)[B"⟩
abbrev yy44 : MethodName := ⟨"java/util/Arrays", "copyOfRangeByte", "([BII)[B"⟩
abbrev yy45 : MethodName := ⟨"java/util/List", "add", "(Ljava/lang/Object;)Z"⟩
abbrev yy46 : MethodName := ⟨"java/util/Objects", "requireNonNull", "(Ljava/lang/Object;Ljava/lang/String;)Ljava/lang/Object;"⟩
abbrev yy47 : MethodName := ⟨"jdk/internal/util/ArraysSupport", "newLength", "(III)I"⟩
abbrev zs6 : String := "[Ljava/lang/Object;"
abbrev zs9 : String := "com/example/portable_transactions/portabletransactions/transaction/UnitEnding"
abbrev zs10 : String := "com/example/portable_transactions/portabletransactions/transaction/UnitEnding$Work"
abbrev zs14 : String := "java/lang/AbstractStringBuilder"
abbrev zs15 : String := "java/lang/Exception"
abbrev zs16 : String := "java/lang/Object"
abbrev zs18 : String := "java/lang/String"
abbrev zs19 : String := "java/lang/StringBuilder"
abbrev zs20 : String := "java/lang/Throwable"
abbrev zs21 : String := "java/util/AbstractList"
abbrev zs22 : String := "java/util/ArrayList"
theorem own_hi {Z : State} {a0 : Array Value} (hw : ∀ d ∈ tables_1, d.before a0 Z = true) (i : Nat) {d : Jvm.Cond} (h : tables_1[i]? = some d) : d.before a0 Z = true := hw d (List.mem_of_getElem? h)
abbrev vR (a : Addr) : Slot := .val (.ref a)
abbrev vI (z : Int32) : Slot := .val (.int z)
abbrev OwG (p : Program) (e : Env) (below : List Frame) (T : State) (m : MethodId) (pc : Nat) (Ls : Array Slot) (st : List Value) (t : State) : Prop := Steps p.tables e below (T.setTop (mkF m pc Ls st)) t
section LdcW
variable {p : Program} {l : Launch} {e : Env} {R : Room} {s : State} {m : MethodId} {args : Array Value} {below : List Frame} {meth : Method} {c : Code} {T : State} {locs : List Loc} {cells slots : Nat}
set_option maxHeartbeats 4000000 in
/-- 'ldc_w' of a String constant, whoever loaded it before: what the tables and the heap come to, and, where the String is made here, what it spells -/
theorem own_ldcwN (X : Stand p l e R s m args below meth c T locs cells slots) (hexec : p.tables.exec = Jvm.exec) {own text : String} {index : Nat} (hown : s.vm.findClass own = some m.cls)
    (hlink : (Jvm.Cond.stringLink own index text).before args s = true) (hS : ∀ a ∈ Bundle.stringAtoms, a.before args s = true)
    {g : JFrame} (hg : g.method = m) (hdg : decode c.code g.pc = .ok (.ldc_w index, 3)) {n : Nat} (hn : 4 * text.toList.length ≤ n) (hbig : n ≤ 536870912)
    (hc2 : cells + 2 ≤ R.cells) (hs2 : slots + (n + 4) ≤ R.slots) :
    ∃ (a : Addr) (T₂ : State), Stand p l e R (s.setVm T₂.vm) m args below meth c T₂ locs (cells + 2) (slots + (n + 4)) ∧ s.Since T₂.vm T₂.heap.size ∧
      (∃ k₂, T₂.vm.classes[m.cls]? = some k₂ ∧ k₂.resolved[index]? = some (some (.string a))) ∧ (∀ b, b < T.heap.size → T₂.heap[b]? = T.heap[b]?) ∧ T.Warmed39 T₂.vm ∧
      (T₂.vm.interned = T.vm.interned ∨ ∃ units : Array UInt16, utf16ToString? units = some text ∧ T₂.vm.interned = T.vm.interned.push (units, a) ∧ T.vm.interned.find? (fun q => q.1 == units) = none ∧ (units.all (· < 256) = true → SlIn 0 T.heap.size T₂ a units)) ∧
      ∀ target, Steps p.tables e below (T₂.setTop { g with pc := g.pc + 3, stack := .ref a :: g.stack }) target → Steps p.tables e below (T.setTop g) target := by
  have hWT : s.Warmed39 T.vm := X.warmed.wide
  have hownT : (s.setVm T.vm).vm.findClass own = some m.cls := by rw [show (s.setVm T.vm).vm = T.vm from rfl, hWT.alike.findClass]; exact hown
  obtain ⟨k, cf, i, units, hk, hcf, hpc, hpu, hnm, hdec, hres⟩ := Cond.stringLink_spec hownT (Cond.stringLink_warmed39 hWT hlink)
  have hkT : T.vm.classes[m.cls]? = some k := hk
  have n2 : (k.cf.bind fun x => namesOf? x.constantPool index) = some (.string text) := by rw [hcf]; exact hnm
  have n3 : (k.cf.bind fun x => x.constantPool[index]?) = some (.string i) := by rw [hcf]; exact hpc
  have n4 : (k.cf.bind fun x => x.constantPool.utf8? i) = some units := by rw [hcf]; simp [ConstantPool.utf8?, hpu]
  subst hg
  rcases hres with hopen | ⟨a, hr⟩
  · cases hf : T.vm.interned.find? (fun q => q.1 == units) with
    | some q =>
      obtain ⟨u, a⟩ := q
      obtain rfl : u = units := by have := Array.find?_some hf; simpa using this
      have w1 : T.Warmed39 (T.vm.noted g.method.cls index (.string a)) := (State.Warmed39.refl T).notedString hkT (Or.inl hopen) n2 n3 n4 hf
      have w2 : s.Warmed39 (T.vm.noted g.method.cls index (.string a)) := State.Warmed39.trans (t := T) hWT w1
      refine ⟨a, T.setVm (T.vm.noted g.method.cls index (.string a)), (X.mono (Nat.le_add_right _ _) (Nat.le_add_right _ _)).retabled w2, ⟨w2, State.Booked.step (T₂ := T.setVm _) (X.warmed.no_new_pair _) X.same.2.1 ⟨Nat.le_refl _, Or.inl rfl⟩⟩,
        ⟨_, Vm.classes_note_self index (.string a) hkT, Class.resolved_note_self (.string a) hopen⟩, fun _ _ => rfl, w1, Or.inl rfl, fun target hr => ?_⟩
      jvm_step X.here [hexec, hdg, ldc_w.wp_string_found (e := e) (s := T) (f := g) X.here.top hkT hcf hpc hpu hopen hf]
      exact hr
    | none =>
      obtain ⟨S, LS, h4, fit1, fit2⟩ := StringT.of_atoms (args := args) hS
      obtain ⟨kS, kB, LT, htS⟩ := LS.warmer X.warmed.alike
      have hbytes : (stringBytes units).size ≤ n := Nat.le_trans (text_bytes_le hdec) hn
      generalize hA : T.heap.size = A
      obtain ⟨V, hV⟩ : ∃ V : Vm, V = ({ T.vm with interned := T.vm.interned.push (units, A + 1) } : Vm) := ⟨_, rfl⟩
      have hVi : V.interned = T.vm.interned.push (units, A + 1) := by rw [hV]
      have hVf : V.interned.find? (fun q => q.1 == units) = some (units, A + 1) := by rw [hVi, Array.find?_push, hf]; simp
      have w1 : T.Warmed39 (V.noted g.method.cls index (.string (A + 1))) := by rw [hV] at hVf ⊢; exact ((State.Warmed39.refl T).interns units (A + 1)).notedString hkT (Or.inl hopen) n2 n3 n4 hVf
      have w2 : s.Warmed39 (V.noted g.method.cls index (.string (A + 1))) := State.Warmed39.trans (t := T) hWT w1
      obtain ⟨P, hP⟩ : ∃ P : State, P = withString T S.cB S.cS kS S.fv S.fc units := ⟨_, rfl⟩
      have hPh : P.heap = (T.heap.push (bytesOf S.cB units)).push (stringAt S.cS kS S.fv S.fc units A) := by rw [hP, withString_eq, ← hA]; rfl
      have hPs : P.heap.size = A + 2 := by rw [hPh]; simp [hA]
      have hPb : P.heap[A]? = some (bytesOf S.cB units) := by rw [hPh, Array.getElem?_push, if_neg (by rw [Array.size_push, hA]; omega), Array.getElem?_push, if_pos hA.symm]
      have hPc : P.heap[A + 1]? = some (stringAt S.cS kS S.fv S.fc units A) := by rw [hPh, Array.getElem?_push, if_pos (by rw [Array.size_push, hA])]
      have z1 : (bytesOf S.cB units).slots.size = (stringBytes units).size := by rw [(Cell.writeAll_facts _ _).2.2]; simp [bytes0]
      have z2 : (stringAt S.cS kS S.fv S.fc units A).slots.size = 4 := by simp [string0, Cell.setSlot, htS, h4]
      have XP : Stand p l e R s g.method args below meth c P locs (cells + 2) (slots + (n + 4)) := by
        have Y := (X.pushed (bytesOf S.cB units)).pushed (stringAt S.cS kS S.fv S.fc units A)
        rw [hP, withString_eq, hA]
        exact Y.mono (by omega) (by rw [z1, z2]; omega)
      have hfs : T.fitsSlot = s.fitsSlot := (show T.fitsSlot = (s.setVm T.vm).fitsSlot from rfl).trans (State.fitsSlot_setVm X.warmed.alike)
      refine ⟨A + 1, P.setVm (V.noted g.method.cls index (.string (A + 1))), XP.retabled w2, ⟨w2, State.Booked.step (T := T) (T₂ := P.setVm _) (X.warmed.no_new_pair _) X.same.2.1 ⟨?_, Or.inr ⟨units, A + 1, hVi, ?_, ?_⟩⟩⟩, ⟨_, Vm.classes_note_self (vm := V) index (.string (A + 1)) (by rw [hV]; exact hkT), Class.resolved_note_self (.string (A + 1)) hopen⟩, fun b hb => ?_, w1, Or.inr ⟨units, hdec, hVi, hf, fun hl => ?_⟩, fun target hrest => ?_⟩
      · show T.heap.size ≤ P.heap.size; omega
      · omega
      · show A + 1 < P.heap.size; omega
      · show P.heap[b]? = _
        rw [hPh, Array.getElem?_push, if_neg (by rw [Array.size_push, hA]; omega), Array.getElem?_push, if_neg (by omega)]
      · exact made_sl (W := P.setVm (V.noted g.method.cls index (.string (A + 1)))) hS LS h4 htS w2.alike hPb hPc hl (by omega) 0
      · refine Steps.instr (c := _) (by simpa using X.here) ?_
        simp [jvm, wpRun, exec, X.here.top, hexec, hdg]
        refine ldc_w.wp_string_new (e := e) (s := T) (f := g) X.here.top hkT hcf hpc hpu hopen hf LT.found LT.cls LT.initialized LT.ordinary LT.foundB LT.clsB LT.kindB LT.value LT.coder ?_ ?_ (X.cellsAbove hc2) ?_
          (stringBytes_fit LT.clsB LT.kindB units) LT.valueSlot LT.coderSlot (by rw [hfs]; exact fit1 _) (by rw [hfs]; exact fit2 _) (fun d' acts' => ?_)
        · rw [Launch.admits_arrayLengthLimit X.admits]; omega
        · rw [Launch.admits_maxHeapBytes X.admits]; simp only [componentBytes]; omega
        · have := X.slotsAbove hs2
          show T.slotsUsed + (stringBytes units).size + kS.instanceTypes.size ≤ _
          rw [htS, h4]; omega
        · intro acts''
          rw [hA, ← hP, ← hV]
          have q1 : P.topJava?.isSome := by rw [hP]; simpa [withString] using X.here.top
          have q2 : (P.setVm (V.noted g.method.cls index (.string (A + 1)))).topJava?.isSome := by simpa using q1
          simp [jvm, afterInstr, q1, q2]
          rw [State.modifyTopJava_setTop]
          exact hrest
  · refine ⟨a, T, (X.mono (Nat.le_add_right _ _) (Nat.le_add_right _ _)).retabled hWT, X.warmed.since _, ⟨k, hkT, hr⟩, fun _ _ => rfl, State.Warmed39.refl T, Or.inl rfl, fun target h => ?_⟩
    jvm_step X.here [hexec, hdg, ldc_w.wp_string (e := e) (s := T) (f := g) X.here.top hkT hcf hpc hr]
    exact h
/-- what a booked String spells, over the start's tables -/
theorem own_read {Z : State} {vm : Vm} {h : Heap} {a : Addr} {units : Array UInt16} {text : String} (hal : Z.vm.Alike vm) (F : SlOf (Wst Z vm h) a units) (htext : utf16ToString? units = some text) {vs : List Value} {z : Int32}
    (ht : (∀ c ∈ text.toList, c.toNat < 256) ∧ text.toList.map (fun c => Value.int (Jvm.Lit.byteI c.toNat.toUInt16)) = vs) (hz : ¬ z < 0) (hl : z.toNatClampNeg = vs.length) :
    ∃ (b : Addr) (k : ClassId), Exa Z h a "java/lang/String" ∧ Fld Z h a "java/lang/String" "coder" "B" (.int 0) ∧ Fld Z h a "java/lang/String" "value" "[B" (.ref b) ∧ Arv Z h b k .byte z vs (.int 0) := by
  have G : SlOf { Z with heap := h } a units := F.moved (W := { Z with heap := h }) hal.symm fun _ _ q => q
  obtain ⟨q, cS, rfl, ⟨⟨s1, s2, s3, ⟨cv, kv, iv, v1, v2⟩, ⟨cc, kc, ic, c1, c2⟩, s6, s7, s8, s9, s10, s11, s12, s13, s14, s15, s16⟩, hfS, hcS⟩, ⟨kS, k1, k2, k3⟩, hB, hby⟩ := G
  have hlat := Jvm.ClassFile.lat_of_text htext ht.1
  have eu : vs = units.toList.map fun u => Value.int (Jvm.Lit.byteI u) := by rw [← ht.2, Jvm.ClassFile.units_of_text htext ht.1, List.map_map]; rfl
  have hsl : q.SA.slots = units.map fun u => Value.int (Jvm.Lit.byteI u) := by rw [hby, SBG.stringBytes_lat hlat]; rfl
  have hsz : q.SA.slots.size = vs.length := by rw [hsl, eu]; simp
  have H : Has q.SA vs (.int 0) := fun j hj => by
    have hj' : j < units.size := by rw [hsl, Array.size_map] at hj; exact hj
    rw [hsl, eu]; simp [hj']
  refine ⟨q.sd, q.SA.cls, ⟨q.sC, kS, s1, by rw [hcS]; exact hfS, by rw [hcS]; exact k1, s3, fun _ => k3⟩, ⟨q.sC, cc, kc, ic, q.fSC, s1, c1, s7, s2, s3, c2, s9⟩, ⟨q.sC, cv, kv, iv, q.fSV, s1, v1, s6, s2, s3, v2, s8⟩, ⟨q.SA, ⟨s10, s11, s12⟩, rfl, by rw [hsz, hl], hz, H, fun j hj => ?_⟩⟩
  have e1 := s16 j hj
  rw [SBG.getD_of (H j hj)] at e1
  exact e1
/-- 'ldc_w' of any String constant: the words on what is held go on -/
theorem own_ldcwO {vm0 : Vm} {Z : State} {a0 : Array Value} {EL : List (String × Nat)} {h : Heap} {own text : String} {index : Nat} (X : Stand p l e R (s.setVm vm0) m args below meth c T locs cells slots) (hx : p.tables.exec = Jvm.exec) (hZ : Z.Warmed39 vm0) (hown : vm0.findClass own = some m.cls)
    (w : (Jvm.Cond.stringLink own index text).before a0 Z = true) (wS : ∀ a ∈ Bundle.stringAtoms, a.before a0 Z = true) (eT : T.heap = h) {k0 : Nat} (hS : s.Since vm0 k0) (hk : k0 ≤ h.size) (hEL : EW Z a0 EL) (H : CHv Z EL vm0 h)
    {g : JFrame} (hg : g.method = m) (hd : decode c.code g.pc = .ok (.ldc_w index, 3)) {n : Nat} (hn : 4 * text.toList.length ≤ n) (hbig : n ≤ 536870912) (hc : cells + 2 ≤ R.cells) (hl' : slots + (n + 4) ≤ R.slots) :
    ∃ (a : Addr) (T' : State) (h' : Heap) (k1 : Nat), Stand p l e R (s.setVm T'.vm) m args below meth c T' locs (cells + 2) (slots + (n + 4)) ∧ T'.heap = h' ∧ Ext h h' ∧ s.Since T'.vm k1 ∧ k1 ≤ h'.size ∧ Z.Warmed39 (s.setVm T'.vm).vm ∧ (s.setVm T'.vm).vm.findClass own = some m.cls ∧ CHr Z EL vm0 h T'.vm h' ∧ Lit (s.setVm T'.vm) own index a ∧
      ∀ target, Steps p.tables e below (T'.setTop { g with pc := g.pc + 3, stack := .ref a :: g.stack }) target → Steps p.tables e below (T.setTop g) target := by
  have wS' : ∀ d ∈ Bundle.stringAtoms, d.before args (s.setVm vm0) = true := fun d hd => by
    have q := wS d hd
    simp only [Bundle.stringAtoms, List.mem_cons, List.not_mem_nil, or_false] at hd
    rcases hd with rfl | rfl | rfl | rfl | rfl | rfl | rfl
    all_goals try exact mv (s := s.setVm vm0) hZ q (by rfl)
    exact mvA (s := s.setVm vm0) hZ q
  obtain ⟨a, T', X', hS', ⟨k, hkk, hrr⟩, hb, hTW, hint, st⟩ := own_ldcwN X hx (own := own) hown (mvS hZ w) wS' hg hd hn hbig hc hl'
  subst eT
  have E := ext_of hb
  have hZT : Z.Warmed39 T.vm := wtrans (s := s.setVm vm0) hZ X.warmed
  have A := CHv.at X hZ hEL H
  have B := CHv.later (vm := T.vm) (vm1 := T'.vm) hZT (show (Wst Z T.vm T.heap).Warmed39 T'.vm from hTW) hEL E (hint.imp id fun ⟨us, _, e1, e2, e3⟩ => ⟨us, a, e1, e2, fun hl => by
    obtain ⟨q, cS, hq, r1, r2, r3, r4, r5⟩ := e3 hl
    have F : SlB T' q us := ⟨cS, r1, r2, r3, r4⟩
    exact ⟨q, hq, F.carry (V := Wst Z T'.vm T'.heap) (Vm.Alike.refl _) F.ha F.hd, r5.elim (fun z => absurd z.1 (Nat.not_lt_zero _)) id⟩⟩) A.1
  have hf : T'.vm.findClass own = some m.cls := by rw [hS'.1.alike.findClass]; exact hown
  exact ⟨a, T', _, _, X', rfl, E, hS.trans hS' (Nat.le_trans hk E.1), Nat.le_refl _, State.Warmed39.trans (t := s.setVm vm0) hZ hS'.1, hf, A.trans ⟨B.1, E.1, B.2⟩, by simp [Lit, State.resolvedAt?, hf, hkk, hrr], st⟩
/-- .. and what the tables then book for it is read -/
theorem own_ldcwC {vm1 : Vm} {Z : State} {a0 : Array Value} {EL : List (String × Nat)} {h : Heap} {own text : String} {index : Nat} {a : Addr} (hZ : Z.Warmed39 vm1) (w : (Jvm.Cond.stringLink own index text).before a0 Z = true) (hmem : (own, index) ∈ EL) (H : CHv Z EL vm1 h) (L : Lit (s.setVm vm1) own index a) {vs : List Value} {z : Int32}
    (ht : (∀ c ∈ text.toList, c.toNat < 256) ∧ text.toList.map (fun c => Value.int (Jvm.Lit.byteI c.toNat.toUInt16)) = vs) (hz : ¬ z < 0) (hl : z.toNatClampNeg = vs.length) :
    ∃ (b : Addr) (k : ClassId), Exa Z h a "java/lang/String" ∧ Fld Z h a "java/lang/String" "coder" "B" (.int 0) ∧ Fld Z h a "java/lang/String" "value" "[B" (.ref b) ∧ Arv Z h b k .byte z vs (.int 0) := by
  have L' : (s.setVm vm1).resolvedAt? own index = some (.string a) := L
  have w2 : (Jvm.Cond.stringLink own index text).before a0 (Wst Z vm1 h) = true := mvS (s := { Z with heap := h }) hZ w
  cases hf : vm1.findClass own with
  | none => simp [State.resolvedAt?, show (s.setVm vm1).vm = vm1 from rfl, hf] at L'
  | some cur =>
    obtain ⟨k, cf, i, units, hk, hcf, hp, hu, -, htext, -⟩ := Cond.stringLink_spec (s := Wst Z vm1 h) (cur := cur) hf w2
    have hk' : vm1.classes[cur]? = some k := hk
    have hr : k.resolved[index]? = some (some (.string a)) := by
      simp [State.resolvedAt?, show (s.setVm vm1).vm = vm1 from rfl, hf, hk'] at L'
      cases hq : k.resolved[index]? with
      | none => rw [hq] at L'; cases L'
      | some o => rw [hq] at L'; cases o with
        | none => cases L'
        | some r => simpa using L'
    exact own_read hZ.alike (H _ hmem units a ⟨cur, k, cf, i, hf, hk, hcf, hp, hu, Or.inl hr⟩) htext ht hz hl
end LdcW
theorem own_EW {Z : State} {a0 : Array Value} (hw : ∀ d ∈ tables_1, d.before a0 Z = true) : EW Z a0 consts_1 := (EW.cons (hw _ (List.mem_of_getElem? (i := 99) rfl)) (by decide) (EW.cons (hw _ (List.mem_of_getElem? (i := 98) rfl)) (by decide) (EW.cons (hw _ (List.mem_of_getElem? (i := 80) rfl)) (by decide) (EW.cons (hw _ (List.mem_of_getElem? (i := 105) rfl)) (by decide) (EW.cons (hw _ (List.mem_of_getElem? (i := 187) rfl)) (by decide) (EW.cons (hw _ (List.mem_of_getElem? (i := 261) rfl)) (by decide) (EW.cons (hw _ (List.mem_of_getElem? (i := 329) rfl)) (by decide) (EW.cons (hw _ (List.mem_of_getElem? (i := 262) rfl)) (by decide) (EW.cons (hw _ (List.mem_of_getElem? (i := 108) rfl)) (by decide) (EW.cons (hw _ (List.mem_of_getElem? (i := 120) rfl)) (by decide) EW.nil))))))))))
def owX0 (Z : State) (h : Heap) (sen f : Addr) : Prop := Exa Z h f "java/lang/Exception" ∧ Unt h f ∧ Fld Z h f "java/lang/Throwable" "suppressedExceptions" "Ljava/util/List;" (.ref sen)
def owX1 (Z : State) (h : Heap) (n0 : Nat) (f : Addr) : Prop := Exa Z h f "java/lang/Exception" ∧ Unt h f ∧ ∃ (li ar : Addr) (ka : ClassId) (xo : Addr), Fld Z h f "java/lang/Throwable" "suppressedExceptions" "Ljava/util/List;" (.ref li) ∧ n0 ≤ li ∧ n0 ≤ ar ∧ Exa Z h li "java/util/ArrayList" ∧ Fld Z h li "java/util/AbstractList" "modCount" "I" (.int (1 : Int32)) ∧ Fld Z h li "java/util/ArrayList" "elementData" "[Ljava/lang/Object;" (.ref ar) ∧ Fld Z h li "java/util/ArrayList" "size" "I" (.int (1 : Int32)) ∧ Arv Z h ar ka (.object "java/lang/Object") (1 : Int32) [(.ref xo)] .null ∧ Exa Z h ar "[Ljava/lang/Object;" ∧ Ovr Z ka "java/lang/Object" ∧ Exa Z h xo "java/lang/Exception"
def owU (Z : State) (h : Heap) (u : Addr) (cm : Int32) (wk : Addr) (fl : Value) : Prop := Exa Z h u "com/example/portable_transactions/portabletransactions/transaction/UnitEnding" ∧ Fld Z h u "com/example/portable_transactions/portabletransactions/transaction/UnitEnding" "commit" "Z" (.int cm) ∧ Fld Z h u "com/example/portable_transactions/portabletransactions/transaction/UnitEnding" "work" "Lcom/example/portable_transactions/portabletransactions/transaction/UnitEnding$Work;" (.ref wk) ∧ Fld Z h u "com/example/portable_transactions/portabletransactions/transaction/UnitEnding" "failure" "Ljava/lang/Exception;" fl ∧ ∃ x, Fld Z h u "com/example/portable_transactions/portabletransactions/transaction/UnitEnding" "failed" "Ljava/lang/String;" x
def owD (ke rb nk wk : Addr) (d : Int32) : Prop := (wk = ke ∧ d = 1) ∨ (wk = rb ∧ d = 1) ∨ (wk = nk ∧ d = 0)
def owE (op d : Int32) : Int32 := if op = 1 then 1 else if op = 2 then 0 else if op = 3 then 0 else if op = 4 then 0 else d
def owOp (op : Int32) : Prop := op = 0 ∨ op = 1 ∨ op = 2 ∨ op = 3 ∨ op = 4 ∨ op = 5
def owS (Z : State) (h : Heap) (n0 : Nat) (ke rb nk sen u : Addr) (d : Int32) (us : List Addr) (j : Nat) : Prop := ∃ (cm : Int32) (wk : Addr) (fl : Value), (cm = 0 ∨ cm = 1) ∧ owU Z h u cm wk fl ∧ owD ke rb nk wk d ∧ (fl = .null ∨ ∃ f, f ∈ us ∧ fl = .ref f ∧ n0 ≤ f ∧ (owX0 Z h sen f ∨ (j = 1 ∧ owX1 Z h n0 f)))
def owT (Z : State) (h : Heap) (ke rb nk u : Addr) (d : Int32) : Prop := ∃ (cm : Int32) (wk : Addr) (fl : Value), owU Z h u cm wk fl ∧ owD ke rb nk wk d
theorem owS.t {Z : State} {h : Heap} {n0 : Nat} {ke rb nk sen u : Addr} {d : Int32} {us : List Addr} {j : Nat} (q : owS Z h n0 ke rb nk sen u d us j) : owT Z h ke rb nk u d := by obtain ⟨cm, wk, fl, -, U, D, -⟩ := q; exact ⟨cm, wk, fl, U, D⟩
theorem own_monoH {l : Launch} {y : MethodName} {bytes : ByteArray} {ml : Nat} {ret : Option FieldType} {ws : List Jvm.Cond} {rm : Room} {as : Array Value} {Z : State} {h0 : Heap} {EL : List (String × Nat)} {Q Q' : Option Value → Heap → List Loc → Prop} (hM : OwConH l y bytes ml ret ws rm as Z h0 EL Q) (hq : ∀ v h L, Q v h L → Q' v h L) : OwConH l y bytes ml ret ws rm as Z h0 EL Q' := fun p e ha hc hk s m args below hf happ hP hK => by
  obtain ⟨n, o, h1, h2, h3, v, L, e1, e2, r⟩ := hM p e ha hc hk s m args below hf happ hP hK
  exact ⟨n, o, h1, h2, h3, v, L, e1, hq _ _ _ e2, r⟩
theorem own_mod (x : Int32) : (x &&& (2147483647 : Int32)) % (6 : Int32) = 0 ∨ (x &&& (2147483647 : Int32)) % (6 : Int32) = 1 ∨ (x &&& (2147483647 : Int32)) % (6 : Int32) = 2 ∨ (x &&& (2147483647 : Int32)) % (6 : Int32) = 3 ∨ (x &&& (2147483647 : Int32)) % (6 : Int32) = 4 ∨ (x &&& (2147483647 : Int32)) % (6 : Int32) = 5 := by
  have h1 := c_mask x (2147483647 : Int32) 31 (by decide) (by decide)
  have h2 := (c_irem (x &&& (2147483647 : Int32)) (6 : Int32) 6 (by decide)).1 (by omega)
  generalize (x &&& (2147483647 : Int32)) % (6 : Int32) = y at h2 ⊢
  simp only [← Int32.toInt_inj]
  show y.toInt = 0 ∨ y.toInt = 1 ∨ y.toInt = 2 ∨ y.toInt = 3 ∨ y.toInt = 4 ∨ y.toInt = 5
  omega
theorem own_strin : ∀ w ∈ Bundle.stringAtoms, w ∈ tables_1 := by decide +kernel
theorem own_atoms : ∀ w ∈ owAtoms "java/lang/Exception", w ∈ tables_1 := by decide +kernel

abbrev j0 := jdk_65_method_120_code
abbrev j1 := jdk_42_method_147_code
abbrev j2 := jdk_65_method_133_code
abbrev j3 := jdk_65_method_121_code
abbrev j4 := jdk_65_method_132_code
abbrev j5 := jdk_42_method_150_code
abbrev j6 := jdk_65_method_131_code
abbrev j7 := jdk_65_method_119_code
abbrev j8 := jdk_42_method_152_code
abbrev j9 := prog_49_method_6_code
abbrev j10 := prog_49_method_4_code
abbrev j11 := jdk_68_method_10_code
abbrev j12 := jdk_29_method_65_code
abbrev j13 := prog_49_method_3_code
abbrev j14 := jdk_38_method_25_code
abbrev j15 := jdk_31_method_11_code
abbrev j16 := jdk_48_method_27_code
abbrev j17 := jdk_42_method_54_code
abbrev j18 := jdk_29_method_69_code
abbrev j19 := jdk_38_method_24_code
abbrev j20 := prog_49_method_2_code
abbrev j21 := jdk_68_method_71_code
abbrev j22 := jdk_67_method_42_code
abbrev j23 := prog_49_method_5_code
abbrev j24 := jdk_68_method_73_code
abbrev j25 := prog_49_method_1_code
abbrev j26 := jdk_42_method_53_code
abbrev j27 := jdk_68_method_68_code
abbrev j28 := jdk_78_method_26_code
abbrev j29 := jdk_68_method_22_code
abbrev j30 := jdk_78_method_18_code
abbrev j31 := jdk_68_method_64_code
abbrev j32 := jdk_67_method_93_code
abbrev j33 := jdk_68_method_9_code
abbrev j34 := jdk_78_method_1_code
abbrev j35 := jdk_38_method_6_code
abbrev j36 := jdk_68_method_2_code
abbrev j37 := jdk_38_method_7_code
abbrev j38 := jdk_67_method_7_code
abbrev j39 := jdk_39_method_1_code
abbrev j40 := jdk_59_method_1_code
abbrev j41 := jdk_68_method_6_code
abbrev j42 := jdk_22_method_1_code
abbrev j43 := jdk_38_method_1_code
abbrev j44 := jdk_67_method_1_code
theorem d1_0 : decode j40 0 = .ok (.aload_n 0, 1) := by decide +kernel
theorem d1_1 : decode j40 1 = .ok (.invokespecial 1, 3) := by decide +kernel
theorem d1_4 : decode j40 4 = .ok (.return_, 1) := by decide +kernel
theorem owpn1 : plainName "java/lang/Exception" = true := by first | (simp [plainName, overriddenIn]; done) | decide +kernel
theorem d2_0 : decode j34 0 = .ok (.aload_n 0, 1) := by decide +kernel
theorem d2_1 : decode j34 1 = .ok (.invokespecial 1, 3) := by decide +kernel
theorem d2_4 : decode j34 4 = .ok (.aload_n 0, 1) := by decide +kernel
theorem d2_5 : decode j34 5 = .ok (.aload_n 0, 1) := by decide +kernel
theorem d2_6 : decode j34 6 = .ok (.putfield 7, 3) := by decide +kernel
theorem d2_9 : decode j34 9 = .ok (.aload_n 0, 1) := by decide +kernel
theorem d2_10 : decode j34 10 = .ok (.getstatic 13, 3) := by decide +kernel
theorem d2_13 : decode j34 13 = .ok (.putfield 17, 3) := by decide +kernel
theorem d2_16 : decode j34 16 = .ok (.aload_n 0, 1) := by decide +kernel
theorem d2_17 : decode j34 17 = .ok (.getstatic 20, 3) := by decide +kernel
theorem d2_20 : decode j34 20 = .ok (.putfield 24, 3) := by decide +kernel
theorem d2_23 : decode j34 23 = .ok (.aload_n 0, 1) := by decide +kernel
theorem d2_24 : decode j34 24 = .ok (.invokevirtual 27, 3) := by decide +kernel
theorem d2_27 : decode j34 27 = .ok (.pop, 1) := by decide +kernel
theorem d2_28 : decode j34 28 = .ok (.return_, 1) := by decide +kernel
theorem owpn2 : plainName "java/lang/Throwable" = true := by first | (simp [plainName, overriddenIn]; done) | decide +kernel
theorem owpn4 : plainName "java/lang/Throwable" = true := by first | (simp [plainName, overriddenIn]; done) | decide +kernel
theorem d5_0 : decode j25 0 = .ok (.aload_n 0, 1) := by decide +kernel
theorem d5_1 : decode j25 1 = .ok (.invokespecial 1, 3) := by decide +kernel
theorem d5_4 : decode j25 4 = .ok (.aload_n 0, 1) := by decide +kernel
theorem d5_5 : decode j25 5 = .ok (.iload_n 1, 1) := by decide +kernel
theorem d5_6 : decode j25 6 = .ok (.putfield 7, 3) := by decide +kernel
theorem d5_9 : decode j25 9 = .ok (.aload_n 0, 1) := by decide +kernel
theorem d5_10 : decode j25 10 = .ok (.iload_n 1, 1) := by decide +kernel
theorem d5_11 : decode j25 11 = .ok (.ifCond .eq 9, 3) := by decide +kernel
theorem d5_14 : decode j25 14 = .ok (.getstatic 13, 3) := by decide +kernel
theorem d5_17 : decode j25 17 = .ok (.goto 6, 3) := by decide +kernel
theorem d5_20 : decode j25 20 = .ok (.getstatic 19, 3) := by decide +kernel
theorem d5_23 : decode j25 23 = .ok (.putfield 22, 3) := by decide +kernel
theorem d5_26 : decode j25 26 = .ok (.return_, 1) := by decide +kernel
theorem owpn5 : plainName "com/example/portable_transactions/portabletransactions/transaction/UnitEnding" = true := by first | (simp [plainName, overriddenIn]; done) | decide +kernel
theorem d6_0 : decode j9 0 = .ok (.aload_n 0, 1) := by decide +kernel
theorem d6_1 : decode j9 1 = .ok (.getfield 22, 3) := by decide +kernel
theorem d6_4 : decode j9 4 = .ok (.getstatic 37, 3) := by decide +kernel
theorem d6_7 : decode j9 7 = .ok (.if_acmp .eq 7, 3) := by decide +kernel
theorem d6_10 : decode j9 10 = .ok (.iconst 1, 1) := by decide +kernel
theorem d6_11 : decode j9 11 = .ok (.goto 4, 3) := by decide +kernel
theorem d6_14 : decode j9 14 = .ok (.iconst 0, 1) := by decide +kernel
theorem d6_15 : decode j9 15 = .ok (.ireturn, 1) := by decide +kernel
theorem owpn6 : plainName "com/example/portable_transactions/portabletransactions/transaction/UnitEnding" = true := by first | (simp [plainName, overriddenIn]; done) | decide +kernel
theorem d7_0 : decode method_2_code 0 = .ok (.iload_n 1, 1) := by decide +kernel
theorem d7_1 : decode method_2_code 1 = .ok (.iconst 1, 1) := by decide +kernel
theorem d7_2 : decode method_2_code 2 = .ok (.if_icmp .ne 12, 3) := by decide +kernel
theorem d7_5 : decode method_2_code 5 = .ok (.aload_n 0, 1) := by decide +kernel
theorem d7_6 : decode method_2_code 6 = .ok (.aload_n 2, 1) := by decide +kernel
theorem d7_7 : decode method_2_code 7 = .ok (.iconst 1, 1) := by decide +kernel
theorem d7_8 : decode method_2_code 8 = .ok (.invokevirtual 7, 3) := by decide +kernel
theorem d7_11 : decode method_2_code 11 = .ok (.goto 55, 3) := by decide +kernel
theorem d7_14 : decode method_2_code 14 = .ok (.iload_n 1, 1) := by decide +kernel
theorem d7_15 : decode method_2_code 15 = .ok (.iconst 2, 1) := by decide +kernel
theorem d7_16 : decode method_2_code 16 = .ok (.if_icmp .ne 12, 3) := by decide +kernel
theorem d7_19 : decode method_2_code 19 = .ok (.aload_n 0, 1) := by decide +kernel
theorem d7_20 : decode method_2_code 20 = .ok (.aload_n 2, 1) := by decide +kernel
theorem d7_21 : decode method_2_code 21 = .ok (.iconst 0, 1) := by decide +kernel
theorem d7_22 : decode method_2_code 22 = .ok (.invokevirtual 7, 3) := by decide +kernel
theorem d7_25 : decode method_2_code 25 = .ok (.goto 41, 3) := by decide +kernel
theorem d7_28 : decode method_2_code 28 = .ok (.iload_n 1, 1) := by decide +kernel
theorem d7_29 : decode method_2_code 29 = .ok (.iconst 3, 1) := by decide +kernel
theorem d7_30 : decode method_2_code 30 = .ok (.if_icmp .ne 11, 3) := by decide +kernel
theorem d7_33 : decode method_2_code 33 = .ok (.aload_n 0, 1) := by decide +kernel
theorem d7_34 : decode method_2_code 34 = .ok (.aload_n 2, 1) := by decide +kernel
theorem d7_35 : decode method_2_code 35 = .ok (.invokevirtual 13, 3) := by decide +kernel
theorem d7_38 : decode method_2_code 38 = .ok (.goto 28, 3) := by decide +kernel
theorem d7_41 : decode method_2_code 41 = .ok (.iload_n 1, 1) := by decide +kernel
theorem d7_42 : decode method_2_code 42 = .ok (.iconst 4, 1) := by decide +kernel
theorem d7_43 : decode method_2_code 43 = .ok (.if_icmp .ne 11, 3) := by decide +kernel
theorem d7_46 : decode method_2_code 46 = .ok (.aload_n 0, 1) := by decide +kernel
theorem d7_47 : decode method_2_code 47 = .ok (.aload_n 2, 1) := by decide +kernel
theorem d7_48 : decode method_2_code 48 = .ok (.invokevirtual 17, 3) := by decide +kernel
theorem d7_51 : decode method_2_code 51 = .ok (.goto 15, 3) := by decide +kernel
theorem d7_54 : decode method_2_code 54 = .ok (.iload_n 1, 1) := by decide +kernel
theorem d7_55 : decode method_2_code 55 = .ok (.iconst 5, 1) := by decide +kernel
theorem d7_56 : decode method_2_code 56 = .ok (.if_icmp .ne 10, 3) := by decide +kernel
theorem d7_59 : decode method_2_code 59 = .ok (.aload_n 0, 1) := by decide +kernel
theorem d7_60 : decode method_2_code 60 = .ok (.aload_n 2, 1) := by decide +kernel
theorem d7_61 : decode method_2_code 61 = .ok (.ldc 20, 2) := by decide +kernel
theorem d7_63 : decode method_2_code 63 = .ok (.invokevirtual 22, 3) := by decide +kernel
theorem d7_66 : decode method_2_code 66 = .ok (.return_, 1) := by decide +kernel
theorem owpn7 : plainName "com/example/portable_transactions/portabletransactions/transaction/UnitEndingIsSettledPinLaw" = true := by first | (simp [plainName, overriddenIn]; done) | decide +kernel
theorem d8_0 : decode j13 0 = .ok (.aload_n 0, 1) := by decide +kernel
theorem d8_1 : decode j13 1 = .ok (.aload_n 1, 1) := by decide +kernel
theorem d8_2 : decode j13 2 = .ok (.putfield 25, 3) := by decide +kernel
theorem d8_5 : decode j13 5 = .ok (.aload_n 0, 1) := by decide +kernel
theorem d8_6 : decode j13 6 = .ok (.ldc 40, 2) := by decide +kernel
theorem d8_8 : decode j13 8 = .ok (.putfield 33, 3) := by decide +kernel
theorem d8_11 : decode j13 11 = .ok (.aload_n 0, 1) := by decide +kernel
theorem d8_12 : decode j13 12 = .ok (.getstatic 37, 3) := by decide +kernel
theorem d8_15 : decode j13 15 = .ok (.putfield 22, 3) := by decide +kernel
theorem d8_18 : decode j13 18 = .ok (.return_, 1) := by decide +kernel
theorem owpn8 : plainName "com/example/portable_transactions/portabletransactions/transaction/UnitEnding" = true := by first | (simp [plainName, overriddenIn]; done) | decide +kernel
theorem d9_0 : decode method_3_code 0 = .ok (.iload_n 0, 1) := by decide +kernel
theorem d9_1 : decode method_3_code 1 = .ok (.iconst 1, 1) := by decide +kernel
theorem d9_2 : decode method_3_code 2 = .ok (.if_icmp .ne 5, 3) := by decide +kernel
theorem d9_5 : decode method_3_code 5 = .ok (.iconst 1, 1) := by decide +kernel
theorem d9_6 : decode method_3_code 6 = .ok (.ireturn, 1) := by decide +kernel
theorem d9_7 : decode method_3_code 7 = .ok (.iload_n 0, 1) := by decide +kernel
theorem d9_8 : decode method_3_code 8 = .ok (.iconst 2, 1) := by decide +kernel
theorem d9_9 : decode method_3_code 9 = .ok (.if_icmp .eq 13, 3) := by decide +kernel
theorem d9_12 : decode method_3_code 12 = .ok (.iload_n 0, 1) := by decide +kernel
theorem d9_13 : decode method_3_code 13 = .ok (.iconst 3, 1) := by decide +kernel
theorem d9_14 : decode method_3_code 14 = .ok (.if_icmp .eq 8, 3) := by decide +kernel
theorem d9_17 : decode method_3_code 17 = .ok (.iload_n 0, 1) := by decide +kernel
theorem d9_18 : decode method_3_code 18 = .ok (.iconst 4, 1) := by decide +kernel
theorem d9_19 : decode method_3_code 19 = .ok (.if_icmp .ne 5, 3) := by decide +kernel
theorem d9_22 : decode method_3_code 22 = .ok (.iconst 0, 1) := by decide +kernel
theorem d9_23 : decode method_3_code 23 = .ok (.ireturn, 1) := by decide +kernel
theorem d9_24 : decode method_3_code 24 = .ok (.iload_n 1, 1) := by decide +kernel
theorem d9_25 : decode method_3_code 25 = .ok (.ireturn, 1) := by decide +kernel
theorem owpn9 : plainName "com/example/portable_transactions/portabletransactions/transaction/UnitEndingIsSettledPinLaw" = true := by first | (simp [plainName, overriddenIn]; done) | decide +kernel
theorem d10_0 : decode j20 0 = .ok (.aload_n 0, 1) := by decide +kernel
theorem d10_1 : decode j20 1 = .ok (.aload_n 1, 1) := by decide +kernel
theorem d10_2 : decode j20 2 = .ok (.putfield 25, 3) := by decide +kernel
theorem d10_5 : decode j20 5 = .ok (.aload_n 0, 1) := by decide +kernel
theorem d10_6 : decode j20 6 = .ok (.iload_n 2, 1) := by decide +kernel
theorem d10_7 : decode j20 7 = .ok (.ifCond .eq 8, 3) := by decide +kernel
theorem d10_10 : decode j20 10 = .ok (.ldc 29, 2) := by decide +kernel
theorem d10_12 : decode j20 12 = .ok (.goto 5, 3) := by decide +kernel
theorem d10_15 : decode j20 15 = .ok (.ldc 31, 2) := by decide +kernel
theorem d10_17 : decode j20 17 = .ok (.putfield 33, 3) := by decide +kernel
theorem d10_20 : decode j20 20 = .ok (.aload_n 0, 1) := by decide +kernel
theorem d10_21 : decode j20 21 = .ok (.iload_n 2, 1) := by decide +kernel
theorem d10_22 : decode j20 22 = .ok (.ifCond .eq 9, 3) := by decide +kernel
theorem d10_25 : decode j20 25 = .ok (.getstatic 19, 3) := by decide +kernel
theorem d10_28 : decode j20 28 = .ok (.goto 6, 3) := by decide +kernel
theorem d10_31 : decode j20 31 = .ok (.getstatic 37, 3) := by decide +kernel
theorem d10_34 : decode j20 34 = .ok (.putfield 22, 3) := by decide +kernel
theorem d10_37 : decode j20 37 = .ok (.return_, 1) := by decide +kernel
theorem owpn10 : plainName "com/example/portable_transactions/portabletransactions/transaction/UnitEnding" = true := by first | (simp [plainName, overriddenIn]; done) | decide +kernel
theorem d11_0 : decode j10 0 = .ok (.aload_n 0, 1) := by decide +kernel
theorem d11_1 : decode j10 1 = .ok (.aload_n 1, 1) := by decide +kernel
theorem d11_2 : decode j10 2 = .ok (.putfield 25, 3) := by decide +kernel
theorem d11_5 : decode j10 5 = .ok (.aload_n 0, 1) := by decide +kernel
theorem d11_6 : decode j10 6 = .ok (.ldc 42, 2) := by decide +kernel
theorem d11_8 : decode j10 8 = .ok (.putfield 33, 3) := by decide +kernel
theorem d11_11 : decode j10 11 = .ok (.aload_n 0, 1) := by decide +kernel
theorem d11_12 : decode j10 12 = .ok (.getstatic 37, 3) := by decide +kernel
theorem d11_15 : decode j10 15 = .ok (.putfield 22, 3) := by decide +kernel
theorem d11_18 : decode j10 18 = .ok (.return_, 1) := by decide +kernel
theorem owpn11 : plainName "com/example/portable_transactions/portabletransactions/transaction/UnitEnding" = true := by first | (simp [plainName, overriddenIn]; done) | decide +kernel
theorem d12_0 : decode j23 0 = .ok (.aload_n 0, 1) := by decide +kernel
theorem d12_1 : decode j23 1 = .ok (.getfield 25, 3) := by decide +kernel
theorem d12_4 : decode j23 4 = .ok (.ifnull 12, 3) := by decide +kernel
theorem d12_7 : decode j23 7 = .ok (.aload_n 0, 1) := by decide +kernel
theorem d12_8 : decode j23 8 = .ok (.getfield 25, 3) := by decide +kernel
theorem d12_11 : decode j23 11 = .ok (.aload_n 1, 1) := by decide +kernel
theorem d12_12 : decode j23 12 = .ok (.invokevirtual 44, 3) := by decide +kernel
theorem d12_15 : decode j23 15 = .ok (.return_, 1) := by decide +kernel
theorem d12_16 : decode j23 16 = .ok (.aload_n 0, 1) := by decide +kernel
theorem d12_17 : decode j23 17 = .ok (.aload_n 1, 1) := by decide +kernel
theorem d12_18 : decode j23 18 = .ok (.putfield 25, 3) := by decide +kernel
theorem d12_21 : decode j23 21 = .ok (.aload_n 0, 1) := by decide +kernel
theorem d12_22 : decode j23 22 = .ok (.new 50, 3) := by decide +kernel
theorem d12_25 : decode j23 25 = .ok (.dup, 1) := by decide +kernel
theorem d12_26 : decode j23 26 = .ok (.invokespecial 52, 3) := by decide +kernel
theorem d12_29 : decode j23 29 = .ok (.ldc 53, 2) := by decide +kernel
theorem d12_31 : decode j23 31 = .ok (.invokevirtual 55, 3) := by decide +kernel
theorem d12_34 : decode j23 34 = .ok (.aload_n 2, 1) := by decide +kernel
theorem d12_35 : decode j23 35 = .ok (.invokevirtual 55, 3) := by decide +kernel
theorem d12_38 : decode j23 38 = .ok (.ldc 59, 2) := by decide +kernel
theorem d12_40 : decode j23 40 = .ok (.invokevirtual 55, 3) := by decide +kernel
theorem d12_43 : decode j23 43 = .ok (.aload_n 0, 1) := by decide +kernel
theorem d12_44 : decode j23 44 = .ok (.getfield 7, 3) := by decide +kernel
theorem d12_47 : decode j23 47 = .ok (.ifCond .eq 8, 3) := by decide +kernel
theorem d12_50 : decode j23 50 = .ok (.ldc 61, 2) := by decide +kernel
theorem d12_52 : decode j23 52 = .ok (.goto 5, 3) := by decide +kernel
theorem d12_55 : decode j23 55 = .ok (.ldc 63, 2) := by decide +kernel
theorem d12_57 : decode j23 57 = .ok (.invokevirtual 55, 3) := by decide +kernel
theorem d12_60 : decode j23 60 = .ok (.invokevirtual 65, 3) := by decide +kernel
theorem d12_63 : decode j23 63 = .ok (.putfield 33, 3) := by decide +kernel
theorem d12_66 : decode j23 66 = .ok (.return_, 1) := by decide +kernel
theorem owpn12 : plainName "com/example/portable_transactions/portabletransactions/transaction/UnitEnding" = true := by first | (simp [plainName, overriddenIn]; done) | decide +kernel
theorem d13_0 : decode j28 0 = .ok (.aload_n 1, 1) := by decide +kernel
theorem d13_1 : decode j28 1 = .ok (.aload_n 0, 1) := by decide +kernel
theorem d13_2 : decode j28 2 = .ok (.if_acmp .ne 15, 3) := by decide +kernel
theorem d13_17 : decode j28 17 = .ok (.aload_n 1, 1) := by decide +kernel
theorem d13_18 : decode j28 18 = .ok (.ldc_w 258, 3) := by decide +kernel
theorem d13_21 : decode j28 21 = .ok (.invokestatic 260, 3) := by decide +kernel
theorem d13_24 : decode j28 24 = .ok (.pop, 1) := by decide +kernel
theorem d13_25 : decode j28 25 = .ok (.aload_n 0, 1) := by decide +kernel
theorem d13_26 : decode j28 26 = .ok (.getfield 24, 3) := by decide +kernel
theorem d13_29 : decode j28 29 = .ok (.ifnonnull 4, 3) := by decide +kernel
theorem d13_33 : decode j28 33 = .ok (.aload_n 0, 1) := by decide +kernel
theorem d13_34 : decode j28 34 = .ok (.getfield 24, 3) := by decide +kernel
theorem d13_37 : decode j28 37 = .ok (.getstatic 20, 3) := by decide +kernel
theorem d13_40 : decode j28 40 = .ok (.if_acmp .ne 15, 3) := by decide +kernel
theorem d13_43 : decode j28 43 = .ok (.aload_n 0, 1) := by decide +kernel
theorem d13_44 : decode j28 44 = .ok (.new 233, 3) := by decide +kernel
theorem d13_47 : decode j28 47 = .ok (.dup, 1) := by decide +kernel
theorem d13_48 : decode j28 48 = .ok (.iconst 1, 1) := by decide +kernel
theorem d13_49 : decode j28 49 = .ok (.invokespecial 241, 3) := by decide +kernel
theorem d13_52 : decode j28 52 = .ok (.putfield 24, 3) := by decide +kernel
theorem d13_55 : decode j28 55 = .ok (.aload_n 0, 1) := by decide +kernel
theorem d13_56 : decode j28 56 = .ok (.getfield 24, 3) := by decide +kernel
theorem d13_59 : decode j28 59 = .ok (.aload_n 1, 1) := by decide +kernel
theorem d13_60 : decode j28 60 = .ok (.invokeinterface 301 2, 5) := by decide +kernel
theorem d13_65 : decode j28 65 = .ok (.pop, 1) := by decide +kernel
theorem d13_66 : decode j28 66 = .ok (.return_, 1) := by decide +kernel
theorem owpn13 : plainName "java/lang/Throwable" = true := by first | (simp [plainName, overriddenIn]; done) | decide +kernel
theorem d14_0 : decode j15 0 = .ok (.aload_n 0, 1) := by decide +kernel
theorem d14_1 : decode j15 1 = .ok (.ifnonnull 12, 3) := by decide +kernel
theorem d14_13 : decode j15 13 = .ok (.aload_n 0, 1) := by decide +kernel
theorem d14_14 : decode j15 14 = .ok (.areturn, 1) := by decide +kernel
theorem owpn14 : plainName "java/util/Objects" = true := by first | (simp [plainName, overriddenIn]; done) | decide +kernel
theorem d15_0 : decode j43 0 = .ok (.aload_n 0, 1) := by decide +kernel
theorem d15_1 : decode j43 1 = .ok (.invokespecial 1, 3) := by decide +kernel
theorem d15_4 : decode j43 4 = .ok (.iload_n 1, 1) := by decide +kernel
theorem d15_5 : decode j43 5 = .ok (.ifCond .le 14, 3) := by decide +kernel
theorem d15_8 : decode j43 8 = .ok (.aload_n 0, 1) := by decide +kernel
theorem d15_9 : decode j43 9 = .ok (.iload_n 1, 1) := by decide +kernel
theorem d15_10 : decode j43 10 = .ok (.anewarray 7, 3) := by decide +kernel
theorem d15_13 : decode j43 13 = .ok (.putfield 9, 3) := by decide +kernel
theorem d15_16 : decode j43 16 = .ok (.goto 44, 3) := by decide +kernel
theorem d15_60 : decode j43 60 = .ok (.return_, 1) := by decide +kernel
theorem owpn15 : plainName "java/util/ArrayList" = true := by first | (simp [plainName, overriddenIn]; done) | decide +kernel
theorem d16_0 : decode j39 0 = .ok (.aload_n 0, 1) := by decide +kernel
theorem d16_1 : decode j39 1 = .ok (.invokespecial 1, 3) := by decide +kernel
theorem d16_4 : decode j39 4 = .ok (.aload_n 0, 1) := by decide +kernel
theorem d16_5 : decode j39 5 = .ok (.iconst 0, 1) := by decide +kernel
theorem d16_6 : decode j39 6 = .ok (.putfield 7, 3) := by decide +kernel
theorem d16_9 : decode j39 9 = .ok (.return_, 1) := by decide +kernel
theorem owpn16 : plainName "java/util/AbstractList" = true := by first | (simp [plainName, overriddenIn]; done) | decide +kernel
theorem d17_0 : decode j42 0 = .ok (.aload_n 0, 1) := by decide +kernel
theorem d17_1 : decode j42 1 = .ok (.invokespecial 1, 3) := by decide +kernel
theorem d17_4 : decode j42 4 = .ok (.return_, 1) := by decide +kernel
theorem owpn17 : plainName "java/util/AbstractCollection" = true := by first | (simp [plainName, overriddenIn]; done) | decide +kernel
theorem d18_0 : decode j14 0 = .ok (.aload_n 0, 1) := by decide +kernel
theorem d18_1 : decode j14 1 = .ok (.dup, 1) := by decide +kernel
theorem d18_2 : decode j14 2 = .ok (.getfield 63, 3) := by decide +kernel
theorem d18_5 : decode j14 5 = .ok (.iconst 1, 1) := by decide +kernel
theorem d18_6 : decode j14 6 = .ok (.iadd, 1) := by decide +kernel
theorem d18_7 : decode j14 7 = .ok (.putfield 63, 3) := by decide +kernel
theorem d18_10 : decode j14 10 = .ok (.aload_n 0, 1) := by decide +kernel
theorem d18_11 : decode j14 11 = .ok (.aload_n 1, 1) := by decide +kernel
theorem d18_12 : decode j14 12 = .ok (.aload_n 0, 1) := by decide +kernel
theorem d18_13 : decode j14 13 = .ok (.getfield 9, 3) := by decide +kernel
theorem d18_16 : decode j14 16 = .ok (.aload_n 0, 1) := by decide +kernel
theorem d18_17 : decode j14 17 = .ok (.getfield 48, 3) := by decide +kernel
theorem d18_20 : decode j14 20 = .ok (.invokevirtual 131, 3) := by decide +kernel
theorem d18_23 : decode j14 23 = .ok (.iconst 1, 1) := by decide +kernel
theorem d18_24 : decode j14 24 = .ok (.ireturn, 1) := by decide +kernel
theorem owpn18 : plainName "java/util/ArrayList" = true := by first | (simp [plainName, overriddenIn]; done) | decide +kernel
theorem d19_0 : decode j19 0 = .ok (.iload_n 3, 1) := by decide +kernel
theorem d19_1 : decode j19 1 = .ok (.aload_n 2, 1) := by decide +kernel
theorem d19_2 : decode j19 2 = .ok (.arraylength, 1) := by decide +kernel
theorem d19_3 : decode j19 3 = .ok (.if_icmp .ne 8, 3) := by decide +kernel
theorem d19_6 : decode j19 6 = .ok (.aload_n 0, 1) := by decide +kernel
theorem d19_7 : decode j19 7 = .ok (.invokevirtual 129, 3) := by decide +kernel
theorem d19_10 : decode j19 10 = .ok (.astore_n 2, 1) := by decide +kernel
theorem d19_11 : decode j19 11 = .ok (.aload_n 2, 1) := by decide +kernel
theorem d19_12 : decode j19 12 = .ok (.iload_n 3, 1) := by decide +kernel
theorem d19_13 : decode j19 13 = .ok (.aload_n 1, 1) := by decide +kernel
theorem d19_14 : decode j19 14 = .ok (.aastore, 1) := by decide +kernel
theorem d19_15 : decode j19 15 = .ok (.aload_n 0, 1) := by decide +kernel
theorem d19_16 : decode j19 16 = .ok (.iload_n 3, 1) := by decide +kernel
theorem d19_17 : decode j19 17 = .ok (.iconst 1, 1) := by decide +kernel
theorem d19_18 : decode j19 18 = .ok (.iadd, 1) := by decide +kernel
theorem d19_19 : decode j19 19 = .ok (.putfield 48, 3) := by decide +kernel
theorem d19_22 : decode j19 22 = .ok (.return_, 1) := by decide +kernel
theorem owpn19 : plainName "java/util/ArrayList" = true := by first | (simp [plainName, overriddenIn]; done) | decide +kernel
theorem d20_0 : decode j44 0 = .ok (.aload_n 0, 1) := by decide +kernel
theorem d20_1 : decode j44 1 = .ok (.bipush 16, 2) := by decide +kernel
theorem d20_3 : decode j44 3 = .ok (.invokespecial 1, 3) := by decide +kernel
theorem d20_6 : decode j44 6 = .ok (.return_, 1) := by decide +kernel
theorem owpn20 : plainName "java/lang/StringBuilder" = true := by first | (simp [plainName, overriddenIn]; done) | decide +kernel
theorem d21_0 : decode j36 0 = .ok (.aload_n 0, 1) := by decide +kernel
theorem d21_1 : decode j36 1 = .ok (.invokespecial 3, 3) := by decide +kernel
theorem d21_4 : decode j36 4 = .ok (.getstatic 18, 3) := by decide +kernel
theorem d21_7 : decode j36 7 = .ok (.ifCond .eq 18, 3) := by decide +kernel
theorem d21_10 : decode j36 10 = .ok (.aload_n 0, 1) := by decide +kernel
theorem d21_11 : decode j36 11 = .ok (.iload_n 1, 1) := by decide +kernel
theorem d21_12 : decode j36 12 = .ok (.newarray .byte, 2) := by decide +kernel
theorem d21_14 : decode j36 14 = .ok (.putfield 15, 3) := by decide +kernel
theorem d21_17 : decode j36 17 = .ok (.aload_n 0, 1) := by decide +kernel
theorem d21_18 : decode j36 18 = .ok (.iconst 0, 1) := by decide +kernel
theorem d21_19 : decode j36 19 = .ok (.putfield 22, 3) := by decide +kernel
theorem d21_22 : decode j36 22 = .ok (.goto 16, 3) := by decide +kernel
theorem d21_38 : decode j36 38 = .ok (.return_, 1) := by decide +kernel
theorem owpn21 : plainName "java/lang/AbstractStringBuilder" = true := by first | (simp [plainName, overriddenIn]; done) | decide +kernel
theorem d22_0 : decode j38 0 = .ok (.aload_n 0, 1) := by decide +kernel
theorem d22_1 : decode j38 1 = .ok (.aload_n 1, 1) := by decide +kernel
theorem d22_2 : decode j38 2 = .ok (.invokespecial 29, 3) := by decide +kernel
theorem d22_5 : decode j38 5 = .ok (.pop, 1) := by decide +kernel
theorem d22_6 : decode j38 6 = .ok (.aload_n 0, 1) := by decide +kernel
theorem d22_7 : decode j38 7 = .ok (.areturn, 1) := by decide +kernel
theorem owpn22 : plainName "java/lang/StringBuilder" = true := by first | (simp [plainName, overriddenIn]; done) | decide +kernel
theorem d23_0 : decode j29 0 = .ok (.aload_n 1, 1) := by decide +kernel
theorem d23_1 : decode j29 1 = .ok (.ifnonnull 8, 3) := by decide +kernel
theorem d23_9 : decode j29 9 = .ok (.aload_n 1, 1) := by decide +kernel
theorem d23_10 : decode j29 10 = .ok (.invokevirtual 32, 3) := by decide +kernel
theorem d23_13 : decode j29 13 = .ok (.istore_n 2, 1) := by decide +kernel
theorem d23_14 : decode j29 14 = .ok (.aload_n 0, 1) := by decide +kernel
theorem d23_15 : decode j29 15 = .ok (.aload_n 0, 1) := by decide +kernel
theorem d23_16 : decode j29 16 = .ok (.getfield 79, 3) := by decide +kernel
theorem d23_19 : decode j29 19 = .ok (.iload_n 2, 1) := by decide +kernel
theorem d23_20 : decode j29 20 = .ok (.iadd, 1) := by decide +kernel
theorem d23_21 : decode j29 21 = .ok (.invokevirtual 100, 3) := by decide +kernel
theorem d23_24 : decode j29 24 = .ok (.aload_n 0, 1) := by decide +kernel
theorem d23_25 : decode j29 25 = .ok (.aload_n 0, 1) := by decide +kernel
theorem d23_26 : decode j29 26 = .ok (.getfield 79, 3) := by decide +kernel
theorem d23_29 : decode j29 29 = .ok (.aload_n 1, 1) := by decide +kernel
theorem d23_30 : decode j29 30 = .ok (.invokevirtual 208, 3) := by decide +kernel
theorem d23_33 : decode j29 33 = .ok (.aload_n 0, 1) := by decide +kernel
theorem d23_34 : decode j29 34 = .ok (.dup, 1) := by decide +kernel
theorem d23_35 : decode j29 35 = .ok (.getfield 79, 3) := by decide +kernel
theorem d23_38 : decode j29 38 = .ok (.iload_n 2, 1) := by decide +kernel
theorem d23_39 : decode j29 39 = .ok (.iadd, 1) := by decide +kernel
theorem d23_40 : decode j29 40 = .ok (.putfield 79, 3) := by decide +kernel
theorem d23_43 : decode j29 43 = .ok (.aload_n 0, 1) := by decide +kernel
theorem d23_44 : decode j29 44 = .ok (.areturn, 1) := by decide +kernel
theorem owpn23 : plainName "java/lang/AbstractStringBuilder" = true := by first | (simp [plainName, overriddenIn]; done) | decide +kernel
theorem d24_0 : decode j17 0 = .ok (.aload_n 0, 1) := by decide +kernel
theorem d24_1 : decode j17 1 = .ok (.getfield 9, 3) := by decide +kernel
theorem d24_4 : decode j17 4 = .ok (.arraylength, 1) := by decide +kernel
theorem d24_5 : decode j17 5 = .ok (.aload_n 0, 1) := by decide +kernel
theorem d24_6 : decode j17 6 = .ok (.invokevirtual 335, 3) := by decide +kernel
theorem d24_9 : decode j17 9 = .ok (.ishr, 1) := by decide +kernel
theorem d24_10 : decode j17 10 = .ok (.ireturn, 1) := by decide +kernel
theorem owpn24 : plainName "java/lang/String" = true := by first | (simp [plainName, overriddenIn]; done) | decide +kernel
theorem d25_0 : decode j8 0 = .ok (.getstatic 38, 3) := by decide +kernel
theorem d25_3 : decode j8 3 = .ok (.ifCond .eq 10, 3) := by decide +kernel
theorem d25_6 : decode j8 6 = .ok (.aload_n 0, 1) := by decide +kernel
theorem d25_7 : decode j8 7 = .ok (.getfield 15, 3) := by decide +kernel
theorem d25_10 : decode j8 10 = .ok (.goto 4, 3) := by decide +kernel
theorem d25_14 : decode j8 14 = .ok (.ireturn, 1) := by decide +kernel
theorem owpn25 : plainName "java/lang/String" = true := by first | (simp [plainName, overriddenIn]; done) | decide +kernel
theorem d26_0 : decode j33 0 = .ok (.aload_n 0, 1) := by decide +kernel
theorem d26_1 : decode j33 1 = .ok (.getfield 15, 3) := by decide +kernel
theorem d26_4 : decode j33 4 = .ok (.arraylength, 1) := by decide +kernel
theorem d26_5 : decode j33 5 = .ok (.aload_n 0, 1) := by decide +kernel
theorem d26_6 : decode j33 6 = .ok (.getfield 22, 3) := by decide +kernel
theorem d26_9 : decode j33 9 = .ok (.ishr, 1) := by decide +kernel
theorem d26_10 : decode j33 10 = .ok (.istore_n 2, 1) := by decide +kernel
theorem d26_11 : decode j33 11 = .ok (.iload_n 1, 1) := by decide +kernel
theorem d26_12 : decode j33 12 = .ok (.iload_n 2, 1) := by decide +kernel
theorem d26_13 : decode j33 13 = .ok (.isub, 1) := by decide +kernel
theorem d26_14 : decode j33 14 = .ok (.ifCond .le 24, 3) := by decide +kernel
theorem d26_17 : decode j33 17 = .ok (.aload_n 0, 1) := by decide +kernel
theorem d26_18 : decode j33 18 = .ok (.aload_n 0, 1) := by decide +kernel
theorem d26_19 : decode j33 19 = .ok (.getfield 15, 3) := by decide +kernel
theorem d26_22 : decode j33 22 = .ok (.aload_n 0, 1) := by decide +kernel
theorem d26_23 : decode j33 23 = .ok (.iload_n 1, 1) := by decide +kernel
theorem d26_24 : decode j33 24 = .ok (.invokevirtual 104, 3) := by decide +kernel
theorem d26_27 : decode j33 27 = .ok (.aload_n 0, 1) := by decide +kernel
theorem d26_28 : decode j33 28 = .ok (.getfield 22, 3) := by decide +kernel
theorem d26_31 : decode j33 31 = .ok (.ishl, 1) := by decide +kernel
theorem d26_32 : decode j33 32 = .ok (.invokestatic 108, 3) := by decide +kernel
theorem d26_35 : decode j33 35 = .ok (.putfield 15, 3) := by decide +kernel
theorem d26_38 : decode j33 38 = .ok (.return_, 1) := by decide +kernel
theorem owpn26 : plainName "java/lang/AbstractStringBuilder" = true := by first | (simp [plainName, overriddenIn]; done) | decide +kernel
theorem d27_0 : decode j24 0 = .ok (.aload_n 0, 1) := by decide +kernel
theorem d27_1 : decode j24 1 = .ok (.aload_n 2, 1) := by decide +kernel
theorem d27_2 : decode j24 2 = .ok (.invokevirtual 397, 3) := by decide +kernel
theorem d27_5 : decode j24 5 = .ok (.aload_n 2, 1) := by decide +kernel
theorem d27_6 : decode j24 6 = .ok (.aload_n 0, 1) := by decide +kernel
theorem d27_7 : decode j24 7 = .ok (.getfield 15, 3) := by decide +kernel
theorem d27_10 : decode j24 10 = .ok (.iload_n 1, 1) := by decide +kernel
theorem d27_11 : decode j24 11 = .ok (.aload_n 0, 1) := by decide +kernel
theorem d27_12 : decode j24 12 = .ok (.getfield 22, 3) := by decide +kernel
theorem d27_15 : decode j24 15 = .ok (.invokevirtual 399, 3) := by decide +kernel
theorem d27_18 : decode j24 18 = .ok (.return_, 1) := by decide +kernel
theorem owpn27 : plainName "java/lang/AbstractStringBuilder" = true := by first | (simp [plainName, overriddenIn]; done) | decide +kernel
theorem d28_0 : decode j21 0 = .ok (.getstatic 18, 3) := by decide +kernel
theorem d28_3 : decode j21 3 = .ok (.ifCond .eq 18, 3) := by decide +kernel
theorem d28_6 : decode j21 6 = .ok (.aload_n 0, 1) := by decide +kernel
theorem d28_7 : decode j21 7 = .ok (.getfield 22, 3) := by decide +kernel
theorem d28_10 : decode j21 10 = .ok (.aload_n 1, 1) := by decide +kernel
theorem d28_11 : decode j21 11 = .ok (.invokevirtual 40, 3) := by decide +kernel
theorem d28_14 : decode j21 14 = .ok (.if_icmp .eq 7, 3) := by decide +kernel
theorem d28_21 : decode j21 21 = .ok (.return_, 1) := by decide +kernel
theorem owpn28 : plainName "java/lang/AbstractStringBuilder" = true := by first | (simp [plainName, overriddenIn]; done) | decide +kernel
theorem d29_0 : decode j1 0 = .ok (.aload_n 0, 1) := by decide +kernel
theorem d29_1 : decode j1 1 = .ok (.invokevirtual 335, 3) := by decide +kernel
theorem d29_4 : decode j1 4 = .ok (.iload_n 3, 1) := by decide +kernel
theorem d29_5 : decode j1 5 = .ok (.if_icmp .ne 23, 3) := by decide +kernel
theorem d29_8 : decode j1 8 = .ok (.aload_n 0, 1) := by decide +kernel
theorem d29_9 : decode j1 9 = .ok (.getfield 9, 3) := by decide +kernel
theorem d29_12 : decode j1 12 = .ok (.iconst 0, 1) := by decide +kernel
theorem d29_13 : decode j1 13 = .ok (.aload_n 1, 1) := by decide +kernel
theorem d29_14 : decode j1 14 = .ok (.iload_n 2, 1) := by decide +kernel
theorem d29_15 : decode j1 15 = .ok (.iload_n 3, 1) := by decide +kernel
theorem d29_16 : decode j1 16 = .ok (.ishl, 1) := by decide +kernel
theorem d29_17 : decode j1 17 = .ok (.aload_n 0, 1) := by decide +kernel
theorem d29_18 : decode j1 18 = .ok (.getfield 9, 3) := by decide +kernel
theorem d29_21 : decode j1 21 = .ok (.arraylength, 1) := by decide +kernel
theorem d29_22 : decode j1 22 = .ok (.invokestatic 212, 3) := by decide +kernel
theorem d29_25 : decode j1 25 = .ok (.goto 18, 3) := by decide +kernel
theorem d29_43 : decode j1 43 = .ok (.return_, 1) := by decide +kernel
theorem owpn29 : plainName "java/lang/String" = true := by first | (simp [plainName, overriddenIn]; done) | decide +kernel
theorem d30_0 : decode j11 0 = .ok (.aload_n 0, 1) := by decide +kernel
theorem d30_1 : decode j11 1 = .ok (.getfield 15, 3) := by decide +kernel
theorem d30_4 : decode j11 4 = .ok (.arraylength, 1) := by decide +kernel
theorem d30_5 : decode j11 5 = .ok (.istore_n 2, 1) := by decide +kernel
theorem d30_6 : decode j11 6 = .ok (.iload_n 1, 1) := by decide +kernel
theorem d30_7 : decode j11 7 = .ok (.aload_n 0, 1) := by decide +kernel
theorem d30_8 : decode j11 8 = .ok (.getfield 22, 3) := by decide +kernel
theorem d30_11 : decode j11 11 = .ok (.ishl, 1) := by decide +kernel
theorem d30_12 : decode j11 12 = .ok (.istore_n 3, 1) := by decide +kernel
theorem d30_13 : decode j11 13 = .ok (.iload_n 3, 1) := by decide +kernel
theorem d30_14 : decode j11 14 = .ok (.iload_n 2, 1) := by decide +kernel
theorem d30_15 : decode j11 15 = .ok (.isub, 1) := by decide +kernel
theorem d30_16 : decode j11 16 = .ok (.istore 4, 2) := by decide +kernel
theorem d30_18 : decode j11 18 = .ok (.iload_n 2, 1) := by decide +kernel
theorem d30_19 : decode j11 19 = .ok (.iload 4, 2) := by decide +kernel
theorem d30_21 : decode j11 21 = .ok (.iload_n 2, 1) := by decide +kernel
theorem d30_22 : decode j11 22 = .ok (.iconst 2, 1) := by decide +kernel
theorem d30_23 : decode j11 23 = .ok (.aload_n 0, 1) := by decide +kernel
theorem d30_24 : decode j11 24 = .ok (.getfield 22, 3) := by decide +kernel
theorem d30_27 : decode j11 27 = .ok (.ishl, 1) := by decide +kernel
theorem d30_28 : decode j11 28 = .ok (.iadd, 1) := by decide +kernel
theorem d30_29 : decode j11 29 = .ok (.invokestatic 114, 3) := by decide +kernel
theorem d30_32 : decode j11 32 = .ok (.istore 5, 2) := by decide +kernel
theorem d30_34 : decode j11 34 = .ok (.iload 5, 2) := by decide +kernel
theorem d30_36 : decode j11 36 = .ok (.ldc 39, 2) := by decide +kernel
theorem d30_38 : decode j11 38 = .ok (.if_icmp .ne 13, 3) := by decide +kernel
theorem d30_51 : decode j11 51 = .ok (.iload 5, 2) := by decide +kernel
theorem d30_53 : decode j11 53 = .ok (.aload_n 0, 1) := by decide +kernel
theorem d30_54 : decode j11 54 = .ok (.getfield 22, 3) := by decide +kernel
theorem d30_57 : decode j11 57 = .ok (.ishr, 1) := by decide +kernel
theorem d30_58 : decode j11 58 = .ok (.ireturn, 1) := by decide +kernel
theorem owpn30 : plainName "java/lang/AbstractStringBuilder" = true := by first | (simp [plainName, overriddenIn]; done) | decide +kernel
theorem d31_0 : decode j16 0 = .ok (.iload_n 0, 1) := by decide +kernel
theorem d31_1 : decode j16 1 = .ok (.iload_n 1, 1) := by decide +kernel
theorem d31_2 : decode j16 2 = .ok (.iload_n 2, 1) := by decide +kernel
theorem d31_3 : decode j16 3 = .ok (.invokestatic 194, 3) := by decide +kernel
theorem d31_6 : decode j16 6 = .ok (.iadd, 1) := by decide +kernel
theorem d31_7 : decode j16 7 = .ok (.istore_n 3, 1) := by decide +kernel
theorem d31_8 : decode j16 8 = .ok (.iconst 0, 1) := by decide +kernel
theorem d31_9 : decode j16 9 = .ok (.iload_n 3, 1) := by decide +kernel
theorem d31_10 : decode j16 10 = .ok (.if_icmp .ge 11, 3) := by decide +kernel
theorem d31_13 : decode j16 13 = .ok (.iload_n 3, 1) := by decide +kernel
theorem d31_14 : decode j16 14 = .ok (.ldc 200, 2) := by decide +kernel
theorem d31_16 : decode j16 16 = .ok (.if_icmp .gt 5, 3) := by decide +kernel
theorem d31_19 : decode j16 19 = .ok (.iload_n 3, 1) := by decide +kernel
theorem d31_20 : decode j16 20 = .ok (.ireturn, 1) := by decide +kernel
theorem owpn31 : plainName "jdk/internal/util/ArraysSupport" = true := by first | (simp [plainName, overriddenIn]; done) | decide +kernel
theorem d32_0 : decode j12 0 = .ok (.iload_n 0, 1) := by decide +kernel
theorem d32_1 : decode j12 1 = .ok (.iload_n 1, 1) := by decide +kernel
theorem d32_2 : decode j12 2 = .ok (.if_icmp .lt 7, 3) := by decide +kernel
theorem d32_5 : decode j12 5 = .ok (.iload_n 0, 1) := by decide +kernel
theorem d32_6 : decode j12 6 = .ok (.goto 4, 3) := by decide +kernel
theorem d32_9 : decode j12 9 = .ok (.iload_n 1, 1) := by decide +kernel
theorem d32_10 : decode j12 10 = .ok (.ireturn, 1) := by decide +kernel
theorem d33_0 : decode j3 0 = .ok (.iload_n 1, 1) := by decide +kernel
theorem d33_1 : decode j3 1 = .ok (.aload_n 0, 1) := by decide +kernel
theorem d33_2 : decode j3 2 = .ok (.arraylength, 1) := by decide +kernel
theorem d33_3 : decode j3 3 = .ok (.if_icmp .ne 11, 3) := by decide +kernel
theorem d33_14 : decode j3 14 = .ok (.iload_n 1, 1) := by decide +kernel
theorem d33_15 : decode j3 15 = .ok (.newarray .byte, 2) := by decide +kernel
theorem d33_17 : decode j3 17 = .ok (.astore_n 2, 1) := by decide +kernel
theorem d33_18 : decode j3 18 = .ok (.aload_n 0, 1) := by decide +kernel
theorem d33_19 : decode j3 19 = .ok (.iconst 0, 1) := by decide +kernel
theorem d33_20 : decode j3 20 = .ok (.aload_n 2, 1) := by decide +kernel
theorem d33_21 : decode j3 21 = .ok (.iconst 0, 1) := by decide +kernel
theorem d33_22 : decode j3 22 = .ok (.aload_n 0, 1) := by decide +kernel
theorem d33_23 : decode j3 23 = .ok (.arraylength, 1) := by decide +kernel
theorem d33_24 : decode j3 24 = .ok (.iload_n 1, 1) := by decide +kernel
theorem d33_25 : decode j3 25 = .ok (.invokestatic 304, 3) := by decide +kernel
theorem d33_28 : decode j3 28 = .ok (.invokestatic 150, 3) := by decide +kernel
theorem d33_31 : decode j3 31 = .ok (.aload_n 2, 1) := by decide +kernel
theorem d33_32 : decode j3 32 = .ok (.areturn, 1) := by decide +kernel
theorem owpn33 : plainName "java/util/Arrays" = true := by first | (simp [plainName, overriddenIn]; done) | decide +kernel
theorem d34_0 : decode j18 0 = .ok (.iload_n 0, 1) := by decide +kernel
theorem d34_1 : decode j18 1 = .ok (.iload_n 1, 1) := by decide +kernel
theorem d34_2 : decode j18 2 = .ok (.if_icmp .gt 7, 3) := by decide +kernel
theorem d34_5 : decode j18 5 = .ok (.iload_n 0, 1) := by decide +kernel
theorem d34_6 : decode j18 6 = .ok (.goto 4, 3) := by decide +kernel
theorem d34_9 : decode j18 9 = .ok (.iload_n 1, 1) := by decide +kernel
theorem d34_10 : decode j18 10 = .ok (.ireturn, 1) := by decide +kernel
theorem d35_0 : decode j22 0 = .ok (.new 18, 3) := by decide +kernel
theorem d35_3 : decode j22 3 = .ok (.dup, 1) := by decide +kernel
theorem d35_4 : decode j22 4 = .ok (.aload_n 0, 1) := by decide +kernel
theorem d35_5 : decode j22 5 = .ok (.invokespecial 137, 3) := by decide +kernel
theorem d35_8 : decode j22 8 = .ok (.areturn, 1) := by decide +kernel
theorem owpn35 : plainName "java/lang/StringBuilder" = true := by first | (simp [plainName, overriddenIn]; done) | decide +kernel
theorem d36_0 : decode j26 0 = .ok (.aload_n 0, 1) := by decide +kernel
theorem d36_1 : decode j26 1 = .ok (.aload_n 1, 1) := by decide +kernel
theorem d36_2 : decode j26 2 = .ok (.aconst_null, 1) := by decide +kernel
theorem d36_3 : decode j26 3 = .ok (.invokespecial 489, 3) := by decide +kernel
theorem d36_6 : decode j26 6 = .ok (.return_, 1) := by decide +kernel
theorem owpn36 : plainName "java/lang/String" = true := by first | (simp [plainName, overriddenIn]; done) | decide +kernel
theorem d37_0 : decode j5 0 = .ok (.aload_n 0, 1) := by decide +kernel
theorem d37_1 : decode j5 1 = .ok (.invokespecial 1, 3) := by decide +kernel
theorem d37_4 : decode j5 4 = .ok (.aload_n 1, 1) := by decide +kernel
theorem d37_5 : decode j5 5 = .ok (.invokevirtual 552, 3) := by decide +kernel
theorem d37_8 : decode j5 8 = .ok (.astore_n 3, 1) := by decide +kernel
theorem d37_9 : decode j5 9 = .ok (.aload_n 1, 1) := by decide +kernel
theorem d37_10 : decode j5 10 = .ok (.invokevirtual 549, 3) := by decide +kernel
theorem d37_13 : decode j5 13 = .ok (.istore 4, 2) := by decide +kernel
theorem d37_15 : decode j5 15 = .ok (.aload_n 1, 1) := by decide +kernel
theorem d37_16 : decode j5 16 = .ok (.invokevirtual 1047, 3) := by decide +kernel
theorem d37_19 : decode j5 19 = .ok (.ifCond .eq 22, 3) := by decide +kernel
theorem d37_22 : decode j5 22 = .ok (.aload_n 0, 1) := by decide +kernel
theorem d37_23 : decode j5 23 = .ok (.iconst 0, 1) := by decide +kernel
theorem d37_24 : decode j5 24 = .ok (.putfield 15, 3) := by decide +kernel
theorem d37_27 : decode j5 27 = .ok (.aload_n 0, 1) := by decide +kernel
theorem d37_28 : decode j5 28 = .ok (.aload_n 3, 1) := by decide +kernel
theorem d37_29 : decode j5 29 = .ok (.iconst 0, 1) := by decide +kernel
theorem d37_30 : decode j5 30 = .ok (.iload 4, 2) := by decide +kernel
theorem d37_32 : decode j5 32 = .ok (.invokestatic 54, 3) := by decide +kernel
theorem d37_35 : decode j5 35 = .ok (.putfield 9, 3) := by decide +kernel
theorem d37_38 : decode j5 38 = .ok (.goto 59, 3) := by decide +kernel
theorem d37_97 : decode j5 97 = .ok (.return_, 1) := by decide +kernel
theorem owpn37 : plainName "java/lang/String" = true := by first | (simp [plainName, overriddenIn]; done) | decide +kernel
theorem d38_0 : decode j31 0 = .ok (.aload_n 0, 1) := by decide +kernel
theorem d38_1 : decode j31 1 = .ok (.getfield 15, 3) := by decide +kernel
theorem d38_4 : decode j31 4 = .ok (.areturn, 1) := by decide +kernel
theorem owpn38 : plainName "java/lang/AbstractStringBuilder" = true := by first | (simp [plainName, overriddenIn]; done) | decide +kernel
theorem d39_0 : decode j32 0 = .ok (.aload_n 0, 1) := by decide +kernel
theorem d39_1 : decode j32 1 = .ok (.invokespecial 343, 3) := by decide +kernel
theorem d39_4 : decode j32 4 = .ok (.ireturn, 1) := by decide +kernel
theorem owpn39 : plainName "java/lang/StringBuilder" = true := by first | (simp [plainName, overriddenIn]; done) | decide +kernel
theorem d40_0 : decode j41 0 = .ok (.aload_n 0, 1) := by decide +kernel
theorem d40_1 : decode j41 1 = .ok (.getfield 79, 3) := by decide +kernel
theorem d40_4 : decode j41 4 = .ok (.ireturn, 1) := by decide +kernel
theorem owpn40 : plainName "java/lang/AbstractStringBuilder" = true := by first | (simp [plainName, overriddenIn]; done) | decide +kernel
theorem d41_0 : decode j27 0 = .ok (.getstatic 18, 3) := by decide +kernel
theorem d41_3 : decode j27 3 = .ok (.ifCond .eq 14, 3) := by decide +kernel
theorem d41_6 : decode j27 6 = .ok (.aload_n 0, 1) := by decide +kernel
theorem d41_7 : decode j27 7 = .ok (.getfield 22, 3) := by decide +kernel
theorem d41_10 : decode j27 10 = .ok (.ifCond .ne 7, 3) := by decide +kernel
theorem d41_13 : decode j27 13 = .ok (.iconst 1, 1) := by decide +kernel
theorem d41_14 : decode j27 14 = .ok (.goto 4, 3) := by decide +kernel
theorem d41_18 : decode j27 18 = .ok (.ireturn, 1) := by decide +kernel
theorem owpn41 : plainName "java/lang/AbstractStringBuilder" = true := by first | (simp [plainName, overriddenIn]; done) | decide +kernel
theorem d42_0 : decode j4 0 = .ok (.iload_n 1, 1) := by decide +kernel
theorem d42_1 : decode j4 1 = .ok (.ifCond .ne 9, 3) := by decide +kernel
theorem d42_4 : decode j4 4 = .ok (.iload_n 2, 1) := by decide +kernel
theorem d42_5 : decode j4 5 = .ok (.aload_n 0, 1) := by decide +kernel
theorem d42_6 : decode j4 6 = .ok (.arraylength, 1) := by decide +kernel
theorem d42_7 : decode j4 7 = .ok (.if_icmp .eq 10, 3) := by decide +kernel
theorem d42_10 : decode j4 10 = .ok (.aload_n 0, 1) := by decide +kernel
theorem d42_11 : decode j4 11 = .ok (.iload_n 1, 1) := by decide +kernel
theorem d42_12 : decode j4 12 = .ok (.iload_n 2, 1) := by decide +kernel
theorem d42_13 : decode j4 13 = .ok (.invokestatic 339, 3) := by decide +kernel
theorem d42_16 : decode j4 16 = .ok (.areturn, 1) := by decide +kernel
theorem owpn42 : plainName "java/util/Arrays" = true := by first | (simp [plainName, overriddenIn]; done) | decide +kernel
theorem d43_0 : decode j2 0 = .ok (.iload_n 1, 1) := by decide +kernel
theorem d43_1 : decode j2 1 = .ok (.iload_n 2, 1) := by decide +kernel
theorem d43_2 : decode j2 2 = .ok (.invokestatic 343, 3) := by decide +kernel
theorem d43_5 : decode j2 5 = .ok (.iload_n 2, 1) := by decide +kernel
theorem d43_6 : decode j2 6 = .ok (.iload_n 1, 1) := by decide +kernel
theorem d43_7 : decode j2 7 = .ok (.isub, 1) := by decide +kernel
theorem d43_8 : decode j2 8 = .ok (.istore_n 3, 1) := by decide +kernel
theorem d43_9 : decode j2 9 = .ok (.iload_n 3, 1) := by decide +kernel
theorem d43_10 : decode j2 10 = .ok (.newarray .byte, 2) := by decide +kernel
theorem d43_12 : decode j2 12 = .ok (.astore 4, 2) := by decide +kernel
theorem d43_14 : decode j2 14 = .ok (.aload_n 0, 1) := by decide +kernel
theorem d43_15 : decode j2 15 = .ok (.iload_n 1, 1) := by decide +kernel
theorem d43_16 : decode j2 16 = .ok (.aload 4, 2) := by decide +kernel
theorem d43_18 : decode j2 18 = .ok (.iconst 0, 1) := by decide +kernel
theorem d43_19 : decode j2 19 = .ok (.aload_n 0, 1) := by decide +kernel
theorem d43_20 : decode j2 20 = .ok (.arraylength, 1) := by decide +kernel
theorem d43_21 : decode j2 21 = .ok (.iload_n 1, 1) := by decide +kernel
theorem d43_22 : decode j2 22 = .ok (.isub, 1) := by decide +kernel
theorem d43_23 : decode j2 23 = .ok (.iload_n 3, 1) := by decide +kernel
theorem d43_24 : decode j2 24 = .ok (.invokestatic 304, 3) := by decide +kernel
theorem d43_27 : decode j2 27 = .ok (.invokestatic 150, 3) := by decide +kernel
theorem d43_30 : decode j2 30 = .ok (.aload 4, 2) := by decide +kernel
theorem d43_32 : decode j2 32 = .ok (.areturn, 1) := by decide +kernel
theorem owpn43 : plainName "java/util/Arrays" = true := by first | (simp [plainName, overriddenIn]; done) | decide +kernel
theorem d44_0 : decode j6 0 = .ok (.iload_n 1, 1) := by decide +kernel
theorem d44_1 : decode j6 1 = .ok (.iload_n 0, 1) := by decide +kernel
theorem d44_2 : decode j6 2 = .ok (.if_icmp .ge 35, 3) := by decide +kernel
theorem d44_37 : decode j6 37 = .ok (.return_, 1) := by decide +kernel
theorem owpn44 : plainName "java/util/Arrays" = true := by first | (simp [plainName, overriddenIn]; done) | decide +kernel
theorem d45_0 : decode j37 0 = .ok (.aload_n 0, 1) := by decide +kernel
theorem d45_1 : decode j37 1 = .ok (.aload_n 0, 1) := by decide +kernel
theorem d45_2 : decode j37 2 = .ok (.getfield 48, 3) := by decide +kernel
theorem d45_5 : decode j37 5 = .ok (.iconst 1, 1) := by decide +kernel
theorem d45_6 : decode j37 6 = .ok (.iadd, 1) := by decide +kernel
theorem d45_7 : decode j37 7 = .ok (.invokevirtual 69, 3) := by decide +kernel
theorem d45_10 : decode j37 10 = .ok (.areturn, 1) := by decide +kernel
theorem owpn45 : plainName "java/util/ArrayList" = true := by first | (simp [plainName, overriddenIn]; done) | decide +kernel
theorem d46_0 : decode j35 0 = .ok (.aload_n 0, 1) := by decide +kernel
theorem d46_1 : decode j35 1 = .ok (.getfield 9, 3) := by decide +kernel
theorem d46_4 : decode j35 4 = .ok (.arraylength, 1) := by decide +kernel
theorem d46_5 : decode j35 5 = .ok (.istore_n 2, 1) := by decide +kernel
theorem d46_6 : decode j35 6 = .ok (.iload_n 2, 1) := by decide +kernel
theorem d46_7 : decode j35 7 = .ok (.ifCond .gt 13, 3) := by decide +kernel
theorem d46_20 : decode j35 20 = .ok (.iload_n 2, 1) := by decide +kernel
theorem d46_21 : decode j35 21 = .ok (.iload_n 1, 1) := by decide +kernel
theorem d46_22 : decode j35 22 = .ok (.iload_n 2, 1) := by decide +kernel
theorem d46_23 : decode j35 23 = .ok (.isub, 1) := by decide +kernel
theorem d46_24 : decode j35 24 = .ok (.iload_n 2, 1) := by decide +kernel
theorem d46_25 : decode j35 25 = .ok (.iconst 1, 1) := by decide +kernel
theorem d46_26 : decode j35 26 = .ok (.ishr, 1) := by decide +kernel
theorem d46_27 : decode j35 27 = .ok (.invokestatic 73, 3) := by decide +kernel
theorem d46_30 : decode j35 30 = .ok (.istore_n 3, 1) := by decide +kernel
theorem d46_31 : decode j35 31 = .ok (.aload_n 0, 1) := by decide +kernel
theorem d46_32 : decode j35 32 = .ok (.aload_n 0, 1) := by decide +kernel
theorem d46_33 : decode j35 33 = .ok (.getfield 9, 3) := by decide +kernel
theorem d46_36 : decode j35 36 = .ok (.iload_n 3, 1) := by decide +kernel
theorem d46_37 : decode j35 37 = .ok (.invokestatic 66, 3) := by decide +kernel
theorem d46_40 : decode j35 40 = .ok (.dup_x1, 1) := by decide +kernel
theorem d46_41 : decode j35 41 = .ok (.putfield 9, 3) := by decide +kernel
theorem d46_44 : decode j35 44 = .ok (.areturn, 1) := by decide +kernel
theorem owpn46 : plainName "java/util/ArrayList" = true := by first | (simp [plainName, overriddenIn]; done) | decide +kernel
theorem d47_0 : decode j7 0 = .ok (.aload_n 0, 1) := by decide +kernel
theorem d47_1 : decode j7 1 = .ok (.iload_n 1, 1) := by decide +kernel
theorem d47_2 : decode j7 2 = .ok (.aload_n 0, 1) := by decide +kernel
theorem d47_3 : decode j7 3 = .ok (.invokevirtual 86, 3) := by decide +kernel
theorem d47_6 : decode j7 6 = .ok (.invokestatic 300, 3) := by decide +kernel
theorem d47_9 : decode j7 9 = .ok (.areturn, 1) := by decide +kernel
theorem owpn47 : plainName "java/util/Arrays" = true := by first | (simp [plainName, overriddenIn]; done) | decide +kernel
theorem d48_0 : decode j0 0 = .ok (.aload_n 2, 1) := by decide +kernel
theorem d48_1 : decode j0 1 = .ok (.ldc 110, 2) := by decide +kernel
theorem d48_3 : decode j0 3 = .ok (.if_acmp .ne 10, 3) := by decide +kernel
theorem d48_6 : decode j0 6 = .ok (.iload_n 1, 1) := by decide +kernel
theorem d48_7 : decode j0 7 = .ok (.anewarray 2, 3) := by decide +kernel
theorem d48_10 : decode j0 10 = .ok (.goto 14, 3) := by decide +kernel
theorem d48_24 : decode j0 24 = .ok (.astore_n 3, 1) := by decide +kernel
theorem d48_25 : decode j0 25 = .ok (.aload_n 0, 1) := by decide +kernel
theorem d48_26 : decode j0 26 = .ok (.iconst 0, 1) := by decide +kernel
theorem d48_27 : decode j0 27 = .ok (.aload_n 3, 1) := by decide +kernel
theorem d48_28 : decode j0 28 = .ok (.iconst 0, 1) := by decide +kernel
theorem d48_29 : decode j0 29 = .ok (.aload_n 0, 1) := by decide +kernel
theorem d48_30 : decode j0 30 = .ok (.arraylength, 1) := by decide +kernel
theorem d48_31 : decode j0 31 = .ok (.iload_n 1, 1) := by decide +kernel
theorem d48_32 : decode j0 32 = .ok (.invokestatic 304, 3) := by decide +kernel
theorem d48_35 : decode j0 35 = .ok (.invokestatic 150, 3) := by decide +kernel
theorem d48_38 : decode j0 38 = .ok (.aload_n 3, 1) := by decide +kernel
theorem d48_39 : decode j0 39 = .ok (.areturn, 1) := by decide +kernel
theorem owpn48 : plainName "java/util/Arrays" = true := by first | (simp [plainName, overriddenIn]; done) | decide +kernel
theorem owpn0 : plainName "com/example/portable_transactions/portabletransactions/transaction/UnitEndingIsSettledPinLaw" = true := by first | (simp [plainName, overriddenIn]; done) | decide +kernel
theorem owpd0 : parseMethodDescriptor "()V" = some ⟨[], none⟩ := by decide +kernel
theorem owpd1 : parseMethodDescriptor "(I)V" = some ⟨[.int], none⟩ := by decide +kernel
theorem owpd2 : parseMethodDescriptor "()B" = some ⟨[], some .byte⟩ := by decide +kernel
theorem owpd3 : parseMethodDescriptor "(Ljava/lang/String;)V" = some ⟨[(.object "java/lang/String")], none⟩ := by decide +kernel
theorem owpd4 : parseMethodDescriptor "([BIB)V" = some ⟨[(.array .byte), .int, .byte], none⟩ := by decide +kernel
theorem owpd5 : parseMethodDescriptor "()I" = some ⟨[], some .int⟩ := by decide +kernel
theorem owpd6 : parseMethodDescriptor "(ILjava/lang/String;)V" = some ⟨[.int, (.object "java/lang/String")], none⟩ := by decide +kernel
theorem owpd7 : parseMethodDescriptor "(Ljava/lang/String;)Ljava/lang/AbstractStringBuilder;" = some ⟨[(.object "java/lang/String")], some (.object "java/lang/AbstractStringBuilder")⟩ := by decide +kernel
theorem owpd8 : parseMethodDescriptor "(II)I" = some ⟨[.int, .int], some .int⟩ := by decide +kernel
theorem owpd9 : parseMethodDescriptor "(III)I" = some ⟨[.int, .int, .int], some .int⟩ := by decide +kernel
theorem owpd10 : parseMethodDescriptor "(I)I" = some ⟨[.int], some .int⟩ := by decide +kernel
theorem owpd11 : parseMethodDescriptor "([BI)[B" = some ⟨[(.array .byte), .int], some (.array .byte)⟩ := by decide +kernel
theorem owpd12 : parseMethodDescriptor "(II)V" = some ⟨[.int, .int], none⟩ := by decide +kernel
theorem owpd13 : parseMethodDescriptor "([BII)[B" = some ⟨[(.array .byte), .int, .int], some (.array .byte)⟩ := by decide +kernel
theorem owpd14 : parseMethodDescriptor "()[B" = some ⟨[], some (.array .byte)⟩ := by decide +kernel
theorem owpd15 : parseMethodDescriptor "()Z" = some ⟨[], some .boolean⟩ := by decide +kernel
theorem owpd16 : parseMethodDescriptor "(Ljava/lang/AbstractStringBuilder;Ljava/lang/Void;)V" = some ⟨[(.object "java/lang/AbstractStringBuilder"), (.object "java/lang/Void")], none⟩ := by decide +kernel
theorem owpd17 : parseMethodDescriptor "(Ljava/lang/StringBuilder;)V" = some ⟨[(.object "java/lang/StringBuilder")], none⟩ := by decide +kernel
theorem owpd18 : parseMethodDescriptor "(Ljava/lang/Object;[Ljava/lang/Object;I)V" = some ⟨[(.object "java/lang/Object"), (.array (.object "java/lang/Object")), .int], none⟩ := by decide +kernel
theorem owpd19 : parseMethodDescriptor "([Ljava/lang/Object;ILjava/lang/Class;)[Ljava/lang/Object;" = some ⟨[(.array (.object "java/lang/Object")), .int, (.object "java/lang/Class")], some (.array (.object "java/lang/Object"))⟩ := by decide +kernel
theorem owpd20 : parseMethodDescriptor "([Ljava/lang/Object;I)[Ljava/lang/Object;" = some ⟨[(.array (.object "java/lang/Object")), .int], some (.array (.object "java/lang/Object"))⟩ := by decide +kernel
theorem owpd21 : parseMethodDescriptor "(I)[Ljava/lang/Object;" = some ⟨[.int], some (.array (.object "java/lang/Object"))⟩ := by decide +kernel
theorem owpd22 : parseMethodDescriptor "()[Ljava/lang/Object;" = some ⟨[], some (.array (.object "java/lang/Object"))⟩ := by decide +kernel
theorem owpd23 : parseMethodDescriptor "(Ljava/lang/Object;Ljava/lang/String;)Ljava/lang/Object;" = some ⟨[(.object "java/lang/Object"), (.object "java/lang/String")], some (.object "java/lang/Object")⟩ := by decide +kernel
theorem owpd24 : parseMethodDescriptor "(Ljava/lang/Object;)Z" = some ⟨[(.object "java/lang/Object")], some .boolean⟩ := by decide +kernel
theorem owpd25 : parseMethodDescriptor "(Ljava/lang/String;)Ljava/lang/StringBuilder;" = some ⟨[(.object "java/lang/String")], some (.object "java/lang/StringBuilder")⟩ := by decide +kernel
theorem owpd26 : parseMethodDescriptor "()Ljava/lang/String;" = some ⟨[], some (.object "java/lang/String")⟩ := by decide +kernel
theorem owpd27 : parseMethodDescriptor "(Ljava/lang/Throwable;)V" = some ⟨[(.object "java/lang/Throwable")], none⟩ := by decide +kernel
theorem owpd28 : parseMethodDescriptor "(Ljava/lang/Exception;Z)V" = some ⟨[(.object "java/lang/Exception"), .boolean], none⟩ := by decide +kernel
theorem owpd29 : parseMethodDescriptor "(Ljava/lang/Exception;)V" = some ⟨[(.object "java/lang/Exception")], none⟩ := by decide +kernel
theorem owpd30 : parseMethodDescriptor "(Ljava/lang/Exception;Ljava/lang/String;)V" = some ⟨[(.object "java/lang/Exception"), (.object "java/lang/String")], none⟩ := by decide +kernel
theorem owpd31 : parseMethodDescriptor "(Z)V" = some ⟨[.boolean], none⟩ := by decide +kernel
theorem owpd32 : parseMethodDescriptor "(Lcom/example/portable_transactions/portabletransactions/transaction/UnitEnding;ILjava/lang/Exception;)V" = some ⟨[(.object "com/example/portable_transactions/portabletransactions/transaction/UnitEnding"), .int, (.object "java/lang/Exception")], none⟩ := by decide +kernel
theorem owpd33 : parseMethodDescriptor "(IZ)Z" = some ⟨[.int, .boolean], some .boolean⟩ := by decide +kernel
def OwW (Z : State) (qqR : Addr) (qqN : Addr) (qqK : Addr) (qqU : Addr) (qqS : Addr) (qqE : Addr) (qqI : Int32) (qqM : Addr) : Prop := (Exa Z Z.heap qqS "java/util/Collections$EmptyList") ∧ (¬ qqI = (0 : Int32)) ∧ (Sta Z Z.heap "com/example/portable_transactions/portabletransactions/transaction/UnitEnding$Work" "ROLLED_BACK" "Lcom/example/portable_transactions/portabletransactions/transaction/UnitEnding$Work;" (.ref qqR)) ∧ (Sta Z Z.heap "com/example/portable_transactions/portabletransactions/transaction/UnitEnding$Work" "NOT_KNOWN" "Lcom/example/portable_transactions/portabletransactions/transaction/UnitEnding$Work;" (.ref qqN)) ∧ (Fld Z Z.heap qqR "java/lang/Enum" "ordinal" "I" (.int (1 : Int32))) ∧ (Fld Z Z.heap qqN "java/lang/Enum" "ordinal" "I" (.int (2 : Int32))) ∧ (Sta Z Z.heap "com/example/portable_transactions/portabletransactions/transaction/UnitEnding$Work" "KEPT" "Lcom/example/portable_transactions/portabletransactions/transaction/UnitEnding$Work;" (.ref qqK)) ∧ (Fld Z Z.heap qqK "java/lang/Enum" "ordinal" "I" (.int (0 : Int32))) ∧ (Sta Z Z.heap "java/lang/Throwable" "UNASSIGNED_STACK" "[Ljava/lang/StackTraceElement;" (.ref qqU)) ∧ (Sta Z Z.heap "java/lang/Throwable" "SUPPRESSED_SENTINEL" "Ljava/util/List;" (.ref qqS)) ∧ (Sta Z Z.heap "java/lang/String" "COMPACT_STRINGS" "Z" (.int qqI)) ∧ (qqR ≠ qqN) ∧ (qqK ≠ qqN) ∧ (owM Z "[Ljava/lang/Object;" qqM) ∧ True
theorem rmThr (l : Launch) (Z : State) (a0 : Array Value) (hw : OwHw Z a0) (ws : List Jvm.Cond) (n0 : Nat) (h0 : Heap) (O : Old Z n0 h0) (qqR qqN qqK qqU qqS qqE : Addr) (qqI : Int32) (qqM : Addr) (W : OwW Z qqR qqN qqK qqU qqS qqE qqI qqM) (a : Addr) (Ea : Exa Z h0 a zs15) (Na : Unt h0 a) (F0 : Fld Z h0 a zs20 "cause" "Ljava/lang/Throwable;" .null) (F1 : Fld Z h0 a zs20 "stackTrace" "[Ljava/lang/StackTraceElement;" .null) (F2 : Fld Z h0 a zs20 "suppressedExceptions" "Ljava/util/List;" .null) (F3 : Fld Z h0 a zs20 "backtrace" "Ljava/lang/Object;" .null) (ga : n0 ≤ a) (hl : l.stackTraces = true) (hTS : ThS Z h0) :
    OwConK l yy30 j34 1 none ws (rM 3 1 2752 42) #[(.ref a)] Z h0 (OwP (fun v h => v = none ∧ Old Z n0 h ∧ Keep h0 h [a] ∧ Exa Z h a zs15 ∧ Unt h a ∧ ThS Z h ∧ Fld Z h a zs20 "suppressedExceptions" "Ljava/util/List;" (.ref qqS)) n0) := by
  refine MetFree.of_bodySF (plainFor_of_name owpn2) hisR ?_
  intro p e s m args below meth c s₁ Bd hml0 hP hK
  have hi := @own_hi Z a0 hw
  obtain ⟨rfl, hZ, hh⟩ := hP
  obtain ⟨hTK, hBelow⟩ := hK
  have hx := Bd.exec
  have hby := Bd.bytes
  have hml : c.maxLocals = 1 := hml0
  have hown := findClass_of_methodNamed Bd.named
  have X0 : Stand p l e (rM 3 1 2752 42) s m #[(.ref a)] below meth c s₁ [] 0 0 := Stand.of_body Bd
  have e0 : s₁.heap = h0 := by rw [← hh, Bd.state]; rfl
  have N0 := Fr.nil n0
  have WW := W
  obtain ⟨ES, nzI, SR, SN, FR, FN, SK, FK, SU, SS, SC, nRN, nKN, Mo, -⟩ := WW
  have ef : entryFrame m #[(.ref a)] 1 = mkF m 0 #[.val (.ref a)] [] := by first | (simp [entryFrame, mkF, argsToLocals, Value.category]; done) | rfl
  have hTS0 : ThS Z s.heap := by rw [hh]; exact hTS
  obtain ⟨T1, X1, e1, st1⟩ := initO X0 hx hZ hown (hi 13 rfl) (hi 14 rfl) (hi 15 rfl) e0 (g := (mkF m 1 #[vR a] [(.ref a)])) rfl (by rw [hml]; rfl) rfl (hb hby d2_1) (by decide) (W := 0) (Nat.le_of_eq rfl) (by decide)
  obtain ⟨T2, h2, X2, e2, W2, st2⟩ := putF X1 hx hZ hown (host := "") (Or.inl (hi 16 rfl)) Via.refl e1 F0 Ea (Or.inl (hi 17 rfl)) (hi 2 rfl) (ty := (.object zs20)) (by decide) rfl rfl (g := (mkF m 6 #[vR a] [(.ref a), (.ref a)])) rfl rfl (hb hby d2_6)
  have Fw2 := F0.same W2
  have N2 := Fr.snoc X2 N0 ga
  have O2 := O.wr W2 ga
  obtain ⟨T3, X3, e3, st3⟩ := getS2 X2 hx hZ hown (host := "") (Or.inl (hi 18 rfl)) Via.refl e2 (SU.ext O2.2) (g := (mkF m 10 #[vR a] [(.ref a)])) rfl (hb hby d2_10)
  have fa4 := (F1.other W2 (Or.inr (slot_ne (Or.inl (hi 20 rfl)) (Or.inl (hi 17 rfl)) (by decide) (t := (.array (.object "java/lang/StackTraceElement"))) (t' := (.object zs20)) (by decide) (by decide))))
  have fa5 := (Ea.wr W2)
  obtain ⟨T6, h6, X6, e6, W6, st6⟩ := putF X3 hx hZ hown (host := "") (Or.inl (hi 19 rfl)) Via.refl e3 fa4 fa5 (Or.inl (hi 20 rfl)) (hi 2 rfl) (ty := (.array (.object "java/lang/StackTraceElement"))) (by decide) rfl rfl (g := (mkF m 13 #[vR a] [(.ref qqU), (.ref a)])) rfl rfl (hb hby d2_13)
  have Fw6 := fa4.same W6
  have N6 := Fr.snoc X6 N2 ga
  have O6 := O2.wr W6 ga
  obtain ⟨T7, X7, e7, st7⟩ := getS2 X6 hx hZ hown (host := "") (Or.inl (hi 21 rfl)) Via.refl e6 (SS.ext O6.2) (g := (mkF m 17 #[vR a] [(.ref a)])) rfl (hb hby d2_17)
  have fa8 := ((F2.other W2 (Or.inr (slot_ne (Or.inl (hi 23 rfl)) (Or.inl (hi 17 rfl)) (by decide) (t := (.object "java/util/List")) (t' := (.object zs20)) (by decide) (by decide)))).other W6 (Or.inr (slot_ne (Or.inl (hi 23 rfl)) (Or.inl (hi 20 rfl)) (by decide) (t := (.object "java/util/List")) (t' := (.array (.object "java/lang/StackTraceElement"))) (by decide) (by decide))))
  have fa9 := (fa5.wr W6)
  obtain ⟨T10, h10, X10, e10, W10, st10⟩ := putF X7 hx hZ hown (host := "") (Or.inl (hi 22 rfl)) Via.refl e7 fa8 fa9 (Or.inl (hi 23 rfl)) (hi 2 rfl) (ty := (.object "java/util/List")) (by decide) rfl rfl (g := (mkF m 20 #[vR a] [(.ref qqS), (.ref a)])) rfl rfl (hb hby d2_20)
  have Fw10 := fa8.same W10
  have N10 := Fr.snoc X10 N6 ga
  have O10 := O6.wr W10 ga
  have fa11 := (fa9.wr W10)
  have fa12 := (((Na.wr W2).wr W6).wr W10)
  have fa13 := (((F3.other W2 (Or.inr (slot_ne (Or.inl (hi 45 rfl)) (Or.inl (hi 17 rfl)) (by decide) (t := (.object zs16)) (t' := (.object zs20)) (by decide) (by decide)))).other W6 (Or.inr (slot_ne (Or.inl (hi 45 rfl)) (Or.inl (hi 20 rfl)) (by decide) (t := (.object zs16)) (t' := (.array (.object "java/lang/StackTraceElement"))) (by decide) (by decide)))).other W10 (Or.inr (slot_ne (Or.inl (hi 45 rfl)) (Or.inl (hi 23 rfl)) (by decide) (t := (.object zs16)) (t' := (.object "java/util/List")) (by decide) (by decide))))
  have fa14 := (Fw6.other W10 (Or.inr (slot_ne (Or.inl (hi 20 rfl)) (Or.inl (hi 23 rfl)) (by decide) (t := (.array (.object "java/lang/StackTraceElement"))) (t' := (.object "java/util/List")) (by decide) (by decide))))
  obtain ⟨T15, Lf15, X15, Lb15, Ef15, Ff15, st15⟩ := own_fill X10 hx hl hZ hown (rc := zs15) (fun d hd => hw d (own_atoms d hd)) (hi 2 rfl) hTS0 hTK hBelow e10 fa11 fa12 fa13 fa14 Fw10 (SU.ext O10.2) (g := (mkF m 24 #[vR a] [(.ref a)])) rfl (by rw [hml]; rfl) rfl (hb hby d2_24) (by decide) (Wd := 0) (Nat.le_of_eq rfl) (by decide) (by decide) (by decide)
  have ee15 : T15.heap = T15.heap := rfl
  have N15 := Fr.app N10 (fun y hy => by rw [Lb15 y hy]; exact ga : Fr n0 Lf15)
  obtain ⟨fs, hr, hrun, hended, hW, hsame⟩ := X15.leave (v := none) (fun _ => rfl)
  refine ⟨_, _, castTop ef ?_, hrun, hended, _, _, rfl, ?_, ⟨_, rfl⟩, hW, hsame.mono (by decide) (by decide)⟩
  · show OwG p e below s₁ m 0 #[vR a] [] _
    refine XS.aloadN X0.here hx rfl (hb hby d2_0) rfl rfl ?_
    show OwG p e below s₁ m 1 #[vR a] [(.ref a)] _
    refine st1 _ ?_
    show OwG p e below T1 m 4 #[vR a] [] _
    refine XS.aloadN X1.here hx rfl (hb hby d2_4) rfl rfl ?_
    refine XS.aloadN X1.here hx rfl (hb hby d2_5) rfl rfl ?_
    show OwG p e below T1 m 6 #[vR a] [(.ref a), (.ref a)] _
    refine st2 _ ?_
    show OwG p e below T2 m 9 #[vR a] [] _
    refine XS.aloadN X2.here hx rfl (hb hby d2_9) rfl rfl ?_
    show OwG p e below T2 m 10 #[vR a] [(.ref a)] _
    refine st3 _ ?_
    show OwG p e below T3 m 13 #[vR a] [(.ref qqU), (.ref a)] _
    refine st6 _ ?_
    show OwG p e below T6 m 16 #[vR a] [] _
    refine XS.aloadN X6.here hx rfl (hb hby d2_16) rfl rfl ?_
    show OwG p e below T6 m 17 #[vR a] [(.ref a)] _
    refine st7 _ ?_
    show OwG p e below T7 m 20 #[vR a] [(.ref qqS), (.ref a)] _
    refine st10 _ ?_
    show OwG p e below T10 m 23 #[vR a] [] _
    refine XS.aloadN X10.here hx rfl (hb hby d2_23) rfl rfl ?_
    show OwG p e below T10 m 24 #[vR a] [(.ref a)] _
    refine st15 _ ?_
    show OwG p e below T15 m 27 #[vR a] [(.ref a)] _
    refine XS.pop X15.here hx rfl (hb hby d2_27) rfl rfl ?_
    show OwG p e below T15 m 28 #[vR a] [] _
    exact X15.returnOut hx Bd.returns (hb hby d2_28) hr
  · have eF : (T15.setFrames fs).heap = T15.heap := ee15
    exact by
      have hK := own_kept hsame (a := a) (fun y hy => by
        simp only [List.mem_append, List.mem_singleton, List.not_mem_nil, false_or] at hy
        rcases hy with ((rfl | rfl) | rfl) | hy
        · rfl
        · rfl
        · rfl
        · exact Lb15 y hy) hh
      have hU := own_untk hsame hh Na
      exact ⟨N15, rfl, O.keep hK (allS (P := fun x => n0 ≤ x) ga all0), hK, Ef15, hU, hTS.keep hK (nsS Ea.nostat ns0), Ff15⟩
theorem rmExc (l : Launch) (Z : State) (a0 : Array Value) (hw : OwHw Z a0) (ws : List Jvm.Cond) (n0 : Nat) (h0 : Heap) (O : Old Z n0 h0) (qqR qqN qqK qqU qqS qqE : Addr) (qqI : Int32) (qqM : Addr) (W : OwW Z qqR qqN qqK qqU qqS qqE qqI qqM) (a : Addr) (Ea : Exa Z h0 a zs15) (Na : Unt h0 a) (F0 : Fld Z h0 a zs20 "cause" "Ljava/lang/Throwable;" .null) (F1 : Fld Z h0 a zs20 "stackTrace" "[Ljava/lang/StackTraceElement;" .null) (F2 : Fld Z h0 a zs20 "suppressedExceptions" "Ljava/util/List;" .null) (F3 : Fld Z h0 a zs20 "backtrace" "Ljava/lang/Object;" .null) (ga : n0 ≤ a) (hl : l.stackTraces = true) (hTS : ThS Z h0) :
    OwConK l yy17 j40 1 none ws (rM 4 1 2752 54) #[(.ref a)] Z h0 (OwP (fun v h => v = none ∧ Old Z n0 h ∧ Keep h0 h [a] ∧ Exa Z h a zs15 ∧ Unt h a ∧ ThS Z h ∧ Fld Z h a zs20 "suppressedExceptions" "Ljava/util/List;" (.ref qqS)) n0) := by
  refine MetFree.of_bodySF (plainFor_of_name owpn1) hisR ?_
  intro p e s m args below meth c s₁ Bd hml0 hP hK
  have hi := @own_hi Z a0 hw
  obtain ⟨rfl, hZ, hh⟩ := hP
  obtain ⟨hTK, hBelow⟩ := hK
  have hx := Bd.exec
  have hby := Bd.bytes
  have hml : c.maxLocals = 1 := hml0
  have hown := findClass_of_methodNamed Bd.named
  have X0 : Stand p l e (rM 4 1 2752 54) s m #[(.ref a)] below meth c s₁ [] 0 0 := Stand.of_body Bd
  have e0 : s₁.heap = h0 := by rw [← hh, Bd.state]; rfl
  have N0 := Fr.nil n0
  have ef : entryFrame m #[(.ref a)] 1 = mkF m 0 #[.val (.ref a)] [] := by first | (simp [entryFrame, mkF, argsToLocals, Value.category]; done) | rfl
  obtain ⟨_, _, ⟨T1, L1, k1, n1⟩, -, X1, ⟨Lc1, hQ1, l1, y1, z1⟩, st1⟩ := X0.specialBack hx (y := yy30) rfl hown (mvT hZ (hi 7 rfl)) (mvT hZ (hi 8 rfl)) (mvT hZ (hi 12 rfl)) (by decide) (backOfKL (W := 0) (rmThr l Z a0 hw [] n0 h0 O qqR qqN qqK qqU qqS qqE qqI qqM W a Ea Na F0 F1 F2 F3 ga hl hTS) hZ (hi 12 rfl) (hi 11 rfl) (by decide) (by decide) hTK hBelow) (g := (mkF m 1 #[vR a] [(.ref a)])) rfl (by rw [hml]; rfl) (Steps.refl _) (a := a) (argsL := []) (rest := []) (lenOf owpd0 rfl) rfl (Nat.le_of_eq rfl) (hb hby d1_1) (fun _ _ => ⟨rfl, e0, (by decide : 0 + 1 ≤ _), (by decide : 0 + 2752 ≤ _)⟩)
  dsimp only [Pt.U, Pt.locs, Pt.cells, Pt.slots] at X1 l1 y1 z1 st1 hQ1
  subst l1 y1 z1
  obtain ⟨Nq1, hP1⟩ := hQ1
  have N1 := Fr.app N0 Nq1
  have ee1 : T1.heap = T1.heap := rfl
  obtain ⟨rfl, O1, Kc1, Ec1, Uc1, Tc1, Fc1⟩ := hP1
  have Kp1 : Keep h0 T1.heap [a] := (Keep.refl h0 [a]).trans Kc1 (allS (P := fun x => x ∈ [a] ∨ h0.size ≤ x) (Or.inl (List.mem_of_getElem? (i := 0) rfl)) (all0 (P := fun x => x ∈ [a] ∨ h0.size ≤ x)))
  obtain ⟨fs, hr, hrun, hended, hW, hsame⟩ := X1.leave (v := none) (fun _ => rfl)
  refine ⟨_, _, castTop ef ?_, hrun, hended, _, _, rfl, ?_, ⟨_, rfl⟩, hW, hsame.mono (by decide) (by decide)⟩
  · show OwG p e below s₁ m 0 #[vR a] [] _
    refine XS.aloadN X0.here hx rfl (hb hby d1_0) rfl rfl ?_
    show OwG p e below s₁ m 1 #[vR a] [(.ref a)] _
    refine st1.trans ?_
    show OwG p e below T1 m 4 #[vR a] [] _
    exact X1.returnOut hx Bd.returns (hb hby d1_4) hr
  · have eF : (T1.setFrames fs).heap = T1.heap := ee1
    exact ⟨N1, rfl, by rw [eF]; exact ⟨O1, Kp1, Ec1, Uc1, Tc1, Fc1⟩⟩
theorem rmAsbI (l : Launch) (Z : State) (a0 : Array Value) (hw : OwHw Z a0) (ws : List Jvm.Cond) (n0 : Nat) (h0 : Heap) (O : Old Z n0 h0) (qqR qqN qqK qqU qqS qqE : Addr) (qqI : Int32) (qqM : Addr) (W : OwW Z qqR qqN qqK qqU qqS qqE qqI qqM) (sb : Addr) (Eb : Exa Z h0 sb zs19) (G0 : Fld Z h0 sb zs14 "value" "[B" .null) (G1 : Fld Z h0 sb zs14 "coder" "B" (.int 0)) (G2 : Fld Z h0 sb zs14 "count" "I" (.int 0)) (gs : n0 ≤ sb) :
    OwCon l yy8 j36 2 none ws (rM 1 1 16 12) #[(.ref sb), (.int 16)] Z h0 (OwP (fun v h => v = none ∧ Old Z n0 h ∧ Keep h0 h [sb] ∧ ∃ (b' : Addr) (k' : ClassId), h0.size ≤ b' ∧ Exa Z h sb zs19 ∧ Fld Z h sb zs14 "value" "[B" (.ref b') ∧ Fld Z h sb zs14 "coder" "B" (.int 0) ∧ Fld Z h sb zs14 "count" "I" (.int 0) ∧ owB Z h b' k' (16 : Int32)) n0) := by
  refine MetFree.of_bodySF (plainFor_of_name owpn21) hisR ?_
  intro p e s m args below meth c s₁ Bd hml0 hP hK
  have hi := @own_hi Z a0 hw
  obtain ⟨rfl, hZ, hh⟩ := hP
  have hx := Bd.exec
  have hby := Bd.bytes
  have hml : c.maxLocals = 2 := hml0
  have hown := findClass_of_methodNamed Bd.named
  have X0 : Stand p l e (rM 1 1 16 12) s m #[(.ref sb), (.int 16)] below meth c s₁ [] 0 0 := Stand.of_body Bd
  have e0 : s₁.heap = h0 := by rw [← hh, Bd.state]; rfl
  have N0 := Fr.nil n0
  have WW := W
  obtain ⟨ES, nzI, SR, SN, FR, FN, SK, FK, SU, SS, SC, nRN, nKN, Mo, -⟩ := WW
  have ef : entryFrame m #[(.ref sb), (.int 16)] 2 = mkF m 0 #[.val (.ref sb), .val (.int 16)] [] := by first | (simp [entryFrame, mkF, argsToLocals, Value.category]; done) | rfl
  obtain ⟨T1, X1, e1, st1⟩ := initO X0 hx hZ hown (hi 181 rfl) (hi 14 rfl) (hi 15 rfl) e0 (g := (mkF m 1 #[vR sb, vI 16] [(.ref sb)])) rfl (by rw [hml]; rfl) rfl (hb hby d21_1) (by decide) (W := 0) (Nat.le_of_eq rfl) (by decide)
  obtain ⟨T2, X2, e2, st2⟩ := getS2 X1 hx hZ hown (host := "") (Or.inl (hi 182 rfl)) Via.refl e1 (SC.ext O.2) (g := (mkF m 4 #[vR sb, vI 16] [])) rfl (hb hby d21_4)
  obtain ⟨T3, h3, k3, X3, e3, E3, A3, Ea3, st3⟩ := newPE X2 hx hZ (aty := .byte) (hi 83 rfl) e2 (g := (mkF m 12 #[vR sb, vI 16] [(.int 16), (.ref sb)])) rfl (hb hby d21_12) rfl (by decide) (cap := 16) (by decide) (by decide) (by decide) (by decide) (ad := "[B") (by decide)
  obtain ⟨b3, g3⟩ : ∃ z, z = h0.size := ⟨_, rfl⟩
  rw [← g3] at A3 Ea3 st3
  have gx3 : n0 ≤ b3 := Nat.le_trans (Nat.le_trans (Nat.le_of_eq O.1.symm) O.2.1) (Nat.le_of_eq g3.symm)
  have ne_sb_3 : sb ≠ b3 := Nat.ne_of_lt (Nat.lt_of_lt_of_le Eb.lt (Nat.le_of_eq g3.symm))
  have O3 := O.ext E3
  have Vb3 : owB Z h3 b3 k3 (16 : Int32) := owB.new A3 (by decide)
  have sz3 : h0.size ≤ b3 := Nat.le_trans (Keep.refl h0 [sb]).1 (Nat.le_of_eq g3.symm)
  have Kp3 : Keep h0 h3 [sb] := (Keep.refl h0 [sb]).ext E3
  have fa4 := (G0.ext E3)
  have fa5 := (Eb.ext E3)
  obtain ⟨T6, h6, X6, e6, W6, st6⟩ := putF X3 hx hZ hown (host := "") (Or.inl (hi 183 rfl)) Via.refl e3 fa4 fa5 (Or.inl (hi 184 rfl)) (hi 170 rfl) (ty := (.array .byte)) (by decide) rfl rfl (g := (mkF m 14 #[vR sb, vI 16] [(.ref b3), (.ref sb)])) rfl rfl (hb hby d21_14)
  have Fw6 := fa4.same W6
  have N6 := Fr.snoc X6 N0 gs
  have O6 := O3.wr W6 gs
  have Kp6 : Keep h0 h6 [sb] := Kp3.wr W6 (Or.inl (List.mem_of_getElem? (i := 0) rfl))
  have fa7 := ((G1.ext E3).other W6 (Or.inr (slot_ne (Or.inl (hi 186 rfl)) (Or.inl (hi 184 rfl)) (by decide) (t := .byte) (t' := (.array .byte)) (by decide) (by decide))))
  have fa8 := (fa5.wr W6)
  obtain ⟨T9, h9, X9, e9, W9, st9⟩ := putFN X6 hx hZ hown (hi 185 rfl) Via.refl e6 fa7 fa8 (Or.inl (hi 186 rfl)) (hi 170 rfl) (ty := .byte) (v' := (.int 0)) (by decide) rfl rfl (g := (mkF m 19 #[vR sb, vI 16] [(.int 0), (.ref sb)])) rfl rfl (hb hby d21_19)
  have Fw9 := fa7.same W9
  have N9 := Fr.snoc X9 N6 gs
  have O9 := O6.wr W9 gs
  have Kp9 : Keep h0 h9 [sb] := Kp6.wr W9 (Or.inl (List.mem_of_getElem? (i := 0) rfl))
  have fa10 := (fa8.wr W9)
  have fa11 := (Fw6.other W9 (Or.inr (slot_ne (Or.inl (hi 184 rfl)) (Or.inl (hi 186 rfl)) (by decide) (t := (.array .byte)) (t' := .byte) (by decide) (by decide))))
  have fa12 := (((G2.ext E3).other W6 (Or.inr (slot_ne (Or.inl (hi 212 rfl)) (Or.inl (hi 184 rfl)) (by decide) (t := .int) (t' := (.array .byte)) (by decide) (by decide)))).other W9 (Or.inr (slot_ne (Or.inl (hi 212 rfl)) (Or.inl (hi 186 rfl)) (by decide) (t := .int) (t' := .byte) (by decide) (by decide))))
  have fa13 := ((Vb3.other W6 (Ne.symm ne_sb_3)).other W9 (Ne.symm ne_sb_3))
  obtain ⟨fs, hr, hrun, hended, hW, hsame⟩ := X9.leave (v := none) (fun _ => rfl)
  refine ⟨_, _, castTop ef ?_, hrun, hended, _, _, rfl, ?_, ⟨_, rfl⟩, hW, hsame.mono (by decide) (by decide)⟩
  · show OwG p e below s₁ m 0 #[vR sb, vI 16] [] _
    refine XS.aloadN X0.here hx rfl (hb hby d21_0) rfl rfl ?_
    show OwG p e below s₁ m 1 #[vR sb, vI 16] [(.ref sb)] _
    refine st1 _ ?_
    show OwG p e below T1 m 4 #[vR sb, vI 16] [] _
    refine st2 _ ?_
    show OwG p e below T2 m 7 #[vR sb, vI 16] [(.int qqI)] _
    refine XS.ifNo X2.here hx rfl (hb hby d21_7) rfl ((if0 _ _).trans (feq nzI).1) ?_
    refine XS.aloadN X2.here hx rfl (hb hby d21_10) rfl rfl ?_
    refine XS.iloadN X2.here hx rfl (hb hby d21_11) rfl ?_
    show OwG p e below T2 m 12 #[vR sb, vI 16] [(.int 16), (.ref sb)] _
    refine st3 _ ?_
    show OwG p e below T3 m 14 #[vR sb, vI 16] [(.ref b3), (.ref sb)] _
    refine st6 _ ?_
    show OwG p e below T6 m 17 #[vR sb, vI 16] [] _
    refine XS.aloadN X6.here hx rfl (hb hby d21_17) rfl rfl ?_
    refine XS.iconst X6.here hx rfl (hb hby d21_18) ?_
    show OwG p e below T6 m 19 #[vR sb, vI 16] [(.int 0), (.ref sb)] _
    refine st9 _ ?_
    show OwG p e below T9 m 22 #[vR sb, vI 16] [] _
    refine XS.goto X9.here hx rfl (pc0 := 22) (pc' := 38) rfl (hb hby d21_22) (by decide) (by decide) ?_
    show OwG p e below T9 m 38 #[vR sb, vI 16] [] _
    exact X9.returnOut hx Bd.returns (hb hby d21_38) hr
  · have eF : (T9.setFrames fs).heap = h9 := e9
    exact ⟨N9, rfl, by rw [eF]; exact ⟨O9, Kp9, b3, k3, sz3, fa10, fa11, Fw9, fa12, fa13⟩⟩
theorem rmSbI (l : Launch) (Z : State) (a0 : Array Value) (hw : OwHw Z a0) (ws : List Jvm.Cond) (n0 : Nat) (h0 : Heap) (O : Old Z n0 h0) (qqR qqN qqK qqU qqS qqE : Addr) (qqI : Int32) (qqM : Addr) (W : OwW Z qqR qqN qqK qqU qqS qqE qqI qqM) (sb : Addr) (Eb : Exa Z h0 sb zs19) (G0 : Fld Z h0 sb zs14 "value" "[B" .null) (G1 : Fld Z h0 sb zs14 "coder" "B" (.int 0)) (G2 : Fld Z h0 sb zs14 "count" "I" (.int 0)) (gs : n0 ≤ sb) :
    OwCon l yy26 j44 1 none ws (rM 2 1 16 25) #[(.ref sb)] Z h0 (OwP (fun v h => v = none ∧ Old Z n0 h ∧ Keep h0 h [sb] ∧ ∃ (b' : Addr) (k' : ClassId), h0.size ≤ b' ∧ Exa Z h sb zs19 ∧ Fld Z h sb zs14 "value" "[B" (.ref b') ∧ Fld Z h sb zs14 "coder" "B" (.int 0) ∧ Fld Z h sb zs14 "count" "I" (.int 0) ∧ owB Z h b' k' (16 : Int32)) n0) := by
  refine MetFree.of_bodySF (plainFor_of_name owpn20) hisR ?_
  intro p e s m args below meth c s₁ Bd hml0 hP hK
  have hi := @own_hi Z a0 hw
  obtain ⟨rfl, hZ, hh⟩ := hP
  have hx := Bd.exec
  have hby := Bd.bytes
  have hml : c.maxLocals = 1 := hml0
  have hown := findClass_of_methodNamed Bd.named
  have X0 : Stand p l e (rM 2 1 16 25) s m #[(.ref sb)] below meth c s₁ [] 0 0 := Stand.of_body Bd
  have e0 : s₁.heap = h0 := by rw [← hh, Bd.state]; rfl
  have N0 := Fr.nil n0
  have ef : entryFrame m #[(.ref sb)] 1 = mkF m 0 #[.val (.ref sb)] [] := by first | (simp [entryFrame, mkF, argsToLocals, Value.category]; done) | rfl
  obtain ⟨_, _, ⟨T1, L1, k1, n1⟩, -, X1, ⟨Lc1, hQ1, l1, y1, z1⟩, st1⟩ := X0.specialBack hx (y := yy8) rfl hown (mvT hZ (hi 175 rfl)) (mvT hZ (hi 176 rfl)) (mvT hZ (hi 180 rfl)) (by decide) (backOf (W := 0) (rmAsbI l Z a0 hw [] n0 h0 O qqR qqN qqK qqU qqS qqE qqI qqM W sb Eb G0 G1 G2 gs) hZ (hi 180 rfl) (hi 179 rfl) (by decide) (by decide)) (g := (mkF m 3 #[vR sb] [(.int 16), (.ref sb)])) rfl (by rw [hml]; rfl) (Steps.refl _) (a := sb) (argsL := [(.int 16)]) (rest := []) (lenOf owpd1 rfl) rfl (Nat.le_of_eq rfl) (hb hby d20_3) (fun _ _ => ⟨rfl, e0, (by decide : 0 + 1 ≤ _), (by decide : 0 + 16 ≤ _)⟩)
  dsimp only [Pt.U, Pt.locs, Pt.cells, Pt.slots] at X1 l1 y1 z1 st1 hQ1
  subst l1 y1 z1
  obtain ⟨Nq1, hP1⟩ := hQ1
  have N1 := Fr.app N0 Nq1
  have ee1 : T1.heap = T1.heap := rfl
  obtain ⟨rfl, Oc1, Kc1, bb1, kk1, hb1, Ec1, Gv1, Gc1, Gn1, Vb1⟩ := hP1
  have ne_sb_1 : sb ≠ bb1 := Nat.ne_of_lt (Nat.lt_of_lt_of_le Eb.lt hb1)
  have gx1 : n0 ≤ bb1 := Nat.le_trans (Nat.le_trans (Nat.le_of_eq O.1.symm) O.2.1) hb1
  have sz1 : h0.size ≤ bb1 := Nat.le_trans (Keep.refl h0 [sb]).1 hb1
  have Kp1 : Keep h0 T1.heap [sb] := (Keep.refl h0 [sb]).trans Kc1 (allS (P := fun x => x ∈ [sb] ∨ h0.size ≤ x) (Or.inl (List.mem_of_getElem? (i := 0) rfl)) (all0 (P := fun x => x ∈ [sb] ∨ h0.size ≤ x)))
  obtain ⟨fs, hr, hrun, hended, hW, hsame⟩ := X1.leave (v := none) (fun _ => rfl)
  refine ⟨_, _, castTop ef ?_, hrun, hended, _, _, rfl, ?_, ⟨_, rfl⟩, hW, hsame.mono (by decide) (by decide)⟩
  · show OwG p e below s₁ m 0 #[vR sb] [] _
    refine XS.aloadN X0.here hx rfl (hb hby d20_0) rfl rfl ?_
    show OwG p e below s₁ m 1 #[vR sb] [(.ref sb)] _
    refine XS.bipush X0.here hx rfl (hb hby d20_1) ?_
    show OwG p e below s₁ m 3 #[vR sb] [(.int 16), (.ref sb)] _
    refine st1.trans ?_
    show OwG p e below T1 m 6 #[vR sb] [] _
    exact X1.returnOut hx Bd.returns (hb hby d20_6) hr
  · have eF : (T1.setFrames fs).heap = T1.heap := ee1
    exact ⟨N1, rfl, by rw [eF]; exact ⟨Oc1, Kp1, bb1, kk1, sz1, Ec1, Gv1, Gc1, Gn1, Vb1⟩⟩
theorem rmEns_16_10 (l : Launch) (Z : State) (a0 : Array Value) (hw : OwHw Z a0) (ws : List Jvm.Cond) (n0 : Nat) (h0 : Heap) (O : Old Z n0 h0) (qqR qqN qqK qqU qqS qqE : Addr) (qqI : Int32) (qqM : Addr) (W : OwW Z qqR qqN qqK qqU qqS qqE qqI qqM) (sb b : Addr) (k : ClassId) (Eb : Exa Z h0 sb zs19) (Gv : Fld Z h0 sb zs14 "value" "[B" (.ref b)) (Gc : Fld Z h0 sb zs14 "coder" "B" (.int 0)) (Gn : Fld Z h0 sb zs14 "count" "I" (.int 0)) (Vbx : owB Z h0 b k (16 : Int32)) (gs : n0 ≤ sb) :
    OwCon l yy10 j33 3 none ws (rM 0 0 0 0) #[(.ref sb), (.int 10)] Z h0 (OwQ none h0 n0) := by
  refine MetFree.of_bodySF (plainFor_of_name owpn26) hisR ?_
  intro p e s m args below meth c s₁ Bd hml0 hP hK
  have hi := @own_hi Z a0 hw
  obtain ⟨rfl, hZ, hh⟩ := hP
  have hx := Bd.exec
  have hby := Bd.bytes
  have hml : c.maxLocals = 3 := hml0
  have hown := findClass_of_methodNamed Bd.named
  have X0 : Stand p l e (rM 0 0 0 0) s m #[(.ref sb), (.int 10)] below meth c s₁ [] 0 0 := Stand.of_body Bd
  have e0 : s₁.heap = h0 := by rw [← hh, Bd.state]; rfl
  have N0 := Fr.nil n0
  have ef : entryFrame m #[(.ref sb), (.int 10)] 3 = mkF m 0 #[.val (.ref sb), .val (.int 10), .unset] [] := by first | (simp [entryFrame, mkF, argsToLocals, Value.category]; done) | rfl
  obtain ⟨T1, X1, e1, st1⟩ := getF X0 hx hZ hown (host := "") (Or.inl (hi 183 rfl)) Via.refl e0 Gv (g := (mkF m 1 #[vR sb, vI 10, .unset] [(.ref sb)])) rfl rfl (hb hby d26_1)
  obtain ⟨cl2, Ar2, Sz2, Nn2⟩ := Vbx.arr
  obtain ⟨T3, X3, e3, st3⟩ := getF X1 hx hZ hown (host := "") (Or.inl (hi 185 rfl)) Via.refl e1 Gc (g := (mkF m 6 #[vR sb, vI 10, .unset] [(.ref sb), (.int 16)])) rfl rfl (hb hby d26_6)
  obtain ⟨fs, hr, hrun, hended, hW, hsame⟩ := X3.leave (v := none) (fun _ => rfl)
  refine ⟨_, _, castTop ef ?_, hrun, hended, _, _, rfl, ?_, ⟨_, rfl⟩, hW, hsame.mono (by decide) (by decide)⟩
  · show OwG p e below s₁ m 0 #[vR sb, vI 10, .unset] [] _
    refine XS.aloadN X0.here hx rfl (hb hby d26_0) rfl rfl ?_
    show OwG p e below s₁ m 1 #[vR sb, vI 10, .unset] [(.ref sb)] _
    refine st1 _ ?_
    show OwG p e below T1 m 4 #[vR sb, vI 10, .unset] [(.ref b)] _
    refine X1.arraylength hx (by rw [e1]; exact Ar2.1) (State.isArrayOf_alike hZ.alike Ar2.2.1) (g := (mkF m 4 #[vR sb, vI 10, .unset] [(.ref b)])) rfl rfl (hb hby d26_4) _ ?_
    rw [len_of Sz2 Nn2]
    show OwG p e below T1 m 5 #[vR sb, vI 10, .unset] [(.int 16)] _
    refine XS.aloadN X1.here hx rfl (hb hby d26_5) rfl rfl ?_
    show OwG p e below T1 m 6 #[vR sb, vI 10, .unset] [(.ref sb), (.int 16)] _
    refine st3 _ ?_
    show OwG p e below T3 m 9 #[vR sb, vI 10, .unset] [(.int 0), (.int 16)] _
    refine XS.ishr X3.here hx rfl (hb hby d26_9) rfl ?_
    refine XS.istoreN X3.here hx rfl (hb hby d26_10) rfl (l' := #[vR sb, vI 10, vI 16]) rfl ?_
    refine XS.iloadN X3.here hx rfl (hb hby d26_11) rfl ?_
    refine XS.iloadN X3.here hx rfl (hb hby d26_12) rfl ?_
    refine XS.isub X3.here hx rfl (hb hby d26_13) rfl ?_
    refine XS.ifYes X3.here hx rfl (pc0 := 14) (pc' := 38) rfl (hb hby d26_14) rfl ((if0 _ _).trans (flt (by decide : ¬ ((0 : Int32) < (-6 : Int32)))).2.2.2) (by decide) (by decide) ?_
    show OwG p e below T3 m 38 #[vR sb, vI 10, vI 16] [] _
    exact X3.returnOut hx Bd.returns (hb hby d26_38) hr
  · have eF : (T3.setFrames fs).heap = h0 := e3
    exact ⟨rfl, N0, eF⟩
theorem rmCod (l : Launch) (Z : State) (a0 : Array Value) (hw : OwHw Z a0) (ws : List Jvm.Cond) (n0 : Nat) (h0 : Heap) (O : Old Z n0 h0) (qqR qqN qqK qqU qqS qqE : Addr) (qqI : Int32) (qqM : Addr) (W : OwW Z qqR qqN qqK qqU qqS qqE qqI qqM) (a : Addr) (Fc : Fld Z h0 a zs18 "coder" "B" (.int 0)) :
    OwCon l yy23 j8 1 (some .byte) ws (rM 0 0 0 0) #[(.ref a)] Z h0 (OwQ (some (.int 0)) h0 n0) := by
  refine MetFree.of_bodySF (plainFor_of_name owpn25) hisR ?_
  intro p e s m args below meth c s₁ Bd hml0 hP hK
  have hi := @own_hi Z a0 hw
  obtain ⟨rfl, hZ, hh⟩ := hP
  have hx := Bd.exec
  have hby := Bd.bytes
  have hml : c.maxLocals = 1 := hml0
  have hown := findClass_of_methodNamed Bd.named
  have X0 : Stand p l e (rM 0 0 0 0) s m #[(.ref a)] below meth c s₁ [] 0 0 := Stand.of_body Bd
  have e0 : s₁.heap = h0 := by rw [← hh, Bd.state]; rfl
  have N0 := Fr.nil n0
  have WW := W
  obtain ⟨ES, nzI, SR, SN, FR, FN, SK, FK, SU, SS, SC, nRN, nKN, Mo, -⟩ := WW
  have ef : entryFrame m #[(.ref a)] 1 = mkF m 0 #[.val (.ref a)] [] := by first | (simp [entryFrame, mkF, argsToLocals, Value.category]; done) | rfl
  obtain ⟨T1, X1, e1, st1⟩ := getS2 X0 hx hZ hown (host := "") (Or.inl (hi 209 rfl)) Via.refl e0 (SC.ext O.2) (g := (mkF m 0 #[vR a] [])) rfl (hb hby d25_0)
  obtain ⟨T2, X2, e2, st2⟩ := getF X1 hx hZ hown (host := "") (Or.inl (hi 210 rfl)) Via.refl e1 Fc (g := (mkF m 7 #[vR a] [(.ref a)])) rfl rfl (hb hby d25_7)
  obtain ⟨fs, hr, hrun, hended, hW, hsame⟩ := X2.leave (v := some (.int 0)) (fun h => by rw [Bd.returns] at h; cases h)
  refine ⟨_, _, castTop ef ?_, hrun, hended, _, _, rfl, ?_, ⟨_, rfl⟩, hW, hsame.mono (by decide) (by decide)⟩
  · show OwG p e below s₁ m 0 #[vR a] [] _
    refine st1 _ ?_
    show OwG p e below T1 m 3 #[vR a] [(.int qqI)] _
    refine XS.ifNo X1.here hx rfl (hb hby d25_3) rfl ((if0 _ _).trans (feq nzI).1) ?_
    refine XS.aloadN X1.here hx rfl (hb hby d25_6) rfl rfl ?_
    show OwG p e below T1 m 7 #[vR a] [(.ref a)] _
    refine st2 _ ?_
    show OwG p e below T2 m 10 #[vR a] [(.int 0)] _
    refine XS.goto X2.here hx rfl (pc0 := 10) (pc' := 14) rfl (hb hby d25_10) (by decide) (by decide) ?_
    show OwG p e below T2 m 14 #[vR a] [(.int 0)] _
    exact retN X2 hx (t := .byte) Bd.returns (by simp) (hb hby d25_14) hr
  · have eF : (T2.setFrames fs).heap = h0 := e2
    exact ⟨rfl, N0, eF⟩
theorem rmLen10 (l : Launch) (Z : State) (a0 : Array Value) (hw : OwHw Z a0) (ws : List Jvm.Cond) (n0 : Nat) (h0 : Heap) (O : Old Z n0 h0) (qqR qqN qqK qqU qqS qqE : Addr) (qqI : Int32) (qqM : Addr) (W : OwW Z qqR qqN qqK qqU qqS qqE qqI qqM) (a b : Addr) (k : ClassId) (Es : Exa Z h0 a zs18) (Fc : Fld Z h0 a zs18 "coder" "B" (.int 0)) (Fv : Fld Z h0 a zs18 "value" "[B" (.ref b)) (Vb : owB Z h0 b k (10 : Int32)) :
    OwCon l yy25 j17 1 (some .int) ws (rM 1 0 0 13) #[(.ref a)] Z h0 (OwQ (some (.int 10)) h0 n0) := by
  refine MetFree.of_bodySF (plainFor_of_name owpn24) hisR ?_
  intro p e s m args below meth c s₁ Bd hml0 hP hK
  have hi := @own_hi Z a0 hw
  obtain ⟨rfl, hZ, hh⟩ := hP
  have hx := Bd.exec
  have hby := Bd.bytes
  have hml : c.maxLocals = 1 := hml0
  have hown := findClass_of_methodNamed Bd.named
  have X0 : Stand p l e (rM 1 0 0 13) s m #[(.ref a)] below meth c s₁ [] 0 0 := Stand.of_body Bd
  have e0 : s₁.heap = h0 := by rw [← hh, Bd.state]; rfl
  have N0 := Fr.nil n0
  have ef : entryFrame m #[(.ref a)] 1 = mkF m 0 #[.val (.ref a)] [] := by first | (simp [entryFrame, mkF, argsToLocals, Value.category]; done) | rfl
  obtain ⟨T1, X1, e1, st1⟩ := getF X0 hx hZ hown (host := "") (Or.inl (hi 203 rfl)) Via.refl e0 Fv (g := (mkF m 1 #[vR a] [(.ref a)])) rfl rfl (hb hby d24_1)
  obtain ⟨cl2, Ar2, Sz2, Nn2⟩ := Vb.arr
  obtain ⟨cq3, kq3, q3a, q3b, q3c⟩ := isOf hZ e1 Es
  obtain ⟨_, _, ⟨T3, L3, k3, n3⟩, -, X3, ⟨Lc3, hQ3, l3, y3, z3⟩, st3⟩ := X1.virtualBack hx (y := yy23) (z := yy23) hown (mvT hZ (hi 204 rfl)) (mvT hZ (hi 205 rfl)) (notFace_of_selects (args := #[]) (mvT hZ (hi 207 rfl))) (mvT hZ (hi 207 rfl)) (mvT hZ (hi 206 rfl)) (by decide) (backOf (W := 1) (rmCod l Z a0 hw [] n0 h0 O qqR qqN qqK qqU qqS qqE qqI qqM W a Fc) hZ (hi 208 rfl) (hi 81 rfl) (by decide) (by decide)) q3a q3c (g := (mkF m 6 #[vR a] [(.ref a), (.int 10)])) rfl (by rw [hml]; rfl) (Steps.refl _) (argsL := []) (rest := [(.int 10)]) (lenOf owpd2 rfl) rfl (Nat.le_of_eq rfl) (hb hby d24_6) (fun _ _ => ⟨rfl, e1, (by decide : 0 + 0 ≤ _), (by decide : 0 + 0 ≤ _)⟩)
  dsimp only [Pt.U, Pt.locs, Pt.cells, Pt.slots] at X3 l3 y3 z3 st3 hQ3
  subst l3 y3 z3
  obtain ⟨rfl, Nq3, e3⟩ := hQ3
  have N3 := Fr.app N0 Nq3
  obtain ⟨fs, hr, hrun, hended, hW, hsame⟩ := X3.leave (v := some (.int 10)) (fun h => by rw [Bd.returns] at h; cases h)
  refine ⟨_, _, castTop ef ?_, hrun, hended, _, _, rfl, ?_, ⟨_, rfl⟩, hW, hsame.mono (by decide) (by decide)⟩
  · show OwG p e below s₁ m 0 #[vR a] [] _
    refine XS.aloadN X0.here hx rfl (hb hby d24_0) rfl rfl ?_
    show OwG p e below s₁ m 1 #[vR a] [(.ref a)] _
    refine st1 _ ?_
    show OwG p e below T1 m 4 #[vR a] [(.ref b)] _
    refine X1.arraylength hx (by rw [e1]; exact Ar2.1) (State.isArrayOf_alike hZ.alike Ar2.2.1) (g := (mkF m 4 #[vR a] [(.ref b)])) rfl rfl (hb hby d24_4) _ ?_
    rw [len_of Sz2 Nn2]
    show OwG p e below T1 m 5 #[vR a] [(.int 10)] _
    refine XS.aloadN X1.here hx rfl (hb hby d24_5) rfl rfl ?_
    show OwG p e below T1 m 6 #[vR a] [(.ref a), (.int 10)] _
    refine st3.trans ?_
    show OwG p e below T3 m 9 #[vR a] [(.int 0), (.int 10)] _
    refine XS.ishr X3.here hx rfl (hb hby d24_9) rfl ?_
    show OwG p e below T3 m 10 #[vR a] [(.int 10)] _
    exact retI X3 hx Bd.returns (hb hby d24_10) hr
  · have eF : (T3.setFrames fs).heap = h0 := e3
    exact ⟨rfl, N3, eF⟩
theorem rmInf (l : Launch) (Z : State) (a0 : Array Value) (hw : OwHw Z a0) (ws : List Jvm.Cond) (n0 : Nat) (h0 : Heap) (O : Old Z n0 h0) (qqR qqN qqK qqU qqS qqE : Addr) (qqI : Int32) (qqM : Addr) (W : OwW Z qqR qqN qqK qqU qqS qqE qqI qqM) (sb a : Addr) (Gc : Fld Z h0 sb zs14 "coder" "B" (.int 0)) (Ess : Exa Z h0 a zs18) (Fcs : Fld Z h0 a zs18 "coder" "B" (.int 0)) :
    OwCon l yy12 j21 2 none ws (rM 1 0 0 13) #[(.ref sb), (.ref a)] Z h0 (OwQ none h0 n0) := by
  refine MetFree.of_bodySF (plainFor_of_name owpn28) hisR ?_
  intro p e s m args below meth c s₁ Bd hml0 hP hK
  have hi := @own_hi Z a0 hw
  obtain ⟨rfl, hZ, hh⟩ := hP
  have hx := Bd.exec
  have hby := Bd.bytes
  have hml : c.maxLocals = 2 := hml0
  have hown := findClass_of_methodNamed Bd.named
  have X0 : Stand p l e (rM 1 0 0 13) s m #[(.ref sb), (.ref a)] below meth c s₁ [] 0 0 := Stand.of_body Bd
  have e0 : s₁.heap = h0 := by rw [← hh, Bd.state]; rfl
  have N0 := Fr.nil n0
  have WW := W
  obtain ⟨ES, nzI, SR, SN, FR, FN, SK, FK, SU, SS, SC, nRN, nKN, Mo, -⟩ := WW
  have ef : entryFrame m #[(.ref sb), (.ref a)] 2 = mkF m 0 #[.val (.ref sb), .val (.ref a)] [] := by first | (simp [entryFrame, mkF, argsToLocals, Value.category]; done) | rfl
  obtain ⟨T1, X1, e1, st1⟩ := getS2 X0 hx hZ hown (host := "") (Or.inl (hi 182 rfl)) Via.refl e0 (SC.ext O.2) (g := (mkF m 0 #[vR sb, vR a] [])) rfl (hb hby d28_0)
  obtain ⟨T2, X2, e2, st2⟩ := getF X1 hx hZ hown (host := "") (Or.inl (hi 185 rfl)) Via.refl e1 Gc (g := (mkF m 7 #[vR sb, vR a] [(.ref sb)])) rfl rfl (hb hby d28_7)
  obtain ⟨cq3, kq3, q3a, q3b, q3c⟩ := isOf hZ e2 Ess
  obtain ⟨_, _, ⟨T3, L3, k3, n3⟩, -, X3, ⟨Lc3, hQ3, l3, y3, z3⟩, st3⟩ := X2.virtualBack hx (y := yy23) (z := yy23) hown (mvT hZ (hi 228 rfl)) (mvT hZ (hi 205 rfl)) (notFace_of_selects (args := #[]) (mvT hZ (hi 207 rfl))) (mvT hZ (hi 207 rfl)) (mvT hZ (hi 206 rfl)) (by decide) (backOf (W := 1) (rmCod l Z a0 hw [] n0 h0 O qqR qqN qqK qqU qqS qqE qqI qqM W a Fcs) hZ (hi 208 rfl) (hi 81 rfl) (by decide) (by decide)) q3a q3c (g := (mkF m 11 #[vR sb, vR a] [(.ref a), (.int 0)])) rfl (by rw [hml]; rfl) (Steps.refl _) (argsL := []) (rest := [(.int 0)]) (lenOf owpd2 rfl) rfl (Nat.le_of_eq rfl) (hb hby d28_11) (fun _ _ => ⟨rfl, e2, (by decide : 0 + 0 ≤ _), (by decide : 0 + 0 ≤ _)⟩)
  dsimp only [Pt.U, Pt.locs, Pt.cells, Pt.slots] at X3 l3 y3 z3 st3 hQ3
  subst l3 y3 z3
  obtain ⟨rfl, Nq3, e3⟩ := hQ3
  have N3 := Fr.app N0 Nq3
  obtain ⟨fs, hr, hrun, hended, hW, hsame⟩ := X3.leave (v := none) (fun _ => rfl)
  refine ⟨_, _, castTop ef ?_, hrun, hended, _, _, rfl, ?_, ⟨_, rfl⟩, hW, hsame.mono (by decide) (by decide)⟩
  · show OwG p e below s₁ m 0 #[vR sb, vR a] [] _
    refine st1 _ ?_
    show OwG p e below T1 m 3 #[vR sb, vR a] [(.int qqI)] _
    refine XS.ifNo X1.here hx rfl (hb hby d28_3) rfl ((if0 _ _).trans (feq nzI).1) ?_
    refine XS.aloadN X1.here hx rfl (hb hby d28_6) rfl rfl ?_
    show OwG p e below T1 m 7 #[vR sb, vR a] [(.ref sb)] _
    refine st2 _ ?_
    show OwG p e below T2 m 10 #[vR sb, vR a] [(.int 0)] _
    refine XS.aloadN X2.here hx rfl (hb hby d28_10) rfl rfl ?_
    show OwG p e below T2 m 11 #[vR sb, vR a] [(.ref a), (.int 0)] _
    refine st3.trans ?_
    show OwG p e below T3 m 14 #[vR sb, vR a] [(.int 0), (.int 0)] _
    refine XS.icmpYes X3.here hx rfl (pc0 := 14) (pc' := 21) rfl (hb hby d28_14) rfl (teq (by decide : (0 : Int32) = (0 : Int32))).1 (by decide) (by decide) ?_
    show OwG p e below T3 m 21 #[vR sb, vR a] [] _
    exact X3.returnOut hx Bd.returns (hb hby d28_21) hr
  · have eF : (T3.setFrames fs).heap = h0 := e3
    exact ⟨rfl, N3, eF⟩
theorem rmGb_10_16_0 (l : Launch) (Z : State) (a0 : Array Value) (hw : OwHw Z a0) (ws : List Jvm.Cond) (n0 : Nat) (h0 : Heap) (O : Old Z n0 h0) (qqR qqN qqK qqU qqS qqE : Addr) (qqI : Int32) (qqM : Addr) (W : OwW Z qqR qqN qqK qqU qqS qqE qqI qqM) (a b : Addr) (k : ClassId) (y : Addr) (ky : ClassId) (Es : Exa Z h0 a zs18) (Fc : Fld Z h0 a zs18 "coder" "B" (.int 0)) (Fv : Fld Z h0 a zs18 "value" "[B" (.ref b)) (Vb : owB Z h0 b k (10 : Int32)) (Vby : owB Z h0 y ky (16 : Int32)) (gy : n0 ≤ y) :
    OwCon l yy24 j1 4 none ws (rM 1 0 0 18) #[(.ref a), (.ref y), (.int 0), (.int 0)] Z h0 (OwP (fun v h => v = none ∧ Old Z n0 h ∧ Keep h0 h [y] ∧ owB Z h y ky (16 : Int32)) n0) := by
  refine MetFree.of_bodySF (plainFor_of_name owpn29) hisR ?_
  intro p e s m args below meth c s₁ Bd hml0 hP hK
  have hi := @own_hi Z a0 hw
  obtain ⟨rfl, hZ, hh⟩ := hP
  have hx := Bd.exec
  have hby := Bd.bytes
  have hml : c.maxLocals = 4 := hml0
  have hown := findClass_of_methodNamed Bd.named
  have X0 : Stand p l e (rM 1 0 0 18) s m #[(.ref a), (.ref y), (.int 0), (.int 0)] below meth c s₁ [] 0 0 := Stand.of_body Bd
  have e0 : s₁.heap = h0 := by rw [← hh, Bd.state]; rfl
  have N0 := Fr.nil n0
  have ef : entryFrame m #[(.ref a), (.ref y), (.int 0), (.int 0)] 4 = mkF m 0 #[.val (.ref a), .val (.ref y), .val (.int 0), .val (.int 0)] [] := by first | (simp [entryFrame, mkF, argsToLocals, Value.category]; done) | rfl
  obtain ⟨cq1, kq1, q1a, q1b, q1c⟩ := isOf hZ e0 Es
  obtain ⟨_, _, ⟨T1, L1, k1, n1⟩, -, X1, ⟨Lc1, hQ1, l1, y1, z1⟩, st1⟩ := X0.virtualBack hx (y := yy23) (z := yy23) hown (mvT hZ (hi 204 rfl)) (mvT hZ (hi 205 rfl)) (notFace_of_selects (args := #[]) (mvT hZ (hi 207 rfl))) (mvT hZ (hi 207 rfl)) (mvT hZ (hi 206 rfl)) (by decide) (backOf (W := 0) (rmCod l Z a0 hw [] n0 h0 O qqR qqN qqK qqU qqS qqE qqI qqM W a Fc) hZ (hi 208 rfl) (hi 81 rfl) (by decide) (by decide)) q1a q1c (g := (mkF m 1 #[vR a, vR y, vI 0, vI 0] [(.ref a)])) rfl (by rw [hml]; rfl) (Steps.refl _) (argsL := []) (rest := []) (lenOf owpd2 rfl) rfl (Nat.le_of_eq rfl) (hb hby d29_1) (fun _ _ => ⟨rfl, e0, (by decide : 0 + 0 ≤ _), (by decide : 0 + 0 ≤ _)⟩)
  dsimp only [Pt.U, Pt.locs, Pt.cells, Pt.slots] at X1 l1 y1 z1 st1 hQ1
  subst l1 y1 z1
  obtain ⟨rfl, Nq1, e1⟩ := hQ1
  have N1 := Fr.app N0 Nq1
  obtain ⟨T2, X2, e2, st2⟩ := getF X1 hx hZ hown (host := "") (Or.inl (hi 203 rfl)) Via.refl e1 Fv (g := (mkF m 9 #[vR a, vR y, vI 0, vI 0] [(.ref a)])) rfl rfl (hb hby d29_9)
  obtain ⟨T3, X3, e3, st3⟩ := getF X2 hx hZ hown (host := "") (Or.inl (hi 203 rfl)) Via.refl e2 Fv (g := (mkF m 18 #[vR a, vR y, vI 0, vI 0] [(.ref a), (.int 0), (.ref y), (.int 0), (.ref b)])) rfl rfl (hb hby d29_18)
  obtain ⟨cl4, Ar4, Sz4, Nn4⟩ := Vb.arr
  obtain ⟨T5, h5, L5, X5, e5, N5, Kc5, V5, st5⟩ := own_cpB X3 hx hZ hown (hi 234 rfl) (hi 237 rfl) (hi 235 rfl) (hi 236 rfl) e3 Vb Vby (by decide) (by decide) (by decide) (by decide) (by decide) N1 gy (g := (mkF m 22 #[vR a, vR y, vI 0, vI 0] [(.int 10), (.int 0), (.ref y), (.int 0), (.ref b)])) rfl (by rw [hml]; rfl) rfl (hb hby d29_22) (by decide) (W := 0) (Nat.le_of_eq rfl) (by decide)
  have O5 := O.keep Kc5 (allS (P := fun x => n0 ≤ x) gy all0)
  have Kp5 : Keep h0 h5 [y] := (Keep.refl h0 [y]).trans Kc5 (allS (P := fun x => x ∈ [y] ∨ h0.size ≤ x) (Or.inl (List.mem_of_getElem? (i := 0) rfl)) (all0 (P := fun x => x ∈ [y] ∨ h0.size ≤ x)))
  obtain ⟨fs, hr, hrun, hended, hW, hsame⟩ := X5.leave (v := none) (fun _ => rfl)
  refine ⟨_, _, castTop ef ?_, hrun, hended, _, _, rfl, ?_, ⟨_, rfl⟩, hW, hsame.mono (by decide) (by decide)⟩
  · show OwG p e below s₁ m 0 #[vR a, vR y, vI 0, vI 0] [] _
    refine XS.aloadN X0.here hx rfl (hb hby d29_0) rfl rfl ?_
    show OwG p e below s₁ m 1 #[vR a, vR y, vI 0, vI 0] [(.ref a)] _
    refine st1.trans ?_
    show OwG p e below T1 m 4 #[vR a, vR y, vI 0, vI 0] [(.int 0)] _
    refine XS.iloadN X1.here hx rfl (hb hby d29_4) rfl ?_
    refine XS.icmpNo X1.here hx rfl (hb hby d29_5) rfl (teq (by decide : (0 : Int32) = (0 : Int32))).2 ?_
    refine XS.aloadN X1.here hx rfl (hb hby d29_8) rfl rfl ?_
    show OwG p e below T1 m 9 #[vR a, vR y, vI 0, vI 0] [(.ref a)] _
    refine st2 _ ?_
    show OwG p e below T2 m 12 #[vR a, vR y, vI 0, vI 0] [(.ref b)] _
    refine XS.iconst X2.here hx rfl (hb hby d29_12) ?_
    refine XS.aloadN X2.here hx rfl (hb hby d29_13) rfl rfl ?_
    refine XS.iloadN X2.here hx rfl (hb hby d29_14) rfl ?_
    refine XS.iloadN X2.here hx rfl (hb hby d29_15) rfl ?_
    refine XS.ishl X2.here hx rfl (hb hby d29_16) rfl ?_
    refine XS.aloadN X2.here hx rfl (hb hby d29_17) rfl rfl ?_
    show OwG p e below T2 m 18 #[vR a, vR y, vI 0, vI 0] [(.ref a), (.int 0), (.ref y), (.int 0), (.ref b)] _
    refine st3 _ ?_
    show OwG p e below T3 m 21 #[vR a, vR y, vI 0, vI 0] [(.ref b), (.int 0), (.ref y), (.int 0), (.ref b)] _
    refine X3.arraylength hx (by rw [e3]; exact Ar4.1) (State.isArrayOf_alike hZ.alike Ar4.2.1) (g := (mkF m 21 #[vR a, vR y, vI 0, vI 0] [(.ref b), (.int 0), (.ref y), (.int 0), (.ref b)])) rfl rfl (hb hby d29_21) _ ?_
    rw [len_of Sz4 Nn4]
    show OwG p e below T3 m 22 #[vR a, vR y, vI 0, vI 0] [(.int 10), (.int 0), (.ref y), (.int 0), (.ref b)] _
    refine st5 _ ?_
    show OwG p e below T5 m 25 #[vR a, vR y, vI 0, vI 0] [] _
    refine XS.goto X5.here hx rfl (pc0 := 25) (pc' := 43) rfl (hb hby d29_25) (by decide) (by decide) ?_
    show OwG p e below T5 m 43 #[vR a, vR y, vI 0, vI 0] [] _
    exact X5.returnOut hx Bd.returns (hb hby d29_43) hr
  · have eF : (T5.setFrames fs).heap = h5 := e5
    exact ⟨N5, rfl, by rw [eF]; exact ⟨O5, Kp5, V5⟩⟩
theorem rmPut_16_0_10 (l : Launch) (Z : State) (a0 : Array Value) (hw : OwHw Z a0) (ws : List Jvm.Cond) (n0 : Nat) (h0 : Heap) (O : Old Z n0 h0) (qqR qqN qqK qqU qqS qqE : Addr) (qqI : Int32) (qqM : Addr) (W : OwW Z qqR qqN qqK qqU qqS qqE qqI qqM) (sb b : Addr) (k : ClassId) (a ab : Addr) (ak : ClassId) (Eb : Exa Z h0 sb zs19) (Gv : Fld Z h0 sb zs14 "value" "[B" (.ref b)) (Gc : Fld Z h0 sb zs14 "coder" "B" (.int 0)) (Gn : Fld Z h0 sb zs14 "count" "I" (.int 0)) (Vbx : owB Z h0 b k (16 : Int32)) (Ess : Exa Z h0 a zs18) (Fcs : Fld Z h0 a zs18 "coder" "B" (.int 0)) (Fvs : Fld Z h0 a zs18 "value" "[B" (.ref ab)) (Vbs : owB Z h0 ab ak (10 : Int32)) (gb : n0 ≤ b) :
    OwCon l yy16 j24 3 none ws (rM 2 0 0 33) #[(.ref sb), (.int 0), (.ref a)] Z h0 (OwP (fun v h => v = none ∧ Old Z n0 h ∧ Keep h0 h [b] ∧ owB Z h b k (16 : Int32)) n0) := by
  refine MetFree.of_bodySF (plainFor_of_name owpn27) hisR ?_
  intro p e s m args below meth c s₁ Bd hml0 hP hK
  have hi := @own_hi Z a0 hw
  obtain ⟨rfl, hZ, hh⟩ := hP
  have hx := Bd.exec
  have hby := Bd.bytes
  have hml : c.maxLocals = 3 := hml0
  have hown := findClass_of_methodNamed Bd.named
  have X0 : Stand p l e (rM 2 0 0 33) s m #[(.ref sb), (.int 0), (.ref a)] below meth c s₁ [] 0 0 := Stand.of_body Bd
  have e0 : s₁.heap = h0 := by rw [← hh, Bd.state]; rfl
  have N0 := Fr.nil n0
  have ef : entryFrame m #[(.ref sb), (.int 0), (.ref a)] 3 = mkF m 0 #[.val (.ref sb), .val (.int 0), .val (.ref a)] [] := by first | (simp [entryFrame, mkF, argsToLocals, Value.category]; done) | rfl
  obtain ⟨cq1, kq1, q1a, q1b, q1c⟩ := isOf hZ e0 Eb
  obtain ⟨_, _, ⟨T1, L1, k1, n1⟩, -, X1, ⟨Lc1, hQ1, l1, y1, z1⟩, st1⟩ := X0.virtualBack hx (y := yy12) (z := yy12) hown (mvT hZ (hi 223 rfl)) (own_decl (mvT hZ (hi 224 rfl)) (mvT hZ (hi 227 rfl))) (notFace_of_selects (args := #[]) (mvT hZ (hi 226 rfl))) (mvT hZ (hi 226 rfl)) (mvT hZ (hi 224 rfl)) (by decide) (backOf (W := 0) (rmInf l Z a0 hw [] n0 h0 O qqR qqN qqK qqU qqS qqE qqI qqM W sb a Gc Ess Fcs) hZ (hi 227 rfl) (hi 179 rfl) (by decide) (by decide)) q1a q1c (g := (mkF m 2 #[vR sb, vI 0, vR a] [(.ref a), (.ref sb)])) rfl (by rw [hml]; rfl) (Steps.refl _) (argsL := [(.ref a)]) (rest := []) (lenOf owpd3 rfl) rfl (Nat.le_of_eq rfl) (hb hby d27_2) (fun _ _ => ⟨rfl, e0, (by decide : 0 + 0 ≤ _), (by decide : 0 + 0 ≤ _)⟩)
  dsimp only [Pt.U, Pt.locs, Pt.cells, Pt.slots] at X1 l1 y1 z1 st1 hQ1
  subst l1 y1 z1
  obtain ⟨rfl, Nq1, e1⟩ := hQ1
  have N1 := Fr.app N0 Nq1
  obtain ⟨T2, X2, e2, st2⟩ := getF X1 hx hZ hown (host := "") (Or.inl (hi 183 rfl)) Via.refl e1 Gv (g := (mkF m 7 #[vR sb, vI 0, vR a] [(.ref sb), (.ref a)])) rfl rfl (hb hby d27_7)
  obtain ⟨T3, X3, e3, st3⟩ := getF X2 hx hZ hown (host := "") (Or.inl (hi 185 rfl)) Via.refl e2 Gc (g := (mkF m 12 #[vR sb, vI 0, vR a] [(.ref sb), (.int 0), (.ref b), (.ref a)])) rfl rfl (hb hby d27_12)
  obtain ⟨cq4, kq4, q4a, q4b, q4c⟩ := isOf hZ e3 Ess
  obtain ⟨_, _, ⟨T4, L4, k4, n4⟩, -, X4, ⟨Lc4, hQ4, l4, y4, z4⟩, st4⟩ := X3.virtualBack hx (y := yy24) (z := yy24) hown (mvT hZ (hi 229 rfl)) (mvT hZ (hi 230 rfl)) (notFace_of_selects (args := #[]) (mvT hZ (hi 232 rfl))) (mvT hZ (hi 232 rfl)) (mvT hZ (hi 231 rfl)) (by decide) (backOf (W := 0) (rmGb_10_16_0 l Z a0 hw [] n0 h0 O qqR qqN qqK qqU qqS qqE qqI qqM W a ab ak b k Ess Fcs Fvs Vbs Vbx gb) hZ (hi 233 rfl) (hi 81 rfl) (by decide) (by decide)) q4a q4c (g := (mkF m 15 #[vR sb, vI 0, vR a] [(.int 0), (.int 0), (.ref b), (.ref a)])) rfl (by rw [hml]; rfl) (Steps.refl _) (argsL := [(.ref b), (.int 0), (.int 0)]) (rest := []) (lenOf owpd4 rfl) rfl (Nat.le_of_eq rfl) (hb hby d27_15) (fun _ _ => ⟨rfl, e3, (by decide : 0 + 0 ≤ _), (by decide : 0 + 0 ≤ _)⟩)
  dsimp only [Pt.U, Pt.locs, Pt.cells, Pt.slots] at X4 l4 y4 z4 st4 hQ4
  subst l4 y4 z4
  obtain ⟨Nq4, hP4⟩ := hQ4
  have N4 := Fr.app N1 Nq4
  have ee4 : T4.heap = T4.heap := rfl
  obtain ⟨rfl, Oc4, Kc4, Vb4⟩ := hP4
  have Kp4 : Keep h0 T4.heap [b] := (Keep.refl h0 [b]).trans Kc4 (allS (P := fun x => x ∈ [b] ∨ h0.size ≤ x) (Or.inl (List.mem_of_getElem? (i := 0) rfl)) (all0 (P := fun x => x ∈ [b] ∨ h0.size ≤ x)))
  obtain ⟨fs, hr, hrun, hended, hW, hsame⟩ := X4.leave (v := none) (fun _ => rfl)
  refine ⟨_, _, castTop ef ?_, hrun, hended, _, _, rfl, ?_, ⟨_, rfl⟩, hW, hsame.mono (by decide) (by decide)⟩
  · show OwG p e below s₁ m 0 #[vR sb, vI 0, vR a] [] _
    refine XS.aloadN X0.here hx rfl (hb hby d27_0) rfl rfl ?_
    show OwG p e below s₁ m 1 #[vR sb, vI 0, vR a] [(.ref sb)] _
    refine XS.aloadN X0.here hx rfl (hb hby d27_1) rfl rfl ?_
    show OwG p e below s₁ m 2 #[vR sb, vI 0, vR a] [(.ref a), (.ref sb)] _
    refine st1.trans ?_
    show OwG p e below T1 m 5 #[vR sb, vI 0, vR a] [] _
    refine XS.aloadN X1.here hx rfl (hb hby d27_5) rfl rfl ?_
    refine XS.aloadN X1.here hx rfl (hb hby d27_6) rfl rfl ?_
    show OwG p e below T1 m 7 #[vR sb, vI 0, vR a] [(.ref sb), (.ref a)] _
    refine st2 _ ?_
    show OwG p e below T2 m 10 #[vR sb, vI 0, vR a] [(.ref b), (.ref a)] _
    refine XS.iloadN X2.here hx rfl (hb hby d27_10) rfl ?_
    refine XS.aloadN X2.here hx rfl (hb hby d27_11) rfl rfl ?_
    show OwG p e below T2 m 12 #[vR sb, vI 0, vR a] [(.ref sb), (.int 0), (.ref b), (.ref a)] _
    refine st3 _ ?_
    show OwG p e below T3 m 15 #[vR sb, vI 0, vR a] [(.int 0), (.int 0), (.ref b), (.ref a)] _
    refine st4.trans ?_
    show OwG p e below T4 m 18 #[vR sb, vI 0, vR a] [] _
    exact X4.returnOut hx Bd.returns (hb hby d27_18) hr
  · have eF : (T4.setFrames fs).heap = T4.heap := ee4
    exact ⟨N4, rfl, by rw [eF]; exact ⟨Oc4, Kp4, Vb4⟩⟩
theorem rmApA_16_0_10 (l : Launch) (Z : State) (a0 : Array Value) (hw : OwHw Z a0) (ws : List Jvm.Cond) (n0 : Nat) (h0 : Heap) (O : Old Z n0 h0) (qqR qqN qqK qqU qqS qqE : Addr) (qqI : Int32) (qqM : Addr) (W : OwW Z qqR qqN qqK qqU qqS qqE qqI qqM) (sb b : Addr) (k : ClassId) (a ab : Addr) (ak : ClassId) (Eb : Exa Z h0 sb zs19) (Gv : Fld Z h0 sb zs14 "value" "[B" (.ref b)) (Gc : Fld Z h0 sb zs14 "coder" "B" (.int 0)) (Gn : Fld Z h0 sb zs14 "count" "I" (.int 0)) (Vbx : owB Z h0 b k (16 : Int32)) (Ess : Exa Z h0 a zs18) (Fcs : Fld Z h0 a zs18 "coder" "B" (.int 0)) (Fvs : Fld Z h0 a zs18 "value" "[B" (.ref ab)) (Vbs : owB Z h0 ab ak (10 : Int32)) (gs : n0 ≤ sb) (gb : n0 ≤ b) :
    OwCon l yy9 j29 3 (some (.object zs14)) ws (rM 3 0 0 47) #[(.ref sb), (.ref a)] Z h0 (OwP (fun v h => v = some (.ref sb) ∧ Old Z n0 h ∧ Keep h0 h [sb, b] ∧ ∃ (b' : Addr) (k' : ClassId), b = b' ∧ Exa Z h sb zs19 ∧ Fld Z h sb zs14 "value" "[B" (.ref b') ∧ Fld Z h sb zs14 "coder" "B" (.int 0) ∧ Fld Z h sb zs14 "count" "I" (.int 10) ∧ owB Z h b' k' (16 : Int32)) n0) := by
  refine MetFree.of_bodySF (plainFor_of_name owpn23) hisR ?_
  intro p e s m args below meth c s₁ Bd hml0 hP hK
  have hi := @own_hi Z a0 hw
  obtain ⟨rfl, hZ, hh⟩ := hP
  have hx := Bd.exec
  have hby := Bd.bytes
  have hml : c.maxLocals = 3 := hml0
  have hown := findClass_of_methodNamed Bd.named
  have X0 : Stand p l e (rM 3 0 0 47) s m #[(.ref sb), (.ref a)] below meth c s₁ [] 0 0 := Stand.of_body Bd
  have e0 : s₁.heap = h0 := by rw [← hh, Bd.state]; rfl
  have N0 := Fr.nil n0
  have ef : entryFrame m #[(.ref sb), (.ref a)] 3 = mkF m 0 #[.val (.ref sb), .val (.ref a), .unset] [] := by first | (simp [entryFrame, mkF, argsToLocals, Value.category]; done) | rfl
  obtain ⟨cq1, kq1, q1a, q1b, q1c⟩ := isOf hZ e0 Ess
  obtain ⟨_, _, ⟨T1, L1, k1, n1⟩, -, X1, ⟨Lc1, hQ1, l1, y1, z1⟩, st1⟩ := X0.virtualBack hx (y := yy25) (z := yy25) hown (mvT hZ (hi 198 rfl)) (mvT hZ (hi 199 rfl)) (notFace_of_selects (args := #[]) (mvT hZ (hi 201 rfl))) (mvT hZ (hi 201 rfl)) (mvT hZ (hi 200 rfl)) (by decide) (backOf (W := 0) (rmLen10 l Z a0 hw [] n0 h0 O qqR qqN qqK qqU qqS qqE qqI qqM W a ab ak Ess Fcs Fvs Vbs) hZ (hi 202 rfl) (hi 81 rfl) (by decide) (by decide)) q1a q1c (g := (mkF m 10 #[vR sb, vR a, .unset] [(.ref a)])) rfl (by rw [hml]; rfl) (Steps.refl _) (argsL := []) (rest := []) (lenOf owpd5 rfl) rfl (Nat.le_of_eq rfl) (hb hby d23_10) (fun _ _ => ⟨rfl, e0, (by decide : 0 + 0 ≤ _), (by decide : 0 + 0 ≤ _)⟩)
  dsimp only [Pt.U, Pt.locs, Pt.cells, Pt.slots] at X1 l1 y1 z1 st1 hQ1
  subst l1 y1 z1
  obtain ⟨rfl, Nq1, e1⟩ := hQ1
  have N1 := Fr.app N0 Nq1
  obtain ⟨T2, X2, e2, st2⟩ := getF X1 hx hZ hown (host := "") (Or.inl (hi 211 rfl)) Via.refl e1 Gn (g := (mkF m 16 #[vR sb, vR a, vI 10] [(.ref sb), (.ref sb)])) rfl rfl (hb hby d23_16)
  obtain ⟨cq3, kq3, q3a, q3b, q3c⟩ := isOf hZ e2 Eb
  obtain ⟨_, _, ⟨T3, L3, k3, n3⟩, -, X3, ⟨Lc3, hQ3, l3, y3, z3⟩, st3⟩ := X2.virtualBack hx (y := yy10) (z := yy10) hown (mvT hZ (hi 213 rfl)) (own_decl (mvT hZ (hi 214 rfl)) (mvT hZ (hi 217 rfl))) (notFace_of_selects (args := #[]) (mvT hZ (hi 216 rfl))) (mvT hZ (hi 216 rfl)) (mvT hZ (hi 214 rfl)) (by decide) (backOf (W := 0) (rmEns_16_10 l Z a0 hw [] n0 h0 O qqR qqN qqK qqU qqS qqE qqI qqM W sb b k Eb Gv Gc Gn Vbx gs) hZ (hi 217 rfl) (hi 179 rfl) (by decide) (by decide)) q3a q3c (g := (mkF m 21 #[vR sb, vR a, vI 10] [(.int 10), (.ref sb)])) rfl (by rw [hml]; rfl) (Steps.refl _) (argsL := [(.int 10)]) (rest := []) (lenOf owpd1 rfl) rfl (Nat.le_of_eq rfl) (hb hby d23_21) (fun _ _ => ⟨rfl, e2, (by decide : 0 + 0 ≤ _), (by decide : 0 + 0 ≤ _)⟩)
  dsimp only [Pt.U, Pt.locs, Pt.cells, Pt.slots] at X3 l3 y3 z3 st3 hQ3
  subst l3 y3 z3
  obtain ⟨rfl, Nq3, e3⟩ := hQ3
  have N3 := Fr.app N1 Nq3
  obtain ⟨T4, X4, e4, st4⟩ := getF X3 hx hZ hown (host := "") (Or.inl (hi 211 rfl)) Via.refl e3 Gn (g := (mkF m 26 #[vR sb, vR a, vI 10] [(.ref sb), (.ref sb)])) rfl rfl (hb hby d23_26)
  obtain ⟨cq5, kq5, q5a, q5b, q5c⟩ := isOf hZ e4 Eb
  obtain ⟨_, _, ⟨T5, L5, k5, n5⟩, -, X5, ⟨Lc5, hQ5, l5, y5, z5⟩, st5⟩ := X4.virtualBack hx (y := yy16) (z := yy16) hown (mvT hZ (hi 218 rfl)) (own_decl (mvT hZ (hi 219 rfl)) (mvT hZ (hi 222 rfl))) (notFace_of_selects (args := #[]) (mvT hZ (hi 221 rfl))) (mvT hZ (hi 221 rfl)) (mvT hZ (hi 219 rfl)) (by decide) (backOf (W := 0) (rmPut_16_0_10 l Z a0 hw [] n0 h0 O qqR qqN qqK qqU qqS qqE qqI qqM W sb b k a ab ak Eb Gv Gc Gn Vbx Ess Fcs Fvs Vbs gb) hZ (hi 222 rfl) (hi 179 rfl) (by decide) (by decide)) q5a q5c (g := (mkF m 30 #[vR sb, vR a, vI 10] [(.ref a), (.int 0), (.ref sb)])) rfl (by rw [hml]; rfl) (Steps.refl _) (argsL := [(.int 0), (.ref a)]) (rest := []) (lenOf owpd6 rfl) rfl (Nat.le_of_eq rfl) (hb hby d23_30) (fun _ _ => ⟨rfl, e4, (by decide : 0 + 0 ≤ _), (by decide : 0 + 0 ≤ _)⟩)
  dsimp only [Pt.U, Pt.locs, Pt.cells, Pt.slots] at X5 l5 y5 z5 st5 hQ5
  subst l5 y5 z5
  obtain ⟨Nq5, hP5⟩ := hQ5
  have N5 := Fr.app N3 Nq5
  have ee5 : T5.heap = T5.heap := rfl
  obtain ⟨rfl, Oc5, Kc5, Vb5⟩ := hP5
  have Kp5 : Keep h0 T5.heap [sb, b] := (Keep.refl h0 [sb, b]).trans Kc5 (allS (P := fun x => x ∈ [sb, b] ∨ h0.size ≤ x) (Or.inl (List.mem_of_getElem? (i := 1) rfl)) (all0 (P := fun x => x ∈ [sb, b] ∨ h0.size ≤ x)))
  have nq6 := owB.ne Vbx Eb (hi 170 rfl)
  have fa7 := (Gn.keep Kc5 (ninS (Ne.symm nq6) nin0))
  obtain ⟨T8, X8, e8, st8⟩ := getF X5 hx hZ hown (host := "") (Or.inl (hi 211 rfl)) Via.refl ee5 fa7 (g := (mkF m 35 #[vR sb, vR a, vI 10] [(.ref sb), (.ref sb)])) rfl rfl (hb hby d23_35)
  have fa9 := (Eb.keep Kc5)
  obtain ⟨T10, h10, X10, e10, W10, st10⟩ := putF X8 hx hZ hown (host := "") (Or.inl (hi 211 rfl)) Via.refl e8 fa7 fa9 (Or.inl (hi 212 rfl)) (hi 170 rfl) (ty := .int) (by decide) rfl rfl (g := (mkF m 40 #[vR sb, vR a, vI 10] [(.int 10), (.ref sb)])) rfl rfl (hb hby d23_40)
  have Fw10 := fa7.same W10
  have N10 := Fr.snoc X10 N5 gs
  have O10 := Oc5.wr W10 gs
  have Kp10 : Keep h0 h10 [sb, b] := Kp5.wr W10 (Or.inl (List.mem_of_getElem? (i := 0) rfl))
  have fa11 := (fa9.wr W10)
  have fa12 := ((Gv.keep Kc5 (ninS (Ne.symm nq6) nin0)).other W10 (Or.inr (slot_ne (Or.inl (hi 184 rfl)) (Or.inl (hi 212 rfl)) (by decide) (t := (.array .byte)) (t' := .int) (by decide) (by decide))))
  have fa13 := ((Gc.keep Kc5 (ninS (Ne.symm nq6) nin0)).other W10 (Or.inr (slot_ne (Or.inl (hi 186 rfl)) (Or.inl (hi 212 rfl)) (by decide) (t := .byte) (t' := .int) (by decide) (by decide))))
  have fa14 := (Vb5.other W10 nq6)
  obtain ⟨fs, hr, hrun, hended, hW, hsame⟩ := X10.leave (v := some (.ref sb)) (fun h => by rw [Bd.returns] at h; cases h)
  refine ⟨_, _, castTop ef ?_, hrun, hended, _, _, rfl, ?_, ⟨_, rfl⟩, hW, hsame.mono (by decide) (by decide)⟩
  · show OwG p e below s₁ m 0 #[vR sb, vR a, .unset] [] _
    refine XS.aloadN X0.here hx rfl (hb hby d23_0) rfl rfl ?_
    show OwG p e below s₁ m 1 #[vR sb, vR a, .unset] [(.ref a)] _
    refine XS.ifnonnullYes X0.here hx rfl (pc0 := 1) (pc' := 9) rfl (hb hby d23_1) rfl (by decide) (by decide) ?_
    refine XS.aloadN X0.here hx rfl (hb hby d23_9) rfl rfl ?_
    show OwG p e below s₁ m 10 #[vR sb, vR a, .unset] [(.ref a)] _
    refine st1.trans ?_
    show OwG p e below T1 m 13 #[vR sb, vR a, .unset] [(.int 10)] _
    refine XS.istoreN X1.here hx rfl (hb hby d23_13) rfl (l' := #[vR sb, vR a, vI 10]) rfl ?_
    refine XS.aloadN X1.here hx rfl (hb hby d23_14) rfl rfl ?_
    refine XS.aloadN X1.here hx rfl (hb hby d23_15) rfl rfl ?_
    show OwG p e below T1 m 16 #[vR sb, vR a, vI 10] [(.ref sb), (.ref sb)] _
    refine st2 _ ?_
    show OwG p e below T2 m 19 #[vR sb, vR a, vI 10] [(.int 0), (.ref sb)] _
    refine XS.iloadN X2.here hx rfl (hb hby d23_19) rfl ?_
    refine XS.iadd X2.here hx rfl (hb hby d23_20) rfl ?_
    show OwG p e below T2 m 21 #[vR sb, vR a, vI 10] [(.int 10), (.ref sb)] _
    refine st3.trans ?_
    show OwG p e below T3 m 24 #[vR sb, vR a, vI 10] [] _
    refine XS.aloadN X3.here hx rfl (hb hby d23_24) rfl rfl ?_
    refine XS.aloadN X3.here hx rfl (hb hby d23_25) rfl rfl ?_
    show OwG p e below T3 m 26 #[vR sb, vR a, vI 10] [(.ref sb), (.ref sb)] _
    refine st4 _ ?_
    show OwG p e below T4 m 29 #[vR sb, vR a, vI 10] [(.int 0), (.ref sb)] _
    refine XS.aloadN X4.here hx rfl (hb hby d23_29) rfl rfl ?_
    show OwG p e below T4 m 30 #[vR sb, vR a, vI 10] [(.ref a), (.int 0), (.ref sb)] _
    refine st5.trans ?_
    show OwG p e below T5 m 33 #[vR sb, vR a, vI 10] [] _
    refine XS.aloadN X5.here hx rfl (hb hby d23_33) rfl rfl ?_
    refine XS.dup X5.here hx rfl (hb hby d23_34) rfl rfl ?_
    show OwG p e below T5 m 35 #[vR sb, vR a, vI 10] [(.ref sb), (.ref sb)] _
    refine st8 _ ?_
    show OwG p e below T8 m 38 #[vR sb, vR a, vI 10] [(.int 0), (.ref sb)] _
    refine XS.iloadN X8.here hx rfl (hb hby d23_38) rfl ?_
    refine XS.iadd X8.here hx rfl (hb hby d23_39) rfl ?_
    show OwG p e below T8 m 40 #[vR sb, vR a, vI 10] [(.int 10), (.ref sb)] _
    refine st10 _ ?_
    show OwG p e below T10 m 43 #[vR sb, vR a, vI 10] [] _
    refine XS.aloadN X10.here hx rfl (hb hby d23_43) rfl rfl ?_
    show OwG p e below T10 m 44 #[vR sb, vR a, vI 10] [(.ref sb)] _
    exact retOut X10 hx Bd.returns rfl (Or.inr (Or.inr (Or.inr (Or.inr ⟨rfl, rfl, rfl⟩)))) (hb hby d23_44) hr
  · have eF : (T10.setFrames fs).heap = h10 := e10
    exact ⟨N10, rfl, by rw [eF]; exact ⟨O10, Kp10, b, k, rfl, fa11, fa12, fa13, Fw10, fa14⟩⟩
theorem rmApS_16_0_10 (l : Launch) (Z : State) (a0 : Array Value) (hw : OwHw Z a0) (ws : List Jvm.Cond) (n0 : Nat) (h0 : Heap) (O : Old Z n0 h0) (qqR qqN qqK qqU qqS qqE : Addr) (qqI : Int32) (qqM : Addr) (W : OwW Z qqR qqN qqK qqU qqS qqE qqI qqM) (sb b : Addr) (k : ClassId) (a ab : Addr) (ak : ClassId) (Eb : Exa Z h0 sb zs19) (Gv : Fld Z h0 sb zs14 "value" "[B" (.ref b)) (Gc : Fld Z h0 sb zs14 "coder" "B" (.int 0)) (Gn : Fld Z h0 sb zs14 "count" "I" (.int 0)) (Vbx : owB Z h0 b k (16 : Int32)) (Ess : Exa Z h0 a zs18) (Fcs : Fld Z h0 a zs18 "coder" "B" (.int 0)) (Fvs : Fld Z h0 a zs18 "value" "[B" (.ref ab)) (Vbs : owB Z h0 ab ak (10 : Int32)) (gs : n0 ≤ sb) (gb : n0 ≤ b) :
    OwCon l yy27 j38 2 (some (.object zs19)) ws (rM 4 0 0 61) #[(.ref sb), (.ref a)] Z h0 (OwP (fun v h => v = some (.ref sb) ∧ Old Z n0 h ∧ Keep h0 h [sb, b] ∧ ∃ (b' : Addr) (k' : ClassId), b = b' ∧ Exa Z h sb zs19 ∧ Fld Z h sb zs14 "value" "[B" (.ref b') ∧ Fld Z h sb zs14 "coder" "B" (.int 0) ∧ Fld Z h sb zs14 "count" "I" (.int 10) ∧ owB Z h b' k' (16 : Int32)) n0) := by
  refine MetFree.of_bodySF (plainFor_of_name owpn22) hisR ?_
  intro p e s m args below meth c s₁ Bd hml0 hP hK
  have hi := @own_hi Z a0 hw
  obtain ⟨rfl, hZ, hh⟩ := hP
  have hx := Bd.exec
  have hby := Bd.bytes
  have hml : c.maxLocals = 2 := hml0
  have hown := findClass_of_methodNamed Bd.named
  have X0 : Stand p l e (rM 4 0 0 61) s m #[(.ref sb), (.ref a)] below meth c s₁ [] 0 0 := Stand.of_body Bd
  have e0 : s₁.heap = h0 := by rw [← hh, Bd.state]; rfl
  have N0 := Fr.nil n0
  have ef : entryFrame m #[(.ref sb), (.ref a)] 2 = mkF m 0 #[.val (.ref sb), .val (.ref a)] [] := by first | (simp [entryFrame, mkF, argsToLocals, Value.category]; done) | rfl
  obtain ⟨_, _, ⟨T1, L1, k1, n1⟩, -, X1, ⟨Lc1, hQ1, l1, y1, z1⟩, st1⟩ := superBack X0 hx hZ (y := yy9) hown (hi 193 rfl) (own_same (hi 216 rfl) rfl (by decide) (hi 196 rfl)) (hi 194 rfl) (hi 195 rfl) (by decide) (backOf (W := 0) (rmApA_16_0_10 l Z a0 hw [] n0 h0 O qqR qqN qqK qqU qqS qqE qqI qqM W sb b k a ab ak Eb Gv Gc Gn Vbx Ess Fcs Fvs Vbs gs gb) hZ (hi 197 rfl) (hi 179 rfl) (by decide) (by decide)) e0 (Ins.self Eb) (g := (mkF m 2 #[vR sb, vR a] [(.ref a), (.ref sb)])) rfl (by rw [hml]; rfl) (hi 197 rfl) (argsL := [(.ref a)]) (rest := []) (lenOf owpd7 rfl) rfl (Nat.le_of_eq rfl) (hb hby d22_2) (fun _ _ => ⟨rfl, e0, (by decide : 0 + 0 ≤ _), (by decide : 0 + 0 ≤ _)⟩)
  dsimp only [Pt.U, Pt.locs, Pt.cells, Pt.slots] at X1 l1 y1 z1 st1 hQ1
  subst l1 y1 z1
  obtain ⟨Nq1, hP1⟩ := hQ1
  have N1 := Fr.app N0 Nq1
  have ee1 : T1.heap = T1.heap := rfl
  obtain ⟨rfl, Oc1, Kc1, bb1, kk1, rfl, Ec1, Gv1, Gc1, Gn1, Vb1⟩ := hP1
  have Kp1 : Keep h0 T1.heap [sb, b] := (Keep.refl h0 [sb, b]).trans Kc1 (allS (P := fun x => x ∈ [sb, b] ∨ h0.size ≤ x) (Or.inl (List.mem_of_getElem? (i := 0) rfl)) (allS (P := fun x => x ∈ [sb, b] ∨ h0.size ≤ x) (Or.inl (List.mem_of_getElem? (i := 1) rfl)) (all0 (P := fun x => x ∈ [sb, b] ∨ h0.size ≤ x))))
  obtain ⟨fs, hr, hrun, hended, hW, hsame⟩ := X1.leave (v := some (.ref sb)) (fun h => by rw [Bd.returns] at h; cases h)
  refine ⟨_, _, castTop ef ?_, hrun, hended, _, _, rfl, ?_, ⟨_, rfl⟩, hW, hsame.mono (by decide) (by decide)⟩
  · show OwG p e below s₁ m 0 #[vR sb, vR a] [] _
    refine XS.aloadN X0.here hx rfl (hb hby d22_0) rfl rfl ?_
    show OwG p e below s₁ m 1 #[vR sb, vR a] [(.ref sb)] _
    refine XS.aloadN X0.here hx rfl (hb hby d22_1) rfl rfl ?_
    show OwG p e below s₁ m 2 #[vR sb, vR a] [(.ref a), (.ref sb)] _
    refine st1.trans ?_
    show OwG p e below T1 m 5 #[vR sb, vR a] [(.ref sb)] _
    refine XS.pop X1.here hx rfl (hb hby d22_5) rfl rfl ?_
    refine XS.aloadN X1.here hx rfl (hb hby d22_6) rfl rfl ?_
    show OwG p e below T1 m 7 #[vR sb, vR a] [(.ref sb)] _
    exact retOut X1 hx Bd.returns rfl (Or.inr (Or.inr (Or.inr (Or.inr ⟨rfl, rfl, rfl⟩)))) (hb hby d22_7) hr
  · have eF : (T1.setFrames fs).heap = T1.heap := ee1
    exact ⟨N1, rfl, by rw [eF]; exact ⟨Oc1, Kp1, b, kk1, rfl, Ec1, Gv1, Gc1, Gn1, Vb1⟩⟩
theorem rmMax_16_18 (l : Launch) (Z : State) (a0 : Array Value) (hw : OwHw Z a0) (ws : List Jvm.Cond) (n0 : Nat) (h0 : Heap) (O : Old Z n0 h0) (qqR qqN qqK qqU qqS qqE : Addr) (qqI : Int32) (qqM : Addr) (W : OwW Z qqR qqN qqK qqU qqS qqE qqI qqM)  :
    OwCon l yy19 j12 2 (some .int) ws (rM 0 0 0 0) #[(.int 16), (.int 18)] Z h0 (OwQ (some (.int 18)) h0 n0) := by
  refine MetFree.of_bodySF (Jvm.Free.JP.mathPlain rfl (by decide +kernel)) hisR ?_
  intro p e s m args below meth c s₁ Bd hml0 hP hK
  have hi := @own_hi Z a0 hw
  obtain ⟨rfl, hZ, hh⟩ := hP
  have hx := Bd.exec
  have hby := Bd.bytes
  have hml : c.maxLocals = 2 := hml0
  have hown := findClass_of_methodNamed Bd.named
  have X0 : Stand p l e (rM 0 0 0 0) s m #[(.int 16), (.int 18)] below meth c s₁ [] 0 0 := Stand.of_body Bd
  have e0 : s₁.heap = h0 := by rw [← hh, Bd.state]; rfl
  have N0 := Fr.nil n0
  have ef : entryFrame m #[(.int 16), (.int 18)] 2 = mkF m 0 #[.val (.int 16), .val (.int 18)] [] := by first | (simp [entryFrame, mkF, argsToLocals, Value.category]; done) | rfl
  obtain ⟨fs, hr, hrun, hended, hW, hsame⟩ := X0.leave (v := some (.int 18)) (fun h => by rw [Bd.returns] at h; cases h)
  refine ⟨_, _, castTop ef ?_, hrun, hended, _, _, rfl, ?_, ⟨_, rfl⟩, hW, hsame.mono (by decide) (by decide)⟩
  · show OwG p e below s₁ m 0 #[vI 16, vI 18] [] _
    refine XS.iloadN X0.here hx rfl (hb hby d32_0) rfl ?_
    show OwG p e below s₁ m 1 #[vI 16, vI 18] [(.int 16)] _
    refine XS.iloadN X0.here hx rfl (hb hby d32_1) rfl ?_
    refine XS.icmpYes X0.here hx rfl (pc0 := 2) (pc' := 9) rfl (hb hby d32_2) rfl (tlt (by decide : (16 : Int32) < (18 : Int32))).1 (by decide) (by decide) ?_
    refine XS.iloadN X0.here hx rfl (hb hby d32_9) rfl ?_
    show OwG p e below s₁ m 10 #[vI 16, vI 18] [(.int 18)] _
    exact retI X0 hx Bd.returns (hb hby d32_10) hr
  · have eF : (s₁.setFrames fs).heap = h0 := e0
    exact ⟨rfl, N0, eF⟩
theorem rmNl_16_16_18 (l : Launch) (Z : State) (a0 : Array Value) (hw : OwHw Z a0) (ws : List Jvm.Cond) (n0 : Nat) (h0 : Heap) (O : Old Z n0 h0) (qqR qqN qqK qqU qqS qqE : Addr) (qqI : Int32) (qqM : Addr) (W : OwW Z qqR qqN qqK qqU qqS qqE qqI qqM)  :
    OwCon l yy47 j16 4 (some .int) ws (rM 1 0 0 14) #[(.int 16), (.int 16), (.int 18)] Z h0 (OwQ (some (.int 34)) h0 n0) := by
  refine MetFree.of_bodySF (plainFor_of_name owpn31) hisR ?_
  intro p e s m args below meth c s₁ Bd hml0 hP hK
  have hi := @own_hi Z a0 hw
  obtain ⟨rfl, hZ, hh⟩ := hP
  have hx := Bd.exec
  have hby := Bd.bytes
  have hml : c.maxLocals = 4 := hml0
  have hown := findClass_of_methodNamed Bd.named
  have X0 : Stand p l e (rM 1 0 0 14) s m #[(.int 16), (.int 16), (.int 18)] below meth c s₁ [] 0 0 := Stand.of_body Bd
  have e0 : s₁.heap = h0 := by rw [← hh, Bd.state]; rfl
  have N0 := Fr.nil n0
  have ef : entryFrame m #[(.int 16), (.int 16), (.int 18)] 4 = mkF m 0 #[.val (.int 16), .val (.int 16), .val (.int 18), .unset] [] := by first | (simp [entryFrame, mkF, argsToLocals, Value.category]; done) | rfl
  obtain ⟨_, _, ⟨T1, L1, k1, n1⟩, -, X1, ⟨Lc1, hQ1, l1, y1, z1⟩, st1⟩ := Jvm.LawKit.callS X0 hx (y := yy19) hown (mvT hZ (hi 247 rfl)) (mvT hZ (hi 248 rfl)) (mvT hZ (hi 249 rfl)) (mvT hZ (hi 250 rfl)) (by decide) (backOf (W := 1) (rmMax_16_18 l Z a0 hw [] n0 h0 O qqR qqN qqK qqU qqS qqE qqI qqM W ) hZ (hi 250 rfl) (hi 249 rfl) (by decide) (by decide)) (g := (mkF m 3 #[vI 16, vI 16, vI 18, .unset] [(.int 18), (.int 16), (.int 16)])) rfl (by rw [hml]; rfl) (argsL := [(.int 16), (.int 18)]) (rest := [(.int 16)]) (lenOf owpd8 rfl) rfl (Nat.le_of_eq rfl) (hb hby d31_3) (fun _ _ => ⟨rfl, e0, (by decide : 0 + 0 ≤ _), (by decide : 0 + 0 ≤ _)⟩)
  dsimp only [Pt.U, Pt.locs, Pt.cells, Pt.slots] at X1 l1 y1 z1 st1 hQ1
  subst l1 y1 z1
  obtain ⟨rfl, Nq1, e1⟩ := hQ1
  have N1 := Fr.app N0 Nq1
  obtain ⟨fs, hr, hrun, hended, hW, hsame⟩ := X1.leave (v := some (.int 34)) (fun h => by rw [Bd.returns] at h; cases h)
  refine ⟨_, _, castTop ef ?_, hrun, hended, _, _, rfl, ?_, ⟨_, rfl⟩, hW, hsame.mono (by decide) (by decide)⟩
  · show OwG p e below s₁ m 0 #[vI 16, vI 16, vI 18, .unset] [] _
    refine XS.iloadN X0.here hx rfl (hb hby d31_0) rfl ?_
    show OwG p e below s₁ m 1 #[vI 16, vI 16, vI 18, .unset] [(.int 16)] _
    refine XS.iloadN X0.here hx rfl (hb hby d31_1) rfl ?_
    refine XS.iloadN X0.here hx rfl (hb hby d31_2) rfl ?_
    show OwG p e below s₁ m 3 #[vI 16, vI 16, vI 18, .unset] [(.int 18), (.int 16), (.int 16)] _
    refine st1 _ ?_
    show OwG p e below T1 m 6 #[vI 16, vI 16, vI 18, .unset] [(.int 18), (.int 16)] _
    refine XS.iadd X1.here hx rfl (hb hby d31_6) rfl ?_
    refine XS.istoreN X1.here hx rfl (hb hby d31_7) rfl (l' := #[vI 16, vI 16, vI 18, vI 34]) rfl ?_
    refine XS.iconst X1.here hx rfl (hb hby d31_8) ?_
    refine XS.iloadN X1.here hx rfl (hb hby d31_9) rfl ?_
    refine XS.icmpNo X1.here hx rfl (hb hby d31_10) rfl (tlt (by decide : (0 : Int32) < (34 : Int32))).2.1 ?_
    refine XS.iloadN X1.here hx rfl (hb hby d31_13) rfl ?_
    show OwG p e below T1 m 14 #[vI 16, vI 16, vI 18, vI 34] [(.int 34)] _
    refine X1.ldcInt hx hown (mvT hZ (hi 251 rfl)) (g := (mkF m 14 #[vI 16, vI 16, vI 18, vI 34] [(.int 34)])) rfl (hb hby d31_14) _ ?_
    show OwG p e below T1 m 16 #[vI 16, vI 16, vI 18, vI 34] [(.int 2147483639), (.int 34)] _
    refine XS.icmpNo X1.here hx rfl (hb hby d31_16) rfl (flt (by decide : ¬ ((2147483639 : Int32) < (34 : Int32)))).2.2.1 ?_
    refine XS.iloadN X1.here hx rfl (hb hby d31_19) rfl ?_
    show OwG p e below T1 m 20 #[vI 16, vI 16, vI 18, vI 34] [(.int 34)] _
    exact retI X1 hx Bd.returns (hb hby d31_20) hr
  · have eF : (T1.setFrames fs).heap = h0 := e1
    exact ⟨rfl, N1, eF⟩
theorem rmNc_16_32 (l : Launch) (Z : State) (a0 : Array Value) (hw : OwHw Z a0) (ws : List Jvm.Cond) (n0 : Nat) (h0 : Heap) (O : Old Z n0 h0) (qqR qqN qqK qqU qqS qqE : Addr) (qqI : Int32) (qqM : Addr) (W : OwW Z qqR qqN qqK qqU qqS qqE qqI qqM) (sb b : Addr) (k : ClassId) (nq : Int32) (Eb : Exa Z h0 sb zs19) (Gv : Fld Z h0 sb zs14 "value" "[B" (.ref b)) (Gc : Fld Z h0 sb zs14 "coder" "B" (.int 0)) (Gn : Fld Z h0 sb zs14 "count" "I" (.int nq)) (Vbx : owB Z h0 b k (16 : Int32)) :
    OwCon l yy15 j11 6 (some .int) ws (rM 2 0 0 29) #[(.ref sb), (.int 32)] Z h0 (OwQ (some (.int 34)) h0 n0) := by
  refine MetFree.of_bodySF (plainFor_of_name owpn30) hisR ?_
  intro p e s m args below meth c s₁ Bd hml0 hP hK
  have hi := @own_hi Z a0 hw
  obtain ⟨rfl, hZ, hh⟩ := hP
  have hx := Bd.exec
  have hby := Bd.bytes
  have hml : c.maxLocals = 6 := hml0
  have hown := findClass_of_methodNamed Bd.named
  have X0 : Stand p l e (rM 2 0 0 29) s m #[(.ref sb), (.int 32)] below meth c s₁ [] 0 0 := Stand.of_body Bd
  have e0 : s₁.heap = h0 := by rw [← hh, Bd.state]; rfl
  have N0 := Fr.nil n0
  have ef : entryFrame m #[(.ref sb), (.int 32)] 6 = mkF m 0 #[.val (.ref sb), .val (.int 32), .unset, .unset, .unset, .unset] [] := by first | (simp [entryFrame, mkF, argsToLocals, Value.category]; done) | rfl
  obtain ⟨T1, X1, e1, st1⟩ := getF X0 hx hZ hown (host := "") (Or.inl (hi 183 rfl)) Via.refl e0 Gv (g := (mkF m 1 #[vR sb, vI 32, .unset, .unset, .unset, .unset] [(.ref sb)])) rfl rfl (hb hby d30_1)
  obtain ⟨cl2, Ar2, Sz2, Nn2⟩ := Vbx.arr
  obtain ⟨T3, X3, e3, st3⟩ := getF X1 hx hZ hown (host := "") (Or.inl (hi 185 rfl)) Via.refl e1 Gc (g := (mkF m 8 #[vR sb, vI 32, vI 16, .unset, .unset, .unset] [(.ref sb), (.int 32)])) rfl rfl (hb hby d30_8)
  obtain ⟨T4, X4, e4, st4⟩ := getF X3 hx hZ hown (host := "") (Or.inl (hi 185 rfl)) Via.refl e3 Gc (g := (mkF m 24 #[vR sb, vI 32, vI 16, vI 32, vI 16, .unset] [(.ref sb), (.int 2), (.int 16), (.int 16), (.int 16)])) rfl rfl (hb hby d30_24)
  obtain ⟨_, _, ⟨T5, L5, k5, n5⟩, -, X5, ⟨Lc5, hQ5, l5, y5, z5⟩, st5⟩ := Jvm.LawKit.callS X4 hx (y := yy47) hown (mvT hZ (hi 243 rfl)) (mvT hZ (hi 244 rfl)) (mvT hZ (hi 245 rfl)) (mvT hZ (hi 246 rfl)) (by decide) (backOf (W := 0) (rmNl_16_16_18 l Z a0 hw [] n0 h0 O qqR qqN qqK qqU qqS qqE qqI qqM W ) hZ (hi 246 rfl) (hi 245 rfl) (by decide) (by decide)) (g := (mkF m 29 #[vR sb, vI 32, vI 16, vI 32, vI 16, .unset] [(.int 18), (.int 16), (.int 16)])) rfl (by rw [hml]; rfl) (argsL := [(.int 16), (.int 16), (.int 18)]) (rest := []) (lenOf owpd9 rfl) rfl (Nat.le_of_eq rfl) (hb hby d30_29) (fun _ _ => ⟨rfl, e4, (by decide : 0 + 0 ≤ _), (by decide : 0 + 0 ≤ _)⟩)
  dsimp only [Pt.U, Pt.locs, Pt.cells, Pt.slots] at X5 l5 y5 z5 st5 hQ5
  subst l5 y5 z5
  obtain ⟨rfl, Nq5, e5⟩ := hQ5
  have N5 := Fr.app N0 Nq5
  obtain ⟨T6, X6, e6, st6⟩ := getF X5 hx hZ hown (host := "") (Or.inl (hi 185 rfl)) Via.refl e5 Gc (g := (mkF m 54 #[vR sb, vI 32, vI 16, vI 32, vI 16, vI 34] [(.ref sb), (.int 34)])) rfl rfl (hb hby d30_54)
  obtain ⟨fs, hr, hrun, hended, hW, hsame⟩ := X6.leave (v := some (.int 34)) (fun h => by rw [Bd.returns] at h; cases h)
  refine ⟨_, _, castTop ef ?_, hrun, hended, _, _, rfl, ?_, ⟨_, rfl⟩, hW, hsame.mono (by decide) (by decide)⟩
  · show OwG p e below s₁ m 0 #[vR sb, vI 32, .unset, .unset, .unset, .unset] [] _
    refine XS.aloadN X0.here hx rfl (hb hby d30_0) rfl rfl ?_
    show OwG p e below s₁ m 1 #[vR sb, vI 32, .unset, .unset, .unset, .unset] [(.ref sb)] _
    refine st1 _ ?_
    show OwG p e below T1 m 4 #[vR sb, vI 32, .unset, .unset, .unset, .unset] [(.ref b)] _
    refine X1.arraylength hx (by rw [e1]; exact Ar2.1) (State.isArrayOf_alike hZ.alike Ar2.2.1) (g := (mkF m 4 #[vR sb, vI 32, .unset, .unset, .unset, .unset] [(.ref b)])) rfl rfl (hb hby d30_4) _ ?_
    rw [len_of Sz2 Nn2]
    show OwG p e below T1 m 5 #[vR sb, vI 32, .unset, .unset, .unset, .unset] [(.int 16)] _
    refine XS.istoreN X1.here hx rfl (hb hby d30_5) rfl (l' := #[vR sb, vI 32, vI 16, .unset, .unset, .unset]) rfl ?_
    refine XS.iloadN X1.here hx rfl (hb hby d30_6) rfl ?_
    refine XS.aloadN X1.here hx rfl (hb hby d30_7) rfl rfl ?_
    show OwG p e below T1 m 8 #[vR sb, vI 32, vI 16, .unset, .unset, .unset] [(.ref sb), (.int 32)] _
    refine st3 _ ?_
    show OwG p e below T3 m 11 #[vR sb, vI 32, vI 16, .unset, .unset, .unset] [(.int 0), (.int 32)] _
    refine XS.ishl X3.here hx rfl (hb hby d30_11) rfl ?_
    refine XS.istoreN X3.here hx rfl (hb hby d30_12) rfl (l' := #[vR sb, vI 32, vI 16, vI 32, .unset, .unset]) rfl ?_
    refine XS.iloadN X3.here hx rfl (hb hby d30_13) rfl ?_
    refine XS.iloadN X3.here hx rfl (hb hby d30_14) rfl ?_
    refine XS.isub X3.here hx rfl (hb hby d30_15) rfl ?_
    refine XS.istore X3.here hx rfl (hb hby d30_16) rfl (l' := #[vR sb, vI 32, vI 16, vI 32, vI 16, .unset]) rfl ?_
    show OwG p e below T3 m 18 #[vR sb, vI 32, vI 16, vI 32, vI 16, .unset] [] _
    refine XS.iloadN X3.here hx rfl (hb hby d30_18) rfl ?_
    refine XS.iload X3.here hx rfl (hb hby d30_19) rfl ?_
    refine XS.iloadN X3.here hx rfl (hb hby d30_21) rfl ?_
    refine XS.iconst X3.here hx rfl (hb hby d30_22) ?_
    refine XS.aloadN X3.here hx rfl (hb hby d30_23) rfl rfl ?_
    show OwG p e below T3 m 24 #[vR sb, vI 32, vI 16, vI 32, vI 16, .unset] [(.ref sb), (.int 2), (.int 16), (.int 16), (.int 16)] _
    refine st4 _ ?_
    show OwG p e below T4 m 27 #[vR sb, vI 32, vI 16, vI 32, vI 16, .unset] [(.int 0), (.int 2), (.int 16), (.int 16), (.int 16)] _
    refine XS.ishl X4.here hx rfl (hb hby d30_27) rfl ?_
    refine XS.iadd X4.here hx rfl (hb hby d30_28) rfl ?_
    show OwG p e below T4 m 29 #[vR sb, vI 32, vI 16, vI 32, vI 16, .unset] [(.int 18), (.int 16), (.int 16)] _
    refine st5 _ ?_
    show OwG p e below T5 m 32 #[vR sb, vI 32, vI 16, vI 32, vI 16, .unset] [(.int 34)] _
    refine XS.istore X5.here hx rfl (hb hby d30_32) rfl (l' := #[vR sb, vI 32, vI 16, vI 32, vI 16, vI 34]) rfl ?_
    refine XS.iload X5.here hx rfl (hb hby d30_34) rfl ?_
    show OwG p e below T5 m 36 #[vR sb, vI 32, vI 16, vI 32, vI 16, vI 34] [(.int 34)] _
    refine X5.ldcInt hx hown (mvT hZ (hi 252 rfl)) (g := (mkF m 36 #[vR sb, vI 32, vI 16, vI 32, vI 16, vI 34] [(.int 34)])) rfl (hb hby d30_36) _ ?_
    show OwG p e below T5 m 38 #[vR sb, vI 32, vI 16, vI 32, vI 16, vI 34] [(.int 2147483647), (.int 34)] _
    refine XS.icmpYes X5.here hx rfl (pc0 := 38) (pc' := 51) rfl (hb hby d30_38) rfl (feq (by decide : ¬ ((34 : Int32) = (2147483647 : Int32)))).2 (by decide) (by decide) ?_
    refine XS.iload X5.here hx rfl (hb hby d30_51) rfl ?_
    refine XS.aloadN X5.here hx rfl (hb hby d30_53) rfl rfl ?_
    show OwG p e below T5 m 54 #[vR sb, vI 32, vI 16, vI 32, vI 16, vI 34] [(.ref sb), (.int 34)] _
    refine st6 _ ?_
    show OwG p e below T6 m 57 #[vR sb, vI 32, vI 16, vI 32, vI 16, vI 34] [(.int 0), (.int 34)] _
    refine XS.ishr X6.here hx rfl (hb hby d30_57) rfl ?_
    show OwG p e below T6 m 58 #[vR sb, vI 32, vI 16, vI 32, vI 16, vI 34] [(.int 34)] _
    exact retI X6 hx Bd.returns (hb hby d30_58) hr
  · have eF : (T6.setFrames fs).heap = h0 := e6
    exact ⟨rfl, N5, eF⟩
theorem rmMin_16_34 (l : Launch) (Z : State) (a0 : Array Value) (hw : OwHw Z a0) (ws : List Jvm.Cond) (n0 : Nat) (h0 : Heap) (O : Old Z n0 h0) (qqR qqN qqK qqU qqS qqE : Addr) (qqI : Int32) (qqM : Addr) (W : OwW Z qqR qqN qqK qqU qqS qqE qqI qqM)  :
    OwCon l yy20 j18 2 (some .int) ws (rM 0 0 0 0) #[(.int 16), (.int 34)] Z h0 (OwQ (some (.int 16)) h0 n0) := by
  refine MetFree.of_bodySF (Jvm.Free.JP.mathPlain rfl (by decide +kernel)) hisR ?_
  intro p e s m args below meth c s₁ Bd hml0 hP hK
  have hi := @own_hi Z a0 hw
  obtain ⟨rfl, hZ, hh⟩ := hP
  have hx := Bd.exec
  have hby := Bd.bytes
  have hml : c.maxLocals = 2 := hml0
  have hown := findClass_of_methodNamed Bd.named
  have X0 : Stand p l e (rM 0 0 0 0) s m #[(.int 16), (.int 34)] below meth c s₁ [] 0 0 := Stand.of_body Bd
  have e0 : s₁.heap = h0 := by rw [← hh, Bd.state]; rfl
  have N0 := Fr.nil n0
  have ef : entryFrame m #[(.int 16), (.int 34)] 2 = mkF m 0 #[.val (.int 16), .val (.int 34)] [] := by first | (simp [entryFrame, mkF, argsToLocals, Value.category]; done) | rfl
  obtain ⟨fs, hr, hrun, hended, hW, hsame⟩ := X0.leave (v := some (.int 16)) (fun h => by rw [Bd.returns] at h; cases h)
  refine ⟨_, _, castTop ef ?_, hrun, hended, _, _, rfl, ?_, ⟨_, rfl⟩, hW, hsame.mono (by decide) (by decide)⟩
  · show OwG p e below s₁ m 0 #[vI 16, vI 34] [] _
    refine XS.iloadN X0.here hx rfl (hb hby d34_0) rfl ?_
    show OwG p e below s₁ m 1 #[vI 16, vI 34] [(.int 16)] _
    refine XS.iloadN X0.here hx rfl (hb hby d34_1) rfl ?_
    refine XS.icmpNo X0.here hx rfl (hb hby d34_2) rfl (flt (by decide : ¬ ((34 : Int32) < (16 : Int32)))).2.2.1 ?_
    refine XS.iloadN X0.here hx rfl (hb hby d34_5) rfl ?_
    refine XS.goto X0.here hx rfl (pc0 := 6) (pc' := 10) rfl (hb hby d34_6) (by decide) (by decide) ?_
    show OwG p e below s₁ m 10 #[vI 16, vI 34] [(.int 16)] _
    exact retI X0 hx Bd.returns (hb hby d34_10) hr
  · have eF : (s₁.setFrames fs).heap = h0 := e0
    exact ⟨rfl, N0, eF⟩
theorem rmCp_16_34 (l : Launch) (Z : State) (a0 : Array Value) (hw : OwHw Z a0) (ws : List Jvm.Cond) (n0 : Nat) (h0 : Heap) (O : Old Z n0 h0) (qqR qqN qqK qqU qqS qqE : Addr) (qqI : Int32) (qqM : Addr) (W : OwW Z qqR qqN qqK qqU qqS qqE qqI qqM) (b : Addr) (k : ClassId) (Vb : owB Z h0 b k (16 : Int32)) :
    OwCon l yy40 j3 3 (some (.array .byte)) ws (rM 1 1 34 18) #[(.ref b), (.int 34)] Z h0 (OwP (fun v h => ∃ (b' : Addr) (k' : ClassId), v = some (.ref b') ∧ h0.size ≤ b' ∧ Old Z n0 h ∧ Keep h0 h [] ∧ owB Z h b' k' (34 : Int32)) n0) := by
  refine MetFree.of_bodySF (plainFor_of_name owpn33) hisR ?_
  intro p e s m args below meth c s₁ Bd hml0 hP hK
  have hi := @own_hi Z a0 hw
  obtain ⟨rfl, hZ, hh⟩ := hP
  have hx := Bd.exec
  have hby := Bd.bytes
  have hml : c.maxLocals = 3 := hml0
  have hown := findClass_of_methodNamed Bd.named
  have X0 : Stand p l e (rM 1 1 34 18) s m #[(.ref b), (.int 34)] below meth c s₁ [] 0 0 := Stand.of_body Bd
  have e0 : s₁.heap = h0 := by rw [← hh, Bd.state]; rfl
  have N0 := Fr.nil n0
  have ef : entryFrame m #[(.ref b), (.int 34)] 3 = mkF m 0 #[.val (.ref b), .val (.int 34), .unset] [] := by first | (simp [entryFrame, mkF, argsToLocals, Value.category]; done) | rfl
  obtain ⟨cl1, Ar1, Sz1, Nn1⟩ := Vb.arr
  obtain ⟨T2, h2, k2, X2, e2, E2, A2, Ea2, st2⟩ := newPE X0 hx hZ (aty := .byte) (hi 83 rfl) e0 (g := (mkF m 15 #[vR b, vI 34, .unset] [(.int 34)])) rfl (hb hby d33_15) rfl (by decide) (cap := 34) (by decide) (by decide) (by decide) (by decide) (ad := "[B") (by decide)
  obtain ⟨b2, g2⟩ : ∃ z, z = h0.size := ⟨_, rfl⟩
  rw [← g2] at A2 Ea2 st2
  have gx2 : n0 ≤ b2 := Nat.le_trans (Nat.le_trans (Nat.le_of_eq O.1.symm) O.2.1) (Nat.le_of_eq g2.symm)
  have ne_b_2 : b ≠ b2 := Nat.ne_of_lt (Nat.lt_of_lt_of_le Vb.lt (Nat.le_of_eq g2.symm))
  have O2 := O.ext E2
  have Vb2 : owB Z h2 b2 k2 (34 : Int32) := owB.new A2 (by decide)
  have sz2 : h0.size ≤ b2 := Nat.le_trans (Keep.refl h0 []).1 (Nat.le_of_eq g2.symm)
  have Kp2 : Keep h0 h2 [] := (Keep.refl h0 []).ext E2
  have fa4 := (Vb.ext E2)
  obtain ⟨cl3, Ar3, Sz3, Nn3⟩ := fa4.arr
  obtain ⟨_, _, ⟨T5, L5, k5, n5⟩, -, X5, ⟨Lc5, hQ5, l5, y5, z5⟩, st5⟩ := Jvm.LawKit.callS X2 hx (y := yy20) hown (mvT hZ (hi 257 rfl)) (mvT hZ (hi 258 rfl)) (mvT hZ (hi 249 rfl)) (mvT hZ (hi 259 rfl)) (by decide) (backOf (W := 4) (rmMin_16_34 l Z a0 hw [] n0 h2 O2 qqR qqN qqK qqU qqS qqE qqI qqM W ) hZ (hi 259 rfl) (hi 249 rfl) (by decide) (by decide)) (g := (mkF m 25 #[vR b, vI 34, vR b2] [(.int 34), (.int 16), (.int 0), (.ref b2), (.int 0), (.ref b)])) rfl (by rw [hml]; rfl) (argsL := [(.int 16), (.int 34)]) (rest := [(.int 0), (.ref b2), (.int 0), (.ref b)]) (lenOf owpd8 rfl) rfl (Nat.le_of_eq rfl) (hb hby d33_25) (fun _ _ => ⟨rfl, e2, (by decide : 1 + 0 ≤ _), (by decide : 34 + 0 ≤ _)⟩)
  dsimp only [Pt.U, Pt.locs, Pt.cells, Pt.slots] at X5 l5 y5 z5 st5 hQ5
  subst l5 y5 z5
  obtain ⟨rfl, Nq5, e5⟩ := hQ5
  have N5 := Fr.app N0 Nq5
  obtain ⟨T6, h6, L6, X6, e6, N6, Kc6, V6, st6⟩ := own_cpB X5 hx hZ hown (hi 260 rfl) (hi 237 rfl) (hi 235 rfl) (hi 236 rfl) e5 fa4 Vb2 (by decide) (by decide) (by decide) (by decide) (by decide) N5 gx2 (g := (mkF m 28 #[vR b, vI 34, vR b2] [(.int 16), (.int 0), (.ref b2), (.int 0), (.ref b)])) rfl (by rw [hml]; rfl) rfl (hb hby d33_28) (by decide) (W := 0) (Nat.le_of_eq rfl) (by decide)
  have O6 := O2.keep Kc6 (allS (P := fun x => n0 ≤ x) gx2 all0)
  have Kp6 : Keep h0 h6 [] := Kp2.trans Kc6 (allS (P := fun x => x ∈ ([] : List Addr) ∨ h0.size ≤ x) (Or.inr sz2) (all0 (P := fun x => x ∈ ([] : List Addr) ∨ h0.size ≤ x)))
  obtain ⟨fs, hr, hrun, hended, hW, hsame⟩ := X6.leave (v := some (.ref b2)) (fun h => by rw [Bd.returns] at h; cases h)
  refine ⟨_, _, castTop ef ?_, hrun, hended, _, _, rfl, ?_, ⟨_, rfl⟩, hW, hsame.mono (by decide) (by decide)⟩
  · show OwG p e below s₁ m 0 #[vR b, vI 34, .unset] [] _
    refine XS.iloadN X0.here hx rfl (hb hby d33_0) rfl ?_
    show OwG p e below s₁ m 1 #[vR b, vI 34, .unset] [(.int 34)] _
    refine XS.aloadN X0.here hx rfl (hb hby d33_1) rfl rfl ?_
    show OwG p e below s₁ m 2 #[vR b, vI 34, .unset] [(.ref b), (.int 34)] _
    refine X0.arraylength hx (by rw [e0]; exact Ar1.1) (State.isArrayOf_alike hZ.alike Ar1.2.1) (g := (mkF m 2 #[vR b, vI 34, .unset] [(.ref b), (.int 34)])) rfl rfl (hb hby d33_2) _ ?_
    rw [len_of Sz1 Nn1]
    show OwG p e below s₁ m 3 #[vR b, vI 34, .unset] [(.int 16), (.int 34)] _
    refine XS.icmpYes X0.here hx rfl (pc0 := 3) (pc' := 14) rfl (hb hby d33_3) rfl (feq (by decide : ¬ ((34 : Int32) = (16 : Int32)))).2 (by decide) (by decide) ?_
    refine XS.iloadN X0.here hx rfl (hb hby d33_14) rfl ?_
    show OwG p e below s₁ m 15 #[vR b, vI 34, .unset] [(.int 34)] _
    refine st2 _ ?_
    show OwG p e below T2 m 17 #[vR b, vI 34, .unset] [(.ref b2)] _
    refine XS.astoreN X2.here hx rfl (hb hby d33_17) rfl rfl (l' := #[vR b, vI 34, vR b2]) rfl ?_
    refine XS.aloadN X2.here hx rfl (hb hby d33_18) rfl rfl ?_
    refine XS.iconst X2.here hx rfl (hb hby d33_19) ?_
    refine XS.aloadN X2.here hx rfl (hb hby d33_20) rfl rfl ?_
    refine XS.iconst X2.here hx rfl (hb hby d33_21) ?_
    refine XS.aloadN X2.here hx rfl (hb hby d33_22) rfl rfl ?_
    show OwG p e below T2 m 23 #[vR b, vI 34, vR b2] [(.ref b), (.int 0), (.ref b2), (.int 0), (.ref b)] _
    refine X2.arraylength hx (by rw [e2]; exact Ar3.1) (State.isArrayOf_alike hZ.alike Ar3.2.1) (g := (mkF m 23 #[vR b, vI 34, vR b2] [(.ref b), (.int 0), (.ref b2), (.int 0), (.ref b)])) rfl rfl (hb hby d33_23) _ ?_
    rw [len_of Sz3 Nn3]
    show OwG p e below T2 m 24 #[vR b, vI 34, vR b2] [(.int 16), (.int 0), (.ref b2), (.int 0), (.ref b)] _
    refine XS.iloadN X2.here hx rfl (hb hby d33_24) rfl ?_
    show OwG p e below T2 m 25 #[vR b, vI 34, vR b2] [(.int 34), (.int 16), (.int 0), (.ref b2), (.int 0), (.ref b)] _
    refine st5 _ ?_
    show OwG p e below T5 m 28 #[vR b, vI 34, vR b2] [(.int 16), (.int 0), (.ref b2), (.int 0), (.ref b)] _
    refine st6 _ ?_
    show OwG p e below T6 m 31 #[vR b, vI 34, vR b2] [] _
    refine XS.aloadN X6.here hx rfl (hb hby d33_31) rfl rfl ?_
    show OwG p e below T6 m 32 #[vR b, vI 34, vR b2] [(.ref b2)] _
    exact retOut X6 hx Bd.returns rfl (Or.inr (Or.inr (Or.inr (Or.inr ⟨rfl, rfl, rfl⟩)))) (hb hby d33_32) hr
  · have eF : (T6.setFrames fs).heap = h6 := e6
    exact ⟨N6, b2, k2, rfl, sz2, by rw [eF]; exact ⟨O6, Kp6, V6⟩⟩
theorem rmEns_16_32 (l : Launch) (Z : State) (a0 : Array Value) (hw : OwHw Z a0) (ws : List Jvm.Cond) (n0 : Nat) (h0 : Heap) (O : Old Z n0 h0) (qqR qqN qqK qqU qqS qqE : Addr) (qqI : Int32) (qqM : Addr) (W : OwW Z qqR qqN qqK qqU qqS qqE qqI qqM) (sb b : Addr) (k : ClassId) (Eb : Exa Z h0 sb zs19) (Gv : Fld Z h0 sb zs14 "value" "[B" (.ref b)) (Gc : Fld Z h0 sb zs14 "coder" "B" (.int 0)) (Gn : Fld Z h0 sb zs14 "count" "I" (.int 10)) (Vbx : owB Z h0 b k (16 : Int32)) (gs : n0 ≤ sb) :
    OwCon l yy10 j33 3 none ws (rM 3 1 34 48) #[(.ref sb), (.int 32)] Z h0 (OwP (fun v h => v = none ∧ Old Z n0 h ∧ Keep h0 h [sb] ∧ ∃ (b' : Addr) (k' : ClassId), h0.size ≤ b' ∧ Exa Z h sb zs19 ∧ Fld Z h sb zs14 "value" "[B" (.ref b') ∧ Fld Z h sb zs14 "coder" "B" (.int 0) ∧ Fld Z h sb zs14 "count" "I" (.int 10) ∧ owB Z h b' k' (34 : Int32)) n0) := by
  refine MetFree.of_bodySF (plainFor_of_name owpn26) hisR ?_
  intro p e s m args below meth c s₁ Bd hml0 hP hK
  have hi := @own_hi Z a0 hw
  obtain ⟨rfl, hZ, hh⟩ := hP
  have hx := Bd.exec
  have hby := Bd.bytes
  have hml : c.maxLocals = 3 := hml0
  have hown := findClass_of_methodNamed Bd.named
  have X0 : Stand p l e (rM 3 1 34 48) s m #[(.ref sb), (.int 32)] below meth c s₁ [] 0 0 := Stand.of_body Bd
  have e0 : s₁.heap = h0 := by rw [← hh, Bd.state]; rfl
  have N0 := Fr.nil n0
  have ef : entryFrame m #[(.ref sb), (.int 32)] 3 = mkF m 0 #[.val (.ref sb), .val (.int 32), .unset] [] := by first | (simp [entryFrame, mkF, argsToLocals, Value.category]; done) | rfl
  obtain ⟨T1, X1, e1, st1⟩ := getF X0 hx hZ hown (host := "") (Or.inl (hi 183 rfl)) Via.refl e0 Gv (g := (mkF m 1 #[vR sb, vI 32, .unset] [(.ref sb)])) rfl rfl (hb hby d26_1)
  obtain ⟨cl2, Ar2, Sz2, Nn2⟩ := Vbx.arr
  obtain ⟨T3, X3, e3, st3⟩ := getF X1 hx hZ hown (host := "") (Or.inl (hi 185 rfl)) Via.refl e1 Gc (g := (mkF m 6 #[vR sb, vI 32, .unset] [(.ref sb), (.int 16)])) rfl rfl (hb hby d26_6)
  obtain ⟨T4, X4, e4, st4⟩ := getF X3 hx hZ hown (host := "") (Or.inl (hi 183 rfl)) Via.refl e3 Gv (g := (mkF m 19 #[vR sb, vI 32, vI 16] [(.ref sb), (.ref sb)])) rfl rfl (hb hby d26_19)
  obtain ⟨cq5, kq5, q5a, q5b, q5c⟩ := isOf hZ e4 Eb
  obtain ⟨_, _, ⟨T5, L5, k5, n5⟩, -, X5, ⟨Lc5, hQ5, l5, y5, z5⟩, st5⟩ := X4.virtualBack hx (y := yy15) (z := yy15) hown (mvT hZ (hi 238 rfl)) (own_decl (mvT hZ (hi 239 rfl)) (mvT hZ (hi 242 rfl))) (notFace_of_selects (args := #[]) (mvT hZ (hi 241 rfl))) (mvT hZ (hi 241 rfl)) (mvT hZ (hi 239 rfl)) (by decide) (backOf (W := 2) (rmNc_16_32 l Z a0 hw [] n0 h0 O qqR qqN qqK qqU qqS qqE qqI qqM W sb b k (10 : Int32) Eb Gv Gc Gn Vbx) hZ (hi 242 rfl) (hi 179 rfl) (by decide) (by decide)) q5a q5c (g := (mkF m 24 #[vR sb, vI 32, vI 16] [(.int 32), (.ref sb), (.ref b), (.ref sb)])) rfl (by rw [hml]; rfl) (Steps.refl _) (argsL := [(.int 32)]) (rest := [(.ref b), (.ref sb)]) (lenOf owpd10 rfl) rfl (Nat.le_of_eq rfl) (hb hby d26_24) (fun _ _ => ⟨rfl, e4, (by decide : 0 + 0 ≤ _), (by decide : 0 + 0 ≤ _)⟩)
  dsimp only [Pt.U, Pt.locs, Pt.cells, Pt.slots] at X5 l5 y5 z5 st5 hQ5
  subst l5 y5 z5
  obtain ⟨rfl, Nq5, e5⟩ := hQ5
  have N5 := Fr.app N0 Nq5
  obtain ⟨T6, X6, e6, st6⟩ := getF X5 hx hZ hown (host := "") (Or.inl (hi 185 rfl)) Via.refl e5 Gc (g := (mkF m 28 #[vR sb, vI 32, vI 16] [(.ref sb), (.int 34), (.ref b), (.ref sb)])) rfl rfl (hb hby d26_28)
  obtain ⟨_, _, ⟨T7, L7, k7, n7⟩, -, X7, ⟨Lc7, hQ7, l7, y7, z7⟩, st7⟩ := Jvm.LawKit.callS X6 hx (y := yy40) hown (mvT hZ (hi 253 rfl)) (mvT hZ (hi 254 rfl)) (mvT hZ (hi 255 rfl)) (mvT hZ (hi 256 rfl)) (by decide) (backOf (W := 1) (rmCp_16_34 l Z a0 hw [] n0 h0 O qqR qqN qqK qqU qqS qqE qqI qqM W b k Vbx) hZ (hi 256 rfl) (hi 255 rfl) (by decide) (by decide)) (g := (mkF m 32 #[vR sb, vI 32, vI 16] [(.int 34), (.ref b), (.ref sb)])) rfl (by rw [hml]; rfl) (argsL := [(.ref b), (.int 34)]) (rest := [(.ref sb)]) (lenOf owpd11 rfl) rfl (Nat.le_of_eq rfl) (hb hby d26_32) (fun _ _ => ⟨rfl, e6, (by decide : 0 + 1 ≤ _), (by decide : 0 + 34 ≤ _)⟩)
  dsimp only [Pt.U, Pt.locs, Pt.cells, Pt.slots] at X7 l7 y7 z7 st7 hQ7
  subst l7 y7 z7
  obtain ⟨Nq7, hP7⟩ := hQ7
  have N7 := Fr.app N5 Nq7
  have ee7 : T7.heap = T7.heap := rfl
  obtain ⟨bb7, kk7, rfl, hb7, Oc7, Kc7, Vb7⟩ := hP7
  have ne_sb_7 : sb ≠ bb7 := Nat.ne_of_lt (Nat.lt_of_lt_of_le Eb.lt hb7)
  have ne_b_7 : b ≠ bb7 := Nat.ne_of_lt (Nat.lt_of_lt_of_le Vbx.lt hb7)
  have gx7 : n0 ≤ bb7 := Nat.le_trans (Nat.le_trans (Nat.le_of_eq O.1.symm) O.2.1) hb7
  have sz7 : h0.size ≤ bb7 := Nat.le_trans (Keep.refl h0 [sb]).1 hb7
  have Kp7 : Keep h0 T7.heap [sb] := (Keep.refl h0 [sb]).trans Kc7 (all0 (P := fun x => x ∈ [sb] ∨ h0.size ≤ x))
  have fa8 := (Gv.keep Kc7 nin0)
  have fa9 := (Eb.keep Kc7)
  obtain ⟨T10, h10, X10, e10, W10, st10⟩ := putF X7 hx hZ hown (host := "") (Or.inl (hi 183 rfl)) Via.refl ee7 fa8 fa9 (Or.inl (hi 184 rfl)) (hi 170 rfl) (ty := (.array .byte)) (by decide) rfl rfl (g := (mkF m 35 #[vR sb, vI 32, vI 16] [(.ref bb7), (.ref sb)])) rfl rfl (hb hby d26_35)
  have Fw10 := fa8.same W10
  have N10 := Fr.snoc X10 N7 gs
  have O10 := Oc7.wr W10 gs
  have Kp10 : Keep h0 h10 [sb] := Kp7.wr W10 (Or.inl (List.mem_of_getElem? (i := 0) rfl))
  have fa11 := (fa9.wr W10)
  have fa12 := ((Gc.keep Kc7 nin0).other W10 (Or.inr (slot_ne (Or.inl (hi 186 rfl)) (Or.inl (hi 184 rfl)) (by decide) (t := .byte) (t' := (.array .byte)) (by decide) (by decide))))
  have fa13 := ((Gn.keep Kc7 nin0).other W10 (Or.inr (slot_ne (Or.inl (hi 212 rfl)) (Or.inl (hi 184 rfl)) (by decide) (t := .int) (t' := (.array .byte)) (by decide) (by decide))))
  have fa14 := (Vb7.other W10 (Ne.symm ne_sb_7))
  obtain ⟨fs, hr, hrun, hended, hW, hsame⟩ := X10.leave (v := none) (fun _ => rfl)
  refine ⟨_, _, castTop ef ?_, hrun, hended, _, _, rfl, ?_, ⟨_, rfl⟩, hW, hsame.mono (by decide) (by decide)⟩
  · show OwG p e below s₁ m 0 #[vR sb, vI 32, .unset] [] _
    refine XS.aloadN X0.here hx rfl (hb hby d26_0) rfl rfl ?_
    show OwG p e below s₁ m 1 #[vR sb, vI 32, .unset] [(.ref sb)] _
    refine st1 _ ?_
    show OwG p e below T1 m 4 #[vR sb, vI 32, .unset] [(.ref b)] _
    refine X1.arraylength hx (by rw [e1]; exact Ar2.1) (State.isArrayOf_alike hZ.alike Ar2.2.1) (g := (mkF m 4 #[vR sb, vI 32, .unset] [(.ref b)])) rfl rfl (hb hby d26_4) _ ?_
    rw [len_of Sz2 Nn2]
    show OwG p e below T1 m 5 #[vR sb, vI 32, .unset] [(.int 16)] _
    refine XS.aloadN X1.here hx rfl (hb hby d26_5) rfl rfl ?_
    show OwG p e below T1 m 6 #[vR sb, vI 32, .unset] [(.ref sb), (.int 16)] _
    refine st3 _ ?_
    show OwG p e below T3 m 9 #[vR sb, vI 32, .unset] [(.int 0), (.int 16)] _
    refine XS.ishr X3.here hx rfl (hb hby d26_9) rfl ?_
    refine XS.istoreN X3.here hx rfl (hb hby d26_10) rfl (l' := #[vR sb, vI 32, vI 16]) rfl ?_
    refine XS.iloadN X3.here hx rfl (hb hby d26_11) rfl ?_
    refine XS.iloadN X3.here hx rfl (hb hby d26_12) rfl ?_
    refine XS.isub X3.here hx rfl (hb hby d26_13) rfl ?_
    refine XS.ifNo X3.here hx rfl (hb hby d26_14) rfl ((if0 _ _).trans (tlt (by decide : (0 : Int32) < (16 : Int32))).2.2.2) ?_
    show OwG p e below T3 m 17 #[vR sb, vI 32, vI 16] [] _
    refine XS.aloadN X3.here hx rfl (hb hby d26_17) rfl rfl ?_
    refine XS.aloadN X3.here hx rfl (hb hby d26_18) rfl rfl ?_
    show OwG p e below T3 m 19 #[vR sb, vI 32, vI 16] [(.ref sb), (.ref sb)] _
    refine st4 _ ?_
    show OwG p e below T4 m 22 #[vR sb, vI 32, vI 16] [(.ref b), (.ref sb)] _
    refine XS.aloadN X4.here hx rfl (hb hby d26_22) rfl rfl ?_
    refine XS.iloadN X4.here hx rfl (hb hby d26_23) rfl ?_
    show OwG p e below T4 m 24 #[vR sb, vI 32, vI 16] [(.int 32), (.ref sb), (.ref b), (.ref sb)] _
    refine st5.trans ?_
    show OwG p e below T5 m 27 #[vR sb, vI 32, vI 16] [(.int 34), (.ref b), (.ref sb)] _
    refine XS.aloadN X5.here hx rfl (hb hby d26_27) rfl rfl ?_
    show OwG p e below T5 m 28 #[vR sb, vI 32, vI 16] [(.ref sb), (.int 34), (.ref b), (.ref sb)] _
    refine st6 _ ?_
    show OwG p e below T6 m 31 #[vR sb, vI 32, vI 16] [(.int 0), (.int 34), (.ref b), (.ref sb)] _
    refine XS.ishl X6.here hx rfl (hb hby d26_31) rfl ?_
    show OwG p e below T6 m 32 #[vR sb, vI 32, vI 16] [(.int 34), (.ref b), (.ref sb)] _
    refine st7 _ ?_
    show OwG p e below T7 m 35 #[vR sb, vI 32, vI 16] [(.ref bb7), (.ref sb)] _
    refine st10 _ ?_
    show OwG p e below T10 m 38 #[vR sb, vI 32, vI 16] [] _
    exact X10.returnOut hx Bd.returns (hb hby d26_38) hr
  · have eF : (T10.setFrames fs).heap = h10 := e10
    exact ⟨N10, rfl, by rw [eF]; exact ⟨O10, Kp10, bb7, kk7, sz7, fa11, Fw10, fa12, fa13, fa14⟩⟩
theorem rmLen22 (l : Launch) (Z : State) (a0 : Array Value) (hw : OwHw Z a0) (ws : List Jvm.Cond) (n0 : Nat) (h0 : Heap) (O : Old Z n0 h0) (qqR qqN qqK qqU qqS qqE : Addr) (qqI : Int32) (qqM : Addr) (W : OwW Z qqR qqN qqK qqU qqS qqE qqI qqM) (a b : Addr) (k : ClassId) (Es : Exa Z h0 a zs18) (Fc : Fld Z h0 a zs18 "coder" "B" (.int 0)) (Fv : Fld Z h0 a zs18 "value" "[B" (.ref b)) (Vb : owB Z h0 b k (22 : Int32)) :
    OwCon l yy25 j17 1 (some .int) ws (rM 1 0 0 13) #[(.ref a)] Z h0 (OwQ (some (.int 22)) h0 n0) := by
  refine MetFree.of_bodySF (plainFor_of_name owpn24) hisR ?_
  intro p e s m args below meth c s₁ Bd hml0 hP hK
  have hi := @own_hi Z a0 hw
  obtain ⟨rfl, hZ, hh⟩ := hP
  have hx := Bd.exec
  have hby := Bd.bytes
  have hml : c.maxLocals = 1 := hml0
  have hown := findClass_of_methodNamed Bd.named
  have X0 : Stand p l e (rM 1 0 0 13) s m #[(.ref a)] below meth c s₁ [] 0 0 := Stand.of_body Bd
  have e0 : s₁.heap = h0 := by rw [← hh, Bd.state]; rfl
  have N0 := Fr.nil n0
  have ef : entryFrame m #[(.ref a)] 1 = mkF m 0 #[.val (.ref a)] [] := by first | (simp [entryFrame, mkF, argsToLocals, Value.category]; done) | rfl
  obtain ⟨T1, X1, e1, st1⟩ := getF X0 hx hZ hown (host := "") (Or.inl (hi 203 rfl)) Via.refl e0 Fv (g := (mkF m 1 #[vR a] [(.ref a)])) rfl rfl (hb hby d24_1)
  obtain ⟨cl2, Ar2, Sz2, Nn2⟩ := Vb.arr
  obtain ⟨cq3, kq3, q3a, q3b, q3c⟩ := isOf hZ e1 Es
  obtain ⟨_, _, ⟨T3, L3, k3, n3⟩, -, X3, ⟨Lc3, hQ3, l3, y3, z3⟩, st3⟩ := X1.virtualBack hx (y := yy23) (z := yy23) hown (mvT hZ (hi 204 rfl)) (mvT hZ (hi 205 rfl)) (notFace_of_selects (args := #[]) (mvT hZ (hi 207 rfl))) (mvT hZ (hi 207 rfl)) (mvT hZ (hi 206 rfl)) (by decide) (backOf (W := 1) (rmCod l Z a0 hw [] n0 h0 O qqR qqN qqK qqU qqS qqE qqI qqM W a Fc) hZ (hi 208 rfl) (hi 81 rfl) (by decide) (by decide)) q3a q3c (g := (mkF m 6 #[vR a] [(.ref a), (.int 22)])) rfl (by rw [hml]; rfl) (Steps.refl _) (argsL := []) (rest := [(.int 22)]) (lenOf owpd2 rfl) rfl (Nat.le_of_eq rfl) (hb hby d24_6) (fun _ _ => ⟨rfl, e1, (by decide : 0 + 0 ≤ _), (by decide : 0 + 0 ≤ _)⟩)
  dsimp only [Pt.U, Pt.locs, Pt.cells, Pt.slots] at X3 l3 y3 z3 st3 hQ3
  subst l3 y3 z3
  obtain ⟨rfl, Nq3, e3⟩ := hQ3
  have N3 := Fr.app N0 Nq3
  obtain ⟨fs, hr, hrun, hended, hW, hsame⟩ := X3.leave (v := some (.int 22)) (fun h => by rw [Bd.returns] at h; cases h)
  refine ⟨_, _, castTop ef ?_, hrun, hended, _, _, rfl, ?_, ⟨_, rfl⟩, hW, hsame.mono (by decide) (by decide)⟩
  · show OwG p e below s₁ m 0 #[vR a] [] _
    refine XS.aloadN X0.here hx rfl (hb hby d24_0) rfl rfl ?_
    show OwG p e below s₁ m 1 #[vR a] [(.ref a)] _
    refine st1 _ ?_
    show OwG p e below T1 m 4 #[vR a] [(.ref b)] _
    refine X1.arraylength hx (by rw [e1]; exact Ar2.1) (State.isArrayOf_alike hZ.alike Ar2.2.1) (g := (mkF m 4 #[vR a] [(.ref b)])) rfl rfl (hb hby d24_4) _ ?_
    rw [len_of Sz2 Nn2]
    show OwG p e below T1 m 5 #[vR a] [(.int 22)] _
    refine XS.aloadN X1.here hx rfl (hb hby d24_5) rfl rfl ?_
    show OwG p e below T1 m 6 #[vR a] [(.ref a), (.int 22)] _
    refine st3.trans ?_
    show OwG p e below T3 m 9 #[vR a] [(.int 0), (.int 22)] _
    refine XS.ishr X3.here hx rfl (hb hby d24_9) rfl ?_
    show OwG p e below T3 m 10 #[vR a] [(.int 22)] _
    exact retI X3 hx Bd.returns (hb hby d24_10) hr
  · have eF : (T3.setFrames fs).heap = h0 := e3
    exact ⟨rfl, N3, eF⟩
theorem rmGb_22_34_10 (l : Launch) (Z : State) (a0 : Array Value) (hw : OwHw Z a0) (ws : List Jvm.Cond) (n0 : Nat) (h0 : Heap) (O : Old Z n0 h0) (qqR qqN qqK qqU qqS qqE : Addr) (qqI : Int32) (qqM : Addr) (W : OwW Z qqR qqN qqK qqU qqS qqE qqI qqM) (a b : Addr) (k : ClassId) (y : Addr) (ky : ClassId) (Es : Exa Z h0 a zs18) (Fc : Fld Z h0 a zs18 "coder" "B" (.int 0)) (Fv : Fld Z h0 a zs18 "value" "[B" (.ref b)) (Vb : owB Z h0 b k (22 : Int32)) (Vby : owB Z h0 y ky (34 : Int32)) (gy : n0 ≤ y) :
    OwCon l yy24 j1 4 none ws (rM 1 0 0 18) #[(.ref a), (.ref y), (.int 10), (.int 0)] Z h0 (OwP (fun v h => v = none ∧ Old Z n0 h ∧ Keep h0 h [y] ∧ owB Z h y ky (34 : Int32)) n0) := by
  refine MetFree.of_bodySF (plainFor_of_name owpn29) hisR ?_
  intro p e s m args below meth c s₁ Bd hml0 hP hK
  have hi := @own_hi Z a0 hw
  obtain ⟨rfl, hZ, hh⟩ := hP
  have hx := Bd.exec
  have hby := Bd.bytes
  have hml : c.maxLocals = 4 := hml0
  have hown := findClass_of_methodNamed Bd.named
  have X0 : Stand p l e (rM 1 0 0 18) s m #[(.ref a), (.ref y), (.int 10), (.int 0)] below meth c s₁ [] 0 0 := Stand.of_body Bd
  have e0 : s₁.heap = h0 := by rw [← hh, Bd.state]; rfl
  have N0 := Fr.nil n0
  have ef : entryFrame m #[(.ref a), (.ref y), (.int 10), (.int 0)] 4 = mkF m 0 #[.val (.ref a), .val (.ref y), .val (.int 10), .val (.int 0)] [] := by first | (simp [entryFrame, mkF, argsToLocals, Value.category]; done) | rfl
  obtain ⟨cq1, kq1, q1a, q1b, q1c⟩ := isOf hZ e0 Es
  obtain ⟨_, _, ⟨T1, L1, k1, n1⟩, -, X1, ⟨Lc1, hQ1, l1, y1, z1⟩, st1⟩ := X0.virtualBack hx (y := yy23) (z := yy23) hown (mvT hZ (hi 204 rfl)) (mvT hZ (hi 205 rfl)) (notFace_of_selects (args := #[]) (mvT hZ (hi 207 rfl))) (mvT hZ (hi 207 rfl)) (mvT hZ (hi 206 rfl)) (by decide) (backOf (W := 0) (rmCod l Z a0 hw [] n0 h0 O qqR qqN qqK qqU qqS qqE qqI qqM W a Fc) hZ (hi 208 rfl) (hi 81 rfl) (by decide) (by decide)) q1a q1c (g := (mkF m 1 #[vR a, vR y, vI 10, vI 0] [(.ref a)])) rfl (by rw [hml]; rfl) (Steps.refl _) (argsL := []) (rest := []) (lenOf owpd2 rfl) rfl (Nat.le_of_eq rfl) (hb hby d29_1) (fun _ _ => ⟨rfl, e0, (by decide : 0 + 0 ≤ _), (by decide : 0 + 0 ≤ _)⟩)
  dsimp only [Pt.U, Pt.locs, Pt.cells, Pt.slots] at X1 l1 y1 z1 st1 hQ1
  subst l1 y1 z1
  obtain ⟨rfl, Nq1, e1⟩ := hQ1
  have N1 := Fr.app N0 Nq1
  obtain ⟨T2, X2, e2, st2⟩ := getF X1 hx hZ hown (host := "") (Or.inl (hi 203 rfl)) Via.refl e1 Fv (g := (mkF m 9 #[vR a, vR y, vI 10, vI 0] [(.ref a)])) rfl rfl (hb hby d29_9)
  obtain ⟨T3, X3, e3, st3⟩ := getF X2 hx hZ hown (host := "") (Or.inl (hi 203 rfl)) Via.refl e2 Fv (g := (mkF m 18 #[vR a, vR y, vI 10, vI 0] [(.ref a), (.int 10), (.ref y), (.int 0), (.ref b)])) rfl rfl (hb hby d29_18)
  obtain ⟨cl4, Ar4, Sz4, Nn4⟩ := Vb.arr
  obtain ⟨T5, h5, L5, X5, e5, N5, Kc5, V5, st5⟩ := own_cpB X3 hx hZ hown (hi 234 rfl) (hi 237 rfl) (hi 235 rfl) (hi 236 rfl) e3 Vb Vby (by decide) (by decide) (by decide) (by decide) (by decide) N1 gy (g := (mkF m 22 #[vR a, vR y, vI 10, vI 0] [(.int 22), (.int 10), (.ref y), (.int 0), (.ref b)])) rfl (by rw [hml]; rfl) rfl (hb hby d29_22) (by decide) (W := 0) (Nat.le_of_eq rfl) (by decide)
  have O5 := O.keep Kc5 (allS (P := fun x => n0 ≤ x) gy all0)
  have Kp5 : Keep h0 h5 [y] := (Keep.refl h0 [y]).trans Kc5 (allS (P := fun x => x ∈ [y] ∨ h0.size ≤ x) (Or.inl (List.mem_of_getElem? (i := 0) rfl)) (all0 (P := fun x => x ∈ [y] ∨ h0.size ≤ x)))
  obtain ⟨fs, hr, hrun, hended, hW, hsame⟩ := X5.leave (v := none) (fun _ => rfl)
  refine ⟨_, _, castTop ef ?_, hrun, hended, _, _, rfl, ?_, ⟨_, rfl⟩, hW, hsame.mono (by decide) (by decide)⟩
  · show OwG p e below s₁ m 0 #[vR a, vR y, vI 10, vI 0] [] _
    refine XS.aloadN X0.here hx rfl (hb hby d29_0) rfl rfl ?_
    show OwG p e below s₁ m 1 #[vR a, vR y, vI 10, vI 0] [(.ref a)] _
    refine st1.trans ?_
    show OwG p e below T1 m 4 #[vR a, vR y, vI 10, vI 0] [(.int 0)] _
    refine XS.iloadN X1.here hx rfl (hb hby d29_4) rfl ?_
    refine XS.icmpNo X1.here hx rfl (hb hby d29_5) rfl (teq (by decide : (0 : Int32) = (0 : Int32))).2 ?_
    refine XS.aloadN X1.here hx rfl (hb hby d29_8) rfl rfl ?_
    show OwG p e below T1 m 9 #[vR a, vR y, vI 10, vI 0] [(.ref a)] _
    refine st2 _ ?_
    show OwG p e below T2 m 12 #[vR a, vR y, vI 10, vI 0] [(.ref b)] _
    refine XS.iconst X2.here hx rfl (hb hby d29_12) ?_
    refine XS.aloadN X2.here hx rfl (hb hby d29_13) rfl rfl ?_
    refine XS.iloadN X2.here hx rfl (hb hby d29_14) rfl ?_
    refine XS.iloadN X2.here hx rfl (hb hby d29_15) rfl ?_
    refine XS.ishl X2.here hx rfl (hb hby d29_16) rfl ?_
    refine XS.aloadN X2.here hx rfl (hb hby d29_17) rfl rfl ?_
    show OwG p e below T2 m 18 #[vR a, vR y, vI 10, vI 0] [(.ref a), (.int 10), (.ref y), (.int 0), (.ref b)] _
    refine st3 _ ?_
    show OwG p e below T3 m 21 #[vR a, vR y, vI 10, vI 0] [(.ref b), (.int 10), (.ref y), (.int 0), (.ref b)] _
    refine X3.arraylength hx (by rw [e3]; exact Ar4.1) (State.isArrayOf_alike hZ.alike Ar4.2.1) (g := (mkF m 21 #[vR a, vR y, vI 10, vI 0] [(.ref b), (.int 10), (.ref y), (.int 0), (.ref b)])) rfl rfl (hb hby d29_21) _ ?_
    rw [len_of Sz4 Nn4]
    show OwG p e below T3 m 22 #[vR a, vR y, vI 10, vI 0] [(.int 22), (.int 10), (.ref y), (.int 0), (.ref b)] _
    refine st5 _ ?_
    show OwG p e below T5 m 25 #[vR a, vR y, vI 10, vI 0] [] _
    refine XS.goto X5.here hx rfl (pc0 := 25) (pc' := 43) rfl (hb hby d29_25) (by decide) (by decide) ?_
    show OwG p e below T5 m 43 #[vR a, vR y, vI 10, vI 0] [] _
    exact X5.returnOut hx Bd.returns (hb hby d29_43) hr
  · have eF : (T5.setFrames fs).heap = h5 := e5
    exact ⟨N5, rfl, by rw [eF]; exact ⟨O5, Kp5, V5⟩⟩
theorem rmPut_34_10_22 (l : Launch) (Z : State) (a0 : Array Value) (hw : OwHw Z a0) (ws : List Jvm.Cond) (n0 : Nat) (h0 : Heap) (O : Old Z n0 h0) (qqR qqN qqK qqU qqS qqE : Addr) (qqI : Int32) (qqM : Addr) (W : OwW Z qqR qqN qqK qqU qqS qqE qqI qqM) (sb b : Addr) (k : ClassId) (a ab : Addr) (ak : ClassId) (Eb : Exa Z h0 sb zs19) (Gv : Fld Z h0 sb zs14 "value" "[B" (.ref b)) (Gc : Fld Z h0 sb zs14 "coder" "B" (.int 0)) (Gn : Fld Z h0 sb zs14 "count" "I" (.int 10)) (Vbx : owB Z h0 b k (34 : Int32)) (Ess : Exa Z h0 a zs18) (Fcs : Fld Z h0 a zs18 "coder" "B" (.int 0)) (Fvs : Fld Z h0 a zs18 "value" "[B" (.ref ab)) (Vbs : owB Z h0 ab ak (22 : Int32)) (gb : n0 ≤ b) :
    OwCon l yy16 j24 3 none ws (rM 2 0 0 33) #[(.ref sb), (.int 10), (.ref a)] Z h0 (OwP (fun v h => v = none ∧ Old Z n0 h ∧ Keep h0 h [b] ∧ owB Z h b k (34 : Int32)) n0) := by
  refine MetFree.of_bodySF (plainFor_of_name owpn27) hisR ?_
  intro p e s m args below meth c s₁ Bd hml0 hP hK
  have hi := @own_hi Z a0 hw
  obtain ⟨rfl, hZ, hh⟩ := hP
  have hx := Bd.exec
  have hby := Bd.bytes
  have hml : c.maxLocals = 3 := hml0
  have hown := findClass_of_methodNamed Bd.named
  have X0 : Stand p l e (rM 2 0 0 33) s m #[(.ref sb), (.int 10), (.ref a)] below meth c s₁ [] 0 0 := Stand.of_body Bd
  have e0 : s₁.heap = h0 := by rw [← hh, Bd.state]; rfl
  have N0 := Fr.nil n0
  have ef : entryFrame m #[(.ref sb), (.int 10), (.ref a)] 3 = mkF m 0 #[.val (.ref sb), .val (.int 10), .val (.ref a)] [] := by first | (simp [entryFrame, mkF, argsToLocals, Value.category]; done) | rfl
  obtain ⟨cq1, kq1, q1a, q1b, q1c⟩ := isOf hZ e0 Eb
  obtain ⟨_, _, ⟨T1, L1, k1, n1⟩, -, X1, ⟨Lc1, hQ1, l1, y1, z1⟩, st1⟩ := X0.virtualBack hx (y := yy12) (z := yy12) hown (mvT hZ (hi 223 rfl)) (own_decl (mvT hZ (hi 224 rfl)) (mvT hZ (hi 227 rfl))) (notFace_of_selects (args := #[]) (mvT hZ (hi 226 rfl))) (mvT hZ (hi 226 rfl)) (mvT hZ (hi 224 rfl)) (by decide) (backOf (W := 0) (rmInf l Z a0 hw [] n0 h0 O qqR qqN qqK qqU qqS qqE qqI qqM W sb a Gc Ess Fcs) hZ (hi 227 rfl) (hi 179 rfl) (by decide) (by decide)) q1a q1c (g := (mkF m 2 #[vR sb, vI 10, vR a] [(.ref a), (.ref sb)])) rfl (by rw [hml]; rfl) (Steps.refl _) (argsL := [(.ref a)]) (rest := []) (lenOf owpd3 rfl) rfl (Nat.le_of_eq rfl) (hb hby d27_2) (fun _ _ => ⟨rfl, e0, (by decide : 0 + 0 ≤ _), (by decide : 0 + 0 ≤ _)⟩)
  dsimp only [Pt.U, Pt.locs, Pt.cells, Pt.slots] at X1 l1 y1 z1 st1 hQ1
  subst l1 y1 z1
  obtain ⟨rfl, Nq1, e1⟩ := hQ1
  have N1 := Fr.app N0 Nq1
  obtain ⟨T2, X2, e2, st2⟩ := getF X1 hx hZ hown (host := "") (Or.inl (hi 183 rfl)) Via.refl e1 Gv (g := (mkF m 7 #[vR sb, vI 10, vR a] [(.ref sb), (.ref a)])) rfl rfl (hb hby d27_7)
  obtain ⟨T3, X3, e3, st3⟩ := getF X2 hx hZ hown (host := "") (Or.inl (hi 185 rfl)) Via.refl e2 Gc (g := (mkF m 12 #[vR sb, vI 10, vR a] [(.ref sb), (.int 10), (.ref b), (.ref a)])) rfl rfl (hb hby d27_12)
  obtain ⟨cq4, kq4, q4a, q4b, q4c⟩ := isOf hZ e3 Ess
  obtain ⟨_, _, ⟨T4, L4, k4, n4⟩, -, X4, ⟨Lc4, hQ4, l4, y4, z4⟩, st4⟩ := X3.virtualBack hx (y := yy24) (z := yy24) hown (mvT hZ (hi 229 rfl)) (mvT hZ (hi 230 rfl)) (notFace_of_selects (args := #[]) (mvT hZ (hi 232 rfl))) (mvT hZ (hi 232 rfl)) (mvT hZ (hi 231 rfl)) (by decide) (backOf (W := 0) (rmGb_22_34_10 l Z a0 hw [] n0 h0 O qqR qqN qqK qqU qqS qqE qqI qqM W a ab ak b k Ess Fcs Fvs Vbs Vbx gb) hZ (hi 233 rfl) (hi 81 rfl) (by decide) (by decide)) q4a q4c (g := (mkF m 15 #[vR sb, vI 10, vR a] [(.int 0), (.int 10), (.ref b), (.ref a)])) rfl (by rw [hml]; rfl) (Steps.refl _) (argsL := [(.ref b), (.int 10), (.int 0)]) (rest := []) (lenOf owpd4 rfl) rfl (Nat.le_of_eq rfl) (hb hby d27_15) (fun _ _ => ⟨rfl, e3, (by decide : 0 + 0 ≤ _), (by decide : 0 + 0 ≤ _)⟩)
  dsimp only [Pt.U, Pt.locs, Pt.cells, Pt.slots] at X4 l4 y4 z4 st4 hQ4
  subst l4 y4 z4
  obtain ⟨Nq4, hP4⟩ := hQ4
  have N4 := Fr.app N1 Nq4
  have ee4 : T4.heap = T4.heap := rfl
  obtain ⟨rfl, Oc4, Kc4, Vb4⟩ := hP4
  have Kp4 : Keep h0 T4.heap [b] := (Keep.refl h0 [b]).trans Kc4 (allS (P := fun x => x ∈ [b] ∨ h0.size ≤ x) (Or.inl (List.mem_of_getElem? (i := 0) rfl)) (all0 (P := fun x => x ∈ [b] ∨ h0.size ≤ x)))
  obtain ⟨fs, hr, hrun, hended, hW, hsame⟩ := X4.leave (v := none) (fun _ => rfl)
  refine ⟨_, _, castTop ef ?_, hrun, hended, _, _, rfl, ?_, ⟨_, rfl⟩, hW, hsame.mono (by decide) (by decide)⟩
  · show OwG p e below s₁ m 0 #[vR sb, vI 10, vR a] [] _
    refine XS.aloadN X0.here hx rfl (hb hby d27_0) rfl rfl ?_
    show OwG p e below s₁ m 1 #[vR sb, vI 10, vR a] [(.ref sb)] _
    refine XS.aloadN X0.here hx rfl (hb hby d27_1) rfl rfl ?_
    show OwG p e below s₁ m 2 #[vR sb, vI 10, vR a] [(.ref a), (.ref sb)] _
    refine st1.trans ?_
    show OwG p e below T1 m 5 #[vR sb, vI 10, vR a] [] _
    refine XS.aloadN X1.here hx rfl (hb hby d27_5) rfl rfl ?_
    refine XS.aloadN X1.here hx rfl (hb hby d27_6) rfl rfl ?_
    show OwG p e below T1 m 7 #[vR sb, vI 10, vR a] [(.ref sb), (.ref a)] _
    refine st2 _ ?_
    show OwG p e below T2 m 10 #[vR sb, vI 10, vR a] [(.ref b), (.ref a)] _
    refine XS.iloadN X2.here hx rfl (hb hby d27_10) rfl ?_
    refine XS.aloadN X2.here hx rfl (hb hby d27_11) rfl rfl ?_
    show OwG p e below T2 m 12 #[vR sb, vI 10, vR a] [(.ref sb), (.int 10), (.ref b), (.ref a)] _
    refine st3 _ ?_
    show OwG p e below T3 m 15 #[vR sb, vI 10, vR a] [(.int 0), (.int 10), (.ref b), (.ref a)] _
    refine st4.trans ?_
    show OwG p e below T4 m 18 #[vR sb, vI 10, vR a] [] _
    exact X4.returnOut hx Bd.returns (hb hby d27_18) hr
  · have eF : (T4.setFrames fs).heap = T4.heap := ee4
    exact ⟨N4, rfl, by rw [eF]; exact ⟨Oc4, Kp4, Vb4⟩⟩
theorem rmApA_16_10_22 (l : Launch) (Z : State) (a0 : Array Value) (hw : OwHw Z a0) (ws : List Jvm.Cond) (n0 : Nat) (h0 : Heap) (O : Old Z n0 h0) (qqR qqN qqK qqU qqS qqE : Addr) (qqI : Int32) (qqM : Addr) (W : OwW Z qqR qqN qqK qqU qqS qqE qqI qqM) (sb b : Addr) (k : ClassId) (a ab : Addr) (ak : ClassId) (Eb : Exa Z h0 sb zs19) (Gv : Fld Z h0 sb zs14 "value" "[B" (.ref b)) (Gc : Fld Z h0 sb zs14 "coder" "B" (.int 0)) (Gn : Fld Z h0 sb zs14 "count" "I" (.int 10)) (Vbx : owB Z h0 b k (16 : Int32)) (Ess : Exa Z h0 a zs18) (Fcs : Fld Z h0 a zs18 "coder" "B" (.int 0)) (Fvs : Fld Z h0 a zs18 "value" "[B" (.ref ab)) (Vbs : owB Z h0 ab ak (22 : Int32)) (gs : n0 ≤ sb) (gb : n0 ≤ b) :
    OwCon l yy9 j29 3 (some (.object zs14)) ws (rM 4 1 34 62) #[(.ref sb), (.ref a)] Z h0 (OwP (fun v h => v = some (.ref sb) ∧ Old Z n0 h ∧ Keep h0 h [sb] ∧ ∃ (b' : Addr) (k' : ClassId), h0.size ≤ b' ∧ Exa Z h sb zs19 ∧ Fld Z h sb zs14 "value" "[B" (.ref b') ∧ Fld Z h sb zs14 "coder" "B" (.int 0) ∧ Fld Z h sb zs14 "count" "I" (.int 32) ∧ owB Z h b' k' (34 : Int32)) n0) := by
  refine MetFree.of_bodySF (plainFor_of_name owpn23) hisR ?_
  intro p e s m args below meth c s₁ Bd hml0 hP hK
  have hi := @own_hi Z a0 hw
  obtain ⟨rfl, hZ, hh⟩ := hP
  have hx := Bd.exec
  have hby := Bd.bytes
  have hml : c.maxLocals = 3 := hml0
  have hown := findClass_of_methodNamed Bd.named
  have X0 : Stand p l e (rM 4 1 34 62) s m #[(.ref sb), (.ref a)] below meth c s₁ [] 0 0 := Stand.of_body Bd
  have e0 : s₁.heap = h0 := by rw [← hh, Bd.state]; rfl
  have N0 := Fr.nil n0
  have ef : entryFrame m #[(.ref sb), (.ref a)] 3 = mkF m 0 #[.val (.ref sb), .val (.ref a), .unset] [] := by first | (simp [entryFrame, mkF, argsToLocals, Value.category]; done) | rfl
  obtain ⟨cq1, kq1, q1a, q1b, q1c⟩ := isOf hZ e0 Ess
  obtain ⟨_, _, ⟨T1, L1, k1, n1⟩, -, X1, ⟨Lc1, hQ1, l1, y1, z1⟩, st1⟩ := X0.virtualBack hx (y := yy25) (z := yy25) hown (mvT hZ (hi 198 rfl)) (mvT hZ (hi 199 rfl)) (notFace_of_selects (args := #[]) (mvT hZ (hi 201 rfl))) (mvT hZ (hi 201 rfl)) (mvT hZ (hi 200 rfl)) (by decide) (backOf (W := 0) (rmLen22 l Z a0 hw [] n0 h0 O qqR qqN qqK qqU qqS qqE qqI qqM W a ab ak Ess Fcs Fvs Vbs) hZ (hi 202 rfl) (hi 81 rfl) (by decide) (by decide)) q1a q1c (g := (mkF m 10 #[vR sb, vR a, .unset] [(.ref a)])) rfl (by rw [hml]; rfl) (Steps.refl _) (argsL := []) (rest := []) (lenOf owpd5 rfl) rfl (Nat.le_of_eq rfl) (hb hby d23_10) (fun _ _ => ⟨rfl, e0, (by decide : 0 + 0 ≤ _), (by decide : 0 + 0 ≤ _)⟩)
  dsimp only [Pt.U, Pt.locs, Pt.cells, Pt.slots] at X1 l1 y1 z1 st1 hQ1
  subst l1 y1 z1
  obtain ⟨rfl, Nq1, e1⟩ := hQ1
  have N1 := Fr.app N0 Nq1
  obtain ⟨T2, X2, e2, st2⟩ := getF X1 hx hZ hown (host := "") (Or.inl (hi 211 rfl)) Via.refl e1 Gn (g := (mkF m 16 #[vR sb, vR a, vI 22] [(.ref sb), (.ref sb)])) rfl rfl (hb hby d23_16)
  obtain ⟨cq3, kq3, q3a, q3b, q3c⟩ := isOf hZ e2 Eb
  obtain ⟨_, _, ⟨T3, L3, k3, n3⟩, -, X3, ⟨Lc3, hQ3, l3, y3, z3⟩, st3⟩ := X2.virtualBack hx (y := yy10) (z := yy10) hown (mvT hZ (hi 213 rfl)) (own_decl (mvT hZ (hi 214 rfl)) (mvT hZ (hi 217 rfl))) (notFace_of_selects (args := #[]) (mvT hZ (hi 216 rfl))) (mvT hZ (hi 216 rfl)) (mvT hZ (hi 214 rfl)) (by decide) (backOf (W := 0) (rmEns_16_32 l Z a0 hw [] n0 h0 O qqR qqN qqK qqU qqS qqE qqI qqM W sb b k Eb Gv Gc Gn Vbx gs) hZ (hi 217 rfl) (hi 179 rfl) (by decide) (by decide)) q3a q3c (g := (mkF m 21 #[vR sb, vR a, vI 22] [(.int 32), (.ref sb)])) rfl (by rw [hml]; rfl) (Steps.refl _) (argsL := [(.int 32)]) (rest := []) (lenOf owpd1 rfl) rfl (Nat.le_of_eq rfl) (hb hby d23_21) (fun _ _ => ⟨rfl, e2, (by decide : 0 + 1 ≤ _), (by decide : 0 + 34 ≤ _)⟩)
  dsimp only [Pt.U, Pt.locs, Pt.cells, Pt.slots] at X3 l3 y3 z3 st3 hQ3
  subst l3 y3 z3
  obtain ⟨Nq3, hP3⟩ := hQ3
  have N3 := Fr.app N1 Nq3
  have ee3 : T3.heap = T3.heap := rfl
  obtain ⟨rfl, Oc3, Kc3, bb3, kk3, hb3, Ec3, Gv3, Gc3, Gn3, Vb3⟩ := hP3
  have ne_sb_3 : sb ≠ bb3 := Nat.ne_of_lt (Nat.lt_of_lt_of_le Eb.lt hb3)
  have ne_b_3 : b ≠ bb3 := Nat.ne_of_lt (Nat.lt_of_lt_of_le Vbx.lt hb3)
  have ne_a_3 : a ≠ bb3 := Nat.ne_of_lt (Nat.lt_of_lt_of_le Ess.lt hb3)
  have ne_ab_3 : ab ≠ bb3 := Nat.ne_of_lt (Nat.lt_of_lt_of_le Vbs.lt hb3)
  have gx3 : n0 ≤ bb3 := Nat.le_trans (Nat.le_trans (Nat.le_of_eq O.1.symm) O.2.1) hb3
  have sz3 : h0.size ≤ bb3 := Nat.le_trans (Keep.refl h0 [sb]).1 hb3
  have Kp3 : Keep h0 T3.heap [sb] := (Keep.refl h0 [sb]).trans Kc3 (allS (P := fun x => x ∈ [sb] ∨ h0.size ≤ x) (Or.inl (List.mem_of_getElem? (i := 0) rfl)) (all0 (P := fun x => x ∈ [sb] ∨ h0.size ≤ x)))
  obtain ⟨T4, X4, e4, st4⟩ := getF X3 hx hZ hown (host := "") (Or.inl (hi 211 rfl)) Via.refl ee3 Gn3 (g := (mkF m 26 #[vR sb, vR a, vI 22] [(.ref sb), (.ref sb)])) rfl rfl (hb hby d23_26)
  have fa5 := (Ess.keep Kc3)
  have fa6 := (Fcs.keep Kc3 (ninS (Exa.ne fa5 Ec3 (by decide)) nin0))
  have fa7 := (Fvs.keep Kc3 (ninS (Exa.ne fa5 Ec3 (by decide)) nin0))
  have nq8 := owB.ne Vbs Eb (hi 170 rfl)
  have fa9 := (Vbs.keep Kc3 (ninS nq8 nin0))
  obtain ⟨cq10, kq10, q10a, q10b, q10c⟩ := isOf hZ e4 Ec3
  obtain ⟨_, _, ⟨T10, L10, k10, n10⟩, -, X10, ⟨Lc10, hQ10, l10, y10, z10⟩, st10⟩ := X4.virtualBack hx (y := yy16) (z := yy16) hown (mvT hZ (hi 218 rfl)) (own_decl (mvT hZ (hi 219 rfl)) (mvT hZ (hi 222 rfl))) (notFace_of_selects (args := #[]) (mvT hZ (hi 221 rfl))) (mvT hZ (hi 221 rfl)) (mvT hZ (hi 219 rfl)) (by decide) (backOf (W := 0) (rmPut_34_10_22 l Z a0 hw [] n0 T3.heap Oc3 qqR qqN qqK qqU qqS qqE qqI qqM W sb bb3 kk3 a ab ak Ec3 Gv3 Gc3 Gn3 Vb3 fa5 fa6 fa7 fa9 gx3) hZ (hi 222 rfl) (hi 179 rfl) (by decide) (by decide)) q10a q10c (g := (mkF m 30 #[vR sb, vR a, vI 22] [(.ref a), (.int 10), (.ref sb)])) rfl (by rw [hml]; rfl) (Steps.refl _) (argsL := [(.int 10), (.ref a)]) (rest := []) (lenOf owpd6 rfl) rfl (Nat.le_of_eq rfl) (hb hby d23_30) (fun _ _ => ⟨rfl, e4, (by decide : 1 + 0 ≤ _), (by decide : 34 + 0 ≤ _)⟩)
  dsimp only [Pt.U, Pt.locs, Pt.cells, Pt.slots] at X10 l10 y10 z10 st10 hQ10
  subst l10 y10 z10
  obtain ⟨Nq10, hP10⟩ := hQ10
  have N10 := Fr.app N3 Nq10
  have ee10 : T10.heap = T10.heap := rfl
  obtain ⟨rfl, Oc10, Kc10, Vb10⟩ := hP10
  have Kp10 : Keep h0 T10.heap [sb] := Kp3.trans Kc10 (allS (P := fun x => x ∈ [sb] ∨ h0.size ≤ x) (Or.inr sz3) (all0 (P := fun x => x ∈ [sb] ∨ h0.size ≤ x)))
  have fa11 := (Gn3.keep Kc10 (ninS ne_sb_3 nin0))
  obtain ⟨T12, X12, e12, st12⟩ := getF X10 hx hZ hown (host := "") (Or.inl (hi 211 rfl)) Via.refl ee10 fa11 (g := (mkF m 35 #[vR sb, vR a, vI 22] [(.ref sb), (.ref sb)])) rfl rfl (hb hby d23_35)
  have fa13 := (Ec3.keep Kc10)
  obtain ⟨T14, h14, X14, e14, W14, st14⟩ := putF X12 hx hZ hown (host := "") (Or.inl (hi 211 rfl)) Via.refl e12 fa11 fa13 (Or.inl (hi 212 rfl)) (hi 170 rfl) (ty := .int) (by decide) rfl rfl (g := (mkF m 40 #[vR sb, vR a, vI 22] [(.int 32), (.ref sb)])) rfl rfl (hb hby d23_40)
  have Fw14 := fa11.same W14
  have N14 := Fr.snoc X14 N10 gs
  have O14 := Oc10.wr W14 gs
  have Kp14 : Keep h0 h14 [sb] := Kp10.wr W14 (Or.inl (List.mem_of_getElem? (i := 0) rfl))
  have fa15 := (fa13.wr W14)
  have fa16 := ((Gv3.keep Kc10 (ninS ne_sb_3 nin0)).other W14 (Or.inr (slot_ne (Or.inl (hi 184 rfl)) (Or.inl (hi 212 rfl)) (by decide) (t := (.array .byte)) (t' := .int) (by decide) (by decide))))
  have fa17 := ((Gc3.keep Kc10 (ninS ne_sb_3 nin0)).other W14 (Or.inr (slot_ne (Or.inl (hi 186 rfl)) (Or.inl (hi 212 rfl)) (by decide) (t := .byte) (t' := .int) (by decide) (by decide))))
  have fa18 := (Vb10.other W14 (Ne.symm ne_sb_3))
  obtain ⟨fs, hr, hrun, hended, hW, hsame⟩ := X14.leave (v := some (.ref sb)) (fun h => by rw [Bd.returns] at h; cases h)
  refine ⟨_, _, castTop ef ?_, hrun, hended, _, _, rfl, ?_, ⟨_, rfl⟩, hW, hsame.mono (by decide) (by decide)⟩
  · show OwG p e below s₁ m 0 #[vR sb, vR a, .unset] [] _
    refine XS.aloadN X0.here hx rfl (hb hby d23_0) rfl rfl ?_
    show OwG p e below s₁ m 1 #[vR sb, vR a, .unset] [(.ref a)] _
    refine XS.ifnonnullYes X0.here hx rfl (pc0 := 1) (pc' := 9) rfl (hb hby d23_1) rfl (by decide) (by decide) ?_
    refine XS.aloadN X0.here hx rfl (hb hby d23_9) rfl rfl ?_
    show OwG p e below s₁ m 10 #[vR sb, vR a, .unset] [(.ref a)] _
    refine st1.trans ?_
    show OwG p e below T1 m 13 #[vR sb, vR a, .unset] [(.int 22)] _
    refine XS.istoreN X1.here hx rfl (hb hby d23_13) rfl (l' := #[vR sb, vR a, vI 22]) rfl ?_
    refine XS.aloadN X1.here hx rfl (hb hby d23_14) rfl rfl ?_
    refine XS.aloadN X1.here hx rfl (hb hby d23_15) rfl rfl ?_
    show OwG p e below T1 m 16 #[vR sb, vR a, vI 22] [(.ref sb), (.ref sb)] _
    refine st2 _ ?_
    show OwG p e below T2 m 19 #[vR sb, vR a, vI 22] [(.int 10), (.ref sb)] _
    refine XS.iloadN X2.here hx rfl (hb hby d23_19) rfl ?_
    refine XS.iadd X2.here hx rfl (hb hby d23_20) rfl ?_
    show OwG p e below T2 m 21 #[vR sb, vR a, vI 22] [(.int 32), (.ref sb)] _
    refine st3.trans ?_
    show OwG p e below T3 m 24 #[vR sb, vR a, vI 22] [] _
    refine XS.aloadN X3.here hx rfl (hb hby d23_24) rfl rfl ?_
    refine XS.aloadN X3.here hx rfl (hb hby d23_25) rfl rfl ?_
    show OwG p e below T3 m 26 #[vR sb, vR a, vI 22] [(.ref sb), (.ref sb)] _
    refine st4 _ ?_
    show OwG p e below T4 m 29 #[vR sb, vR a, vI 22] [(.int 10), (.ref sb)] _
    refine XS.aloadN X4.here hx rfl (hb hby d23_29) rfl rfl ?_
    show OwG p e below T4 m 30 #[vR sb, vR a, vI 22] [(.ref a), (.int 10), (.ref sb)] _
    refine st10.trans ?_
    show OwG p e below T10 m 33 #[vR sb, vR a, vI 22] [] _
    refine XS.aloadN X10.here hx rfl (hb hby d23_33) rfl rfl ?_
    refine XS.dup X10.here hx rfl (hb hby d23_34) rfl rfl ?_
    show OwG p e below T10 m 35 #[vR sb, vR a, vI 22] [(.ref sb), (.ref sb)] _
    refine st12 _ ?_
    show OwG p e below T12 m 38 #[vR sb, vR a, vI 22] [(.int 10), (.ref sb)] _
    refine XS.iloadN X12.here hx rfl (hb hby d23_38) rfl ?_
    refine XS.iadd X12.here hx rfl (hb hby d23_39) rfl ?_
    show OwG p e below T12 m 40 #[vR sb, vR a, vI 22] [(.int 32), (.ref sb)] _
    refine st14 _ ?_
    show OwG p e below T14 m 43 #[vR sb, vR a, vI 22] [] _
    refine XS.aloadN X14.here hx rfl (hb hby d23_43) rfl rfl ?_
    show OwG p e below T14 m 44 #[vR sb, vR a, vI 22] [(.ref sb)] _
    exact retOut X14 hx Bd.returns rfl (Or.inr (Or.inr (Or.inr (Or.inr ⟨rfl, rfl, rfl⟩)))) (hb hby d23_44) hr
  · have eF : (T14.setFrames fs).heap = h14 := e14
    exact ⟨N14, rfl, by rw [eF]; exact ⟨O14, Kp14, bb3, kk3, sz3, fa15, fa16, fa17, Fw14, fa18⟩⟩
theorem rmApS_16_10_22 (l : Launch) (Z : State) (a0 : Array Value) (hw : OwHw Z a0) (ws : List Jvm.Cond) (n0 : Nat) (h0 : Heap) (O : Old Z n0 h0) (qqR qqN qqK qqU qqS qqE : Addr) (qqI : Int32) (qqM : Addr) (W : OwW Z qqR qqN qqK qqU qqS qqE qqI qqM) (sb b : Addr) (k : ClassId) (a ab : Addr) (ak : ClassId) (Eb : Exa Z h0 sb zs19) (Gv : Fld Z h0 sb zs14 "value" "[B" (.ref b)) (Gc : Fld Z h0 sb zs14 "coder" "B" (.int 0)) (Gn : Fld Z h0 sb zs14 "count" "I" (.int 10)) (Vbx : owB Z h0 b k (16 : Int32)) (Ess : Exa Z h0 a zs18) (Fcs : Fld Z h0 a zs18 "coder" "B" (.int 0)) (Fvs : Fld Z h0 a zs18 "value" "[B" (.ref ab)) (Vbs : owB Z h0 ab ak (22 : Int32)) (gs : n0 ≤ sb) (gb : n0 ≤ b) :
    OwCon l yy27 j38 2 (some (.object zs19)) ws (rM 5 1 34 76) #[(.ref sb), (.ref a)] Z h0 (OwP (fun v h => v = some (.ref sb) ∧ Old Z n0 h ∧ Keep h0 h [sb] ∧ ∃ (b' : Addr) (k' : ClassId), h0.size ≤ b' ∧ Exa Z h sb zs19 ∧ Fld Z h sb zs14 "value" "[B" (.ref b') ∧ Fld Z h sb zs14 "coder" "B" (.int 0) ∧ Fld Z h sb zs14 "count" "I" (.int 32) ∧ owB Z h b' k' (34 : Int32)) n0) := by
  refine MetFree.of_bodySF (plainFor_of_name owpn22) hisR ?_
  intro p e s m args below meth c s₁ Bd hml0 hP hK
  have hi := @own_hi Z a0 hw
  obtain ⟨rfl, hZ, hh⟩ := hP
  have hx := Bd.exec
  have hby := Bd.bytes
  have hml : c.maxLocals = 2 := hml0
  have hown := findClass_of_methodNamed Bd.named
  have X0 : Stand p l e (rM 5 1 34 76) s m #[(.ref sb), (.ref a)] below meth c s₁ [] 0 0 := Stand.of_body Bd
  have e0 : s₁.heap = h0 := by rw [← hh, Bd.state]; rfl
  have N0 := Fr.nil n0
  have ef : entryFrame m #[(.ref sb), (.ref a)] 2 = mkF m 0 #[.val (.ref sb), .val (.ref a)] [] := by first | (simp [entryFrame, mkF, argsToLocals, Value.category]; done) | rfl
  obtain ⟨_, _, ⟨T1, L1, k1, n1⟩, -, X1, ⟨Lc1, hQ1, l1, y1, z1⟩, st1⟩ := superBack X0 hx hZ (y := yy9) hown (hi 193 rfl) (own_same (hi 216 rfl) rfl (by decide) (hi 196 rfl)) (hi 194 rfl) (hi 195 rfl) (by decide) (backOf (W := 0) (rmApA_16_10_22 l Z a0 hw [] n0 h0 O qqR qqN qqK qqU qqS qqE qqI qqM W sb b k a ab ak Eb Gv Gc Gn Vbx Ess Fcs Fvs Vbs gs gb) hZ (hi 197 rfl) (hi 179 rfl) (by decide) (by decide)) e0 (Ins.self Eb) (g := (mkF m 2 #[vR sb, vR a] [(.ref a), (.ref sb)])) rfl (by rw [hml]; rfl) (hi 197 rfl) (argsL := [(.ref a)]) (rest := []) (lenOf owpd7 rfl) rfl (Nat.le_of_eq rfl) (hb hby d22_2) (fun _ _ => ⟨rfl, e0, (by decide : 0 + 1 ≤ _), (by decide : 0 + 34 ≤ _)⟩)
  dsimp only [Pt.U, Pt.locs, Pt.cells, Pt.slots] at X1 l1 y1 z1 st1 hQ1
  subst l1 y1 z1
  obtain ⟨Nq1, hP1⟩ := hQ1
  have N1 := Fr.app N0 Nq1
  have ee1 : T1.heap = T1.heap := rfl
  obtain ⟨rfl, Oc1, Kc1, bb1, kk1, hb1, Ec1, Gv1, Gc1, Gn1, Vb1⟩ := hP1
  have ne_sb_1 : sb ≠ bb1 := Nat.ne_of_lt (Nat.lt_of_lt_of_le Eb.lt hb1)
  have ne_b_1 : b ≠ bb1 := Nat.ne_of_lt (Nat.lt_of_lt_of_le Vbx.lt hb1)
  have ne_a_1 : a ≠ bb1 := Nat.ne_of_lt (Nat.lt_of_lt_of_le Ess.lt hb1)
  have ne_ab_1 : ab ≠ bb1 := Nat.ne_of_lt (Nat.lt_of_lt_of_le Vbs.lt hb1)
  have gx1 : n0 ≤ bb1 := Nat.le_trans (Nat.le_trans (Nat.le_of_eq O.1.symm) O.2.1) hb1
  have sz1 : h0.size ≤ bb1 := Nat.le_trans (Keep.refl h0 [sb]).1 hb1
  have Kp1 : Keep h0 T1.heap [sb] := (Keep.refl h0 [sb]).trans Kc1 (allS (P := fun x => x ∈ [sb] ∨ h0.size ≤ x) (Or.inl (List.mem_of_getElem? (i := 0) rfl)) (all0 (P := fun x => x ∈ [sb] ∨ h0.size ≤ x)))
  obtain ⟨fs, hr, hrun, hended, hW, hsame⟩ := X1.leave (v := some (.ref sb)) (fun h => by rw [Bd.returns] at h; cases h)
  refine ⟨_, _, castTop ef ?_, hrun, hended, _, _, rfl, ?_, ⟨_, rfl⟩, hW, hsame.mono (by decide) (by decide)⟩
  · show OwG p e below s₁ m 0 #[vR sb, vR a] [] _
    refine XS.aloadN X0.here hx rfl (hb hby d22_0) rfl rfl ?_
    show OwG p e below s₁ m 1 #[vR sb, vR a] [(.ref sb)] _
    refine XS.aloadN X0.here hx rfl (hb hby d22_1) rfl rfl ?_
    show OwG p e below s₁ m 2 #[vR sb, vR a] [(.ref a), (.ref sb)] _
    refine st1.trans ?_
    show OwG p e below T1 m 5 #[vR sb, vR a] [(.ref sb)] _
    refine XS.pop X1.here hx rfl (hb hby d22_5) rfl rfl ?_
    refine XS.aloadN X1.here hx rfl (hb hby d22_6) rfl rfl ?_
    show OwG p e below T1 m 7 #[vR sb, vR a] [(.ref sb)] _
    exact retOut X1 hx Bd.returns rfl (Or.inr (Or.inr (Or.inr (Or.inr ⟨rfl, rfl, rfl⟩)))) (hb hby d22_7) hr
  · have eF : (T1.setFrames fs).heap = T1.heap := ee1
    exact ⟨N1, rfl, by rw [eF]; exact ⟨Oc1, Kp1, bb1, kk1, sz1, Ec1, Gv1, Gc1, Gn1, Vb1⟩⟩
theorem rmMax_31_36 (l : Launch) (Z : State) (a0 : Array Value) (hw : OwHw Z a0) (ws : List Jvm.Cond) (n0 : Nat) (h0 : Heap) (O : Old Z n0 h0) (qqR qqN qqK qqU qqS qqE : Addr) (qqI : Int32) (qqM : Addr) (W : OwW Z qqR qqN qqK qqU qqS qqE qqI qqM)  :
    OwCon l yy19 j12 2 (some .int) ws (rM 0 0 0 0) #[(.int 31), (.int 36)] Z h0 (OwQ (some (.int 36)) h0 n0) := by
  refine MetFree.of_bodySF (Jvm.Free.JP.mathPlain rfl (by decide +kernel)) hisR ?_
  intro p e s m args below meth c s₁ Bd hml0 hP hK
  have hi := @own_hi Z a0 hw
  obtain ⟨rfl, hZ, hh⟩ := hP
  have hx := Bd.exec
  have hby := Bd.bytes
  have hml : c.maxLocals = 2 := hml0
  have hown := findClass_of_methodNamed Bd.named
  have X0 : Stand p l e (rM 0 0 0 0) s m #[(.int 31), (.int 36)] below meth c s₁ [] 0 0 := Stand.of_body Bd
  have e0 : s₁.heap = h0 := by rw [← hh, Bd.state]; rfl
  have N0 := Fr.nil n0
  have ef : entryFrame m #[(.int 31), (.int 36)] 2 = mkF m 0 #[.val (.int 31), .val (.int 36)] [] := by first | (simp [entryFrame, mkF, argsToLocals, Value.category]; done) | rfl
  obtain ⟨fs, hr, hrun, hended, hW, hsame⟩ := X0.leave (v := some (.int 36)) (fun h => by rw [Bd.returns] at h; cases h)
  refine ⟨_, _, castTop ef ?_, hrun, hended, _, _, rfl, ?_, ⟨_, rfl⟩, hW, hsame.mono (by decide) (by decide)⟩
  · show OwG p e below s₁ m 0 #[vI 31, vI 36] [] _
    refine XS.iloadN X0.here hx rfl (hb hby d32_0) rfl ?_
    show OwG p e below s₁ m 1 #[vI 31, vI 36] [(.int 31)] _
    refine XS.iloadN X0.here hx rfl (hb hby d32_1) rfl ?_
    refine XS.icmpYes X0.here hx rfl (pc0 := 2) (pc' := 9) rfl (hb hby d32_2) rfl (tlt (by decide : (31 : Int32) < (36 : Int32))).1 (by decide) (by decide) ?_
    refine XS.iloadN X0.here hx rfl (hb hby d32_9) rfl ?_
    show OwG p e below s₁ m 10 #[vI 31, vI 36] [(.int 36)] _
    exact retI X0 hx Bd.returns (hb hby d32_10) hr
  · have eF : (s₁.setFrames fs).heap = h0 := e0
    exact ⟨rfl, N0, eF⟩
theorem rmNl_34_31_36 (l : Launch) (Z : State) (a0 : Array Value) (hw : OwHw Z a0) (ws : List Jvm.Cond) (n0 : Nat) (h0 : Heap) (O : Old Z n0 h0) (qqR qqN qqK qqU qqS qqE : Addr) (qqI : Int32) (qqM : Addr) (W : OwW Z qqR qqN qqK qqU qqS qqE qqI qqM)  :
    OwCon l yy47 j16 4 (some .int) ws (rM 1 0 0 14) #[(.int 34), (.int 31), (.int 36)] Z h0 (OwQ (some (.int 70)) h0 n0) := by
  refine MetFree.of_bodySF (plainFor_of_name owpn31) hisR ?_
  intro p e s m args below meth c s₁ Bd hml0 hP hK
  have hi := @own_hi Z a0 hw
  obtain ⟨rfl, hZ, hh⟩ := hP
  have hx := Bd.exec
  have hby := Bd.bytes
  have hml : c.maxLocals = 4 := hml0
  have hown := findClass_of_methodNamed Bd.named
  have X0 : Stand p l e (rM 1 0 0 14) s m #[(.int 34), (.int 31), (.int 36)] below meth c s₁ [] 0 0 := Stand.of_body Bd
  have e0 : s₁.heap = h0 := by rw [← hh, Bd.state]; rfl
  have N0 := Fr.nil n0
  have ef : entryFrame m #[(.int 34), (.int 31), (.int 36)] 4 = mkF m 0 #[.val (.int 34), .val (.int 31), .val (.int 36), .unset] [] := by first | (simp [entryFrame, mkF, argsToLocals, Value.category]; done) | rfl
  obtain ⟨_, _, ⟨T1, L1, k1, n1⟩, -, X1, ⟨Lc1, hQ1, l1, y1, z1⟩, st1⟩ := Jvm.LawKit.callS X0 hx (y := yy19) hown (mvT hZ (hi 247 rfl)) (mvT hZ (hi 248 rfl)) (mvT hZ (hi 249 rfl)) (mvT hZ (hi 250 rfl)) (by decide) (backOf (W := 1) (rmMax_31_36 l Z a0 hw [] n0 h0 O qqR qqN qqK qqU qqS qqE qqI qqM W ) hZ (hi 250 rfl) (hi 249 rfl) (by decide) (by decide)) (g := (mkF m 3 #[vI 34, vI 31, vI 36, .unset] [(.int 36), (.int 31), (.int 34)])) rfl (by rw [hml]; rfl) (argsL := [(.int 31), (.int 36)]) (rest := [(.int 34)]) (lenOf owpd8 rfl) rfl (Nat.le_of_eq rfl) (hb hby d31_3) (fun _ _ => ⟨rfl, e0, (by decide : 0 + 0 ≤ _), (by decide : 0 + 0 ≤ _)⟩)
  dsimp only [Pt.U, Pt.locs, Pt.cells, Pt.slots] at X1 l1 y1 z1 st1 hQ1
  subst l1 y1 z1
  obtain ⟨rfl, Nq1, e1⟩ := hQ1
  have N1 := Fr.app N0 Nq1
  obtain ⟨fs, hr, hrun, hended, hW, hsame⟩ := X1.leave (v := some (.int 70)) (fun h => by rw [Bd.returns] at h; cases h)
  refine ⟨_, _, castTop ef ?_, hrun, hended, _, _, rfl, ?_, ⟨_, rfl⟩, hW, hsame.mono (by decide) (by decide)⟩
  · show OwG p e below s₁ m 0 #[vI 34, vI 31, vI 36, .unset] [] _
    refine XS.iloadN X0.here hx rfl (hb hby d31_0) rfl ?_
    show OwG p e below s₁ m 1 #[vI 34, vI 31, vI 36, .unset] [(.int 34)] _
    refine XS.iloadN X0.here hx rfl (hb hby d31_1) rfl ?_
    refine XS.iloadN X0.here hx rfl (hb hby d31_2) rfl ?_
    show OwG p e below s₁ m 3 #[vI 34, vI 31, vI 36, .unset] [(.int 36), (.int 31), (.int 34)] _
    refine st1 _ ?_
    show OwG p e below T1 m 6 #[vI 34, vI 31, vI 36, .unset] [(.int 36), (.int 34)] _
    refine XS.iadd X1.here hx rfl (hb hby d31_6) rfl ?_
    refine XS.istoreN X1.here hx rfl (hb hby d31_7) rfl (l' := #[vI 34, vI 31, vI 36, vI 70]) rfl ?_
    refine XS.iconst X1.here hx rfl (hb hby d31_8) ?_
    refine XS.iloadN X1.here hx rfl (hb hby d31_9) rfl ?_
    refine XS.icmpNo X1.here hx rfl (hb hby d31_10) rfl (tlt (by decide : (0 : Int32) < (70 : Int32))).2.1 ?_
    refine XS.iloadN X1.here hx rfl (hb hby d31_13) rfl ?_
    show OwG p e below T1 m 14 #[vI 34, vI 31, vI 36, vI 70] [(.int 70)] _
    refine X1.ldcInt hx hown (mvT hZ (hi 251 rfl)) (g := (mkF m 14 #[vI 34, vI 31, vI 36, vI 70] [(.int 70)])) rfl (hb hby d31_14) _ ?_
    show OwG p e below T1 m 16 #[vI 34, vI 31, vI 36, vI 70] [(.int 2147483639), (.int 70)] _
    refine XS.icmpNo X1.here hx rfl (hb hby d31_16) rfl (flt (by decide : ¬ ((2147483639 : Int32) < (70 : Int32)))).2.2.1 ?_
    refine XS.iloadN X1.here hx rfl (hb hby d31_19) rfl ?_
    show OwG p e below T1 m 20 #[vI 34, vI 31, vI 36, vI 70] [(.int 70)] _
    exact retI X1 hx Bd.returns (hb hby d31_20) hr
  · have eF : (T1.setFrames fs).heap = h0 := e1
    exact ⟨rfl, N1, eF⟩
theorem rmNc_34_65 (l : Launch) (Z : State) (a0 : Array Value) (hw : OwHw Z a0) (ws : List Jvm.Cond) (n0 : Nat) (h0 : Heap) (O : Old Z n0 h0) (qqR qqN qqK qqU qqS qqE : Addr) (qqI : Int32) (qqM : Addr) (W : OwW Z qqR qqN qqK qqU qqS qqE qqI qqM) (sb b : Addr) (k : ClassId) (nq : Int32) (Eb : Exa Z h0 sb zs19) (Gv : Fld Z h0 sb zs14 "value" "[B" (.ref b)) (Gc : Fld Z h0 sb zs14 "coder" "B" (.int 0)) (Gn : Fld Z h0 sb zs14 "count" "I" (.int nq)) (Vbx : owB Z h0 b k (34 : Int32)) :
    OwCon l yy15 j11 6 (some .int) ws (rM 2 0 0 29) #[(.ref sb), (.int 65)] Z h0 (OwQ (some (.int 70)) h0 n0) := by
  refine MetFree.of_bodySF (plainFor_of_name owpn30) hisR ?_
  intro p e s m args below meth c s₁ Bd hml0 hP hK
  have hi := @own_hi Z a0 hw
  obtain ⟨rfl, hZ, hh⟩ := hP
  have hx := Bd.exec
  have hby := Bd.bytes
  have hml : c.maxLocals = 6 := hml0
  have hown := findClass_of_methodNamed Bd.named
  have X0 : Stand p l e (rM 2 0 0 29) s m #[(.ref sb), (.int 65)] below meth c s₁ [] 0 0 := Stand.of_body Bd
  have e0 : s₁.heap = h0 := by rw [← hh, Bd.state]; rfl
  have N0 := Fr.nil n0
  have ef : entryFrame m #[(.ref sb), (.int 65)] 6 = mkF m 0 #[.val (.ref sb), .val (.int 65), .unset, .unset, .unset, .unset] [] := by first | (simp [entryFrame, mkF, argsToLocals, Value.category]; done) | rfl
  obtain ⟨T1, X1, e1, st1⟩ := getF X0 hx hZ hown (host := "") (Or.inl (hi 183 rfl)) Via.refl e0 Gv (g := (mkF m 1 #[vR sb, vI 65, .unset, .unset, .unset, .unset] [(.ref sb)])) rfl rfl (hb hby d30_1)
  obtain ⟨cl2, Ar2, Sz2, Nn2⟩ := Vbx.arr
  obtain ⟨T3, X3, e3, st3⟩ := getF X1 hx hZ hown (host := "") (Or.inl (hi 185 rfl)) Via.refl e1 Gc (g := (mkF m 8 #[vR sb, vI 65, vI 34, .unset, .unset, .unset] [(.ref sb), (.int 65)])) rfl rfl (hb hby d30_8)
  obtain ⟨T4, X4, e4, st4⟩ := getF X3 hx hZ hown (host := "") (Or.inl (hi 185 rfl)) Via.refl e3 Gc (g := (mkF m 24 #[vR sb, vI 65, vI 34, vI 65, vI 31, .unset] [(.ref sb), (.int 2), (.int 34), (.int 31), (.int 34)])) rfl rfl (hb hby d30_24)
  obtain ⟨_, _, ⟨T5, L5, k5, n5⟩, -, X5, ⟨Lc5, hQ5, l5, y5, z5⟩, st5⟩ := Jvm.LawKit.callS X4 hx (y := yy47) hown (mvT hZ (hi 243 rfl)) (mvT hZ (hi 244 rfl)) (mvT hZ (hi 245 rfl)) (mvT hZ (hi 246 rfl)) (by decide) (backOf (W := 0) (rmNl_34_31_36 l Z a0 hw [] n0 h0 O qqR qqN qqK qqU qqS qqE qqI qqM W ) hZ (hi 246 rfl) (hi 245 rfl) (by decide) (by decide)) (g := (mkF m 29 #[vR sb, vI 65, vI 34, vI 65, vI 31, .unset] [(.int 36), (.int 31), (.int 34)])) rfl (by rw [hml]; rfl) (argsL := [(.int 34), (.int 31), (.int 36)]) (rest := []) (lenOf owpd9 rfl) rfl (Nat.le_of_eq rfl) (hb hby d30_29) (fun _ _ => ⟨rfl, e4, (by decide : 0 + 0 ≤ _), (by decide : 0 + 0 ≤ _)⟩)
  dsimp only [Pt.U, Pt.locs, Pt.cells, Pt.slots] at X5 l5 y5 z5 st5 hQ5
  subst l5 y5 z5
  obtain ⟨rfl, Nq5, e5⟩ := hQ5
  have N5 := Fr.app N0 Nq5
  obtain ⟨T6, X6, e6, st6⟩ := getF X5 hx hZ hown (host := "") (Or.inl (hi 185 rfl)) Via.refl e5 Gc (g := (mkF m 54 #[vR sb, vI 65, vI 34, vI 65, vI 31, vI 70] [(.ref sb), (.int 70)])) rfl rfl (hb hby d30_54)
  obtain ⟨fs, hr, hrun, hended, hW, hsame⟩ := X6.leave (v := some (.int 70)) (fun h => by rw [Bd.returns] at h; cases h)
  refine ⟨_, _, castTop ef ?_, hrun, hended, _, _, rfl, ?_, ⟨_, rfl⟩, hW, hsame.mono (by decide) (by decide)⟩
  · show OwG p e below s₁ m 0 #[vR sb, vI 65, .unset, .unset, .unset, .unset] [] _
    refine XS.aloadN X0.here hx rfl (hb hby d30_0) rfl rfl ?_
    show OwG p e below s₁ m 1 #[vR sb, vI 65, .unset, .unset, .unset, .unset] [(.ref sb)] _
    refine st1 _ ?_
    show OwG p e below T1 m 4 #[vR sb, vI 65, .unset, .unset, .unset, .unset] [(.ref b)] _
    refine X1.arraylength hx (by rw [e1]; exact Ar2.1) (State.isArrayOf_alike hZ.alike Ar2.2.1) (g := (mkF m 4 #[vR sb, vI 65, .unset, .unset, .unset, .unset] [(.ref b)])) rfl rfl (hb hby d30_4) _ ?_
    rw [len_of Sz2 Nn2]
    show OwG p e below T1 m 5 #[vR sb, vI 65, .unset, .unset, .unset, .unset] [(.int 34)] _
    refine XS.istoreN X1.here hx rfl (hb hby d30_5) rfl (l' := #[vR sb, vI 65, vI 34, .unset, .unset, .unset]) rfl ?_
    refine XS.iloadN X1.here hx rfl (hb hby d30_6) rfl ?_
    refine XS.aloadN X1.here hx rfl (hb hby d30_7) rfl rfl ?_
    show OwG p e below T1 m 8 #[vR sb, vI 65, vI 34, .unset, .unset, .unset] [(.ref sb), (.int 65)] _
    refine st3 _ ?_
    show OwG p e below T3 m 11 #[vR sb, vI 65, vI 34, .unset, .unset, .unset] [(.int 0), (.int 65)] _
    refine XS.ishl X3.here hx rfl (hb hby d30_11) rfl ?_
    refine XS.istoreN X3.here hx rfl (hb hby d30_12) rfl (l' := #[vR sb, vI 65, vI 34, vI 65, .unset, .unset]) rfl ?_
    refine XS.iloadN X3.here hx rfl (hb hby d30_13) rfl ?_
    refine XS.iloadN X3.here hx rfl (hb hby d30_14) rfl ?_
    refine XS.isub X3.here hx rfl (hb hby d30_15) rfl ?_
    refine XS.istore X3.here hx rfl (hb hby d30_16) rfl (l' := #[vR sb, vI 65, vI 34, vI 65, vI 31, .unset]) rfl ?_
    show OwG p e below T3 m 18 #[vR sb, vI 65, vI 34, vI 65, vI 31, .unset] [] _
    refine XS.iloadN X3.here hx rfl (hb hby d30_18) rfl ?_
    refine XS.iload X3.here hx rfl (hb hby d30_19) rfl ?_
    refine XS.iloadN X3.here hx rfl (hb hby d30_21) rfl ?_
    refine XS.iconst X3.here hx rfl (hb hby d30_22) ?_
    refine XS.aloadN X3.here hx rfl (hb hby d30_23) rfl rfl ?_
    show OwG p e below T3 m 24 #[vR sb, vI 65, vI 34, vI 65, vI 31, .unset] [(.ref sb), (.int 2), (.int 34), (.int 31), (.int 34)] _
    refine st4 _ ?_
    show OwG p e below T4 m 27 #[vR sb, vI 65, vI 34, vI 65, vI 31, .unset] [(.int 0), (.int 2), (.int 34), (.int 31), (.int 34)] _
    refine XS.ishl X4.here hx rfl (hb hby d30_27) rfl ?_
    refine XS.iadd X4.here hx rfl (hb hby d30_28) rfl ?_
    show OwG p e below T4 m 29 #[vR sb, vI 65, vI 34, vI 65, vI 31, .unset] [(.int 36), (.int 31), (.int 34)] _
    refine st5 _ ?_
    show OwG p e below T5 m 32 #[vR sb, vI 65, vI 34, vI 65, vI 31, .unset] [(.int 70)] _
    refine XS.istore X5.here hx rfl (hb hby d30_32) rfl (l' := #[vR sb, vI 65, vI 34, vI 65, vI 31, vI 70]) rfl ?_
    refine XS.iload X5.here hx rfl (hb hby d30_34) rfl ?_
    show OwG p e below T5 m 36 #[vR sb, vI 65, vI 34, vI 65, vI 31, vI 70] [(.int 70)] _
    refine X5.ldcInt hx hown (mvT hZ (hi 252 rfl)) (g := (mkF m 36 #[vR sb, vI 65, vI 34, vI 65, vI 31, vI 70] [(.int 70)])) rfl (hb hby d30_36) _ ?_
    show OwG p e below T5 m 38 #[vR sb, vI 65, vI 34, vI 65, vI 31, vI 70] [(.int 2147483647), (.int 70)] _
    refine XS.icmpYes X5.here hx rfl (pc0 := 38) (pc' := 51) rfl (hb hby d30_38) rfl (feq (by decide : ¬ ((70 : Int32) = (2147483647 : Int32)))).2 (by decide) (by decide) ?_
    refine XS.iload X5.here hx rfl (hb hby d30_51) rfl ?_
    refine XS.aloadN X5.here hx rfl (hb hby d30_53) rfl rfl ?_
    show OwG p e below T5 m 54 #[vR sb, vI 65, vI 34, vI 65, vI 31, vI 70] [(.ref sb), (.int 70)] _
    refine st6 _ ?_
    show OwG p e below T6 m 57 #[vR sb, vI 65, vI 34, vI 65, vI 31, vI 70] [(.int 0), (.int 70)] _
    refine XS.ishr X6.here hx rfl (hb hby d30_57) rfl ?_
    show OwG p e below T6 m 58 #[vR sb, vI 65, vI 34, vI 65, vI 31, vI 70] [(.int 70)] _
    exact retI X6 hx Bd.returns (hb hby d30_58) hr
  · have eF : (T6.setFrames fs).heap = h0 := e6
    exact ⟨rfl, N5, eF⟩
theorem rmMin_34_70 (l : Launch) (Z : State) (a0 : Array Value) (hw : OwHw Z a0) (ws : List Jvm.Cond) (n0 : Nat) (h0 : Heap) (O : Old Z n0 h0) (qqR qqN qqK qqU qqS qqE : Addr) (qqI : Int32) (qqM : Addr) (W : OwW Z qqR qqN qqK qqU qqS qqE qqI qqM)  :
    OwCon l yy20 j18 2 (some .int) ws (rM 0 0 0 0) #[(.int 34), (.int 70)] Z h0 (OwQ (some (.int 34)) h0 n0) := by
  refine MetFree.of_bodySF (Jvm.Free.JP.mathPlain rfl (by decide +kernel)) hisR ?_
  intro p e s m args below meth c s₁ Bd hml0 hP hK
  have hi := @own_hi Z a0 hw
  obtain ⟨rfl, hZ, hh⟩ := hP
  have hx := Bd.exec
  have hby := Bd.bytes
  have hml : c.maxLocals = 2 := hml0
  have hown := findClass_of_methodNamed Bd.named
  have X0 : Stand p l e (rM 0 0 0 0) s m #[(.int 34), (.int 70)] below meth c s₁ [] 0 0 := Stand.of_body Bd
  have e0 : s₁.heap = h0 := by rw [← hh, Bd.state]; rfl
  have N0 := Fr.nil n0
  have ef : entryFrame m #[(.int 34), (.int 70)] 2 = mkF m 0 #[.val (.int 34), .val (.int 70)] [] := by first | (simp [entryFrame, mkF, argsToLocals, Value.category]; done) | rfl
  obtain ⟨fs, hr, hrun, hended, hW, hsame⟩ := X0.leave (v := some (.int 34)) (fun h => by rw [Bd.returns] at h; cases h)
  refine ⟨_, _, castTop ef ?_, hrun, hended, _, _, rfl, ?_, ⟨_, rfl⟩, hW, hsame.mono (by decide) (by decide)⟩
  · show OwG p e below s₁ m 0 #[vI 34, vI 70] [] _
    refine XS.iloadN X0.here hx rfl (hb hby d34_0) rfl ?_
    show OwG p e below s₁ m 1 #[vI 34, vI 70] [(.int 34)] _
    refine XS.iloadN X0.here hx rfl (hb hby d34_1) rfl ?_
    refine XS.icmpNo X0.here hx rfl (hb hby d34_2) rfl (flt (by decide : ¬ ((70 : Int32) < (34 : Int32)))).2.2.1 ?_
    refine XS.iloadN X0.here hx rfl (hb hby d34_5) rfl ?_
    refine XS.goto X0.here hx rfl (pc0 := 6) (pc' := 10) rfl (hb hby d34_6) (by decide) (by decide) ?_
    show OwG p e below s₁ m 10 #[vI 34, vI 70] [(.int 34)] _
    exact retI X0 hx Bd.returns (hb hby d34_10) hr
  · have eF : (s₁.setFrames fs).heap = h0 := e0
    exact ⟨rfl, N0, eF⟩
theorem rmCp_34_70 (l : Launch) (Z : State) (a0 : Array Value) (hw : OwHw Z a0) (ws : List Jvm.Cond) (n0 : Nat) (h0 : Heap) (O : Old Z n0 h0) (qqR qqN qqK qqU qqS qqE : Addr) (qqI : Int32) (qqM : Addr) (W : OwW Z qqR qqN qqK qqU qqS qqE qqI qqM) (b : Addr) (k : ClassId) (Vb : owB Z h0 b k (34 : Int32)) :
    OwCon l yy40 j3 3 (some (.array .byte)) ws (rM 1 1 70 18) #[(.ref b), (.int 70)] Z h0 (OwP (fun v h => ∃ (b' : Addr) (k' : ClassId), v = some (.ref b') ∧ h0.size ≤ b' ∧ Old Z n0 h ∧ Keep h0 h [] ∧ owB Z h b' k' (70 : Int32)) n0) := by
  refine MetFree.of_bodySF (plainFor_of_name owpn33) hisR ?_
  intro p e s m args below meth c s₁ Bd hml0 hP hK
  have hi := @own_hi Z a0 hw
  obtain ⟨rfl, hZ, hh⟩ := hP
  have hx := Bd.exec
  have hby := Bd.bytes
  have hml : c.maxLocals = 3 := hml0
  have hown := findClass_of_methodNamed Bd.named
  have X0 : Stand p l e (rM 1 1 70 18) s m #[(.ref b), (.int 70)] below meth c s₁ [] 0 0 := Stand.of_body Bd
  have e0 : s₁.heap = h0 := by rw [← hh, Bd.state]; rfl
  have N0 := Fr.nil n0
  have ef : entryFrame m #[(.ref b), (.int 70)] 3 = mkF m 0 #[.val (.ref b), .val (.int 70), .unset] [] := by first | (simp [entryFrame, mkF, argsToLocals, Value.category]; done) | rfl
  obtain ⟨cl1, Ar1, Sz1, Nn1⟩ := Vb.arr
  obtain ⟨T2, h2, k2, X2, e2, E2, A2, Ea2, st2⟩ := newPE X0 hx hZ (aty := .byte) (hi 83 rfl) e0 (g := (mkF m 15 #[vR b, vI 70, .unset] [(.int 70)])) rfl (hb hby d33_15) rfl (by decide) (cap := 70) (by decide) (by decide) (by decide) (by decide) (ad := "[B") (by decide)
  obtain ⟨b2, g2⟩ : ∃ z, z = h0.size := ⟨_, rfl⟩
  rw [← g2] at A2 Ea2 st2
  have gx2 : n0 ≤ b2 := Nat.le_trans (Nat.le_trans (Nat.le_of_eq O.1.symm) O.2.1) (Nat.le_of_eq g2.symm)
  have ne_b_2 : b ≠ b2 := Nat.ne_of_lt (Nat.lt_of_lt_of_le Vb.lt (Nat.le_of_eq g2.symm))
  have O2 := O.ext E2
  have Vb2 : owB Z h2 b2 k2 (70 : Int32) := owB.new A2 (by decide)
  have sz2 : h0.size ≤ b2 := Nat.le_trans (Keep.refl h0 []).1 (Nat.le_of_eq g2.symm)
  have Kp2 : Keep h0 h2 [] := (Keep.refl h0 []).ext E2
  have fa4 := (Vb.ext E2)
  obtain ⟨cl3, Ar3, Sz3, Nn3⟩ := fa4.arr
  obtain ⟨_, _, ⟨T5, L5, k5, n5⟩, -, X5, ⟨Lc5, hQ5, l5, y5, z5⟩, st5⟩ := Jvm.LawKit.callS X2 hx (y := yy20) hown (mvT hZ (hi 257 rfl)) (mvT hZ (hi 258 rfl)) (mvT hZ (hi 249 rfl)) (mvT hZ (hi 259 rfl)) (by decide) (backOf (W := 4) (rmMin_34_70 l Z a0 hw [] n0 h2 O2 qqR qqN qqK qqU qqS qqE qqI qqM W ) hZ (hi 259 rfl) (hi 249 rfl) (by decide) (by decide)) (g := (mkF m 25 #[vR b, vI 70, vR b2] [(.int 70), (.int 34), (.int 0), (.ref b2), (.int 0), (.ref b)])) rfl (by rw [hml]; rfl) (argsL := [(.int 34), (.int 70)]) (rest := [(.int 0), (.ref b2), (.int 0), (.ref b)]) (lenOf owpd8 rfl) rfl (Nat.le_of_eq rfl) (hb hby d33_25) (fun _ _ => ⟨rfl, e2, (by decide : 1 + 0 ≤ _), (by decide : 70 + 0 ≤ _)⟩)
  dsimp only [Pt.U, Pt.locs, Pt.cells, Pt.slots] at X5 l5 y5 z5 st5 hQ5
  subst l5 y5 z5
  obtain ⟨rfl, Nq5, e5⟩ := hQ5
  have N5 := Fr.app N0 Nq5
  obtain ⟨T6, h6, L6, X6, e6, N6, Kc6, V6, st6⟩ := own_cpB X5 hx hZ hown (hi 260 rfl) (hi 237 rfl) (hi 235 rfl) (hi 236 rfl) e5 fa4 Vb2 (by decide) (by decide) (by decide) (by decide) (by decide) N5 gx2 (g := (mkF m 28 #[vR b, vI 70, vR b2] [(.int 34), (.int 0), (.ref b2), (.int 0), (.ref b)])) rfl (by rw [hml]; rfl) rfl (hb hby d33_28) (by decide) (W := 0) (Nat.le_of_eq rfl) (by decide)
  have O6 := O2.keep Kc6 (allS (P := fun x => n0 ≤ x) gx2 all0)
  have Kp6 : Keep h0 h6 [] := Kp2.trans Kc6 (allS (P := fun x => x ∈ ([] : List Addr) ∨ h0.size ≤ x) (Or.inr sz2) (all0 (P := fun x => x ∈ ([] : List Addr) ∨ h0.size ≤ x)))
  obtain ⟨fs, hr, hrun, hended, hW, hsame⟩ := X6.leave (v := some (.ref b2)) (fun h => by rw [Bd.returns] at h; cases h)
  refine ⟨_, _, castTop ef ?_, hrun, hended, _, _, rfl, ?_, ⟨_, rfl⟩, hW, hsame.mono (by decide) (by decide)⟩
  · show OwG p e below s₁ m 0 #[vR b, vI 70, .unset] [] _
    refine XS.iloadN X0.here hx rfl (hb hby d33_0) rfl ?_
    show OwG p e below s₁ m 1 #[vR b, vI 70, .unset] [(.int 70)] _
    refine XS.aloadN X0.here hx rfl (hb hby d33_1) rfl rfl ?_
    show OwG p e below s₁ m 2 #[vR b, vI 70, .unset] [(.ref b), (.int 70)] _
    refine X0.arraylength hx (by rw [e0]; exact Ar1.1) (State.isArrayOf_alike hZ.alike Ar1.2.1) (g := (mkF m 2 #[vR b, vI 70, .unset] [(.ref b), (.int 70)])) rfl rfl (hb hby d33_2) _ ?_
    rw [len_of Sz1 Nn1]
    show OwG p e below s₁ m 3 #[vR b, vI 70, .unset] [(.int 34), (.int 70)] _
    refine XS.icmpYes X0.here hx rfl (pc0 := 3) (pc' := 14) rfl (hb hby d33_3) rfl (feq (by decide : ¬ ((70 : Int32) = (34 : Int32)))).2 (by decide) (by decide) ?_
    refine XS.iloadN X0.here hx rfl (hb hby d33_14) rfl ?_
    show OwG p e below s₁ m 15 #[vR b, vI 70, .unset] [(.int 70)] _
    refine st2 _ ?_
    show OwG p e below T2 m 17 #[vR b, vI 70, .unset] [(.ref b2)] _
    refine XS.astoreN X2.here hx rfl (hb hby d33_17) rfl rfl (l' := #[vR b, vI 70, vR b2]) rfl ?_
    refine XS.aloadN X2.here hx rfl (hb hby d33_18) rfl rfl ?_
    refine XS.iconst X2.here hx rfl (hb hby d33_19) ?_
    refine XS.aloadN X2.here hx rfl (hb hby d33_20) rfl rfl ?_
    refine XS.iconst X2.here hx rfl (hb hby d33_21) ?_
    refine XS.aloadN X2.here hx rfl (hb hby d33_22) rfl rfl ?_
    show OwG p e below T2 m 23 #[vR b, vI 70, vR b2] [(.ref b), (.int 0), (.ref b2), (.int 0), (.ref b)] _
    refine X2.arraylength hx (by rw [e2]; exact Ar3.1) (State.isArrayOf_alike hZ.alike Ar3.2.1) (g := (mkF m 23 #[vR b, vI 70, vR b2] [(.ref b), (.int 0), (.ref b2), (.int 0), (.ref b)])) rfl rfl (hb hby d33_23) _ ?_
    rw [len_of Sz3 Nn3]
    show OwG p e below T2 m 24 #[vR b, vI 70, vR b2] [(.int 34), (.int 0), (.ref b2), (.int 0), (.ref b)] _
    refine XS.iloadN X2.here hx rfl (hb hby d33_24) rfl ?_
    show OwG p e below T2 m 25 #[vR b, vI 70, vR b2] [(.int 70), (.int 34), (.int 0), (.ref b2), (.int 0), (.ref b)] _
    refine st5 _ ?_
    show OwG p e below T5 m 28 #[vR b, vI 70, vR b2] [(.int 34), (.int 0), (.ref b2), (.int 0), (.ref b)] _
    refine st6 _ ?_
    show OwG p e below T6 m 31 #[vR b, vI 70, vR b2] [] _
    refine XS.aloadN X6.here hx rfl (hb hby d33_31) rfl rfl ?_
    show OwG p e below T6 m 32 #[vR b, vI 70, vR b2] [(.ref b2)] _
    exact retOut X6 hx Bd.returns rfl (Or.inr (Or.inr (Or.inr (Or.inr ⟨rfl, rfl, rfl⟩)))) (hb hby d33_32) hr
  · have eF : (T6.setFrames fs).heap = h6 := e6
    exact ⟨N6, b2, k2, rfl, sz2, by rw [eF]; exact ⟨O6, Kp6, V6⟩⟩
theorem rmEns_34_65 (l : Launch) (Z : State) (a0 : Array Value) (hw : OwHw Z a0) (ws : List Jvm.Cond) (n0 : Nat) (h0 : Heap) (O : Old Z n0 h0) (qqR qqN qqK qqU qqS qqE : Addr) (qqI : Int32) (qqM : Addr) (W : OwW Z qqR qqN qqK qqU qqS qqE qqI qqM) (sb b : Addr) (k : ClassId) (Eb : Exa Z h0 sb zs19) (Gv : Fld Z h0 sb zs14 "value" "[B" (.ref b)) (Gc : Fld Z h0 sb zs14 "coder" "B" (.int 0)) (Gn : Fld Z h0 sb zs14 "count" "I" (.int 32)) (Vbx : owB Z h0 b k (34 : Int32)) (gs : n0 ≤ sb) :
    OwCon l yy10 j33 3 none ws (rM 3 1 70 48) #[(.ref sb), (.int 65)] Z h0 (OwP (fun v h => v = none ∧ Old Z n0 h ∧ Keep h0 h [sb] ∧ ∃ (b' : Addr) (k' : ClassId), h0.size ≤ b' ∧ Exa Z h sb zs19 ∧ Fld Z h sb zs14 "value" "[B" (.ref b') ∧ Fld Z h sb zs14 "coder" "B" (.int 0) ∧ Fld Z h sb zs14 "count" "I" (.int 32) ∧ owB Z h b' k' (70 : Int32)) n0) := by
  refine MetFree.of_bodySF (plainFor_of_name owpn26) hisR ?_
  intro p e s m args below meth c s₁ Bd hml0 hP hK
  have hi := @own_hi Z a0 hw
  obtain ⟨rfl, hZ, hh⟩ := hP
  have hx := Bd.exec
  have hby := Bd.bytes
  have hml : c.maxLocals = 3 := hml0
  have hown := findClass_of_methodNamed Bd.named
  have X0 : Stand p l e (rM 3 1 70 48) s m #[(.ref sb), (.int 65)] below meth c s₁ [] 0 0 := Stand.of_body Bd
  have e0 : s₁.heap = h0 := by rw [← hh, Bd.state]; rfl
  have N0 := Fr.nil n0
  have ef : entryFrame m #[(.ref sb), (.int 65)] 3 = mkF m 0 #[.val (.ref sb), .val (.int 65), .unset] [] := by first | (simp [entryFrame, mkF, argsToLocals, Value.category]; done) | rfl
  obtain ⟨T1, X1, e1, st1⟩ := getF X0 hx hZ hown (host := "") (Or.inl (hi 183 rfl)) Via.refl e0 Gv (g := (mkF m 1 #[vR sb, vI 65, .unset] [(.ref sb)])) rfl rfl (hb hby d26_1)
  obtain ⟨cl2, Ar2, Sz2, Nn2⟩ := Vbx.arr
  obtain ⟨T3, X3, e3, st3⟩ := getF X1 hx hZ hown (host := "") (Or.inl (hi 185 rfl)) Via.refl e1 Gc (g := (mkF m 6 #[vR sb, vI 65, .unset] [(.ref sb), (.int 34)])) rfl rfl (hb hby d26_6)
  obtain ⟨T4, X4, e4, st4⟩ := getF X3 hx hZ hown (host := "") (Or.inl (hi 183 rfl)) Via.refl e3 Gv (g := (mkF m 19 #[vR sb, vI 65, vI 34] [(.ref sb), (.ref sb)])) rfl rfl (hb hby d26_19)
  obtain ⟨cq5, kq5, q5a, q5b, q5c⟩ := isOf hZ e4 Eb
  obtain ⟨_, _, ⟨T5, L5, k5, n5⟩, -, X5, ⟨Lc5, hQ5, l5, y5, z5⟩, st5⟩ := X4.virtualBack hx (y := yy15) (z := yy15) hown (mvT hZ (hi 238 rfl)) (own_decl (mvT hZ (hi 239 rfl)) (mvT hZ (hi 242 rfl))) (notFace_of_selects (args := #[]) (mvT hZ (hi 241 rfl))) (mvT hZ (hi 241 rfl)) (mvT hZ (hi 239 rfl)) (by decide) (backOf (W := 2) (rmNc_34_65 l Z a0 hw [] n0 h0 O qqR qqN qqK qqU qqS qqE qqI qqM W sb b k (32 : Int32) Eb Gv Gc Gn Vbx) hZ (hi 242 rfl) (hi 179 rfl) (by decide) (by decide)) q5a q5c (g := (mkF m 24 #[vR sb, vI 65, vI 34] [(.int 65), (.ref sb), (.ref b), (.ref sb)])) rfl (by rw [hml]; rfl) (Steps.refl _) (argsL := [(.int 65)]) (rest := [(.ref b), (.ref sb)]) (lenOf owpd10 rfl) rfl (Nat.le_of_eq rfl) (hb hby d26_24) (fun _ _ => ⟨rfl, e4, (by decide : 0 + 0 ≤ _), (by decide : 0 + 0 ≤ _)⟩)
  dsimp only [Pt.U, Pt.locs, Pt.cells, Pt.slots] at X5 l5 y5 z5 st5 hQ5
  subst l5 y5 z5
  obtain ⟨rfl, Nq5, e5⟩ := hQ5
  have N5 := Fr.app N0 Nq5
  obtain ⟨T6, X6, e6, st6⟩ := getF X5 hx hZ hown (host := "") (Or.inl (hi 185 rfl)) Via.refl e5 Gc (g := (mkF m 28 #[vR sb, vI 65, vI 34] [(.ref sb), (.int 70), (.ref b), (.ref sb)])) rfl rfl (hb hby d26_28)
  obtain ⟨_, _, ⟨T7, L7, k7, n7⟩, -, X7, ⟨Lc7, hQ7, l7, y7, z7⟩, st7⟩ := Jvm.LawKit.callS X6 hx (y := yy40) hown (mvT hZ (hi 253 rfl)) (mvT hZ (hi 254 rfl)) (mvT hZ (hi 255 rfl)) (mvT hZ (hi 256 rfl)) (by decide) (backOf (W := 1) (rmCp_34_70 l Z a0 hw [] n0 h0 O qqR qqN qqK qqU qqS qqE qqI qqM W b k Vbx) hZ (hi 256 rfl) (hi 255 rfl) (by decide) (by decide)) (g := (mkF m 32 #[vR sb, vI 65, vI 34] [(.int 70), (.ref b), (.ref sb)])) rfl (by rw [hml]; rfl) (argsL := [(.ref b), (.int 70)]) (rest := [(.ref sb)]) (lenOf owpd11 rfl) rfl (Nat.le_of_eq rfl) (hb hby d26_32) (fun _ _ => ⟨rfl, e6, (by decide : 0 + 1 ≤ _), (by decide : 0 + 70 ≤ _)⟩)
  dsimp only [Pt.U, Pt.locs, Pt.cells, Pt.slots] at X7 l7 y7 z7 st7 hQ7
  subst l7 y7 z7
  obtain ⟨Nq7, hP7⟩ := hQ7
  have N7 := Fr.app N5 Nq7
  have ee7 : T7.heap = T7.heap := rfl
  obtain ⟨bb7, kk7, rfl, hb7, Oc7, Kc7, Vb7⟩ := hP7
  have ne_sb_7 : sb ≠ bb7 := Nat.ne_of_lt (Nat.lt_of_lt_of_le Eb.lt hb7)
  have ne_b_7 : b ≠ bb7 := Nat.ne_of_lt (Nat.lt_of_lt_of_le Vbx.lt hb7)
  have gx7 : n0 ≤ bb7 := Nat.le_trans (Nat.le_trans (Nat.le_of_eq O.1.symm) O.2.1) hb7
  have sz7 : h0.size ≤ bb7 := Nat.le_trans (Keep.refl h0 [sb]).1 hb7
  have Kp7 : Keep h0 T7.heap [sb] := (Keep.refl h0 [sb]).trans Kc7 (all0 (P := fun x => x ∈ [sb] ∨ h0.size ≤ x))
  have fa8 := (Gv.keep Kc7 nin0)
  have fa9 := (Eb.keep Kc7)
  obtain ⟨T10, h10, X10, e10, W10, st10⟩ := putF X7 hx hZ hown (host := "") (Or.inl (hi 183 rfl)) Via.refl ee7 fa8 fa9 (Or.inl (hi 184 rfl)) (hi 170 rfl) (ty := (.array .byte)) (by decide) rfl rfl (g := (mkF m 35 #[vR sb, vI 65, vI 34] [(.ref bb7), (.ref sb)])) rfl rfl (hb hby d26_35)
  have Fw10 := fa8.same W10
  have N10 := Fr.snoc X10 N7 gs
  have O10 := Oc7.wr W10 gs
  have Kp10 : Keep h0 h10 [sb] := Kp7.wr W10 (Or.inl (List.mem_of_getElem? (i := 0) rfl))
  have fa11 := (fa9.wr W10)
  have fa12 := ((Gc.keep Kc7 nin0).other W10 (Or.inr (slot_ne (Or.inl (hi 186 rfl)) (Or.inl (hi 184 rfl)) (by decide) (t := .byte) (t' := (.array .byte)) (by decide) (by decide))))
  have fa13 := ((Gn.keep Kc7 nin0).other W10 (Or.inr (slot_ne (Or.inl (hi 212 rfl)) (Or.inl (hi 184 rfl)) (by decide) (t := .int) (t' := (.array .byte)) (by decide) (by decide))))
  have fa14 := (Vb7.other W10 (Ne.symm ne_sb_7))
  obtain ⟨fs, hr, hrun, hended, hW, hsame⟩ := X10.leave (v := none) (fun _ => rfl)
  refine ⟨_, _, castTop ef ?_, hrun, hended, _, _, rfl, ?_, ⟨_, rfl⟩, hW, hsame.mono (by decide) (by decide)⟩
  · show OwG p e below s₁ m 0 #[vR sb, vI 65, .unset] [] _
    refine XS.aloadN X0.here hx rfl (hb hby d26_0) rfl rfl ?_
    show OwG p e below s₁ m 1 #[vR sb, vI 65, .unset] [(.ref sb)] _
    refine st1 _ ?_
    show OwG p e below T1 m 4 #[vR sb, vI 65, .unset] [(.ref b)] _
    refine X1.arraylength hx (by rw [e1]; exact Ar2.1) (State.isArrayOf_alike hZ.alike Ar2.2.1) (g := (mkF m 4 #[vR sb, vI 65, .unset] [(.ref b)])) rfl rfl (hb hby d26_4) _ ?_
    rw [len_of Sz2 Nn2]
    show OwG p e below T1 m 5 #[vR sb, vI 65, .unset] [(.int 34)] _
    refine XS.aloadN X1.here hx rfl (hb hby d26_5) rfl rfl ?_
    show OwG p e below T1 m 6 #[vR sb, vI 65, .unset] [(.ref sb), (.int 34)] _
    refine st3 _ ?_
    show OwG p e below T3 m 9 #[vR sb, vI 65, .unset] [(.int 0), (.int 34)] _
    refine XS.ishr X3.here hx rfl (hb hby d26_9) rfl ?_
    refine XS.istoreN X3.here hx rfl (hb hby d26_10) rfl (l' := #[vR sb, vI 65, vI 34]) rfl ?_
    refine XS.iloadN X3.here hx rfl (hb hby d26_11) rfl ?_
    refine XS.iloadN X3.here hx rfl (hb hby d26_12) rfl ?_
    refine XS.isub X3.here hx rfl (hb hby d26_13) rfl ?_
    refine XS.ifNo X3.here hx rfl (hb hby d26_14) rfl ((if0 _ _).trans (tlt (by decide : (0 : Int32) < (31 : Int32))).2.2.2) ?_
    show OwG p e below T3 m 17 #[vR sb, vI 65, vI 34] [] _
    refine XS.aloadN X3.here hx rfl (hb hby d26_17) rfl rfl ?_
    refine XS.aloadN X3.here hx rfl (hb hby d26_18) rfl rfl ?_
    show OwG p e below T3 m 19 #[vR sb, vI 65, vI 34] [(.ref sb), (.ref sb)] _
    refine st4 _ ?_
    show OwG p e below T4 m 22 #[vR sb, vI 65, vI 34] [(.ref b), (.ref sb)] _
    refine XS.aloadN X4.here hx rfl (hb hby d26_22) rfl rfl ?_
    refine XS.iloadN X4.here hx rfl (hb hby d26_23) rfl ?_
    show OwG p e below T4 m 24 #[vR sb, vI 65, vI 34] [(.int 65), (.ref sb), (.ref b), (.ref sb)] _
    refine st5.trans ?_
    show OwG p e below T5 m 27 #[vR sb, vI 65, vI 34] [(.int 70), (.ref b), (.ref sb)] _
    refine XS.aloadN X5.here hx rfl (hb hby d26_27) rfl rfl ?_
    show OwG p e below T5 m 28 #[vR sb, vI 65, vI 34] [(.ref sb), (.int 70), (.ref b), (.ref sb)] _
    refine st6 _ ?_
    show OwG p e below T6 m 31 #[vR sb, vI 65, vI 34] [(.int 0), (.int 70), (.ref b), (.ref sb)] _
    refine XS.ishl X6.here hx rfl (hb hby d26_31) rfl ?_
    show OwG p e below T6 m 32 #[vR sb, vI 65, vI 34] [(.int 70), (.ref b), (.ref sb)] _
    refine st7 _ ?_
    show OwG p e below T7 m 35 #[vR sb, vI 65, vI 34] [(.ref bb7), (.ref sb)] _
    refine st10 _ ?_
    show OwG p e below T10 m 38 #[vR sb, vI 65, vI 34] [] _
    exact X10.returnOut hx Bd.returns (hb hby d26_38) hr
  · have eF : (T10.setFrames fs).heap = h10 := e10
    exact ⟨N10, rfl, by rw [eF]; exact ⟨O10, Kp10, bb7, kk7, sz7, fa11, Fw10, fa12, fa13, fa14⟩⟩
theorem rmLen33 (l : Launch) (Z : State) (a0 : Array Value) (hw : OwHw Z a0) (ws : List Jvm.Cond) (n0 : Nat) (h0 : Heap) (O : Old Z n0 h0) (qqR qqN qqK qqU qqS qqE : Addr) (qqI : Int32) (qqM : Addr) (W : OwW Z qqR qqN qqK qqU qqS qqE qqI qqM) (a b : Addr) (k : ClassId) (Es : Exa Z h0 a zs18) (Fc : Fld Z h0 a zs18 "coder" "B" (.int 0)) (Fv : Fld Z h0 a zs18 "value" "[B" (.ref b)) (Vb : owB Z h0 b k (33 : Int32)) :
    OwCon l yy25 j17 1 (some .int) ws (rM 1 0 0 13) #[(.ref a)] Z h0 (OwQ (some (.int 33)) h0 n0) := by
  refine MetFree.of_bodySF (plainFor_of_name owpn24) hisR ?_
  intro p e s m args below meth c s₁ Bd hml0 hP hK
  have hi := @own_hi Z a0 hw
  obtain ⟨rfl, hZ, hh⟩ := hP
  have hx := Bd.exec
  have hby := Bd.bytes
  have hml : c.maxLocals = 1 := hml0
  have hown := findClass_of_methodNamed Bd.named
  have X0 : Stand p l e (rM 1 0 0 13) s m #[(.ref a)] below meth c s₁ [] 0 0 := Stand.of_body Bd
  have e0 : s₁.heap = h0 := by rw [← hh, Bd.state]; rfl
  have N0 := Fr.nil n0
  have ef : entryFrame m #[(.ref a)] 1 = mkF m 0 #[.val (.ref a)] [] := by first | (simp [entryFrame, mkF, argsToLocals, Value.category]; done) | rfl
  obtain ⟨T1, X1, e1, st1⟩ := getF X0 hx hZ hown (host := "") (Or.inl (hi 203 rfl)) Via.refl e0 Fv (g := (mkF m 1 #[vR a] [(.ref a)])) rfl rfl (hb hby d24_1)
  obtain ⟨cl2, Ar2, Sz2, Nn2⟩ := Vb.arr
  obtain ⟨cq3, kq3, q3a, q3b, q3c⟩ := isOf hZ e1 Es
  obtain ⟨_, _, ⟨T3, L3, k3, n3⟩, -, X3, ⟨Lc3, hQ3, l3, y3, z3⟩, st3⟩ := X1.virtualBack hx (y := yy23) (z := yy23) hown (mvT hZ (hi 204 rfl)) (mvT hZ (hi 205 rfl)) (notFace_of_selects (args := #[]) (mvT hZ (hi 207 rfl))) (mvT hZ (hi 207 rfl)) (mvT hZ (hi 206 rfl)) (by decide) (backOf (W := 1) (rmCod l Z a0 hw [] n0 h0 O qqR qqN qqK qqU qqS qqE qqI qqM W a Fc) hZ (hi 208 rfl) (hi 81 rfl) (by decide) (by decide)) q3a q3c (g := (mkF m 6 #[vR a] [(.ref a), (.int 33)])) rfl (by rw [hml]; rfl) (Steps.refl _) (argsL := []) (rest := [(.int 33)]) (lenOf owpd2 rfl) rfl (Nat.le_of_eq rfl) (hb hby d24_6) (fun _ _ => ⟨rfl, e1, (by decide : 0 + 0 ≤ _), (by decide : 0 + 0 ≤ _)⟩)
  dsimp only [Pt.U, Pt.locs, Pt.cells, Pt.slots] at X3 l3 y3 z3 st3 hQ3
  subst l3 y3 z3
  obtain ⟨rfl, Nq3, e3⟩ := hQ3
  have N3 := Fr.app N0 Nq3
  obtain ⟨fs, hr, hrun, hended, hW, hsame⟩ := X3.leave (v := some (.int 33)) (fun h => by rw [Bd.returns] at h; cases h)
  refine ⟨_, _, castTop ef ?_, hrun, hended, _, _, rfl, ?_, ⟨_, rfl⟩, hW, hsame.mono (by decide) (by decide)⟩
  · show OwG p e below s₁ m 0 #[vR a] [] _
    refine XS.aloadN X0.here hx rfl (hb hby d24_0) rfl rfl ?_
    show OwG p e below s₁ m 1 #[vR a] [(.ref a)] _
    refine st1 _ ?_
    show OwG p e below T1 m 4 #[vR a] [(.ref b)] _
    refine X1.arraylength hx (by rw [e1]; exact Ar2.1) (State.isArrayOf_alike hZ.alike Ar2.2.1) (g := (mkF m 4 #[vR a] [(.ref b)])) rfl rfl (hb hby d24_4) _ ?_
    rw [len_of Sz2 Nn2]
    show OwG p e below T1 m 5 #[vR a] [(.int 33)] _
    refine XS.aloadN X1.here hx rfl (hb hby d24_5) rfl rfl ?_
    show OwG p e below T1 m 6 #[vR a] [(.ref a), (.int 33)] _
    refine st3.trans ?_
    show OwG p e below T3 m 9 #[vR a] [(.int 0), (.int 33)] _
    refine XS.ishr X3.here hx rfl (hb hby d24_9) rfl ?_
    show OwG p e below T3 m 10 #[vR a] [(.int 33)] _
    exact retI X3 hx Bd.returns (hb hby d24_10) hr
  · have eF : (T3.setFrames fs).heap = h0 := e3
    exact ⟨rfl, N3, eF⟩
theorem rmGb_33_70_32 (l : Launch) (Z : State) (a0 : Array Value) (hw : OwHw Z a0) (ws : List Jvm.Cond) (n0 : Nat) (h0 : Heap) (O : Old Z n0 h0) (qqR qqN qqK qqU qqS qqE : Addr) (qqI : Int32) (qqM : Addr) (W : OwW Z qqR qqN qqK qqU qqS qqE qqI qqM) (a b : Addr) (k : ClassId) (y : Addr) (ky : ClassId) (Es : Exa Z h0 a zs18) (Fc : Fld Z h0 a zs18 "coder" "B" (.int 0)) (Fv : Fld Z h0 a zs18 "value" "[B" (.ref b)) (Vb : owB Z h0 b k (33 : Int32)) (Vby : owB Z h0 y ky (70 : Int32)) (gy : n0 ≤ y) :
    OwCon l yy24 j1 4 none ws (rM 1 0 0 18) #[(.ref a), (.ref y), (.int 32), (.int 0)] Z h0 (OwP (fun v h => v = none ∧ Old Z n0 h ∧ Keep h0 h [y] ∧ owB Z h y ky (70 : Int32)) n0) := by
  refine MetFree.of_bodySF (plainFor_of_name owpn29) hisR ?_
  intro p e s m args below meth c s₁ Bd hml0 hP hK
  have hi := @own_hi Z a0 hw
  obtain ⟨rfl, hZ, hh⟩ := hP
  have hx := Bd.exec
  have hby := Bd.bytes
  have hml : c.maxLocals = 4 := hml0
  have hown := findClass_of_methodNamed Bd.named
  have X0 : Stand p l e (rM 1 0 0 18) s m #[(.ref a), (.ref y), (.int 32), (.int 0)] below meth c s₁ [] 0 0 := Stand.of_body Bd
  have e0 : s₁.heap = h0 := by rw [← hh, Bd.state]; rfl
  have N0 := Fr.nil n0
  have ef : entryFrame m #[(.ref a), (.ref y), (.int 32), (.int 0)] 4 = mkF m 0 #[.val (.ref a), .val (.ref y), .val (.int 32), .val (.int 0)] [] := by first | (simp [entryFrame, mkF, argsToLocals, Value.category]; done) | rfl
  obtain ⟨cq1, kq1, q1a, q1b, q1c⟩ := isOf hZ e0 Es
  obtain ⟨_, _, ⟨T1, L1, k1, n1⟩, -, X1, ⟨Lc1, hQ1, l1, y1, z1⟩, st1⟩ := X0.virtualBack hx (y := yy23) (z := yy23) hown (mvT hZ (hi 204 rfl)) (mvT hZ (hi 205 rfl)) (notFace_of_selects (args := #[]) (mvT hZ (hi 207 rfl))) (mvT hZ (hi 207 rfl)) (mvT hZ (hi 206 rfl)) (by decide) (backOf (W := 0) (rmCod l Z a0 hw [] n0 h0 O qqR qqN qqK qqU qqS qqE qqI qqM W a Fc) hZ (hi 208 rfl) (hi 81 rfl) (by decide) (by decide)) q1a q1c (g := (mkF m 1 #[vR a, vR y, vI 32, vI 0] [(.ref a)])) rfl (by rw [hml]; rfl) (Steps.refl _) (argsL := []) (rest := []) (lenOf owpd2 rfl) rfl (Nat.le_of_eq rfl) (hb hby d29_1) (fun _ _ => ⟨rfl, e0, (by decide : 0 + 0 ≤ _), (by decide : 0 + 0 ≤ _)⟩)
  dsimp only [Pt.U, Pt.locs, Pt.cells, Pt.slots] at X1 l1 y1 z1 st1 hQ1
  subst l1 y1 z1
  obtain ⟨rfl, Nq1, e1⟩ := hQ1
  have N1 := Fr.app N0 Nq1
  obtain ⟨T2, X2, e2, st2⟩ := getF X1 hx hZ hown (host := "") (Or.inl (hi 203 rfl)) Via.refl e1 Fv (g := (mkF m 9 #[vR a, vR y, vI 32, vI 0] [(.ref a)])) rfl rfl (hb hby d29_9)
  obtain ⟨T3, X3, e3, st3⟩ := getF X2 hx hZ hown (host := "") (Or.inl (hi 203 rfl)) Via.refl e2 Fv (g := (mkF m 18 #[vR a, vR y, vI 32, vI 0] [(.ref a), (.int 32), (.ref y), (.int 0), (.ref b)])) rfl rfl (hb hby d29_18)
  obtain ⟨cl4, Ar4, Sz4, Nn4⟩ := Vb.arr
  obtain ⟨T5, h5, L5, X5, e5, N5, Kc5, V5, st5⟩ := own_cpB X3 hx hZ hown (hi 234 rfl) (hi 237 rfl) (hi 235 rfl) (hi 236 rfl) e3 Vb Vby (by decide) (by decide) (by decide) (by decide) (by decide) N1 gy (g := (mkF m 22 #[vR a, vR y, vI 32, vI 0] [(.int 33), (.int 32), (.ref y), (.int 0), (.ref b)])) rfl (by rw [hml]; rfl) rfl (hb hby d29_22) (by decide) (W := 0) (Nat.le_of_eq rfl) (by decide)
  have O5 := O.keep Kc5 (allS (P := fun x => n0 ≤ x) gy all0)
  have Kp5 : Keep h0 h5 [y] := (Keep.refl h0 [y]).trans Kc5 (allS (P := fun x => x ∈ [y] ∨ h0.size ≤ x) (Or.inl (List.mem_of_getElem? (i := 0) rfl)) (all0 (P := fun x => x ∈ [y] ∨ h0.size ≤ x)))
  obtain ⟨fs, hr, hrun, hended, hW, hsame⟩ := X5.leave (v := none) (fun _ => rfl)
  refine ⟨_, _, castTop ef ?_, hrun, hended, _, _, rfl, ?_, ⟨_, rfl⟩, hW, hsame.mono (by decide) (by decide)⟩
  · show OwG p e below s₁ m 0 #[vR a, vR y, vI 32, vI 0] [] _
    refine XS.aloadN X0.here hx rfl (hb hby d29_0) rfl rfl ?_
    show OwG p e below s₁ m 1 #[vR a, vR y, vI 32, vI 0] [(.ref a)] _
    refine st1.trans ?_
    show OwG p e below T1 m 4 #[vR a, vR y, vI 32, vI 0] [(.int 0)] _
    refine XS.iloadN X1.here hx rfl (hb hby d29_4) rfl ?_
    refine XS.icmpNo X1.here hx rfl (hb hby d29_5) rfl (teq (by decide : (0 : Int32) = (0 : Int32))).2 ?_
    refine XS.aloadN X1.here hx rfl (hb hby d29_8) rfl rfl ?_
    show OwG p e below T1 m 9 #[vR a, vR y, vI 32, vI 0] [(.ref a)] _
    refine st2 _ ?_
    show OwG p e below T2 m 12 #[vR a, vR y, vI 32, vI 0] [(.ref b)] _
    refine XS.iconst X2.here hx rfl (hb hby d29_12) ?_
    refine XS.aloadN X2.here hx rfl (hb hby d29_13) rfl rfl ?_
    refine XS.iloadN X2.here hx rfl (hb hby d29_14) rfl ?_
    refine XS.iloadN X2.here hx rfl (hb hby d29_15) rfl ?_
    refine XS.ishl X2.here hx rfl (hb hby d29_16) rfl ?_
    refine XS.aloadN X2.here hx rfl (hb hby d29_17) rfl rfl ?_
    show OwG p e below T2 m 18 #[vR a, vR y, vI 32, vI 0] [(.ref a), (.int 32), (.ref y), (.int 0), (.ref b)] _
    refine st3 _ ?_
    show OwG p e below T3 m 21 #[vR a, vR y, vI 32, vI 0] [(.ref b), (.int 32), (.ref y), (.int 0), (.ref b)] _
    refine X3.arraylength hx (by rw [e3]; exact Ar4.1) (State.isArrayOf_alike hZ.alike Ar4.2.1) (g := (mkF m 21 #[vR a, vR y, vI 32, vI 0] [(.ref b), (.int 32), (.ref y), (.int 0), (.ref b)])) rfl rfl (hb hby d29_21) _ ?_
    rw [len_of Sz4 Nn4]
    show OwG p e below T3 m 22 #[vR a, vR y, vI 32, vI 0] [(.int 33), (.int 32), (.ref y), (.int 0), (.ref b)] _
    refine st5 _ ?_
    show OwG p e below T5 m 25 #[vR a, vR y, vI 32, vI 0] [] _
    refine XS.goto X5.here hx rfl (pc0 := 25) (pc' := 43) rfl (hb hby d29_25) (by decide) (by decide) ?_
    show OwG p e below T5 m 43 #[vR a, vR y, vI 32, vI 0] [] _
    exact X5.returnOut hx Bd.returns (hb hby d29_43) hr
  · have eF : (T5.setFrames fs).heap = h5 := e5
    exact ⟨N5, rfl, by rw [eF]; exact ⟨O5, Kp5, V5⟩⟩
theorem rmPut_70_32_33 (l : Launch) (Z : State) (a0 : Array Value) (hw : OwHw Z a0) (ws : List Jvm.Cond) (n0 : Nat) (h0 : Heap) (O : Old Z n0 h0) (qqR qqN qqK qqU qqS qqE : Addr) (qqI : Int32) (qqM : Addr) (W : OwW Z qqR qqN qqK qqU qqS qqE qqI qqM) (sb b : Addr) (k : ClassId) (a ab : Addr) (ak : ClassId) (Eb : Exa Z h0 sb zs19) (Gv : Fld Z h0 sb zs14 "value" "[B" (.ref b)) (Gc : Fld Z h0 sb zs14 "coder" "B" (.int 0)) (Gn : Fld Z h0 sb zs14 "count" "I" (.int 32)) (Vbx : owB Z h0 b k (70 : Int32)) (Ess : Exa Z h0 a zs18) (Fcs : Fld Z h0 a zs18 "coder" "B" (.int 0)) (Fvs : Fld Z h0 a zs18 "value" "[B" (.ref ab)) (Vbs : owB Z h0 ab ak (33 : Int32)) (gb : n0 ≤ b) :
    OwCon l yy16 j24 3 none ws (rM 2 0 0 33) #[(.ref sb), (.int 32), (.ref a)] Z h0 (OwP (fun v h => v = none ∧ Old Z n0 h ∧ Keep h0 h [b] ∧ owB Z h b k (70 : Int32)) n0) := by
  refine MetFree.of_bodySF (plainFor_of_name owpn27) hisR ?_
  intro p e s m args below meth c s₁ Bd hml0 hP hK
  have hi := @own_hi Z a0 hw
  obtain ⟨rfl, hZ, hh⟩ := hP
  have hx := Bd.exec
  have hby := Bd.bytes
  have hml : c.maxLocals = 3 := hml0
  have hown := findClass_of_methodNamed Bd.named
  have X0 : Stand p l e (rM 2 0 0 33) s m #[(.ref sb), (.int 32), (.ref a)] below meth c s₁ [] 0 0 := Stand.of_body Bd
  have e0 : s₁.heap = h0 := by rw [← hh, Bd.state]; rfl
  have N0 := Fr.nil n0
  have ef : entryFrame m #[(.ref sb), (.int 32), (.ref a)] 3 = mkF m 0 #[.val (.ref sb), .val (.int 32), .val (.ref a)] [] := by first | (simp [entryFrame, mkF, argsToLocals, Value.category]; done) | rfl
  obtain ⟨cq1, kq1, q1a, q1b, q1c⟩ := isOf hZ e0 Eb
  obtain ⟨_, _, ⟨T1, L1, k1, n1⟩, -, X1, ⟨Lc1, hQ1, l1, y1, z1⟩, st1⟩ := X0.virtualBack hx (y := yy12) (z := yy12) hown (mvT hZ (hi 223 rfl)) (own_decl (mvT hZ (hi 224 rfl)) (mvT hZ (hi 227 rfl))) (notFace_of_selects (args := #[]) (mvT hZ (hi 226 rfl))) (mvT hZ (hi 226 rfl)) (mvT hZ (hi 224 rfl)) (by decide) (backOf (W := 0) (rmInf l Z a0 hw [] n0 h0 O qqR qqN qqK qqU qqS qqE qqI qqM W sb a Gc Ess Fcs) hZ (hi 227 rfl) (hi 179 rfl) (by decide) (by decide)) q1a q1c (g := (mkF m 2 #[vR sb, vI 32, vR a] [(.ref a), (.ref sb)])) rfl (by rw [hml]; rfl) (Steps.refl _) (argsL := [(.ref a)]) (rest := []) (lenOf owpd3 rfl) rfl (Nat.le_of_eq rfl) (hb hby d27_2) (fun _ _ => ⟨rfl, e0, (by decide : 0 + 0 ≤ _), (by decide : 0 + 0 ≤ _)⟩)
  dsimp only [Pt.U, Pt.locs, Pt.cells, Pt.slots] at X1 l1 y1 z1 st1 hQ1
  subst l1 y1 z1
  obtain ⟨rfl, Nq1, e1⟩ := hQ1
  have N1 := Fr.app N0 Nq1
  obtain ⟨T2, X2, e2, st2⟩ := getF X1 hx hZ hown (host := "") (Or.inl (hi 183 rfl)) Via.refl e1 Gv (g := (mkF m 7 #[vR sb, vI 32, vR a] [(.ref sb), (.ref a)])) rfl rfl (hb hby d27_7)
  obtain ⟨T3, X3, e3, st3⟩ := getF X2 hx hZ hown (host := "") (Or.inl (hi 185 rfl)) Via.refl e2 Gc (g := (mkF m 12 #[vR sb, vI 32, vR a] [(.ref sb), (.int 32), (.ref b), (.ref a)])) rfl rfl (hb hby d27_12)
  obtain ⟨cq4, kq4, q4a, q4b, q4c⟩ := isOf hZ e3 Ess
  obtain ⟨_, _, ⟨T4, L4, k4, n4⟩, -, X4, ⟨Lc4, hQ4, l4, y4, z4⟩, st4⟩ := X3.virtualBack hx (y := yy24) (z := yy24) hown (mvT hZ (hi 229 rfl)) (mvT hZ (hi 230 rfl)) (notFace_of_selects (args := #[]) (mvT hZ (hi 232 rfl))) (mvT hZ (hi 232 rfl)) (mvT hZ (hi 231 rfl)) (by decide) (backOf (W := 0) (rmGb_33_70_32 l Z a0 hw [] n0 h0 O qqR qqN qqK qqU qqS qqE qqI qqM W a ab ak b k Ess Fcs Fvs Vbs Vbx gb) hZ (hi 233 rfl) (hi 81 rfl) (by decide) (by decide)) q4a q4c (g := (mkF m 15 #[vR sb, vI 32, vR a] [(.int 0), (.int 32), (.ref b), (.ref a)])) rfl (by rw [hml]; rfl) (Steps.refl _) (argsL := [(.ref b), (.int 32), (.int 0)]) (rest := []) (lenOf owpd4 rfl) rfl (Nat.le_of_eq rfl) (hb hby d27_15) (fun _ _ => ⟨rfl, e3, (by decide : 0 + 0 ≤ _), (by decide : 0 + 0 ≤ _)⟩)
  dsimp only [Pt.U, Pt.locs, Pt.cells, Pt.slots] at X4 l4 y4 z4 st4 hQ4
  subst l4 y4 z4
  obtain ⟨Nq4, hP4⟩ := hQ4
  have N4 := Fr.app N1 Nq4
  have ee4 : T4.heap = T4.heap := rfl
  obtain ⟨rfl, Oc4, Kc4, Vb4⟩ := hP4
  have Kp4 : Keep h0 T4.heap [b] := (Keep.refl h0 [b]).trans Kc4 (allS (P := fun x => x ∈ [b] ∨ h0.size ≤ x) (Or.inl (List.mem_of_getElem? (i := 0) rfl)) (all0 (P := fun x => x ∈ [b] ∨ h0.size ≤ x)))
  obtain ⟨fs, hr, hrun, hended, hW, hsame⟩ := X4.leave (v := none) (fun _ => rfl)
  refine ⟨_, _, castTop ef ?_, hrun, hended, _, _, rfl, ?_, ⟨_, rfl⟩, hW, hsame.mono (by decide) (by decide)⟩
  · show OwG p e below s₁ m 0 #[vR sb, vI 32, vR a] [] _
    refine XS.aloadN X0.here hx rfl (hb hby d27_0) rfl rfl ?_
    show OwG p e below s₁ m 1 #[vR sb, vI 32, vR a] [(.ref sb)] _
    refine XS.aloadN X0.here hx rfl (hb hby d27_1) rfl rfl ?_
    show OwG p e below s₁ m 2 #[vR sb, vI 32, vR a] [(.ref a), (.ref sb)] _
    refine st1.trans ?_
    show OwG p e below T1 m 5 #[vR sb, vI 32, vR a] [] _
    refine XS.aloadN X1.here hx rfl (hb hby d27_5) rfl rfl ?_
    refine XS.aloadN X1.here hx rfl (hb hby d27_6) rfl rfl ?_
    show OwG p e below T1 m 7 #[vR sb, vI 32, vR a] [(.ref sb), (.ref a)] _
    refine st2 _ ?_
    show OwG p e below T2 m 10 #[vR sb, vI 32, vR a] [(.ref b), (.ref a)] _
    refine XS.iloadN X2.here hx rfl (hb hby d27_10) rfl ?_
    refine XS.aloadN X2.here hx rfl (hb hby d27_11) rfl rfl ?_
    show OwG p e below T2 m 12 #[vR sb, vI 32, vR a] [(.ref sb), (.int 32), (.ref b), (.ref a)] _
    refine st3 _ ?_
    show OwG p e below T3 m 15 #[vR sb, vI 32, vR a] [(.int 0), (.int 32), (.ref b), (.ref a)] _
    refine st4.trans ?_
    show OwG p e below T4 m 18 #[vR sb, vI 32, vR a] [] _
    exact X4.returnOut hx Bd.returns (hb hby d27_18) hr
  · have eF : (T4.setFrames fs).heap = T4.heap := ee4
    exact ⟨N4, rfl, by rw [eF]; exact ⟨Oc4, Kp4, Vb4⟩⟩
theorem rmApA_34_32_33 (l : Launch) (Z : State) (a0 : Array Value) (hw : OwHw Z a0) (ws : List Jvm.Cond) (n0 : Nat) (h0 : Heap) (O : Old Z n0 h0) (qqR qqN qqK qqU qqS qqE : Addr) (qqI : Int32) (qqM : Addr) (W : OwW Z qqR qqN qqK qqU qqS qqE qqI qqM) (sb b : Addr) (k : ClassId) (a ab : Addr) (ak : ClassId) (Eb : Exa Z h0 sb zs19) (Gv : Fld Z h0 sb zs14 "value" "[B" (.ref b)) (Gc : Fld Z h0 sb zs14 "coder" "B" (.int 0)) (Gn : Fld Z h0 sb zs14 "count" "I" (.int 32)) (Vbx : owB Z h0 b k (34 : Int32)) (Ess : Exa Z h0 a zs18) (Fcs : Fld Z h0 a zs18 "coder" "B" (.int 0)) (Fvs : Fld Z h0 a zs18 "value" "[B" (.ref ab)) (Vbs : owB Z h0 ab ak (33 : Int32)) (gs : n0 ≤ sb) (gb : n0 ≤ b) :
    OwCon l yy9 j29 3 (some (.object zs14)) ws (rM 4 1 70 62) #[(.ref sb), (.ref a)] Z h0 (OwP (fun v h => v = some (.ref sb) ∧ Old Z n0 h ∧ Keep h0 h [sb] ∧ ∃ (b' : Addr) (k' : ClassId), h0.size ≤ b' ∧ Exa Z h sb zs19 ∧ Fld Z h sb zs14 "value" "[B" (.ref b') ∧ Fld Z h sb zs14 "coder" "B" (.int 0) ∧ Fld Z h sb zs14 "count" "I" (.int 65) ∧ owB Z h b' k' (70 : Int32)) n0) := by
  refine MetFree.of_bodySF (plainFor_of_name owpn23) hisR ?_
  intro p e s m args below meth c s₁ Bd hml0 hP hK
  have hi := @own_hi Z a0 hw
  obtain ⟨rfl, hZ, hh⟩ := hP
  have hx := Bd.exec
  have hby := Bd.bytes
  have hml : c.maxLocals = 3 := hml0
  have hown := findClass_of_methodNamed Bd.named
  have X0 : Stand p l e (rM 4 1 70 62) s m #[(.ref sb), (.ref a)] below meth c s₁ [] 0 0 := Stand.of_body Bd
  have e0 : s₁.heap = h0 := by rw [← hh, Bd.state]; rfl
  have N0 := Fr.nil n0
  have ef : entryFrame m #[(.ref sb), (.ref a)] 3 = mkF m 0 #[.val (.ref sb), .val (.ref a), .unset] [] := by first | (simp [entryFrame, mkF, argsToLocals, Value.category]; done) | rfl
  obtain ⟨cq1, kq1, q1a, q1b, q1c⟩ := isOf hZ e0 Ess
  obtain ⟨_, _, ⟨T1, L1, k1, n1⟩, -, X1, ⟨Lc1, hQ1, l1, y1, z1⟩, st1⟩ := X0.virtualBack hx (y := yy25) (z := yy25) hown (mvT hZ (hi 198 rfl)) (mvT hZ (hi 199 rfl)) (notFace_of_selects (args := #[]) (mvT hZ (hi 201 rfl))) (mvT hZ (hi 201 rfl)) (mvT hZ (hi 200 rfl)) (by decide) (backOf (W := 0) (rmLen33 l Z a0 hw [] n0 h0 O qqR qqN qqK qqU qqS qqE qqI qqM W a ab ak Ess Fcs Fvs Vbs) hZ (hi 202 rfl) (hi 81 rfl) (by decide) (by decide)) q1a q1c (g := (mkF m 10 #[vR sb, vR a, .unset] [(.ref a)])) rfl (by rw [hml]; rfl) (Steps.refl _) (argsL := []) (rest := []) (lenOf owpd5 rfl) rfl (Nat.le_of_eq rfl) (hb hby d23_10) (fun _ _ => ⟨rfl, e0, (by decide : 0 + 0 ≤ _), (by decide : 0 + 0 ≤ _)⟩)
  dsimp only [Pt.U, Pt.locs, Pt.cells, Pt.slots] at X1 l1 y1 z1 st1 hQ1
  subst l1 y1 z1
  obtain ⟨rfl, Nq1, e1⟩ := hQ1
  have N1 := Fr.app N0 Nq1
  obtain ⟨T2, X2, e2, st2⟩ := getF X1 hx hZ hown (host := "") (Or.inl (hi 211 rfl)) Via.refl e1 Gn (g := (mkF m 16 #[vR sb, vR a, vI 33] [(.ref sb), (.ref sb)])) rfl rfl (hb hby d23_16)
  obtain ⟨cq3, kq3, q3a, q3b, q3c⟩ := isOf hZ e2 Eb
  obtain ⟨_, _, ⟨T3, L3, k3, n3⟩, -, X3, ⟨Lc3, hQ3, l3, y3, z3⟩, st3⟩ := X2.virtualBack hx (y := yy10) (z := yy10) hown (mvT hZ (hi 213 rfl)) (own_decl (mvT hZ (hi 214 rfl)) (mvT hZ (hi 217 rfl))) (notFace_of_selects (args := #[]) (mvT hZ (hi 216 rfl))) (mvT hZ (hi 216 rfl)) (mvT hZ (hi 214 rfl)) (by decide) (backOf (W := 0) (rmEns_34_65 l Z a0 hw [] n0 h0 O qqR qqN qqK qqU qqS qqE qqI qqM W sb b k Eb Gv Gc Gn Vbx gs) hZ (hi 217 rfl) (hi 179 rfl) (by decide) (by decide)) q3a q3c (g := (mkF m 21 #[vR sb, vR a, vI 33] [(.int 65), (.ref sb)])) rfl (by rw [hml]; rfl) (Steps.refl _) (argsL := [(.int 65)]) (rest := []) (lenOf owpd1 rfl) rfl (Nat.le_of_eq rfl) (hb hby d23_21) (fun _ _ => ⟨rfl, e2, (by decide : 0 + 1 ≤ _), (by decide : 0 + 70 ≤ _)⟩)
  dsimp only [Pt.U, Pt.locs, Pt.cells, Pt.slots] at X3 l3 y3 z3 st3 hQ3
  subst l3 y3 z3
  obtain ⟨Nq3, hP3⟩ := hQ3
  have N3 := Fr.app N1 Nq3
  have ee3 : T3.heap = T3.heap := rfl
  obtain ⟨rfl, Oc3, Kc3, bb3, kk3, hb3, Ec3, Gv3, Gc3, Gn3, Vb3⟩ := hP3
  have ne_sb_3 : sb ≠ bb3 := Nat.ne_of_lt (Nat.lt_of_lt_of_le Eb.lt hb3)
  have ne_b_3 : b ≠ bb3 := Nat.ne_of_lt (Nat.lt_of_lt_of_le Vbx.lt hb3)
  have ne_a_3 : a ≠ bb3 := Nat.ne_of_lt (Nat.lt_of_lt_of_le Ess.lt hb3)
  have ne_ab_3 : ab ≠ bb3 := Nat.ne_of_lt (Nat.lt_of_lt_of_le Vbs.lt hb3)
  have gx3 : n0 ≤ bb3 := Nat.le_trans (Nat.le_trans (Nat.le_of_eq O.1.symm) O.2.1) hb3
  have sz3 : h0.size ≤ bb3 := Nat.le_trans (Keep.refl h0 [sb]).1 hb3
  have Kp3 : Keep h0 T3.heap [sb] := (Keep.refl h0 [sb]).trans Kc3 (allS (P := fun x => x ∈ [sb] ∨ h0.size ≤ x) (Or.inl (List.mem_of_getElem? (i := 0) rfl)) (all0 (P := fun x => x ∈ [sb] ∨ h0.size ≤ x)))
  obtain ⟨T4, X4, e4, st4⟩ := getF X3 hx hZ hown (host := "") (Or.inl (hi 211 rfl)) Via.refl ee3 Gn3 (g := (mkF m 26 #[vR sb, vR a, vI 33] [(.ref sb), (.ref sb)])) rfl rfl (hb hby d23_26)
  have fa5 := (Ess.keep Kc3)
  have fa6 := (Fcs.keep Kc3 (ninS (Exa.ne fa5 Ec3 (by decide)) nin0))
  have fa7 := (Fvs.keep Kc3 (ninS (Exa.ne fa5 Ec3 (by decide)) nin0))
  have nq8 := owB.ne Vbs Eb (hi 170 rfl)
  have fa9 := (Vbs.keep Kc3 (ninS nq8 nin0))
  obtain ⟨cq10, kq10, q10a, q10b, q10c⟩ := isOf hZ e4 Ec3
  obtain ⟨_, _, ⟨T10, L10, k10, n10⟩, -, X10, ⟨Lc10, hQ10, l10, y10, z10⟩, st10⟩ := X4.virtualBack hx (y := yy16) (z := yy16) hown (mvT hZ (hi 218 rfl)) (own_decl (mvT hZ (hi 219 rfl)) (mvT hZ (hi 222 rfl))) (notFace_of_selects (args := #[]) (mvT hZ (hi 221 rfl))) (mvT hZ (hi 221 rfl)) (mvT hZ (hi 219 rfl)) (by decide) (backOf (W := 0) (rmPut_70_32_33 l Z a0 hw [] n0 T3.heap Oc3 qqR qqN qqK qqU qqS qqE qqI qqM W sb bb3 kk3 a ab ak Ec3 Gv3 Gc3 Gn3 Vb3 fa5 fa6 fa7 fa9 gx3) hZ (hi 222 rfl) (hi 179 rfl) (by decide) (by decide)) q10a q10c (g := (mkF m 30 #[vR sb, vR a, vI 33] [(.ref a), (.int 32), (.ref sb)])) rfl (by rw [hml]; rfl) (Steps.refl _) (argsL := [(.int 32), (.ref a)]) (rest := []) (lenOf owpd6 rfl) rfl (Nat.le_of_eq rfl) (hb hby d23_30) (fun _ _ => ⟨rfl, e4, (by decide : 1 + 0 ≤ _), (by decide : 70 + 0 ≤ _)⟩)
  dsimp only [Pt.U, Pt.locs, Pt.cells, Pt.slots] at X10 l10 y10 z10 st10 hQ10
  subst l10 y10 z10
  obtain ⟨Nq10, hP10⟩ := hQ10
  have N10 := Fr.app N3 Nq10
  have ee10 : T10.heap = T10.heap := rfl
  obtain ⟨rfl, Oc10, Kc10, Vb10⟩ := hP10
  have Kp10 : Keep h0 T10.heap [sb] := Kp3.trans Kc10 (allS (P := fun x => x ∈ [sb] ∨ h0.size ≤ x) (Or.inr sz3) (all0 (P := fun x => x ∈ [sb] ∨ h0.size ≤ x)))
  have fa11 := (Gn3.keep Kc10 (ninS ne_sb_3 nin0))
  obtain ⟨T12, X12, e12, st12⟩ := getF X10 hx hZ hown (host := "") (Or.inl (hi 211 rfl)) Via.refl ee10 fa11 (g := (mkF m 35 #[vR sb, vR a, vI 33] [(.ref sb), (.ref sb)])) rfl rfl (hb hby d23_35)
  have fa13 := (Ec3.keep Kc10)
  obtain ⟨T14, h14, X14, e14, W14, st14⟩ := putF X12 hx hZ hown (host := "") (Or.inl (hi 211 rfl)) Via.refl e12 fa11 fa13 (Or.inl (hi 212 rfl)) (hi 170 rfl) (ty := .int) (by decide) rfl rfl (g := (mkF m 40 #[vR sb, vR a, vI 33] [(.int 65), (.ref sb)])) rfl rfl (hb hby d23_40)
  have Fw14 := fa11.same W14
  have N14 := Fr.snoc X14 N10 gs
  have O14 := Oc10.wr W14 gs
  have Kp14 : Keep h0 h14 [sb] := Kp10.wr W14 (Or.inl (List.mem_of_getElem? (i := 0) rfl))
  have fa15 := (fa13.wr W14)
  have fa16 := ((Gv3.keep Kc10 (ninS ne_sb_3 nin0)).other W14 (Or.inr (slot_ne (Or.inl (hi 184 rfl)) (Or.inl (hi 212 rfl)) (by decide) (t := (.array .byte)) (t' := .int) (by decide) (by decide))))
  have fa17 := ((Gc3.keep Kc10 (ninS ne_sb_3 nin0)).other W14 (Or.inr (slot_ne (Or.inl (hi 186 rfl)) (Or.inl (hi 212 rfl)) (by decide) (t := .byte) (t' := .int) (by decide) (by decide))))
  have fa18 := (Vb10.other W14 (Ne.symm ne_sb_3))
  obtain ⟨fs, hr, hrun, hended, hW, hsame⟩ := X14.leave (v := some (.ref sb)) (fun h => by rw [Bd.returns] at h; cases h)
  refine ⟨_, _, castTop ef ?_, hrun, hended, _, _, rfl, ?_, ⟨_, rfl⟩, hW, hsame.mono (by decide) (by decide)⟩
  · show OwG p e below s₁ m 0 #[vR sb, vR a, .unset] [] _
    refine XS.aloadN X0.here hx rfl (hb hby d23_0) rfl rfl ?_
    show OwG p e below s₁ m 1 #[vR sb, vR a, .unset] [(.ref a)] _
    refine XS.ifnonnullYes X0.here hx rfl (pc0 := 1) (pc' := 9) rfl (hb hby d23_1) rfl (by decide) (by decide) ?_
    refine XS.aloadN X0.here hx rfl (hb hby d23_9) rfl rfl ?_
    show OwG p e below s₁ m 10 #[vR sb, vR a, .unset] [(.ref a)] _
    refine st1.trans ?_
    show OwG p e below T1 m 13 #[vR sb, vR a, .unset] [(.int 33)] _
    refine XS.istoreN X1.here hx rfl (hb hby d23_13) rfl (l' := #[vR sb, vR a, vI 33]) rfl ?_
    refine XS.aloadN X1.here hx rfl (hb hby d23_14) rfl rfl ?_
    refine XS.aloadN X1.here hx rfl (hb hby d23_15) rfl rfl ?_
    show OwG p e below T1 m 16 #[vR sb, vR a, vI 33] [(.ref sb), (.ref sb)] _
    refine st2 _ ?_
    show OwG p e below T2 m 19 #[vR sb, vR a, vI 33] [(.int 32), (.ref sb)] _
    refine XS.iloadN X2.here hx rfl (hb hby d23_19) rfl ?_
    refine XS.iadd X2.here hx rfl (hb hby d23_20) rfl ?_
    show OwG p e below T2 m 21 #[vR sb, vR a, vI 33] [(.int 65), (.ref sb)] _
    refine st3.trans ?_
    show OwG p e below T3 m 24 #[vR sb, vR a, vI 33] [] _
    refine XS.aloadN X3.here hx rfl (hb hby d23_24) rfl rfl ?_
    refine XS.aloadN X3.here hx rfl (hb hby d23_25) rfl rfl ?_
    show OwG p e below T3 m 26 #[vR sb, vR a, vI 33] [(.ref sb), (.ref sb)] _
    refine st4 _ ?_
    show OwG p e below T4 m 29 #[vR sb, vR a, vI 33] [(.int 32), (.ref sb)] _
    refine XS.aloadN X4.here hx rfl (hb hby d23_29) rfl rfl ?_
    show OwG p e below T4 m 30 #[vR sb, vR a, vI 33] [(.ref a), (.int 32), (.ref sb)] _
    refine st10.trans ?_
    show OwG p e below T10 m 33 #[vR sb, vR a, vI 33] [] _
    refine XS.aloadN X10.here hx rfl (hb hby d23_33) rfl rfl ?_
    refine XS.dup X10.here hx rfl (hb hby d23_34) rfl rfl ?_
    show OwG p e below T10 m 35 #[vR sb, vR a, vI 33] [(.ref sb), (.ref sb)] _
    refine st12 _ ?_
    show OwG p e below T12 m 38 #[vR sb, vR a, vI 33] [(.int 32), (.ref sb)] _
    refine XS.iloadN X12.here hx rfl (hb hby d23_38) rfl ?_
    refine XS.iadd X12.here hx rfl (hb hby d23_39) rfl ?_
    show OwG p e below T12 m 40 #[vR sb, vR a, vI 33] [(.int 65), (.ref sb)] _
    refine st14 _ ?_
    show OwG p e below T14 m 43 #[vR sb, vR a, vI 33] [] _
    refine XS.aloadN X14.here hx rfl (hb hby d23_43) rfl rfl ?_
    show OwG p e below T14 m 44 #[vR sb, vR a, vI 33] [(.ref sb)] _
    exact retOut X14 hx Bd.returns rfl (Or.inr (Or.inr (Or.inr (Or.inr ⟨rfl, rfl, rfl⟩)))) (hb hby d23_44) hr
  · have eF : (T14.setFrames fs).heap = h14 := e14
    exact ⟨N14, rfl, by rw [eF]; exact ⟨O14, Kp14, bb3, kk3, sz3, fa15, fa16, fa17, Fw14, fa18⟩⟩
theorem rmApS_34_32_33 (l : Launch) (Z : State) (a0 : Array Value) (hw : OwHw Z a0) (ws : List Jvm.Cond) (n0 : Nat) (h0 : Heap) (O : Old Z n0 h0) (qqR qqN qqK qqU qqS qqE : Addr) (qqI : Int32) (qqM : Addr) (W : OwW Z qqR qqN qqK qqU qqS qqE qqI qqM) (sb b : Addr) (k : ClassId) (a ab : Addr) (ak : ClassId) (Eb : Exa Z h0 sb zs19) (Gv : Fld Z h0 sb zs14 "value" "[B" (.ref b)) (Gc : Fld Z h0 sb zs14 "coder" "B" (.int 0)) (Gn : Fld Z h0 sb zs14 "count" "I" (.int 32)) (Vbx : owB Z h0 b k (34 : Int32)) (Ess : Exa Z h0 a zs18) (Fcs : Fld Z h0 a zs18 "coder" "B" (.int 0)) (Fvs : Fld Z h0 a zs18 "value" "[B" (.ref ab)) (Vbs : owB Z h0 ab ak (33 : Int32)) (gs : n0 ≤ sb) (gb : n0 ≤ b) :
    OwCon l yy27 j38 2 (some (.object zs19)) ws (rM 5 1 70 76) #[(.ref sb), (.ref a)] Z h0 (OwP (fun v h => v = some (.ref sb) ∧ Old Z n0 h ∧ Keep h0 h [sb] ∧ ∃ (b' : Addr) (k' : ClassId), h0.size ≤ b' ∧ Exa Z h sb zs19 ∧ Fld Z h sb zs14 "value" "[B" (.ref b') ∧ Fld Z h sb zs14 "coder" "B" (.int 0) ∧ Fld Z h sb zs14 "count" "I" (.int 65) ∧ owB Z h b' k' (70 : Int32)) n0) := by
  refine MetFree.of_bodySF (plainFor_of_name owpn22) hisR ?_
  intro p e s m args below meth c s₁ Bd hml0 hP hK
  have hi := @own_hi Z a0 hw
  obtain ⟨rfl, hZ, hh⟩ := hP
  have hx := Bd.exec
  have hby := Bd.bytes
  have hml : c.maxLocals = 2 := hml0
  have hown := findClass_of_methodNamed Bd.named
  have X0 : Stand p l e (rM 5 1 70 76) s m #[(.ref sb), (.ref a)] below meth c s₁ [] 0 0 := Stand.of_body Bd
  have e0 : s₁.heap = h0 := by rw [← hh, Bd.state]; rfl
  have N0 := Fr.nil n0
  have ef : entryFrame m #[(.ref sb), (.ref a)] 2 = mkF m 0 #[.val (.ref sb), .val (.ref a)] [] := by first | (simp [entryFrame, mkF, argsToLocals, Value.category]; done) | rfl
  obtain ⟨_, _, ⟨T1, L1, k1, n1⟩, -, X1, ⟨Lc1, hQ1, l1, y1, z1⟩, st1⟩ := superBack X0 hx hZ (y := yy9) hown (hi 193 rfl) (own_same (hi 216 rfl) rfl (by decide) (hi 196 rfl)) (hi 194 rfl) (hi 195 rfl) (by decide) (backOf (W := 0) (rmApA_34_32_33 l Z a0 hw [] n0 h0 O qqR qqN qqK qqU qqS qqE qqI qqM W sb b k a ab ak Eb Gv Gc Gn Vbx Ess Fcs Fvs Vbs gs gb) hZ (hi 197 rfl) (hi 179 rfl) (by decide) (by decide)) e0 (Ins.self Eb) (g := (mkF m 2 #[vR sb, vR a] [(.ref a), (.ref sb)])) rfl (by rw [hml]; rfl) (hi 197 rfl) (argsL := [(.ref a)]) (rest := []) (lenOf owpd7 rfl) rfl (Nat.le_of_eq rfl) (hb hby d22_2) (fun _ _ => ⟨rfl, e0, (by decide : 0 + 1 ≤ _), (by decide : 0 + 70 ≤ _)⟩)
  dsimp only [Pt.U, Pt.locs, Pt.cells, Pt.slots] at X1 l1 y1 z1 st1 hQ1
  subst l1 y1 z1
  obtain ⟨Nq1, hP1⟩ := hQ1
  have N1 := Fr.app N0 Nq1
  have ee1 : T1.heap = T1.heap := rfl
  obtain ⟨rfl, Oc1, Kc1, bb1, kk1, hb1, Ec1, Gv1, Gc1, Gn1, Vb1⟩ := hP1
  have ne_sb_1 : sb ≠ bb1 := Nat.ne_of_lt (Nat.lt_of_lt_of_le Eb.lt hb1)
  have ne_b_1 : b ≠ bb1 := Nat.ne_of_lt (Nat.lt_of_lt_of_le Vbx.lt hb1)
  have ne_a_1 : a ≠ bb1 := Nat.ne_of_lt (Nat.lt_of_lt_of_le Ess.lt hb1)
  have ne_ab_1 : ab ≠ bb1 := Nat.ne_of_lt (Nat.lt_of_lt_of_le Vbs.lt hb1)
  have gx1 : n0 ≤ bb1 := Nat.le_trans (Nat.le_trans (Nat.le_of_eq O.1.symm) O.2.1) hb1
  have sz1 : h0.size ≤ bb1 := Nat.le_trans (Keep.refl h0 [sb]).1 hb1
  have Kp1 : Keep h0 T1.heap [sb] := (Keep.refl h0 [sb]).trans Kc1 (allS (P := fun x => x ∈ [sb] ∨ h0.size ≤ x) (Or.inl (List.mem_of_getElem? (i := 0) rfl)) (all0 (P := fun x => x ∈ [sb] ∨ h0.size ≤ x)))
  obtain ⟨fs, hr, hrun, hended, hW, hsame⟩ := X1.leave (v := some (.ref sb)) (fun h => by rw [Bd.returns] at h; cases h)
  refine ⟨_, _, castTop ef ?_, hrun, hended, _, _, rfl, ?_, ⟨_, rfl⟩, hW, hsame.mono (by decide) (by decide)⟩
  · show OwG p e below s₁ m 0 #[vR sb, vR a] [] _
    refine XS.aloadN X0.here hx rfl (hb hby d22_0) rfl rfl ?_
    show OwG p e below s₁ m 1 #[vR sb, vR a] [(.ref sb)] _
    refine XS.aloadN X0.here hx rfl (hb hby d22_1) rfl rfl ?_
    show OwG p e below s₁ m 2 #[vR sb, vR a] [(.ref a), (.ref sb)] _
    refine st1.trans ?_
    show OwG p e below T1 m 5 #[vR sb, vR a] [(.ref sb)] _
    refine XS.pop X1.here hx rfl (hb hby d22_5) rfl rfl ?_
    refine XS.aloadN X1.here hx rfl (hb hby d22_6) rfl rfl ?_
    show OwG p e below T1 m 7 #[vR sb, vR a] [(.ref sb)] _
    exact retOut X1 hx Bd.returns rfl (Or.inr (Or.inr (Or.inr (Or.inr ⟨rfl, rfl, rfl⟩)))) (hb hby d22_7) hr
  · have eF : (T1.setFrames fs).heap = T1.heap := ee1
    exact ⟨N1, rfl, by rw [eF]; exact ⟨Oc1, Kp1, bb1, kk1, sz1, Ec1, Gv1, Gc1, Gn1, Vb1⟩⟩
theorem rmMax_4_72 (l : Launch) (Z : State) (a0 : Array Value) (hw : OwHw Z a0) (ws : List Jvm.Cond) (n0 : Nat) (h0 : Heap) (O : Old Z n0 h0) (qqR qqN qqK qqU qqS qqE : Addr) (qqI : Int32) (qqM : Addr) (W : OwW Z qqR qqN qqK qqU qqS qqE qqI qqM)  :
    OwCon l yy19 j12 2 (some .int) ws (rM 0 0 0 0) #[(.int 4), (.int 72)] Z h0 (OwQ (some (.int 72)) h0 n0) := by
  refine MetFree.of_bodySF (Jvm.Free.JP.mathPlain rfl (by decide +kernel)) hisR ?_
  intro p e s m args below meth c s₁ Bd hml0 hP hK
  have hi := @own_hi Z a0 hw
  obtain ⟨rfl, hZ, hh⟩ := hP
  have hx := Bd.exec
  have hby := Bd.bytes
  have hml : c.maxLocals = 2 := hml0
  have hown := findClass_of_methodNamed Bd.named
  have X0 : Stand p l e (rM 0 0 0 0) s m #[(.int 4), (.int 72)] below meth c s₁ [] 0 0 := Stand.of_body Bd
  have e0 : s₁.heap = h0 := by rw [← hh, Bd.state]; rfl
  have N0 := Fr.nil n0
  have ef : entryFrame m #[(.int 4), (.int 72)] 2 = mkF m 0 #[.val (.int 4), .val (.int 72)] [] := by first | (simp [entryFrame, mkF, argsToLocals, Value.category]; done) | rfl
  obtain ⟨fs, hr, hrun, hended, hW, hsame⟩ := X0.leave (v := some (.int 72)) (fun h => by rw [Bd.returns] at h; cases h)
  refine ⟨_, _, castTop ef ?_, hrun, hended, _, _, rfl, ?_, ⟨_, rfl⟩, hW, hsame.mono (by decide) (by decide)⟩
  · show OwG p e below s₁ m 0 #[vI 4, vI 72] [] _
    refine XS.iloadN X0.here hx rfl (hb hby d32_0) rfl ?_
    show OwG p e below s₁ m 1 #[vI 4, vI 72] [(.int 4)] _
    refine XS.iloadN X0.here hx rfl (hb hby d32_1) rfl ?_
    refine XS.icmpYes X0.here hx rfl (pc0 := 2) (pc' := 9) rfl (hb hby d32_2) rfl (tlt (by decide : (4 : Int32) < (72 : Int32))).1 (by decide) (by decide) ?_
    refine XS.iloadN X0.here hx rfl (hb hby d32_9) rfl ?_
    show OwG p e below s₁ m 10 #[vI 4, vI 72] [(.int 72)] _
    exact retI X0 hx Bd.returns (hb hby d32_10) hr
  · have eF : (s₁.setFrames fs).heap = h0 := e0
    exact ⟨rfl, N0, eF⟩
theorem rmNl_70_4_72 (l : Launch) (Z : State) (a0 : Array Value) (hw : OwHw Z a0) (ws : List Jvm.Cond) (n0 : Nat) (h0 : Heap) (O : Old Z n0 h0) (qqR qqN qqK qqU qqS qqE : Addr) (qqI : Int32) (qqM : Addr) (W : OwW Z qqR qqN qqK qqU qqS qqE qqI qqM)  :
    OwCon l yy47 j16 4 (some .int) ws (rM 1 0 0 14) #[(.int 70), (.int 4), (.int 72)] Z h0 (OwQ (some (.int 142)) h0 n0) := by
  refine MetFree.of_bodySF (plainFor_of_name owpn31) hisR ?_
  intro p e s m args below meth c s₁ Bd hml0 hP hK
  have hi := @own_hi Z a0 hw
  obtain ⟨rfl, hZ, hh⟩ := hP
  have hx := Bd.exec
  have hby := Bd.bytes
  have hml : c.maxLocals = 4 := hml0
  have hown := findClass_of_methodNamed Bd.named
  have X0 : Stand p l e (rM 1 0 0 14) s m #[(.int 70), (.int 4), (.int 72)] below meth c s₁ [] 0 0 := Stand.of_body Bd
  have e0 : s₁.heap = h0 := by rw [← hh, Bd.state]; rfl
  have N0 := Fr.nil n0
  have ef : entryFrame m #[(.int 70), (.int 4), (.int 72)] 4 = mkF m 0 #[.val (.int 70), .val (.int 4), .val (.int 72), .unset] [] := by first | (simp [entryFrame, mkF, argsToLocals, Value.category]; done) | rfl
  obtain ⟨_, _, ⟨T1, L1, k1, n1⟩, -, X1, ⟨Lc1, hQ1, l1, y1, z1⟩, st1⟩ := Jvm.LawKit.callS X0 hx (y := yy19) hown (mvT hZ (hi 247 rfl)) (mvT hZ (hi 248 rfl)) (mvT hZ (hi 249 rfl)) (mvT hZ (hi 250 rfl)) (by decide) (backOf (W := 1) (rmMax_4_72 l Z a0 hw [] n0 h0 O qqR qqN qqK qqU qqS qqE qqI qqM W ) hZ (hi 250 rfl) (hi 249 rfl) (by decide) (by decide)) (g := (mkF m 3 #[vI 70, vI 4, vI 72, .unset] [(.int 72), (.int 4), (.int 70)])) rfl (by rw [hml]; rfl) (argsL := [(.int 4), (.int 72)]) (rest := [(.int 70)]) (lenOf owpd8 rfl) rfl (Nat.le_of_eq rfl) (hb hby d31_3) (fun _ _ => ⟨rfl, e0, (by decide : 0 + 0 ≤ _), (by decide : 0 + 0 ≤ _)⟩)
  dsimp only [Pt.U, Pt.locs, Pt.cells, Pt.slots] at X1 l1 y1 z1 st1 hQ1
  subst l1 y1 z1
  obtain ⟨rfl, Nq1, e1⟩ := hQ1
  have N1 := Fr.app N0 Nq1
  obtain ⟨fs, hr, hrun, hended, hW, hsame⟩ := X1.leave (v := some (.int 142)) (fun h => by rw [Bd.returns] at h; cases h)
  refine ⟨_, _, castTop ef ?_, hrun, hended, _, _, rfl, ?_, ⟨_, rfl⟩, hW, hsame.mono (by decide) (by decide)⟩
  · show OwG p e below s₁ m 0 #[vI 70, vI 4, vI 72, .unset] [] _
    refine XS.iloadN X0.here hx rfl (hb hby d31_0) rfl ?_
    show OwG p e below s₁ m 1 #[vI 70, vI 4, vI 72, .unset] [(.int 70)] _
    refine XS.iloadN X0.here hx rfl (hb hby d31_1) rfl ?_
    refine XS.iloadN X0.here hx rfl (hb hby d31_2) rfl ?_
    show OwG p e below s₁ m 3 #[vI 70, vI 4, vI 72, .unset] [(.int 72), (.int 4), (.int 70)] _
    refine st1 _ ?_
    show OwG p e below T1 m 6 #[vI 70, vI 4, vI 72, .unset] [(.int 72), (.int 70)] _
    refine XS.iadd X1.here hx rfl (hb hby d31_6) rfl ?_
    refine XS.istoreN X1.here hx rfl (hb hby d31_7) rfl (l' := #[vI 70, vI 4, vI 72, vI 142]) rfl ?_
    refine XS.iconst X1.here hx rfl (hb hby d31_8) ?_
    refine XS.iloadN X1.here hx rfl (hb hby d31_9) rfl ?_
    refine XS.icmpNo X1.here hx rfl (hb hby d31_10) rfl (tlt (by decide : (0 : Int32) < (142 : Int32))).2.1 ?_
    refine XS.iloadN X1.here hx rfl (hb hby d31_13) rfl ?_
    show OwG p e below T1 m 14 #[vI 70, vI 4, vI 72, vI 142] [(.int 142)] _
    refine X1.ldcInt hx hown (mvT hZ (hi 251 rfl)) (g := (mkF m 14 #[vI 70, vI 4, vI 72, vI 142] [(.int 142)])) rfl (hb hby d31_14) _ ?_
    show OwG p e below T1 m 16 #[vI 70, vI 4, vI 72, vI 142] [(.int 2147483639), (.int 142)] _
    refine XS.icmpNo X1.here hx rfl (hb hby d31_16) rfl (flt (by decide : ¬ ((2147483639 : Int32) < (142 : Int32)))).2.2.1 ?_
    refine XS.iloadN X1.here hx rfl (hb hby d31_19) rfl ?_
    show OwG p e below T1 m 20 #[vI 70, vI 4, vI 72, vI 142] [(.int 142)] _
    exact retI X1 hx Bd.returns (hb hby d31_20) hr
  · have eF : (T1.setFrames fs).heap = h0 := e1
    exact ⟨rfl, N1, eF⟩
theorem rmNc_70_74 (l : Launch) (Z : State) (a0 : Array Value) (hw : OwHw Z a0) (ws : List Jvm.Cond) (n0 : Nat) (h0 : Heap) (O : Old Z n0 h0) (qqR qqN qqK qqU qqS qqE : Addr) (qqI : Int32) (qqM : Addr) (W : OwW Z qqR qqN qqK qqU qqS qqE qqI qqM) (sb b : Addr) (k : ClassId) (nq : Int32) (Eb : Exa Z h0 sb zs19) (Gv : Fld Z h0 sb zs14 "value" "[B" (.ref b)) (Gc : Fld Z h0 sb zs14 "coder" "B" (.int 0)) (Gn : Fld Z h0 sb zs14 "count" "I" (.int nq)) (Vbx : owB Z h0 b k (70 : Int32)) :
    OwCon l yy15 j11 6 (some .int) ws (rM 2 0 0 29) #[(.ref sb), (.int 74)] Z h0 (OwQ (some (.int 142)) h0 n0) := by
  refine MetFree.of_bodySF (plainFor_of_name owpn30) hisR ?_
  intro p e s m args below meth c s₁ Bd hml0 hP hK
  have hi := @own_hi Z a0 hw
  obtain ⟨rfl, hZ, hh⟩ := hP
  have hx := Bd.exec
  have hby := Bd.bytes
  have hml : c.maxLocals = 6 := hml0
  have hown := findClass_of_methodNamed Bd.named
  have X0 : Stand p l e (rM 2 0 0 29) s m #[(.ref sb), (.int 74)] below meth c s₁ [] 0 0 := Stand.of_body Bd
  have e0 : s₁.heap = h0 := by rw [← hh, Bd.state]; rfl
  have N0 := Fr.nil n0
  have ef : entryFrame m #[(.ref sb), (.int 74)] 6 = mkF m 0 #[.val (.ref sb), .val (.int 74), .unset, .unset, .unset, .unset] [] := by first | (simp [entryFrame, mkF, argsToLocals, Value.category]; done) | rfl
  obtain ⟨T1, X1, e1, st1⟩ := getF X0 hx hZ hown (host := "") (Or.inl (hi 183 rfl)) Via.refl e0 Gv (g := (mkF m 1 #[vR sb, vI 74, .unset, .unset, .unset, .unset] [(.ref sb)])) rfl rfl (hb hby d30_1)
  obtain ⟨cl2, Ar2, Sz2, Nn2⟩ := Vbx.arr
  obtain ⟨T3, X3, e3, st3⟩ := getF X1 hx hZ hown (host := "") (Or.inl (hi 185 rfl)) Via.refl e1 Gc (g := (mkF m 8 #[vR sb, vI 74, vI 70, .unset, .unset, .unset] [(.ref sb), (.int 74)])) rfl rfl (hb hby d30_8)
  obtain ⟨T4, X4, e4, st4⟩ := getF X3 hx hZ hown (host := "") (Or.inl (hi 185 rfl)) Via.refl e3 Gc (g := (mkF m 24 #[vR sb, vI 74, vI 70, vI 74, vI 4, .unset] [(.ref sb), (.int 2), (.int 70), (.int 4), (.int 70)])) rfl rfl (hb hby d30_24)
  obtain ⟨_, _, ⟨T5, L5, k5, n5⟩, -, X5, ⟨Lc5, hQ5, l5, y5, z5⟩, st5⟩ := Jvm.LawKit.callS X4 hx (y := yy47) hown (mvT hZ (hi 243 rfl)) (mvT hZ (hi 244 rfl)) (mvT hZ (hi 245 rfl)) (mvT hZ (hi 246 rfl)) (by decide) (backOf (W := 0) (rmNl_70_4_72 l Z a0 hw [] n0 h0 O qqR qqN qqK qqU qqS qqE qqI qqM W ) hZ (hi 246 rfl) (hi 245 rfl) (by decide) (by decide)) (g := (mkF m 29 #[vR sb, vI 74, vI 70, vI 74, vI 4, .unset] [(.int 72), (.int 4), (.int 70)])) rfl (by rw [hml]; rfl) (argsL := [(.int 70), (.int 4), (.int 72)]) (rest := []) (lenOf owpd9 rfl) rfl (Nat.le_of_eq rfl) (hb hby d30_29) (fun _ _ => ⟨rfl, e4, (by decide : 0 + 0 ≤ _), (by decide : 0 + 0 ≤ _)⟩)
  dsimp only [Pt.U, Pt.locs, Pt.cells, Pt.slots] at X5 l5 y5 z5 st5 hQ5
  subst l5 y5 z5
  obtain ⟨rfl, Nq5, e5⟩ := hQ5
  have N5 := Fr.app N0 Nq5
  obtain ⟨T6, X6, e6, st6⟩ := getF X5 hx hZ hown (host := "") (Or.inl (hi 185 rfl)) Via.refl e5 Gc (g := (mkF m 54 #[vR sb, vI 74, vI 70, vI 74, vI 4, vI 142] [(.ref sb), (.int 142)])) rfl rfl (hb hby d30_54)
  obtain ⟨fs, hr, hrun, hended, hW, hsame⟩ := X6.leave (v := some (.int 142)) (fun h => by rw [Bd.returns] at h; cases h)
  refine ⟨_, _, castTop ef ?_, hrun, hended, _, _, rfl, ?_, ⟨_, rfl⟩, hW, hsame.mono (by decide) (by decide)⟩
  · show OwG p e below s₁ m 0 #[vR sb, vI 74, .unset, .unset, .unset, .unset] [] _
    refine XS.aloadN X0.here hx rfl (hb hby d30_0) rfl rfl ?_
    show OwG p e below s₁ m 1 #[vR sb, vI 74, .unset, .unset, .unset, .unset] [(.ref sb)] _
    refine st1 _ ?_
    show OwG p e below T1 m 4 #[vR sb, vI 74, .unset, .unset, .unset, .unset] [(.ref b)] _
    refine X1.arraylength hx (by rw [e1]; exact Ar2.1) (State.isArrayOf_alike hZ.alike Ar2.2.1) (g := (mkF m 4 #[vR sb, vI 74, .unset, .unset, .unset, .unset] [(.ref b)])) rfl rfl (hb hby d30_4) _ ?_
    rw [len_of Sz2 Nn2]
    show OwG p e below T1 m 5 #[vR sb, vI 74, .unset, .unset, .unset, .unset] [(.int 70)] _
    refine XS.istoreN X1.here hx rfl (hb hby d30_5) rfl (l' := #[vR sb, vI 74, vI 70, .unset, .unset, .unset]) rfl ?_
    refine XS.iloadN X1.here hx rfl (hb hby d30_6) rfl ?_
    refine XS.aloadN X1.here hx rfl (hb hby d30_7) rfl rfl ?_
    show OwG p e below T1 m 8 #[vR sb, vI 74, vI 70, .unset, .unset, .unset] [(.ref sb), (.int 74)] _
    refine st3 _ ?_
    show OwG p e below T3 m 11 #[vR sb, vI 74, vI 70, .unset, .unset, .unset] [(.int 0), (.int 74)] _
    refine XS.ishl X3.here hx rfl (hb hby d30_11) rfl ?_
    refine XS.istoreN X3.here hx rfl (hb hby d30_12) rfl (l' := #[vR sb, vI 74, vI 70, vI 74, .unset, .unset]) rfl ?_
    refine XS.iloadN X3.here hx rfl (hb hby d30_13) rfl ?_
    refine XS.iloadN X3.here hx rfl (hb hby d30_14) rfl ?_
    refine XS.isub X3.here hx rfl (hb hby d30_15) rfl ?_
    refine XS.istore X3.here hx rfl (hb hby d30_16) rfl (l' := #[vR sb, vI 74, vI 70, vI 74, vI 4, .unset]) rfl ?_
    show OwG p e below T3 m 18 #[vR sb, vI 74, vI 70, vI 74, vI 4, .unset] [] _
    refine XS.iloadN X3.here hx rfl (hb hby d30_18) rfl ?_
    refine XS.iload X3.here hx rfl (hb hby d30_19) rfl ?_
    refine XS.iloadN X3.here hx rfl (hb hby d30_21) rfl ?_
    refine XS.iconst X3.here hx rfl (hb hby d30_22) ?_
    refine XS.aloadN X3.here hx rfl (hb hby d30_23) rfl rfl ?_
    show OwG p e below T3 m 24 #[vR sb, vI 74, vI 70, vI 74, vI 4, .unset] [(.ref sb), (.int 2), (.int 70), (.int 4), (.int 70)] _
    refine st4 _ ?_
    show OwG p e below T4 m 27 #[vR sb, vI 74, vI 70, vI 74, vI 4, .unset] [(.int 0), (.int 2), (.int 70), (.int 4), (.int 70)] _
    refine XS.ishl X4.here hx rfl (hb hby d30_27) rfl ?_
    refine XS.iadd X4.here hx rfl (hb hby d30_28) rfl ?_
    show OwG p e below T4 m 29 #[vR sb, vI 74, vI 70, vI 74, vI 4, .unset] [(.int 72), (.int 4), (.int 70)] _
    refine st5 _ ?_
    show OwG p e below T5 m 32 #[vR sb, vI 74, vI 70, vI 74, vI 4, .unset] [(.int 142)] _
    refine XS.istore X5.here hx rfl (hb hby d30_32) rfl (l' := #[vR sb, vI 74, vI 70, vI 74, vI 4, vI 142]) rfl ?_
    refine XS.iload X5.here hx rfl (hb hby d30_34) rfl ?_
    show OwG p e below T5 m 36 #[vR sb, vI 74, vI 70, vI 74, vI 4, vI 142] [(.int 142)] _
    refine X5.ldcInt hx hown (mvT hZ (hi 252 rfl)) (g := (mkF m 36 #[vR sb, vI 74, vI 70, vI 74, vI 4, vI 142] [(.int 142)])) rfl (hb hby d30_36) _ ?_
    show OwG p e below T5 m 38 #[vR sb, vI 74, vI 70, vI 74, vI 4, vI 142] [(.int 2147483647), (.int 142)] _
    refine XS.icmpYes X5.here hx rfl (pc0 := 38) (pc' := 51) rfl (hb hby d30_38) rfl (feq (by decide : ¬ ((142 : Int32) = (2147483647 : Int32)))).2 (by decide) (by decide) ?_
    refine XS.iload X5.here hx rfl (hb hby d30_51) rfl ?_
    refine XS.aloadN X5.here hx rfl (hb hby d30_53) rfl rfl ?_
    show OwG p e below T5 m 54 #[vR sb, vI 74, vI 70, vI 74, vI 4, vI 142] [(.ref sb), (.int 142)] _
    refine st6 _ ?_
    show OwG p e below T6 m 57 #[vR sb, vI 74, vI 70, vI 74, vI 4, vI 142] [(.int 0), (.int 142)] _
    refine XS.ishr X6.here hx rfl (hb hby d30_57) rfl ?_
    show OwG p e below T6 m 58 #[vR sb, vI 74, vI 70, vI 74, vI 4, vI 142] [(.int 142)] _
    exact retI X6 hx Bd.returns (hb hby d30_58) hr
  · have eF : (T6.setFrames fs).heap = h0 := e6
    exact ⟨rfl, N5, eF⟩
theorem rmMin_70_142 (l : Launch) (Z : State) (a0 : Array Value) (hw : OwHw Z a0) (ws : List Jvm.Cond) (n0 : Nat) (h0 : Heap) (O : Old Z n0 h0) (qqR qqN qqK qqU qqS qqE : Addr) (qqI : Int32) (qqM : Addr) (W : OwW Z qqR qqN qqK qqU qqS qqE qqI qqM)  :
    OwCon l yy20 j18 2 (some .int) ws (rM 0 0 0 0) #[(.int 70), (.int 142)] Z h0 (OwQ (some (.int 70)) h0 n0) := by
  refine MetFree.of_bodySF (Jvm.Free.JP.mathPlain rfl (by decide +kernel)) hisR ?_
  intro p e s m args below meth c s₁ Bd hml0 hP hK
  have hi := @own_hi Z a0 hw
  obtain ⟨rfl, hZ, hh⟩ := hP
  have hx := Bd.exec
  have hby := Bd.bytes
  have hml : c.maxLocals = 2 := hml0
  have hown := findClass_of_methodNamed Bd.named
  have X0 : Stand p l e (rM 0 0 0 0) s m #[(.int 70), (.int 142)] below meth c s₁ [] 0 0 := Stand.of_body Bd
  have e0 : s₁.heap = h0 := by rw [← hh, Bd.state]; rfl
  have N0 := Fr.nil n0
  have ef : entryFrame m #[(.int 70), (.int 142)] 2 = mkF m 0 #[.val (.int 70), .val (.int 142)] [] := by first | (simp [entryFrame, mkF, argsToLocals, Value.category]; done) | rfl
  obtain ⟨fs, hr, hrun, hended, hW, hsame⟩ := X0.leave (v := some (.int 70)) (fun h => by rw [Bd.returns] at h; cases h)
  refine ⟨_, _, castTop ef ?_, hrun, hended, _, _, rfl, ?_, ⟨_, rfl⟩, hW, hsame.mono (by decide) (by decide)⟩
  · show OwG p e below s₁ m 0 #[vI 70, vI 142] [] _
    refine XS.iloadN X0.here hx rfl (hb hby d34_0) rfl ?_
    show OwG p e below s₁ m 1 #[vI 70, vI 142] [(.int 70)] _
    refine XS.iloadN X0.here hx rfl (hb hby d34_1) rfl ?_
    refine XS.icmpNo X0.here hx rfl (hb hby d34_2) rfl (flt (by decide : ¬ ((142 : Int32) < (70 : Int32)))).2.2.1 ?_
    refine XS.iloadN X0.here hx rfl (hb hby d34_5) rfl ?_
    refine XS.goto X0.here hx rfl (pc0 := 6) (pc' := 10) rfl (hb hby d34_6) (by decide) (by decide) ?_
    show OwG p e below s₁ m 10 #[vI 70, vI 142] [(.int 70)] _
    exact retI X0 hx Bd.returns (hb hby d34_10) hr
  · have eF : (s₁.setFrames fs).heap = h0 := e0
    exact ⟨rfl, N0, eF⟩
theorem rmCp_70_142 (l : Launch) (Z : State) (a0 : Array Value) (hw : OwHw Z a0) (ws : List Jvm.Cond) (n0 : Nat) (h0 : Heap) (O : Old Z n0 h0) (qqR qqN qqK qqU qqS qqE : Addr) (qqI : Int32) (qqM : Addr) (W : OwW Z qqR qqN qqK qqU qqS qqE qqI qqM) (b : Addr) (k : ClassId) (Vb : owB Z h0 b k (70 : Int32)) :
    OwCon l yy40 j3 3 (some (.array .byte)) ws (rM 1 1 142 18) #[(.ref b), (.int 142)] Z h0 (OwP (fun v h => ∃ (b' : Addr) (k' : ClassId), v = some (.ref b') ∧ h0.size ≤ b' ∧ Old Z n0 h ∧ Keep h0 h [] ∧ owB Z h b' k' (142 : Int32)) n0) := by
  refine MetFree.of_bodySF (plainFor_of_name owpn33) hisR ?_
  intro p e s m args below meth c s₁ Bd hml0 hP hK
  have hi := @own_hi Z a0 hw
  obtain ⟨rfl, hZ, hh⟩ := hP
  have hx := Bd.exec
  have hby := Bd.bytes
  have hml : c.maxLocals = 3 := hml0
  have hown := findClass_of_methodNamed Bd.named
  have X0 : Stand p l e (rM 1 1 142 18) s m #[(.ref b), (.int 142)] below meth c s₁ [] 0 0 := Stand.of_body Bd
  have e0 : s₁.heap = h0 := by rw [← hh, Bd.state]; rfl
  have N0 := Fr.nil n0
  have ef : entryFrame m #[(.ref b), (.int 142)] 3 = mkF m 0 #[.val (.ref b), .val (.int 142), .unset] [] := by first | (simp [entryFrame, mkF, argsToLocals, Value.category]; done) | rfl
  obtain ⟨cl1, Ar1, Sz1, Nn1⟩ := Vb.arr
  obtain ⟨T2, h2, k2, X2, e2, E2, A2, Ea2, st2⟩ := newPE X0 hx hZ (aty := .byte) (hi 83 rfl) e0 (g := (mkF m 15 #[vR b, vI 142, .unset] [(.int 142)])) rfl (hb hby d33_15) rfl (by decide) (cap := 142) (by decide) (by decide) (by decide) (by decide) (ad := "[B") (by decide)
  obtain ⟨b2, g2⟩ : ∃ z, z = h0.size := ⟨_, rfl⟩
  rw [← g2] at A2 Ea2 st2
  have gx2 : n0 ≤ b2 := Nat.le_trans (Nat.le_trans (Nat.le_of_eq O.1.symm) O.2.1) (Nat.le_of_eq g2.symm)
  have ne_b_2 : b ≠ b2 := Nat.ne_of_lt (Nat.lt_of_lt_of_le Vb.lt (Nat.le_of_eq g2.symm))
  have O2 := O.ext E2
  have Vb2 : owB Z h2 b2 k2 (142 : Int32) := owB.new A2 (by decide)
  have sz2 : h0.size ≤ b2 := Nat.le_trans (Keep.refl h0 []).1 (Nat.le_of_eq g2.symm)
  have Kp2 : Keep h0 h2 [] := (Keep.refl h0 []).ext E2
  have fa4 := (Vb.ext E2)
  obtain ⟨cl3, Ar3, Sz3, Nn3⟩ := fa4.arr
  obtain ⟨_, _, ⟨T5, L5, k5, n5⟩, -, X5, ⟨Lc5, hQ5, l5, y5, z5⟩, st5⟩ := Jvm.LawKit.callS X2 hx (y := yy20) hown (mvT hZ (hi 257 rfl)) (mvT hZ (hi 258 rfl)) (mvT hZ (hi 249 rfl)) (mvT hZ (hi 259 rfl)) (by decide) (backOf (W := 4) (rmMin_70_142 l Z a0 hw [] n0 h2 O2 qqR qqN qqK qqU qqS qqE qqI qqM W ) hZ (hi 259 rfl) (hi 249 rfl) (by decide) (by decide)) (g := (mkF m 25 #[vR b, vI 142, vR b2] [(.int 142), (.int 70), (.int 0), (.ref b2), (.int 0), (.ref b)])) rfl (by rw [hml]; rfl) (argsL := [(.int 70), (.int 142)]) (rest := [(.int 0), (.ref b2), (.int 0), (.ref b)]) (lenOf owpd8 rfl) rfl (Nat.le_of_eq rfl) (hb hby d33_25) (fun _ _ => ⟨rfl, e2, (by decide : 1 + 0 ≤ _), (by decide : 142 + 0 ≤ _)⟩)
  dsimp only [Pt.U, Pt.locs, Pt.cells, Pt.slots] at X5 l5 y5 z5 st5 hQ5
  subst l5 y5 z5
  obtain ⟨rfl, Nq5, e5⟩ := hQ5
  have N5 := Fr.app N0 Nq5
  obtain ⟨T6, h6, L6, X6, e6, N6, Kc6, V6, st6⟩ := own_cpB X5 hx hZ hown (hi 260 rfl) (hi 237 rfl) (hi 235 rfl) (hi 236 rfl) e5 fa4 Vb2 (by decide) (by decide) (by decide) (by decide) (by decide) N5 gx2 (g := (mkF m 28 #[vR b, vI 142, vR b2] [(.int 70), (.int 0), (.ref b2), (.int 0), (.ref b)])) rfl (by rw [hml]; rfl) rfl (hb hby d33_28) (by decide) (W := 0) (Nat.le_of_eq rfl) (by decide)
  have O6 := O2.keep Kc6 (allS (P := fun x => n0 ≤ x) gx2 all0)
  have Kp6 : Keep h0 h6 [] := Kp2.trans Kc6 (allS (P := fun x => x ∈ ([] : List Addr) ∨ h0.size ≤ x) (Or.inr sz2) (all0 (P := fun x => x ∈ ([] : List Addr) ∨ h0.size ≤ x)))
  obtain ⟨fs, hr, hrun, hended, hW, hsame⟩ := X6.leave (v := some (.ref b2)) (fun h => by rw [Bd.returns] at h; cases h)
  refine ⟨_, _, castTop ef ?_, hrun, hended, _, _, rfl, ?_, ⟨_, rfl⟩, hW, hsame.mono (by decide) (by decide)⟩
  · show OwG p e below s₁ m 0 #[vR b, vI 142, .unset] [] _
    refine XS.iloadN X0.here hx rfl (hb hby d33_0) rfl ?_
    show OwG p e below s₁ m 1 #[vR b, vI 142, .unset] [(.int 142)] _
    refine XS.aloadN X0.here hx rfl (hb hby d33_1) rfl rfl ?_
    show OwG p e below s₁ m 2 #[vR b, vI 142, .unset] [(.ref b), (.int 142)] _
    refine X0.arraylength hx (by rw [e0]; exact Ar1.1) (State.isArrayOf_alike hZ.alike Ar1.2.1) (g := (mkF m 2 #[vR b, vI 142, .unset] [(.ref b), (.int 142)])) rfl rfl (hb hby d33_2) _ ?_
    rw [len_of Sz1 Nn1]
    show OwG p e below s₁ m 3 #[vR b, vI 142, .unset] [(.int 70), (.int 142)] _
    refine XS.icmpYes X0.here hx rfl (pc0 := 3) (pc' := 14) rfl (hb hby d33_3) rfl (feq (by decide : ¬ ((142 : Int32) = (70 : Int32)))).2 (by decide) (by decide) ?_
    refine XS.iloadN X0.here hx rfl (hb hby d33_14) rfl ?_
    show OwG p e below s₁ m 15 #[vR b, vI 142, .unset] [(.int 142)] _
    refine st2 _ ?_
    show OwG p e below T2 m 17 #[vR b, vI 142, .unset] [(.ref b2)] _
    refine XS.astoreN X2.here hx rfl (hb hby d33_17) rfl rfl (l' := #[vR b, vI 142, vR b2]) rfl ?_
    refine XS.aloadN X2.here hx rfl (hb hby d33_18) rfl rfl ?_
    refine XS.iconst X2.here hx rfl (hb hby d33_19) ?_
    refine XS.aloadN X2.here hx rfl (hb hby d33_20) rfl rfl ?_
    refine XS.iconst X2.here hx rfl (hb hby d33_21) ?_
    refine XS.aloadN X2.here hx rfl (hb hby d33_22) rfl rfl ?_
    show OwG p e below T2 m 23 #[vR b, vI 142, vR b2] [(.ref b), (.int 0), (.ref b2), (.int 0), (.ref b)] _
    refine X2.arraylength hx (by rw [e2]; exact Ar3.1) (State.isArrayOf_alike hZ.alike Ar3.2.1) (g := (mkF m 23 #[vR b, vI 142, vR b2] [(.ref b), (.int 0), (.ref b2), (.int 0), (.ref b)])) rfl rfl (hb hby d33_23) _ ?_
    rw [len_of Sz3 Nn3]
    show OwG p e below T2 m 24 #[vR b, vI 142, vR b2] [(.int 70), (.int 0), (.ref b2), (.int 0), (.ref b)] _
    refine XS.iloadN X2.here hx rfl (hb hby d33_24) rfl ?_
    show OwG p e below T2 m 25 #[vR b, vI 142, vR b2] [(.int 142), (.int 70), (.int 0), (.ref b2), (.int 0), (.ref b)] _
    refine st5 _ ?_
    show OwG p e below T5 m 28 #[vR b, vI 142, vR b2] [(.int 70), (.int 0), (.ref b2), (.int 0), (.ref b)] _
    refine st6 _ ?_
    show OwG p e below T6 m 31 #[vR b, vI 142, vR b2] [] _
    refine XS.aloadN X6.here hx rfl (hb hby d33_31) rfl rfl ?_
    show OwG p e below T6 m 32 #[vR b, vI 142, vR b2] [(.ref b2)] _
    exact retOut X6 hx Bd.returns rfl (Or.inr (Or.inr (Or.inr (Or.inr ⟨rfl, rfl, rfl⟩)))) (hb hby d33_32) hr
  · have eF : (T6.setFrames fs).heap = h6 := e6
    exact ⟨N6, b2, k2, rfl, sz2, by rw [eF]; exact ⟨O6, Kp6, V6⟩⟩
theorem rmEns_70_74 (l : Launch) (Z : State) (a0 : Array Value) (hw : OwHw Z a0) (ws : List Jvm.Cond) (n0 : Nat) (h0 : Heap) (O : Old Z n0 h0) (qqR qqN qqK qqU qqS qqE : Addr) (qqI : Int32) (qqM : Addr) (W : OwW Z qqR qqN qqK qqU qqS qqE qqI qqM) (sb b : Addr) (k : ClassId) (Eb : Exa Z h0 sb zs19) (Gv : Fld Z h0 sb zs14 "value" "[B" (.ref b)) (Gc : Fld Z h0 sb zs14 "coder" "B" (.int 0)) (Gn : Fld Z h0 sb zs14 "count" "I" (.int 65)) (Vbx : owB Z h0 b k (70 : Int32)) (gs : n0 ≤ sb) :
    OwCon l yy10 j33 3 none ws (rM 3 1 142 48) #[(.ref sb), (.int 74)] Z h0 (OwP (fun v h => v = none ∧ Old Z n0 h ∧ Keep h0 h [sb] ∧ ∃ (b' : Addr) (k' : ClassId), h0.size ≤ b' ∧ Exa Z h sb zs19 ∧ Fld Z h sb zs14 "value" "[B" (.ref b') ∧ Fld Z h sb zs14 "coder" "B" (.int 0) ∧ Fld Z h sb zs14 "count" "I" (.int 65) ∧ owB Z h b' k' (142 : Int32)) n0) := by
  refine MetFree.of_bodySF (plainFor_of_name owpn26) hisR ?_
  intro p e s m args below meth c s₁ Bd hml0 hP hK
  have hi := @own_hi Z a0 hw
  obtain ⟨rfl, hZ, hh⟩ := hP
  have hx := Bd.exec
  have hby := Bd.bytes
  have hml : c.maxLocals = 3 := hml0
  have hown := findClass_of_methodNamed Bd.named
  have X0 : Stand p l e (rM 3 1 142 48) s m #[(.ref sb), (.int 74)] below meth c s₁ [] 0 0 := Stand.of_body Bd
  have e0 : s₁.heap = h0 := by rw [← hh, Bd.state]; rfl
  have N0 := Fr.nil n0
  have ef : entryFrame m #[(.ref sb), (.int 74)] 3 = mkF m 0 #[.val (.ref sb), .val (.int 74), .unset] [] := by first | (simp [entryFrame, mkF, argsToLocals, Value.category]; done) | rfl
  obtain ⟨T1, X1, e1, st1⟩ := getF X0 hx hZ hown (host := "") (Or.inl (hi 183 rfl)) Via.refl e0 Gv (g := (mkF m 1 #[vR sb, vI 74, .unset] [(.ref sb)])) rfl rfl (hb hby d26_1)
  obtain ⟨cl2, Ar2, Sz2, Nn2⟩ := Vbx.arr
  obtain ⟨T3, X3, e3, st3⟩ := getF X1 hx hZ hown (host := "") (Or.inl (hi 185 rfl)) Via.refl e1 Gc (g := (mkF m 6 #[vR sb, vI 74, .unset] [(.ref sb), (.int 70)])) rfl rfl (hb hby d26_6)
  obtain ⟨T4, X4, e4, st4⟩ := getF X3 hx hZ hown (host := "") (Or.inl (hi 183 rfl)) Via.refl e3 Gv (g := (mkF m 19 #[vR sb, vI 74, vI 70] [(.ref sb), (.ref sb)])) rfl rfl (hb hby d26_19)
  obtain ⟨cq5, kq5, q5a, q5b, q5c⟩ := isOf hZ e4 Eb
  obtain ⟨_, _, ⟨T5, L5, k5, n5⟩, -, X5, ⟨Lc5, hQ5, l5, y5, z5⟩, st5⟩ := X4.virtualBack hx (y := yy15) (z := yy15) hown (mvT hZ (hi 238 rfl)) (own_decl (mvT hZ (hi 239 rfl)) (mvT hZ (hi 242 rfl))) (notFace_of_selects (args := #[]) (mvT hZ (hi 241 rfl))) (mvT hZ (hi 241 rfl)) (mvT hZ (hi 239 rfl)) (by decide) (backOf (W := 2) (rmNc_70_74 l Z a0 hw [] n0 h0 O qqR qqN qqK qqU qqS qqE qqI qqM W sb b k (65 : Int32) Eb Gv Gc Gn Vbx) hZ (hi 242 rfl) (hi 179 rfl) (by decide) (by decide)) q5a q5c (g := (mkF m 24 #[vR sb, vI 74, vI 70] [(.int 74), (.ref sb), (.ref b), (.ref sb)])) rfl (by rw [hml]; rfl) (Steps.refl _) (argsL := [(.int 74)]) (rest := [(.ref b), (.ref sb)]) (lenOf owpd10 rfl) rfl (Nat.le_of_eq rfl) (hb hby d26_24) (fun _ _ => ⟨rfl, e4, (by decide : 0 + 0 ≤ _), (by decide : 0 + 0 ≤ _)⟩)
  dsimp only [Pt.U, Pt.locs, Pt.cells, Pt.slots] at X5 l5 y5 z5 st5 hQ5
  subst l5 y5 z5
  obtain ⟨rfl, Nq5, e5⟩ := hQ5
  have N5 := Fr.app N0 Nq5
  obtain ⟨T6, X6, e6, st6⟩ := getF X5 hx hZ hown (host := "") (Or.inl (hi 185 rfl)) Via.refl e5 Gc (g := (mkF m 28 #[vR sb, vI 74, vI 70] [(.ref sb), (.int 142), (.ref b), (.ref sb)])) rfl rfl (hb hby d26_28)
  obtain ⟨_, _, ⟨T7, L7, k7, n7⟩, -, X7, ⟨Lc7, hQ7, l7, y7, z7⟩, st7⟩ := Jvm.LawKit.callS X6 hx (y := yy40) hown (mvT hZ (hi 253 rfl)) (mvT hZ (hi 254 rfl)) (mvT hZ (hi 255 rfl)) (mvT hZ (hi 256 rfl)) (by decide) (backOf (W := 1) (rmCp_70_142 l Z a0 hw [] n0 h0 O qqR qqN qqK qqU qqS qqE qqI qqM W b k Vbx) hZ (hi 256 rfl) (hi 255 rfl) (by decide) (by decide)) (g := (mkF m 32 #[vR sb, vI 74, vI 70] [(.int 142), (.ref b), (.ref sb)])) rfl (by rw [hml]; rfl) (argsL := [(.ref b), (.int 142)]) (rest := [(.ref sb)]) (lenOf owpd11 rfl) rfl (Nat.le_of_eq rfl) (hb hby d26_32) (fun _ _ => ⟨rfl, e6, (by decide : 0 + 1 ≤ _), (by decide : 0 + 142 ≤ _)⟩)
  dsimp only [Pt.U, Pt.locs, Pt.cells, Pt.slots] at X7 l7 y7 z7 st7 hQ7
  subst l7 y7 z7
  obtain ⟨Nq7, hP7⟩ := hQ7
  have N7 := Fr.app N5 Nq7
  have ee7 : T7.heap = T7.heap := rfl
  obtain ⟨bb7, kk7, rfl, hb7, Oc7, Kc7, Vb7⟩ := hP7
  have ne_sb_7 : sb ≠ bb7 := Nat.ne_of_lt (Nat.lt_of_lt_of_le Eb.lt hb7)
  have ne_b_7 : b ≠ bb7 := Nat.ne_of_lt (Nat.lt_of_lt_of_le Vbx.lt hb7)
  have gx7 : n0 ≤ bb7 := Nat.le_trans (Nat.le_trans (Nat.le_of_eq O.1.symm) O.2.1) hb7
  have sz7 : h0.size ≤ bb7 := Nat.le_trans (Keep.refl h0 [sb]).1 hb7
  have Kp7 : Keep h0 T7.heap [sb] := (Keep.refl h0 [sb]).trans Kc7 (all0 (P := fun x => x ∈ [sb] ∨ h0.size ≤ x))
  have fa8 := (Gv.keep Kc7 nin0)
  have fa9 := (Eb.keep Kc7)
  obtain ⟨T10, h10, X10, e10, W10, st10⟩ := putF X7 hx hZ hown (host := "") (Or.inl (hi 183 rfl)) Via.refl ee7 fa8 fa9 (Or.inl (hi 184 rfl)) (hi 170 rfl) (ty := (.array .byte)) (by decide) rfl rfl (g := (mkF m 35 #[vR sb, vI 74, vI 70] [(.ref bb7), (.ref sb)])) rfl rfl (hb hby d26_35)
  have Fw10 := fa8.same W10
  have N10 := Fr.snoc X10 N7 gs
  have O10 := Oc7.wr W10 gs
  have Kp10 : Keep h0 h10 [sb] := Kp7.wr W10 (Or.inl (List.mem_of_getElem? (i := 0) rfl))
  have fa11 := (fa9.wr W10)
  have fa12 := ((Gc.keep Kc7 nin0).other W10 (Or.inr (slot_ne (Or.inl (hi 186 rfl)) (Or.inl (hi 184 rfl)) (by decide) (t := .byte) (t' := (.array .byte)) (by decide) (by decide))))
  have fa13 := ((Gn.keep Kc7 nin0).other W10 (Or.inr (slot_ne (Or.inl (hi 212 rfl)) (Or.inl (hi 184 rfl)) (by decide) (t := .int) (t' := (.array .byte)) (by decide) (by decide))))
  have fa14 := (Vb7.other W10 (Ne.symm ne_sb_7))
  obtain ⟨fs, hr, hrun, hended, hW, hsame⟩ := X10.leave (v := none) (fun _ => rfl)
  refine ⟨_, _, castTop ef ?_, hrun, hended, _, _, rfl, ?_, ⟨_, rfl⟩, hW, hsame.mono (by decide) (by decide)⟩
  · show OwG p e below s₁ m 0 #[vR sb, vI 74, .unset] [] _
    refine XS.aloadN X0.here hx rfl (hb hby d26_0) rfl rfl ?_
    show OwG p e below s₁ m 1 #[vR sb, vI 74, .unset] [(.ref sb)] _
    refine st1 _ ?_
    show OwG p e below T1 m 4 #[vR sb, vI 74, .unset] [(.ref b)] _
    refine X1.arraylength hx (by rw [e1]; exact Ar2.1) (State.isArrayOf_alike hZ.alike Ar2.2.1) (g := (mkF m 4 #[vR sb, vI 74, .unset] [(.ref b)])) rfl rfl (hb hby d26_4) _ ?_
    rw [len_of Sz2 Nn2]
    show OwG p e below T1 m 5 #[vR sb, vI 74, .unset] [(.int 70)] _
    refine XS.aloadN X1.here hx rfl (hb hby d26_5) rfl rfl ?_
    show OwG p e below T1 m 6 #[vR sb, vI 74, .unset] [(.ref sb), (.int 70)] _
    refine st3 _ ?_
    show OwG p e below T3 m 9 #[vR sb, vI 74, .unset] [(.int 0), (.int 70)] _
    refine XS.ishr X3.here hx rfl (hb hby d26_9) rfl ?_
    refine XS.istoreN X3.here hx rfl (hb hby d26_10) rfl (l' := #[vR sb, vI 74, vI 70]) rfl ?_
    refine XS.iloadN X3.here hx rfl (hb hby d26_11) rfl ?_
    refine XS.iloadN X3.here hx rfl (hb hby d26_12) rfl ?_
    refine XS.isub X3.here hx rfl (hb hby d26_13) rfl ?_
    refine XS.ifNo X3.here hx rfl (hb hby d26_14) rfl ((if0 _ _).trans (tlt (by decide : (0 : Int32) < (4 : Int32))).2.2.2) ?_
    show OwG p e below T3 m 17 #[vR sb, vI 74, vI 70] [] _
    refine XS.aloadN X3.here hx rfl (hb hby d26_17) rfl rfl ?_
    refine XS.aloadN X3.here hx rfl (hb hby d26_18) rfl rfl ?_
    show OwG p e below T3 m 19 #[vR sb, vI 74, vI 70] [(.ref sb), (.ref sb)] _
    refine st4 _ ?_
    show OwG p e below T4 m 22 #[vR sb, vI 74, vI 70] [(.ref b), (.ref sb)] _
    refine XS.aloadN X4.here hx rfl (hb hby d26_22) rfl rfl ?_
    refine XS.iloadN X4.here hx rfl (hb hby d26_23) rfl ?_
    show OwG p e below T4 m 24 #[vR sb, vI 74, vI 70] [(.int 74), (.ref sb), (.ref b), (.ref sb)] _
    refine st5.trans ?_
    show OwG p e below T5 m 27 #[vR sb, vI 74, vI 70] [(.int 142), (.ref b), (.ref sb)] _
    refine XS.aloadN X5.here hx rfl (hb hby d26_27) rfl rfl ?_
    show OwG p e below T5 m 28 #[vR sb, vI 74, vI 70] [(.ref sb), (.int 142), (.ref b), (.ref sb)] _
    refine st6 _ ?_
    show OwG p e below T6 m 31 #[vR sb, vI 74, vI 70] [(.int 0), (.int 142), (.ref b), (.ref sb)] _
    refine XS.ishl X6.here hx rfl (hb hby d26_31) rfl ?_
    show OwG p e below T6 m 32 #[vR sb, vI 74, vI 70] [(.int 142), (.ref b), (.ref sb)] _
    refine st7 _ ?_
    show OwG p e below T7 m 35 #[vR sb, vI 74, vI 70] [(.ref bb7), (.ref sb)] _
    refine st10 _ ?_
    show OwG p e below T10 m 38 #[vR sb, vI 74, vI 70] [] _
    exact X10.returnOut hx Bd.returns (hb hby d26_38) hr
  · have eF : (T10.setFrames fs).heap = h10 := e10
    exact ⟨N10, rfl, by rw [eF]; exact ⟨O10, Kp10, bb7, kk7, sz7, fa11, Fw10, fa12, fa13, fa14⟩⟩
theorem rmLen9 (l : Launch) (Z : State) (a0 : Array Value) (hw : OwHw Z a0) (ws : List Jvm.Cond) (n0 : Nat) (h0 : Heap) (O : Old Z n0 h0) (qqR qqN qqK qqU qqS qqE : Addr) (qqI : Int32) (qqM : Addr) (W : OwW Z qqR qqN qqK qqU qqS qqE qqI qqM) (a b : Addr) (k : ClassId) (Es : Exa Z h0 a zs18) (Fc : Fld Z h0 a zs18 "coder" "B" (.int 0)) (Fv : Fld Z h0 a zs18 "value" "[B" (.ref b)) (Vb : owB Z h0 b k (9 : Int32)) :
    OwCon l yy25 j17 1 (some .int) ws (rM 1 0 0 13) #[(.ref a)] Z h0 (OwQ (some (.int 9)) h0 n0) := by
  refine MetFree.of_bodySF (plainFor_of_name owpn24) hisR ?_
  intro p e s m args below meth c s₁ Bd hml0 hP hK
  have hi := @own_hi Z a0 hw
  obtain ⟨rfl, hZ, hh⟩ := hP
  have hx := Bd.exec
  have hby := Bd.bytes
  have hml : c.maxLocals = 1 := hml0
  have hown := findClass_of_methodNamed Bd.named
  have X0 : Stand p l e (rM 1 0 0 13) s m #[(.ref a)] below meth c s₁ [] 0 0 := Stand.of_body Bd
  have e0 : s₁.heap = h0 := by rw [← hh, Bd.state]; rfl
  have N0 := Fr.nil n0
  have ef : entryFrame m #[(.ref a)] 1 = mkF m 0 #[.val (.ref a)] [] := by first | (simp [entryFrame, mkF, argsToLocals, Value.category]; done) | rfl
  obtain ⟨T1, X1, e1, st1⟩ := getF X0 hx hZ hown (host := "") (Or.inl (hi 203 rfl)) Via.refl e0 Fv (g := (mkF m 1 #[vR a] [(.ref a)])) rfl rfl (hb hby d24_1)
  obtain ⟨cl2, Ar2, Sz2, Nn2⟩ := Vb.arr
  obtain ⟨cq3, kq3, q3a, q3b, q3c⟩ := isOf hZ e1 Es
  obtain ⟨_, _, ⟨T3, L3, k3, n3⟩, -, X3, ⟨Lc3, hQ3, l3, y3, z3⟩, st3⟩ := X1.virtualBack hx (y := yy23) (z := yy23) hown (mvT hZ (hi 204 rfl)) (mvT hZ (hi 205 rfl)) (notFace_of_selects (args := #[]) (mvT hZ (hi 207 rfl))) (mvT hZ (hi 207 rfl)) (mvT hZ (hi 206 rfl)) (by decide) (backOf (W := 1) (rmCod l Z a0 hw [] n0 h0 O qqR qqN qqK qqU qqS qqE qqI qqM W a Fc) hZ (hi 208 rfl) (hi 81 rfl) (by decide) (by decide)) q3a q3c (g := (mkF m 6 #[vR a] [(.ref a), (.int 9)])) rfl (by rw [hml]; rfl) (Steps.refl _) (argsL := []) (rest := [(.int 9)]) (lenOf owpd2 rfl) rfl (Nat.le_of_eq rfl) (hb hby d24_6) (fun _ _ => ⟨rfl, e1, (by decide : 0 + 0 ≤ _), (by decide : 0 + 0 ≤ _)⟩)
  dsimp only [Pt.U, Pt.locs, Pt.cells, Pt.slots] at X3 l3 y3 z3 st3 hQ3
  subst l3 y3 z3
  obtain ⟨rfl, Nq3, e3⟩ := hQ3
  have N3 := Fr.app N0 Nq3
  obtain ⟨fs, hr, hrun, hended, hW, hsame⟩ := X3.leave (v := some (.int 9)) (fun h => by rw [Bd.returns] at h; cases h)
  refine ⟨_, _, castTop ef ?_, hrun, hended, _, _, rfl, ?_, ⟨_, rfl⟩, hW, hsame.mono (by decide) (by decide)⟩
  · show OwG p e below s₁ m 0 #[vR a] [] _
    refine XS.aloadN X0.here hx rfl (hb hby d24_0) rfl rfl ?_
    show OwG p e below s₁ m 1 #[vR a] [(.ref a)] _
    refine st1 _ ?_
    show OwG p e below T1 m 4 #[vR a] [(.ref b)] _
    refine X1.arraylength hx (by rw [e1]; exact Ar2.1) (State.isArrayOf_alike hZ.alike Ar2.2.1) (g := (mkF m 4 #[vR a] [(.ref b)])) rfl rfl (hb hby d24_4) _ ?_
    rw [len_of Sz2 Nn2]
    show OwG p e below T1 m 5 #[vR a] [(.int 9)] _
    refine XS.aloadN X1.here hx rfl (hb hby d24_5) rfl rfl ?_
    show OwG p e below T1 m 6 #[vR a] [(.ref a), (.int 9)] _
    refine st3.trans ?_
    show OwG p e below T3 m 9 #[vR a] [(.int 0), (.int 9)] _
    refine XS.ishr X3.here hx rfl (hb hby d24_9) rfl ?_
    show OwG p e below T3 m 10 #[vR a] [(.int 9)] _
    exact retI X3 hx Bd.returns (hb hby d24_10) hr
  · have eF : (T3.setFrames fs).heap = h0 := e3
    exact ⟨rfl, N3, eF⟩
theorem rmGb_9_142_65 (l : Launch) (Z : State) (a0 : Array Value) (hw : OwHw Z a0) (ws : List Jvm.Cond) (n0 : Nat) (h0 : Heap) (O : Old Z n0 h0) (qqR qqN qqK qqU qqS qqE : Addr) (qqI : Int32) (qqM : Addr) (W : OwW Z qqR qqN qqK qqU qqS qqE qqI qqM) (a b : Addr) (k : ClassId) (y : Addr) (ky : ClassId) (Es : Exa Z h0 a zs18) (Fc : Fld Z h0 a zs18 "coder" "B" (.int 0)) (Fv : Fld Z h0 a zs18 "value" "[B" (.ref b)) (Vb : owB Z h0 b k (9 : Int32)) (Vby : owB Z h0 y ky (142 : Int32)) (gy : n0 ≤ y) :
    OwCon l yy24 j1 4 none ws (rM 1 0 0 18) #[(.ref a), (.ref y), (.int 65), (.int 0)] Z h0 (OwP (fun v h => v = none ∧ Old Z n0 h ∧ Keep h0 h [y] ∧ owB Z h y ky (142 : Int32)) n0) := by
  refine MetFree.of_bodySF (plainFor_of_name owpn29) hisR ?_
  intro p e s m args below meth c s₁ Bd hml0 hP hK
  have hi := @own_hi Z a0 hw
  obtain ⟨rfl, hZ, hh⟩ := hP
  have hx := Bd.exec
  have hby := Bd.bytes
  have hml : c.maxLocals = 4 := hml0
  have hown := findClass_of_methodNamed Bd.named
  have X0 : Stand p l e (rM 1 0 0 18) s m #[(.ref a), (.ref y), (.int 65), (.int 0)] below meth c s₁ [] 0 0 := Stand.of_body Bd
  have e0 : s₁.heap = h0 := by rw [← hh, Bd.state]; rfl
  have N0 := Fr.nil n0
  have ef : entryFrame m #[(.ref a), (.ref y), (.int 65), (.int 0)] 4 = mkF m 0 #[.val (.ref a), .val (.ref y), .val (.int 65), .val (.int 0)] [] := by first | (simp [entryFrame, mkF, argsToLocals, Value.category]; done) | rfl
  obtain ⟨cq1, kq1, q1a, q1b, q1c⟩ := isOf hZ e0 Es
  obtain ⟨_, _, ⟨T1, L1, k1, n1⟩, -, X1, ⟨Lc1, hQ1, l1, y1, z1⟩, st1⟩ := X0.virtualBack hx (y := yy23) (z := yy23) hown (mvT hZ (hi 204 rfl)) (mvT hZ (hi 205 rfl)) (notFace_of_selects (args := #[]) (mvT hZ (hi 207 rfl))) (mvT hZ (hi 207 rfl)) (mvT hZ (hi 206 rfl)) (by decide) (backOf (W := 0) (rmCod l Z a0 hw [] n0 h0 O qqR qqN qqK qqU qqS qqE qqI qqM W a Fc) hZ (hi 208 rfl) (hi 81 rfl) (by decide) (by decide)) q1a q1c (g := (mkF m 1 #[vR a, vR y, vI 65, vI 0] [(.ref a)])) rfl (by rw [hml]; rfl) (Steps.refl _) (argsL := []) (rest := []) (lenOf owpd2 rfl) rfl (Nat.le_of_eq rfl) (hb hby d29_1) (fun _ _ => ⟨rfl, e0, (by decide : 0 + 0 ≤ _), (by decide : 0 + 0 ≤ _)⟩)
  dsimp only [Pt.U, Pt.locs, Pt.cells, Pt.slots] at X1 l1 y1 z1 st1 hQ1
  subst l1 y1 z1
  obtain ⟨rfl, Nq1, e1⟩ := hQ1
  have N1 := Fr.app N0 Nq1
  obtain ⟨T2, X2, e2, st2⟩ := getF X1 hx hZ hown (host := "") (Or.inl (hi 203 rfl)) Via.refl e1 Fv (g := (mkF m 9 #[vR a, vR y, vI 65, vI 0] [(.ref a)])) rfl rfl (hb hby d29_9)
  obtain ⟨T3, X3, e3, st3⟩ := getF X2 hx hZ hown (host := "") (Or.inl (hi 203 rfl)) Via.refl e2 Fv (g := (mkF m 18 #[vR a, vR y, vI 65, vI 0] [(.ref a), (.int 65), (.ref y), (.int 0), (.ref b)])) rfl rfl (hb hby d29_18)
  obtain ⟨cl4, Ar4, Sz4, Nn4⟩ := Vb.arr
  obtain ⟨T5, h5, L5, X5, e5, N5, Kc5, V5, st5⟩ := own_cpB X3 hx hZ hown (hi 234 rfl) (hi 237 rfl) (hi 235 rfl) (hi 236 rfl) e3 Vb Vby (by decide) (by decide) (by decide) (by decide) (by decide) N1 gy (g := (mkF m 22 #[vR a, vR y, vI 65, vI 0] [(.int 9), (.int 65), (.ref y), (.int 0), (.ref b)])) rfl (by rw [hml]; rfl) rfl (hb hby d29_22) (by decide) (W := 0) (Nat.le_of_eq rfl) (by decide)
  have O5 := O.keep Kc5 (allS (P := fun x => n0 ≤ x) gy all0)
  have Kp5 : Keep h0 h5 [y] := (Keep.refl h0 [y]).trans Kc5 (allS (P := fun x => x ∈ [y] ∨ h0.size ≤ x) (Or.inl (List.mem_of_getElem? (i := 0) rfl)) (all0 (P := fun x => x ∈ [y] ∨ h0.size ≤ x)))
  obtain ⟨fs, hr, hrun, hended, hW, hsame⟩ := X5.leave (v := none) (fun _ => rfl)
  refine ⟨_, _, castTop ef ?_, hrun, hended, _, _, rfl, ?_, ⟨_, rfl⟩, hW, hsame.mono (by decide) (by decide)⟩
  · show OwG p e below s₁ m 0 #[vR a, vR y, vI 65, vI 0] [] _
    refine XS.aloadN X0.here hx rfl (hb hby d29_0) rfl rfl ?_
    show OwG p e below s₁ m 1 #[vR a, vR y, vI 65, vI 0] [(.ref a)] _
    refine st1.trans ?_
    show OwG p e below T1 m 4 #[vR a, vR y, vI 65, vI 0] [(.int 0)] _
    refine XS.iloadN X1.here hx rfl (hb hby d29_4) rfl ?_
    refine XS.icmpNo X1.here hx rfl (hb hby d29_5) rfl (teq (by decide : (0 : Int32) = (0 : Int32))).2 ?_
    refine XS.aloadN X1.here hx rfl (hb hby d29_8) rfl rfl ?_
    show OwG p e below T1 m 9 #[vR a, vR y, vI 65, vI 0] [(.ref a)] _
    refine st2 _ ?_
    show OwG p e below T2 m 12 #[vR a, vR y, vI 65, vI 0] [(.ref b)] _
    refine XS.iconst X2.here hx rfl (hb hby d29_12) ?_
    refine XS.aloadN X2.here hx rfl (hb hby d29_13) rfl rfl ?_
    refine XS.iloadN X2.here hx rfl (hb hby d29_14) rfl ?_
    refine XS.iloadN X2.here hx rfl (hb hby d29_15) rfl ?_
    refine XS.ishl X2.here hx rfl (hb hby d29_16) rfl ?_
    refine XS.aloadN X2.here hx rfl (hb hby d29_17) rfl rfl ?_
    show OwG p e below T2 m 18 #[vR a, vR y, vI 65, vI 0] [(.ref a), (.int 65), (.ref y), (.int 0), (.ref b)] _
    refine st3 _ ?_
    show OwG p e below T3 m 21 #[vR a, vR y, vI 65, vI 0] [(.ref b), (.int 65), (.ref y), (.int 0), (.ref b)] _
    refine X3.arraylength hx (by rw [e3]; exact Ar4.1) (State.isArrayOf_alike hZ.alike Ar4.2.1) (g := (mkF m 21 #[vR a, vR y, vI 65, vI 0] [(.ref b), (.int 65), (.ref y), (.int 0), (.ref b)])) rfl rfl (hb hby d29_21) _ ?_
    rw [len_of Sz4 Nn4]
    show OwG p e below T3 m 22 #[vR a, vR y, vI 65, vI 0] [(.int 9), (.int 65), (.ref y), (.int 0), (.ref b)] _
    refine st5 _ ?_
    show OwG p e below T5 m 25 #[vR a, vR y, vI 65, vI 0] [] _
    refine XS.goto X5.here hx rfl (pc0 := 25) (pc' := 43) rfl (hb hby d29_25) (by decide) (by decide) ?_
    show OwG p e below T5 m 43 #[vR a, vR y, vI 65, vI 0] [] _
    exact X5.returnOut hx Bd.returns (hb hby d29_43) hr
  · have eF : (T5.setFrames fs).heap = h5 := e5
    exact ⟨N5, rfl, by rw [eF]; exact ⟨O5, Kp5, V5⟩⟩
theorem rmPut_142_65_9 (l : Launch) (Z : State) (a0 : Array Value) (hw : OwHw Z a0) (ws : List Jvm.Cond) (n0 : Nat) (h0 : Heap) (O : Old Z n0 h0) (qqR qqN qqK qqU qqS qqE : Addr) (qqI : Int32) (qqM : Addr) (W : OwW Z qqR qqN qqK qqU qqS qqE qqI qqM) (sb b : Addr) (k : ClassId) (a ab : Addr) (ak : ClassId) (Eb : Exa Z h0 sb zs19) (Gv : Fld Z h0 sb zs14 "value" "[B" (.ref b)) (Gc : Fld Z h0 sb zs14 "coder" "B" (.int 0)) (Gn : Fld Z h0 sb zs14 "count" "I" (.int 65)) (Vbx : owB Z h0 b k (142 : Int32)) (Ess : Exa Z h0 a zs18) (Fcs : Fld Z h0 a zs18 "coder" "B" (.int 0)) (Fvs : Fld Z h0 a zs18 "value" "[B" (.ref ab)) (Vbs : owB Z h0 ab ak (9 : Int32)) (gb : n0 ≤ b) :
    OwCon l yy16 j24 3 none ws (rM 2 0 0 33) #[(.ref sb), (.int 65), (.ref a)] Z h0 (OwP (fun v h => v = none ∧ Old Z n0 h ∧ Keep h0 h [b] ∧ owB Z h b k (142 : Int32)) n0) := by
  refine MetFree.of_bodySF (plainFor_of_name owpn27) hisR ?_
  intro p e s m args below meth c s₁ Bd hml0 hP hK
  have hi := @own_hi Z a0 hw
  obtain ⟨rfl, hZ, hh⟩ := hP
  have hx := Bd.exec
  have hby := Bd.bytes
  have hml : c.maxLocals = 3 := hml0
  have hown := findClass_of_methodNamed Bd.named
  have X0 : Stand p l e (rM 2 0 0 33) s m #[(.ref sb), (.int 65), (.ref a)] below meth c s₁ [] 0 0 := Stand.of_body Bd
  have e0 : s₁.heap = h0 := by rw [← hh, Bd.state]; rfl
  have N0 := Fr.nil n0
  have ef : entryFrame m #[(.ref sb), (.int 65), (.ref a)] 3 = mkF m 0 #[.val (.ref sb), .val (.int 65), .val (.ref a)] [] := by first | (simp [entryFrame, mkF, argsToLocals, Value.category]; done) | rfl
  obtain ⟨cq1, kq1, q1a, q1b, q1c⟩ := isOf hZ e0 Eb
  obtain ⟨_, _, ⟨T1, L1, k1, n1⟩, -, X1, ⟨Lc1, hQ1, l1, y1, z1⟩, st1⟩ := X0.virtualBack hx (y := yy12) (z := yy12) hown (mvT hZ (hi 223 rfl)) (own_decl (mvT hZ (hi 224 rfl)) (mvT hZ (hi 227 rfl))) (notFace_of_selects (args := #[]) (mvT hZ (hi 226 rfl))) (mvT hZ (hi 226 rfl)) (mvT hZ (hi 224 rfl)) (by decide) (backOf (W := 0) (rmInf l Z a0 hw [] n0 h0 O qqR qqN qqK qqU qqS qqE qqI qqM W sb a Gc Ess Fcs) hZ (hi 227 rfl) (hi 179 rfl) (by decide) (by decide)) q1a q1c (g := (mkF m 2 #[vR sb, vI 65, vR a] [(.ref a), (.ref sb)])) rfl (by rw [hml]; rfl) (Steps.refl _) (argsL := [(.ref a)]) (rest := []) (lenOf owpd3 rfl) rfl (Nat.le_of_eq rfl) (hb hby d27_2) (fun _ _ => ⟨rfl, e0, (by decide : 0 + 0 ≤ _), (by decide : 0 + 0 ≤ _)⟩)
  dsimp only [Pt.U, Pt.locs, Pt.cells, Pt.slots] at X1 l1 y1 z1 st1 hQ1
  subst l1 y1 z1
  obtain ⟨rfl, Nq1, e1⟩ := hQ1
  have N1 := Fr.app N0 Nq1
  obtain ⟨T2, X2, e2, st2⟩ := getF X1 hx hZ hown (host := "") (Or.inl (hi 183 rfl)) Via.refl e1 Gv (g := (mkF m 7 #[vR sb, vI 65, vR a] [(.ref sb), (.ref a)])) rfl rfl (hb hby d27_7)
  obtain ⟨T3, X3, e3, st3⟩ := getF X2 hx hZ hown (host := "") (Or.inl (hi 185 rfl)) Via.refl e2 Gc (g := (mkF m 12 #[vR sb, vI 65, vR a] [(.ref sb), (.int 65), (.ref b), (.ref a)])) rfl rfl (hb hby d27_12)
  obtain ⟨cq4, kq4, q4a, q4b, q4c⟩ := isOf hZ e3 Ess
  obtain ⟨_, _, ⟨T4, L4, k4, n4⟩, -, X4, ⟨Lc4, hQ4, l4, y4, z4⟩, st4⟩ := X3.virtualBack hx (y := yy24) (z := yy24) hown (mvT hZ (hi 229 rfl)) (mvT hZ (hi 230 rfl)) (notFace_of_selects (args := #[]) (mvT hZ (hi 232 rfl))) (mvT hZ (hi 232 rfl)) (mvT hZ (hi 231 rfl)) (by decide) (backOf (W := 0) (rmGb_9_142_65 l Z a0 hw [] n0 h0 O qqR qqN qqK qqU qqS qqE qqI qqM W a ab ak b k Ess Fcs Fvs Vbs Vbx gb) hZ (hi 233 rfl) (hi 81 rfl) (by decide) (by decide)) q4a q4c (g := (mkF m 15 #[vR sb, vI 65, vR a] [(.int 0), (.int 65), (.ref b), (.ref a)])) rfl (by rw [hml]; rfl) (Steps.refl _) (argsL := [(.ref b), (.int 65), (.int 0)]) (rest := []) (lenOf owpd4 rfl) rfl (Nat.le_of_eq rfl) (hb hby d27_15) (fun _ _ => ⟨rfl, e3, (by decide : 0 + 0 ≤ _), (by decide : 0 + 0 ≤ _)⟩)
  dsimp only [Pt.U, Pt.locs, Pt.cells, Pt.slots] at X4 l4 y4 z4 st4 hQ4
  subst l4 y4 z4
  obtain ⟨Nq4, hP4⟩ := hQ4
  have N4 := Fr.app N1 Nq4
  have ee4 : T4.heap = T4.heap := rfl
  obtain ⟨rfl, Oc4, Kc4, Vb4⟩ := hP4
  have Kp4 : Keep h0 T4.heap [b] := (Keep.refl h0 [b]).trans Kc4 (allS (P := fun x => x ∈ [b] ∨ h0.size ≤ x) (Or.inl (List.mem_of_getElem? (i := 0) rfl)) (all0 (P := fun x => x ∈ [b] ∨ h0.size ≤ x)))
  obtain ⟨fs, hr, hrun, hended, hW, hsame⟩ := X4.leave (v := none) (fun _ => rfl)
  refine ⟨_, _, castTop ef ?_, hrun, hended, _, _, rfl, ?_, ⟨_, rfl⟩, hW, hsame.mono (by decide) (by decide)⟩
  · show OwG p e below s₁ m 0 #[vR sb, vI 65, vR a] [] _
    refine XS.aloadN X0.here hx rfl (hb hby d27_0) rfl rfl ?_
    show OwG p e below s₁ m 1 #[vR sb, vI 65, vR a] [(.ref sb)] _
    refine XS.aloadN X0.here hx rfl (hb hby d27_1) rfl rfl ?_
    show OwG p e below s₁ m 2 #[vR sb, vI 65, vR a] [(.ref a), (.ref sb)] _
    refine st1.trans ?_
    show OwG p e below T1 m 5 #[vR sb, vI 65, vR a] [] _
    refine XS.aloadN X1.here hx rfl (hb hby d27_5) rfl rfl ?_
    refine XS.aloadN X1.here hx rfl (hb hby d27_6) rfl rfl ?_
    show OwG p e below T1 m 7 #[vR sb, vI 65, vR a] [(.ref sb), (.ref a)] _
    refine st2 _ ?_
    show OwG p e below T2 m 10 #[vR sb, vI 65, vR a] [(.ref b), (.ref a)] _
    refine XS.iloadN X2.here hx rfl (hb hby d27_10) rfl ?_
    refine XS.aloadN X2.here hx rfl (hb hby d27_11) rfl rfl ?_
    show OwG p e below T2 m 12 #[vR sb, vI 65, vR a] [(.ref sb), (.int 65), (.ref b), (.ref a)] _
    refine st3 _ ?_
    show OwG p e below T3 m 15 #[vR sb, vI 65, vR a] [(.int 0), (.int 65), (.ref b), (.ref a)] _
    refine st4.trans ?_
    show OwG p e below T4 m 18 #[vR sb, vI 65, vR a] [] _
    exact X4.returnOut hx Bd.returns (hb hby d27_18) hr
  · have eF : (T4.setFrames fs).heap = T4.heap := ee4
    exact ⟨N4, rfl, by rw [eF]; exact ⟨Oc4, Kp4, Vb4⟩⟩
theorem rmApA_70_65_9 (l : Launch) (Z : State) (a0 : Array Value) (hw : OwHw Z a0) (ws : List Jvm.Cond) (n0 : Nat) (h0 : Heap) (O : Old Z n0 h0) (qqR qqN qqK qqU qqS qqE : Addr) (qqI : Int32) (qqM : Addr) (W : OwW Z qqR qqN qqK qqU qqS qqE qqI qqM) (sb b : Addr) (k : ClassId) (a ab : Addr) (ak : ClassId) (Eb : Exa Z h0 sb zs19) (Gv : Fld Z h0 sb zs14 "value" "[B" (.ref b)) (Gc : Fld Z h0 sb zs14 "coder" "B" (.int 0)) (Gn : Fld Z h0 sb zs14 "count" "I" (.int 65)) (Vbx : owB Z h0 b k (70 : Int32)) (Ess : Exa Z h0 a zs18) (Fcs : Fld Z h0 a zs18 "coder" "B" (.int 0)) (Fvs : Fld Z h0 a zs18 "value" "[B" (.ref ab)) (Vbs : owB Z h0 ab ak (9 : Int32)) (gs : n0 ≤ sb) (gb : n0 ≤ b) :
    OwCon l yy9 j29 3 (some (.object zs14)) ws (rM 4 1 142 62) #[(.ref sb), (.ref a)] Z h0 (OwP (fun v h => v = some (.ref sb) ∧ Old Z n0 h ∧ Keep h0 h [sb] ∧ ∃ (b' : Addr) (k' : ClassId), h0.size ≤ b' ∧ Exa Z h sb zs19 ∧ Fld Z h sb zs14 "value" "[B" (.ref b') ∧ Fld Z h sb zs14 "coder" "B" (.int 0) ∧ Fld Z h sb zs14 "count" "I" (.int 74) ∧ owB Z h b' k' (142 : Int32)) n0) := by
  refine MetFree.of_bodySF (plainFor_of_name owpn23) hisR ?_
  intro p e s m args below meth c s₁ Bd hml0 hP hK
  have hi := @own_hi Z a0 hw
  obtain ⟨rfl, hZ, hh⟩ := hP
  have hx := Bd.exec
  have hby := Bd.bytes
  have hml : c.maxLocals = 3 := hml0
  have hown := findClass_of_methodNamed Bd.named
  have X0 : Stand p l e (rM 4 1 142 62) s m #[(.ref sb), (.ref a)] below meth c s₁ [] 0 0 := Stand.of_body Bd
  have e0 : s₁.heap = h0 := by rw [← hh, Bd.state]; rfl
  have N0 := Fr.nil n0
  have ef : entryFrame m #[(.ref sb), (.ref a)] 3 = mkF m 0 #[.val (.ref sb), .val (.ref a), .unset] [] := by first | (simp [entryFrame, mkF, argsToLocals, Value.category]; done) | rfl
  obtain ⟨cq1, kq1, q1a, q1b, q1c⟩ := isOf hZ e0 Ess
  obtain ⟨_, _, ⟨T1, L1, k1, n1⟩, -, X1, ⟨Lc1, hQ1, l1, y1, z1⟩, st1⟩ := X0.virtualBack hx (y := yy25) (z := yy25) hown (mvT hZ (hi 198 rfl)) (mvT hZ (hi 199 rfl)) (notFace_of_selects (args := #[]) (mvT hZ (hi 201 rfl))) (mvT hZ (hi 201 rfl)) (mvT hZ (hi 200 rfl)) (by decide) (backOf (W := 0) (rmLen9 l Z a0 hw [] n0 h0 O qqR qqN qqK qqU qqS qqE qqI qqM W a ab ak Ess Fcs Fvs Vbs) hZ (hi 202 rfl) (hi 81 rfl) (by decide) (by decide)) q1a q1c (g := (mkF m 10 #[vR sb, vR a, .unset] [(.ref a)])) rfl (by rw [hml]; rfl) (Steps.refl _) (argsL := []) (rest := []) (lenOf owpd5 rfl) rfl (Nat.le_of_eq rfl) (hb hby d23_10) (fun _ _ => ⟨rfl, e0, (by decide : 0 + 0 ≤ _), (by decide : 0 + 0 ≤ _)⟩)
  dsimp only [Pt.U, Pt.locs, Pt.cells, Pt.slots] at X1 l1 y1 z1 st1 hQ1
  subst l1 y1 z1
  obtain ⟨rfl, Nq1, e1⟩ := hQ1
  have N1 := Fr.app N0 Nq1
  obtain ⟨T2, X2, e2, st2⟩ := getF X1 hx hZ hown (host := "") (Or.inl (hi 211 rfl)) Via.refl e1 Gn (g := (mkF m 16 #[vR sb, vR a, vI 9] [(.ref sb), (.ref sb)])) rfl rfl (hb hby d23_16)
  obtain ⟨cq3, kq3, q3a, q3b, q3c⟩ := isOf hZ e2 Eb
  obtain ⟨_, _, ⟨T3, L3, k3, n3⟩, -, X3, ⟨Lc3, hQ3, l3, y3, z3⟩, st3⟩ := X2.virtualBack hx (y := yy10) (z := yy10) hown (mvT hZ (hi 213 rfl)) (own_decl (mvT hZ (hi 214 rfl)) (mvT hZ (hi 217 rfl))) (notFace_of_selects (args := #[]) (mvT hZ (hi 216 rfl))) (mvT hZ (hi 216 rfl)) (mvT hZ (hi 214 rfl)) (by decide) (backOf (W := 0) (rmEns_70_74 l Z a0 hw [] n0 h0 O qqR qqN qqK qqU qqS qqE qqI qqM W sb b k Eb Gv Gc Gn Vbx gs) hZ (hi 217 rfl) (hi 179 rfl) (by decide) (by decide)) q3a q3c (g := (mkF m 21 #[vR sb, vR a, vI 9] [(.int 74), (.ref sb)])) rfl (by rw [hml]; rfl) (Steps.refl _) (argsL := [(.int 74)]) (rest := []) (lenOf owpd1 rfl) rfl (Nat.le_of_eq rfl) (hb hby d23_21) (fun _ _ => ⟨rfl, e2, (by decide : 0 + 1 ≤ _), (by decide : 0 + 142 ≤ _)⟩)
  dsimp only [Pt.U, Pt.locs, Pt.cells, Pt.slots] at X3 l3 y3 z3 st3 hQ3
  subst l3 y3 z3
  obtain ⟨Nq3, hP3⟩ := hQ3
  have N3 := Fr.app N1 Nq3
  have ee3 : T3.heap = T3.heap := rfl
  obtain ⟨rfl, Oc3, Kc3, bb3, kk3, hb3, Ec3, Gv3, Gc3, Gn3, Vb3⟩ := hP3
  have ne_sb_3 : sb ≠ bb3 := Nat.ne_of_lt (Nat.lt_of_lt_of_le Eb.lt hb3)
  have ne_b_3 : b ≠ bb3 := Nat.ne_of_lt (Nat.lt_of_lt_of_le Vbx.lt hb3)
  have ne_a_3 : a ≠ bb3 := Nat.ne_of_lt (Nat.lt_of_lt_of_le Ess.lt hb3)
  have ne_ab_3 : ab ≠ bb3 := Nat.ne_of_lt (Nat.lt_of_lt_of_le Vbs.lt hb3)
  have gx3 : n0 ≤ bb3 := Nat.le_trans (Nat.le_trans (Nat.le_of_eq O.1.symm) O.2.1) hb3
  have sz3 : h0.size ≤ bb3 := Nat.le_trans (Keep.refl h0 [sb]).1 hb3
  have Kp3 : Keep h0 T3.heap [sb] := (Keep.refl h0 [sb]).trans Kc3 (allS (P := fun x => x ∈ [sb] ∨ h0.size ≤ x) (Or.inl (List.mem_of_getElem? (i := 0) rfl)) (all0 (P := fun x => x ∈ [sb] ∨ h0.size ≤ x)))
  obtain ⟨T4, X4, e4, st4⟩ := getF X3 hx hZ hown (host := "") (Or.inl (hi 211 rfl)) Via.refl ee3 Gn3 (g := (mkF m 26 #[vR sb, vR a, vI 9] [(.ref sb), (.ref sb)])) rfl rfl (hb hby d23_26)
  have fa5 := (Ess.keep Kc3)
  have fa6 := (Fcs.keep Kc3 (ninS (Exa.ne fa5 Ec3 (by decide)) nin0))
  have fa7 := (Fvs.keep Kc3 (ninS (Exa.ne fa5 Ec3 (by decide)) nin0))
  have nq8 := owB.ne Vbs Eb (hi 170 rfl)
  have fa9 := (Vbs.keep Kc3 (ninS nq8 nin0))
  obtain ⟨cq10, kq10, q10a, q10b, q10c⟩ := isOf hZ e4 Ec3
  obtain ⟨_, _, ⟨T10, L10, k10, n10⟩, -, X10, ⟨Lc10, hQ10, l10, y10, z10⟩, st10⟩ := X4.virtualBack hx (y := yy16) (z := yy16) hown (mvT hZ (hi 218 rfl)) (own_decl (mvT hZ (hi 219 rfl)) (mvT hZ (hi 222 rfl))) (notFace_of_selects (args := #[]) (mvT hZ (hi 221 rfl))) (mvT hZ (hi 221 rfl)) (mvT hZ (hi 219 rfl)) (by decide) (backOf (W := 0) (rmPut_142_65_9 l Z a0 hw [] n0 T3.heap Oc3 qqR qqN qqK qqU qqS qqE qqI qqM W sb bb3 kk3 a ab ak Ec3 Gv3 Gc3 Gn3 Vb3 fa5 fa6 fa7 fa9 gx3) hZ (hi 222 rfl) (hi 179 rfl) (by decide) (by decide)) q10a q10c (g := (mkF m 30 #[vR sb, vR a, vI 9] [(.ref a), (.int 65), (.ref sb)])) rfl (by rw [hml]; rfl) (Steps.refl _) (argsL := [(.int 65), (.ref a)]) (rest := []) (lenOf owpd6 rfl) rfl (Nat.le_of_eq rfl) (hb hby d23_30) (fun _ _ => ⟨rfl, e4, (by decide : 1 + 0 ≤ _), (by decide : 142 + 0 ≤ _)⟩)
  dsimp only [Pt.U, Pt.locs, Pt.cells, Pt.slots] at X10 l10 y10 z10 st10 hQ10
  subst l10 y10 z10
  obtain ⟨Nq10, hP10⟩ := hQ10
  have N10 := Fr.app N3 Nq10
  have ee10 : T10.heap = T10.heap := rfl
  obtain ⟨rfl, Oc10, Kc10, Vb10⟩ := hP10
  have Kp10 : Keep h0 T10.heap [sb] := Kp3.trans Kc10 (allS (P := fun x => x ∈ [sb] ∨ h0.size ≤ x) (Or.inr sz3) (all0 (P := fun x => x ∈ [sb] ∨ h0.size ≤ x)))
  have fa11 := (Gn3.keep Kc10 (ninS ne_sb_3 nin0))
  obtain ⟨T12, X12, e12, st12⟩ := getF X10 hx hZ hown (host := "") (Or.inl (hi 211 rfl)) Via.refl ee10 fa11 (g := (mkF m 35 #[vR sb, vR a, vI 9] [(.ref sb), (.ref sb)])) rfl rfl (hb hby d23_35)
  have fa13 := (Ec3.keep Kc10)
  obtain ⟨T14, h14, X14, e14, W14, st14⟩ := putF X12 hx hZ hown (host := "") (Or.inl (hi 211 rfl)) Via.refl e12 fa11 fa13 (Or.inl (hi 212 rfl)) (hi 170 rfl) (ty := .int) (by decide) rfl rfl (g := (mkF m 40 #[vR sb, vR a, vI 9] [(.int 74), (.ref sb)])) rfl rfl (hb hby d23_40)
  have Fw14 := fa11.same W14
  have N14 := Fr.snoc X14 N10 gs
  have O14 := Oc10.wr W14 gs
  have Kp14 : Keep h0 h14 [sb] := Kp10.wr W14 (Or.inl (List.mem_of_getElem? (i := 0) rfl))
  have fa15 := (fa13.wr W14)
  have fa16 := ((Gv3.keep Kc10 (ninS ne_sb_3 nin0)).other W14 (Or.inr (slot_ne (Or.inl (hi 184 rfl)) (Or.inl (hi 212 rfl)) (by decide) (t := (.array .byte)) (t' := .int) (by decide) (by decide))))
  have fa17 := ((Gc3.keep Kc10 (ninS ne_sb_3 nin0)).other W14 (Or.inr (slot_ne (Or.inl (hi 186 rfl)) (Or.inl (hi 212 rfl)) (by decide) (t := .byte) (t' := .int) (by decide) (by decide))))
  have fa18 := (Vb10.other W14 (Ne.symm ne_sb_3))
  obtain ⟨fs, hr, hrun, hended, hW, hsame⟩ := X14.leave (v := some (.ref sb)) (fun h => by rw [Bd.returns] at h; cases h)
  refine ⟨_, _, castTop ef ?_, hrun, hended, _, _, rfl, ?_, ⟨_, rfl⟩, hW, hsame.mono (by decide) (by decide)⟩
  · show OwG p e below s₁ m 0 #[vR sb, vR a, .unset] [] _
    refine XS.aloadN X0.here hx rfl (hb hby d23_0) rfl rfl ?_
    show OwG p e below s₁ m 1 #[vR sb, vR a, .unset] [(.ref a)] _
    refine XS.ifnonnullYes X0.here hx rfl (pc0 := 1) (pc' := 9) rfl (hb hby d23_1) rfl (by decide) (by decide) ?_
    refine XS.aloadN X0.here hx rfl (hb hby d23_9) rfl rfl ?_
    show OwG p e below s₁ m 10 #[vR sb, vR a, .unset] [(.ref a)] _
    refine st1.trans ?_
    show OwG p e below T1 m 13 #[vR sb, vR a, .unset] [(.int 9)] _
    refine XS.istoreN X1.here hx rfl (hb hby d23_13) rfl (l' := #[vR sb, vR a, vI 9]) rfl ?_
    refine XS.aloadN X1.here hx rfl (hb hby d23_14) rfl rfl ?_
    refine XS.aloadN X1.here hx rfl (hb hby d23_15) rfl rfl ?_
    show OwG p e below T1 m 16 #[vR sb, vR a, vI 9] [(.ref sb), (.ref sb)] _
    refine st2 _ ?_
    show OwG p e below T2 m 19 #[vR sb, vR a, vI 9] [(.int 65), (.ref sb)] _
    refine XS.iloadN X2.here hx rfl (hb hby d23_19) rfl ?_
    refine XS.iadd X2.here hx rfl (hb hby d23_20) rfl ?_
    show OwG p e below T2 m 21 #[vR sb, vR a, vI 9] [(.int 74), (.ref sb)] _
    refine st3.trans ?_
    show OwG p e below T3 m 24 #[vR sb, vR a, vI 9] [] _
    refine XS.aloadN X3.here hx rfl (hb hby d23_24) rfl rfl ?_
    refine XS.aloadN X3.here hx rfl (hb hby d23_25) rfl rfl ?_
    show OwG p e below T3 m 26 #[vR sb, vR a, vI 9] [(.ref sb), (.ref sb)] _
    refine st4 _ ?_
    show OwG p e below T4 m 29 #[vR sb, vR a, vI 9] [(.int 65), (.ref sb)] _
    refine XS.aloadN X4.here hx rfl (hb hby d23_29) rfl rfl ?_
    show OwG p e below T4 m 30 #[vR sb, vR a, vI 9] [(.ref a), (.int 65), (.ref sb)] _
    refine st10.trans ?_
    show OwG p e below T10 m 33 #[vR sb, vR a, vI 9] [] _
    refine XS.aloadN X10.here hx rfl (hb hby d23_33) rfl rfl ?_
    refine XS.dup X10.here hx rfl (hb hby d23_34) rfl rfl ?_
    show OwG p e below T10 m 35 #[vR sb, vR a, vI 9] [(.ref sb), (.ref sb)] _
    refine st12 _ ?_
    show OwG p e below T12 m 38 #[vR sb, vR a, vI 9] [(.int 65), (.ref sb)] _
    refine XS.iloadN X12.here hx rfl (hb hby d23_38) rfl ?_
    refine XS.iadd X12.here hx rfl (hb hby d23_39) rfl ?_
    show OwG p e below T12 m 40 #[vR sb, vR a, vI 9] [(.int 74), (.ref sb)] _
    refine st14 _ ?_
    show OwG p e below T14 m 43 #[vR sb, vR a, vI 9] [] _
    refine XS.aloadN X14.here hx rfl (hb hby d23_43) rfl rfl ?_
    show OwG p e below T14 m 44 #[vR sb, vR a, vI 9] [(.ref sb)] _
    exact retOut X14 hx Bd.returns rfl (Or.inr (Or.inr (Or.inr (Or.inr ⟨rfl, rfl, rfl⟩)))) (hb hby d23_44) hr
  · have eF : (T14.setFrames fs).heap = h14 := e14
    exact ⟨N14, rfl, by rw [eF]; exact ⟨O14, Kp14, bb3, kk3, sz3, fa15, fa16, fa17, Fw14, fa18⟩⟩
theorem rmApS_70_65_9 (l : Launch) (Z : State) (a0 : Array Value) (hw : OwHw Z a0) (ws : List Jvm.Cond) (n0 : Nat) (h0 : Heap) (O : Old Z n0 h0) (qqR qqN qqK qqU qqS qqE : Addr) (qqI : Int32) (qqM : Addr) (W : OwW Z qqR qqN qqK qqU qqS qqE qqI qqM) (sb b : Addr) (k : ClassId) (a ab : Addr) (ak : ClassId) (Eb : Exa Z h0 sb zs19) (Gv : Fld Z h0 sb zs14 "value" "[B" (.ref b)) (Gc : Fld Z h0 sb zs14 "coder" "B" (.int 0)) (Gn : Fld Z h0 sb zs14 "count" "I" (.int 65)) (Vbx : owB Z h0 b k (70 : Int32)) (Ess : Exa Z h0 a zs18) (Fcs : Fld Z h0 a zs18 "coder" "B" (.int 0)) (Fvs : Fld Z h0 a zs18 "value" "[B" (.ref ab)) (Vbs : owB Z h0 ab ak (9 : Int32)) (gs : n0 ≤ sb) (gb : n0 ≤ b) :
    OwCon l yy27 j38 2 (some (.object zs19)) ws (rM 5 1 142 76) #[(.ref sb), (.ref a)] Z h0 (OwP (fun v h => v = some (.ref sb) ∧ Old Z n0 h ∧ Keep h0 h [sb] ∧ ∃ (b' : Addr) (k' : ClassId), h0.size ≤ b' ∧ Exa Z h sb zs19 ∧ Fld Z h sb zs14 "value" "[B" (.ref b') ∧ Fld Z h sb zs14 "coder" "B" (.int 0) ∧ Fld Z h sb zs14 "count" "I" (.int 74) ∧ owB Z h b' k' (142 : Int32)) n0) := by
  refine MetFree.of_bodySF (plainFor_of_name owpn22) hisR ?_
  intro p e s m args below meth c s₁ Bd hml0 hP hK
  have hi := @own_hi Z a0 hw
  obtain ⟨rfl, hZ, hh⟩ := hP
  have hx := Bd.exec
  have hby := Bd.bytes
  have hml : c.maxLocals = 2 := hml0
  have hown := findClass_of_methodNamed Bd.named
  have X0 : Stand p l e (rM 5 1 142 76) s m #[(.ref sb), (.ref a)] below meth c s₁ [] 0 0 := Stand.of_body Bd
  have e0 : s₁.heap = h0 := by rw [← hh, Bd.state]; rfl
  have N0 := Fr.nil n0
  have ef : entryFrame m #[(.ref sb), (.ref a)] 2 = mkF m 0 #[.val (.ref sb), .val (.ref a)] [] := by first | (simp [entryFrame, mkF, argsToLocals, Value.category]; done) | rfl
  obtain ⟨_, _, ⟨T1, L1, k1, n1⟩, -, X1, ⟨Lc1, hQ1, l1, y1, z1⟩, st1⟩ := superBack X0 hx hZ (y := yy9) hown (hi 193 rfl) (own_same (hi 216 rfl) rfl (by decide) (hi 196 rfl)) (hi 194 rfl) (hi 195 rfl) (by decide) (backOf (W := 0) (rmApA_70_65_9 l Z a0 hw [] n0 h0 O qqR qqN qqK qqU qqS qqE qqI qqM W sb b k a ab ak Eb Gv Gc Gn Vbx Ess Fcs Fvs Vbs gs gb) hZ (hi 197 rfl) (hi 179 rfl) (by decide) (by decide)) e0 (Ins.self Eb) (g := (mkF m 2 #[vR sb, vR a] [(.ref a), (.ref sb)])) rfl (by rw [hml]; rfl) (hi 197 rfl) (argsL := [(.ref a)]) (rest := []) (lenOf owpd7 rfl) rfl (Nat.le_of_eq rfl) (hb hby d22_2) (fun _ _ => ⟨rfl, e0, (by decide : 0 + 1 ≤ _), (by decide : 0 + 142 ≤ _)⟩)
  dsimp only [Pt.U, Pt.locs, Pt.cells, Pt.slots] at X1 l1 y1 z1 st1 hQ1
  subst l1 y1 z1
  obtain ⟨Nq1, hP1⟩ := hQ1
  have N1 := Fr.app N0 Nq1
  have ee1 : T1.heap = T1.heap := rfl
  obtain ⟨rfl, Oc1, Kc1, bb1, kk1, hb1, Ec1, Gv1, Gc1, Gn1, Vb1⟩ := hP1
  have ne_sb_1 : sb ≠ bb1 := Nat.ne_of_lt (Nat.lt_of_lt_of_le Eb.lt hb1)
  have ne_b_1 : b ≠ bb1 := Nat.ne_of_lt (Nat.lt_of_lt_of_le Vbx.lt hb1)
  have ne_a_1 : a ≠ bb1 := Nat.ne_of_lt (Nat.lt_of_lt_of_le Ess.lt hb1)
  have ne_ab_1 : ab ≠ bb1 := Nat.ne_of_lt (Nat.lt_of_lt_of_le Vbs.lt hb1)
  have gx1 : n0 ≤ bb1 := Nat.le_trans (Nat.le_trans (Nat.le_of_eq O.1.symm) O.2.1) hb1
  have sz1 : h0.size ≤ bb1 := Nat.le_trans (Keep.refl h0 [sb]).1 hb1
  have Kp1 : Keep h0 T1.heap [sb] := (Keep.refl h0 [sb]).trans Kc1 (allS (P := fun x => x ∈ [sb] ∨ h0.size ≤ x) (Or.inl (List.mem_of_getElem? (i := 0) rfl)) (all0 (P := fun x => x ∈ [sb] ∨ h0.size ≤ x)))
  obtain ⟨fs, hr, hrun, hended, hW, hsame⟩ := X1.leave (v := some (.ref sb)) (fun h => by rw [Bd.returns] at h; cases h)
  refine ⟨_, _, castTop ef ?_, hrun, hended, _, _, rfl, ?_, ⟨_, rfl⟩, hW, hsame.mono (by decide) (by decide)⟩
  · show OwG p e below s₁ m 0 #[vR sb, vR a] [] _
    refine XS.aloadN X0.here hx rfl (hb hby d22_0) rfl rfl ?_
    show OwG p e below s₁ m 1 #[vR sb, vR a] [(.ref sb)] _
    refine XS.aloadN X0.here hx rfl (hb hby d22_1) rfl rfl ?_
    show OwG p e below s₁ m 2 #[vR sb, vR a] [(.ref a), (.ref sb)] _
    refine st1.trans ?_
    show OwG p e below T1 m 5 #[vR sb, vR a] [(.ref sb)] _
    refine XS.pop X1.here hx rfl (hb hby d22_5) rfl rfl ?_
    refine XS.aloadN X1.here hx rfl (hb hby d22_6) rfl rfl ?_
    show OwG p e below T1 m 7 #[vR sb, vR a] [(.ref sb)] _
    exact retOut X1 hx Bd.returns rfl (Or.inr (Or.inr (Or.inr (Or.inr ⟨rfl, rfl, rfl⟩)))) (hb hby d22_7) hr
  · have eF : (T1.setFrames fs).heap = T1.heap := ee1
    exact ⟨N1, rfl, by rw [eF]; exact ⟨Oc1, Kp1, bb1, kk1, sz1, Ec1, Gv1, Gc1, Gn1, Vb1⟩⟩
theorem rmMax_6_72 (l : Launch) (Z : State) (a0 : Array Value) (hw : OwHw Z a0) (ws : List Jvm.Cond) (n0 : Nat) (h0 : Heap) (O : Old Z n0 h0) (qqR qqN qqK qqU qqS qqE : Addr) (qqI : Int32) (qqM : Addr) (W : OwW Z qqR qqN qqK qqU qqS qqE qqI qqM)  :
    OwCon l yy19 j12 2 (some .int) ws (rM 0 0 0 0) #[(.int 6), (.int 72)] Z h0 (OwQ (some (.int 72)) h0 n0) := by
  refine MetFree.of_bodySF (Jvm.Free.JP.mathPlain rfl (by decide +kernel)) hisR ?_
  intro p e s m args below meth c s₁ Bd hml0 hP hK
  have hi := @own_hi Z a0 hw
  obtain ⟨rfl, hZ, hh⟩ := hP
  have hx := Bd.exec
  have hby := Bd.bytes
  have hml : c.maxLocals = 2 := hml0
  have hown := findClass_of_methodNamed Bd.named
  have X0 : Stand p l e (rM 0 0 0 0) s m #[(.int 6), (.int 72)] below meth c s₁ [] 0 0 := Stand.of_body Bd
  have e0 : s₁.heap = h0 := by rw [← hh, Bd.state]; rfl
  have N0 := Fr.nil n0
  have ef : entryFrame m #[(.int 6), (.int 72)] 2 = mkF m 0 #[.val (.int 6), .val (.int 72)] [] := by first | (simp [entryFrame, mkF, argsToLocals, Value.category]; done) | rfl
  obtain ⟨fs, hr, hrun, hended, hW, hsame⟩ := X0.leave (v := some (.int 72)) (fun h => by rw [Bd.returns] at h; cases h)
  refine ⟨_, _, castTop ef ?_, hrun, hended, _, _, rfl, ?_, ⟨_, rfl⟩, hW, hsame.mono (by decide) (by decide)⟩
  · show OwG p e below s₁ m 0 #[vI 6, vI 72] [] _
    refine XS.iloadN X0.here hx rfl (hb hby d32_0) rfl ?_
    show OwG p e below s₁ m 1 #[vI 6, vI 72] [(.int 6)] _
    refine XS.iloadN X0.here hx rfl (hb hby d32_1) rfl ?_
    refine XS.icmpYes X0.here hx rfl (pc0 := 2) (pc' := 9) rfl (hb hby d32_2) rfl (tlt (by decide : (6 : Int32) < (72 : Int32))).1 (by decide) (by decide) ?_
    refine XS.iloadN X0.here hx rfl (hb hby d32_9) rfl ?_
    show OwG p e below s₁ m 10 #[vI 6, vI 72] [(.int 72)] _
    exact retI X0 hx Bd.returns (hb hby d32_10) hr
  · have eF : (s₁.setFrames fs).heap = h0 := e0
    exact ⟨rfl, N0, eF⟩
theorem rmNl_70_6_72 (l : Launch) (Z : State) (a0 : Array Value) (hw : OwHw Z a0) (ws : List Jvm.Cond) (n0 : Nat) (h0 : Heap) (O : Old Z n0 h0) (qqR qqN qqK qqU qqS qqE : Addr) (qqI : Int32) (qqM : Addr) (W : OwW Z qqR qqN qqK qqU qqS qqE qqI qqM)  :
    OwCon l yy47 j16 4 (some .int) ws (rM 1 0 0 14) #[(.int 70), (.int 6), (.int 72)] Z h0 (OwQ (some (.int 142)) h0 n0) := by
  refine MetFree.of_bodySF (plainFor_of_name owpn31) hisR ?_
  intro p e s m args below meth c s₁ Bd hml0 hP hK
  have hi := @own_hi Z a0 hw
  obtain ⟨rfl, hZ, hh⟩ := hP
  have hx := Bd.exec
  have hby := Bd.bytes
  have hml : c.maxLocals = 4 := hml0
  have hown := findClass_of_methodNamed Bd.named
  have X0 : Stand p l e (rM 1 0 0 14) s m #[(.int 70), (.int 6), (.int 72)] below meth c s₁ [] 0 0 := Stand.of_body Bd
  have e0 : s₁.heap = h0 := by rw [← hh, Bd.state]; rfl
  have N0 := Fr.nil n0
  have ef : entryFrame m #[(.int 70), (.int 6), (.int 72)] 4 = mkF m 0 #[.val (.int 70), .val (.int 6), .val (.int 72), .unset] [] := by first | (simp [entryFrame, mkF, argsToLocals, Value.category]; done) | rfl
  obtain ⟨_, _, ⟨T1, L1, k1, n1⟩, -, X1, ⟨Lc1, hQ1, l1, y1, z1⟩, st1⟩ := Jvm.LawKit.callS X0 hx (y := yy19) hown (mvT hZ (hi 247 rfl)) (mvT hZ (hi 248 rfl)) (mvT hZ (hi 249 rfl)) (mvT hZ (hi 250 rfl)) (by decide) (backOf (W := 1) (rmMax_6_72 l Z a0 hw [] n0 h0 O qqR qqN qqK qqU qqS qqE qqI qqM W ) hZ (hi 250 rfl) (hi 249 rfl) (by decide) (by decide)) (g := (mkF m 3 #[vI 70, vI 6, vI 72, .unset] [(.int 72), (.int 6), (.int 70)])) rfl (by rw [hml]; rfl) (argsL := [(.int 6), (.int 72)]) (rest := [(.int 70)]) (lenOf owpd8 rfl) rfl (Nat.le_of_eq rfl) (hb hby d31_3) (fun _ _ => ⟨rfl, e0, (by decide : 0 + 0 ≤ _), (by decide : 0 + 0 ≤ _)⟩)
  dsimp only [Pt.U, Pt.locs, Pt.cells, Pt.slots] at X1 l1 y1 z1 st1 hQ1
  subst l1 y1 z1
  obtain ⟨rfl, Nq1, e1⟩ := hQ1
  have N1 := Fr.app N0 Nq1
  obtain ⟨fs, hr, hrun, hended, hW, hsame⟩ := X1.leave (v := some (.int 142)) (fun h => by rw [Bd.returns] at h; cases h)
  refine ⟨_, _, castTop ef ?_, hrun, hended, _, _, rfl, ?_, ⟨_, rfl⟩, hW, hsame.mono (by decide) (by decide)⟩
  · show OwG p e below s₁ m 0 #[vI 70, vI 6, vI 72, .unset] [] _
    refine XS.iloadN X0.here hx rfl (hb hby d31_0) rfl ?_
    show OwG p e below s₁ m 1 #[vI 70, vI 6, vI 72, .unset] [(.int 70)] _
    refine XS.iloadN X0.here hx rfl (hb hby d31_1) rfl ?_
    refine XS.iloadN X0.here hx rfl (hb hby d31_2) rfl ?_
    show OwG p e below s₁ m 3 #[vI 70, vI 6, vI 72, .unset] [(.int 72), (.int 6), (.int 70)] _
    refine st1 _ ?_
    show OwG p e below T1 m 6 #[vI 70, vI 6, vI 72, .unset] [(.int 72), (.int 70)] _
    refine XS.iadd X1.here hx rfl (hb hby d31_6) rfl ?_
    refine XS.istoreN X1.here hx rfl (hb hby d31_7) rfl (l' := #[vI 70, vI 6, vI 72, vI 142]) rfl ?_
    refine XS.iconst X1.here hx rfl (hb hby d31_8) ?_
    refine XS.iloadN X1.here hx rfl (hb hby d31_9) rfl ?_
    refine XS.icmpNo X1.here hx rfl (hb hby d31_10) rfl (tlt (by decide : (0 : Int32) < (142 : Int32))).2.1 ?_
    refine XS.iloadN X1.here hx rfl (hb hby d31_13) rfl ?_
    show OwG p e below T1 m 14 #[vI 70, vI 6, vI 72, vI 142] [(.int 142)] _
    refine X1.ldcInt hx hown (mvT hZ (hi 251 rfl)) (g := (mkF m 14 #[vI 70, vI 6, vI 72, vI 142] [(.int 142)])) rfl (hb hby d31_14) _ ?_
    show OwG p e below T1 m 16 #[vI 70, vI 6, vI 72, vI 142] [(.int 2147483639), (.int 142)] _
    refine XS.icmpNo X1.here hx rfl (hb hby d31_16) rfl (flt (by decide : ¬ ((2147483639 : Int32) < (142 : Int32)))).2.2.1 ?_
    refine XS.iloadN X1.here hx rfl (hb hby d31_19) rfl ?_
    show OwG p e below T1 m 20 #[vI 70, vI 6, vI 72, vI 142] [(.int 142)] _
    exact retI X1 hx Bd.returns (hb hby d31_20) hr
  · have eF : (T1.setFrames fs).heap = h0 := e1
    exact ⟨rfl, N1, eF⟩
theorem rmNc_70_76 (l : Launch) (Z : State) (a0 : Array Value) (hw : OwHw Z a0) (ws : List Jvm.Cond) (n0 : Nat) (h0 : Heap) (O : Old Z n0 h0) (qqR qqN qqK qqU qqS qqE : Addr) (qqI : Int32) (qqM : Addr) (W : OwW Z qqR qqN qqK qqU qqS qqE qqI qqM) (sb b : Addr) (k : ClassId) (nq : Int32) (Eb : Exa Z h0 sb zs19) (Gv : Fld Z h0 sb zs14 "value" "[B" (.ref b)) (Gc : Fld Z h0 sb zs14 "coder" "B" (.int 0)) (Gn : Fld Z h0 sb zs14 "count" "I" (.int nq)) (Vbx : owB Z h0 b k (70 : Int32)) :
    OwCon l yy15 j11 6 (some .int) ws (rM 2 0 0 29) #[(.ref sb), (.int 76)] Z h0 (OwQ (some (.int 142)) h0 n0) := by
  refine MetFree.of_bodySF (plainFor_of_name owpn30) hisR ?_
  intro p e s m args below meth c s₁ Bd hml0 hP hK
  have hi := @own_hi Z a0 hw
  obtain ⟨rfl, hZ, hh⟩ := hP
  have hx := Bd.exec
  have hby := Bd.bytes
  have hml : c.maxLocals = 6 := hml0
  have hown := findClass_of_methodNamed Bd.named
  have X0 : Stand p l e (rM 2 0 0 29) s m #[(.ref sb), (.int 76)] below meth c s₁ [] 0 0 := Stand.of_body Bd
  have e0 : s₁.heap = h0 := by rw [← hh, Bd.state]; rfl
  have N0 := Fr.nil n0
  have ef : entryFrame m #[(.ref sb), (.int 76)] 6 = mkF m 0 #[.val (.ref sb), .val (.int 76), .unset, .unset, .unset, .unset] [] := by first | (simp [entryFrame, mkF, argsToLocals, Value.category]; done) | rfl
  obtain ⟨T1, X1, e1, st1⟩ := getF X0 hx hZ hown (host := "") (Or.inl (hi 183 rfl)) Via.refl e0 Gv (g := (mkF m 1 #[vR sb, vI 76, .unset, .unset, .unset, .unset] [(.ref sb)])) rfl rfl (hb hby d30_1)
  obtain ⟨cl2, Ar2, Sz2, Nn2⟩ := Vbx.arr
  obtain ⟨T3, X3, e3, st3⟩ := getF X1 hx hZ hown (host := "") (Or.inl (hi 185 rfl)) Via.refl e1 Gc (g := (mkF m 8 #[vR sb, vI 76, vI 70, .unset, .unset, .unset] [(.ref sb), (.int 76)])) rfl rfl (hb hby d30_8)
  obtain ⟨T4, X4, e4, st4⟩ := getF X3 hx hZ hown (host := "") (Or.inl (hi 185 rfl)) Via.refl e3 Gc (g := (mkF m 24 #[vR sb, vI 76, vI 70, vI 76, vI 6, .unset] [(.ref sb), (.int 2), (.int 70), (.int 6), (.int 70)])) rfl rfl (hb hby d30_24)
  obtain ⟨_, _, ⟨T5, L5, k5, n5⟩, -, X5, ⟨Lc5, hQ5, l5, y5, z5⟩, st5⟩ := Jvm.LawKit.callS X4 hx (y := yy47) hown (mvT hZ (hi 243 rfl)) (mvT hZ (hi 244 rfl)) (mvT hZ (hi 245 rfl)) (mvT hZ (hi 246 rfl)) (by decide) (backOf (W := 0) (rmNl_70_6_72 l Z a0 hw [] n0 h0 O qqR qqN qqK qqU qqS qqE qqI qqM W ) hZ (hi 246 rfl) (hi 245 rfl) (by decide) (by decide)) (g := (mkF m 29 #[vR sb, vI 76, vI 70, vI 76, vI 6, .unset] [(.int 72), (.int 6), (.int 70)])) rfl (by rw [hml]; rfl) (argsL := [(.int 70), (.int 6), (.int 72)]) (rest := []) (lenOf owpd9 rfl) rfl (Nat.le_of_eq rfl) (hb hby d30_29) (fun _ _ => ⟨rfl, e4, (by decide : 0 + 0 ≤ _), (by decide : 0 + 0 ≤ _)⟩)
  dsimp only [Pt.U, Pt.locs, Pt.cells, Pt.slots] at X5 l5 y5 z5 st5 hQ5
  subst l5 y5 z5
  obtain ⟨rfl, Nq5, e5⟩ := hQ5
  have N5 := Fr.app N0 Nq5
  obtain ⟨T6, X6, e6, st6⟩ := getF X5 hx hZ hown (host := "") (Or.inl (hi 185 rfl)) Via.refl e5 Gc (g := (mkF m 54 #[vR sb, vI 76, vI 70, vI 76, vI 6, vI 142] [(.ref sb), (.int 142)])) rfl rfl (hb hby d30_54)
  obtain ⟨fs, hr, hrun, hended, hW, hsame⟩ := X6.leave (v := some (.int 142)) (fun h => by rw [Bd.returns] at h; cases h)
  refine ⟨_, _, castTop ef ?_, hrun, hended, _, _, rfl, ?_, ⟨_, rfl⟩, hW, hsame.mono (by decide) (by decide)⟩
  · show OwG p e below s₁ m 0 #[vR sb, vI 76, .unset, .unset, .unset, .unset] [] _
    refine XS.aloadN X0.here hx rfl (hb hby d30_0) rfl rfl ?_
    show OwG p e below s₁ m 1 #[vR sb, vI 76, .unset, .unset, .unset, .unset] [(.ref sb)] _
    refine st1 _ ?_
    show OwG p e below T1 m 4 #[vR sb, vI 76, .unset, .unset, .unset, .unset] [(.ref b)] _
    refine X1.arraylength hx (by rw [e1]; exact Ar2.1) (State.isArrayOf_alike hZ.alike Ar2.2.1) (g := (mkF m 4 #[vR sb, vI 76, .unset, .unset, .unset, .unset] [(.ref b)])) rfl rfl (hb hby d30_4) _ ?_
    rw [len_of Sz2 Nn2]
    show OwG p e below T1 m 5 #[vR sb, vI 76, .unset, .unset, .unset, .unset] [(.int 70)] _
    refine XS.istoreN X1.here hx rfl (hb hby d30_5) rfl (l' := #[vR sb, vI 76, vI 70, .unset, .unset, .unset]) rfl ?_
    refine XS.iloadN X1.here hx rfl (hb hby d30_6) rfl ?_
    refine XS.aloadN X1.here hx rfl (hb hby d30_7) rfl rfl ?_
    show OwG p e below T1 m 8 #[vR sb, vI 76, vI 70, .unset, .unset, .unset] [(.ref sb), (.int 76)] _
    refine st3 _ ?_
    show OwG p e below T3 m 11 #[vR sb, vI 76, vI 70, .unset, .unset, .unset] [(.int 0), (.int 76)] _
    refine XS.ishl X3.here hx rfl (hb hby d30_11) rfl ?_
    refine XS.istoreN X3.here hx rfl (hb hby d30_12) rfl (l' := #[vR sb, vI 76, vI 70, vI 76, .unset, .unset]) rfl ?_
    refine XS.iloadN X3.here hx rfl (hb hby d30_13) rfl ?_
    refine XS.iloadN X3.here hx rfl (hb hby d30_14) rfl ?_
    refine XS.isub X3.here hx rfl (hb hby d30_15) rfl ?_
    refine XS.istore X3.here hx rfl (hb hby d30_16) rfl (l' := #[vR sb, vI 76, vI 70, vI 76, vI 6, .unset]) rfl ?_
    show OwG p e below T3 m 18 #[vR sb, vI 76, vI 70, vI 76, vI 6, .unset] [] _
    refine XS.iloadN X3.here hx rfl (hb hby d30_18) rfl ?_
    refine XS.iload X3.here hx rfl (hb hby d30_19) rfl ?_
    refine XS.iloadN X3.here hx rfl (hb hby d30_21) rfl ?_
    refine XS.iconst X3.here hx rfl (hb hby d30_22) ?_
    refine XS.aloadN X3.here hx rfl (hb hby d30_23) rfl rfl ?_
    show OwG p e below T3 m 24 #[vR sb, vI 76, vI 70, vI 76, vI 6, .unset] [(.ref sb), (.int 2), (.int 70), (.int 6), (.int 70)] _
    refine st4 _ ?_
    show OwG p e below T4 m 27 #[vR sb, vI 76, vI 70, vI 76, vI 6, .unset] [(.int 0), (.int 2), (.int 70), (.int 6), (.int 70)] _
    refine XS.ishl X4.here hx rfl (hb hby d30_27) rfl ?_
    refine XS.iadd X4.here hx rfl (hb hby d30_28) rfl ?_
    show OwG p e below T4 m 29 #[vR sb, vI 76, vI 70, vI 76, vI 6, .unset] [(.int 72), (.int 6), (.int 70)] _
    refine st5 _ ?_
    show OwG p e below T5 m 32 #[vR sb, vI 76, vI 70, vI 76, vI 6, .unset] [(.int 142)] _
    refine XS.istore X5.here hx rfl (hb hby d30_32) rfl (l' := #[vR sb, vI 76, vI 70, vI 76, vI 6, vI 142]) rfl ?_
    refine XS.iload X5.here hx rfl (hb hby d30_34) rfl ?_
    show OwG p e below T5 m 36 #[vR sb, vI 76, vI 70, vI 76, vI 6, vI 142] [(.int 142)] _
    refine X5.ldcInt hx hown (mvT hZ (hi 252 rfl)) (g := (mkF m 36 #[vR sb, vI 76, vI 70, vI 76, vI 6, vI 142] [(.int 142)])) rfl (hb hby d30_36) _ ?_
    show OwG p e below T5 m 38 #[vR sb, vI 76, vI 70, vI 76, vI 6, vI 142] [(.int 2147483647), (.int 142)] _
    refine XS.icmpYes X5.here hx rfl (pc0 := 38) (pc' := 51) rfl (hb hby d30_38) rfl (feq (by decide : ¬ ((142 : Int32) = (2147483647 : Int32)))).2 (by decide) (by decide) ?_
    refine XS.iload X5.here hx rfl (hb hby d30_51) rfl ?_
    refine XS.aloadN X5.here hx rfl (hb hby d30_53) rfl rfl ?_
    show OwG p e below T5 m 54 #[vR sb, vI 76, vI 70, vI 76, vI 6, vI 142] [(.ref sb), (.int 142)] _
    refine st6 _ ?_
    show OwG p e below T6 m 57 #[vR sb, vI 76, vI 70, vI 76, vI 6, vI 142] [(.int 0), (.int 142)] _
    refine XS.ishr X6.here hx rfl (hb hby d30_57) rfl ?_
    show OwG p e below T6 m 58 #[vR sb, vI 76, vI 70, vI 76, vI 6, vI 142] [(.int 142)] _
    exact retI X6 hx Bd.returns (hb hby d30_58) hr
  · have eF : (T6.setFrames fs).heap = h0 := e6
    exact ⟨rfl, N5, eF⟩
theorem rmEns_70_76 (l : Launch) (Z : State) (a0 : Array Value) (hw : OwHw Z a0) (ws : List Jvm.Cond) (n0 : Nat) (h0 : Heap) (O : Old Z n0 h0) (qqR qqN qqK qqU qqS qqE : Addr) (qqI : Int32) (qqM : Addr) (W : OwW Z qqR qqN qqK qqU qqS qqE qqI qqM) (sb b : Addr) (k : ClassId) (Eb : Exa Z h0 sb zs19) (Gv : Fld Z h0 sb zs14 "value" "[B" (.ref b)) (Gc : Fld Z h0 sb zs14 "coder" "B" (.int 0)) (Gn : Fld Z h0 sb zs14 "count" "I" (.int 65)) (Vbx : owB Z h0 b k (70 : Int32)) (gs : n0 ≤ sb) :
    OwCon l yy10 j33 3 none ws (rM 3 1 142 48) #[(.ref sb), (.int 76)] Z h0 (OwP (fun v h => v = none ∧ Old Z n0 h ∧ Keep h0 h [sb] ∧ ∃ (b' : Addr) (k' : ClassId), h0.size ≤ b' ∧ Exa Z h sb zs19 ∧ Fld Z h sb zs14 "value" "[B" (.ref b') ∧ Fld Z h sb zs14 "coder" "B" (.int 0) ∧ Fld Z h sb zs14 "count" "I" (.int 65) ∧ owB Z h b' k' (142 : Int32)) n0) := by
  refine MetFree.of_bodySF (plainFor_of_name owpn26) hisR ?_
  intro p e s m args below meth c s₁ Bd hml0 hP hK
  have hi := @own_hi Z a0 hw
  obtain ⟨rfl, hZ, hh⟩ := hP
  have hx := Bd.exec
  have hby := Bd.bytes
  have hml : c.maxLocals = 3 := hml0
  have hown := findClass_of_methodNamed Bd.named
  have X0 : Stand p l e (rM 3 1 142 48) s m #[(.ref sb), (.int 76)] below meth c s₁ [] 0 0 := Stand.of_body Bd
  have e0 : s₁.heap = h0 := by rw [← hh, Bd.state]; rfl
  have N0 := Fr.nil n0
  have ef : entryFrame m #[(.ref sb), (.int 76)] 3 = mkF m 0 #[.val (.ref sb), .val (.int 76), .unset] [] := by first | (simp [entryFrame, mkF, argsToLocals, Value.category]; done) | rfl
  obtain ⟨T1, X1, e1, st1⟩ := getF X0 hx hZ hown (host := "") (Or.inl (hi 183 rfl)) Via.refl e0 Gv (g := (mkF m 1 #[vR sb, vI 76, .unset] [(.ref sb)])) rfl rfl (hb hby d26_1)
  obtain ⟨cl2, Ar2, Sz2, Nn2⟩ := Vbx.arr
  obtain ⟨T3, X3, e3, st3⟩ := getF X1 hx hZ hown (host := "") (Or.inl (hi 185 rfl)) Via.refl e1 Gc (g := (mkF m 6 #[vR sb, vI 76, .unset] [(.ref sb), (.int 70)])) rfl rfl (hb hby d26_6)
  obtain ⟨T4, X4, e4, st4⟩ := getF X3 hx hZ hown (host := "") (Or.inl (hi 183 rfl)) Via.refl e3 Gv (g := (mkF m 19 #[vR sb, vI 76, vI 70] [(.ref sb), (.ref sb)])) rfl rfl (hb hby d26_19)
  obtain ⟨cq5, kq5, q5a, q5b, q5c⟩ := isOf hZ e4 Eb
  obtain ⟨_, _, ⟨T5, L5, k5, n5⟩, -, X5, ⟨Lc5, hQ5, l5, y5, z5⟩, st5⟩ := X4.virtualBack hx (y := yy15) (z := yy15) hown (mvT hZ (hi 238 rfl)) (own_decl (mvT hZ (hi 239 rfl)) (mvT hZ (hi 242 rfl))) (notFace_of_selects (args := #[]) (mvT hZ (hi 241 rfl))) (mvT hZ (hi 241 rfl)) (mvT hZ (hi 239 rfl)) (by decide) (backOf (W := 2) (rmNc_70_76 l Z a0 hw [] n0 h0 O qqR qqN qqK qqU qqS qqE qqI qqM W sb b k (65 : Int32) Eb Gv Gc Gn Vbx) hZ (hi 242 rfl) (hi 179 rfl) (by decide) (by decide)) q5a q5c (g := (mkF m 24 #[vR sb, vI 76, vI 70] [(.int 76), (.ref sb), (.ref b), (.ref sb)])) rfl (by rw [hml]; rfl) (Steps.refl _) (argsL := [(.int 76)]) (rest := [(.ref b), (.ref sb)]) (lenOf owpd10 rfl) rfl (Nat.le_of_eq rfl) (hb hby d26_24) (fun _ _ => ⟨rfl, e4, (by decide : 0 + 0 ≤ _), (by decide : 0 + 0 ≤ _)⟩)
  dsimp only [Pt.U, Pt.locs, Pt.cells, Pt.slots] at X5 l5 y5 z5 st5 hQ5
  subst l5 y5 z5
  obtain ⟨rfl, Nq5, e5⟩ := hQ5
  have N5 := Fr.app N0 Nq5
  obtain ⟨T6, X6, e6, st6⟩ := getF X5 hx hZ hown (host := "") (Or.inl (hi 185 rfl)) Via.refl e5 Gc (g := (mkF m 28 #[vR sb, vI 76, vI 70] [(.ref sb), (.int 142), (.ref b), (.ref sb)])) rfl rfl (hb hby d26_28)
  obtain ⟨_, _, ⟨T7, L7, k7, n7⟩, -, X7, ⟨Lc7, hQ7, l7, y7, z7⟩, st7⟩ := Jvm.LawKit.callS X6 hx (y := yy40) hown (mvT hZ (hi 253 rfl)) (mvT hZ (hi 254 rfl)) (mvT hZ (hi 255 rfl)) (mvT hZ (hi 256 rfl)) (by decide) (backOf (W := 1) (rmCp_70_142 l Z a0 hw [] n0 h0 O qqR qqN qqK qqU qqS qqE qqI qqM W b k Vbx) hZ (hi 256 rfl) (hi 255 rfl) (by decide) (by decide)) (g := (mkF m 32 #[vR sb, vI 76, vI 70] [(.int 142), (.ref b), (.ref sb)])) rfl (by rw [hml]; rfl) (argsL := [(.ref b), (.int 142)]) (rest := [(.ref sb)]) (lenOf owpd11 rfl) rfl (Nat.le_of_eq rfl) (hb hby d26_32) (fun _ _ => ⟨rfl, e6, (by decide : 0 + 1 ≤ _), (by decide : 0 + 142 ≤ _)⟩)
  dsimp only [Pt.U, Pt.locs, Pt.cells, Pt.slots] at X7 l7 y7 z7 st7 hQ7
  subst l7 y7 z7
  obtain ⟨Nq7, hP7⟩ := hQ7
  have N7 := Fr.app N5 Nq7
  have ee7 : T7.heap = T7.heap := rfl
  obtain ⟨bb7, kk7, rfl, hb7, Oc7, Kc7, Vb7⟩ := hP7
  have ne_sb_7 : sb ≠ bb7 := Nat.ne_of_lt (Nat.lt_of_lt_of_le Eb.lt hb7)
  have ne_b_7 : b ≠ bb7 := Nat.ne_of_lt (Nat.lt_of_lt_of_le Vbx.lt hb7)
  have gx7 : n0 ≤ bb7 := Nat.le_trans (Nat.le_trans (Nat.le_of_eq O.1.symm) O.2.1) hb7
  have sz7 : h0.size ≤ bb7 := Nat.le_trans (Keep.refl h0 [sb]).1 hb7
  have Kp7 : Keep h0 T7.heap [sb] := (Keep.refl h0 [sb]).trans Kc7 (all0 (P := fun x => x ∈ [sb] ∨ h0.size ≤ x))
  have fa8 := (Gv.keep Kc7 nin0)
  have fa9 := (Eb.keep Kc7)
  obtain ⟨T10, h10, X10, e10, W10, st10⟩ := putF X7 hx hZ hown (host := "") (Or.inl (hi 183 rfl)) Via.refl ee7 fa8 fa9 (Or.inl (hi 184 rfl)) (hi 170 rfl) (ty := (.array .byte)) (by decide) rfl rfl (g := (mkF m 35 #[vR sb, vI 76, vI 70] [(.ref bb7), (.ref sb)])) rfl rfl (hb hby d26_35)
  have Fw10 := fa8.same W10
  have N10 := Fr.snoc X10 N7 gs
  have O10 := Oc7.wr W10 gs
  have Kp10 : Keep h0 h10 [sb] := Kp7.wr W10 (Or.inl (List.mem_of_getElem? (i := 0) rfl))
  have fa11 := (fa9.wr W10)
  have fa12 := ((Gc.keep Kc7 nin0).other W10 (Or.inr (slot_ne (Or.inl (hi 186 rfl)) (Or.inl (hi 184 rfl)) (by decide) (t := .byte) (t' := (.array .byte)) (by decide) (by decide))))
  have fa13 := ((Gn.keep Kc7 nin0).other W10 (Or.inr (slot_ne (Or.inl (hi 212 rfl)) (Or.inl (hi 184 rfl)) (by decide) (t := .int) (t' := (.array .byte)) (by decide) (by decide))))
  have fa14 := (Vb7.other W10 (Ne.symm ne_sb_7))
  obtain ⟨fs, hr, hrun, hended, hW, hsame⟩ := X10.leave (v := none) (fun _ => rfl)
  refine ⟨_, _, castTop ef ?_, hrun, hended, _, _, rfl, ?_, ⟨_, rfl⟩, hW, hsame.mono (by decide) (by decide)⟩
  · show OwG p e below s₁ m 0 #[vR sb, vI 76, .unset] [] _
    refine XS.aloadN X0.here hx rfl (hb hby d26_0) rfl rfl ?_
    show OwG p e below s₁ m 1 #[vR sb, vI 76, .unset] [(.ref sb)] _
    refine st1 _ ?_
    show OwG p e below T1 m 4 #[vR sb, vI 76, .unset] [(.ref b)] _
    refine X1.arraylength hx (by rw [e1]; exact Ar2.1) (State.isArrayOf_alike hZ.alike Ar2.2.1) (g := (mkF m 4 #[vR sb, vI 76, .unset] [(.ref b)])) rfl rfl (hb hby d26_4) _ ?_
    rw [len_of Sz2 Nn2]
    show OwG p e below T1 m 5 #[vR sb, vI 76, .unset] [(.int 70)] _
    refine XS.aloadN X1.here hx rfl (hb hby d26_5) rfl rfl ?_
    show OwG p e below T1 m 6 #[vR sb, vI 76, .unset] [(.ref sb), (.int 70)] _
    refine st3 _ ?_
    show OwG p e below T3 m 9 #[vR sb, vI 76, .unset] [(.int 0), (.int 70)] _
    refine XS.ishr X3.here hx rfl (hb hby d26_9) rfl ?_
    refine XS.istoreN X3.here hx rfl (hb hby d26_10) rfl (l' := #[vR sb, vI 76, vI 70]) rfl ?_
    refine XS.iloadN X3.here hx rfl (hb hby d26_11) rfl ?_
    refine XS.iloadN X3.here hx rfl (hb hby d26_12) rfl ?_
    refine XS.isub X3.here hx rfl (hb hby d26_13) rfl ?_
    refine XS.ifNo X3.here hx rfl (hb hby d26_14) rfl ((if0 _ _).trans (tlt (by decide : (0 : Int32) < (6 : Int32))).2.2.2) ?_
    show OwG p e below T3 m 17 #[vR sb, vI 76, vI 70] [] _
    refine XS.aloadN X3.here hx rfl (hb hby d26_17) rfl rfl ?_
    refine XS.aloadN X3.here hx rfl (hb hby d26_18) rfl rfl ?_
    show OwG p e below T3 m 19 #[vR sb, vI 76, vI 70] [(.ref sb), (.ref sb)] _
    refine st4 _ ?_
    show OwG p e below T4 m 22 #[vR sb, vI 76, vI 70] [(.ref b), (.ref sb)] _
    refine XS.aloadN X4.here hx rfl (hb hby d26_22) rfl rfl ?_
    refine XS.iloadN X4.here hx rfl (hb hby d26_23) rfl ?_
    show OwG p e below T4 m 24 #[vR sb, vI 76, vI 70] [(.int 76), (.ref sb), (.ref b), (.ref sb)] _
    refine st5.trans ?_
    show OwG p e below T5 m 27 #[vR sb, vI 76, vI 70] [(.int 142), (.ref b), (.ref sb)] _
    refine XS.aloadN X5.here hx rfl (hb hby d26_27) rfl rfl ?_
    show OwG p e below T5 m 28 #[vR sb, vI 76, vI 70] [(.ref sb), (.int 142), (.ref b), (.ref sb)] _
    refine st6 _ ?_
    show OwG p e below T6 m 31 #[vR sb, vI 76, vI 70] [(.int 0), (.int 142), (.ref b), (.ref sb)] _
    refine XS.ishl X6.here hx rfl (hb hby d26_31) rfl ?_
    show OwG p e below T6 m 32 #[vR sb, vI 76, vI 70] [(.int 142), (.ref b), (.ref sb)] _
    refine st7 _ ?_
    show OwG p e below T7 m 35 #[vR sb, vI 76, vI 70] [(.ref bb7), (.ref sb)] _
    refine st10 _ ?_
    show OwG p e below T10 m 38 #[vR sb, vI 76, vI 70] [] _
    exact X10.returnOut hx Bd.returns (hb hby d26_38) hr
  · have eF : (T10.setFrames fs).heap = h10 := e10
    exact ⟨N10, rfl, by rw [eF]; exact ⟨O10, Kp10, bb7, kk7, sz7, fa11, Fw10, fa12, fa13, fa14⟩⟩
theorem rmLen11 (l : Launch) (Z : State) (a0 : Array Value) (hw : OwHw Z a0) (ws : List Jvm.Cond) (n0 : Nat) (h0 : Heap) (O : Old Z n0 h0) (qqR qqN qqK qqU qqS qqE : Addr) (qqI : Int32) (qqM : Addr) (W : OwW Z qqR qqN qqK qqU qqS qqE qqI qqM) (a b : Addr) (k : ClassId) (Es : Exa Z h0 a zs18) (Fc : Fld Z h0 a zs18 "coder" "B" (.int 0)) (Fv : Fld Z h0 a zs18 "value" "[B" (.ref b)) (Vb : owB Z h0 b k (11 : Int32)) :
    OwCon l yy25 j17 1 (some .int) ws (rM 1 0 0 13) #[(.ref a)] Z h0 (OwQ (some (.int 11)) h0 n0) := by
  refine MetFree.of_bodySF (plainFor_of_name owpn24) hisR ?_
  intro p e s m args below meth c s₁ Bd hml0 hP hK
  have hi := @own_hi Z a0 hw
  obtain ⟨rfl, hZ, hh⟩ := hP
  have hx := Bd.exec
  have hby := Bd.bytes
  have hml : c.maxLocals = 1 := hml0
  have hown := findClass_of_methodNamed Bd.named
  have X0 : Stand p l e (rM 1 0 0 13) s m #[(.ref a)] below meth c s₁ [] 0 0 := Stand.of_body Bd
  have e0 : s₁.heap = h0 := by rw [← hh, Bd.state]; rfl
  have N0 := Fr.nil n0
  have ef : entryFrame m #[(.ref a)] 1 = mkF m 0 #[.val (.ref a)] [] := by first | (simp [entryFrame, mkF, argsToLocals, Value.category]; done) | rfl
  obtain ⟨T1, X1, e1, st1⟩ := getF X0 hx hZ hown (host := "") (Or.inl (hi 203 rfl)) Via.refl e0 Fv (g := (mkF m 1 #[vR a] [(.ref a)])) rfl rfl (hb hby d24_1)
  obtain ⟨cl2, Ar2, Sz2, Nn2⟩ := Vb.arr
  obtain ⟨cq3, kq3, q3a, q3b, q3c⟩ := isOf hZ e1 Es
  obtain ⟨_, _, ⟨T3, L3, k3, n3⟩, -, X3, ⟨Lc3, hQ3, l3, y3, z3⟩, st3⟩ := X1.virtualBack hx (y := yy23) (z := yy23) hown (mvT hZ (hi 204 rfl)) (mvT hZ (hi 205 rfl)) (notFace_of_selects (args := #[]) (mvT hZ (hi 207 rfl))) (mvT hZ (hi 207 rfl)) (mvT hZ (hi 206 rfl)) (by decide) (backOf (W := 1) (rmCod l Z a0 hw [] n0 h0 O qqR qqN qqK qqU qqS qqE qqI qqM W a Fc) hZ (hi 208 rfl) (hi 81 rfl) (by decide) (by decide)) q3a q3c (g := (mkF m 6 #[vR a] [(.ref a), (.int 11)])) rfl (by rw [hml]; rfl) (Steps.refl _) (argsL := []) (rest := [(.int 11)]) (lenOf owpd2 rfl) rfl (Nat.le_of_eq rfl) (hb hby d24_6) (fun _ _ => ⟨rfl, e1, (by decide : 0 + 0 ≤ _), (by decide : 0 + 0 ≤ _)⟩)
  dsimp only [Pt.U, Pt.locs, Pt.cells, Pt.slots] at X3 l3 y3 z3 st3 hQ3
  subst l3 y3 z3
  obtain ⟨rfl, Nq3, e3⟩ := hQ3
  have N3 := Fr.app N0 Nq3
  obtain ⟨fs, hr, hrun, hended, hW, hsame⟩ := X3.leave (v := some (.int 11)) (fun h => by rw [Bd.returns] at h; cases h)
  refine ⟨_, _, castTop ef ?_, hrun, hended, _, _, rfl, ?_, ⟨_, rfl⟩, hW, hsame.mono (by decide) (by decide)⟩
  · show OwG p e below s₁ m 0 #[vR a] [] _
    refine XS.aloadN X0.here hx rfl (hb hby d24_0) rfl rfl ?_
    show OwG p e below s₁ m 1 #[vR a] [(.ref a)] _
    refine st1 _ ?_
    show OwG p e below T1 m 4 #[vR a] [(.ref b)] _
    refine X1.arraylength hx (by rw [e1]; exact Ar2.1) (State.isArrayOf_alike hZ.alike Ar2.2.1) (g := (mkF m 4 #[vR a] [(.ref b)])) rfl rfl (hb hby d24_4) _ ?_
    rw [len_of Sz2 Nn2]
    show OwG p e below T1 m 5 #[vR a] [(.int 11)] _
    refine XS.aloadN X1.here hx rfl (hb hby d24_5) rfl rfl ?_
    show OwG p e below T1 m 6 #[vR a] [(.ref a), (.int 11)] _
    refine st3.trans ?_
    show OwG p e below T3 m 9 #[vR a] [(.int 0), (.int 11)] _
    refine XS.ishr X3.here hx rfl (hb hby d24_9) rfl ?_
    show OwG p e below T3 m 10 #[vR a] [(.int 11)] _
    exact retI X3 hx Bd.returns (hb hby d24_10) hr
  · have eF : (T3.setFrames fs).heap = h0 := e3
    exact ⟨rfl, N3, eF⟩
theorem rmGb_11_142_65 (l : Launch) (Z : State) (a0 : Array Value) (hw : OwHw Z a0) (ws : List Jvm.Cond) (n0 : Nat) (h0 : Heap) (O : Old Z n0 h0) (qqR qqN qqK qqU qqS qqE : Addr) (qqI : Int32) (qqM : Addr) (W : OwW Z qqR qqN qqK qqU qqS qqE qqI qqM) (a b : Addr) (k : ClassId) (y : Addr) (ky : ClassId) (Es : Exa Z h0 a zs18) (Fc : Fld Z h0 a zs18 "coder" "B" (.int 0)) (Fv : Fld Z h0 a zs18 "value" "[B" (.ref b)) (Vb : owB Z h0 b k (11 : Int32)) (Vby : owB Z h0 y ky (142 : Int32)) (gy : n0 ≤ y) :
    OwCon l yy24 j1 4 none ws (rM 1 0 0 18) #[(.ref a), (.ref y), (.int 65), (.int 0)] Z h0 (OwP (fun v h => v = none ∧ Old Z n0 h ∧ Keep h0 h [y] ∧ owB Z h y ky (142 : Int32)) n0) := by
  refine MetFree.of_bodySF (plainFor_of_name owpn29) hisR ?_
  intro p e s m args below meth c s₁ Bd hml0 hP hK
  have hi := @own_hi Z a0 hw
  obtain ⟨rfl, hZ, hh⟩ := hP
  have hx := Bd.exec
  have hby := Bd.bytes
  have hml : c.maxLocals = 4 := hml0
  have hown := findClass_of_methodNamed Bd.named
  have X0 : Stand p l e (rM 1 0 0 18) s m #[(.ref a), (.ref y), (.int 65), (.int 0)] below meth c s₁ [] 0 0 := Stand.of_body Bd
  have e0 : s₁.heap = h0 := by rw [← hh, Bd.state]; rfl
  have N0 := Fr.nil n0
  have ef : entryFrame m #[(.ref a), (.ref y), (.int 65), (.int 0)] 4 = mkF m 0 #[.val (.ref a), .val (.ref y), .val (.int 65), .val (.int 0)] [] := by first | (simp [entryFrame, mkF, argsToLocals, Value.category]; done) | rfl
  obtain ⟨cq1, kq1, q1a, q1b, q1c⟩ := isOf hZ e0 Es
  obtain ⟨_, _, ⟨T1, L1, k1, n1⟩, -, X1, ⟨Lc1, hQ1, l1, y1, z1⟩, st1⟩ := X0.virtualBack hx (y := yy23) (z := yy23) hown (mvT hZ (hi 204 rfl)) (mvT hZ (hi 205 rfl)) (notFace_of_selects (args := #[]) (mvT hZ (hi 207 rfl))) (mvT hZ (hi 207 rfl)) (mvT hZ (hi 206 rfl)) (by decide) (backOf (W := 0) (rmCod l Z a0 hw [] n0 h0 O qqR qqN qqK qqU qqS qqE qqI qqM W a Fc) hZ (hi 208 rfl) (hi 81 rfl) (by decide) (by decide)) q1a q1c (g := (mkF m 1 #[vR a, vR y, vI 65, vI 0] [(.ref a)])) rfl (by rw [hml]; rfl) (Steps.refl _) (argsL := []) (rest := []) (lenOf owpd2 rfl) rfl (Nat.le_of_eq rfl) (hb hby d29_1) (fun _ _ => ⟨rfl, e0, (by decide : 0 + 0 ≤ _), (by decide : 0 + 0 ≤ _)⟩)
  dsimp only [Pt.U, Pt.locs, Pt.cells, Pt.slots] at X1 l1 y1 z1 st1 hQ1
  subst l1 y1 z1
  obtain ⟨rfl, Nq1, e1⟩ := hQ1
  have N1 := Fr.app N0 Nq1
  obtain ⟨T2, X2, e2, st2⟩ := getF X1 hx hZ hown (host := "") (Or.inl (hi 203 rfl)) Via.refl e1 Fv (g := (mkF m 9 #[vR a, vR y, vI 65, vI 0] [(.ref a)])) rfl rfl (hb hby d29_9)
  obtain ⟨T3, X3, e3, st3⟩ := getF X2 hx hZ hown (host := "") (Or.inl (hi 203 rfl)) Via.refl e2 Fv (g := (mkF m 18 #[vR a, vR y, vI 65, vI 0] [(.ref a), (.int 65), (.ref y), (.int 0), (.ref b)])) rfl rfl (hb hby d29_18)
  obtain ⟨cl4, Ar4, Sz4, Nn4⟩ := Vb.arr
  obtain ⟨T5, h5, L5, X5, e5, N5, Kc5, V5, st5⟩ := own_cpB X3 hx hZ hown (hi 234 rfl) (hi 237 rfl) (hi 235 rfl) (hi 236 rfl) e3 Vb Vby (by decide) (by decide) (by decide) (by decide) (by decide) N1 gy (g := (mkF m 22 #[vR a, vR y, vI 65, vI 0] [(.int 11), (.int 65), (.ref y), (.int 0), (.ref b)])) rfl (by rw [hml]; rfl) rfl (hb hby d29_22) (by decide) (W := 0) (Nat.le_of_eq rfl) (by decide)
  have O5 := O.keep Kc5 (allS (P := fun x => n0 ≤ x) gy all0)
  have Kp5 : Keep h0 h5 [y] := (Keep.refl h0 [y]).trans Kc5 (allS (P := fun x => x ∈ [y] ∨ h0.size ≤ x) (Or.inl (List.mem_of_getElem? (i := 0) rfl)) (all0 (P := fun x => x ∈ [y] ∨ h0.size ≤ x)))
  obtain ⟨fs, hr, hrun, hended, hW, hsame⟩ := X5.leave (v := none) (fun _ => rfl)
  refine ⟨_, _, castTop ef ?_, hrun, hended, _, _, rfl, ?_, ⟨_, rfl⟩, hW, hsame.mono (by decide) (by decide)⟩
  · show OwG p e below s₁ m 0 #[vR a, vR y, vI 65, vI 0] [] _
    refine XS.aloadN X0.here hx rfl (hb hby d29_0) rfl rfl ?_
    show OwG p e below s₁ m 1 #[vR a, vR y, vI 65, vI 0] [(.ref a)] _
    refine st1.trans ?_
    show OwG p e below T1 m 4 #[vR a, vR y, vI 65, vI 0] [(.int 0)] _
    refine XS.iloadN X1.here hx rfl (hb hby d29_4) rfl ?_
    refine XS.icmpNo X1.here hx rfl (hb hby d29_5) rfl (teq (by decide : (0 : Int32) = (0 : Int32))).2 ?_
    refine XS.aloadN X1.here hx rfl (hb hby d29_8) rfl rfl ?_
    show OwG p e below T1 m 9 #[vR a, vR y, vI 65, vI 0] [(.ref a)] _
    refine st2 _ ?_
    show OwG p e below T2 m 12 #[vR a, vR y, vI 65, vI 0] [(.ref b)] _
    refine XS.iconst X2.here hx rfl (hb hby d29_12) ?_
    refine XS.aloadN X2.here hx rfl (hb hby d29_13) rfl rfl ?_
    refine XS.iloadN X2.here hx rfl (hb hby d29_14) rfl ?_
    refine XS.iloadN X2.here hx rfl (hb hby d29_15) rfl ?_
    refine XS.ishl X2.here hx rfl (hb hby d29_16) rfl ?_
    refine XS.aloadN X2.here hx rfl (hb hby d29_17) rfl rfl ?_
    show OwG p e below T2 m 18 #[vR a, vR y, vI 65, vI 0] [(.ref a), (.int 65), (.ref y), (.int 0), (.ref b)] _
    refine st3 _ ?_
    show OwG p e below T3 m 21 #[vR a, vR y, vI 65, vI 0] [(.ref b), (.int 65), (.ref y), (.int 0), (.ref b)] _
    refine X3.arraylength hx (by rw [e3]; exact Ar4.1) (State.isArrayOf_alike hZ.alike Ar4.2.1) (g := (mkF m 21 #[vR a, vR y, vI 65, vI 0] [(.ref b), (.int 65), (.ref y), (.int 0), (.ref b)])) rfl rfl (hb hby d29_21) _ ?_
    rw [len_of Sz4 Nn4]
    show OwG p e below T3 m 22 #[vR a, vR y, vI 65, vI 0] [(.int 11), (.int 65), (.ref y), (.int 0), (.ref b)] _
    refine st5 _ ?_
    show OwG p e below T5 m 25 #[vR a, vR y, vI 65, vI 0] [] _
    refine XS.goto X5.here hx rfl (pc0 := 25) (pc' := 43) rfl (hb hby d29_25) (by decide) (by decide) ?_
    show OwG p e below T5 m 43 #[vR a, vR y, vI 65, vI 0] [] _
    exact X5.returnOut hx Bd.returns (hb hby d29_43) hr
  · have eF : (T5.setFrames fs).heap = h5 := e5
    exact ⟨N5, rfl, by rw [eF]; exact ⟨O5, Kp5, V5⟩⟩
theorem rmPut_142_65_11 (l : Launch) (Z : State) (a0 : Array Value) (hw : OwHw Z a0) (ws : List Jvm.Cond) (n0 : Nat) (h0 : Heap) (O : Old Z n0 h0) (qqR qqN qqK qqU qqS qqE : Addr) (qqI : Int32) (qqM : Addr) (W : OwW Z qqR qqN qqK qqU qqS qqE qqI qqM) (sb b : Addr) (k : ClassId) (a ab : Addr) (ak : ClassId) (Eb : Exa Z h0 sb zs19) (Gv : Fld Z h0 sb zs14 "value" "[B" (.ref b)) (Gc : Fld Z h0 sb zs14 "coder" "B" (.int 0)) (Gn : Fld Z h0 sb zs14 "count" "I" (.int 65)) (Vbx : owB Z h0 b k (142 : Int32)) (Ess : Exa Z h0 a zs18) (Fcs : Fld Z h0 a zs18 "coder" "B" (.int 0)) (Fvs : Fld Z h0 a zs18 "value" "[B" (.ref ab)) (Vbs : owB Z h0 ab ak (11 : Int32)) (gb : n0 ≤ b) :
    OwCon l yy16 j24 3 none ws (rM 2 0 0 33) #[(.ref sb), (.int 65), (.ref a)] Z h0 (OwP (fun v h => v = none ∧ Old Z n0 h ∧ Keep h0 h [b] ∧ owB Z h b k (142 : Int32)) n0) := by
  refine MetFree.of_bodySF (plainFor_of_name owpn27) hisR ?_
  intro p e s m args below meth c s₁ Bd hml0 hP hK
  have hi := @own_hi Z a0 hw
  obtain ⟨rfl, hZ, hh⟩ := hP
  have hx := Bd.exec
  have hby := Bd.bytes
  have hml : c.maxLocals = 3 := hml0
  have hown := findClass_of_methodNamed Bd.named
  have X0 : Stand p l e (rM 2 0 0 33) s m #[(.ref sb), (.int 65), (.ref a)] below meth c s₁ [] 0 0 := Stand.of_body Bd
  have e0 : s₁.heap = h0 := by rw [← hh, Bd.state]; rfl
  have N0 := Fr.nil n0
  have ef : entryFrame m #[(.ref sb), (.int 65), (.ref a)] 3 = mkF m 0 #[.val (.ref sb), .val (.int 65), .val (.ref a)] [] := by first | (simp [entryFrame, mkF, argsToLocals, Value.category]; done) | rfl
  obtain ⟨cq1, kq1, q1a, q1b, q1c⟩ := isOf hZ e0 Eb
  obtain ⟨_, _, ⟨T1, L1, k1, n1⟩, -, X1, ⟨Lc1, hQ1, l1, y1, z1⟩, st1⟩ := X0.virtualBack hx (y := yy12) (z := yy12) hown (mvT hZ (hi 223 rfl)) (own_decl (mvT hZ (hi 224 rfl)) (mvT hZ (hi 227 rfl))) (notFace_of_selects (args := #[]) (mvT hZ (hi 226 rfl))) (mvT hZ (hi 226 rfl)) (mvT hZ (hi 224 rfl)) (by decide) (backOf (W := 0) (rmInf l Z a0 hw [] n0 h0 O qqR qqN qqK qqU qqS qqE qqI qqM W sb a Gc Ess Fcs) hZ (hi 227 rfl) (hi 179 rfl) (by decide) (by decide)) q1a q1c (g := (mkF m 2 #[vR sb, vI 65, vR a] [(.ref a), (.ref sb)])) rfl (by rw [hml]; rfl) (Steps.refl _) (argsL := [(.ref a)]) (rest := []) (lenOf owpd3 rfl) rfl (Nat.le_of_eq rfl) (hb hby d27_2) (fun _ _ => ⟨rfl, e0, (by decide : 0 + 0 ≤ _), (by decide : 0 + 0 ≤ _)⟩)
  dsimp only [Pt.U, Pt.locs, Pt.cells, Pt.slots] at X1 l1 y1 z1 st1 hQ1
  subst l1 y1 z1
  obtain ⟨rfl, Nq1, e1⟩ := hQ1
  have N1 := Fr.app N0 Nq1
  obtain ⟨T2, X2, e2, st2⟩ := getF X1 hx hZ hown (host := "") (Or.inl (hi 183 rfl)) Via.refl e1 Gv (g := (mkF m 7 #[vR sb, vI 65, vR a] [(.ref sb), (.ref a)])) rfl rfl (hb hby d27_7)
  obtain ⟨T3, X3, e3, st3⟩ := getF X2 hx hZ hown (host := "") (Or.inl (hi 185 rfl)) Via.refl e2 Gc (g := (mkF m 12 #[vR sb, vI 65, vR a] [(.ref sb), (.int 65), (.ref b), (.ref a)])) rfl rfl (hb hby d27_12)
  obtain ⟨cq4, kq4, q4a, q4b, q4c⟩ := isOf hZ e3 Ess
  obtain ⟨_, _, ⟨T4, L4, k4, n4⟩, -, X4, ⟨Lc4, hQ4, l4, y4, z4⟩, st4⟩ := X3.virtualBack hx (y := yy24) (z := yy24) hown (mvT hZ (hi 229 rfl)) (mvT hZ (hi 230 rfl)) (notFace_of_selects (args := #[]) (mvT hZ (hi 232 rfl))) (mvT hZ (hi 232 rfl)) (mvT hZ (hi 231 rfl)) (by decide) (backOf (W := 0) (rmGb_11_142_65 l Z a0 hw [] n0 h0 O qqR qqN qqK qqU qqS qqE qqI qqM W a ab ak b k Ess Fcs Fvs Vbs Vbx gb) hZ (hi 233 rfl) (hi 81 rfl) (by decide) (by decide)) q4a q4c (g := (mkF m 15 #[vR sb, vI 65, vR a] [(.int 0), (.int 65), (.ref b), (.ref a)])) rfl (by rw [hml]; rfl) (Steps.refl _) (argsL := [(.ref b), (.int 65), (.int 0)]) (rest := []) (lenOf owpd4 rfl) rfl (Nat.le_of_eq rfl) (hb hby d27_15) (fun _ _ => ⟨rfl, e3, (by decide : 0 + 0 ≤ _), (by decide : 0 + 0 ≤ _)⟩)
  dsimp only [Pt.U, Pt.locs, Pt.cells, Pt.slots] at X4 l4 y4 z4 st4 hQ4
  subst l4 y4 z4
  obtain ⟨Nq4, hP4⟩ := hQ4
  have N4 := Fr.app N1 Nq4
  have ee4 : T4.heap = T4.heap := rfl
  obtain ⟨rfl, Oc4, Kc4, Vb4⟩ := hP4
  have Kp4 : Keep h0 T4.heap [b] := (Keep.refl h0 [b]).trans Kc4 (allS (P := fun x => x ∈ [b] ∨ h0.size ≤ x) (Or.inl (List.mem_of_getElem? (i := 0) rfl)) (all0 (P := fun x => x ∈ [b] ∨ h0.size ≤ x)))
  obtain ⟨fs, hr, hrun, hended, hW, hsame⟩ := X4.leave (v := none) (fun _ => rfl)
  refine ⟨_, _, castTop ef ?_, hrun, hended, _, _, rfl, ?_, ⟨_, rfl⟩, hW, hsame.mono (by decide) (by decide)⟩
  · show OwG p e below s₁ m 0 #[vR sb, vI 65, vR a] [] _
    refine XS.aloadN X0.here hx rfl (hb hby d27_0) rfl rfl ?_
    show OwG p e below s₁ m 1 #[vR sb, vI 65, vR a] [(.ref sb)] _
    refine XS.aloadN X0.here hx rfl (hb hby d27_1) rfl rfl ?_
    show OwG p e below s₁ m 2 #[vR sb, vI 65, vR a] [(.ref a), (.ref sb)] _
    refine st1.trans ?_
    show OwG p e below T1 m 5 #[vR sb, vI 65, vR a] [] _
    refine XS.aloadN X1.here hx rfl (hb hby d27_5) rfl rfl ?_
    refine XS.aloadN X1.here hx rfl (hb hby d27_6) rfl rfl ?_
    show OwG p e below T1 m 7 #[vR sb, vI 65, vR a] [(.ref sb), (.ref a)] _
    refine st2 _ ?_
    show OwG p e below T2 m 10 #[vR sb, vI 65, vR a] [(.ref b), (.ref a)] _
    refine XS.iloadN X2.here hx rfl (hb hby d27_10) rfl ?_
    refine XS.aloadN X2.here hx rfl (hb hby d27_11) rfl rfl ?_
    show OwG p e below T2 m 12 #[vR sb, vI 65, vR a] [(.ref sb), (.int 65), (.ref b), (.ref a)] _
    refine st3 _ ?_
    show OwG p e below T3 m 15 #[vR sb, vI 65, vR a] [(.int 0), (.int 65), (.ref b), (.ref a)] _
    refine st4.trans ?_
    show OwG p e below T4 m 18 #[vR sb, vI 65, vR a] [] _
    exact X4.returnOut hx Bd.returns (hb hby d27_18) hr
  · have eF : (T4.setFrames fs).heap = T4.heap := ee4
    exact ⟨N4, rfl, by rw [eF]; exact ⟨Oc4, Kp4, Vb4⟩⟩
theorem rmApA_70_65_11 (l : Launch) (Z : State) (a0 : Array Value) (hw : OwHw Z a0) (ws : List Jvm.Cond) (n0 : Nat) (h0 : Heap) (O : Old Z n0 h0) (qqR qqN qqK qqU qqS qqE : Addr) (qqI : Int32) (qqM : Addr) (W : OwW Z qqR qqN qqK qqU qqS qqE qqI qqM) (sb b : Addr) (k : ClassId) (a ab : Addr) (ak : ClassId) (Eb : Exa Z h0 sb zs19) (Gv : Fld Z h0 sb zs14 "value" "[B" (.ref b)) (Gc : Fld Z h0 sb zs14 "coder" "B" (.int 0)) (Gn : Fld Z h0 sb zs14 "count" "I" (.int 65)) (Vbx : owB Z h0 b k (70 : Int32)) (Ess : Exa Z h0 a zs18) (Fcs : Fld Z h0 a zs18 "coder" "B" (.int 0)) (Fvs : Fld Z h0 a zs18 "value" "[B" (.ref ab)) (Vbs : owB Z h0 ab ak (11 : Int32)) (gs : n0 ≤ sb) (gb : n0 ≤ b) :
    OwCon l yy9 j29 3 (some (.object zs14)) ws (rM 4 1 142 62) #[(.ref sb), (.ref a)] Z h0 (OwP (fun v h => v = some (.ref sb) ∧ Old Z n0 h ∧ Keep h0 h [sb] ∧ ∃ (b' : Addr) (k' : ClassId), h0.size ≤ b' ∧ Exa Z h sb zs19 ∧ Fld Z h sb zs14 "value" "[B" (.ref b') ∧ Fld Z h sb zs14 "coder" "B" (.int 0) ∧ Fld Z h sb zs14 "count" "I" (.int 76) ∧ owB Z h b' k' (142 : Int32)) n0) := by
  refine MetFree.of_bodySF (plainFor_of_name owpn23) hisR ?_
  intro p e s m args below meth c s₁ Bd hml0 hP hK
  have hi := @own_hi Z a0 hw
  obtain ⟨rfl, hZ, hh⟩ := hP
  have hx := Bd.exec
  have hby := Bd.bytes
  have hml : c.maxLocals = 3 := hml0
  have hown := findClass_of_methodNamed Bd.named
  have X0 : Stand p l e (rM 4 1 142 62) s m #[(.ref sb), (.ref a)] below meth c s₁ [] 0 0 := Stand.of_body Bd
  have e0 : s₁.heap = h0 := by rw [← hh, Bd.state]; rfl
  have N0 := Fr.nil n0
  have ef : entryFrame m #[(.ref sb), (.ref a)] 3 = mkF m 0 #[.val (.ref sb), .val (.ref a), .unset] [] := by first | (simp [entryFrame, mkF, argsToLocals, Value.category]; done) | rfl
  obtain ⟨cq1, kq1, q1a, q1b, q1c⟩ := isOf hZ e0 Ess
  obtain ⟨_, _, ⟨T1, L1, k1, n1⟩, -, X1, ⟨Lc1, hQ1, l1, y1, z1⟩, st1⟩ := X0.virtualBack hx (y := yy25) (z := yy25) hown (mvT hZ (hi 198 rfl)) (mvT hZ (hi 199 rfl)) (notFace_of_selects (args := #[]) (mvT hZ (hi 201 rfl))) (mvT hZ (hi 201 rfl)) (mvT hZ (hi 200 rfl)) (by decide) (backOf (W := 0) (rmLen11 l Z a0 hw [] n0 h0 O qqR qqN qqK qqU qqS qqE qqI qqM W a ab ak Ess Fcs Fvs Vbs) hZ (hi 202 rfl) (hi 81 rfl) (by decide) (by decide)) q1a q1c (g := (mkF m 10 #[vR sb, vR a, .unset] [(.ref a)])) rfl (by rw [hml]; rfl) (Steps.refl _) (argsL := []) (rest := []) (lenOf owpd5 rfl) rfl (Nat.le_of_eq rfl) (hb hby d23_10) (fun _ _ => ⟨rfl, e0, (by decide : 0 + 0 ≤ _), (by decide : 0 + 0 ≤ _)⟩)
  dsimp only [Pt.U, Pt.locs, Pt.cells, Pt.slots] at X1 l1 y1 z1 st1 hQ1
  subst l1 y1 z1
  obtain ⟨rfl, Nq1, e1⟩ := hQ1
  have N1 := Fr.app N0 Nq1
  obtain ⟨T2, X2, e2, st2⟩ := getF X1 hx hZ hown (host := "") (Or.inl (hi 211 rfl)) Via.refl e1 Gn (g := (mkF m 16 #[vR sb, vR a, vI 11] [(.ref sb), (.ref sb)])) rfl rfl (hb hby d23_16)
  obtain ⟨cq3, kq3, q3a, q3b, q3c⟩ := isOf hZ e2 Eb
  obtain ⟨_, _, ⟨T3, L3, k3, n3⟩, -, X3, ⟨Lc3, hQ3, l3, y3, z3⟩, st3⟩ := X2.virtualBack hx (y := yy10) (z := yy10) hown (mvT hZ (hi 213 rfl)) (own_decl (mvT hZ (hi 214 rfl)) (mvT hZ (hi 217 rfl))) (notFace_of_selects (args := #[]) (mvT hZ (hi 216 rfl))) (mvT hZ (hi 216 rfl)) (mvT hZ (hi 214 rfl)) (by decide) (backOf (W := 0) (rmEns_70_76 l Z a0 hw [] n0 h0 O qqR qqN qqK qqU qqS qqE qqI qqM W sb b k Eb Gv Gc Gn Vbx gs) hZ (hi 217 rfl) (hi 179 rfl) (by decide) (by decide)) q3a q3c (g := (mkF m 21 #[vR sb, vR a, vI 11] [(.int 76), (.ref sb)])) rfl (by rw [hml]; rfl) (Steps.refl _) (argsL := [(.int 76)]) (rest := []) (lenOf owpd1 rfl) rfl (Nat.le_of_eq rfl) (hb hby d23_21) (fun _ _ => ⟨rfl, e2, (by decide : 0 + 1 ≤ _), (by decide : 0 + 142 ≤ _)⟩)
  dsimp only [Pt.U, Pt.locs, Pt.cells, Pt.slots] at X3 l3 y3 z3 st3 hQ3
  subst l3 y3 z3
  obtain ⟨Nq3, hP3⟩ := hQ3
  have N3 := Fr.app N1 Nq3
  have ee3 : T3.heap = T3.heap := rfl
  obtain ⟨rfl, Oc3, Kc3, bb3, kk3, hb3, Ec3, Gv3, Gc3, Gn3, Vb3⟩ := hP3
  have ne_sb_3 : sb ≠ bb3 := Nat.ne_of_lt (Nat.lt_of_lt_of_le Eb.lt hb3)
  have ne_b_3 : b ≠ bb3 := Nat.ne_of_lt (Nat.lt_of_lt_of_le Vbx.lt hb3)
  have ne_a_3 : a ≠ bb3 := Nat.ne_of_lt (Nat.lt_of_lt_of_le Ess.lt hb3)
  have ne_ab_3 : ab ≠ bb3 := Nat.ne_of_lt (Nat.lt_of_lt_of_le Vbs.lt hb3)
  have gx3 : n0 ≤ bb3 := Nat.le_trans (Nat.le_trans (Nat.le_of_eq O.1.symm) O.2.1) hb3
  have sz3 : h0.size ≤ bb3 := Nat.le_trans (Keep.refl h0 [sb]).1 hb3
  have Kp3 : Keep h0 T3.heap [sb] := (Keep.refl h0 [sb]).trans Kc3 (allS (P := fun x => x ∈ [sb] ∨ h0.size ≤ x) (Or.inl (List.mem_of_getElem? (i := 0) rfl)) (all0 (P := fun x => x ∈ [sb] ∨ h0.size ≤ x)))
  obtain ⟨T4, X4, e4, st4⟩ := getF X3 hx hZ hown (host := "") (Or.inl (hi 211 rfl)) Via.refl ee3 Gn3 (g := (mkF m 26 #[vR sb, vR a, vI 11] [(.ref sb), (.ref sb)])) rfl rfl (hb hby d23_26)
  have fa5 := (Ess.keep Kc3)
  have fa6 := (Fcs.keep Kc3 (ninS (Exa.ne fa5 Ec3 (by decide)) nin0))
  have fa7 := (Fvs.keep Kc3 (ninS (Exa.ne fa5 Ec3 (by decide)) nin0))
  have nq8 := owB.ne Vbs Eb (hi 170 rfl)
  have fa9 := (Vbs.keep Kc3 (ninS nq8 nin0))
  obtain ⟨cq10, kq10, q10a, q10b, q10c⟩ := isOf hZ e4 Ec3
  obtain ⟨_, _, ⟨T10, L10, k10, n10⟩, -, X10, ⟨Lc10, hQ10, l10, y10, z10⟩, st10⟩ := X4.virtualBack hx (y := yy16) (z := yy16) hown (mvT hZ (hi 218 rfl)) (own_decl (mvT hZ (hi 219 rfl)) (mvT hZ (hi 222 rfl))) (notFace_of_selects (args := #[]) (mvT hZ (hi 221 rfl))) (mvT hZ (hi 221 rfl)) (mvT hZ (hi 219 rfl)) (by decide) (backOf (W := 0) (rmPut_142_65_11 l Z a0 hw [] n0 T3.heap Oc3 qqR qqN qqK qqU qqS qqE qqI qqM W sb bb3 kk3 a ab ak Ec3 Gv3 Gc3 Gn3 Vb3 fa5 fa6 fa7 fa9 gx3) hZ (hi 222 rfl) (hi 179 rfl) (by decide) (by decide)) q10a q10c (g := (mkF m 30 #[vR sb, vR a, vI 11] [(.ref a), (.int 65), (.ref sb)])) rfl (by rw [hml]; rfl) (Steps.refl _) (argsL := [(.int 65), (.ref a)]) (rest := []) (lenOf owpd6 rfl) rfl (Nat.le_of_eq rfl) (hb hby d23_30) (fun _ _ => ⟨rfl, e4, (by decide : 1 + 0 ≤ _), (by decide : 142 + 0 ≤ _)⟩)
  dsimp only [Pt.U, Pt.locs, Pt.cells, Pt.slots] at X10 l10 y10 z10 st10 hQ10
  subst l10 y10 z10
  obtain ⟨Nq10, hP10⟩ := hQ10
  have N10 := Fr.app N3 Nq10
  have ee10 : T10.heap = T10.heap := rfl
  obtain ⟨rfl, Oc10, Kc10, Vb10⟩ := hP10
  have Kp10 : Keep h0 T10.heap [sb] := Kp3.trans Kc10 (allS (P := fun x => x ∈ [sb] ∨ h0.size ≤ x) (Or.inr sz3) (all0 (P := fun x => x ∈ [sb] ∨ h0.size ≤ x)))
  have fa11 := (Gn3.keep Kc10 (ninS ne_sb_3 nin0))
  obtain ⟨T12, X12, e12, st12⟩ := getF X10 hx hZ hown (host := "") (Or.inl (hi 211 rfl)) Via.refl ee10 fa11 (g := (mkF m 35 #[vR sb, vR a, vI 11] [(.ref sb), (.ref sb)])) rfl rfl (hb hby d23_35)
  have fa13 := (Ec3.keep Kc10)
  obtain ⟨T14, h14, X14, e14, W14, st14⟩ := putF X12 hx hZ hown (host := "") (Or.inl (hi 211 rfl)) Via.refl e12 fa11 fa13 (Or.inl (hi 212 rfl)) (hi 170 rfl) (ty := .int) (by decide) rfl rfl (g := (mkF m 40 #[vR sb, vR a, vI 11] [(.int 76), (.ref sb)])) rfl rfl (hb hby d23_40)
  have Fw14 := fa11.same W14
  have N14 := Fr.snoc X14 N10 gs
  have O14 := Oc10.wr W14 gs
  have Kp14 : Keep h0 h14 [sb] := Kp10.wr W14 (Or.inl (List.mem_of_getElem? (i := 0) rfl))
  have fa15 := (fa13.wr W14)
  have fa16 := ((Gv3.keep Kc10 (ninS ne_sb_3 nin0)).other W14 (Or.inr (slot_ne (Or.inl (hi 184 rfl)) (Or.inl (hi 212 rfl)) (by decide) (t := (.array .byte)) (t' := .int) (by decide) (by decide))))
  have fa17 := ((Gc3.keep Kc10 (ninS ne_sb_3 nin0)).other W14 (Or.inr (slot_ne (Or.inl (hi 186 rfl)) (Or.inl (hi 212 rfl)) (by decide) (t := .byte) (t' := .int) (by decide) (by decide))))
  have fa18 := (Vb10.other W14 (Ne.symm ne_sb_3))
  obtain ⟨fs, hr, hrun, hended, hW, hsame⟩ := X14.leave (v := some (.ref sb)) (fun h => by rw [Bd.returns] at h; cases h)
  refine ⟨_, _, castTop ef ?_, hrun, hended, _, _, rfl, ?_, ⟨_, rfl⟩, hW, hsame.mono (by decide) (by decide)⟩
  · show OwG p e below s₁ m 0 #[vR sb, vR a, .unset] [] _
    refine XS.aloadN X0.here hx rfl (hb hby d23_0) rfl rfl ?_
    show OwG p e below s₁ m 1 #[vR sb, vR a, .unset] [(.ref a)] _
    refine XS.ifnonnullYes X0.here hx rfl (pc0 := 1) (pc' := 9) rfl (hb hby d23_1) rfl (by decide) (by decide) ?_
    refine XS.aloadN X0.here hx rfl (hb hby d23_9) rfl rfl ?_
    show OwG p e below s₁ m 10 #[vR sb, vR a, .unset] [(.ref a)] _
    refine st1.trans ?_
    show OwG p e below T1 m 13 #[vR sb, vR a, .unset] [(.int 11)] _
    refine XS.istoreN X1.here hx rfl (hb hby d23_13) rfl (l' := #[vR sb, vR a, vI 11]) rfl ?_
    refine XS.aloadN X1.here hx rfl (hb hby d23_14) rfl rfl ?_
    refine XS.aloadN X1.here hx rfl (hb hby d23_15) rfl rfl ?_
    show OwG p e below T1 m 16 #[vR sb, vR a, vI 11] [(.ref sb), (.ref sb)] _
    refine st2 _ ?_
    show OwG p e below T2 m 19 #[vR sb, vR a, vI 11] [(.int 65), (.ref sb)] _
    refine XS.iloadN X2.here hx rfl (hb hby d23_19) rfl ?_
    refine XS.iadd X2.here hx rfl (hb hby d23_20) rfl ?_
    show OwG p e below T2 m 21 #[vR sb, vR a, vI 11] [(.int 76), (.ref sb)] _
    refine st3.trans ?_
    show OwG p e below T3 m 24 #[vR sb, vR a, vI 11] [] _
    refine XS.aloadN X3.here hx rfl (hb hby d23_24) rfl rfl ?_
    refine XS.aloadN X3.here hx rfl (hb hby d23_25) rfl rfl ?_
    show OwG p e below T3 m 26 #[vR sb, vR a, vI 11] [(.ref sb), (.ref sb)] _
    refine st4 _ ?_
    show OwG p e below T4 m 29 #[vR sb, vR a, vI 11] [(.int 65), (.ref sb)] _
    refine XS.aloadN X4.here hx rfl (hb hby d23_29) rfl rfl ?_
    show OwG p e below T4 m 30 #[vR sb, vR a, vI 11] [(.ref a), (.int 65), (.ref sb)] _
    refine st10.trans ?_
    show OwG p e below T10 m 33 #[vR sb, vR a, vI 11] [] _
    refine XS.aloadN X10.here hx rfl (hb hby d23_33) rfl rfl ?_
    refine XS.dup X10.here hx rfl (hb hby d23_34) rfl rfl ?_
    show OwG p e below T10 m 35 #[vR sb, vR a, vI 11] [(.ref sb), (.ref sb)] _
    refine st12 _ ?_
    show OwG p e below T12 m 38 #[vR sb, vR a, vI 11] [(.int 65), (.ref sb)] _
    refine XS.iloadN X12.here hx rfl (hb hby d23_38) rfl ?_
    refine XS.iadd X12.here hx rfl (hb hby d23_39) rfl ?_
    show OwG p e below T12 m 40 #[vR sb, vR a, vI 11] [(.int 76), (.ref sb)] _
    refine st14 _ ?_
    show OwG p e below T14 m 43 #[vR sb, vR a, vI 11] [] _
    refine XS.aloadN X14.here hx rfl (hb hby d23_43) rfl rfl ?_
    show OwG p e below T14 m 44 #[vR sb, vR a, vI 11] [(.ref sb)] _
    exact retOut X14 hx Bd.returns rfl (Or.inr (Or.inr (Or.inr (Or.inr ⟨rfl, rfl, rfl⟩)))) (hb hby d23_44) hr
  · have eF : (T14.setFrames fs).heap = h14 := e14
    exact ⟨N14, rfl, by rw [eF]; exact ⟨O14, Kp14, bb3, kk3, sz3, fa15, fa16, fa17, Fw14, fa18⟩⟩
theorem rmApS_70_65_11 (l : Launch) (Z : State) (a0 : Array Value) (hw : OwHw Z a0) (ws : List Jvm.Cond) (n0 : Nat) (h0 : Heap) (O : Old Z n0 h0) (qqR qqN qqK qqU qqS qqE : Addr) (qqI : Int32) (qqM : Addr) (W : OwW Z qqR qqN qqK qqU qqS qqE qqI qqM) (sb b : Addr) (k : ClassId) (a ab : Addr) (ak : ClassId) (Eb : Exa Z h0 sb zs19) (Gv : Fld Z h0 sb zs14 "value" "[B" (.ref b)) (Gc : Fld Z h0 sb zs14 "coder" "B" (.int 0)) (Gn : Fld Z h0 sb zs14 "count" "I" (.int 65)) (Vbx : owB Z h0 b k (70 : Int32)) (Ess : Exa Z h0 a zs18) (Fcs : Fld Z h0 a zs18 "coder" "B" (.int 0)) (Fvs : Fld Z h0 a zs18 "value" "[B" (.ref ab)) (Vbs : owB Z h0 ab ak (11 : Int32)) (gs : n0 ≤ sb) (gb : n0 ≤ b) :
    OwCon l yy27 j38 2 (some (.object zs19)) ws (rM 5 1 142 76) #[(.ref sb), (.ref a)] Z h0 (OwP (fun v h => v = some (.ref sb) ∧ Old Z n0 h ∧ Keep h0 h [sb] ∧ ∃ (b' : Addr) (k' : ClassId), h0.size ≤ b' ∧ Exa Z h sb zs19 ∧ Fld Z h sb zs14 "value" "[B" (.ref b') ∧ Fld Z h sb zs14 "coder" "B" (.int 0) ∧ Fld Z h sb zs14 "count" "I" (.int 76) ∧ owB Z h b' k' (142 : Int32)) n0) := by
  refine MetFree.of_bodySF (plainFor_of_name owpn22) hisR ?_
  intro p e s m args below meth c s₁ Bd hml0 hP hK
  have hi := @own_hi Z a0 hw
  obtain ⟨rfl, hZ, hh⟩ := hP
  have hx := Bd.exec
  have hby := Bd.bytes
  have hml : c.maxLocals = 2 := hml0
  have hown := findClass_of_methodNamed Bd.named
  have X0 : Stand p l e (rM 5 1 142 76) s m #[(.ref sb), (.ref a)] below meth c s₁ [] 0 0 := Stand.of_body Bd
  have e0 : s₁.heap = h0 := by rw [← hh, Bd.state]; rfl
  have N0 := Fr.nil n0
  have ef : entryFrame m #[(.ref sb), (.ref a)] 2 = mkF m 0 #[.val (.ref sb), .val (.ref a)] [] := by first | (simp [entryFrame, mkF, argsToLocals, Value.category]; done) | rfl
  obtain ⟨_, _, ⟨T1, L1, k1, n1⟩, -, X1, ⟨Lc1, hQ1, l1, y1, z1⟩, st1⟩ := superBack X0 hx hZ (y := yy9) hown (hi 193 rfl) (own_same (hi 216 rfl) rfl (by decide) (hi 196 rfl)) (hi 194 rfl) (hi 195 rfl) (by decide) (backOf (W := 0) (rmApA_70_65_11 l Z a0 hw [] n0 h0 O qqR qqN qqK qqU qqS qqE qqI qqM W sb b k a ab ak Eb Gv Gc Gn Vbx Ess Fcs Fvs Vbs gs gb) hZ (hi 197 rfl) (hi 179 rfl) (by decide) (by decide)) e0 (Ins.self Eb) (g := (mkF m 2 #[vR sb, vR a] [(.ref a), (.ref sb)])) rfl (by rw [hml]; rfl) (hi 197 rfl) (argsL := [(.ref a)]) (rest := []) (lenOf owpd7 rfl) rfl (Nat.le_of_eq rfl) (hb hby d22_2) (fun _ _ => ⟨rfl, e0, (by decide : 0 + 1 ≤ _), (by decide : 0 + 142 ≤ _)⟩)
  dsimp only [Pt.U, Pt.locs, Pt.cells, Pt.slots] at X1 l1 y1 z1 st1 hQ1
  subst l1 y1 z1
  obtain ⟨Nq1, hP1⟩ := hQ1
  have N1 := Fr.app N0 Nq1
  have ee1 : T1.heap = T1.heap := rfl
  obtain ⟨rfl, Oc1, Kc1, bb1, kk1, hb1, Ec1, Gv1, Gc1, Gn1, Vb1⟩ := hP1
  have ne_sb_1 : sb ≠ bb1 := Nat.ne_of_lt (Nat.lt_of_lt_of_le Eb.lt hb1)
  have ne_b_1 : b ≠ bb1 := Nat.ne_of_lt (Nat.lt_of_lt_of_le Vbx.lt hb1)
  have ne_a_1 : a ≠ bb1 := Nat.ne_of_lt (Nat.lt_of_lt_of_le Ess.lt hb1)
  have ne_ab_1 : ab ≠ bb1 := Nat.ne_of_lt (Nat.lt_of_lt_of_le Vbs.lt hb1)
  have gx1 : n0 ≤ bb1 := Nat.le_trans (Nat.le_trans (Nat.le_of_eq O.1.symm) O.2.1) hb1
  have sz1 : h0.size ≤ bb1 := Nat.le_trans (Keep.refl h0 [sb]).1 hb1
  have Kp1 : Keep h0 T1.heap [sb] := (Keep.refl h0 [sb]).trans Kc1 (allS (P := fun x => x ∈ [sb] ∨ h0.size ≤ x) (Or.inl (List.mem_of_getElem? (i := 0) rfl)) (all0 (P := fun x => x ∈ [sb] ∨ h0.size ≤ x)))
  obtain ⟨fs, hr, hrun, hended, hW, hsame⟩ := X1.leave (v := some (.ref sb)) (fun h => by rw [Bd.returns] at h; cases h)
  refine ⟨_, _, castTop ef ?_, hrun, hended, _, _, rfl, ?_, ⟨_, rfl⟩, hW, hsame.mono (by decide) (by decide)⟩
  · show OwG p e below s₁ m 0 #[vR sb, vR a] [] _
    refine XS.aloadN X0.here hx rfl (hb hby d22_0) rfl rfl ?_
    show OwG p e below s₁ m 1 #[vR sb, vR a] [(.ref sb)] _
    refine XS.aloadN X0.here hx rfl (hb hby d22_1) rfl rfl ?_
    show OwG p e below s₁ m 2 #[vR sb, vR a] [(.ref a), (.ref sb)] _
    refine st1.trans ?_
    show OwG p e below T1 m 5 #[vR sb, vR a] [(.ref sb)] _
    refine XS.pop X1.here hx rfl (hb hby d22_5) rfl rfl ?_
    refine XS.aloadN X1.here hx rfl (hb hby d22_6) rfl rfl ?_
    show OwG p e below T1 m 7 #[vR sb, vR a] [(.ref sb)] _
    exact retOut X1 hx Bd.returns rfl (Or.inr (Or.inr (Or.inr (Or.inr ⟨rfl, rfl, rfl⟩)))) (hb hby d22_7) hr
  · have eF : (T1.setFrames fs).heap = T1.heap := ee1
    exact ⟨N1, rfl, by rw [eF]; exact ⟨Oc1, Kp1, bb1, kk1, sz1, Ec1, Gv1, Gc1, Gn1, Vb1⟩⟩
theorem rmGv (l : Launch) (Z : State) (a0 : Array Value) (hw : OwHw Z a0) (ws : List Jvm.Cond) (n0 : Nat) (h0 : Heap) (O : Old Z n0 h0) (qqR qqN qqK qqU qqS qqE : Addr) (qqI : Int32) (qqM : Addr) (W : OwW Z qqR qqN qqK qqU qqS qqE qqI qqM) (sb b : Addr) (Gv : Fld Z h0 sb zs14 "value" "[B" (.ref b)) :
    OwCon l yy11 j31 1 (some (.array .byte)) ws (rM 0 0 0 0) #[(.ref sb)] Z h0 (OwQ (some (.ref b)) h0 n0) := by
  refine MetFree.of_bodySF (plainFor_of_name owpn38) hisR ?_
  intro p e s m args below meth c s₁ Bd hml0 hP hK
  have hi := @own_hi Z a0 hw
  obtain ⟨rfl, hZ, hh⟩ := hP
  have hx := Bd.exec
  have hby := Bd.bytes
  have hml : c.maxLocals = 1 := hml0
  have hown := findClass_of_methodNamed Bd.named
  have X0 : Stand p l e (rM 0 0 0 0) s m #[(.ref sb)] below meth c s₁ [] 0 0 := Stand.of_body Bd
  have e0 : s₁.heap = h0 := by rw [← hh, Bd.state]; rfl
  have N0 := Fr.nil n0
  have ef : entryFrame m #[(.ref sb)] 1 = mkF m 0 #[.val (.ref sb)] [] := by first | (simp [entryFrame, mkF, argsToLocals, Value.category]; done) | rfl
  obtain ⟨T1, X1, e1, st1⟩ := getF X0 hx hZ hown (host := "") (Or.inl (hi 183 rfl)) Via.refl e0 Gv (g := (mkF m 1 #[vR sb] [(.ref sb)])) rfl rfl (hb hby d38_1)
  obtain ⟨fs, hr, hrun, hended, hW, hsame⟩ := X1.leave (v := some (.ref b)) (fun h => by rw [Bd.returns] at h; cases h)
  refine ⟨_, _, castTop ef ?_, hrun, hended, _, _, rfl, ?_, ⟨_, rfl⟩, hW, hsame.mono (by decide) (by decide)⟩
  · show OwG p e below s₁ m 0 #[vR sb] [] _
    refine XS.aloadN X0.here hx rfl (hb hby d38_0) rfl rfl ?_
    show OwG p e below s₁ m 1 #[vR sb] [(.ref sb)] _
    refine st1 _ ?_
    show OwG p e below T1 m 4 #[vR sb] [(.ref b)] _
    exact retOut X1 hx Bd.returns rfl (Or.inr (Or.inr (Or.inr (Or.inr ⟨rfl, rfl, rfl⟩)))) (hb hby d38_4) hr
  · have eF : (T1.setFrames fs).heap = h0 := e1
    exact ⟨rfl, N0, eF⟩
theorem rmAl_142_74 (l : Launch) (Z : State) (a0 : Array Value) (hw : OwHw Z a0) (ws : List Jvm.Cond) (n0 : Nat) (h0 : Heap) (O : Old Z n0 h0) (qqR qqN qqK qqU qqS qqE : Addr) (qqI : Int32) (qqM : Addr) (W : OwW Z qqR qqN qqK qqU qqS qqE qqI qqM) (sb b : Addr) (k : ClassId) (Eb : Exa Z h0 sb zs19) (Gv : Fld Z h0 sb zs14 "value" "[B" (.ref b)) (Gc : Fld Z h0 sb zs14 "coder" "B" (.int 0)) (Gn : Fld Z h0 sb zs14 "count" "I" (.int 74)) (Vbx : owB Z h0 b k (142 : Int32)) :
    OwCon l yy14 j41 1 (some .int) ws (rM 0 0 0 0) #[(.ref sb)] Z h0 (OwQ (some (.int 74)) h0 n0) := by
  refine MetFree.of_bodySF (plainFor_of_name owpn40) hisR ?_
  intro p e s m args below meth c s₁ Bd hml0 hP hK
  have hi := @own_hi Z a0 hw
  obtain ⟨rfl, hZ, hh⟩ := hP
  have hx := Bd.exec
  have hby := Bd.bytes
  have hml : c.maxLocals = 1 := hml0
  have hown := findClass_of_methodNamed Bd.named
  have X0 : Stand p l e (rM 0 0 0 0) s m #[(.ref sb)] below meth c s₁ [] 0 0 := Stand.of_body Bd
  have e0 : s₁.heap = h0 := by rw [← hh, Bd.state]; rfl
  have N0 := Fr.nil n0
  have ef : entryFrame m #[(.ref sb)] 1 = mkF m 0 #[.val (.ref sb)] [] := by first | (simp [entryFrame, mkF, argsToLocals, Value.category]; done) | rfl
  obtain ⟨T1, X1, e1, st1⟩ := getF X0 hx hZ hown (host := "") (Or.inl (hi 211 rfl)) Via.refl e0 Gn (g := (mkF m 1 #[vR sb] [(.ref sb)])) rfl rfl (hb hby d40_1)
  obtain ⟨fs, hr, hrun, hended, hW, hsame⟩ := X1.leave (v := some (.int 74)) (fun h => by rw [Bd.returns] at h; cases h)
  refine ⟨_, _, castTop ef ?_, hrun, hended, _, _, rfl, ?_, ⟨_, rfl⟩, hW, hsame.mono (by decide) (by decide)⟩
  · show OwG p e below s₁ m 0 #[vR sb] [] _
    refine XS.aloadN X0.here hx rfl (hb hby d40_0) rfl rfl ?_
    show OwG p e below s₁ m 1 #[vR sb] [(.ref sb)] _
    refine st1 _ ?_
    show OwG p e below T1 m 4 #[vR sb] [(.int 74)] _
    exact retI X1 hx Bd.returns (hb hby d40_4) hr
  · have eF : (T1.setFrames fs).heap = h0 := e1
    exact ⟨rfl, N0, eF⟩
theorem rmSl_142_74 (l : Launch) (Z : State) (a0 : Array Value) (hw : OwHw Z a0) (ws : List Jvm.Cond) (n0 : Nat) (h0 : Heap) (O : Old Z n0 h0) (qqR qqN qqK qqU qqS qqE : Addr) (qqI : Int32) (qqM : Addr) (W : OwW Z qqR qqN qqK qqU qqS qqE qqI qqM) (sb b : Addr) (k : ClassId) (Eb : Exa Z h0 sb zs19) (Gv : Fld Z h0 sb zs14 "value" "[B" (.ref b)) (Gc : Fld Z h0 sb zs14 "coder" "B" (.int 0)) (Gn : Fld Z h0 sb zs14 "count" "I" (.int 74)) (Vbx : owB Z h0 b k (142 : Int32)) :
    OwCon l yy28 j32 1 (some .int) ws (rM 1 0 0 12) #[(.ref sb)] Z h0 (OwQ (some (.int 74)) h0 n0) := by
  refine MetFree.of_bodySF (plainFor_of_name owpn39) hisR ?_
  intro p e s m args below meth c s₁ Bd hml0 hP hK
  have hi := @own_hi Z a0 hw
  obtain ⟨rfl, hZ, hh⟩ := hP
  have hx := Bd.exec
  have hby := Bd.bytes
  have hml : c.maxLocals = 1 := hml0
  have hown := findClass_of_methodNamed Bd.named
  have X0 : Stand p l e (rM 1 0 0 12) s m #[(.ref sb)] below meth c s₁ [] 0 0 := Stand.of_body Bd
  have e0 : s₁.heap = h0 := by rw [← hh, Bd.state]; rfl
  have N0 := Fr.nil n0
  have ef : entryFrame m #[(.ref sb)] 1 = mkF m 0 #[.val (.ref sb)] [] := by first | (simp [entryFrame, mkF, argsToLocals, Value.category]; done) | rfl
  obtain ⟨_, _, ⟨T1, L1, k1, n1⟩, -, X1, ⟨Lc1, hQ1, l1, y1, z1⟩, st1⟩ := superBack X0 hx hZ (y := yy14) hown (hi 288 rfl) (own_same (hi 216 rfl) rfl (by decide) (hi 283 rfl)) (hi 284 rfl) (hi 195 rfl) (by decide) (backOf (W := 0) (rmAl_142_74 l Z a0 hw [] n0 h0 O qqR qqN qqK qqU qqS qqE qqI qqM W sb b k Eb Gv Gc Gn Vbx) hZ (hi 289 rfl) (hi 179 rfl) (by decide) (by decide)) e0 (Ins.self Eb) (g := (mkF m 1 #[vR sb] [(.ref sb)])) rfl (by rw [hml]; rfl) (hi 289 rfl) (argsL := []) (rest := []) (lenOf owpd5 rfl) rfl (Nat.le_of_eq rfl) (hb hby d39_1) (fun _ _ => ⟨rfl, e0, (by decide : 0 + 0 ≤ _), (by decide : 0 + 0 ≤ _)⟩)
  dsimp only [Pt.U, Pt.locs, Pt.cells, Pt.slots] at X1 l1 y1 z1 st1 hQ1
  subst l1 y1 z1
  obtain ⟨rfl, Nq1, e1⟩ := hQ1
  have N1 := Fr.app N0 Nq1
  obtain ⟨fs, hr, hrun, hended, hW, hsame⟩ := X1.leave (v := some (.int 74)) (fun h => by rw [Bd.returns] at h; cases h)
  refine ⟨_, _, castTop ef ?_, hrun, hended, _, _, rfl, ?_, ⟨_, rfl⟩, hW, hsame.mono (by decide) (by decide)⟩
  · show OwG p e below s₁ m 0 #[vR sb] [] _
    refine XS.aloadN X0.here hx rfl (hb hby d39_0) rfl rfl ?_
    show OwG p e below s₁ m 1 #[vR sb] [(.ref sb)] _
    refine st1.trans ?_
    show OwG p e below T1 m 4 #[vR sb] [(.int 74)] _
    exact retI X1 hx Bd.returns (hb hby d39_4) hr
  · have eF : (T1.setFrames fs).heap = h0 := e1
    exact ⟨rfl, N1, eF⟩
theorem rmIl (l : Launch) (Z : State) (a0 : Array Value) (hw : OwHw Z a0) (ws : List Jvm.Cond) (n0 : Nat) (h0 : Heap) (O : Old Z n0 h0) (qqR qqN qqK qqU qqS qqE : Addr) (qqI : Int32) (qqM : Addr) (W : OwW Z qqR qqN qqK qqU qqS qqE qqI qqM) (sb : Addr) (Gc : Fld Z h0 sb zs14 "coder" "B" (.int 0)) :
    OwCon l yy13 j27 1 (some .boolean) ws (rM 0 0 0 0) #[(.ref sb)] Z h0 (OwQ (some (.int 1)) h0 n0) := by
  refine MetFree.of_bodySF (plainFor_of_name owpn41) hisR ?_
  intro p e s m args below meth c s₁ Bd hml0 hP hK
  have hi := @own_hi Z a0 hw
  obtain ⟨rfl, hZ, hh⟩ := hP
  have hx := Bd.exec
  have hby := Bd.bytes
  have hml : c.maxLocals = 1 := hml0
  have hown := findClass_of_methodNamed Bd.named
  have X0 : Stand p l e (rM 0 0 0 0) s m #[(.ref sb)] below meth c s₁ [] 0 0 := Stand.of_body Bd
  have e0 : s₁.heap = h0 := by rw [← hh, Bd.state]; rfl
  have N0 := Fr.nil n0
  have WW := W
  obtain ⟨ES, nzI, SR, SN, FR, FN, SK, FK, SU, SS, SC, nRN, nKN, Mo, -⟩ := WW
  have ef : entryFrame m #[(.ref sb)] 1 = mkF m 0 #[.val (.ref sb)] [] := by first | (simp [entryFrame, mkF, argsToLocals, Value.category]; done) | rfl
  obtain ⟨T1, X1, e1, st1⟩ := getS2 X0 hx hZ hown (host := "") (Or.inl (hi 182 rfl)) Via.refl e0 (SC.ext O.2) (g := (mkF m 0 #[vR sb] [])) rfl (hb hby d41_0)
  obtain ⟨T2, X2, e2, st2⟩ := getF X1 hx hZ hown (host := "") (Or.inl (hi 185 rfl)) Via.refl e1 Gc (g := (mkF m 7 #[vR sb] [(.ref sb)])) rfl rfl (hb hby d41_7)
  obtain ⟨fs, hr, hrun, hended, hW, hsame⟩ := X2.leave (v := some (.int 1)) (fun h => by rw [Bd.returns] at h; cases h)
  refine ⟨_, _, castTop ef ?_, hrun, hended, _, _, rfl, ?_, ⟨_, rfl⟩, hW, hsame.mono (by decide) (by decide)⟩
  · show OwG p e below s₁ m 0 #[vR sb] [] _
    refine st1 _ ?_
    show OwG p e below T1 m 3 #[vR sb] [(.int qqI)] _
    refine XS.ifNo X1.here hx rfl (hb hby d41_3) rfl ((if0 _ _).trans (feq nzI).1) ?_
    refine XS.aloadN X1.here hx rfl (hb hby d41_6) rfl rfl ?_
    show OwG p e below T1 m 7 #[vR sb] [(.ref sb)] _
    refine st2 _ ?_
    show OwG p e below T2 m 10 #[vR sb] [(.int 0)] _
    refine XS.ifNo X2.here hx rfl (hb hby d41_10) rfl ((if0 _ _).trans (teq (by decide : (0 : Int32) = (0 : Int32))).2) ?_
    refine XS.iconst X2.here hx rfl (hb hby d41_13) ?_
    refine XS.goto X2.here hx rfl (pc0 := 14) (pc' := 18) rfl (hb hby d41_14) (by decide) (by decide) ?_
    show OwG p e below T2 m 18 #[vR sb] [(.int 1)] _
    exact retN X2 hx (t := .boolean) Bd.returns (by simp) (hb hby d41_18) hr
  · have eF : (T2.setFrames fs).heap = h0 := e2
    exact ⟨rfl, N0, eF⟩
theorem rmChk_0_74 (l : Launch) (Z : State) (a0 : Array Value) (hw : OwHw Z a0) (ws : List Jvm.Cond) (n0 : Nat) (h0 : Heap) (O : Old Z n0 h0) (qqR qqN qqK qqU qqS qqE : Addr) (qqI : Int32) (qqM : Addr) (W : OwW Z qqR qqN qqK qqU qqS qqE qqI qqM)  :
    OwCon l yy39 j6 2 none ws (rM 0 0 0 0) #[(.int 0), (.int 74)] Z h0 (OwQ none h0 n0) := by
  refine MetFree.of_bodySF (plainFor_of_name owpn44) hisR ?_
  intro p e s m args below meth c s₁ Bd hml0 hP hK
  have hi := @own_hi Z a0 hw
  obtain ⟨rfl, hZ, hh⟩ := hP
  have hx := Bd.exec
  have hby := Bd.bytes
  have hml : c.maxLocals = 2 := hml0
  have hown := findClass_of_methodNamed Bd.named
  have X0 : Stand p l e (rM 0 0 0 0) s m #[(.int 0), (.int 74)] below meth c s₁ [] 0 0 := Stand.of_body Bd
  have e0 : s₁.heap = h0 := by rw [← hh, Bd.state]; rfl
  have N0 := Fr.nil n0
  have ef : entryFrame m #[(.int 0), (.int 74)] 2 = mkF m 0 #[.val (.int 0), .val (.int 74)] [] := by first | (simp [entryFrame, mkF, argsToLocals, Value.category]; done) | rfl
  obtain ⟨fs, hr, hrun, hended, hW, hsame⟩ := X0.leave (v := none) (fun _ => rfl)
  refine ⟨_, _, castTop ef ?_, hrun, hended, _, _, rfl, ?_, ⟨_, rfl⟩, hW, hsame.mono (by decide) (by decide)⟩
  · show OwG p e below s₁ m 0 #[vI 0, vI 74] [] _
    refine XS.iloadN X0.here hx rfl (hb hby d44_0) rfl ?_
    show OwG p e below s₁ m 1 #[vI 0, vI 74] [(.int 74)] _
    refine XS.iloadN X0.here hx rfl (hb hby d44_1) rfl ?_
    refine XS.icmpYes X0.here hx rfl (pc0 := 2) (pc' := 37) rfl (hb hby d44_2) rfl (flt (by decide : ¬ ((74 : Int32) < (0 : Int32)))).2.1 (by decide) (by decide) ?_
    show OwG p e below s₁ m 37 #[vI 0, vI 74] [] _
    exact X0.returnOut hx Bd.returns (hb hby d44_37) hr
  · have eF : (s₁.setFrames fs).heap = h0 := e0
    exact ⟨rfl, N0, eF⟩
theorem rmMin_142_74 (l : Launch) (Z : State) (a0 : Array Value) (hw : OwHw Z a0) (ws : List Jvm.Cond) (n0 : Nat) (h0 : Heap) (O : Old Z n0 h0) (qqR qqN qqK qqU qqS qqE : Addr) (qqI : Int32) (qqM : Addr) (W : OwW Z qqR qqN qqK qqU qqS qqE qqI qqM)  :
    OwCon l yy20 j18 2 (some .int) ws (rM 0 0 0 0) #[(.int 142), (.int 74)] Z h0 (OwQ (some (.int 74)) h0 n0) := by
  refine MetFree.of_bodySF (Jvm.Free.JP.mathPlain rfl (by decide +kernel)) hisR ?_
  intro p e s m args below meth c s₁ Bd hml0 hP hK
  have hi := @own_hi Z a0 hw
  obtain ⟨rfl, hZ, hh⟩ := hP
  have hx := Bd.exec
  have hby := Bd.bytes
  have hml : c.maxLocals = 2 := hml0
  have hown := findClass_of_methodNamed Bd.named
  have X0 : Stand p l e (rM 0 0 0 0) s m #[(.int 142), (.int 74)] below meth c s₁ [] 0 0 := Stand.of_body Bd
  have e0 : s₁.heap = h0 := by rw [← hh, Bd.state]; rfl
  have N0 := Fr.nil n0
  have ef : entryFrame m #[(.int 142), (.int 74)] 2 = mkF m 0 #[.val (.int 142), .val (.int 74)] [] := by first | (simp [entryFrame, mkF, argsToLocals, Value.category]; done) | rfl
  obtain ⟨fs, hr, hrun, hended, hW, hsame⟩ := X0.leave (v := some (.int 74)) (fun h => by rw [Bd.returns] at h; cases h)
  refine ⟨_, _, castTop ef ?_, hrun, hended, _, _, rfl, ?_, ⟨_, rfl⟩, hW, hsame.mono (by decide) (by decide)⟩
  · show OwG p e below s₁ m 0 #[vI 142, vI 74] [] _
    refine XS.iloadN X0.here hx rfl (hb hby d34_0) rfl ?_
    show OwG p e below s₁ m 1 #[vI 142, vI 74] [(.int 142)] _
    refine XS.iloadN X0.here hx rfl (hb hby d34_1) rfl ?_
    refine XS.icmpYes X0.here hx rfl (pc0 := 2) (pc' := 9) rfl (hb hby d34_2) rfl (tlt (by decide : (74 : Int32) < (142 : Int32))).2.2.1 (by decide) (by decide) ?_
    refine XS.iloadN X0.here hx rfl (hb hby d34_9) rfl ?_
    show OwG p e below s₁ m 10 #[vI 142, vI 74] [(.int 74)] _
    exact retI X0 hx Bd.returns (hb hby d34_10) hr
  · have eF : (s₁.setFrames fs).heap = h0 := e0
    exact ⟨rfl, N0, eF⟩
theorem rmCrb_142_74 (l : Launch) (Z : State) (a0 : Array Value) (hw : OwHw Z a0) (ws : List Jvm.Cond) (n0 : Nat) (h0 : Heap) (O : Old Z n0 h0) (qqR qqN qqK qqU qqS qqE : Addr) (qqI : Int32) (qqM : Addr) (W : OwW Z qqR qqN qqK qqU qqS qqE qqI qqM) (b : Addr) (k : ClassId) (Vb : owB Z h0 b k (142 : Int32)) :
    OwCon l yy44 j2 5 (some (.array .byte)) ws (rM 1 1 74 18) #[(.ref b), (.int 0), (.int 74)] Z h0 (OwP (fun v h => ∃ (b' : Addr) (k' : ClassId), v = some (.ref b') ∧ h0.size ≤ b' ∧ Old Z n0 h ∧ Keep h0 h [] ∧ owB Z h b' k' (74 : Int32)) n0) := by
  refine MetFree.of_bodySF (plainFor_of_name owpn43) hisR ?_
  intro p e s m args below meth c s₁ Bd hml0 hP hK
  have hi := @own_hi Z a0 hw
  obtain ⟨rfl, hZ, hh⟩ := hP
  have hx := Bd.exec
  have hby := Bd.bytes
  have hml : c.maxLocals = 5 := hml0
  have hown := findClass_of_methodNamed Bd.named
  have X0 : Stand p l e (rM 1 1 74 18) s m #[(.ref b), (.int 0), (.int 74)] below meth c s₁ [] 0 0 := Stand.of_body Bd
  have e0 : s₁.heap = h0 := by rw [← hh, Bd.state]; rfl
  have N0 := Fr.nil n0
  have ef : entryFrame m #[(.ref b), (.int 0), (.int 74)] 5 = mkF m 0 #[.val (.ref b), .val (.int 0), .val (.int 74), .unset, .unset] [] := by first | (simp [entryFrame, mkF, argsToLocals, Value.category]; done) | rfl
  obtain ⟨_, _, ⟨T1, L1, k1, n1⟩, -, X1, ⟨Lc1, hQ1, l1, y1, z1⟩, st1⟩ := Jvm.LawKit.callS X0 hx (y := yy39) hown (mvT hZ (hi 301 rfl)) (mvT hZ (hi 302 rfl)) (mvT hZ (hi 255 rfl)) (mvT hZ (hi 303 rfl)) (by decide) (backOf (W := 0) (rmChk_0_74 l Z a0 hw [] n0 h0 O qqR qqN qqK qqU qqS qqE qqI qqM W ) hZ (hi 303 rfl) (hi 255 rfl) (by decide) (by decide)) (g := (mkF m 2 #[vR b, vI 0, vI 74, .unset, .unset] [(.int 74), (.int 0)])) rfl (by rw [hml]; rfl) (argsL := [(.int 0), (.int 74)]) (rest := []) (lenOf owpd12 rfl) rfl (Nat.le_of_eq rfl) (hb hby d43_2) (fun _ _ => ⟨rfl, e0, (by decide : 0 + 0 ≤ _), (by decide : 0 + 0 ≤ _)⟩)
  dsimp only [Pt.U, Pt.locs, Pt.cells, Pt.slots] at X1 l1 y1 z1 st1 hQ1
  subst l1 y1 z1
  obtain ⟨rfl, Nq1, e1⟩ := hQ1
  have N1 := Fr.app N0 Nq1
  obtain ⟨T2, h2, k2, X2, e2, E2, A2, Ea2, st2⟩ := newPE X1 hx hZ (aty := .byte) (hi 83 rfl) e1 (g := (mkF m 10 #[vR b, vI 0, vI 74, vI 74, .unset] [(.int 74)])) rfl (hb hby d43_10) rfl (by decide) (cap := 74) (by decide) (by decide) (by decide) (by decide) (ad := "[B") (by decide)
  obtain ⟨b2, g2⟩ : ∃ z, z = h0.size := ⟨_, rfl⟩
  rw [← g2] at A2 Ea2 st2
  have gx2 : n0 ≤ b2 := Nat.le_trans (Nat.le_trans (Nat.le_of_eq O.1.symm) O.2.1) (Nat.le_of_eq g2.symm)
  have ne_b_2 : b ≠ b2 := Nat.ne_of_lt (Nat.lt_of_lt_of_le Vb.lt (Nat.le_of_eq g2.symm))
  have O2 := O.ext E2
  have Vb2 : owB Z h2 b2 k2 (74 : Int32) := owB.new A2 (by decide)
  have sz2 : h0.size ≤ b2 := Nat.le_trans (Keep.refl h0 []).1 (Nat.le_of_eq g2.symm)
  have Kp2 : Keep h0 h2 [] := (Keep.refl h0 []).ext E2
  have fa4 := (Vb.ext E2)
  obtain ⟨cl3, Ar3, Sz3, Nn3⟩ := fa4.arr
  obtain ⟨_, _, ⟨T5, L5, k5, n5⟩, -, X5, ⟨Lc5, hQ5, l5, y5, z5⟩, st5⟩ := Jvm.LawKit.callS X2 hx (y := yy20) hown (mvT hZ (hi 257 rfl)) (mvT hZ (hi 258 rfl)) (mvT hZ (hi 249 rfl)) (mvT hZ (hi 259 rfl)) (by decide) (backOf (W := 4) (rmMin_142_74 l Z a0 hw [] n0 h2 O2 qqR qqN qqK qqU qqS qqE qqI qqM W ) hZ (hi 259 rfl) (hi 249 rfl) (by decide) (by decide)) (g := (mkF m 24 #[vR b, vI 0, vI 74, vI 74, vR b2] [(.int 74), (.int 142), (.int 0), (.ref b2), (.int 0), (.ref b)])) rfl (by rw [hml]; rfl) (argsL := [(.int 142), (.int 74)]) (rest := [(.int 0), (.ref b2), (.int 0), (.ref b)]) (lenOf owpd8 rfl) rfl (Nat.le_of_eq rfl) (hb hby d43_24) (fun _ _ => ⟨rfl, e2, (by decide : 1 + 0 ≤ _), (by decide : 74 + 0 ≤ _)⟩)
  dsimp only [Pt.U, Pt.locs, Pt.cells, Pt.slots] at X5 l5 y5 z5 st5 hQ5
  subst l5 y5 z5
  obtain ⟨rfl, Nq5, e5⟩ := hQ5
  have N5 := Fr.app N1 Nq5
  obtain ⟨T6, h6, L6, X6, e6, N6, Kc6, V6, st6⟩ := own_cpB X5 hx hZ hown (hi 260 rfl) (hi 237 rfl) (hi 235 rfl) (hi 236 rfl) e5 fa4 Vb2 (by decide) (by decide) (by decide) (by decide) (by decide) N5 gx2 (g := (mkF m 27 #[vR b, vI 0, vI 74, vI 74, vR b2] [(.int 74), (.int 0), (.ref b2), (.int 0), (.ref b)])) rfl (by rw [hml]; rfl) rfl (hb hby d43_27) (by decide) (W := 0) (Nat.le_of_eq rfl) (by decide)
  have O6 := O2.keep Kc6 (allS (P := fun x => n0 ≤ x) gx2 all0)
  have Kp6 : Keep h0 h6 [] := Kp2.trans Kc6 (allS (P := fun x => x ∈ ([] : List Addr) ∨ h0.size ≤ x) (Or.inr sz2) (all0 (P := fun x => x ∈ ([] : List Addr) ∨ h0.size ≤ x)))
  obtain ⟨fs, hr, hrun, hended, hW, hsame⟩ := X6.leave (v := some (.ref b2)) (fun h => by rw [Bd.returns] at h; cases h)
  refine ⟨_, _, castTop ef ?_, hrun, hended, _, _, rfl, ?_, ⟨_, rfl⟩, hW, hsame.mono (by decide) (by decide)⟩
  · show OwG p e below s₁ m 0 #[vR b, vI 0, vI 74, .unset, .unset] [] _
    refine XS.iloadN X0.here hx rfl (hb hby d43_0) rfl ?_
    show OwG p e below s₁ m 1 #[vR b, vI 0, vI 74, .unset, .unset] [(.int 0)] _
    refine XS.iloadN X0.here hx rfl (hb hby d43_1) rfl ?_
    show OwG p e below s₁ m 2 #[vR b, vI 0, vI 74, .unset, .unset] [(.int 74), (.int 0)] _
    refine st1 _ ?_
    show OwG p e below T1 m 5 #[vR b, vI 0, vI 74, .unset, .unset] [] _
    refine XS.iloadN X1.here hx rfl (hb hby d43_5) rfl ?_
    refine XS.iloadN X1.here hx rfl (hb hby d43_6) rfl ?_
    refine XS.isub X1.here hx rfl (hb hby d43_7) rfl ?_
    refine XS.istoreN X1.here hx rfl (hb hby d43_8) rfl (l' := #[vR b, vI 0, vI 74, vI 74, .unset]) rfl ?_
    refine XS.iloadN X1.here hx rfl (hb hby d43_9) rfl ?_
    show OwG p e below T1 m 10 #[vR b, vI 0, vI 74, vI 74, .unset] [(.int 74)] _
    refine st2 _ ?_
    show OwG p e below T2 m 12 #[vR b, vI 0, vI 74, vI 74, .unset] [(.ref b2)] _
    refine XS.astore X2.here hx rfl (hb hby d43_12) rfl rfl (l' := #[vR b, vI 0, vI 74, vI 74, vR b2]) rfl ?_
    refine XS.aloadN X2.here hx rfl (hb hby d43_14) rfl rfl ?_
    refine XS.iloadN X2.here hx rfl (hb hby d43_15) rfl ?_
    refine XS.aload X2.here hx rfl (hb hby d43_16) rfl rfl ?_
    refine XS.iconst X2.here hx rfl (hb hby d43_18) ?_
    refine XS.aloadN X2.here hx rfl (hb hby d43_19) rfl rfl ?_
    show OwG p e below T2 m 20 #[vR b, vI 0, vI 74, vI 74, vR b2] [(.ref b), (.int 0), (.ref b2), (.int 0), (.ref b)] _
    refine X2.arraylength hx (by rw [e2]; exact Ar3.1) (State.isArrayOf_alike hZ.alike Ar3.2.1) (g := (mkF m 20 #[vR b, vI 0, vI 74, vI 74, vR b2] [(.ref b), (.int 0), (.ref b2), (.int 0), (.ref b)])) rfl rfl (hb hby d43_20) _ ?_
    rw [len_of Sz3 Nn3]
    show OwG p e below T2 m 21 #[vR b, vI 0, vI 74, vI 74, vR b2] [(.int 142), (.int 0), (.ref b2), (.int 0), (.ref b)] _
    refine XS.iloadN X2.here hx rfl (hb hby d43_21) rfl ?_
    refine XS.isub X2.here hx rfl (hb hby d43_22) rfl ?_
    refine XS.iloadN X2.here hx rfl (hb hby d43_23) rfl ?_
    show OwG p e below T2 m 24 #[vR b, vI 0, vI 74, vI 74, vR b2] [(.int 74), (.int 142), (.int 0), (.ref b2), (.int 0), (.ref b)] _
    refine st5 _ ?_
    show OwG p e below T5 m 27 #[vR b, vI 0, vI 74, vI 74, vR b2] [(.int 74), (.int 0), (.ref b2), (.int 0), (.ref b)] _
    refine st6 _ ?_
    show OwG p e below T6 m 30 #[vR b, vI 0, vI 74, vI 74, vR b2] [] _
    refine XS.aload X6.here hx rfl (hb hby d43_30) rfl rfl ?_
    show OwG p e below T6 m 32 #[vR b, vI 0, vI 74, vI 74, vR b2] [(.ref b2)] _
    exact retOut X6 hx Bd.returns rfl (Or.inr (Or.inr (Or.inr (Or.inr ⟨rfl, rfl, rfl⟩)))) (hb hby d43_32) hr
  · have eF : (T6.setFrames fs).heap = h6 := e6
    exact ⟨N6, b2, k2, rfl, sz2, by rw [eF]; exact ⟨O6, Kp6, V6⟩⟩
theorem rmCr_142_74 (l : Launch) (Z : State) (a0 : Array Value) (hw : OwHw Z a0) (ws : List Jvm.Cond) (n0 : Nat) (h0 : Heap) (O : Old Z n0 h0) (qqR qqN qqK qqU qqS qqE : Addr) (qqI : Int32) (qqM : Addr) (W : OwW Z qqR qqN qqK qqU qqS qqE qqI qqM) (b : Addr) (k : ClassId) (Vb : owB Z h0 b k (142 : Int32)) :
    OwCon l yy43 j4 3 (some (.array .byte)) ws (rM 2 1 74 34) #[(.ref b), (.int 0), (.int 74)] Z h0 (OwP (fun v h => ∃ (b' : Addr) (k' : ClassId), v = some (.ref b') ∧ h0.size ≤ b' ∧ Old Z n0 h ∧ Keep h0 h [] ∧ owB Z h b' k' (74 : Int32)) n0) := by
  refine MetFree.of_bodySF (plainFor_of_name owpn42) hisR ?_
  intro p e s m args below meth c s₁ Bd hml0 hP hK
  have hi := @own_hi Z a0 hw
  obtain ⟨rfl, hZ, hh⟩ := hP
  have hx := Bd.exec
  have hby := Bd.bytes
  have hml : c.maxLocals = 3 := hml0
  have hown := findClass_of_methodNamed Bd.named
  have X0 : Stand p l e (rM 2 1 74 34) s m #[(.ref b), (.int 0), (.int 74)] below meth c s₁ [] 0 0 := Stand.of_body Bd
  have e0 : s₁.heap = h0 := by rw [← hh, Bd.state]; rfl
  have N0 := Fr.nil n0
  have ef : entryFrame m #[(.ref b), (.int 0), (.int 74)] 3 = mkF m 0 #[.val (.ref b), .val (.int 0), .val (.int 74)] [] := by first | (simp [entryFrame, mkF, argsToLocals, Value.category]; done) | rfl
  obtain ⟨cl1, Ar1, Sz1, Nn1⟩ := Vb.arr
  obtain ⟨_, _, ⟨T2, L2, k2, n2⟩, -, X2, ⟨Lc2, hQ2, l2, y2, z2⟩, st2⟩ := Jvm.LawKit.callS X0 hx (y := yy44) hown (mvT hZ (hi 298 rfl)) (mvT hZ (hi 299 rfl)) (mvT hZ (hi 255 rfl)) (mvT hZ (hi 300 rfl)) (by decide) (backOf (W := 0) (rmCrb_142_74 l Z a0 hw [] n0 h0 O qqR qqN qqK qqU qqS qqE qqI qqM W b k Vb) hZ (hi 300 rfl) (hi 255 rfl) (by decide) (by decide)) (g := (mkF m 13 #[vR b, vI 0, vI 74] [(.int 74), (.int 0), (.ref b)])) rfl (by rw [hml]; rfl) (argsL := [(.ref b), (.int 0), (.int 74)]) (rest := []) (lenOf owpd13 rfl) rfl (Nat.le_of_eq rfl) (hb hby d42_13) (fun _ _ => ⟨rfl, e0, (by decide : 0 + 1 ≤ _), (by decide : 0 + 74 ≤ _)⟩)
  dsimp only [Pt.U, Pt.locs, Pt.cells, Pt.slots] at X2 l2 y2 z2 st2 hQ2
  subst l2 y2 z2
  obtain ⟨Nq2, hP2⟩ := hQ2
  have N2 := Fr.app N0 Nq2
  have ee2 : T2.heap = T2.heap := rfl
  obtain ⟨bb2, kk2, rfl, hb2, Oc2, Kc2, Vb2⟩ := hP2
  have ne_b_2 : b ≠ bb2 := Nat.ne_of_lt (Nat.lt_of_lt_of_le Vb.lt hb2)
  have gx2 : n0 ≤ bb2 := Nat.le_trans (Nat.le_trans (Nat.le_of_eq O.1.symm) O.2.1) hb2
  have sz2 : h0.size ≤ bb2 := Nat.le_trans (Keep.refl h0 []).1 hb2
  have Kp2 : Keep h0 T2.heap [] := (Keep.refl h0 []).trans Kc2 (all0 (P := fun x => x ∈ ([] : List Addr) ∨ h0.size ≤ x))
  obtain ⟨fs, hr, hrun, hended, hW, hsame⟩ := X2.leave (v := some (.ref bb2)) (fun h => by rw [Bd.returns] at h; cases h)
  refine ⟨_, _, castTop ef ?_, hrun, hended, _, _, rfl, ?_, ⟨_, rfl⟩, hW, hsame.mono (by decide) (by decide)⟩
  · show OwG p e below s₁ m 0 #[vR b, vI 0, vI 74] [] _
    refine XS.iloadN X0.here hx rfl (hb hby d42_0) rfl ?_
    show OwG p e below s₁ m 1 #[vR b, vI 0, vI 74] [(.int 0)] _
    refine XS.ifNo X0.here hx rfl (hb hby d42_1) rfl ((if0 _ _).trans (teq (by decide : (0 : Int32) = (0 : Int32))).2) ?_
    refine XS.iloadN X0.here hx rfl (hb hby d42_4) rfl ?_
    refine XS.aloadN X0.here hx rfl (hb hby d42_5) rfl rfl ?_
    show OwG p e below s₁ m 6 #[vR b, vI 0, vI 74] [(.ref b), (.int 74)] _
    refine X0.arraylength hx (by rw [e0]; exact Ar1.1) (State.isArrayOf_alike hZ.alike Ar1.2.1) (g := (mkF m 6 #[vR b, vI 0, vI 74] [(.ref b), (.int 74)])) rfl rfl (hb hby d42_6) _ ?_
    rw [len_of Sz1 Nn1]
    show OwG p e below s₁ m 7 #[vR b, vI 0, vI 74] [(.int 142), (.int 74)] _
    refine XS.icmpNo X0.here hx rfl (hb hby d42_7) rfl (feq (by decide : ¬ ((74 : Int32) = (142 : Int32)))).1 ?_
    refine XS.aloadN X0.here hx rfl (hb hby d42_10) rfl rfl ?_
    refine XS.iloadN X0.here hx rfl (hb hby d42_11) rfl ?_
    refine XS.iloadN X0.here hx rfl (hb hby d42_12) rfl ?_
    show OwG p e below s₁ m 13 #[vR b, vI 0, vI 74] [(.int 74), (.int 0), (.ref b)] _
    refine st2 _ ?_
    show OwG p e below T2 m 16 #[vR b, vI 0, vI 74] [(.ref bb2)] _
    exact retOut X2 hx Bd.returns rfl (Or.inr (Or.inr (Or.inr (Or.inr ⟨rfl, rfl, rfl⟩)))) (hb hby d42_16) hr
  · have eF : (T2.setFrames fs).heap = T2.heap := ee2
    exact ⟨N2, bb2, kk2, rfl, sz2, by rw [eF]; exact ⟨Oc2, Kp2, Vb2⟩⟩
theorem rmSi2_74 (l : Launch) (Z : State) (a0 : Array Value) (hw : OwHw Z a0) (ws : List Jvm.Cond) (n0 : Nat) (h0 : Heap) (O : Old Z n0 h0) (qqR qqN qqK qqU qqS qqE : Addr) (qqI : Int32) (qqM : Addr) (W : OwW Z qqR qqN qqK qqU qqS qqE qqI qqM) (sb b : Addr) (k : ClassId) (a : Addr) (Eb : Exa Z h0 sb zs19) (Gv : Fld Z h0 sb zs14 "value" "[B" (.ref b)) (Gc : Fld Z h0 sb zs14 "coder" "B" (.int 0)) (Gn : Fld Z h0 sb zs14 "count" "I" (.int 74)) (Vbx : owB Z h0 b k (142 : Int32)) (Es : Exa Z h0 a zs18) (Fc : Fld Z h0 a zs18 "coder" "B" (.int 0)) (Fv : Fld Z h0 a zs18 "value" "[B" .null) (ga : n0 ≤ a) :
    OwCon l yy21 j5 5 none ws (rM 3 1 74 49) #[(.ref a), (.ref sb), .null] Z h0 (OwP (fun v h => v = none ∧ Old Z n0 h ∧ Keep h0 h [a]) n0) := by
  refine MetFree.of_bodySF (plainFor_of_name owpn37) hisR ?_
  intro p e s m args below meth c s₁ Bd hml0 hP hK
  have hi := @own_hi Z a0 hw
  obtain ⟨rfl, hZ, hh⟩ := hP
  have hx := Bd.exec
  have hby := Bd.bytes
  have hml : c.maxLocals = 5 := hml0
  have hown := findClass_of_methodNamed Bd.named
  have hnm := (name_of_methodNamed Bd.named Bd.method).1
  have X0 : Stand p l e (rM 3 1 74 49) s m #[(.ref a), (.ref sb), .null] below meth c s₁ [] 0 0 := Stand.of_body Bd
  have e0 : s₁.heap = h0 := by rw [← hh, Bd.state]; rfl
  have N0 := Fr.nil n0
  have ef : entryFrame m #[(.ref a), (.ref sb), .null] 5 = mkF m 0 #[.val (.ref a), .val (.ref sb), .val .null, .unset, .unset] [] := by first | (simp [entryFrame, mkF, argsToLocals, Value.category]; done) | rfl
  obtain ⟨T1, X1, e1, st1⟩ := initO X0 hx hZ hown (hi 276 rfl) (hi 14 rfl) (hi 15 rfl) e0 (g := (mkF m 1 #[vR a, vR sb, .val .null, .unset, .unset] [(.ref a)])) rfl (by rw [hml]; rfl) rfl (hb hby d37_1) (by decide) (W := 0) (Nat.le_of_eq rfl) (by decide)
  obtain ⟨cq2, kq2, q2a, q2b, q2c⟩ := isOf hZ e1 Eb
  obtain ⟨_, _, ⟨T2, L2, k2, n2⟩, -, X2, ⟨Lc2, hQ2, l2, y2, z2⟩, st2⟩ := X1.virtualBack hx (y := yy11) (z := yy11) hown (mvT hZ (hi 277 rfl)) (mvT hZ (hi 278 rfl)) (notFace_of_selects (args := #[]) (mvT hZ (hi 280 rfl))) (mvT hZ (hi 280 rfl)) (mvT hZ (hi 279 rfl)) (by decide) (backOf (W := 0) (rmGv l Z a0 hw [] n0 h0 O qqR qqN qqK qqU qqS qqE qqI qqM W sb b Gv) hZ (hi 281 rfl) (hi 179 rfl) (by decide) (by decide)) q2a q2c (g := (mkF m 5 #[vR a, vR sb, .val .null, .unset, .unset] [(.ref sb)])) rfl (by rw [hml]; rfl) (Steps.refl _) (argsL := []) (rest := []) (lenOf owpd14 rfl) rfl (Nat.le_of_eq rfl) (hb hby d37_5) (fun _ _ => ⟨rfl, e1, (by decide : 0 + 0 ≤ _), (by decide : 0 + 0 ≤ _)⟩)
  dsimp only [Pt.U, Pt.locs, Pt.cells, Pt.slots] at X2 l2 y2 z2 st2 hQ2
  subst l2 y2 z2
  obtain ⟨rfl, Nq2, e2⟩ := hQ2
  have N2 := Fr.app N0 Nq2
  obtain ⟨cq3, kq3, q3a, q3b, q3c⟩ := isOf hZ e2 Eb
  obtain ⟨_, _, ⟨T3, L3, k3, n3⟩, -, X3, ⟨Lc3, hQ3, l3, y3, z3⟩, st3⟩ := X2.virtualBack hx (y := yy14) (z := yy28) hown (mvT hZ (hi 282 rfl)) (mvT hZ (hi 283 rfl)) (own_nf (args := #[]) (mvT hZ (hi 216 rfl)) rfl) (mvT hZ (hi 285 rfl)) (mvT hZ (hi 286 rfl)) (by decide) (backOf (W := 0) (rmSl_142_74 l Z a0 hw [] n0 h0 O qqR qqN qqK qqU qqS qqE qqI qqM W sb b k Eb Gv Gc Gn Vbx) hZ (hi 287 rfl) (hi 171 rfl) (by decide) (by decide)) q3a q3c (g := (mkF m 10 #[vR a, vR sb, .val .null, vR b, .unset] [(.ref sb)])) rfl (by rw [hml]; rfl) (Steps.refl _) (argsL := []) (rest := []) (lenOf owpd5 rfl) rfl (Nat.le_of_eq rfl) (hb hby d37_10) (fun _ _ => ⟨rfl, e2, (by decide : 0 + 0 ≤ _), (by decide : 0 + 0 ≤ _)⟩)
  dsimp only [Pt.U, Pt.locs, Pt.cells, Pt.slots] at X3 l3 y3 z3 st3 hQ3
  subst l3 y3 z3
  obtain ⟨rfl, Nq3, e3⟩ := hQ3
  have N3 := Fr.app N2 Nq3
  obtain ⟨cq4, kq4, q4a, q4b, q4c⟩ := isOf hZ e3 Eb
  obtain ⟨_, _, ⟨T4, L4, k4, n4⟩, -, X4, ⟨Lc4, hQ4, l4, y4, z4⟩, st4⟩ := X3.virtualBack hx (y := yy13) (z := yy13) hown (mvT hZ (hi 290 rfl)) (mvT hZ (hi 291 rfl)) (notFace_of_selects (args := #[]) (mvT hZ (hi 293 rfl))) (mvT hZ (hi 293 rfl)) (mvT hZ (hi 292 rfl)) (by decide) (backOf (W := 0) (rmIl l Z a0 hw [] n0 h0 O qqR qqN qqK qqU qqS qqE qqI qqM W sb Gc) hZ (hi 294 rfl) (hi 179 rfl) (by decide) (by decide)) q4a q4c (g := (mkF m 16 #[vR a, vR sb, .val .null, vR b, vI 74] [(.ref sb)])) rfl (by rw [hml]; rfl) (Steps.refl _) (argsL := []) (rest := []) (lenOf owpd15 rfl) rfl (Nat.le_of_eq rfl) (hb hby d37_16) (fun _ _ => ⟨rfl, e3, (by decide : 0 + 0 ≤ _), (by decide : 0 + 0 ≤ _)⟩)
  dsimp only [Pt.U, Pt.locs, Pt.cells, Pt.slots] at X4 l4 y4 z4 st4 hQ4
  subst l4 y4 z4
  obtain ⟨rfl, Nq4, e4⟩ := hQ4
  have N4 := Fr.app N3 Nq4
  obtain ⟨T5, h5, X5, e5, W5, st5⟩ := putFN X4 hx hZ hown (hi 210 rfl) Via.refl e4 Fc Es (Or.inr ⟨(hi 85 rfl), rfl, hnm⟩) (hi 82 rfl) (ty := .byte) (v' := (.int 0)) (by decide) rfl rfl (g := (mkF m 24 #[vR a, vR sb, .val .null, vR b, vI 74] [(.int 0), (.ref a)])) rfl rfl (hb hby d37_24)
  have Fw5 := Fc.same W5
  have N5 := Fr.snoc X5 N4 ga
  have O5 := O.wr W5 ga
  have Kp5 : Keep h0 h5 [a] := (Keep.refl h0 [a]).wr W5 (Or.inl (List.mem_of_getElem? (i := 0) rfl))
  have nq6 := owB.ne Vbx Es (hi 82 rfl)
  have fa7 := (Vbx.other W5 nq6)
  obtain ⟨_, _, ⟨T8, L8, k8, n8⟩, -, X8, ⟨Lc8, hQ8, l8, y8, z8⟩, st8⟩ := Jvm.LawKit.callS X5 hx (y := yy43) hown (mvT hZ (hi 295 rfl)) (mvT hZ (hi 296 rfl)) (mvT hZ (hi 255 rfl)) (mvT hZ (hi 297 rfl)) (by decide) (backOf (W := 1) (rmCr_142_74 l Z a0 hw [] n0 h5 O5 qqR qqN qqK qqU qqS qqE qqI qqM W b k fa7) hZ (hi 297 rfl) (hi 255 rfl) (by decide) (by decide)) (g := (mkF m 32 #[vR a, vR sb, .val .null, vR b, vI 74] [(.int 74), (.int 0), (.ref b), (.ref a)])) rfl (by rw [hml]; rfl) (argsL := [(.ref b), (.int 0), (.int 74)]) (rest := [(.ref a)]) (lenOf owpd13 rfl) rfl (Nat.le_of_eq rfl) (hb hby d37_32) (fun _ _ => ⟨rfl, e5, (by decide : 0 + 1 ≤ _), (by decide : 0 + 74 ≤ _)⟩)
  dsimp only [Pt.U, Pt.locs, Pt.cells, Pt.slots] at X8 l8 y8 z8 st8 hQ8
  subst l8 y8 z8
  obtain ⟨Nq8, hP8⟩ := hQ8
  have N8 := Fr.app N5 Nq8
  have ee8 : T8.heap = T8.heap := rfl
  obtain ⟨bb8, kk8, rfl, hb8, Oc8, Kc8, Vb8⟩ := hP8
  have fa9 := (Eb.wr W5)
  have ne_sb_8 : sb ≠ bb8 := Nat.ne_of_lt (Nat.lt_of_lt_of_le fa9.lt hb8)
  have ne_b_8 : b ≠ bb8 := Nat.ne_of_lt (Nat.lt_of_lt_of_le fa7.lt hb8)
  have fa10 := (Es.wr W5)
  have ne_a_8 : a ≠ bb8 := Nat.ne_of_lt (Nat.lt_of_lt_of_le fa10.lt hb8)
  have gx8 : n0 ≤ bb8 := Nat.le_trans (Nat.le_trans (Nat.le_of_eq O5.1.symm) O5.2.1) hb8
  have sz8 : h0.size ≤ bb8 := Nat.le_trans Kp5.1 hb8
  have Kp8 : Keep h0 T8.heap [a] := Kp5.trans Kc8 (all0 (P := fun x => x ∈ [a] ∨ h0.size ≤ x))
  have fa11 := ((Fv.other W5 (Or.inr (slot_ne (Or.inr (hi 84 rfl)) (Or.inr (hi 85 rfl)) (by decide) (t := (.array .byte)) (t' := .byte) (by decide) (by decide)))).keep Kc8 nin0)
  have fa12 := (fa10.keep Kc8)
  obtain ⟨T13, h13, X13, e13, W13, st13⟩ := putF X8 hx hZ hown (host := "") (Or.inl (hi 203 rfl)) Via.refl ee8 fa11 fa12 (Or.inr ⟨(hi 84 rfl), rfl, hnm⟩) (hi 82 rfl) (ty := (.array .byte)) (by decide) rfl rfl (g := (mkF m 35 #[vR a, vR sb, .val .null, vR b, vI 74] [(.ref bb8), (.ref a)])) rfl rfl (hb hby d37_35)
  have Fw13 := fa11.same W13
  have N13 := Fr.snoc X13 N8 ga
  have O13 := Oc8.wr W13 ga
  have Kp13 : Keep h0 h13 [a] := Kp8.wr W13 (Or.inl (List.mem_of_getElem? (i := 0) rfl))
  obtain ⟨fs, hr, hrun, hended, hW, hsame⟩ := X13.leave (v := none) (fun _ => rfl)
  refine ⟨_, _, castTop ef ?_, hrun, hended, _, _, rfl, ?_, ⟨_, rfl⟩, hW, hsame.mono (by decide) (by decide)⟩
  · show OwG p e below s₁ m 0 #[vR a, vR sb, .val .null, .unset, .unset] [] _
    refine XS.aloadN X0.here hx rfl (hb hby d37_0) rfl rfl ?_
    show OwG p e below s₁ m 1 #[vR a, vR sb, .val .null, .unset, .unset] [(.ref a)] _
    refine st1 _ ?_
    show OwG p e below T1 m 4 #[vR a, vR sb, .val .null, .unset, .unset] [] _
    refine XS.aloadN X1.here hx rfl (hb hby d37_4) rfl rfl ?_
    show OwG p e below T1 m 5 #[vR a, vR sb, .val .null, .unset, .unset] [(.ref sb)] _
    refine st2.trans ?_
    show OwG p e below T2 m 8 #[vR a, vR sb, .val .null, .unset, .unset] [(.ref b)] _
    refine XS.astoreN X2.here hx rfl (hb hby d37_8) rfl rfl (l' := #[vR a, vR sb, .val .null, vR b, .unset]) rfl ?_
    refine XS.aloadN X2.here hx rfl (hb hby d37_9) rfl rfl ?_
    show OwG p e below T2 m 10 #[vR a, vR sb, .val .null, vR b, .unset] [(.ref sb)] _
    refine st3.trans ?_
    show OwG p e below T3 m 13 #[vR a, vR sb, .val .null, vR b, .unset] [(.int 74)] _
    refine XS.istore X3.here hx rfl (hb hby d37_13) rfl (l' := #[vR a, vR sb, .val .null, vR b, vI 74]) rfl ?_
    refine XS.aloadN X3.here hx rfl (hb hby d37_15) rfl rfl ?_
    show OwG p e below T3 m 16 #[vR a, vR sb, .val .null, vR b, vI 74] [(.ref sb)] _
    refine st4.trans ?_
    show OwG p e below T4 m 19 #[vR a, vR sb, .val .null, vR b, vI 74] [(.int 1)] _
    refine XS.ifNo X4.here hx rfl (hb hby d37_19) rfl ((if0 _ _).trans (feq (by decide : ¬ ((1 : Int32) = (0 : Int32)))).1) ?_
    refine XS.aloadN X4.here hx rfl (hb hby d37_22) rfl rfl ?_
    refine XS.iconst X4.here hx rfl (hb hby d37_23) ?_
    show OwG p e below T4 m 24 #[vR a, vR sb, .val .null, vR b, vI 74] [(.int 0), (.ref a)] _
    refine st5 _ ?_
    show OwG p e below T5 m 27 #[vR a, vR sb, .val .null, vR b, vI 74] [] _
    refine XS.aloadN X5.here hx rfl (hb hby d37_27) rfl rfl ?_
    refine XS.aloadN X5.here hx rfl (hb hby d37_28) rfl rfl ?_
    refine XS.iconst X5.here hx rfl (hb hby d37_29) ?_
    refine XS.iload X5.here hx rfl (hb hby d37_30) rfl ?_
    show OwG p e below T5 m 32 #[vR a, vR sb, .val .null, vR b, vI 74] [(.int 74), (.int 0), (.ref b), (.ref a)] _
    refine st8 _ ?_
    show OwG p e below T8 m 35 #[vR a, vR sb, .val .null, vR b, vI 74] [(.ref bb8), (.ref a)] _
    refine st13 _ ?_
    show OwG p e below T13 m 38 #[vR a, vR sb, .val .null, vR b, vI 74] [] _
    refine XS.goto X13.here hx rfl (pc0 := 38) (pc' := 97) rfl (hb hby d37_38) (by decide) (by decide) ?_
    show OwG p e below T13 m 97 #[vR a, vR sb, .val .null, vR b, vI 74] [] _
    exact X13.returnOut hx Bd.returns (hb hby d37_97) hr
  · have eF : (T13.setFrames fs).heap = h13 := e13
    exact ⟨N13, rfl, by rw [eF]; exact ⟨O13, Kp13⟩⟩
theorem rmSi1_74 (l : Launch) (Z : State) (a0 : Array Value) (hw : OwHw Z a0) (ws : List Jvm.Cond) (n0 : Nat) (h0 : Heap) (O : Old Z n0 h0) (qqR qqN qqK qqU qqS qqE : Addr) (qqI : Int32) (qqM : Addr) (W : OwW Z qqR qqN qqK qqU qqS qqE qqI qqM) (sb b : Addr) (k : ClassId) (a : Addr) (Eb : Exa Z h0 sb zs19) (Gv : Fld Z h0 sb zs14 "value" "[B" (.ref b)) (Gc : Fld Z h0 sb zs14 "coder" "B" (.int 0)) (Gn : Fld Z h0 sb zs14 "count" "I" (.int 74)) (Vbx : owB Z h0 b k (142 : Int32)) (Es : Exa Z h0 a zs18) (Fc : Fld Z h0 a zs18 "coder" "B" (.int 0)) (Fv : Fld Z h0 a zs18 "value" "[B" .null) (ga : n0 ≤ a) :
    OwCon l yy22 j26 2 none ws (rM 4 1 74 65) #[(.ref a), (.ref sb)] Z h0 (OwP (fun v h => v = none ∧ Old Z n0 h ∧ Keep h0 h [a]) n0) := by
  refine MetFree.of_bodySF (plainFor_of_name owpn36) hisR ?_
  intro p e s m args below meth c s₁ Bd hml0 hP hK
  have hi := @own_hi Z a0 hw
  obtain ⟨rfl, hZ, hh⟩ := hP
  have hx := Bd.exec
  have hby := Bd.bytes
  have hml : c.maxLocals = 2 := hml0
  have hown := findClass_of_methodNamed Bd.named
  have X0 : Stand p l e (rM 4 1 74 65) s m #[(.ref a), (.ref sb)] below meth c s₁ [] 0 0 := Stand.of_body Bd
  have e0 : s₁.heap = h0 := by rw [← hh, Bd.state]; rfl
  have N0 := Fr.nil n0
  have ef : entryFrame m #[(.ref a), (.ref sb)] 2 = mkF m 0 #[.val (.ref a), .val (.ref sb)] [] := by first | (simp [entryFrame, mkF, argsToLocals, Value.category]; done) | rfl
  obtain ⟨_, _, ⟨T1, L1, k1, n1⟩, -, X1, ⟨Lc1, hQ1, l1, y1, z1⟩, st1⟩ := X0.specialBack hx (y := yy21) rfl hown (mvT hZ (hi 273 rfl)) (mvT hZ (hi 274 rfl)) (mvT hZ (hi 275 rfl)) (by decide) (backOf (W := 0) (rmSi2_74 l Z a0 hw [] n0 h0 O qqR qqN qqK qqU qqS qqE qqI qqM W sb b k a Eb Gv Gc Gn Vbx Es Fc Fv ga) hZ (hi 275 rfl) (hi 81 rfl) (by decide) (by decide)) (g := (mkF m 3 #[vR a, vR sb] [.null, (.ref sb), (.ref a)])) rfl (by rw [hml]; rfl) (Steps.refl _) (a := a) (argsL := [(.ref sb), .null]) (rest := []) (lenOf owpd16 rfl) rfl (Nat.le_of_eq rfl) (hb hby d36_3) (fun _ _ => ⟨rfl, e0, (by decide : 0 + 1 ≤ _), (by decide : 0 + 74 ≤ _)⟩)
  dsimp only [Pt.U, Pt.locs, Pt.cells, Pt.slots] at X1 l1 y1 z1 st1 hQ1
  subst l1 y1 z1
  obtain ⟨Nq1, hP1⟩ := hQ1
  have N1 := Fr.app N0 Nq1
  have ee1 : T1.heap = T1.heap := rfl
  obtain ⟨rfl, Oc1, Kc1⟩ := hP1
  have Kp1 : Keep h0 T1.heap [a] := (Keep.refl h0 [a]).trans Kc1 (allS (P := fun x => x ∈ [a] ∨ h0.size ≤ x) (Or.inl (List.mem_of_getElem? (i := 0) rfl)) (all0 (P := fun x => x ∈ [a] ∨ h0.size ≤ x)))
  obtain ⟨fs, hr, hrun, hended, hW, hsame⟩ := X1.leave (v := none) (fun _ => rfl)
  refine ⟨_, _, castTop ef ?_, hrun, hended, _, _, rfl, ?_, ⟨_, rfl⟩, hW, hsame.mono (by decide) (by decide)⟩
  · show OwG p e below s₁ m 0 #[vR a, vR sb] [] _
    refine XS.aloadN X0.here hx rfl (hb hby d36_0) rfl rfl ?_
    show OwG p e below s₁ m 1 #[vR a, vR sb] [(.ref a)] _
    refine XS.aloadN X0.here hx rfl (hb hby d36_1) rfl rfl ?_
    refine XS.aconstNull X0.here hx rfl (hb hby d36_2) ?_
    show OwG p e below s₁ m 3 #[vR a, vR sb] [.null, (.ref sb), (.ref a)] _
    refine st1.trans ?_
    show OwG p e below T1 m 6 #[vR a, vR sb] [] _
    exact X1.returnOut hx Bd.returns (hb hby d36_6) hr
  · have eF : (T1.setFrames fs).heap = T1.heap := ee1
    exact ⟨N1, rfl, by rw [eF]; exact ⟨Oc1, Kp1⟩⟩
theorem rmTos_74 (l : Launch) (Z : State) (a0 : Array Value) (hw : OwHw Z a0) (ws : List Jvm.Cond) (n0 : Nat) (h0 : Heap) (O : Old Z n0 h0) (qqR qqN qqK qqU qqS qqE : Addr) (qqI : Int32) (qqM : Addr) (W : OwW Z qqR qqN qqK qqU qqS qqE qqI qqM) (sb b : Addr) (k : ClassId) (Eb : Exa Z h0 sb zs19) (Gv : Fld Z h0 sb zs14 "value" "[B" (.ref b)) (Gc : Fld Z h0 sb zs14 "coder" "B" (.int 0)) (Gn : Fld Z h0 sb zs14 "count" "I" (.int 74)) (Vbx : owB Z h0 b k (142 : Int32)) :
    OwCon l yy29 j22 1 (some (.object zs18)) ws (rM 5 2 78 79) #[(.ref sb)] Z h0 (OwP (fun v h => ∃ a, v = some (.ref a) ∧ h0.size ≤ a ∧ Old Z n0 h ∧ Keep h0 h []) n0) := by
  refine MetFree.of_bodySF (plainFor_of_name owpn35) hisR ?_
  intro p e s m args below meth c s₁ Bd hml0 hP hK
  have hi := @own_hi Z a0 hw
  obtain ⟨rfl, hZ, hh⟩ := hP
  have hx := Bd.exec
  have hby := Bd.bytes
  have hml : c.maxLocals = 1 := hml0
  have hown := findClass_of_methodNamed Bd.named
  have X0 : Stand p l e (rM 5 2 78 79) s m #[(.ref sb)] below meth c s₁ [] 0 0 := Stand.of_body Bd
  have e0 : s₁.heap = h0 := by rw [← hh, Bd.state]; rfl
  have N0 := Fr.nil n0
  have ef : entryFrame m #[(.ref sb)] 1 = mkF m 0 #[.val (.ref sb)] [] := by first | (simp [entryFrame, mkF, argsToLocals, Value.category]; done) | rfl
  obtain ⟨T1, h1, X1, e1, E1, A1, D1, Un1, st1⟩ := newO X0 hx hZ hown (hi 268 rfl) (hi 82 rfl) (hi 81 rfl) e0 (g := (mkF m 0 #[vR sb] [])) rfl (hb hby d35_0) (by decide) (by decide)
  obtain ⟨b1, g1⟩ : ∃ z, z = h0.size := ⟨_, rfl⟩
  rw [← g1] at A1 D1 Un1 st1
  have gx1 : n0 ≤ b1 := Nat.le_trans (Nat.le_trans (Nat.le_of_eq O.1.symm) O.2.1) (Nat.le_of_eq g1.symm)
  have ne_sb_1 : sb ≠ b1 := Nat.ne_of_lt (Nat.lt_of_lt_of_le Eb.lt (Nat.le_of_eq g1.symm))
  have ne_b_1 : b ≠ b1 := Nat.ne_of_lt (Nat.lt_of_lt_of_le Vbx.lt (Nat.le_of_eq g1.symm))
  have O1 := O.ext E1
  have Fn1_value : Fld Z h1 b1 zs18 "value" "[B" .null := D1 (Or.inr (hi 84 rfl)) (ty := (.array .byte)) (by decide)
  have Fn1_coder : Fld Z h1 b1 zs18 "coder" "B" (.int 0) := D1 (Or.inr (hi 85 rfl)) (ty := .byte) (by decide)
  have sz1 : h0.size ≤ b1 := Nat.le_trans (Keep.refl h0 []).1 (Nat.le_of_eq g1.symm)
  have Kp1 : Keep h0 h1 [] := (Keep.refl h0 []).ext E1
  have fa2 := (Eb.ext E1)
  have fa3 := (Gv.ext E1)
  have fa4 := (Gc.ext E1)
  have fa5 := (Gn.ext E1)
  have fa6 := (Vbx.ext E1)
  obtain ⟨_, _, ⟨T7, L7, k7, n7⟩, -, X7, ⟨Lc7, hQ7, l7, y7, z7⟩, st7⟩ := X1.specialBack hx (y := yy22) rfl hown (mvT hZ (hi 269 rfl)) (mvT hZ (hi 270 rfl)) (mvT hZ (hi 272 rfl)) (by decide) (backOf (W := 1) (rmSi1_74 l Z a0 hw [] n0 h1 O1 qqR qqN qqK qqU qqS qqE qqI qqM W sb b k b1 fa2 fa3 fa4 fa5 fa6 A1 Fn1_coder Fn1_value gx1) hZ (hi 272 rfl) (hi 81 rfl) (by decide) (by decide)) (g := (mkF m 5 #[vR sb] [(.ref sb), (.ref b1), (.ref b1)])) rfl (by rw [hml]; rfl) (Steps.refl _) (a := b1) (argsL := [(.ref sb)]) (rest := [(.ref b1)]) (lenOf owpd17 rfl) rfl (Nat.le_of_eq rfl) (hb hby d35_5) (fun _ _ => ⟨rfl, e1, (by decide : 1 + 1 ≤ _), (by decide : 4 + 74 ≤ _)⟩)
  dsimp only [Pt.U, Pt.locs, Pt.cells, Pt.slots] at X7 l7 y7 z7 st7 hQ7
  subst l7 y7 z7
  obtain ⟨Nq7, hP7⟩ := hQ7
  have N7 := Fr.app N0 Nq7
  have ee7 : T7.heap = T7.heap := rfl
  obtain ⟨rfl, Oc7, Kc7⟩ := hP7
  have Kp7 : Keep h0 T7.heap [] := Kp1.trans Kc7 (allS (P := fun x => x ∈ ([] : List Addr) ∨ h0.size ≤ x) (Or.inr sz1) (all0 (P := fun x => x ∈ ([] : List Addr) ∨ h0.size ≤ x)))
  obtain ⟨fs, hr, hrun, hended, hW, hsame⟩ := X7.leave (v := some (.ref b1)) (fun h => by rw [Bd.returns] at h; cases h)
  refine ⟨_, _, castTop ef ?_, hrun, hended, _, _, rfl, ?_, ⟨_, rfl⟩, hW, hsame.mono (by decide) (by decide)⟩
  · show OwG p e below s₁ m 0 #[vR sb] [] _
    refine st1 _ ?_
    show OwG p e below T1 m 3 #[vR sb] [(.ref b1)] _
    refine XS.dup X1.here hx rfl (hb hby d35_3) rfl rfl ?_
    refine XS.aloadN X1.here hx rfl (hb hby d35_4) rfl rfl ?_
    show OwG p e below T1 m 5 #[vR sb] [(.ref sb), (.ref b1), (.ref b1)] _
    refine st7.trans ?_
    show OwG p e below T7 m 8 #[vR sb] [(.ref b1)] _
    exact retOut X7 hx Bd.returns rfl (Or.inr (Or.inr (Or.inr (Or.inr ⟨rfl, rfl, rfl⟩)))) (hb hby d35_8) hr
  · have eF : (T7.setFrames fs).heap = T7.heap := ee7
    exact ⟨N7, b1, rfl, sz1, by rw [eF]; exact ⟨Oc7, Kp7⟩⟩
theorem rmAl_142_76 (l : Launch) (Z : State) (a0 : Array Value) (hw : OwHw Z a0) (ws : List Jvm.Cond) (n0 : Nat) (h0 : Heap) (O : Old Z n0 h0) (qqR qqN qqK qqU qqS qqE : Addr) (qqI : Int32) (qqM : Addr) (W : OwW Z qqR qqN qqK qqU qqS qqE qqI qqM) (sb b : Addr) (k : ClassId) (Eb : Exa Z h0 sb zs19) (Gv : Fld Z h0 sb zs14 "value" "[B" (.ref b)) (Gc : Fld Z h0 sb zs14 "coder" "B" (.int 0)) (Gn : Fld Z h0 sb zs14 "count" "I" (.int 76)) (Vbx : owB Z h0 b k (142 : Int32)) :
    OwCon l yy14 j41 1 (some .int) ws (rM 0 0 0 0) #[(.ref sb)] Z h0 (OwQ (some (.int 76)) h0 n0) := by
  refine MetFree.of_bodySF (plainFor_of_name owpn40) hisR ?_
  intro p e s m args below meth c s₁ Bd hml0 hP hK
  have hi := @own_hi Z a0 hw
  obtain ⟨rfl, hZ, hh⟩ := hP
  have hx := Bd.exec
  have hby := Bd.bytes
  have hml : c.maxLocals = 1 := hml0
  have hown := findClass_of_methodNamed Bd.named
  have X0 : Stand p l e (rM 0 0 0 0) s m #[(.ref sb)] below meth c s₁ [] 0 0 := Stand.of_body Bd
  have e0 : s₁.heap = h0 := by rw [← hh, Bd.state]; rfl
  have N0 := Fr.nil n0
  have ef : entryFrame m #[(.ref sb)] 1 = mkF m 0 #[.val (.ref sb)] [] := by first | (simp [entryFrame, mkF, argsToLocals, Value.category]; done) | rfl
  obtain ⟨T1, X1, e1, st1⟩ := getF X0 hx hZ hown (host := "") (Or.inl (hi 211 rfl)) Via.refl e0 Gn (g := (mkF m 1 #[vR sb] [(.ref sb)])) rfl rfl (hb hby d40_1)
  obtain ⟨fs, hr, hrun, hended, hW, hsame⟩ := X1.leave (v := some (.int 76)) (fun h => by rw [Bd.returns] at h; cases h)
  refine ⟨_, _, castTop ef ?_, hrun, hended, _, _, rfl, ?_, ⟨_, rfl⟩, hW, hsame.mono (by decide) (by decide)⟩
  · show OwG p e below s₁ m 0 #[vR sb] [] _
    refine XS.aloadN X0.here hx rfl (hb hby d40_0) rfl rfl ?_
    show OwG p e below s₁ m 1 #[vR sb] [(.ref sb)] _
    refine st1 _ ?_
    show OwG p e below T1 m 4 #[vR sb] [(.int 76)] _
    exact retI X1 hx Bd.returns (hb hby d40_4) hr
  · have eF : (T1.setFrames fs).heap = h0 := e1
    exact ⟨rfl, N0, eF⟩
theorem rmSl_142_76 (l : Launch) (Z : State) (a0 : Array Value) (hw : OwHw Z a0) (ws : List Jvm.Cond) (n0 : Nat) (h0 : Heap) (O : Old Z n0 h0) (qqR qqN qqK qqU qqS qqE : Addr) (qqI : Int32) (qqM : Addr) (W : OwW Z qqR qqN qqK qqU qqS qqE qqI qqM) (sb b : Addr) (k : ClassId) (Eb : Exa Z h0 sb zs19) (Gv : Fld Z h0 sb zs14 "value" "[B" (.ref b)) (Gc : Fld Z h0 sb zs14 "coder" "B" (.int 0)) (Gn : Fld Z h0 sb zs14 "count" "I" (.int 76)) (Vbx : owB Z h0 b k (142 : Int32)) :
    OwCon l yy28 j32 1 (some .int) ws (rM 1 0 0 12) #[(.ref sb)] Z h0 (OwQ (some (.int 76)) h0 n0) := by
  refine MetFree.of_bodySF (plainFor_of_name owpn39) hisR ?_
  intro p e s m args below meth c s₁ Bd hml0 hP hK
  have hi := @own_hi Z a0 hw
  obtain ⟨rfl, hZ, hh⟩ := hP
  have hx := Bd.exec
  have hby := Bd.bytes
  have hml : c.maxLocals = 1 := hml0
  have hown := findClass_of_methodNamed Bd.named
  have X0 : Stand p l e (rM 1 0 0 12) s m #[(.ref sb)] below meth c s₁ [] 0 0 := Stand.of_body Bd
  have e0 : s₁.heap = h0 := by rw [← hh, Bd.state]; rfl
  have N0 := Fr.nil n0
  have ef : entryFrame m #[(.ref sb)] 1 = mkF m 0 #[.val (.ref sb)] [] := by first | (simp [entryFrame, mkF, argsToLocals, Value.category]; done) | rfl
  obtain ⟨_, _, ⟨T1, L1, k1, n1⟩, -, X1, ⟨Lc1, hQ1, l1, y1, z1⟩, st1⟩ := superBack X0 hx hZ (y := yy14) hown (hi 288 rfl) (own_same (hi 216 rfl) rfl (by decide) (hi 283 rfl)) (hi 284 rfl) (hi 195 rfl) (by decide) (backOf (W := 0) (rmAl_142_76 l Z a0 hw [] n0 h0 O qqR qqN qqK qqU qqS qqE qqI qqM W sb b k Eb Gv Gc Gn Vbx) hZ (hi 289 rfl) (hi 179 rfl) (by decide) (by decide)) e0 (Ins.self Eb) (g := (mkF m 1 #[vR sb] [(.ref sb)])) rfl (by rw [hml]; rfl) (hi 289 rfl) (argsL := []) (rest := []) (lenOf owpd5 rfl) rfl (Nat.le_of_eq rfl) (hb hby d39_1) (fun _ _ => ⟨rfl, e0, (by decide : 0 + 0 ≤ _), (by decide : 0 + 0 ≤ _)⟩)
  dsimp only [Pt.U, Pt.locs, Pt.cells, Pt.slots] at X1 l1 y1 z1 st1 hQ1
  subst l1 y1 z1
  obtain ⟨rfl, Nq1, e1⟩ := hQ1
  have N1 := Fr.app N0 Nq1
  obtain ⟨fs, hr, hrun, hended, hW, hsame⟩ := X1.leave (v := some (.int 76)) (fun h => by rw [Bd.returns] at h; cases h)
  refine ⟨_, _, castTop ef ?_, hrun, hended, _, _, rfl, ?_, ⟨_, rfl⟩, hW, hsame.mono (by decide) (by decide)⟩
  · show OwG p e below s₁ m 0 #[vR sb] [] _
    refine XS.aloadN X0.here hx rfl (hb hby d39_0) rfl rfl ?_
    show OwG p e below s₁ m 1 #[vR sb] [(.ref sb)] _
    refine st1.trans ?_
    show OwG p e below T1 m 4 #[vR sb] [(.int 76)] _
    exact retI X1 hx Bd.returns (hb hby d39_4) hr
  · have eF : (T1.setFrames fs).heap = h0 := e1
    exact ⟨rfl, N1, eF⟩
theorem rmChk_0_76 (l : Launch) (Z : State) (a0 : Array Value) (hw : OwHw Z a0) (ws : List Jvm.Cond) (n0 : Nat) (h0 : Heap) (O : Old Z n0 h0) (qqR qqN qqK qqU qqS qqE : Addr) (qqI : Int32) (qqM : Addr) (W : OwW Z qqR qqN qqK qqU qqS qqE qqI qqM)  :
    OwCon l yy39 j6 2 none ws (rM 0 0 0 0) #[(.int 0), (.int 76)] Z h0 (OwQ none h0 n0) := by
  refine MetFree.of_bodySF (plainFor_of_name owpn44) hisR ?_
  intro p e s m args below meth c s₁ Bd hml0 hP hK
  have hi := @own_hi Z a0 hw
  obtain ⟨rfl, hZ, hh⟩ := hP
  have hx := Bd.exec
  have hby := Bd.bytes
  have hml : c.maxLocals = 2 := hml0
  have hown := findClass_of_methodNamed Bd.named
  have X0 : Stand p l e (rM 0 0 0 0) s m #[(.int 0), (.int 76)] below meth c s₁ [] 0 0 := Stand.of_body Bd
  have e0 : s₁.heap = h0 := by rw [← hh, Bd.state]; rfl
  have N0 := Fr.nil n0
  have ef : entryFrame m #[(.int 0), (.int 76)] 2 = mkF m 0 #[.val (.int 0), .val (.int 76)] [] := by first | (simp [entryFrame, mkF, argsToLocals, Value.category]; done) | rfl
  obtain ⟨fs, hr, hrun, hended, hW, hsame⟩ := X0.leave (v := none) (fun _ => rfl)
  refine ⟨_, _, castTop ef ?_, hrun, hended, _, _, rfl, ?_, ⟨_, rfl⟩, hW, hsame.mono (by decide) (by decide)⟩
  · show OwG p e below s₁ m 0 #[vI 0, vI 76] [] _
    refine XS.iloadN X0.here hx rfl (hb hby d44_0) rfl ?_
    show OwG p e below s₁ m 1 #[vI 0, vI 76] [(.int 76)] _
    refine XS.iloadN X0.here hx rfl (hb hby d44_1) rfl ?_
    refine XS.icmpYes X0.here hx rfl (pc0 := 2) (pc' := 37) rfl (hb hby d44_2) rfl (flt (by decide : ¬ ((76 : Int32) < (0 : Int32)))).2.1 (by decide) (by decide) ?_
    show OwG p e below s₁ m 37 #[vI 0, vI 76] [] _
    exact X0.returnOut hx Bd.returns (hb hby d44_37) hr
  · have eF : (s₁.setFrames fs).heap = h0 := e0
    exact ⟨rfl, N0, eF⟩
theorem rmMin_142_76 (l : Launch) (Z : State) (a0 : Array Value) (hw : OwHw Z a0) (ws : List Jvm.Cond) (n0 : Nat) (h0 : Heap) (O : Old Z n0 h0) (qqR qqN qqK qqU qqS qqE : Addr) (qqI : Int32) (qqM : Addr) (W : OwW Z qqR qqN qqK qqU qqS qqE qqI qqM)  :
    OwCon l yy20 j18 2 (some .int) ws (rM 0 0 0 0) #[(.int 142), (.int 76)] Z h0 (OwQ (some (.int 76)) h0 n0) := by
  refine MetFree.of_bodySF (Jvm.Free.JP.mathPlain rfl (by decide +kernel)) hisR ?_
  intro p e s m args below meth c s₁ Bd hml0 hP hK
  have hi := @own_hi Z a0 hw
  obtain ⟨rfl, hZ, hh⟩ := hP
  have hx := Bd.exec
  have hby := Bd.bytes
  have hml : c.maxLocals = 2 := hml0
  have hown := findClass_of_methodNamed Bd.named
  have X0 : Stand p l e (rM 0 0 0 0) s m #[(.int 142), (.int 76)] below meth c s₁ [] 0 0 := Stand.of_body Bd
  have e0 : s₁.heap = h0 := by rw [← hh, Bd.state]; rfl
  have N0 := Fr.nil n0
  have ef : entryFrame m #[(.int 142), (.int 76)] 2 = mkF m 0 #[.val (.int 142), .val (.int 76)] [] := by first | (simp [entryFrame, mkF, argsToLocals, Value.category]; done) | rfl
  obtain ⟨fs, hr, hrun, hended, hW, hsame⟩ := X0.leave (v := some (.int 76)) (fun h => by rw [Bd.returns] at h; cases h)
  refine ⟨_, _, castTop ef ?_, hrun, hended, _, _, rfl, ?_, ⟨_, rfl⟩, hW, hsame.mono (by decide) (by decide)⟩
  · show OwG p e below s₁ m 0 #[vI 142, vI 76] [] _
    refine XS.iloadN X0.here hx rfl (hb hby d34_0) rfl ?_
    show OwG p e below s₁ m 1 #[vI 142, vI 76] [(.int 142)] _
    refine XS.iloadN X0.here hx rfl (hb hby d34_1) rfl ?_
    refine XS.icmpYes X0.here hx rfl (pc0 := 2) (pc' := 9) rfl (hb hby d34_2) rfl (tlt (by decide : (76 : Int32) < (142 : Int32))).2.2.1 (by decide) (by decide) ?_
    refine XS.iloadN X0.here hx rfl (hb hby d34_9) rfl ?_
    show OwG p e below s₁ m 10 #[vI 142, vI 76] [(.int 76)] _
    exact retI X0 hx Bd.returns (hb hby d34_10) hr
  · have eF : (s₁.setFrames fs).heap = h0 := e0
    exact ⟨rfl, N0, eF⟩
theorem rmCrb_142_76 (l : Launch) (Z : State) (a0 : Array Value) (hw : OwHw Z a0) (ws : List Jvm.Cond) (n0 : Nat) (h0 : Heap) (O : Old Z n0 h0) (qqR qqN qqK qqU qqS qqE : Addr) (qqI : Int32) (qqM : Addr) (W : OwW Z qqR qqN qqK qqU qqS qqE qqI qqM) (b : Addr) (k : ClassId) (Vb : owB Z h0 b k (142 : Int32)) :
    OwCon l yy44 j2 5 (some (.array .byte)) ws (rM 1 1 76 18) #[(.ref b), (.int 0), (.int 76)] Z h0 (OwP (fun v h => ∃ (b' : Addr) (k' : ClassId), v = some (.ref b') ∧ h0.size ≤ b' ∧ Old Z n0 h ∧ Keep h0 h [] ∧ owB Z h b' k' (76 : Int32)) n0) := by
  refine MetFree.of_bodySF (plainFor_of_name owpn43) hisR ?_
  intro p e s m args below meth c s₁ Bd hml0 hP hK
  have hi := @own_hi Z a0 hw
  obtain ⟨rfl, hZ, hh⟩ := hP
  have hx := Bd.exec
  have hby := Bd.bytes
  have hml : c.maxLocals = 5 := hml0
  have hown := findClass_of_methodNamed Bd.named
  have X0 : Stand p l e (rM 1 1 76 18) s m #[(.ref b), (.int 0), (.int 76)] below meth c s₁ [] 0 0 := Stand.of_body Bd
  have e0 : s₁.heap = h0 := by rw [← hh, Bd.state]; rfl
  have N0 := Fr.nil n0
  have ef : entryFrame m #[(.ref b), (.int 0), (.int 76)] 5 = mkF m 0 #[.val (.ref b), .val (.int 0), .val (.int 76), .unset, .unset] [] := by first | (simp [entryFrame, mkF, argsToLocals, Value.category]; done) | rfl
  obtain ⟨_, _, ⟨T1, L1, k1, n1⟩, -, X1, ⟨Lc1, hQ1, l1, y1, z1⟩, st1⟩ := Jvm.LawKit.callS X0 hx (y := yy39) hown (mvT hZ (hi 301 rfl)) (mvT hZ (hi 302 rfl)) (mvT hZ (hi 255 rfl)) (mvT hZ (hi 303 rfl)) (by decide) (backOf (W := 0) (rmChk_0_76 l Z a0 hw [] n0 h0 O qqR qqN qqK qqU qqS qqE qqI qqM W ) hZ (hi 303 rfl) (hi 255 rfl) (by decide) (by decide)) (g := (mkF m 2 #[vR b, vI 0, vI 76, .unset, .unset] [(.int 76), (.int 0)])) rfl (by rw [hml]; rfl) (argsL := [(.int 0), (.int 76)]) (rest := []) (lenOf owpd12 rfl) rfl (Nat.le_of_eq rfl) (hb hby d43_2) (fun _ _ => ⟨rfl, e0, (by decide : 0 + 0 ≤ _), (by decide : 0 + 0 ≤ _)⟩)
  dsimp only [Pt.U, Pt.locs, Pt.cells, Pt.slots] at X1 l1 y1 z1 st1 hQ1
  subst l1 y1 z1
  obtain ⟨rfl, Nq1, e1⟩ := hQ1
  have N1 := Fr.app N0 Nq1
  obtain ⟨T2, h2, k2, X2, e2, E2, A2, Ea2, st2⟩ := newPE X1 hx hZ (aty := .byte) (hi 83 rfl) e1 (g := (mkF m 10 #[vR b, vI 0, vI 76, vI 76, .unset] [(.int 76)])) rfl (hb hby d43_10) rfl (by decide) (cap := 76) (by decide) (by decide) (by decide) (by decide) (ad := "[B") (by decide)
  obtain ⟨b2, g2⟩ : ∃ z, z = h0.size := ⟨_, rfl⟩
  rw [← g2] at A2 Ea2 st2
  have gx2 : n0 ≤ b2 := Nat.le_trans (Nat.le_trans (Nat.le_of_eq O.1.symm) O.2.1) (Nat.le_of_eq g2.symm)
  have ne_b_2 : b ≠ b2 := Nat.ne_of_lt (Nat.lt_of_lt_of_le Vb.lt (Nat.le_of_eq g2.symm))
  have O2 := O.ext E2
  have Vb2 : owB Z h2 b2 k2 (76 : Int32) := owB.new A2 (by decide)
  have sz2 : h0.size ≤ b2 := Nat.le_trans (Keep.refl h0 []).1 (Nat.le_of_eq g2.symm)
  have Kp2 : Keep h0 h2 [] := (Keep.refl h0 []).ext E2
  have fa4 := (Vb.ext E2)
  obtain ⟨cl3, Ar3, Sz3, Nn3⟩ := fa4.arr
  obtain ⟨_, _, ⟨T5, L5, k5, n5⟩, -, X5, ⟨Lc5, hQ5, l5, y5, z5⟩, st5⟩ := Jvm.LawKit.callS X2 hx (y := yy20) hown (mvT hZ (hi 257 rfl)) (mvT hZ (hi 258 rfl)) (mvT hZ (hi 249 rfl)) (mvT hZ (hi 259 rfl)) (by decide) (backOf (W := 4) (rmMin_142_76 l Z a0 hw [] n0 h2 O2 qqR qqN qqK qqU qqS qqE qqI qqM W ) hZ (hi 259 rfl) (hi 249 rfl) (by decide) (by decide)) (g := (mkF m 24 #[vR b, vI 0, vI 76, vI 76, vR b2] [(.int 76), (.int 142), (.int 0), (.ref b2), (.int 0), (.ref b)])) rfl (by rw [hml]; rfl) (argsL := [(.int 142), (.int 76)]) (rest := [(.int 0), (.ref b2), (.int 0), (.ref b)]) (lenOf owpd8 rfl) rfl (Nat.le_of_eq rfl) (hb hby d43_24) (fun _ _ => ⟨rfl, e2, (by decide : 1 + 0 ≤ _), (by decide : 76 + 0 ≤ _)⟩)
  dsimp only [Pt.U, Pt.locs, Pt.cells, Pt.slots] at X5 l5 y5 z5 st5 hQ5
  subst l5 y5 z5
  obtain ⟨rfl, Nq5, e5⟩ := hQ5
  have N5 := Fr.app N1 Nq5
  obtain ⟨T6, h6, L6, X6, e6, N6, Kc6, V6, st6⟩ := own_cpB X5 hx hZ hown (hi 260 rfl) (hi 237 rfl) (hi 235 rfl) (hi 236 rfl) e5 fa4 Vb2 (by decide) (by decide) (by decide) (by decide) (by decide) N5 gx2 (g := (mkF m 27 #[vR b, vI 0, vI 76, vI 76, vR b2] [(.int 76), (.int 0), (.ref b2), (.int 0), (.ref b)])) rfl (by rw [hml]; rfl) rfl (hb hby d43_27) (by decide) (W := 0) (Nat.le_of_eq rfl) (by decide)
  have O6 := O2.keep Kc6 (allS (P := fun x => n0 ≤ x) gx2 all0)
  have Kp6 : Keep h0 h6 [] := Kp2.trans Kc6 (allS (P := fun x => x ∈ ([] : List Addr) ∨ h0.size ≤ x) (Or.inr sz2) (all0 (P := fun x => x ∈ ([] : List Addr) ∨ h0.size ≤ x)))
  obtain ⟨fs, hr, hrun, hended, hW, hsame⟩ := X6.leave (v := some (.ref b2)) (fun h => by rw [Bd.returns] at h; cases h)
  refine ⟨_, _, castTop ef ?_, hrun, hended, _, _, rfl, ?_, ⟨_, rfl⟩, hW, hsame.mono (by decide) (by decide)⟩
  · show OwG p e below s₁ m 0 #[vR b, vI 0, vI 76, .unset, .unset] [] _
    refine XS.iloadN X0.here hx rfl (hb hby d43_0) rfl ?_
    show OwG p e below s₁ m 1 #[vR b, vI 0, vI 76, .unset, .unset] [(.int 0)] _
    refine XS.iloadN X0.here hx rfl (hb hby d43_1) rfl ?_
    show OwG p e below s₁ m 2 #[vR b, vI 0, vI 76, .unset, .unset] [(.int 76), (.int 0)] _
    refine st1 _ ?_
    show OwG p e below T1 m 5 #[vR b, vI 0, vI 76, .unset, .unset] [] _
    refine XS.iloadN X1.here hx rfl (hb hby d43_5) rfl ?_
    refine XS.iloadN X1.here hx rfl (hb hby d43_6) rfl ?_
    refine XS.isub X1.here hx rfl (hb hby d43_7) rfl ?_
    refine XS.istoreN X1.here hx rfl (hb hby d43_8) rfl (l' := #[vR b, vI 0, vI 76, vI 76, .unset]) rfl ?_
    refine XS.iloadN X1.here hx rfl (hb hby d43_9) rfl ?_
    show OwG p e below T1 m 10 #[vR b, vI 0, vI 76, vI 76, .unset] [(.int 76)] _
    refine st2 _ ?_
    show OwG p e below T2 m 12 #[vR b, vI 0, vI 76, vI 76, .unset] [(.ref b2)] _
    refine XS.astore X2.here hx rfl (hb hby d43_12) rfl rfl (l' := #[vR b, vI 0, vI 76, vI 76, vR b2]) rfl ?_
    refine XS.aloadN X2.here hx rfl (hb hby d43_14) rfl rfl ?_
    refine XS.iloadN X2.here hx rfl (hb hby d43_15) rfl ?_
    refine XS.aload X2.here hx rfl (hb hby d43_16) rfl rfl ?_
    refine XS.iconst X2.here hx rfl (hb hby d43_18) ?_
    refine XS.aloadN X2.here hx rfl (hb hby d43_19) rfl rfl ?_
    show OwG p e below T2 m 20 #[vR b, vI 0, vI 76, vI 76, vR b2] [(.ref b), (.int 0), (.ref b2), (.int 0), (.ref b)] _
    refine X2.arraylength hx (by rw [e2]; exact Ar3.1) (State.isArrayOf_alike hZ.alike Ar3.2.1) (g := (mkF m 20 #[vR b, vI 0, vI 76, vI 76, vR b2] [(.ref b), (.int 0), (.ref b2), (.int 0), (.ref b)])) rfl rfl (hb hby d43_20) _ ?_
    rw [len_of Sz3 Nn3]
    show OwG p e below T2 m 21 #[vR b, vI 0, vI 76, vI 76, vR b2] [(.int 142), (.int 0), (.ref b2), (.int 0), (.ref b)] _
    refine XS.iloadN X2.here hx rfl (hb hby d43_21) rfl ?_
    refine XS.isub X2.here hx rfl (hb hby d43_22) rfl ?_
    refine XS.iloadN X2.here hx rfl (hb hby d43_23) rfl ?_
    show OwG p e below T2 m 24 #[vR b, vI 0, vI 76, vI 76, vR b2] [(.int 76), (.int 142), (.int 0), (.ref b2), (.int 0), (.ref b)] _
    refine st5 _ ?_
    show OwG p e below T5 m 27 #[vR b, vI 0, vI 76, vI 76, vR b2] [(.int 76), (.int 0), (.ref b2), (.int 0), (.ref b)] _
    refine st6 _ ?_
    show OwG p e below T6 m 30 #[vR b, vI 0, vI 76, vI 76, vR b2] [] _
    refine XS.aload X6.here hx rfl (hb hby d43_30) rfl rfl ?_
    show OwG p e below T6 m 32 #[vR b, vI 0, vI 76, vI 76, vR b2] [(.ref b2)] _
    exact retOut X6 hx Bd.returns rfl (Or.inr (Or.inr (Or.inr (Or.inr ⟨rfl, rfl, rfl⟩)))) (hb hby d43_32) hr
  · have eF : (T6.setFrames fs).heap = h6 := e6
    exact ⟨N6, b2, k2, rfl, sz2, by rw [eF]; exact ⟨O6, Kp6, V6⟩⟩
theorem rmCr_142_76 (l : Launch) (Z : State) (a0 : Array Value) (hw : OwHw Z a0) (ws : List Jvm.Cond) (n0 : Nat) (h0 : Heap) (O : Old Z n0 h0) (qqR qqN qqK qqU qqS qqE : Addr) (qqI : Int32) (qqM : Addr) (W : OwW Z qqR qqN qqK qqU qqS qqE qqI qqM) (b : Addr) (k : ClassId) (Vb : owB Z h0 b k (142 : Int32)) :
    OwCon l yy43 j4 3 (some (.array .byte)) ws (rM 2 1 76 34) #[(.ref b), (.int 0), (.int 76)] Z h0 (OwP (fun v h => ∃ (b' : Addr) (k' : ClassId), v = some (.ref b') ∧ h0.size ≤ b' ∧ Old Z n0 h ∧ Keep h0 h [] ∧ owB Z h b' k' (76 : Int32)) n0) := by
  refine MetFree.of_bodySF (plainFor_of_name owpn42) hisR ?_
  intro p e s m args below meth c s₁ Bd hml0 hP hK
  have hi := @own_hi Z a0 hw
  obtain ⟨rfl, hZ, hh⟩ := hP
  have hx := Bd.exec
  have hby := Bd.bytes
  have hml : c.maxLocals = 3 := hml0
  have hown := findClass_of_methodNamed Bd.named
  have X0 : Stand p l e (rM 2 1 76 34) s m #[(.ref b), (.int 0), (.int 76)] below meth c s₁ [] 0 0 := Stand.of_body Bd
  have e0 : s₁.heap = h0 := by rw [← hh, Bd.state]; rfl
  have N0 := Fr.nil n0
  have ef : entryFrame m #[(.ref b), (.int 0), (.int 76)] 3 = mkF m 0 #[.val (.ref b), .val (.int 0), .val (.int 76)] [] := by first | (simp [entryFrame, mkF, argsToLocals, Value.category]; done) | rfl
  obtain ⟨cl1, Ar1, Sz1, Nn1⟩ := Vb.arr
  obtain ⟨_, _, ⟨T2, L2, k2, n2⟩, -, X2, ⟨Lc2, hQ2, l2, y2, z2⟩, st2⟩ := Jvm.LawKit.callS X0 hx (y := yy44) hown (mvT hZ (hi 298 rfl)) (mvT hZ (hi 299 rfl)) (mvT hZ (hi 255 rfl)) (mvT hZ (hi 300 rfl)) (by decide) (backOf (W := 0) (rmCrb_142_76 l Z a0 hw [] n0 h0 O qqR qqN qqK qqU qqS qqE qqI qqM W b k Vb) hZ (hi 300 rfl) (hi 255 rfl) (by decide) (by decide)) (g := (mkF m 13 #[vR b, vI 0, vI 76] [(.int 76), (.int 0), (.ref b)])) rfl (by rw [hml]; rfl) (argsL := [(.ref b), (.int 0), (.int 76)]) (rest := []) (lenOf owpd13 rfl) rfl (Nat.le_of_eq rfl) (hb hby d42_13) (fun _ _ => ⟨rfl, e0, (by decide : 0 + 1 ≤ _), (by decide : 0 + 76 ≤ _)⟩)
  dsimp only [Pt.U, Pt.locs, Pt.cells, Pt.slots] at X2 l2 y2 z2 st2 hQ2
  subst l2 y2 z2
  obtain ⟨Nq2, hP2⟩ := hQ2
  have N2 := Fr.app N0 Nq2
  have ee2 : T2.heap = T2.heap := rfl
  obtain ⟨bb2, kk2, rfl, hb2, Oc2, Kc2, Vb2⟩ := hP2
  have ne_b_2 : b ≠ bb2 := Nat.ne_of_lt (Nat.lt_of_lt_of_le Vb.lt hb2)
  have gx2 : n0 ≤ bb2 := Nat.le_trans (Nat.le_trans (Nat.le_of_eq O.1.symm) O.2.1) hb2
  have sz2 : h0.size ≤ bb2 := Nat.le_trans (Keep.refl h0 []).1 hb2
  have Kp2 : Keep h0 T2.heap [] := (Keep.refl h0 []).trans Kc2 (all0 (P := fun x => x ∈ ([] : List Addr) ∨ h0.size ≤ x))
  obtain ⟨fs, hr, hrun, hended, hW, hsame⟩ := X2.leave (v := some (.ref bb2)) (fun h => by rw [Bd.returns] at h; cases h)
  refine ⟨_, _, castTop ef ?_, hrun, hended, _, _, rfl, ?_, ⟨_, rfl⟩, hW, hsame.mono (by decide) (by decide)⟩
  · show OwG p e below s₁ m 0 #[vR b, vI 0, vI 76] [] _
    refine XS.iloadN X0.here hx rfl (hb hby d42_0) rfl ?_
    show OwG p e below s₁ m 1 #[vR b, vI 0, vI 76] [(.int 0)] _
    refine XS.ifNo X0.here hx rfl (hb hby d42_1) rfl ((if0 _ _).trans (teq (by decide : (0 : Int32) = (0 : Int32))).2) ?_
    refine XS.iloadN X0.here hx rfl (hb hby d42_4) rfl ?_
    refine XS.aloadN X0.here hx rfl (hb hby d42_5) rfl rfl ?_
    show OwG p e below s₁ m 6 #[vR b, vI 0, vI 76] [(.ref b), (.int 76)] _
    refine X0.arraylength hx (by rw [e0]; exact Ar1.1) (State.isArrayOf_alike hZ.alike Ar1.2.1) (g := (mkF m 6 #[vR b, vI 0, vI 76] [(.ref b), (.int 76)])) rfl rfl (hb hby d42_6) _ ?_
    rw [len_of Sz1 Nn1]
    show OwG p e below s₁ m 7 #[vR b, vI 0, vI 76] [(.int 142), (.int 76)] _
    refine XS.icmpNo X0.here hx rfl (hb hby d42_7) rfl (feq (by decide : ¬ ((76 : Int32) = (142 : Int32)))).1 ?_
    refine XS.aloadN X0.here hx rfl (hb hby d42_10) rfl rfl ?_
    refine XS.iloadN X0.here hx rfl (hb hby d42_11) rfl ?_
    refine XS.iloadN X0.here hx rfl (hb hby d42_12) rfl ?_
    show OwG p e below s₁ m 13 #[vR b, vI 0, vI 76] [(.int 76), (.int 0), (.ref b)] _
    refine st2 _ ?_
    show OwG p e below T2 m 16 #[vR b, vI 0, vI 76] [(.ref bb2)] _
    exact retOut X2 hx Bd.returns rfl (Or.inr (Or.inr (Or.inr (Or.inr ⟨rfl, rfl, rfl⟩)))) (hb hby d42_16) hr
  · have eF : (T2.setFrames fs).heap = T2.heap := ee2
    exact ⟨N2, bb2, kk2, rfl, sz2, by rw [eF]; exact ⟨Oc2, Kp2, Vb2⟩⟩
theorem rmSi2_76 (l : Launch) (Z : State) (a0 : Array Value) (hw : OwHw Z a0) (ws : List Jvm.Cond) (n0 : Nat) (h0 : Heap) (O : Old Z n0 h0) (qqR qqN qqK qqU qqS qqE : Addr) (qqI : Int32) (qqM : Addr) (W : OwW Z qqR qqN qqK qqU qqS qqE qqI qqM) (sb b : Addr) (k : ClassId) (a : Addr) (Eb : Exa Z h0 sb zs19) (Gv : Fld Z h0 sb zs14 "value" "[B" (.ref b)) (Gc : Fld Z h0 sb zs14 "coder" "B" (.int 0)) (Gn : Fld Z h0 sb zs14 "count" "I" (.int 76)) (Vbx : owB Z h0 b k (142 : Int32)) (Es : Exa Z h0 a zs18) (Fc : Fld Z h0 a zs18 "coder" "B" (.int 0)) (Fv : Fld Z h0 a zs18 "value" "[B" .null) (ga : n0 ≤ a) :
    OwCon l yy21 j5 5 none ws (rM 3 1 76 49) #[(.ref a), (.ref sb), .null] Z h0 (OwP (fun v h => v = none ∧ Old Z n0 h ∧ Keep h0 h [a]) n0) := by
  refine MetFree.of_bodySF (plainFor_of_name owpn37) hisR ?_
  intro p e s m args below meth c s₁ Bd hml0 hP hK
  have hi := @own_hi Z a0 hw
  obtain ⟨rfl, hZ, hh⟩ := hP
  have hx := Bd.exec
  have hby := Bd.bytes
  have hml : c.maxLocals = 5 := hml0
  have hown := findClass_of_methodNamed Bd.named
  have hnm := (name_of_methodNamed Bd.named Bd.method).1
  have X0 : Stand p l e (rM 3 1 76 49) s m #[(.ref a), (.ref sb), .null] below meth c s₁ [] 0 0 := Stand.of_body Bd
  have e0 : s₁.heap = h0 := by rw [← hh, Bd.state]; rfl
  have N0 := Fr.nil n0
  have ef : entryFrame m #[(.ref a), (.ref sb), .null] 5 = mkF m 0 #[.val (.ref a), .val (.ref sb), .val .null, .unset, .unset] [] := by first | (simp [entryFrame, mkF, argsToLocals, Value.category]; done) | rfl
  obtain ⟨T1, X1, e1, st1⟩ := initO X0 hx hZ hown (hi 276 rfl) (hi 14 rfl) (hi 15 rfl) e0 (g := (mkF m 1 #[vR a, vR sb, .val .null, .unset, .unset] [(.ref a)])) rfl (by rw [hml]; rfl) rfl (hb hby d37_1) (by decide) (W := 0) (Nat.le_of_eq rfl) (by decide)
  obtain ⟨cq2, kq2, q2a, q2b, q2c⟩ := isOf hZ e1 Eb
  obtain ⟨_, _, ⟨T2, L2, k2, n2⟩, -, X2, ⟨Lc2, hQ2, l2, y2, z2⟩, st2⟩ := X1.virtualBack hx (y := yy11) (z := yy11) hown (mvT hZ (hi 277 rfl)) (mvT hZ (hi 278 rfl)) (notFace_of_selects (args := #[]) (mvT hZ (hi 280 rfl))) (mvT hZ (hi 280 rfl)) (mvT hZ (hi 279 rfl)) (by decide) (backOf (W := 0) (rmGv l Z a0 hw [] n0 h0 O qqR qqN qqK qqU qqS qqE qqI qqM W sb b Gv) hZ (hi 281 rfl) (hi 179 rfl) (by decide) (by decide)) q2a q2c (g := (mkF m 5 #[vR a, vR sb, .val .null, .unset, .unset] [(.ref sb)])) rfl (by rw [hml]; rfl) (Steps.refl _) (argsL := []) (rest := []) (lenOf owpd14 rfl) rfl (Nat.le_of_eq rfl) (hb hby d37_5) (fun _ _ => ⟨rfl, e1, (by decide : 0 + 0 ≤ _), (by decide : 0 + 0 ≤ _)⟩)
  dsimp only [Pt.U, Pt.locs, Pt.cells, Pt.slots] at X2 l2 y2 z2 st2 hQ2
  subst l2 y2 z2
  obtain ⟨rfl, Nq2, e2⟩ := hQ2
  have N2 := Fr.app N0 Nq2
  obtain ⟨cq3, kq3, q3a, q3b, q3c⟩ := isOf hZ e2 Eb
  obtain ⟨_, _, ⟨T3, L3, k3, n3⟩, -, X3, ⟨Lc3, hQ3, l3, y3, z3⟩, st3⟩ := X2.virtualBack hx (y := yy14) (z := yy28) hown (mvT hZ (hi 282 rfl)) (mvT hZ (hi 283 rfl)) (own_nf (args := #[]) (mvT hZ (hi 216 rfl)) rfl) (mvT hZ (hi 285 rfl)) (mvT hZ (hi 286 rfl)) (by decide) (backOf (W := 0) (rmSl_142_76 l Z a0 hw [] n0 h0 O qqR qqN qqK qqU qqS qqE qqI qqM W sb b k Eb Gv Gc Gn Vbx) hZ (hi 287 rfl) (hi 171 rfl) (by decide) (by decide)) q3a q3c (g := (mkF m 10 #[vR a, vR sb, .val .null, vR b, .unset] [(.ref sb)])) rfl (by rw [hml]; rfl) (Steps.refl _) (argsL := []) (rest := []) (lenOf owpd5 rfl) rfl (Nat.le_of_eq rfl) (hb hby d37_10) (fun _ _ => ⟨rfl, e2, (by decide : 0 + 0 ≤ _), (by decide : 0 + 0 ≤ _)⟩)
  dsimp only [Pt.U, Pt.locs, Pt.cells, Pt.slots] at X3 l3 y3 z3 st3 hQ3
  subst l3 y3 z3
  obtain ⟨rfl, Nq3, e3⟩ := hQ3
  have N3 := Fr.app N2 Nq3
  obtain ⟨cq4, kq4, q4a, q4b, q4c⟩ := isOf hZ e3 Eb
  obtain ⟨_, _, ⟨T4, L4, k4, n4⟩, -, X4, ⟨Lc4, hQ4, l4, y4, z4⟩, st4⟩ := X3.virtualBack hx (y := yy13) (z := yy13) hown (mvT hZ (hi 290 rfl)) (mvT hZ (hi 291 rfl)) (notFace_of_selects (args := #[]) (mvT hZ (hi 293 rfl))) (mvT hZ (hi 293 rfl)) (mvT hZ (hi 292 rfl)) (by decide) (backOf (W := 0) (rmIl l Z a0 hw [] n0 h0 O qqR qqN qqK qqU qqS qqE qqI qqM W sb Gc) hZ (hi 294 rfl) (hi 179 rfl) (by decide) (by decide)) q4a q4c (g := (mkF m 16 #[vR a, vR sb, .val .null, vR b, vI 76] [(.ref sb)])) rfl (by rw [hml]; rfl) (Steps.refl _) (argsL := []) (rest := []) (lenOf owpd15 rfl) rfl (Nat.le_of_eq rfl) (hb hby d37_16) (fun _ _ => ⟨rfl, e3, (by decide : 0 + 0 ≤ _), (by decide : 0 + 0 ≤ _)⟩)
  dsimp only [Pt.U, Pt.locs, Pt.cells, Pt.slots] at X4 l4 y4 z4 st4 hQ4
  subst l4 y4 z4
  obtain ⟨rfl, Nq4, e4⟩ := hQ4
  have N4 := Fr.app N3 Nq4
  obtain ⟨T5, h5, X5, e5, W5, st5⟩ := putFN X4 hx hZ hown (hi 210 rfl) Via.refl e4 Fc Es (Or.inr ⟨(hi 85 rfl), rfl, hnm⟩) (hi 82 rfl) (ty := .byte) (v' := (.int 0)) (by decide) rfl rfl (g := (mkF m 24 #[vR a, vR sb, .val .null, vR b, vI 76] [(.int 0), (.ref a)])) rfl rfl (hb hby d37_24)
  have Fw5 := Fc.same W5
  have N5 := Fr.snoc X5 N4 ga
  have O5 := O.wr W5 ga
  have Kp5 : Keep h0 h5 [a] := (Keep.refl h0 [a]).wr W5 (Or.inl (List.mem_of_getElem? (i := 0) rfl))
  have nq6 := owB.ne Vbx Es (hi 82 rfl)
  have fa7 := (Vbx.other W5 nq6)
  obtain ⟨_, _, ⟨T8, L8, k8, n8⟩, -, X8, ⟨Lc8, hQ8, l8, y8, z8⟩, st8⟩ := Jvm.LawKit.callS X5 hx (y := yy43) hown (mvT hZ (hi 295 rfl)) (mvT hZ (hi 296 rfl)) (mvT hZ (hi 255 rfl)) (mvT hZ (hi 297 rfl)) (by decide) (backOf (W := 1) (rmCr_142_76 l Z a0 hw [] n0 h5 O5 qqR qqN qqK qqU qqS qqE qqI qqM W b k fa7) hZ (hi 297 rfl) (hi 255 rfl) (by decide) (by decide)) (g := (mkF m 32 #[vR a, vR sb, .val .null, vR b, vI 76] [(.int 76), (.int 0), (.ref b), (.ref a)])) rfl (by rw [hml]; rfl) (argsL := [(.ref b), (.int 0), (.int 76)]) (rest := [(.ref a)]) (lenOf owpd13 rfl) rfl (Nat.le_of_eq rfl) (hb hby d37_32) (fun _ _ => ⟨rfl, e5, (by decide : 0 + 1 ≤ _), (by decide : 0 + 76 ≤ _)⟩)
  dsimp only [Pt.U, Pt.locs, Pt.cells, Pt.slots] at X8 l8 y8 z8 st8 hQ8
  subst l8 y8 z8
  obtain ⟨Nq8, hP8⟩ := hQ8
  have N8 := Fr.app N5 Nq8
  have ee8 : T8.heap = T8.heap := rfl
  obtain ⟨bb8, kk8, rfl, hb8, Oc8, Kc8, Vb8⟩ := hP8
  have fa9 := (Eb.wr W5)
  have ne_sb_8 : sb ≠ bb8 := Nat.ne_of_lt (Nat.lt_of_lt_of_le fa9.lt hb8)
  have ne_b_8 : b ≠ bb8 := Nat.ne_of_lt (Nat.lt_of_lt_of_le fa7.lt hb8)
  have fa10 := (Es.wr W5)
  have ne_a_8 : a ≠ bb8 := Nat.ne_of_lt (Nat.lt_of_lt_of_le fa10.lt hb8)
  have gx8 : n0 ≤ bb8 := Nat.le_trans (Nat.le_trans (Nat.le_of_eq O5.1.symm) O5.2.1) hb8
  have sz8 : h0.size ≤ bb8 := Nat.le_trans Kp5.1 hb8
  have Kp8 : Keep h0 T8.heap [a] := Kp5.trans Kc8 (all0 (P := fun x => x ∈ [a] ∨ h0.size ≤ x))
  have fa11 := ((Fv.other W5 (Or.inr (slot_ne (Or.inr (hi 84 rfl)) (Or.inr (hi 85 rfl)) (by decide) (t := (.array .byte)) (t' := .byte) (by decide) (by decide)))).keep Kc8 nin0)
  have fa12 := (fa10.keep Kc8)
  obtain ⟨T13, h13, X13, e13, W13, st13⟩ := putF X8 hx hZ hown (host := "") (Or.inl (hi 203 rfl)) Via.refl ee8 fa11 fa12 (Or.inr ⟨(hi 84 rfl), rfl, hnm⟩) (hi 82 rfl) (ty := (.array .byte)) (by decide) rfl rfl (g := (mkF m 35 #[vR a, vR sb, .val .null, vR b, vI 76] [(.ref bb8), (.ref a)])) rfl rfl (hb hby d37_35)
  have Fw13 := fa11.same W13
  have N13 := Fr.snoc X13 N8 ga
  have O13 := Oc8.wr W13 ga
  have Kp13 : Keep h0 h13 [a] := Kp8.wr W13 (Or.inl (List.mem_of_getElem? (i := 0) rfl))
  obtain ⟨fs, hr, hrun, hended, hW, hsame⟩ := X13.leave (v := none) (fun _ => rfl)
  refine ⟨_, _, castTop ef ?_, hrun, hended, _, _, rfl, ?_, ⟨_, rfl⟩, hW, hsame.mono (by decide) (by decide)⟩
  · show OwG p e below s₁ m 0 #[vR a, vR sb, .val .null, .unset, .unset] [] _
    refine XS.aloadN X0.here hx rfl (hb hby d37_0) rfl rfl ?_
    show OwG p e below s₁ m 1 #[vR a, vR sb, .val .null, .unset, .unset] [(.ref a)] _
    refine st1 _ ?_
    show OwG p e below T1 m 4 #[vR a, vR sb, .val .null, .unset, .unset] [] _
    refine XS.aloadN X1.here hx rfl (hb hby d37_4) rfl rfl ?_
    show OwG p e below T1 m 5 #[vR a, vR sb, .val .null, .unset, .unset] [(.ref sb)] _
    refine st2.trans ?_
    show OwG p e below T2 m 8 #[vR a, vR sb, .val .null, .unset, .unset] [(.ref b)] _
    refine XS.astoreN X2.here hx rfl (hb hby d37_8) rfl rfl (l' := #[vR a, vR sb, .val .null, vR b, .unset]) rfl ?_
    refine XS.aloadN X2.here hx rfl (hb hby d37_9) rfl rfl ?_
    show OwG p e below T2 m 10 #[vR a, vR sb, .val .null, vR b, .unset] [(.ref sb)] _
    refine st3.trans ?_
    show OwG p e below T3 m 13 #[vR a, vR sb, .val .null, vR b, .unset] [(.int 76)] _
    refine XS.istore X3.here hx rfl (hb hby d37_13) rfl (l' := #[vR a, vR sb, .val .null, vR b, vI 76]) rfl ?_
    refine XS.aloadN X3.here hx rfl (hb hby d37_15) rfl rfl ?_
    show OwG p e below T3 m 16 #[vR a, vR sb, .val .null, vR b, vI 76] [(.ref sb)] _
    refine st4.trans ?_
    show OwG p e below T4 m 19 #[vR a, vR sb, .val .null, vR b, vI 76] [(.int 1)] _
    refine XS.ifNo X4.here hx rfl (hb hby d37_19) rfl ((if0 _ _).trans (feq (by decide : ¬ ((1 : Int32) = (0 : Int32)))).1) ?_
    refine XS.aloadN X4.here hx rfl (hb hby d37_22) rfl rfl ?_
    refine XS.iconst X4.here hx rfl (hb hby d37_23) ?_
    show OwG p e below T4 m 24 #[vR a, vR sb, .val .null, vR b, vI 76] [(.int 0), (.ref a)] _
    refine st5 _ ?_
    show OwG p e below T5 m 27 #[vR a, vR sb, .val .null, vR b, vI 76] [] _
    refine XS.aloadN X5.here hx rfl (hb hby d37_27) rfl rfl ?_
    refine XS.aloadN X5.here hx rfl (hb hby d37_28) rfl rfl ?_
    refine XS.iconst X5.here hx rfl (hb hby d37_29) ?_
    refine XS.iload X5.here hx rfl (hb hby d37_30) rfl ?_
    show OwG p e below T5 m 32 #[vR a, vR sb, .val .null, vR b, vI 76] [(.int 76), (.int 0), (.ref b), (.ref a)] _
    refine st8 _ ?_
    show OwG p e below T8 m 35 #[vR a, vR sb, .val .null, vR b, vI 76] [(.ref bb8), (.ref a)] _
    refine st13 _ ?_
    show OwG p e below T13 m 38 #[vR a, vR sb, .val .null, vR b, vI 76] [] _
    refine XS.goto X13.here hx rfl (pc0 := 38) (pc' := 97) rfl (hb hby d37_38) (by decide) (by decide) ?_
    show OwG p e below T13 m 97 #[vR a, vR sb, .val .null, vR b, vI 76] [] _
    exact X13.returnOut hx Bd.returns (hb hby d37_97) hr
  · have eF : (T13.setFrames fs).heap = h13 := e13
    exact ⟨N13, rfl, by rw [eF]; exact ⟨O13, Kp13⟩⟩
theorem rmSi1_76 (l : Launch) (Z : State) (a0 : Array Value) (hw : OwHw Z a0) (ws : List Jvm.Cond) (n0 : Nat) (h0 : Heap) (O : Old Z n0 h0) (qqR qqN qqK qqU qqS qqE : Addr) (qqI : Int32) (qqM : Addr) (W : OwW Z qqR qqN qqK qqU qqS qqE qqI qqM) (sb b : Addr) (k : ClassId) (a : Addr) (Eb : Exa Z h0 sb zs19) (Gv : Fld Z h0 sb zs14 "value" "[B" (.ref b)) (Gc : Fld Z h0 sb zs14 "coder" "B" (.int 0)) (Gn : Fld Z h0 sb zs14 "count" "I" (.int 76)) (Vbx : owB Z h0 b k (142 : Int32)) (Es : Exa Z h0 a zs18) (Fc : Fld Z h0 a zs18 "coder" "B" (.int 0)) (Fv : Fld Z h0 a zs18 "value" "[B" .null) (ga : n0 ≤ a) :
    OwCon l yy22 j26 2 none ws (rM 4 1 76 65) #[(.ref a), (.ref sb)] Z h0 (OwP (fun v h => v = none ∧ Old Z n0 h ∧ Keep h0 h [a]) n0) := by
  refine MetFree.of_bodySF (plainFor_of_name owpn36) hisR ?_
  intro p e s m args below meth c s₁ Bd hml0 hP hK
  have hi := @own_hi Z a0 hw
  obtain ⟨rfl, hZ, hh⟩ := hP
  have hx := Bd.exec
  have hby := Bd.bytes
  have hml : c.maxLocals = 2 := hml0
  have hown := findClass_of_methodNamed Bd.named
  have X0 : Stand p l e (rM 4 1 76 65) s m #[(.ref a), (.ref sb)] below meth c s₁ [] 0 0 := Stand.of_body Bd
  have e0 : s₁.heap = h0 := by rw [← hh, Bd.state]; rfl
  have N0 := Fr.nil n0
  have ef : entryFrame m #[(.ref a), (.ref sb)] 2 = mkF m 0 #[.val (.ref a), .val (.ref sb)] [] := by first | (simp [entryFrame, mkF, argsToLocals, Value.category]; done) | rfl
  obtain ⟨_, _, ⟨T1, L1, k1, n1⟩, -, X1, ⟨Lc1, hQ1, l1, y1, z1⟩, st1⟩ := X0.specialBack hx (y := yy21) rfl hown (mvT hZ (hi 273 rfl)) (mvT hZ (hi 274 rfl)) (mvT hZ (hi 275 rfl)) (by decide) (backOf (W := 0) (rmSi2_76 l Z a0 hw [] n0 h0 O qqR qqN qqK qqU qqS qqE qqI qqM W sb b k a Eb Gv Gc Gn Vbx Es Fc Fv ga) hZ (hi 275 rfl) (hi 81 rfl) (by decide) (by decide)) (g := (mkF m 3 #[vR a, vR sb] [.null, (.ref sb), (.ref a)])) rfl (by rw [hml]; rfl) (Steps.refl _) (a := a) (argsL := [(.ref sb), .null]) (rest := []) (lenOf owpd16 rfl) rfl (Nat.le_of_eq rfl) (hb hby d36_3) (fun _ _ => ⟨rfl, e0, (by decide : 0 + 1 ≤ _), (by decide : 0 + 76 ≤ _)⟩)
  dsimp only [Pt.U, Pt.locs, Pt.cells, Pt.slots] at X1 l1 y1 z1 st1 hQ1
  subst l1 y1 z1
  obtain ⟨Nq1, hP1⟩ := hQ1
  have N1 := Fr.app N0 Nq1
  have ee1 : T1.heap = T1.heap := rfl
  obtain ⟨rfl, Oc1, Kc1⟩ := hP1
  have Kp1 : Keep h0 T1.heap [a] := (Keep.refl h0 [a]).trans Kc1 (allS (P := fun x => x ∈ [a] ∨ h0.size ≤ x) (Or.inl (List.mem_of_getElem? (i := 0) rfl)) (all0 (P := fun x => x ∈ [a] ∨ h0.size ≤ x)))
  obtain ⟨fs, hr, hrun, hended, hW, hsame⟩ := X1.leave (v := none) (fun _ => rfl)
  refine ⟨_, _, castTop ef ?_, hrun, hended, _, _, rfl, ?_, ⟨_, rfl⟩, hW, hsame.mono (by decide) (by decide)⟩
  · show OwG p e below s₁ m 0 #[vR a, vR sb] [] _
    refine XS.aloadN X0.here hx rfl (hb hby d36_0) rfl rfl ?_
    show OwG p e below s₁ m 1 #[vR a, vR sb] [(.ref a)] _
    refine XS.aloadN X0.here hx rfl (hb hby d36_1) rfl rfl ?_
    refine XS.aconstNull X0.here hx rfl (hb hby d36_2) ?_
    show OwG p e below s₁ m 3 #[vR a, vR sb] [.null, (.ref sb), (.ref a)] _
    refine st1.trans ?_
    show OwG p e below T1 m 6 #[vR a, vR sb] [] _
    exact X1.returnOut hx Bd.returns (hb hby d36_6) hr
  · have eF : (T1.setFrames fs).heap = T1.heap := ee1
    exact ⟨N1, rfl, by rw [eF]; exact ⟨Oc1, Kp1⟩⟩
theorem rmTos_76 (l : Launch) (Z : State) (a0 : Array Value) (hw : OwHw Z a0) (ws : List Jvm.Cond) (n0 : Nat) (h0 : Heap) (O : Old Z n0 h0) (qqR qqN qqK qqU qqS qqE : Addr) (qqI : Int32) (qqM : Addr) (W : OwW Z qqR qqN qqK qqU qqS qqE qqI qqM) (sb b : Addr) (k : ClassId) (Eb : Exa Z h0 sb zs19) (Gv : Fld Z h0 sb zs14 "value" "[B" (.ref b)) (Gc : Fld Z h0 sb zs14 "coder" "B" (.int 0)) (Gn : Fld Z h0 sb zs14 "count" "I" (.int 76)) (Vbx : owB Z h0 b k (142 : Int32)) :
    OwCon l yy29 j22 1 (some (.object zs18)) ws (rM 5 2 80 79) #[(.ref sb)] Z h0 (OwP (fun v h => ∃ a, v = some (.ref a) ∧ h0.size ≤ a ∧ Old Z n0 h ∧ Keep h0 h []) n0) := by
  refine MetFree.of_bodySF (plainFor_of_name owpn35) hisR ?_
  intro p e s m args below meth c s₁ Bd hml0 hP hK
  have hi := @own_hi Z a0 hw
  obtain ⟨rfl, hZ, hh⟩ := hP
  have hx := Bd.exec
  have hby := Bd.bytes
  have hml : c.maxLocals = 1 := hml0
  have hown := findClass_of_methodNamed Bd.named
  have X0 : Stand p l e (rM 5 2 80 79) s m #[(.ref sb)] below meth c s₁ [] 0 0 := Stand.of_body Bd
  have e0 : s₁.heap = h0 := by rw [← hh, Bd.state]; rfl
  have N0 := Fr.nil n0
  have ef : entryFrame m #[(.ref sb)] 1 = mkF m 0 #[.val (.ref sb)] [] := by first | (simp [entryFrame, mkF, argsToLocals, Value.category]; done) | rfl
  obtain ⟨T1, h1, X1, e1, E1, A1, D1, Un1, st1⟩ := newO X0 hx hZ hown (hi 268 rfl) (hi 82 rfl) (hi 81 rfl) e0 (g := (mkF m 0 #[vR sb] [])) rfl (hb hby d35_0) (by decide) (by decide)
  obtain ⟨b1, g1⟩ : ∃ z, z = h0.size := ⟨_, rfl⟩
  rw [← g1] at A1 D1 Un1 st1
  have gx1 : n0 ≤ b1 := Nat.le_trans (Nat.le_trans (Nat.le_of_eq O.1.symm) O.2.1) (Nat.le_of_eq g1.symm)
  have ne_sb_1 : sb ≠ b1 := Nat.ne_of_lt (Nat.lt_of_lt_of_le Eb.lt (Nat.le_of_eq g1.symm))
  have ne_b_1 : b ≠ b1 := Nat.ne_of_lt (Nat.lt_of_lt_of_le Vbx.lt (Nat.le_of_eq g1.symm))
  have O1 := O.ext E1
  have Fn1_value : Fld Z h1 b1 zs18 "value" "[B" .null := D1 (Or.inr (hi 84 rfl)) (ty := (.array .byte)) (by decide)
  have Fn1_coder : Fld Z h1 b1 zs18 "coder" "B" (.int 0) := D1 (Or.inr (hi 85 rfl)) (ty := .byte) (by decide)
  have sz1 : h0.size ≤ b1 := Nat.le_trans (Keep.refl h0 []).1 (Nat.le_of_eq g1.symm)
  have Kp1 : Keep h0 h1 [] := (Keep.refl h0 []).ext E1
  have fa2 := (Eb.ext E1)
  have fa3 := (Gv.ext E1)
  have fa4 := (Gc.ext E1)
  have fa5 := (Gn.ext E1)
  have fa6 := (Vbx.ext E1)
  obtain ⟨_, _, ⟨T7, L7, k7, n7⟩, -, X7, ⟨Lc7, hQ7, l7, y7, z7⟩, st7⟩ := X1.specialBack hx (y := yy22) rfl hown (mvT hZ (hi 269 rfl)) (mvT hZ (hi 270 rfl)) (mvT hZ (hi 272 rfl)) (by decide) (backOf (W := 1) (rmSi1_76 l Z a0 hw [] n0 h1 O1 qqR qqN qqK qqU qqS qqE qqI qqM W sb b k b1 fa2 fa3 fa4 fa5 fa6 A1 Fn1_coder Fn1_value gx1) hZ (hi 272 rfl) (hi 81 rfl) (by decide) (by decide)) (g := (mkF m 5 #[vR sb] [(.ref sb), (.ref b1), (.ref b1)])) rfl (by rw [hml]; rfl) (Steps.refl _) (a := b1) (argsL := [(.ref sb)]) (rest := [(.ref b1)]) (lenOf owpd17 rfl) rfl (Nat.le_of_eq rfl) (hb hby d35_5) (fun _ _ => ⟨rfl, e1, (by decide : 1 + 1 ≤ _), (by decide : 4 + 76 ≤ _)⟩)
  dsimp only [Pt.U, Pt.locs, Pt.cells, Pt.slots] at X7 l7 y7 z7 st7 hQ7
  subst l7 y7 z7
  obtain ⟨Nq7, hP7⟩ := hQ7
  have N7 := Fr.app N0 Nq7
  have ee7 : T7.heap = T7.heap := rfl
  obtain ⟨rfl, Oc7, Kc7⟩ := hP7
  have Kp7 : Keep h0 T7.heap [] := Kp1.trans Kc7 (allS (P := fun x => x ∈ ([] : List Addr) ∨ h0.size ≤ x) (Or.inr sz1) (all0 (P := fun x => x ∈ ([] : List Addr) ∨ h0.size ≤ x)))
  obtain ⟨fs, hr, hrun, hended, hW, hsame⟩ := X7.leave (v := some (.ref b1)) (fun h => by rw [Bd.returns] at h; cases h)
  refine ⟨_, _, castTop ef ?_, hrun, hended, _, _, rfl, ?_, ⟨_, rfl⟩, hW, hsame.mono (by decide) (by decide)⟩
  · show OwG p e below s₁ m 0 #[vR sb] [] _
    refine st1 _ ?_
    show OwG p e below T1 m 3 #[vR sb] [(.ref b1)] _
    refine XS.dup X1.here hx rfl (hb hby d35_3) rfl rfl ?_
    refine XS.aloadN X1.here hx rfl (hb hby d35_4) rfl rfl ?_
    show OwG p e below T1 m 5 #[vR sb] [(.ref sb), (.ref b1), (.ref b1)] _
    refine st7.trans ?_
    show OwG p e below T7 m 8 #[vR sb] [(.ref b1)] _
    exact retOut X7 hx Bd.returns rfl (Or.inr (Or.inr (Or.inr (Or.inr ⟨rfl, rfl, rfl⟩)))) (hb hby d35_8) hr
  · have eF : (T7.setFrames fs).heap = T7.heap := ee7
    exact ⟨N7, b1, rfl, sz1, by rw [eF]; exact ⟨Oc7, Kp7⟩⟩
theorem rmAc (l : Launch) (Z : State) (a0 : Array Value) (hw : OwHw Z a0) (ws : List Jvm.Cond) (n0 : Nat) (h0 : Heap) (O : Old Z n0 h0) (qqR qqN qqK qqU qqS qqE : Addr) (qqI : Int32) (qqM : Addr) (W : OwW Z qqR qqN qqK qqU qqS qqE qqI qqM) (a : Addr) :
    OwCon l yy32 j42 1 none ws (rM 1 0 0 12) #[(.ref a)] Z h0 (OwQ none h0 n0) := by
  refine MetFree.of_bodySF (plainFor_of_name owpn17) hisR ?_
  intro p e s m args below meth c s₁ Bd hml0 hP hK
  have hi := @own_hi Z a0 hw
  obtain ⟨rfl, hZ, hh⟩ := hP
  have hx := Bd.exec
  have hby := Bd.bytes
  have hml : c.maxLocals = 1 := hml0
  have hown := findClass_of_methodNamed Bd.named
  have X0 : Stand p l e (rM 1 0 0 12) s m #[(.ref a)] below meth c s₁ [] 0 0 := Stand.of_body Bd
  have e0 : s₁.heap = h0 := by rw [← hh, Bd.state]; rfl
  have N0 := Fr.nil n0
  have ef : entryFrame m #[(.ref a)] 1 = mkF m 0 #[.val (.ref a)] [] := by first | (simp [entryFrame, mkF, argsToLocals, Value.category]; done) | rfl
  obtain ⟨T1, X1, e1, st1⟩ := initO X0 hx hZ hown (hi 144 rfl) (hi 14 rfl) (hi 15 rfl) e0 (g := (mkF m 1 #[vR a] [(.ref a)])) rfl (by rw [hml]; rfl) rfl (hb hby d17_1) (by decide) (W := 0) (Nat.le_of_eq rfl) (by decide)
  obtain ⟨fs, hr, hrun, hended, hW, hsame⟩ := X1.leave (v := none) (fun _ => rfl)
  refine ⟨_, _, castTop ef ?_, hrun, hended, _, _, rfl, ?_, ⟨_, rfl⟩, hW, hsame.mono (by decide) (by decide)⟩
  · show OwG p e below s₁ m 0 #[vR a] [] _
    refine XS.aloadN X0.here hx rfl (hb hby d17_0) rfl rfl ?_
    show OwG p e below s₁ m 1 #[vR a] [(.ref a)] _
    refine st1 _ ?_
    show OwG p e below T1 m 4 #[vR a] [] _
    exact X1.returnOut hx Bd.returns (hb hby d17_4) hr
  · have eF : (T1.setFrames fs).heap = h0 := e1
    exact ⟨rfl, N0, eF⟩
theorem rmAbl (l : Launch) (Z : State) (a0 : Array Value) (hw : OwHw Z a0) (ws : List Jvm.Cond) (n0 : Nat) (h0 : Heap) (O : Old Z n0 h0) (qqR qqN qqK qqU qqS qqE : Addr) (qqI : Int32) (qqM : Addr) (W : OwW Z qqR qqN qqK qqU qqS qqE qqI qqM) (li : Addr) (El : Exa Z h0 li zs22) (Lf0 : Fld Z h0 li zs21 "modCount" "I" (.int 0)) (Lf1 : Fld Z h0 li zs22 "elementData" zs6 .null) (Lf2 : Fld Z h0 li zs22 "size" "I" (.int 0)) (gl : n0 ≤ li) :
    OwCon l yy33 j39 1 none ws (rM 2 0 0 24) #[(.ref li)] Z h0 (OwP (fun v h => v = none ∧ Old Z n0 h ∧ Keep h0 h [li] ∧ Exa Z h li zs22 ∧ Fld Z h li zs21 "modCount" "I" (.int 0) ∧ Fld Z h li zs22 "elementData" zs6 .null ∧ Fld Z h li zs22 "size" "I" (.int 0)) n0) := by
  refine MetFree.of_bodySF (plainFor_of_name owpn16) hisR ?_
  intro p e s m args below meth c s₁ Bd hml0 hP hK
  have hi := @own_hi Z a0 hw
  obtain ⟨rfl, hZ, hh⟩ := hP
  have hx := Bd.exec
  have hby := Bd.bytes
  have hml : c.maxLocals = 1 := hml0
  have hown := findClass_of_methodNamed Bd.named
  have X0 : Stand p l e (rM 2 0 0 24) s m #[(.ref li)] below meth c s₁ [] 0 0 := Stand.of_body Bd
  have e0 : s₁.heap = h0 := by rw [← hh, Bd.state]; rfl
  have N0 := Fr.nil n0
  have ef : entryFrame m #[(.ref li)] 1 = mkF m 0 #[.val (.ref li)] [] := by first | (simp [entryFrame, mkF, argsToLocals, Value.category]; done) | rfl
  obtain ⟨_, _, ⟨T1, L1, k1, n1⟩, -, X1, ⟨Lc1, hQ1, l1, y1, z1⟩, st1⟩ := X0.specialBack hx (y := yy32) rfl hown (mvT hZ (hi 138 rfl)) (mvT hZ (hi 139 rfl)) (mvT hZ (hi 143 rfl)) (by decide) (backOf (W := 0) (rmAc l Z a0 hw [] n0 h0 O qqR qqN qqK qqU qqS qqE qqI qqM W li) hZ (hi 143 rfl) (hi 142 rfl) (by decide) (by decide)) (g := (mkF m 1 #[vR li] [(.ref li)])) rfl (by rw [hml]; rfl) (Steps.refl _) (a := li) (argsL := []) (rest := []) (lenOf owpd0 rfl) rfl (Nat.le_of_eq rfl) (hb hby d16_1) (fun _ _ => ⟨rfl, e0, (by decide : 0 + 0 ≤ _), (by decide : 0 + 0 ≤ _)⟩)
  dsimp only [Pt.U, Pt.locs, Pt.cells, Pt.slots] at X1 l1 y1 z1 st1 hQ1
  subst l1 y1 z1
  obtain ⟨rfl, Nq1, e1⟩ := hQ1
  have N1 := Fr.app N0 Nq1
  obtain ⟨T2, h2, X2, e2, W2, st2⟩ := putF X1 hx hZ hown (host := "") (Or.inl (hi 145 rfl)) Via.refl e1 Lf0 El (Or.inl (hi 146 rfl)) (hi 126 rfl) (ty := .int) (by decide) rfl rfl (g := (mkF m 6 #[vR li] [(.int 0), (.ref li)])) rfl rfl (hb hby d16_6)
  have Fw2 := Lf0.same W2
  have N2 := Fr.snoc X2 N1 gl
  have O2 := O.wr W2 gl
  have Kp2 : Keep h0 h2 [li] := (Keep.refl h0 [li]).wr W2 (Or.inl (List.mem_of_getElem? (i := 0) rfl))
  have fa3 := (El.wr W2)
  have fa4 := (Lf1.other W2 (Or.inr (slot_ne (Or.inl (hi 149 rfl)) (Or.inl (hi 146 rfl)) (by decide) (t := (.array (.object zs16))) (t' := .int) (by decide) (by decide))))
  have fa5 := (Lf2.other W2 (Or.inr (slot_ne (Or.inl (hi 162 rfl)) (Or.inl (hi 146 rfl)) (by decide) (t := .int) (t' := .int) (by decide) (by decide))))
  obtain ⟨fs, hr, hrun, hended, hW, hsame⟩ := X2.leave (v := none) (fun _ => rfl)
  refine ⟨_, _, castTop ef ?_, hrun, hended, _, _, rfl, ?_, ⟨_, rfl⟩, hW, hsame.mono (by decide) (by decide)⟩
  · show OwG p e below s₁ m 0 #[vR li] [] _
    refine XS.aloadN X0.here hx rfl (hb hby d16_0) rfl rfl ?_
    show OwG p e below s₁ m 1 #[vR li] [(.ref li)] _
    refine st1.trans ?_
    show OwG p e below T1 m 4 #[vR li] [] _
    refine XS.aloadN X1.here hx rfl (hb hby d16_4) rfl rfl ?_
    refine XS.iconst X1.here hx rfl (hb hby d16_5) ?_
    show OwG p e below T1 m 6 #[vR li] [(.int 0), (.ref li)] _
    refine st2 _ ?_
    show OwG p e below T2 m 9 #[vR li] [] _
    exact X2.returnOut hx Bd.returns (hb hby d16_9) hr
  · have eF : (T2.setFrames fs).heap = h2 := e2
    exact ⟨N2, rfl, by rw [eF]; exact ⟨O2, Kp2, fa3, Fw2, fa4, fa5⟩⟩
theorem rmAli (l : Launch) (Z : State) (a0 : Array Value) (hw : OwHw Z a0) (ws : List Jvm.Cond) (n0 : Nat) (h0 : Heap) (O : Old Z n0 h0) (qqR qqN qqK qqU qqS qqE : Addr) (qqI : Int32) (qqM : Addr) (W : OwW Z qqR qqN qqK qqU qqS qqE qqI qqM) (li : Addr) (El : Exa Z h0 li zs22) (Lf0 : Fld Z h0 li zs21 "modCount" "I" (.int 0)) (Lf1 : Fld Z h0 li zs22 "elementData" zs6 .null) (Lf2 : Fld Z h0 li zs22 "size" "I" (.int 0)) (gl : n0 ≤ li) :
    OwCon l yy34 j43 2 none ws (rM 3 1 1 36) #[(.ref li), (.int 1)] Z h0 (OwP (fun v h => v = none ∧ Old Z n0 h ∧ Keep h0 h [li] ∧ ∃ (b' : Addr) (k' : ClassId), h0.size ≤ b' ∧ Exa Z h li zs22 ∧ Fld Z h li zs21 "modCount" "I" (.int 0) ∧ Fld Z h li zs22 "elementData" zs6 (.ref b') ∧ Fld Z h li zs22 "size" "I" (.int 0) ∧ Arv Z h b' k' (.object zs16) (1 : Int32) [.null] .null ∧ Exa Z h b' zs6 ∧ Ovr Z k' zs16) n0) := by
  refine MetFree.of_bodySF (plainFor_of_name owpn15) hisR ?_
  intro p e s m args below meth c s₁ Bd hml0 hP hK
  have hi := @own_hi Z a0 hw
  obtain ⟨rfl, hZ, hh⟩ := hP
  have hx := Bd.exec
  have hby := Bd.bytes
  have hml : c.maxLocals = 2 := hml0
  have hown := findClass_of_methodNamed Bd.named
  have X0 : Stand p l e (rM 3 1 1 36) s m #[(.ref li), (.int 1)] below meth c s₁ [] 0 0 := Stand.of_body Bd
  have e0 : s₁.heap = h0 := by rw [← hh, Bd.state]; rfl
  have N0 := Fr.nil n0
  have ef : entryFrame m #[(.ref li), (.int 1)] 2 = mkF m 0 #[.val (.ref li), .val (.int 1)] [] := by first | (simp [entryFrame, mkF, argsToLocals, Value.category]; done) | rfl
  obtain ⟨_, _, ⟨T1, L1, k1, n1⟩, -, X1, ⟨Lc1, hQ1, l1, y1, z1⟩, st1⟩ := X0.specialBack hx (y := yy33) rfl hown (mvT hZ (hi 132 rfl)) (mvT hZ (hi 133 rfl)) (mvT hZ (hi 137 rfl)) (by decide) (backOf (W := 0) (rmAbl l Z a0 hw [] n0 h0 O qqR qqN qqK qqU qqS qqE qqI qqM W li El Lf0 Lf1 Lf2 gl) hZ (hi 137 rfl) (hi 136 rfl) (by decide) (by decide)) (g := (mkF m 1 #[vR li, vI 1] [(.ref li)])) rfl (by rw [hml]; rfl) (Steps.refl _) (a := li) (argsL := []) (rest := []) (lenOf owpd0 rfl) rfl (Nat.le_of_eq rfl) (hb hby d15_1) (fun _ _ => ⟨rfl, e0, (by decide : 0 + 0 ≤ _), (by decide : 0 + 0 ≤ _)⟩)
  dsimp only [Pt.U, Pt.locs, Pt.cells, Pt.slots] at X1 l1 y1 z1 st1 hQ1
  subst l1 y1 z1
  obtain ⟨Nq1, hP1⟩ := hQ1
  have N1 := Fr.app N0 Nq1
  have ee1 : T1.heap = T1.heap := rfl
  obtain ⟨rfl, Oc1, Kc1, Ec1, La1, Lb1, Lc1⟩ := hP1
  have Kp1 : Keep h0 T1.heap [li] := (Keep.refl h0 [li]).trans Kc1 (allS (P := fun x => x ∈ [li] ∨ h0.size ≤ x) (Or.inl (List.mem_of_getElem? (i := 0) rfl)) (all0 (P := fun x => x ∈ [li] ∨ h0.size ≤ x)))
  obtain ⟨T2, h2, k2, X2, e2, E2, A2, Ea2, Ov2, st2⟩ := newRE X1 hx hZ hown (hi 147 rfl) (hi 28 rfl) ee1 (g := (mkF m 10 #[vR li, vI 1] [(.int 1), (.ref li)])) rfl (hb hby d15_10) rfl (by decide) (cap := 1) (by decide) (by decide) (by decide) (by decide) (ad := zs6) (by decide)
  obtain ⟨b2, g2⟩ : ∃ z, z = T1.heap.size := ⟨_, rfl⟩
  rw [← g2] at A2 Ea2 st2
  have gx2 : n0 ≤ b2 := Nat.le_trans (Nat.le_trans (Nat.le_of_eq Oc1.1.symm) Oc1.2.1) (Nat.le_of_eq g2.symm)
  have ne_li_2 : li ≠ b2 := Nat.ne_of_lt (Nat.lt_of_lt_of_le Ec1.lt (Nat.le_of_eq g2.symm))
  have O2 := Oc1.ext E2
  have Vb2 : Arv Z h2 b2 k2 (.object zs16) (1 : Int32) [.null] .null := Arv.pad (Arv.new A2 (by decide)) (pad_rep [] .null 1)
  have sz2 : h0.size ≤ b2 := Nat.le_trans Kp1.1 (Nat.le_of_eq g2.symm)
  have Kp2 : Keep h0 h2 [li] := Kp1.ext E2
  have fa3 := (Lb1.ext E2)
  have fa4 := (Ec1.ext E2)
  obtain ⟨T5, h5, X5, e5, W5, st5⟩ := putF X2 hx hZ hown (host := "") (Or.inl (hi 148 rfl)) Via.refl e2 fa3 fa4 (Or.inl (hi 149 rfl)) (hi 126 rfl) (ty := (.array (.object zs16))) (by decide) rfl rfl (g := (mkF m 13 #[vR li, vI 1] [(.ref b2), (.ref li)])) rfl rfl (hb hby d15_13)
  have Fw5 := fa3.same W5
  have N5 := Fr.snoc X5 N1 gl
  have O5 := O2.wr W5 gl
  have Kp5 : Keep h0 h5 [li] := Kp2.wr W5 (Or.inl (List.mem_of_getElem? (i := 0) rfl))
  have fa6 := (fa4.wr W5)
  have fa7 := ((La1.ext E2).other W5 (Or.inr (slot_ne (Or.inl (hi 146 rfl)) (Or.inl (hi 149 rfl)) (by decide) (t := .int) (t' := (.array (.object zs16))) (by decide) (by decide))))
  have fa8 := ((Lc1.ext E2).other W5 (Or.inr (slot_ne (Or.inl (hi 162 rfl)) (Or.inl (hi 149 rfl)) (by decide) (t := .int) (t' := (.array (.object zs16))) (by decide) (by decide))))
  have fa9 := (Vb2.other W5 (Ne.symm ne_li_2))
  have fa10 := (Ea2.wr W5)
  obtain ⟨fs, hr, hrun, hended, hW, hsame⟩ := X5.leave (v := none) (fun _ => rfl)
  refine ⟨_, _, castTop ef ?_, hrun, hended, _, _, rfl, ?_, ⟨_, rfl⟩, hW, hsame.mono (by decide) (by decide)⟩
  · show OwG p e below s₁ m 0 #[vR li, vI 1] [] _
    refine XS.aloadN X0.here hx rfl (hb hby d15_0) rfl rfl ?_
    show OwG p e below s₁ m 1 #[vR li, vI 1] [(.ref li)] _
    refine st1.trans ?_
    show OwG p e below T1 m 4 #[vR li, vI 1] [] _
    refine XS.iloadN X1.here hx rfl (hb hby d15_4) rfl ?_
    refine XS.ifNo X1.here hx rfl (hb hby d15_5) rfl ((if0 _ _).trans (tlt (by decide : (0 : Int32) < (1 : Int32))).2.2.2) ?_
    refine XS.aloadN X1.here hx rfl (hb hby d15_8) rfl rfl ?_
    refine XS.iloadN X1.here hx rfl (hb hby d15_9) rfl ?_
    show OwG p e below T1 m 10 #[vR li, vI 1] [(.int 1), (.ref li)] _
    refine st2 _ ?_
    show OwG p e below T2 m 13 #[vR li, vI 1] [(.ref b2), (.ref li)] _
    refine st5 _ ?_
    show OwG p e below T5 m 16 #[vR li, vI 1] [] _
    refine XS.goto X5.here hx rfl (pc0 := 16) (pc' := 60) rfl (hb hby d15_16) (by decide) (by decide) ?_
    show OwG p e below T5 m 60 #[vR li, vI 1] [] _
    exact X5.returnOut hx Bd.returns (hb hby d15_60) hr
  · have eF : (T5.setFrames fs).heap = h5 := e5
    exact ⟨N5, rfl, by rw [eF]; exact ⟨O5, Kp5, b2, k2, sz2, fa6, fa7, Fw5, fa8, fa9, fa10, Ov2⟩⟩
theorem rmAd3_0 (l : Launch) (Z : State) (a0 : Array Value) (hw : OwHw Z a0) (ws : List Jvm.Cond) (n0 : Nat) (h0 : Heap) (O : Old Z n0 h0) (qqR qqN qqK qqU qqS qqE : Addr) (qqI : Int32) (qqM : Addr) (W : OwW Z qqR qqN qqK qqU qqS qqE qqI qqM) (li ar : Addr) (ka : ClassId) (xe : Addr) (El : Exa Z h0 li zs22) (Lf0 : Fld Z h0 li zs21 "modCount" "I" (.int 1)) (Lf1 : Fld Z h0 li zs22 "elementData" zs6 (.ref ar)) (Lf2 : Fld Z h0 li zs22 "size" "I" (.int 0)) (Va : Arv Z h0 ar ka (.object zs16) (1 : Int32) [.null] .null) (Ea : Exa Z h0 ar zs6) (Oa : Ovr Z ka zs16) (Ex : Exa Z h0 xe zs15) (gl : n0 ≤ li) (gr : n0 ≤ ar) :
    OwCon l yy36 j19 4 none ws (rM 0 0 0 0) #[(.ref li), (.ref xe), (.ref ar), (.int 0)] Z h0 (OwP (fun v h => v = none ∧ Old Z n0 h ∧ Keep h0 h [li, ar] ∧ ∃ (b' : Addr) (k' : ClassId), ar = b' ∧ Exa Z h li zs22 ∧ Fld Z h li zs21 "modCount" "I" (.int 1) ∧ Fld Z h li zs22 "elementData" zs6 (.ref b') ∧ Fld Z h li zs22 "size" "I" (.int 1) ∧ Arv Z h b' k' (.object zs16) (1 : Int32) [(.ref xe)] .null ∧ Exa Z h b' zs6 ∧ Ovr Z k' zs16) n0) := by
  refine MetFree.of_bodySF (plainFor_of_name owpn19) hisR ?_
  intro p e s m args below meth c s₁ Bd hml0 hP hK
  have hi := @own_hi Z a0 hw
  obtain ⟨rfl, hZ, hh⟩ := hP
  have hx := Bd.exec
  have hby := Bd.bytes
  have hml : c.maxLocals = 4 := hml0
  have hown := findClass_of_methodNamed Bd.named
  have X0 : Stand p l e (rM 0 0 0 0) s m #[(.ref li), (.ref xe), (.ref ar), (.int 0)] below meth c s₁ [] 0 0 := Stand.of_body Bd
  have e0 : s₁.heap = h0 := by rw [← hh, Bd.state]; rfl
  have N0 := Fr.nil n0
  have ef : entryFrame m #[(.ref li), (.ref xe), (.ref ar), (.int 0)] 4 = mkF m 0 #[.val (.ref li), .val (.ref xe), .val (.ref ar), .val (.int 0)] [] := by first | (simp [entryFrame, mkF, argsToLocals, Value.category]; done) | rfl
  obtain ⟨cl1, Ar1, q1, Sz1, Nn1, Hs1, -⟩ := id Va
  obtain ⟨cl2, Ar2, q2, Sz2, Nn2, Hs2, Gs2⟩ := id Va
  have hin2 : ¬ ((0 : Int32) < 0 ∨ cl2.slots.size ≤ ((0 : Int32)).toNatClampNeg) := inb_of Sz2 ⟨by decide, by decide⟩
  obtain ⟨T3, h3, X3, e3, W3, st3⟩ := stR X0 hx hZ e0 Ar2 (j := (0 : Int32)) hin2 rfl (Sto.ofV Ar2 q2 Oa (Ins.of_exa Ex (hi 168 rfl))) (g := (mkF m 14 #[vR li, vR xe, vR ar, vI 0] [(.ref xe), (.int 0), (.ref ar)])) rfl rfl (hb hby d19_14)
  have Vs3 : Arv Z h3 ar ka (.object zs16) (1 : Int32) [(.ref xe)] .null := Arv.set Ar2 q2 Sz2 Nn2 Hs2 Gs2 rfl W3 0 rfl (by show 0 < 1; decide)
  have N3 := Fr.snoc X3 N0 gr
  have O3 := O.wr W3 gr
  have Kp3 : Keep h0 h3 [li, ar] := (Keep.refl h0 [li, ar]).wr W3 (Or.inl (List.mem_of_getElem? (i := 1) rfl))
  have fa4 := (El.wr W3)
  have fa5 := (Ea.wr W3)
  have fa6 := (Lf2.other W3 (Or.inl (Exa.ne fa4 fa5 (by decide))))
  obtain ⟨T7, h7, X7, e7, W7, st7⟩ := putF X3 hx hZ hown (host := "") (Or.inl (hi 161 rfl)) Via.refl e3 fa6 fa4 (Or.inl (hi 162 rfl)) (hi 126 rfl) (ty := .int) (by decide) rfl rfl (g := (mkF m 19 #[vR li, vR xe, vR ar, vI 0] [(.int 1), (.ref li)])) rfl rfl (hb hby d19_19)
  have Fw7 := fa6.same W7
  have N7 := Fr.snoc X7 N3 gl
  have O7 := O3.wr W7 gl
  have Kp7 : Keep h0 h7 [li, ar] := Kp3.wr W7 (Or.inl (List.mem_of_getElem? (i := 0) rfl))
  have fa8 := (fa4.wr W7)
  have fa9 := (fa5.wr W7)
  have fa10 := ((Lf0.other W3 (Or.inl (Exa.ne fa8 fa9 (by decide)))).other W7 (Or.inr (slot_ne (Or.inl (hi 146 rfl)) (Or.inl (hi 162 rfl)) (by decide) (t := .int) (t' := .int) (by decide) (by decide))))
  have fa11 := ((Lf1.other W3 (Or.inl (Exa.ne fa8 fa9 (by decide)))).other W7 (Or.inr (slot_ne (Or.inl (hi 149 rfl)) (Or.inl (hi 162 rfl)) (by decide) (t := (.array (.object zs16))) (t' := .int) (by decide) (by decide))))
  have fa12 := (Vs3.other W7 (Exa.ne fa9 fa8 (by decide)))
  obtain ⟨fs, hr, hrun, hended, hW, hsame⟩ := X7.leave (v := none) (fun _ => rfl)
  refine ⟨_, _, castTop ef ?_, hrun, hended, _, _, rfl, ?_, ⟨_, rfl⟩, hW, hsame.mono (by decide) (by decide)⟩
  · show OwG p e below s₁ m 0 #[vR li, vR xe, vR ar, vI 0] [] _
    refine XS.iloadN X0.here hx rfl (hb hby d19_0) rfl ?_
    show OwG p e below s₁ m 1 #[vR li, vR xe, vR ar, vI 0] [(.int 0)] _
    refine XS.aloadN X0.here hx rfl (hb hby d19_1) rfl rfl ?_
    show OwG p e below s₁ m 2 #[vR li, vR xe, vR ar, vI 0] [(.ref ar), (.int 0)] _
    refine X0.arraylength hx (by rw [e0]; exact Ar1.1) (State.isArrayOf_alike hZ.alike Ar1.2.1) (g := (mkF m 2 #[vR li, vR xe, vR ar, vI 0] [(.ref ar), (.int 0)])) rfl rfl (hb hby d19_2) _ ?_
    rw [len_of Sz1 Nn1]
    show OwG p e below s₁ m 3 #[vR li, vR xe, vR ar, vI 0] [(.int 1), (.int 0)] _
    refine XS.icmpYes X0.here hx rfl (pc0 := 3) (pc' := 11) rfl (hb hby d19_3) rfl (feq (by decide : ¬ ((0 : Int32) = (1 : Int32)))).2 (by decide) (by decide) ?_
    refine XS.aloadN X0.here hx rfl (hb hby d19_11) rfl rfl ?_
    refine XS.iloadN X0.here hx rfl (hb hby d19_12) rfl ?_
    refine XS.aloadN X0.here hx rfl (hb hby d19_13) rfl rfl ?_
    show OwG p e below s₁ m 14 #[vR li, vR xe, vR ar, vI 0] [(.ref xe), (.int 0), (.ref ar)] _
    refine st3 _ ?_
    show OwG p e below T3 m 15 #[vR li, vR xe, vR ar, vI 0] [] _
    refine XS.aloadN X3.here hx rfl (hb hby d19_15) rfl rfl ?_
    refine XS.iloadN X3.here hx rfl (hb hby d19_16) rfl ?_
    refine XS.iconst X3.here hx rfl (hb hby d19_17) ?_
    refine XS.iadd X3.here hx rfl (hb hby d19_18) rfl ?_
    show OwG p e below T3 m 19 #[vR li, vR xe, vR ar, vI 0] [(.int 1), (.ref li)] _
    refine st7 _ ?_
    show OwG p e below T7 m 22 #[vR li, vR xe, vR ar, vI 0] [] _
    exact X7.returnOut hx Bd.returns (hb hby d19_22) hr
  · have eF : (T7.setFrames fs).heap = h7 := e7
    exact ⟨N7, rfl, by rw [eF]; exact ⟨O7, Kp7, ar, ka, rfl, fa8, fa10, fa11, Fw7, fa12, fa9, Oa⟩⟩
theorem rmAd1_0 (l : Launch) (Z : State) (a0 : Array Value) (hw : OwHw Z a0) (ws : List Jvm.Cond) (n0 : Nat) (h0 : Heap) (O : Old Z n0 h0) (qqR qqN qqK qqU qqS qqE : Addr) (qqI : Int32) (qqM : Addr) (W : OwW Z qqR qqN qqK qqU qqS qqE qqI qqM) (li ar : Addr) (ka : ClassId) (xe : Addr) (El : Exa Z h0 li zs22) (Lf0 : Fld Z h0 li zs21 "modCount" "I" (.int 0)) (Lf1 : Fld Z h0 li zs22 "elementData" zs6 (.ref ar)) (Lf2 : Fld Z h0 li zs22 "size" "I" (.int 0)) (Va : Arv Z h0 ar ka (.object zs16) (1 : Int32) [.null] .null) (Ea : Exa Z h0 ar zs6) (Oa : Ovr Z ka zs16) (Ex : Exa Z h0 xe zs15) (gl : n0 ≤ li) (gr : n0 ≤ ar) :
    OwCon l yy35 j14 2 (some .boolean) ws (rM 1 0 0 15) #[(.ref li), (.ref xe)] Z h0 (OwP (fun v h => v = some (.int 1) ∧ Old Z n0 h ∧ Keep h0 h [li, ar] ∧ ∃ (b' : Addr) (k' : ClassId), ar = b' ∧ Exa Z h li zs22 ∧ Fld Z h li zs21 "modCount" "I" (.int 1) ∧ Fld Z h li zs22 "elementData" zs6 (.ref b') ∧ Fld Z h li zs22 "size" "I" (.int 1) ∧ Arv Z h b' k' (.object zs16) (1 : Int32) [(.ref xe)] .null ∧ Exa Z h b' zs6 ∧ Ovr Z k' zs16) n0) := by
  refine MetFree.of_bodySF (plainFor_of_name owpn18) hisR ?_
  intro p e s m args below meth c s₁ Bd hml0 hP hK
  have hi := @own_hi Z a0 hw
  obtain ⟨rfl, hZ, hh⟩ := hP
  have hx := Bd.exec
  have hby := Bd.bytes
  have hml : c.maxLocals = 2 := hml0
  have hown := findClass_of_methodNamed Bd.named
  have X0 : Stand p l e (rM 1 0 0 15) s m #[(.ref li), (.ref xe)] below meth c s₁ [] 0 0 := Stand.of_body Bd
  have e0 : s₁.heap = h0 := by rw [← hh, Bd.state]; rfl
  have N0 := Fr.nil n0
  have ef : entryFrame m #[(.ref li), (.ref xe)] 2 = mkF m 0 #[.val (.ref li), .val (.ref xe)] [] := by first | (simp [entryFrame, mkF, argsToLocals, Value.category]; done) | rfl
  obtain ⟨T1, X1, e1, st1⟩ := getF X0 hx hZ hown (host := "") (Or.inl (hi 159 rfl)) (Via.of (hi 160 rfl)) e0 Lf0 (g := (mkF m 2 #[vR li, vR xe] [(.ref li), (.ref li)])) rfl rfl (hb hby d18_2)
  obtain ⟨T2, h2, X2, e2, W2, st2⟩ := putF X1 hx hZ hown (host := "") (Or.inl (hi 159 rfl)) (Via.of (hi 160 rfl)) e1 Lf0 El (Or.inl (hi 146 rfl)) (hi 126 rfl) (ty := .int) (by decide) rfl rfl (g := (mkF m 7 #[vR li, vR xe] [(.int 1), (.ref li)])) rfl rfl (hb hby d18_7)
  have Fw2 := Lf0.same W2
  have N2 := Fr.snoc X2 N0 gl
  have O2 := O.wr W2 gl
  have Kp2 : Keep h0 h2 [li, ar] := (Keep.refl h0 [li, ar]).wr W2 (Or.inl (List.mem_of_getElem? (i := 0) rfl))
  have fa3 := (Lf1.other W2 (Or.inr (slot_ne (Or.inl (hi 149 rfl)) (Or.inl (hi 146 rfl)) (by decide) (t := (.array (.object zs16))) (t' := .int) (by decide) (by decide))))
  obtain ⟨T4, X4, e4, st4⟩ := getF X2 hx hZ hown (host := "") (Or.inl (hi 148 rfl)) Via.refl e2 fa3 (g := (mkF m 13 #[vR li, vR xe] [(.ref li), (.ref xe), (.ref li)])) rfl rfl (hb hby d18_13)
  have fa5 := (Lf2.other W2 (Or.inr (slot_ne (Or.inl (hi 162 rfl)) (Or.inl (hi 146 rfl)) (by decide) (t := .int) (t' := .int) (by decide) (by decide))))
  obtain ⟨T6, X6, e6, st6⟩ := getF X4 hx hZ hown (host := "") (Or.inl (hi 161 rfl)) Via.refl e4 fa5 (g := (mkF m 17 #[vR li, vR xe] [(.ref li), (.ref ar), (.ref xe), (.ref li)])) rfl rfl (hb hby d18_17)
  have fa7 := (Ea.wr W2)
  have fa8 := (El.wr W2)
  have fa9 := (Va.other W2 (Exa.ne fa7 fa8 (by decide)))
  have fa10 := (Ex.wr W2)
  obtain ⟨cq11, q11, q11'⟩ := fa8.cell
  obtain ⟨_, _, ⟨T11, L11, k11, n11⟩, -, X11, ⟨Lc11, hQ11, l11, y11, z11⟩, st11⟩ := X6.privateBack hx (y := yy36) hown (mvT hZ (hi 163 rfl)) (mvT hZ (hi 164 rfl)) (mvT hZ (hi 166 rfl)) (Cond.privateMethod_at (mvP hZ (hi 165 rfl) (args := #[]))) (mvT hZ (hi 167 rfl)) (by decide) (backOf (W := 0) (rmAd3_0 l Z a0 hw [] n0 h2 O2 qqR qqN qqK qqU qqS qqE qqI qqM W li ar ka xe fa8 Fw2 fa3 fa5 fa9 fa7 Oa fa10 gl gr) hZ (hi 167 rfl) (hi 127 rfl) (by decide) (by decide)) (g := (mkF m 20 #[vR li, vR xe] [(.int 0), (.ref ar), (.ref xe), (.ref li)])) rfl (by rw [hml]; rfl) (Steps.refl _) (a := li) (by rw [e6]; exact q11) q11' (argsL := [(.ref xe), (.ref ar), (.int 0)]) (rest := []) (lenOf owpd18 rfl) rfl (Nat.le_of_eq rfl) (hb hby d18_20) (fun _ _ => ⟨rfl, e6, (by decide : 0 + 0 ≤ _), (by decide : 0 + 0 ≤ _)⟩)
  dsimp only [Pt.U, Pt.locs, Pt.cells, Pt.slots] at X11 l11 y11 z11 st11 hQ11
  subst l11 y11 z11
  obtain ⟨Nq11, hP11⟩ := hQ11
  have N11 := Fr.app N2 Nq11
  have ee11 : T11.heap = T11.heap := rfl
  obtain ⟨rfl, Oc11, Kc11, bb11, kk11, rfl, Ec11, La11, Lb11, Lc11, Va11, Ea11, Ov11⟩ := hP11
  have Kp11 : Keep h0 T11.heap [li, ar] := Kp2.trans Kc11 (allS (P := fun x => x ∈ [li, ar] ∨ h0.size ≤ x) (Or.inl (List.mem_of_getElem? (i := 0) rfl)) (allS (P := fun x => x ∈ [li, ar] ∨ h0.size ≤ x) (Or.inl (List.mem_of_getElem? (i := 1) rfl)) (all0 (P := fun x => x ∈ [li, ar] ∨ h0.size ≤ x))))
  obtain ⟨fs, hr, hrun, hended, hW, hsame⟩ := X11.leave (v := some (.int 1)) (fun h => by rw [Bd.returns] at h; cases h)
  refine ⟨_, _, castTop ef ?_, hrun, hended, _, _, rfl, ?_, ⟨_, rfl⟩, hW, hsame.mono (by decide) (by decide)⟩
  · show OwG p e below s₁ m 0 #[vR li, vR xe] [] _
    refine XS.aloadN X0.here hx rfl (hb hby d18_0) rfl rfl ?_
    show OwG p e below s₁ m 1 #[vR li, vR xe] [(.ref li)] _
    refine XS.dup X0.here hx rfl (hb hby d18_1) rfl rfl ?_
    show OwG p e below s₁ m 2 #[vR li, vR xe] [(.ref li), (.ref li)] _
    refine st1 _ ?_
    show OwG p e below T1 m 5 #[vR li, vR xe] [(.int 0), (.ref li)] _
    refine XS.iconst X1.here hx rfl (hb hby d18_5) ?_
    refine XS.iadd X1.here hx rfl (hb hby d18_6) rfl ?_
    show OwG p e below T1 m 7 #[vR li, vR xe] [(.int 1), (.ref li)] _
    refine st2 _ ?_
    show OwG p e below T2 m 10 #[vR li, vR xe] [] _
    refine XS.aloadN X2.here hx rfl (hb hby d18_10) rfl rfl ?_
    refine XS.aloadN X2.here hx rfl (hb hby d18_11) rfl rfl ?_
    refine XS.aloadN X2.here hx rfl (hb hby d18_12) rfl rfl ?_
    show OwG p e below T2 m 13 #[vR li, vR xe] [(.ref li), (.ref xe), (.ref li)] _
    refine st4 _ ?_
    show OwG p e below T4 m 16 #[vR li, vR xe] [(.ref ar), (.ref xe), (.ref li)] _
    refine XS.aloadN X4.here hx rfl (hb hby d18_16) rfl rfl ?_
    show OwG p e below T4 m 17 #[vR li, vR xe] [(.ref li), (.ref ar), (.ref xe), (.ref li)] _
    refine st6 _ ?_
    show OwG p e below T6 m 20 #[vR li, vR xe] [(.int 0), (.ref ar), (.ref xe), (.ref li)] _
    refine st11.trans ?_
    show OwG p e below T11 m 23 #[vR li, vR xe] [] _
    refine XS.iconst X11.here hx rfl (hb hby d18_23) ?_
    show OwG p e below T11 m 24 #[vR li, vR xe] [(.int 1)] _
    exact retN X11 hx (t := .boolean) Bd.returns (by simp) (hb hby d18_24) hr
  · have eF : (T11.setFrames fs).heap = T11.heap := ee11
    exact ⟨N11, rfl, by rw [eF]; exact ⟨Oc11, Kp11, ar, kk11, rfl, Ec11, La11, Lb11, Lc11, Va11, Ea11, Ov11⟩⟩
theorem rmMin_1_2 (l : Launch) (Z : State) (a0 : Array Value) (hw : OwHw Z a0) (ws : List Jvm.Cond) (n0 : Nat) (h0 : Heap) (O : Old Z n0 h0) (qqR qqN qqK qqU qqS qqE : Addr) (qqI : Int32) (qqM : Addr) (W : OwW Z qqR qqN qqK qqU qqS qqE qqI qqM)  :
    OwCon l yy20 j18 2 (some .int) ws (rM 0 0 0 0) #[(.int 1), (.int 2)] Z h0 (OwQ (some (.int 1)) h0 n0) := by
  refine MetFree.of_bodySF (Jvm.Free.JP.mathPlain rfl (by decide +kernel)) hisR ?_
  intro p e s m args below meth c s₁ Bd hml0 hP hK
  have hi := @own_hi Z a0 hw
  obtain ⟨rfl, hZ, hh⟩ := hP
  have hx := Bd.exec
  have hby := Bd.bytes
  have hml : c.maxLocals = 2 := hml0
  have hown := findClass_of_methodNamed Bd.named
  have X0 : Stand p l e (rM 0 0 0 0) s m #[(.int 1), (.int 2)] below meth c s₁ [] 0 0 := Stand.of_body Bd
  have e0 : s₁.heap = h0 := by rw [← hh, Bd.state]; rfl
  have N0 := Fr.nil n0
  have ef : entryFrame m #[(.int 1), (.int 2)] 2 = mkF m 0 #[.val (.int 1), .val (.int 2)] [] := by first | (simp [entryFrame, mkF, argsToLocals, Value.category]; done) | rfl
  obtain ⟨fs, hr, hrun, hended, hW, hsame⟩ := X0.leave (v := some (.int 1)) (fun h => by rw [Bd.returns] at h; cases h)
  refine ⟨_, _, castTop ef ?_, hrun, hended, _, _, rfl, ?_, ⟨_, rfl⟩, hW, hsame.mono (by decide) (by decide)⟩
  · show OwG p e below s₁ m 0 #[vI 1, vI 2] [] _
    refine XS.iloadN X0.here hx rfl (hb hby d34_0) rfl ?_
    show OwG p e below s₁ m 1 #[vI 1, vI 2] [(.int 1)] _
    refine XS.iloadN X0.here hx rfl (hb hby d34_1) rfl ?_
    refine XS.icmpNo X0.here hx rfl (hb hby d34_2) rfl (flt (by decide : ¬ ((2 : Int32) < (1 : Int32)))).2.2.1 ?_
    refine XS.iloadN X0.here hx rfl (hb hby d34_5) rfl ?_
    refine XS.goto X0.here hx rfl (pc0 := 6) (pc' := 10) rfl (hb hby d34_6) (by decide) (by decide) ?_
    show OwG p e below s₁ m 10 #[vI 1, vI 2] [(.int 1)] _
    exact retI X0 hx Bd.returns (hb hby d34_10) hr
  · have eF : (s₁.setFrames fs).heap = h0 := e0
    exact ⟨rfl, N0, eF⟩
theorem rmCo3 (l : Launch) (Z : State) (a0 : Array Value) (hw : OwHw Z a0) (ws : List Jvm.Cond) (n0 : Nat) (h0 : Heap) (O : Old Z n0 h0) (qqR qqN qqK qqU qqS qqE : Addr) (qqI : Int32) (qqM : Addr) (W : OwW Z qqR qqN qqK qqU qqS qqE qqI qqM) (ar : Addr) (ka : ClassId) (xo : Addr) (Va : Arv Z h0 ar ka (.object zs16) (1 : Int32) [(.ref xo)] .null) (Ea : Exa Z h0 ar zs6) (Oa : Ovr Z ka zs16) (Eo : Exa Z h0 xo zs15) :
    OwCon l yy42 j0 4 (some (.array (.object zs16))) ws (rM 1 1 2 18) #[(.ref ar), (.int 2), (.ref qqM)] Z h0 (OwP (fun v h => ∃ (b' : Addr) (k' : ClassId), v = some (.ref b') ∧ h0.size ≤ b' ∧ Old Z n0 h ∧ Keep h0 h [] ∧ Arv Z h b' k' (.object zs16) (2 : Int32) [(.ref xo), .null] .null ∧ Exa Z h b' zs6 ∧ Ovr Z k' zs16) n0) := by
  refine MetFree.of_bodySF (plainFor_of_name owpn48) hisR ?_
  intro p e s m args below meth c s₁ Bd hml0 hP hK
  have hi := @own_hi Z a0 hw
  obtain ⟨rfl, hZ, hh⟩ := hP
  have hx := Bd.exec
  have hby := Bd.bytes
  have hml : c.maxLocals = 4 := hml0
  have hown := findClass_of_methodNamed Bd.named
  have X0 : Stand p l e (rM 1 1 2 18) s m #[(.ref ar), (.int 2), (.ref qqM)] below meth c s₁ [] 0 0 := Stand.of_body Bd
  have e0 : s₁.heap = h0 := by rw [← hh, Bd.state]; rfl
  have N0 := Fr.nil n0
  have WW := W
  obtain ⟨ES, nzI, SR, SN, FR, FN, SK, FK, SU, SS, SC, nRN, nKN, Mo, -⟩ := WW
  have ef : entryFrame m #[(.ref ar), (.int 2), (.ref qqM)] 4 = mkF m 0 #[.val (.ref ar), .val (.int 2), .val (.ref qqM), .unset] [] := by first | (simp [entryFrame, mkF, argsToLocals, Value.category]; done) | rfl
  obtain ⟨T1, X1, e1, st1⟩ := own_ldcM X0 hx hZ hown (hi 327 rfl) e0 Mo (g := (mkF m 1 #[vR ar, vI 2, vR qqM, .unset] [(.ref qqM)])) rfl (hb hby d48_1)
  obtain ⟨T2, h2, k2, X2, e2, E2, A2, Ea2, Ov2, st2⟩ := newRE X1 hx hZ hown (hi 328 rfl) (hi 28 rfl) e1 (g := (mkF m 7 #[vR ar, vI 2, vR qqM, .unset] [(.int 2)])) rfl (hb hby d48_7) rfl (by decide) (cap := 2) (by decide) (by decide) (by decide) (by decide) (ad := zs6) (by decide)
  obtain ⟨b2, g2⟩ : ∃ z, z = h0.size := ⟨_, rfl⟩
  rw [← g2] at A2 Ea2 st2
  have gx2 : n0 ≤ b2 := Nat.le_trans (Nat.le_trans (Nat.le_of_eq O.1.symm) O.2.1) (Nat.le_of_eq g2.symm)
  have ne_ar_2 : ar ≠ b2 := Nat.ne_of_lt (Nat.lt_of_lt_of_le Ea.lt (Nat.le_of_eq g2.symm))
  have ne_xo_2 : xo ≠ b2 := Nat.ne_of_lt (Nat.lt_of_lt_of_le Eo.lt (Nat.le_of_eq g2.symm))
  have O2 := O.ext E2
  have Vb2 : Arv Z h2 b2 k2 (.object zs16) (2 : Int32) [.null, .null] .null := Arv.pad (Arv.new A2 (by decide)) (pad_rep [] .null 2)
  have sz2 : h0.size ≤ b2 := Nat.le_trans (Keep.refl h0 []).1 (Nat.le_of_eq g2.symm)
  have Kp2 : Keep h0 h2 [] := (Keep.refl h0 []).ext E2
  have fa4 := (Va.ext E2)
  obtain ⟨cl3, Ar3, q3, Sz3, Nn3, Hs3, -⟩ := id fa4
  obtain ⟨_, _, ⟨T5, L5, k5, n5⟩, -, X5, ⟨Lc5, hQ5, l5, y5, z5⟩, st5⟩ := Jvm.LawKit.callS X2 hx (y := yy20) hown (mvT hZ (hi 257 rfl)) (mvT hZ (hi 258 rfl)) (mvT hZ (hi 249 rfl)) (mvT hZ (hi 259 rfl)) (by decide) (backOf (W := 4) (rmMin_1_2 l Z a0 hw [] n0 h2 O2 qqR qqN qqK qqU qqS qqE qqI qqM W ) hZ (hi 259 rfl) (hi 249 rfl) (by decide) (by decide)) (g := (mkF m 32 #[vR ar, vI 2, vR qqM, vR b2] [(.int 2), (.int 1), (.int 0), (.ref b2), (.int 0), (.ref ar)])) rfl (by rw [hml]; rfl) (argsL := [(.int 1), (.int 2)]) (rest := [(.int 0), (.ref b2), (.int 0), (.ref ar)]) (lenOf owpd8 rfl) rfl (Nat.le_of_eq rfl) (hb hby d48_32) (fun _ _ => ⟨rfl, e2, (by decide : 1 + 0 ≤ _), (by decide : 2 + 0 ≤ _)⟩)
  dsimp only [Pt.U, Pt.locs, Pt.cells, Pt.slots] at X5 l5 y5 z5 st5 hQ5
  subst l5 y5 z5
  obtain ⟨rfl, Nq5, e5⟩ := hQ5
  have N5 := Fr.app N0 Nq5
  obtain ⟨cl6, Ar6, q6, Sz6, Nn6, Hs6, Gs6⟩ := id Vb2
  have fa7 := (Eo.ext E2)
  obtain ⟨T8, h8, L8, X8, e8, N8, Kc8, V08, st8⟩ := cpA X5 hx hZ hown (hi 260 rfl) (hi 237 rfl) (hi 235 rfl) (hi 236 rfl) e5 fa4 Vb2 (us := [(.ref xo)]) (Or.inr ⟨rfl, rfl, ⟨Sto.ofV Ar6 q6 Ov2 (Ins.of_exa fa7 (hi 168 rfl)), trivial⟩⟩) (by decide) (by decide) (by decide) (by decide) (by decide) rfl (by decide) N5 gx2 (g := (mkF m 35 #[vR ar, vI 2, vR qqM, vR b2] [(.int 1), (.int 0), (.ref b2), (.int 0), (.ref ar)])) rfl (by rw [hml]; rfl) rfl (hb hby d48_35) (by decide) (W := 0) (Nat.le_of_eq rfl) (by decide)
  have V8 : Arv Z h8 b2 k2 (.object zs16) (2 : Int32) [(.ref xo), .null] .null := V08
  have O8 := O2.keep Kc8 (allS (P := fun x => n0 ≤ x) gx2 all0)
  have Kp8 : Keep h0 h8 [] := Kp2.trans Kc8 (allS (P := fun x => x ∈ ([] : List Addr) ∨ h0.size ≤ x) (Or.inr sz2) (all0 (P := fun x => x ∈ ([] : List Addr) ∨ h0.size ≤ x)))
  have fa9 := (Ea2.keep Kc8)
  obtain ⟨fs, hr, hrun, hended, hW, hsame⟩ := X8.leave (v := some (.ref b2)) (fun h => by rw [Bd.returns] at h; cases h)
  refine ⟨_, _, castTop ef ?_, hrun, hended, _, _, rfl, ?_, ⟨_, rfl⟩, hW, hsame.mono (by decide) (by decide)⟩
  · show OwG p e below s₁ m 0 #[vR ar, vI 2, vR qqM, .unset] [] _
    refine XS.aloadN X0.here hx rfl (hb hby d48_0) rfl rfl ?_
    show OwG p e below s₁ m 1 #[vR ar, vI 2, vR qqM, .unset] [(.ref qqM)] _
    refine st1 _ ?_
    show OwG p e below T1 m 3 #[vR ar, vI 2, vR qqM, .unset] [(.ref qqM), (.ref qqM)] _
    refine Jvm.RoadKit.acmp (g := (mkF m 3 #[vR ar, vI 2, vR qqM, .unset] [(.ref qqM), (.ref qqM)])) X1 hx rfl rfl rfl (pc0 := 3) (pc' := 6) (same := true) rfl (hb hby d48_3) rfl (decide_eq_true rfl) (by decide) (by decide) ?_
    show OwG p e below T1 m 6 #[vR ar, vI 2, vR qqM, .unset] [] _
    refine XS.iloadN X1.here hx rfl (hb hby d48_6) rfl ?_
    show OwG p e below T1 m 7 #[vR ar, vI 2, vR qqM, .unset] [(.int 2)] _
    refine st2 _ ?_
    show OwG p e below T2 m 10 #[vR ar, vI 2, vR qqM, .unset] [(.ref b2)] _
    refine XS.goto X2.here hx rfl (pc0 := 10) (pc' := 24) rfl (hb hby d48_10) (by decide) (by decide) ?_
    refine XS.astoreN X2.here hx rfl (hb hby d48_24) rfl rfl (l' := #[vR ar, vI 2, vR qqM, vR b2]) rfl ?_
    refine XS.aloadN X2.here hx rfl (hb hby d48_25) rfl rfl ?_
    refine XS.iconst X2.here hx rfl (hb hby d48_26) ?_
    refine XS.aloadN X2.here hx rfl (hb hby d48_27) rfl rfl ?_
    refine XS.iconst X2.here hx rfl (hb hby d48_28) ?_
    show OwG p e below T2 m 29 #[vR ar, vI 2, vR qqM, vR b2] [(.int 0), (.ref b2), (.int 0), (.ref ar)] _
    refine XS.aloadN X2.here hx rfl (hb hby d48_29) rfl rfl ?_
    show OwG p e below T2 m 30 #[vR ar, vI 2, vR qqM, vR b2] [(.ref ar), (.int 0), (.ref b2), (.int 0), (.ref ar)] _
    refine X2.arraylength hx (by rw [e2]; exact Ar3.1) (State.isArrayOf_alike hZ.alike Ar3.2.1) (g := (mkF m 30 #[vR ar, vI 2, vR qqM, vR b2] [(.ref ar), (.int 0), (.ref b2), (.int 0), (.ref ar)])) rfl rfl (hb hby d48_30) _ ?_
    rw [len_of Sz3 Nn3]
    show OwG p e below T2 m 31 #[vR ar, vI 2, vR qqM, vR b2] [(.int 1), (.int 0), (.ref b2), (.int 0), (.ref ar)] _
    refine XS.iloadN X2.here hx rfl (hb hby d48_31) rfl ?_
    show OwG p e below T2 m 32 #[vR ar, vI 2, vR qqM, vR b2] [(.int 2), (.int 1), (.int 0), (.ref b2), (.int 0), (.ref ar)] _
    refine st5 _ ?_
    show OwG p e below T5 m 35 #[vR ar, vI 2, vR qqM, vR b2] [(.int 1), (.int 0), (.ref b2), (.int 0), (.ref ar)] _
    refine st8 _ ?_
    show OwG p e below T8 m 38 #[vR ar, vI 2, vR qqM, vR b2] [] _
    refine XS.aloadN X8.here hx rfl (hb hby d48_38) rfl rfl ?_
    show OwG p e below T8 m 39 #[vR ar, vI 2, vR qqM, vR b2] [(.ref b2)] _
    exact retOut X8 hx Bd.returns rfl (Or.inr (Or.inr (Or.inr (Or.inr ⟨rfl, rfl, rfl⟩)))) (hb hby d48_39) hr
  · have eF : (T8.setFrames fs).heap = h8 := e8
    exact ⟨N8, b2, k2, rfl, sz2, by rw [eF]; exact ⟨O8, Kp8, V8, fa9, Ov2⟩⟩
theorem rmCo2 (l : Launch) (Z : State) (a0 : Array Value) (hw : OwHw Z a0) (ws : List Jvm.Cond) (n0 : Nat) (h0 : Heap) (O : Old Z n0 h0) (qqR qqN qqK qqU qqS qqE : Addr) (qqI : Int32) (qqM : Addr) (W : OwW Z qqR qqN qqK qqU qqS qqE qqI qqM) (ar : Addr) (ka : ClassId) (xo : Addr) (Va : Arv Z h0 ar ka (.object zs16) (1 : Int32) [(.ref xo)] .null) (Ea : Exa Z h0 ar zs6) (Oa : Ovr Z ka zs16) (Eo : Exa Z h0 xo zs15) :
    OwCon l yy41 j7 2 (some (.array (.object zs16))) ws (rM 2 1 2 33) #[(.ref ar), (.int 2)] Z h0 (OwP (fun v h => ∃ (b' : Addr) (k' : ClassId), v = some (.ref b') ∧ h0.size ≤ b' ∧ Old Z n0 h ∧ Keep h0 h [] ∧ Arv Z h b' k' (.object zs16) (2 : Int32) [(.ref xo), .null] .null ∧ Exa Z h b' zs6 ∧ Ovr Z k' zs16) n0) := by
  refine MetFree.of_bodySF (plainFor_of_name owpn47) hisR ?_
  intro p e s m args below meth c s₁ Bd hml0 hP hK
  have hi := @own_hi Z a0 hw
  obtain ⟨rfl, hZ, hh⟩ := hP
  have hx := Bd.exec
  have hby := Bd.bytes
  have hml : c.maxLocals = 2 := hml0
  have hown := findClass_of_methodNamed Bd.named
  have X0 : Stand p l e (rM 2 1 2 33) s m #[(.ref ar), (.int 2)] below meth c s₁ [] 0 0 := Stand.of_body Bd
  have e0 : s₁.heap = h0 := by rw [← hh, Bd.state]; rfl
  have N0 := Fr.nil n0
  have WW := W
  obtain ⟨ES, nzI, SR, SN, FR, FN, SK, FK, SU, SS, SC, nRN, nKN, Mo, -⟩ := WW
  have ef : entryFrame m #[(.ref ar), (.int 2)] 2 = mkF m 0 #[.val (.ref ar), .val (.int 2)] [] := by first | (simp [entryFrame, mkF, argsToLocals, Value.category]; done) | rfl
  obtain ⟨T1, X1, e1, st1⟩ := own_gcls X0 hx hZ hown (hi 318 rfl) (hi 319 rfl) (hi 321 rfl) (hi 320 rfl) (hi 322 rfl) e0 Ea Mo (g := (mkF m 3 #[vR ar, vI 2] [(.ref ar), (.int 2), (.ref ar)])) rfl (by rw [hml]; rfl) rfl (hb hby d47_3) (by decide) (W := 2) (Nat.le_of_eq rfl) (by decide)
  obtain ⟨_, _, ⟨T2, L2, k2, n2⟩, -, X2, ⟨Lc2, hQ2, l2, y2, z2⟩, st2⟩ := Jvm.LawKit.callS X1 hx (y := yy42) hown (mvT hZ (hi 324 rfl)) (mvT hZ (hi 325 rfl)) (mvT hZ (hi 255 rfl)) (mvT hZ (hi 326 rfl)) (by decide) (backOf (W := 0) (rmCo3 l Z a0 hw [] n0 h0 O qqR qqN qqK qqU qqS qqE qqI qqM W ar ka xo Va Ea Oa Eo) hZ (hi 326 rfl) (hi 255 rfl) (by decide) (by decide)) (g := (mkF m 6 #[vR ar, vI 2] [(.ref qqM), (.int 2), (.ref ar)])) rfl (by rw [hml]; rfl) (argsL := [(.ref ar), (.int 2), (.ref qqM)]) (rest := []) (lenOf owpd19 rfl) rfl (Nat.le_of_eq rfl) (hb hby d47_6) (fun _ _ => ⟨rfl, e1, (by decide : 0 + 1 ≤ _), (by decide : 0 + 2 ≤ _)⟩)
  dsimp only [Pt.U, Pt.locs, Pt.cells, Pt.slots] at X2 l2 y2 z2 st2 hQ2
  subst l2 y2 z2
  obtain ⟨Nq2, hP2⟩ := hQ2
  have N2 := Fr.app N0 Nq2
  have ee2 : T2.heap = T2.heap := rfl
  obtain ⟨bb2, kk2, rfl, hb2, Oc2, Kc2, Va2, Ea2, Ov2⟩ := hP2
  have ne_ar_2 : ar ≠ bb2 := Nat.ne_of_lt (Nat.lt_of_lt_of_le Ea.lt hb2)
  have ne_xo_2 : xo ≠ bb2 := Nat.ne_of_lt (Nat.lt_of_lt_of_le Eo.lt hb2)
  have gx2 : n0 ≤ bb2 := Nat.le_trans (Nat.le_trans (Nat.le_of_eq O.1.symm) O.2.1) hb2
  have sz2 : h0.size ≤ bb2 := Nat.le_trans (Keep.refl h0 []).1 hb2
  have Kp2 : Keep h0 T2.heap [] := (Keep.refl h0 []).trans Kc2 (all0 (P := fun x => x ∈ ([] : List Addr) ∨ h0.size ≤ x))
  obtain ⟨fs, hr, hrun, hended, hW, hsame⟩ := X2.leave (v := some (.ref bb2)) (fun h => by rw [Bd.returns] at h; cases h)
  refine ⟨_, _, castTop ef ?_, hrun, hended, _, _, rfl, ?_, ⟨_, rfl⟩, hW, hsame.mono (by decide) (by decide)⟩
  · show OwG p e below s₁ m 0 #[vR ar, vI 2] [] _
    refine XS.aloadN X0.here hx rfl (hb hby d47_0) rfl rfl ?_
    show OwG p e below s₁ m 1 #[vR ar, vI 2] [(.ref ar)] _
    refine XS.iloadN X0.here hx rfl (hb hby d47_1) rfl ?_
    refine XS.aloadN X0.here hx rfl (hb hby d47_2) rfl rfl ?_
    show OwG p e below s₁ m 3 #[vR ar, vI 2] [(.ref ar), (.int 2), (.ref ar)] _
    refine st1 _ ?_
    show OwG p e below T1 m 6 #[vR ar, vI 2] [(.ref qqM), (.int 2), (.ref ar)] _
    refine st2 _ ?_
    show OwG p e below T2 m 9 #[vR ar, vI 2] [(.ref bb2)] _
    exact retOut X2 hx Bd.returns rfl (Or.inr (Or.inr (Or.inr (Or.inr ⟨rfl, rfl, rfl⟩)))) (hb hby d47_9) hr
  · have eF : (T2.setFrames fs).heap = T2.heap := ee2
    exact ⟨N2, bb2, kk2, rfl, sz2, by rw [eF]; exact ⟨Oc2, Kp2, Va2, Ea2, Ov2⟩⟩
theorem rmMax_1_0 (l : Launch) (Z : State) (a0 : Array Value) (hw : OwHw Z a0) (ws : List Jvm.Cond) (n0 : Nat) (h0 : Heap) (O : Old Z n0 h0) (qqR qqN qqK qqU qqS qqE : Addr) (qqI : Int32) (qqM : Addr) (W : OwW Z qqR qqN qqK qqU qqS qqE qqI qqM)  :
    OwCon l yy19 j12 2 (some .int) ws (rM 0 0 0 0) #[(.int 1), (.int 0)] Z h0 (OwQ (some (.int 1)) h0 n0) := by
  refine MetFree.of_bodySF (Jvm.Free.JP.mathPlain rfl (by decide +kernel)) hisR ?_
  intro p e s m args below meth c s₁ Bd hml0 hP hK
  have hi := @own_hi Z a0 hw
  obtain ⟨rfl, hZ, hh⟩ := hP
  have hx := Bd.exec
  have hby := Bd.bytes
  have hml : c.maxLocals = 2 := hml0
  have hown := findClass_of_methodNamed Bd.named
  have X0 : Stand p l e (rM 0 0 0 0) s m #[(.int 1), (.int 0)] below meth c s₁ [] 0 0 := Stand.of_body Bd
  have e0 : s₁.heap = h0 := by rw [← hh, Bd.state]; rfl
  have N0 := Fr.nil n0
  have ef : entryFrame m #[(.int 1), (.int 0)] 2 = mkF m 0 #[.val (.int 1), .val (.int 0)] [] := by first | (simp [entryFrame, mkF, argsToLocals, Value.category]; done) | rfl
  obtain ⟨fs, hr, hrun, hended, hW, hsame⟩ := X0.leave (v := some (.int 1)) (fun h => by rw [Bd.returns] at h; cases h)
  refine ⟨_, _, castTop ef ?_, hrun, hended, _, _, rfl, ?_, ⟨_, rfl⟩, hW, hsame.mono (by decide) (by decide)⟩
  · show OwG p e below s₁ m 0 #[vI 1, vI 0] [] _
    refine XS.iloadN X0.here hx rfl (hb hby d32_0) rfl ?_
    show OwG p e below s₁ m 1 #[vI 1, vI 0] [(.int 1)] _
    refine XS.iloadN X0.here hx rfl (hb hby d32_1) rfl ?_
    refine XS.icmpNo X0.here hx rfl (hb hby d32_2) rfl (flt (by decide : ¬ ((1 : Int32) < (0 : Int32)))).1 ?_
    refine XS.iloadN X0.here hx rfl (hb hby d32_5) rfl ?_
    refine XS.goto X0.here hx rfl (pc0 := 6) (pc' := 10) rfl (hb hby d32_6) (by decide) (by decide) ?_
    show OwG p e below s₁ m 10 #[vI 1, vI 0] [(.int 1)] _
    exact retI X0 hx Bd.returns (hb hby d32_10) hr
  · have eF : (s₁.setFrames fs).heap = h0 := e0
    exact ⟨rfl, N0, eF⟩
theorem rmNl_1_1_0 (l : Launch) (Z : State) (a0 : Array Value) (hw : OwHw Z a0) (ws : List Jvm.Cond) (n0 : Nat) (h0 : Heap) (O : Old Z n0 h0) (qqR qqN qqK qqU qqS qqE : Addr) (qqI : Int32) (qqM : Addr) (W : OwW Z qqR qqN qqK qqU qqS qqE qqI qqM)  :
    OwCon l yy47 j16 4 (some .int) ws (rM 1 0 0 14) #[(.int 1), (.int 1), (.int 0)] Z h0 (OwQ (some (.int 2)) h0 n0) := by
  refine MetFree.of_bodySF (plainFor_of_name owpn31) hisR ?_
  intro p e s m args below meth c s₁ Bd hml0 hP hK
  have hi := @own_hi Z a0 hw
  obtain ⟨rfl, hZ, hh⟩ := hP
  have hx := Bd.exec
  have hby := Bd.bytes
  have hml : c.maxLocals = 4 := hml0
  have hown := findClass_of_methodNamed Bd.named
  have X0 : Stand p l e (rM 1 0 0 14) s m #[(.int 1), (.int 1), (.int 0)] below meth c s₁ [] 0 0 := Stand.of_body Bd
  have e0 : s₁.heap = h0 := by rw [← hh, Bd.state]; rfl
  have N0 := Fr.nil n0
  have ef : entryFrame m #[(.int 1), (.int 1), (.int 0)] 4 = mkF m 0 #[.val (.int 1), .val (.int 1), .val (.int 0), .unset] [] := by first | (simp [entryFrame, mkF, argsToLocals, Value.category]; done) | rfl
  obtain ⟨_, _, ⟨T1, L1, k1, n1⟩, -, X1, ⟨Lc1, hQ1, l1, y1, z1⟩, st1⟩ := Jvm.LawKit.callS X0 hx (y := yy19) hown (mvT hZ (hi 247 rfl)) (mvT hZ (hi 248 rfl)) (mvT hZ (hi 249 rfl)) (mvT hZ (hi 250 rfl)) (by decide) (backOf (W := 1) (rmMax_1_0 l Z a0 hw [] n0 h0 O qqR qqN qqK qqU qqS qqE qqI qqM W ) hZ (hi 250 rfl) (hi 249 rfl) (by decide) (by decide)) (g := (mkF m 3 #[vI 1, vI 1, vI 0, .unset] [(.int 0), (.int 1), (.int 1)])) rfl (by rw [hml]; rfl) (argsL := [(.int 1), (.int 0)]) (rest := [(.int 1)]) (lenOf owpd8 rfl) rfl (Nat.le_of_eq rfl) (hb hby d31_3) (fun _ _ => ⟨rfl, e0, (by decide : 0 + 0 ≤ _), (by decide : 0 + 0 ≤ _)⟩)
  dsimp only [Pt.U, Pt.locs, Pt.cells, Pt.slots] at X1 l1 y1 z1 st1 hQ1
  subst l1 y1 z1
  obtain ⟨rfl, Nq1, e1⟩ := hQ1
  have N1 := Fr.app N0 Nq1
  obtain ⟨fs, hr, hrun, hended, hW, hsame⟩ := X1.leave (v := some (.int 2)) (fun h => by rw [Bd.returns] at h; cases h)
  refine ⟨_, _, castTop ef ?_, hrun, hended, _, _, rfl, ?_, ⟨_, rfl⟩, hW, hsame.mono (by decide) (by decide)⟩
  · show OwG p e below s₁ m 0 #[vI 1, vI 1, vI 0, .unset] [] _
    refine XS.iloadN X0.here hx rfl (hb hby d31_0) rfl ?_
    show OwG p e below s₁ m 1 #[vI 1, vI 1, vI 0, .unset] [(.int 1)] _
    refine XS.iloadN X0.here hx rfl (hb hby d31_1) rfl ?_
    refine XS.iloadN X0.here hx rfl (hb hby d31_2) rfl ?_
    show OwG p e below s₁ m 3 #[vI 1, vI 1, vI 0, .unset] [(.int 0), (.int 1), (.int 1)] _
    refine st1 _ ?_
    show OwG p e below T1 m 6 #[vI 1, vI 1, vI 0, .unset] [(.int 1), (.int 1)] _
    refine XS.iadd X1.here hx rfl (hb hby d31_6) rfl ?_
    refine XS.istoreN X1.here hx rfl (hb hby d31_7) rfl (l' := #[vI 1, vI 1, vI 0, vI 2]) rfl ?_
    refine XS.iconst X1.here hx rfl (hb hby d31_8) ?_
    refine XS.iloadN X1.here hx rfl (hb hby d31_9) rfl ?_
    refine XS.icmpNo X1.here hx rfl (hb hby d31_10) rfl (tlt (by decide : (0 : Int32) < (2 : Int32))).2.1 ?_
    refine XS.iloadN X1.here hx rfl (hb hby d31_13) rfl ?_
    show OwG p e below T1 m 14 #[vI 1, vI 1, vI 0, vI 2] [(.int 2)] _
    refine X1.ldcInt hx hown (mvT hZ (hi 251 rfl)) (g := (mkF m 14 #[vI 1, vI 1, vI 0, vI 2] [(.int 2)])) rfl (hb hby d31_14) _ ?_
    show OwG p e below T1 m 16 #[vI 1, vI 1, vI 0, vI 2] [(.int 2147483639), (.int 2)] _
    refine XS.icmpNo X1.here hx rfl (hb hby d31_16) rfl (flt (by decide : ¬ ((2147483639 : Int32) < (2 : Int32)))).2.2.1 ?_
    refine XS.iloadN X1.here hx rfl (hb hby d31_19) rfl ?_
    show OwG p e below T1 m 20 #[vI 1, vI 1, vI 0, vI 2] [(.int 2)] _
    exact retI X1 hx Bd.returns (hb hby d31_20) hr
  · have eF : (T1.setFrames fs).heap = h0 := e1
    exact ⟨rfl, N1, eF⟩
theorem rmGr1 (l : Launch) (Z : State) (a0 : Array Value) (hw : OwHw Z a0) (ws : List Jvm.Cond) (n0 : Nat) (h0 : Heap) (O : Old Z n0 h0) (qqR qqN qqK qqU qqS qqE : Addr) (qqI : Int32) (qqM : Addr) (W : OwW Z qqR qqN qqK qqU qqS qqE qqI qqM) (li ar : Addr) (ka : ClassId) (xo : Addr) (El : Exa Z h0 li zs22) (Lf0 : Fld Z h0 li zs21 "modCount" "I" (.int 2)) (Lf1 : Fld Z h0 li zs22 "elementData" zs6 (.ref ar)) (Lf2 : Fld Z h0 li zs22 "size" "I" (.int 1)) (Va : Arv Z h0 ar ka (.object zs16) (1 : Int32) [(.ref xo)] .null) (Ea : Exa Z h0 ar zs6) (Oa : Ovr Z ka zs16) (Eo : Exa Z h0 xo zs15) (gl : n0 ≤ li) :
    OwCon l yy38 j35 4 (some (.array (.object zs16))) ws (rM 3 1 2 47) #[(.ref li), (.int 2)] Z h0 (OwP (fun v h => Old Z n0 h ∧ Keep h0 h [li] ∧ ∃ (b' : Addr) (k' : ClassId), v = some (.ref b') ∧ h0.size ≤ b' ∧ Exa Z h li zs22 ∧ Fld Z h li zs21 "modCount" "I" (.int 2) ∧ Fld Z h li zs22 "elementData" zs6 (.ref b') ∧ Fld Z h li zs22 "size" "I" (.int 1) ∧ Arv Z h b' k' (.object zs16) (2 : Int32) [(.ref xo), .null] .null ∧ Exa Z h b' zs6 ∧ Ovr Z k' zs16) n0) := by
  refine MetFree.of_bodySF (plainFor_of_name owpn46) hisR ?_
  intro p e s m args below meth c s₁ Bd hml0 hP hK
  have hi := @own_hi Z a0 hw
  obtain ⟨rfl, hZ, hh⟩ := hP
  have hx := Bd.exec
  have hby := Bd.bytes
  have hml : c.maxLocals = 4 := hml0
  have hown := findClass_of_methodNamed Bd.named
  have X0 : Stand p l e (rM 3 1 2 47) s m #[(.ref li), (.int 2)] below meth c s₁ [] 0 0 := Stand.of_body Bd
  have e0 : s₁.heap = h0 := by rw [← hh, Bd.state]; rfl
  have N0 := Fr.nil n0
  have ef : entryFrame m #[(.ref li), (.int 2)] 4 = mkF m 0 #[.val (.ref li), .val (.int 2), .unset, .unset] [] := by first | (simp [entryFrame, mkF, argsToLocals, Value.category]; done) | rfl
  obtain ⟨T1, X1, e1, st1⟩ := getF X0 hx hZ hown (host := "") (Or.inl (hi 148 rfl)) Via.refl e0 Lf1 (g := (mkF m 1 #[vR li, vI 2, .unset, .unset] [(.ref li)])) rfl rfl (hb hby d46_1)
  obtain ⟨cl2, Ar2, q2, Sz2, Nn2, Hs2, -⟩ := id Va
  obtain ⟨_, _, ⟨T3, L3, k3, n3⟩, -, X3, ⟨Lc3, hQ3, l3, y3, z3⟩, st3⟩ := Jvm.LawKit.callS X1 hx (y := yy47) hown (mvT hZ (hi 314 rfl)) (mvT hZ (hi 244 rfl)) (mvT hZ (hi 245 rfl)) (mvT hZ (hi 246 rfl)) (by decide) (backOf (W := 0) (rmNl_1_1_0 l Z a0 hw [] n0 h0 O qqR qqN qqK qqU qqS qqE qqI qqM W ) hZ (hi 246 rfl) (hi 245 rfl) (by decide) (by decide)) (g := (mkF m 27 #[vR li, vI 2, vI 1, .unset] [(.int 0), (.int 1), (.int 1)])) rfl (by rw [hml]; rfl) (argsL := [(.int 1), (.int 1), (.int 0)]) (rest := []) (lenOf owpd9 rfl) rfl (Nat.le_of_eq rfl) (hb hby d46_27) (fun _ _ => ⟨rfl, e1, (by decide : 0 + 0 ≤ _), (by decide : 0 + 0 ≤ _)⟩)
  dsimp only [Pt.U, Pt.locs, Pt.cells, Pt.slots] at X3 l3 y3 z3 st3 hQ3
  subst l3 y3 z3
  obtain ⟨rfl, Nq3, e3⟩ := hQ3
  have N3 := Fr.app N0 Nq3
  obtain ⟨T4, X4, e4, st4⟩ := getF X3 hx hZ hown (host := "") (Or.inl (hi 148 rfl)) Via.refl e3 Lf1 (g := (mkF m 33 #[vR li, vI 2, vI 1, vI 2] [(.ref li), (.ref li)])) rfl rfl (hb hby d46_33)
  obtain ⟨_, _, ⟨T5, L5, k5, n5⟩, -, X5, ⟨Lc5, hQ5, l5, y5, z5⟩, st5⟩ := Jvm.LawKit.callS X4 hx (y := yy41) hown (mvT hZ (hi 315 rfl)) (mvT hZ (hi 316 rfl)) (mvT hZ (hi 255 rfl)) (mvT hZ (hi 317 rfl)) (by decide) (backOf (W := 1) (rmCo2 l Z a0 hw [] n0 h0 O qqR qqN qqK qqU qqS qqE qqI qqM W ar ka xo Va Ea Oa Eo) hZ (hi 317 rfl) (hi 255 rfl) (by decide) (by decide)) (g := (mkF m 37 #[vR li, vI 2, vI 1, vI 2] [(.int 2), (.ref ar), (.ref li)])) rfl (by rw [hml]; rfl) (argsL := [(.ref ar), (.int 2)]) (rest := [(.ref li)]) (lenOf owpd20 rfl) rfl (Nat.le_of_eq rfl) (hb hby d46_37) (fun _ _ => ⟨rfl, e4, (by decide : 0 + 1 ≤ _), (by decide : 0 + 2 ≤ _)⟩)
  dsimp only [Pt.U, Pt.locs, Pt.cells, Pt.slots] at X5 l5 y5 z5 st5 hQ5
  subst l5 y5 z5
  obtain ⟨Nq5, hP5⟩ := hQ5
  have N5 := Fr.app N3 Nq5
  have ee5 : T5.heap = T5.heap := rfl
  obtain ⟨bb5, kk5, rfl, hb5, Oc5, Kc5, Va5, Ea5, Ov5⟩ := hP5
  have ne_li_5 : li ≠ bb5 := Nat.ne_of_lt (Nat.lt_of_lt_of_le El.lt hb5)
  have ne_ar_5 : ar ≠ bb5 := Nat.ne_of_lt (Nat.lt_of_lt_of_le Ea.lt hb5)
  have ne_xo_5 : xo ≠ bb5 := Nat.ne_of_lt (Nat.lt_of_lt_of_le Eo.lt hb5)
  have gx5 : n0 ≤ bb5 := Nat.le_trans (Nat.le_trans (Nat.le_of_eq O.1.symm) O.2.1) hb5
  have sz5 : h0.size ≤ bb5 := Nat.le_trans (Keep.refl h0 [li]).1 hb5
  have Kp5 : Keep h0 T5.heap [li] := (Keep.refl h0 [li]).trans Kc5 (all0 (P := fun x => x ∈ [li] ∨ h0.size ≤ x))
  have fa6 := (Lf1.keep Kc5 nin0)
  have fa7 := (El.keep Kc5)
  obtain ⟨T8, h8, X8, e8, W8, st8⟩ := putF X5 hx hZ hown (host := "") (Or.inl (hi 148 rfl)) Via.refl ee5 fa6 fa7 (Or.inl (hi 149 rfl)) (hi 126 rfl) (ty := (.array (.object zs16))) (by decide) rfl rfl (g := (mkF m 41 #[vR li, vI 2, vI 1, vI 2] [(.ref bb5), (.ref li), (.ref bb5)])) rfl rfl (hb hby d46_41)
  have Fw8 := fa6.same W8
  have N8 := Fr.snoc X8 N5 gl
  have O8 := Oc5.wr W8 gl
  have Kp8 : Keep h0 h8 [li] := Kp5.wr W8 (Or.inl (List.mem_of_getElem? (i := 0) rfl))
  have fa9 := (fa7.wr W8)
  have fa10 := ((Lf0.keep Kc5 nin0).other W8 (Or.inr (slot_ne (Or.inl (hi 146 rfl)) (Or.inl (hi 149 rfl)) (by decide) (t := .int) (t' := (.array (.object zs16))) (by decide) (by decide))))
  have fa11 := ((Lf2.keep Kc5 nin0).other W8 (Or.inr (slot_ne (Or.inl (hi 162 rfl)) (Or.inl (hi 149 rfl)) (by decide) (t := .int) (t' := (.array (.object zs16))) (by decide) (by decide))))
  have fa12 := (Va5.other W8 (Ne.symm ne_li_5))
  have fa13 := (Ea5.wr W8)
  obtain ⟨fs, hr, hrun, hended, hW, hsame⟩ := X8.leave (v := some (.ref bb5)) (fun h => by rw [Bd.returns] at h; cases h)
  refine ⟨_, _, castTop ef ?_, hrun, hended, _, _, rfl, ?_, ⟨_, rfl⟩, hW, hsame.mono (by decide) (by decide)⟩
  · show OwG p e below s₁ m 0 #[vR li, vI 2, .unset, .unset] [] _
    refine XS.aloadN X0.here hx rfl (hb hby d46_0) rfl rfl ?_
    show OwG p e below s₁ m 1 #[vR li, vI 2, .unset, .unset] [(.ref li)] _
    refine st1 _ ?_
    show OwG p e below T1 m 4 #[vR li, vI 2, .unset, .unset] [(.ref ar)] _
    refine X1.arraylength hx (by rw [e1]; exact Ar2.1) (State.isArrayOf_alike hZ.alike Ar2.2.1) (g := (mkF m 4 #[vR li, vI 2, .unset, .unset] [(.ref ar)])) rfl rfl (hb hby d46_4) _ ?_
    rw [len_of Sz2 Nn2]
    show OwG p e below T1 m 5 #[vR li, vI 2, .unset, .unset] [(.int 1)] _
    refine XS.istoreN X1.here hx rfl (hb hby d46_5) rfl (l' := #[vR li, vI 2, vI 1, .unset]) rfl ?_
    refine XS.iloadN X1.here hx rfl (hb hby d46_6) rfl ?_
    refine XS.ifYes X1.here hx rfl (pc0 := 7) (pc' := 20) rfl (hb hby d46_7) rfl ((if0 _ _).trans (tlt (by decide : (0 : Int32) < (1 : Int32))).2.2.1) (by decide) (by decide) ?_
    refine XS.iloadN X1.here hx rfl (hb hby d46_20) rfl ?_
    refine XS.iloadN X1.here hx rfl (hb hby d46_21) rfl ?_
    refine XS.iloadN X1.here hx rfl (hb hby d46_22) rfl ?_
    show OwG p e below T1 m 23 #[vR li, vI 2, vI 1, .unset] [(.int 1), (.int 2), (.int 1)] _
    refine XS.isub X1.here hx rfl (hb hby d46_23) rfl ?_
    refine XS.iloadN X1.here hx rfl (hb hby d46_24) rfl ?_
    refine XS.iconst X1.here hx rfl (hb hby d46_25) ?_
    refine XS.ishr X1.here hx rfl (hb hby d46_26) rfl ?_
    show OwG p e below T1 m 27 #[vR li, vI 2, vI 1, .unset] [(.int 0), (.int 1), (.int 1)] _
    refine st3 _ ?_
    show OwG p e below T3 m 30 #[vR li, vI 2, vI 1, .unset] [(.int 2)] _
    refine XS.istoreN X3.here hx rfl (hb hby d46_30) rfl (l' := #[vR li, vI 2, vI 1, vI 2]) rfl ?_
    refine XS.aloadN X3.here hx rfl (hb hby d46_31) rfl rfl ?_
    refine XS.aloadN X3.here hx rfl (hb hby d46_32) rfl rfl ?_
    show OwG p e below T3 m 33 #[vR li, vI 2, vI 1, vI 2] [(.ref li), (.ref li)] _
    refine st4 _ ?_
    show OwG p e below T4 m 36 #[vR li, vI 2, vI 1, vI 2] [(.ref ar), (.ref li)] _
    refine XS.iloadN X4.here hx rfl (hb hby d46_36) rfl ?_
    show OwG p e below T4 m 37 #[vR li, vI 2, vI 1, vI 2] [(.int 2), (.ref ar), (.ref li)] _
    refine st5 _ ?_
    show OwG p e below T5 m 40 #[vR li, vI 2, vI 1, vI 2] [(.ref bb5), (.ref li)] _
    refine XS.dupX1 X5.here hx rfl (hb hby d46_40) rfl rfl rfl ?_
    show OwG p e below T5 m 41 #[vR li, vI 2, vI 1, vI 2] [(.ref bb5), (.ref li), (.ref bb5)] _
    refine st8 _ ?_
    show OwG p e below T8 m 44 #[vR li, vI 2, vI 1, vI 2] [(.ref bb5)] _
    exact retOut X8 hx Bd.returns rfl (Or.inr (Or.inr (Or.inr (Or.inr ⟨rfl, rfl, rfl⟩)))) (hb hby d46_44) hr
  · have eF : (T8.setFrames fs).heap = h8 := e8
    exact ⟨N8, by rw [eF]; exact ⟨O8, Kp8, bb5, kk5, rfl, sz5, fa9, fa10, Fw8, fa11, fa12, fa13, Ov5⟩⟩
theorem rmGr0 (l : Launch) (Z : State) (a0 : Array Value) (hw : OwHw Z a0) (ws : List Jvm.Cond) (n0 : Nat) (h0 : Heap) (O : Old Z n0 h0) (qqR qqN qqK qqU qqS qqE : Addr) (qqI : Int32) (qqM : Addr) (W : OwW Z qqR qqN qqK qqU qqS qqE qqI qqM) (li ar : Addr) (ka : ClassId) (xo : Addr) (El : Exa Z h0 li zs22) (Lf0 : Fld Z h0 li zs21 "modCount" "I" (.int 2)) (Lf1 : Fld Z h0 li zs22 "elementData" zs6 (.ref ar)) (Lf2 : Fld Z h0 li zs22 "size" "I" (.int 1)) (Va : Arv Z h0 ar ka (.object zs16) (1 : Int32) [(.ref xo)] .null) (Ea : Exa Z h0 ar zs6) (Oa : Ovr Z ka zs16) (Eo : Exa Z h0 xo zs15) (gl : n0 ≤ li) :
    OwCon l yy37 j37 1 (some (.array (.object zs16))) ws (rM 4 1 2 62) #[(.ref li)] Z h0 (OwP (fun v h => Old Z n0 h ∧ Keep h0 h [li] ∧ ∃ (b' : Addr) (k' : ClassId), v = some (.ref b') ∧ h0.size ≤ b' ∧ Exa Z h li zs22 ∧ Fld Z h li zs21 "modCount" "I" (.int 2) ∧ Fld Z h li zs22 "elementData" zs6 (.ref b') ∧ Fld Z h li zs22 "size" "I" (.int 1) ∧ Arv Z h b' k' (.object zs16) (2 : Int32) [(.ref xo), .null] .null ∧ Exa Z h b' zs6 ∧ Ovr Z k' zs16) n0) := by
  refine MetFree.of_bodySF (plainFor_of_name owpn45) hisR ?_
  intro p e s m args below meth c s₁ Bd hml0 hP hK
  have hi := @own_hi Z a0 hw
  obtain ⟨rfl, hZ, hh⟩ := hP
  have hx := Bd.exec
  have hby := Bd.bytes
  have hml : c.maxLocals = 1 := hml0
  have hown := findClass_of_methodNamed Bd.named
  have X0 : Stand p l e (rM 4 1 2 62) s m #[(.ref li)] below meth c s₁ [] 0 0 := Stand.of_body Bd
  have e0 : s₁.heap = h0 := by rw [← hh, Bd.state]; rfl
  have N0 := Fr.nil n0
  have ef : entryFrame m #[(.ref li)] 1 = mkF m 0 #[.val (.ref li)] [] := by first | (simp [entryFrame, mkF, argsToLocals, Value.category]; done) | rfl
  obtain ⟨T1, X1, e1, st1⟩ := getF X0 hx hZ hown (host := "") (Or.inl (hi 161 rfl)) Via.refl e0 Lf2 (g := (mkF m 2 #[vR li] [(.ref li), (.ref li)])) rfl rfl (hb hby d45_2)
  obtain ⟨cq2, q2, q2'⟩ := El.cell
  obtain ⟨_, _, ⟨T2, L2, k2, n2⟩, -, X2, ⟨Lc2, hQ2, l2, y2, z2⟩, st2⟩ := X1.privateBack hx (y := yy38) hown (mvT hZ (hi 309 rfl)) (mvT hZ (hi 310 rfl)) (mvT hZ (hi 312 rfl)) (Cond.privateMethod_at (mvP hZ (hi 311 rfl) (args := #[]))) (mvT hZ (hi 313 rfl)) (by decide) (backOf (W := 0) (rmGr1 l Z a0 hw [] n0 h0 O qqR qqN qqK qqU qqS qqE qqI qqM W li ar ka xo El Lf0 Lf1 Lf2 Va Ea Oa Eo gl) hZ (hi 313 rfl) (hi 127 rfl) (by decide) (by decide)) (g := (mkF m 7 #[vR li] [(.int 2), (.ref li)])) rfl (by rw [hml]; rfl) (Steps.refl _) (a := li) (by rw [e1]; exact q2) q2' (argsL := [(.int 2)]) (rest := []) (lenOf owpd21 rfl) rfl (Nat.le_of_eq rfl) (hb hby d45_7) (fun _ _ => ⟨rfl, e1, (by decide : 0 + 1 ≤ _), (by decide : 0 + 2 ≤ _)⟩)
  dsimp only [Pt.U, Pt.locs, Pt.cells, Pt.slots] at X2 l2 y2 z2 st2 hQ2
  subst l2 y2 z2
  obtain ⟨Nq2, hP2⟩ := hQ2
  have N2 := Fr.app N0 Nq2
  have ee2 : T2.heap = T2.heap := rfl
  obtain ⟨Oc2, Kc2, bb2, kk2, rfl, hb2, Ec2, La2, Lb2, Lc2, Va2, Ea2, Ov2⟩ := hP2
  have ne_li_2 : li ≠ bb2 := Nat.ne_of_lt (Nat.lt_of_lt_of_le El.lt hb2)
  have ne_ar_2 : ar ≠ bb2 := Nat.ne_of_lt (Nat.lt_of_lt_of_le Ea.lt hb2)
  have ne_xo_2 : xo ≠ bb2 := Nat.ne_of_lt (Nat.lt_of_lt_of_le Eo.lt hb2)
  have gx2 : n0 ≤ bb2 := Nat.le_trans (Nat.le_trans (Nat.le_of_eq O.1.symm) O.2.1) hb2
  have sz2 : h0.size ≤ bb2 := Nat.le_trans (Keep.refl h0 [li]).1 hb2
  have Kp2 : Keep h0 T2.heap [li] := (Keep.refl h0 [li]).trans Kc2 (allS (P := fun x => x ∈ [li] ∨ h0.size ≤ x) (Or.inl (List.mem_of_getElem? (i := 0) rfl)) (all0 (P := fun x => x ∈ [li] ∨ h0.size ≤ x)))
  obtain ⟨fs, hr, hrun, hended, hW, hsame⟩ := X2.leave (v := some (.ref bb2)) (fun h => by rw [Bd.returns] at h; cases h)
  refine ⟨_, _, castTop ef ?_, hrun, hended, _, _, rfl, ?_, ⟨_, rfl⟩, hW, hsame.mono (by decide) (by decide)⟩
  · show OwG p e below s₁ m 0 #[vR li] [] _
    refine XS.aloadN X0.here hx rfl (hb hby d45_0) rfl rfl ?_
    show OwG p e below s₁ m 1 #[vR li] [(.ref li)] _
    refine XS.aloadN X0.here hx rfl (hb hby d45_1) rfl rfl ?_
    show OwG p e below s₁ m 2 #[vR li] [(.ref li), (.ref li)] _
    refine st1 _ ?_
    show OwG p e below T1 m 5 #[vR li] [(.int 1), (.ref li)] _
    refine XS.iconst X1.here hx rfl (hb hby d45_5) ?_
    refine XS.iadd X1.here hx rfl (hb hby d45_6) rfl ?_
    show OwG p e below T1 m 7 #[vR li] [(.int 2), (.ref li)] _
    refine st2.trans ?_
    show OwG p e below T2 m 10 #[vR li] [(.ref bb2)] _
    exact retOut X2 hx Bd.returns rfl (Or.inr (Or.inr (Or.inr (Or.inr ⟨rfl, rfl, rfl⟩)))) (hb hby d45_10) hr
  · have eF : (T2.setFrames fs).heap = T2.heap := ee2
    exact ⟨N2, by rw [eF]; exact ⟨Oc2, Kp2, bb2, kk2, rfl, sz2, Ec2, La2, Lb2, Lc2, Va2, Ea2, Ov2⟩⟩
theorem rmAd3_1 (l : Launch) (Z : State) (a0 : Array Value) (hw : OwHw Z a0) (ws : List Jvm.Cond) (n0 : Nat) (h0 : Heap) (O : Old Z n0 h0) (qqR qqN qqK qqU qqS qqE : Addr) (qqI : Int32) (qqM : Addr) (W : OwW Z qqR qqN qqK qqU qqS qqE qqI qqM) (li ar : Addr) (ka : ClassId) (xe : Addr) (xo : Addr) (El : Exa Z h0 li zs22) (Lf0 : Fld Z h0 li zs21 "modCount" "I" (.int 2)) (Lf1 : Fld Z h0 li zs22 "elementData" zs6 (.ref ar)) (Lf2 : Fld Z h0 li zs22 "size" "I" (.int 1)) (Va : Arv Z h0 ar ka (.object zs16) (1 : Int32) [(.ref xo)] .null) (Ea : Exa Z h0 ar zs6) (Oa : Ovr Z ka zs16) (Ex : Exa Z h0 xe zs15) (Eo : Exa Z h0 xo zs15) (gl : n0 ≤ li) (gr : n0 ≤ ar) :
    OwCon l yy36 j19 4 none ws (rM 5 1 2 74) #[(.ref li), (.ref xe), (.ref ar), (.int 1)] Z h0 (OwP (fun v h => v = none ∧ Old Z n0 h ∧ Keep h0 h [li] ∧ ∃ (b' : Addr) (k' : ClassId), h0.size ≤ b' ∧ Exa Z h li zs22 ∧ Fld Z h li zs21 "modCount" "I" (.int 2) ∧ Fld Z h li zs22 "elementData" zs6 (.ref b') ∧ Fld Z h li zs22 "size" "I" (.int 2) ∧ Arv Z h b' k' (.object zs16) (2 : Int32) [(.ref xo), (.ref xe)] .null ∧ Exa Z h b' zs6 ∧ Ovr Z k' zs16) n0) := by
  refine MetFree.of_bodySF (plainFor_of_name owpn19) hisR ?_
  intro p e s m args below meth c s₁ Bd hml0 hP hK
  have hi := @own_hi Z a0 hw
  obtain ⟨rfl, hZ, hh⟩ := hP
  have hx := Bd.exec
  have hby := Bd.bytes
  have hml : c.maxLocals = 4 := hml0
  have hown := findClass_of_methodNamed Bd.named
  have X0 : Stand p l e (rM 5 1 2 74) s m #[(.ref li), (.ref xe), (.ref ar), (.int 1)] below meth c s₁ [] 0 0 := Stand.of_body Bd
  have e0 : s₁.heap = h0 := by rw [← hh, Bd.state]; rfl
  have N0 := Fr.nil n0
  have ef : entryFrame m #[(.ref li), (.ref xe), (.ref ar), (.int 1)] 4 = mkF m 0 #[.val (.ref li), .val (.ref xe), .val (.ref ar), .val (.int 1)] [] := by first | (simp [entryFrame, mkF, argsToLocals, Value.category]; done) | rfl
  obtain ⟨cl1, Ar1, q1, Sz1, Nn1, Hs1, -⟩ := id Va
  obtain ⟨cq2, q2, q2'⟩ := El.cell
  obtain ⟨_, _, ⟨T2, L2, k2, n2⟩, -, X2, ⟨Lc2, hQ2, l2, y2, z2⟩, st2⟩ := X0.privateBack hx (y := yy37) hown (mvT hZ (hi 304 rfl)) (mvT hZ (hi 305 rfl)) (mvT hZ (hi 307 rfl)) (Cond.privateMethod_at (mvP hZ (hi 306 rfl) (args := #[]))) (mvT hZ (hi 308 rfl)) (by decide) (backOf (W := 0) (rmGr0 l Z a0 hw [] n0 h0 O qqR qqN qqK qqU qqS qqE qqI qqM W li ar ka xo El Lf0 Lf1 Lf2 Va Ea Oa Eo gl) hZ (hi 308 rfl) (hi 127 rfl) (by decide) (by decide)) (g := (mkF m 7 #[vR li, vR xe, vR ar, vI 1] [(.ref li)])) rfl (by rw [hml]; rfl) (Steps.refl _) (a := li) (by rw [e0]; exact q2) q2' (argsL := []) (rest := []) (lenOf owpd22 rfl) rfl (Nat.le_of_eq rfl) (hb hby d19_7) (fun _ _ => ⟨rfl, e0, (by decide : 0 + 1 ≤ _), (by decide : 0 + 2 ≤ _)⟩)
  dsimp only [Pt.U, Pt.locs, Pt.cells, Pt.slots] at X2 l2 y2 z2 st2 hQ2
  subst l2 y2 z2
  obtain ⟨Nq2, hP2⟩ := hQ2
  have N2 := Fr.app N0 Nq2
  have ee2 : T2.heap = T2.heap := rfl
  obtain ⟨Oc2, Kc2, bb2, kk2, rfl, hb2, Ec2, La2, Lb2, Lc2, Va2, Ea2, Ov2⟩ := hP2
  have ne_li_2 : li ≠ bb2 := Nat.ne_of_lt (Nat.lt_of_lt_of_le El.lt hb2)
  have ne_ar_2 : ar ≠ bb2 := Nat.ne_of_lt (Nat.lt_of_lt_of_le Ea.lt hb2)
  have ne_xe_2 : xe ≠ bb2 := Nat.ne_of_lt (Nat.lt_of_lt_of_le Ex.lt hb2)
  have ne_xo_2 : xo ≠ bb2 := Nat.ne_of_lt (Nat.lt_of_lt_of_le Eo.lt hb2)
  have gx2 : n0 ≤ bb2 := Nat.le_trans (Nat.le_trans (Nat.le_of_eq O.1.symm) O.2.1) hb2
  have sz2 : h0.size ≤ bb2 := Nat.le_trans (Keep.refl h0 [li]).1 hb2
  have Kp2 : Keep h0 T2.heap [li] := (Keep.refl h0 [li]).trans Kc2 (allS (P := fun x => x ∈ [li] ∨ h0.size ≤ x) (Or.inl (List.mem_of_getElem? (i := 0) rfl)) (all0 (P := fun x => x ∈ [li] ∨ h0.size ≤ x)))
  obtain ⟨cl3, Ar3, q3, Sz3, Nn3, Hs3, Gs3⟩ := id Va2
  have hin3 : ¬ ((1 : Int32) < 0 ∨ cl3.slots.size ≤ ((1 : Int32)).toNatClampNeg) := inb_of Sz3 ⟨by decide, by decide⟩
  have fa4 := (Ex.keep Kc2)
  obtain ⟨T5, h5, X5, e5, W5, st5⟩ := stR X2 hx hZ ee2 Ar3 (j := (1 : Int32)) hin3 rfl (Sto.ofV Ar3 q3 Ov2 (Ins.of_exa fa4 (hi 168 rfl))) (g := (mkF m 14 #[vR li, vR xe, vR bb2, vI 1] [(.ref xe), (.int 1), (.ref bb2)])) rfl rfl (hb hby d19_14)
  have Vs5 : Arv Z h5 bb2 kk2 (.object zs16) (2 : Int32) [(.ref xo), (.ref xe)] .null := Arv.set Ar3 q3 Sz3 Nn3 Hs3 Gs3 rfl W5 1 rfl (by show 1 < 2; decide)
  have N5 := Fr.snoc X5 N2 gx2
  have O5 := Oc2.wr W5 gx2
  have Kp5 : Keep h0 h5 [li] := Kp2.wr W5 (Or.inr sz2)
  have fa6 := (Lc2.other W5 (Or.inl ne_li_2))
  have fa7 := (Ec2.wr W5)
  obtain ⟨T8, h8, X8, e8, W8, st8⟩ := putF X5 hx hZ hown (host := "") (Or.inl (hi 161 rfl)) Via.refl e5 fa6 fa7 (Or.inl (hi 162 rfl)) (hi 126 rfl) (ty := .int) (by decide) rfl rfl (g := (mkF m 19 #[vR li, vR xe, vR bb2, vI 1] [(.int 2), (.ref li)])) rfl rfl (hb hby d19_19)
  have Fw8 := fa6.same W8
  have N8 := Fr.snoc X8 N5 gl
  have O8 := O5.wr W8 gl
  have Kp8 : Keep h0 h8 [li] := Kp5.wr W8 (Or.inl (List.mem_of_getElem? (i := 0) rfl))
  have fa9 := (fa7.wr W8)
  have fa10 := ((La2.other W5 (Or.inl ne_li_2)).other W8 (Or.inr (slot_ne (Or.inl (hi 146 rfl)) (Or.inl (hi 162 rfl)) (by decide) (t := .int) (t' := .int) (by decide) (by decide))))
  have fa11 := ((Lb2.other W5 (Or.inl ne_li_2)).other W8 (Or.inr (slot_ne (Or.inl (hi 149 rfl)) (Or.inl (hi 162 rfl)) (by decide) (t := (.array (.object zs16))) (t' := .int) (by decide) (by decide))))
  have fa12 := (Vs5.other W8 (Ne.symm ne_li_2))
  have fa13 := ((Ea2.wr W5).wr W8)
  obtain ⟨fs, hr, hrun, hended, hW, hsame⟩ := X8.leave (v := none) (fun _ => rfl)
  refine ⟨_, _, castTop ef ?_, hrun, hended, _, _, rfl, ?_, ⟨_, rfl⟩, hW, hsame.mono (by decide) (by decide)⟩
  · show OwG p e below s₁ m 0 #[vR li, vR xe, vR ar, vI 1] [] _
    refine XS.iloadN X0.here hx rfl (hb hby d19_0) rfl ?_
    show OwG p e below s₁ m 1 #[vR li, vR xe, vR ar, vI 1] [(.int 1)] _
    refine XS.aloadN X0.here hx rfl (hb hby d19_1) rfl rfl ?_
    show OwG p e below s₁ m 2 #[vR li, vR xe, vR ar, vI 1] [(.ref ar), (.int 1)] _
    refine X0.arraylength hx (by rw [e0]; exact Ar1.1) (State.isArrayOf_alike hZ.alike Ar1.2.1) (g := (mkF m 2 #[vR li, vR xe, vR ar, vI 1] [(.ref ar), (.int 1)])) rfl rfl (hb hby d19_2) _ ?_
    rw [len_of Sz1 Nn1]
    show OwG p e below s₁ m 3 #[vR li, vR xe, vR ar, vI 1] [(.int 1), (.int 1)] _
    refine XS.icmpNo X0.here hx rfl (hb hby d19_3) rfl (teq (by decide : (1 : Int32) = (1 : Int32))).2 ?_
    refine XS.aloadN X0.here hx rfl (hb hby d19_6) rfl rfl ?_
    show OwG p e below s₁ m 7 #[vR li, vR xe, vR ar, vI 1] [(.ref li)] _
    refine st2.trans ?_
    show OwG p e below T2 m 10 #[vR li, vR xe, vR ar, vI 1] [(.ref bb2)] _
    refine XS.astoreN X2.here hx rfl (hb hby d19_10) rfl rfl (l' := #[vR li, vR xe, vR bb2, vI 1]) rfl ?_
    refine XS.aloadN X2.here hx rfl (hb hby d19_11) rfl rfl ?_
    refine XS.iloadN X2.here hx rfl (hb hby d19_12) rfl ?_
    refine XS.aloadN X2.here hx rfl (hb hby d19_13) rfl rfl ?_
    show OwG p e below T2 m 14 #[vR li, vR xe, vR bb2, vI 1] [(.ref xe), (.int 1), (.ref bb2)] _
    refine st5 _ ?_
    show OwG p e below T5 m 15 #[vR li, vR xe, vR bb2, vI 1] [] _
    refine XS.aloadN X5.here hx rfl (hb hby d19_15) rfl rfl ?_
    refine XS.iloadN X5.here hx rfl (hb hby d19_16) rfl ?_
    refine XS.iconst X5.here hx rfl (hb hby d19_17) ?_
    refine XS.iadd X5.here hx rfl (hb hby d19_18) rfl ?_
    show OwG p e below T5 m 19 #[vR li, vR xe, vR bb2, vI 1] [(.int 2), (.ref li)] _
    refine st8 _ ?_
    show OwG p e below T8 m 22 #[vR li, vR xe, vR bb2, vI 1] [] _
    exact X8.returnOut hx Bd.returns (hb hby d19_22) hr
  · have eF : (T8.setFrames fs).heap = h8 := e8
    exact ⟨N8, rfl, by rw [eF]; exact ⟨O8, Kp8, bb2, kk2, sz2, fa9, fa10, fa11, Fw8, fa12, fa13, Ov2⟩⟩
theorem rmAd1_1 (l : Launch) (Z : State) (a0 : Array Value) (hw : OwHw Z a0) (ws : List Jvm.Cond) (n0 : Nat) (h0 : Heap) (O : Old Z n0 h0) (qqR qqN qqK qqU qqS qqE : Addr) (qqI : Int32) (qqM : Addr) (W : OwW Z qqR qqN qqK qqU qqS qqE qqI qqM) (li ar : Addr) (ka : ClassId) (xe : Addr) (xo : Addr) (El : Exa Z h0 li zs22) (Lf0 : Fld Z h0 li zs21 "modCount" "I" (.int 1)) (Lf1 : Fld Z h0 li zs22 "elementData" zs6 (.ref ar)) (Lf2 : Fld Z h0 li zs22 "size" "I" (.int 1)) (Va : Arv Z h0 ar ka (.object zs16) (1 : Int32) [(.ref xo)] .null) (Ea : Exa Z h0 ar zs6) (Oa : Ovr Z ka zs16) (Ex : Exa Z h0 xe zs15) (Eo : Exa Z h0 xo zs15) (gl : n0 ≤ li) (gr : n0 ≤ ar) :
    OwCon l yy35 j14 2 (some .boolean) ws (rM 6 1 2 89) #[(.ref li), (.ref xe)] Z h0 (OwP (fun v h => v = some (.int 1) ∧ Old Z n0 h ∧ Keep h0 h [li] ∧ ∃ (b' : Addr) (k' : ClassId), h0.size ≤ b' ∧ Exa Z h li zs22 ∧ Fld Z h li zs21 "modCount" "I" (.int 2) ∧ Fld Z h li zs22 "elementData" zs6 (.ref b') ∧ Fld Z h li zs22 "size" "I" (.int 2) ∧ Arv Z h b' k' (.object zs16) (2 : Int32) [(.ref xo), (.ref xe)] .null ∧ Exa Z h b' zs6 ∧ Ovr Z k' zs16) n0) := by
  refine MetFree.of_bodySF (plainFor_of_name owpn18) hisR ?_
  intro p e s m args below meth c s₁ Bd hml0 hP hK
  have hi := @own_hi Z a0 hw
  obtain ⟨rfl, hZ, hh⟩ := hP
  have hx := Bd.exec
  have hby := Bd.bytes
  have hml : c.maxLocals = 2 := hml0
  have hown := findClass_of_methodNamed Bd.named
  have X0 : Stand p l e (rM 6 1 2 89) s m #[(.ref li), (.ref xe)] below meth c s₁ [] 0 0 := Stand.of_body Bd
  have e0 : s₁.heap = h0 := by rw [← hh, Bd.state]; rfl
  have N0 := Fr.nil n0
  have ef : entryFrame m #[(.ref li), (.ref xe)] 2 = mkF m 0 #[.val (.ref li), .val (.ref xe)] [] := by first | (simp [entryFrame, mkF, argsToLocals, Value.category]; done) | rfl
  obtain ⟨T1, X1, e1, st1⟩ := getF X0 hx hZ hown (host := "") (Or.inl (hi 159 rfl)) (Via.of (hi 160 rfl)) e0 Lf0 (g := (mkF m 2 #[vR li, vR xe] [(.ref li), (.ref li)])) rfl rfl (hb hby d18_2)
  obtain ⟨T2, h2, X2, e2, W2, st2⟩ := putF X1 hx hZ hown (host := "") (Or.inl (hi 159 rfl)) (Via.of (hi 160 rfl)) e1 Lf0 El (Or.inl (hi 146 rfl)) (hi 126 rfl) (ty := .int) (by decide) rfl rfl (g := (mkF m 7 #[vR li, vR xe] [(.int 2), (.ref li)])) rfl rfl (hb hby d18_7)
  have Fw2 := Lf0.same W2
  have N2 := Fr.snoc X2 N0 gl
  have O2 := O.wr W2 gl
  have Kp2 : Keep h0 h2 [li] := (Keep.refl h0 [li]).wr W2 (Or.inl (List.mem_of_getElem? (i := 0) rfl))
  have fa3 := (Lf1.other W2 (Or.inr (slot_ne (Or.inl (hi 149 rfl)) (Or.inl (hi 146 rfl)) (by decide) (t := (.array (.object zs16))) (t' := .int) (by decide) (by decide))))
  obtain ⟨T4, X4, e4, st4⟩ := getF X2 hx hZ hown (host := "") (Or.inl (hi 148 rfl)) Via.refl e2 fa3 (g := (mkF m 13 #[vR li, vR xe] [(.ref li), (.ref xe), (.ref li)])) rfl rfl (hb hby d18_13)
  have fa5 := (Lf2.other W2 (Or.inr (slot_ne (Or.inl (hi 162 rfl)) (Or.inl (hi 146 rfl)) (by decide) (t := .int) (t' := .int) (by decide) (by decide))))
  obtain ⟨T6, X6, e6, st6⟩ := getF X4 hx hZ hown (host := "") (Or.inl (hi 161 rfl)) Via.refl e4 fa5 (g := (mkF m 17 #[vR li, vR xe] [(.ref li), (.ref ar), (.ref xe), (.ref li)])) rfl rfl (hb hby d18_17)
  have fa7 := (Ea.wr W2)
  have fa8 := (El.wr W2)
  have fa9 := (Va.other W2 (Exa.ne fa7 fa8 (by decide)))
  have fa10 := (Ex.wr W2)
  have fa11 := (Eo.wr W2)
  obtain ⟨cq12, q12, q12'⟩ := fa8.cell
  obtain ⟨_, _, ⟨T12, L12, k12, n12⟩, -, X12, ⟨Lc12, hQ12, l12, y12, z12⟩, st12⟩ := X6.privateBack hx (y := yy36) hown (mvT hZ (hi 163 rfl)) (mvT hZ (hi 164 rfl)) (mvT hZ (hi 166 rfl)) (Cond.privateMethod_at (mvP hZ (hi 165 rfl) (args := #[]))) (mvT hZ (hi 167 rfl)) (by decide) (backOf (W := 0) (rmAd3_1 l Z a0 hw [] n0 h2 O2 qqR qqN qqK qqU qqS qqE qqI qqM W li ar ka xe xo fa8 Fw2 fa3 fa5 fa9 fa7 Oa fa10 fa11 gl gr) hZ (hi 167 rfl) (hi 127 rfl) (by decide) (by decide)) (g := (mkF m 20 #[vR li, vR xe] [(.int 1), (.ref ar), (.ref xe), (.ref li)])) rfl (by rw [hml]; rfl) (Steps.refl _) (a := li) (by rw [e6]; exact q12) q12' (argsL := [(.ref xe), (.ref ar), (.int 1)]) (rest := []) (lenOf owpd18 rfl) rfl (Nat.le_of_eq rfl) (hb hby d18_20) (fun _ _ => ⟨rfl, e6, (by decide : 0 + 1 ≤ _), (by decide : 0 + 2 ≤ _)⟩)
  dsimp only [Pt.U, Pt.locs, Pt.cells, Pt.slots] at X12 l12 y12 z12 st12 hQ12
  subst l12 y12 z12
  obtain ⟨Nq12, hP12⟩ := hQ12
  have N12 := Fr.app N2 Nq12
  have ee12 : T12.heap = T12.heap := rfl
  obtain ⟨rfl, Oc12, Kc12, bb12, kk12, hb12, Ec12, La12, Lb12, Lc12, Va12, Ea12, Ov12⟩ := hP12
  have ne_li_12 : li ≠ bb12 := Nat.ne_of_lt (Nat.lt_of_lt_of_le fa8.lt hb12)
  have ne_ar_12 : ar ≠ bb12 := Nat.ne_of_lt (Nat.lt_of_lt_of_le fa7.lt hb12)
  have ne_xe_12 : xe ≠ bb12 := Nat.ne_of_lt (Nat.lt_of_lt_of_le fa10.lt hb12)
  have ne_xo_12 : xo ≠ bb12 := Nat.ne_of_lt (Nat.lt_of_lt_of_le fa11.lt hb12)
  have gx12 : n0 ≤ bb12 := Nat.le_trans (Nat.le_trans (Nat.le_of_eq O2.1.symm) O2.2.1) hb12
  have sz12 : h0.size ≤ bb12 := Nat.le_trans Kp2.1 hb12
  have Kp12 : Keep h0 T12.heap [li] := Kp2.trans Kc12 (allS (P := fun x => x ∈ [li] ∨ h0.size ≤ x) (Or.inl (List.mem_of_getElem? (i := 0) rfl)) (all0 (P := fun x => x ∈ [li] ∨ h0.size ≤ x)))
  obtain ⟨fs, hr, hrun, hended, hW, hsame⟩ := X12.leave (v := some (.int 1)) (fun h => by rw [Bd.returns] at h; cases h)
  refine ⟨_, _, castTop ef ?_, hrun, hended, _, _, rfl, ?_, ⟨_, rfl⟩, hW, hsame.mono (by decide) (by decide)⟩
  · show OwG p e below s₁ m 0 #[vR li, vR xe] [] _
    refine XS.aloadN X0.here hx rfl (hb hby d18_0) rfl rfl ?_
    show OwG p e below s₁ m 1 #[vR li, vR xe] [(.ref li)] _
    refine XS.dup X0.here hx rfl (hb hby d18_1) rfl rfl ?_
    show OwG p e below s₁ m 2 #[vR li, vR xe] [(.ref li), (.ref li)] _
    refine st1 _ ?_
    show OwG p e below T1 m 5 #[vR li, vR xe] [(.int 1), (.ref li)] _
    refine XS.iconst X1.here hx rfl (hb hby d18_5) ?_
    refine XS.iadd X1.here hx rfl (hb hby d18_6) rfl ?_
    show OwG p e below T1 m 7 #[vR li, vR xe] [(.int 2), (.ref li)] _
    refine st2 _ ?_
    show OwG p e below T2 m 10 #[vR li, vR xe] [] _
    refine XS.aloadN X2.here hx rfl (hb hby d18_10) rfl rfl ?_
    refine XS.aloadN X2.here hx rfl (hb hby d18_11) rfl rfl ?_
    refine XS.aloadN X2.here hx rfl (hb hby d18_12) rfl rfl ?_
    show OwG p e below T2 m 13 #[vR li, vR xe] [(.ref li), (.ref xe), (.ref li)] _
    refine st4 _ ?_
    show OwG p e below T4 m 16 #[vR li, vR xe] [(.ref ar), (.ref xe), (.ref li)] _
    refine XS.aloadN X4.here hx rfl (hb hby d18_16) rfl rfl ?_
    show OwG p e below T4 m 17 #[vR li, vR xe] [(.ref li), (.ref ar), (.ref xe), (.ref li)] _
    refine st6 _ ?_
    show OwG p e below T6 m 20 #[vR li, vR xe] [(.int 1), (.ref ar), (.ref xe), (.ref li)] _
    refine st12.trans ?_
    show OwG p e below T12 m 23 #[vR li, vR xe] [] _
    refine XS.iconst X12.here hx rfl (hb hby d18_23) ?_
    show OwG p e below T12 m 24 #[vR li, vR xe] [(.int 1)] _
    exact retN X12 hx (t := .boolean) Bd.returns (by simp) (hb hby d18_24) hr
  · have eF : (T12.setFrames fs).heap = T12.heap := ee12
    exact ⟨N12, rfl, by rw [eF]; exact ⟨Oc12, Kp12, bb12, kk12, sz12, Ec12, La12, Lb12, Lc12, Va12, Ea12, Ov12⟩⟩
theorem rmRnn (l : Launch) (Z : State) (a0 : Array Value) (hw : OwHw Z a0) (ws : List Jvm.Cond) (n0 : Nat) (h0 : Heap) (O : Old Z n0 h0) (qqR qqN qqK qqU qqS qqE : Addr) (qqI : Int32) (qqM : Addr) (W : OwW Z qqR qqN qqK qqU qqS qqE qqI qqM) (a b : Addr) :
    OwCon l yy46 j15 2 (some (.object zs16)) ws (rM 0 0 0 0) #[(.ref a), (.ref b)] Z h0 (OwQ (some (.ref a)) h0 n0) := by
  refine MetFree.of_bodySF (plainFor_of_name owpn14) hisR ?_
  intro p e s m args below meth c s₁ Bd hml0 hP hK
  have hi := @own_hi Z a0 hw
  obtain ⟨rfl, hZ, hh⟩ := hP
  have hx := Bd.exec
  have hby := Bd.bytes
  have hml : c.maxLocals = 2 := hml0
  have hown := findClass_of_methodNamed Bd.named
  have X0 : Stand p l e (rM 0 0 0 0) s m #[(.ref a), (.ref b)] below meth c s₁ [] 0 0 := Stand.of_body Bd
  have e0 : s₁.heap = h0 := by rw [← hh, Bd.state]; rfl
  have N0 := Fr.nil n0
  have ef : entryFrame m #[(.ref a), (.ref b)] 2 = mkF m 0 #[.val (.ref a), .val (.ref b)] [] := by first | (simp [entryFrame, mkF, argsToLocals, Value.category]; done) | rfl
  obtain ⟨fs, hr, hrun, hended, hW, hsame⟩ := X0.leave (v := some (.ref a)) (fun h => by rw [Bd.returns] at h; cases h)
  refine ⟨_, _, castTop ef ?_, hrun, hended, _, _, rfl, ?_, ⟨_, rfl⟩, hW, hsame.mono (by decide) (by decide)⟩
  · show OwG p e below s₁ m 0 #[vR a, vR b] [] _
    refine XS.aloadN X0.here hx rfl (hb hby d14_0) rfl rfl ?_
    show OwG p e below s₁ m 1 #[vR a, vR b] [(.ref a)] _
    refine XS.ifnonnullYes X0.here hx rfl (pc0 := 1) (pc' := 13) rfl (hb hby d14_1) rfl (by decide) (by decide) ?_
    refine XS.aloadN X0.here hx rfl (hb hby d14_13) rfl rfl ?_
    show OwG p e below s₁ m 14 #[vR a, vR b] [(.ref a)] _
    exact retOut X0 hx Bd.returns rfl (Or.inr (Or.inr (Or.inr (Or.inr ⟨rfl, rfl, rfl⟩)))) (hb hby d14_14) hr
  · have eF : (s₁.setFrames fs).heap = h0 := e0
    exact ⟨rfl, N0, eF⟩
theorem rmSup0 (l : Launch) (Z : State) (a0 : Array Value) (hw : OwHw Z a0) (ws : List Jvm.Cond) (n0 : Nat) (h0 : Heap) (O : Old Z n0 h0) (qqR qqN qqK qqU qqS qqE : Addr) (qqI : Int32) (qqM : Addr) (W : OwW Z qqR qqN qqK qqU qqS qqE qqI qqM) (fx xe : Addr) (Ef : Exa Z h0 fx zs15) (Nf : Unt h0 fx) (Sf : Fld Z h0 fx zs20 "suppressedExceptions" "Ljava/util/List;" (.ref qqS)) (Ex : Exa Z h0 xe zs15) (nx : fx ≠ xe) (gf : n0 ≤ fx) :
    MetFree l yy31 (head1 (Jvm.Cond.codeSync yy31 j28 2 none :: Jvm.Cond.instanceMethod yy31 :: ws) (rM 4 4 140 53)) (fun a U => a = #[(.ref fx), (.ref xe)] ∧ Z.Warmed39 U.vm ∧ U.heap = h0 ∧ CHv Z consts_1 U.vm h0 ∧ ∃ cell : Cell, h0[fx]? = some cell ∧ cell.enterable U.cur) (fun _ _ _ _ _ => True) (fun _ U o U' => ∃ v L, o = .returned v ∧ (OwP (fun v h => v = none ∧ Old Z n0 h ∧ Keep h0 h [fx] ∧ owX1 Z h n0 fx) n0) v U'.heap L ∧ CHr Z consts_1 U.vm U.heap U'.vm U'.heap ∧ ReturnedEndW U o U' L (rM 4 4 140 53).cells (rM 4 4 140 53).slots) := by
  refine MetFree.of_bodySync (plainFor_of_name owpn13) (hisS (List.mem_cons_self ..)) (fun _ s _ hp => by obtain ⟨h1, _, h2, _, cl, h3, h4⟩ := hp; exact ⟨fx, cl, by rw [h1]; rfl, by rw [h2]; exact h3, h4⟩) ?_
  intro p e s0 m args below meth c a' cell s₁ Bd hml0 hP _
  have hi := @own_hi Z a0 hw
  obtain ⟨rfl, hZ0, hh, hC00, -⟩ := hP
  cases Bd.receiver
  have hx := Bd.exec
  have hby := Bd.bytes
  have hml : c.maxLocals = 2 := hml0
  obtain ⟨s, hs⟩ : ∃ s : State, s = s0.setCell fx (cell.withEntry s0.cur) := ⟨_, rfl⟩
  have hZ : Z.Warmed39 s.vm := by rw [hs]; exact hZ0
  have hown : s.vm.findClass zs20 = some m.cls := by rw [hs]; exact findClass_of_methodNamed Bd.named
  have X0 : Stand p l e (rM 4 4 140 53) s m #[(.ref fx), (.ref xe)] below meth c s₁ [] 0 0 := by rw [hs]; exact Stand.of_bodySync Bd
  obtain ⟨hq, e0⟩ : ∃ hq : Heap, s₁.heap = hq := ⟨_, rfl⟩
  have hqe : hq = h0.setIfInBounds fx (cell.withEntry s0.cur) := by rw [← e0, Bd.state, ← hh]; rfl
  have hob : h0[fx]? = some cell := by rw [← hh]; exact Bd.object
  have Mq : Mon h0 hq := by rw [hqe]; exact mon_set hob _
  have Kq : Keep h0 hq [fx] := by rw [hqe]; exact own_keepset hob rfl rfl rfl
  have Oq := O.keep Kq (allS (P := fun x => n0 ≤ x) gf all0)
  have Kq0 : Keep h0 hq [fx] := own_kw Kq (allS (P := fun x => x ∈ [fx]) (List.mem_cons_self ..) all0)
  have N0 := Fr.nil n0
  have WW := W
  obtain ⟨ES, nzI, SR, SN, FR, FN, SK, FK, SU, SS, SC, nRN, nKN, Mo, -⟩ := WW
  have Y0 : Stand p l e (rM 4 4 140 53) (s.setVm s.vm) m #[(.ref fx), (.ref xe)] below meth c s₁ [] 0 0 := X0
  have hS0 : s.Since s.vm s.heap.size := (State.WarmedH.refl s).since _
  have hk0 : s.heap.size ≤ hq.size := Nat.le_of_eq (by rw [hs, hqe, ← hh]; simp [State.setCell])
  have wS : ∀ a ∈ Bundle.stringAtoms, a.before a0 Z = true := fun a ha => hw a (own_strin a ha)
  have hEL := own_EW hw
  have vms : s.vm = s0.vm := by rw [hs]; rfl
  have cr0 : CHr Z consts_1 s0.vm h0 s.vm hq := by rw [vms]; exact CHr.keep Kq (sfS (Safe.exa (EL := consts_1) hZ0.alike Ef (by decide) (by decide)) sf0) hC00
  have hC0 := cr0.1
  obtain ⟨a1, T1, h1, k1, X1, e1, E1, hS1, hk1, hZ1, hown1, ct1, Lt1, st1⟩ := own_ldcwO Y0 hx hZ hown (hi 120 rfl) wS e0 hS0 hk0 hEL hC0 (g := (mkL fx m 18 #[vR fx, vR xe] [(.ref xe)])) rfl (hb hby d13_18) (n := 132) (by decide) (by decide) (by decide) (by decide)
  obtain ⟨bb1, kk1, Es1, Fc1, Fv1, Va1⟩ := own_ldcwC hZ1 (hi 120 rfl) (by decide : (zs20, 258) ∈ consts_1) ct1.1 Lt1 (vs := [(.int 67), (.int 97), (.int 110), (.int 110), (.int 111), (.int 116), (.int 32), (.int 115), (.int 117), (.int 112), (.int 112), (.int 114), (.int 101), (.int 115), (.int 115), (.int 32), (.int 97), (.int 32), (.int 110), (.int 117), (.int 108), (.int 108), (.int 32), (.int 101), (.int 120), (.int 99), (.int 101), (.int 112), (.int 116), (.int 105), (.int 111), (.int 110), (.int 46)]) (z := (33 : Int32)) ⟨by decide, by decide⟩ (by decide) rfl
  have hC1 := ct1.1
  have cr1 := cr0.trans ct1
  have O1 := Oq.ext E1
  have Kp1 : Keep h0 h1 [fx] := Kq0.ext E1
  obtain ⟨_, _, ⟨T2, L2, k2, n2⟩, -, X2, ⟨Lc2, hQ2, l2, y2, z2⟩, st2⟩ := Jvm.LawKit.callS X1 hx (y := yy46) hown1 (mvT hZ1 (hi 121 rfl)) (mvT hZ1 (hi 122 rfl)) (mvT hZ1 (hi 123 rfl)) (mvT hZ1 (hi 124 rfl)) (by decide) (backOf (W := 2) (rmRnn l Z a0 hw [] n0 h1 O1 qqR qqN qqK qqU qqS qqE qqI qqM W xe a1) hZ1 (hi 124 rfl) (hi 123 rfl) (by decide) (by decide)) (g := (mkL fx m 21 #[vR fx, vR xe] [(.ref a1), (.ref xe)])) rfl (by rw [hml]; rfl) (argsL := [(.ref xe), (.ref a1)]) (rest := []) (lenOf owpd23 rfl) rfl (Nat.le_of_eq rfl) (hb hby d13_21) (fun _ _ => ⟨rfl, e1, (by decide : 2 + 0 ≤ _), (by decide : 136 + 0 ≤ _)⟩)
  dsimp only [Pt.U, Pt.locs, Pt.cells, Pt.slots] at X2 l2 y2 z2 st2 hQ2
  subst l2 y2 z2
  obtain ⟨rfl, Nq2, e2⟩ := hQ2
  have N2 := Fr.app N0 Nq2
  have fa3 := ((Sf.mon Mq).ext E1)
  obtain ⟨T4, X4, e4, st4⟩ := getF X2 hx hZ1 hown1 (host := "") (Or.inl (hi 22 rfl)) Via.refl e2 fa3 (g := (mkL fx m 26 #[vR fx, vR xe] [(.ref fx)])) rfl rfl (hb hby d13_26)
  obtain ⟨T5, X5, e5, st5⟩ := getF X4 hx hZ1 hown1 (host := "") (Or.inl (hi 22 rfl)) Via.refl e4 fa3 (g := (mkL fx m 34 #[vR fx, vR xe] [(.ref fx)])) rfl rfl (hb hby d13_34)
  obtain ⟨T6, X6, e6, st6⟩ := getS2 X5 hx hZ1 hown1 (host := "") (Or.inl (hi 21 rfl)) Via.refl e5 (SS.ext O1.2) (g := (mkL fx m 37 #[vR fx, vR xe] [(.ref qqS)])) rfl (hb hby d13_37)
  obtain ⟨T7, h7, X7, e7, E7, A7, D7, Un7, st7⟩ := newO X6 hx hZ1 hown1 (hi 125 rfl) (hi 126 rfl) (hi 127 rfl) e6 (g := (mkL fx m 44 #[vR fx, vR xe] [(.ref fx)])) rfl (hb hby d13_44) (by decide) (by decide)
  obtain ⟨b7, g7⟩ : ∃ z, z = h1.size := ⟨_, rfl⟩
  rw [← g7] at A7 D7 Un7 st7
  have gx7 : n0 ≤ b7 := Nat.le_trans (Nat.le_trans (Nat.le_of_eq O1.1.symm) O1.2.1) (Nat.le_of_eq g7.symm)
  have fa8 := ((Ef.mon Mq).ext E1)
  have ne_fx_7 : fx ≠ b7 := Nat.ne_of_lt (Nat.lt_of_lt_of_le fa8.lt (Nat.le_of_eq g7.symm))
  have fa9 := ((Ex.mon Mq).ext E1)
  have ne_xe_7 : xe ≠ b7 := Nat.ne_of_lt (Nat.lt_of_lt_of_le fa9.lt (Nat.le_of_eq g7.symm))
  have O7 := O1.ext E7
  have Fn7_modCount : Fld Z h7 b7 zs21 "modCount" "I" (.int 0) := D7 (Or.inl (hi 146 rfl)) (ty := .int) (by decide)
  have Fn7_elementData : Fld Z h7 b7 zs22 "elementData" zs6 .null := D7 (Or.inl (hi 149 rfl)) (ty := (.array (.object zs16))) (by decide)
  have Fn7_size : Fld Z h7 b7 zs22 "size" "I" (.int 0) := D7 (Or.inl (hi 162 rfl)) (ty := .int) (by decide)
  have sz7 : h0.size ≤ b7 := Nat.le_trans Kp1.1 (Nat.le_of_eq g7.symm)
  have Kp7 : Keep h0 h7 [fx] := Kp1.ext E7
  have hkk7 := Nat.le_trans hk1 E7.1
  have ct7 := CHr.ext E7 hC1
  have hC7 := ct7.1
  have cr7 := cr1.trans ct7
  obtain ⟨_, _, ⟨T10, L10, k10, n10⟩, -, X10, ⟨Lc10, hQ10, l10, y10, z10⟩, st10⟩ := X7.specialBack hx (y := yy34) rfl hown1 (mvT hZ1 (hi 128 rfl)) (mvT hZ1 (hi 129 rfl)) (mvT hZ1 (hi 131 rfl)) (by decide) (backOf (W := 4) (rmAli l Z a0 hw [] n0 h7 O7 qqR qqN qqK qqU qqS qqE qqI qqM W b7 A7 Fn7_modCount Fn7_elementData Fn7_size gx7) hZ1 (hi 131 rfl) (hi 127 rfl) (by decide) (by decide)) (g := (mkL fx m 49 #[vR fx, vR xe] [(.int 1), (.ref b7), (.ref b7), (.ref fx)])) rfl (by rw [hml]; rfl) (Steps.refl _) (a := b7) (argsL := [(.int 1)]) (rest := [(.ref b7), (.ref fx)]) (lenOf owpd1 rfl) rfl (Nat.le_of_eq rfl) (hb hby d13_49) (fun _ _ => ⟨rfl, e7, (by decide : 3 + 1 ≤ _), (by decide : 139 + 1 ≤ _)⟩)
  dsimp only [Pt.U, Pt.locs, Pt.cells, Pt.slots] at X10 l10 y10 z10 st10 hQ10
  subst l10 y10 z10
  obtain ⟨Nq10, hP10⟩ := hQ10
  have N10 := Fr.app N2 Nq10
  have ee10 : T10.heap = T10.heap := rfl
  obtain ⟨rfl, Oc10, Kc10, bb10, kk10, hb10, Ec10, La10, Lb10, Lc10, Va10, Ea10, Ov10⟩ := hP10
  have fa11 := (fa8.ext E7)
  have ne_fx_10 : fx ≠ bb10 := Nat.ne_of_lt (Nat.lt_of_lt_of_le fa11.lt hb10)
  have fa12 := (fa9.ext E7)
  have ne_xe_10 : xe ≠ bb10 := Nat.ne_of_lt (Nat.lt_of_lt_of_le fa12.lt hb10)
  have ne_b7_10 : b7 ≠ bb10 := Nat.ne_of_lt (Nat.lt_of_lt_of_le A7.lt hb10)
  have gx10 : n0 ≤ bb10 := Nat.le_trans (Nat.le_trans (Nat.le_of_eq O7.1.symm) O7.2.1) hb10
  have sz10 : h0.size ≤ bb10 := Nat.le_trans Kp7.1 hb10
  have ct10 := CHr.keep Kc10 (sfS (Safe.exa (EL := consts_1) hZ1.alike A7 (by decide) (by decide)) sf0) hC7
  have hC10 := ct10.1
  have cr10 := cr7.trans ct10
  have hkk10 := Nat.le_trans hkk7 Kc10.1
  have Kp10 : Keep h0 T10.heap [fx] := Kp7.trans Kc10 (allS (P := fun x => x ∈ [fx] ∨ h0.size ≤ x) (Or.inr sz7) (all0 (P := fun x => x ∈ [fx] ∨ h0.size ≤ x)))
  have fa13 := ((fa3.ext E7).keep Kc10 (ninS ne_fx_7 nin0))
  have fa14 := (fa11.keep Kc10)
  obtain ⟨T15, h15, X15, e15, W15, st15⟩ := putF X10 hx hZ1 hown1 (host := "") (Or.inl (hi 22 rfl)) Via.refl ee10 fa13 fa14 (Or.inl (hi 23 rfl)) (hi 2 rfl) (ty := (.object "java/util/List")) (by decide) rfl rfl (g := (mkL fx m 52 #[vR fx, vR xe] [(.ref b7), (.ref fx)])) rfl rfl (hb hby d13_52)
  have Fw15 := fa13.same W15
  have N15 := Fr.snoc X15 N10 gf
  have O15 := Oc10.wr W15 gf
  have hkk15 := Nat.le_trans hkk10 (Nat.le_of_eq W15.size.symm)
  have ct15 := CHr.wr W15 (Safe.exa (EL := consts_1) hZ1.alike fa14 (by decide) (by decide)) hC10
  have hC15 := ct15.1
  have cr15 := cr10.trans ct15
  have Kp15 : Keep h0 h15 [fx] := Kp10.wr W15 (Or.inl (List.mem_of_getElem? (i := 0) rfl))
  obtain ⟨T16, X16, e16, st16⟩ := getF X15 hx hZ1 hown1 (host := "") (Or.inl (hi 22 rfl)) Via.refl e15 Fw15 (g := (mkL fx m 56 #[vR fx, vR xe] [(.ref fx)])) rfl rfl (hb hby d13_56)
  have fa17 := (Va10.other W15 (Ne.symm ne_fx_10))
  have fa18 := (Ea10.wr W15)
  have fa19 := (Ec10.wr W15)
  have fa20 := (La10.other W15 (Or.inl (Ne.symm ne_fx_7)))
  have fa21 := (Lb10.other W15 (Or.inl (Ne.symm ne_fx_7)))
  have fa22 := (Lc10.other W15 (Or.inl (Ne.symm ne_fx_7)))
  have fa23 := ((fa12.keep Kc10).wr W15)
  obtain ⟨cq24, kq24, q24a, q24b, q24c⟩ := isOf hZ1 e16 fa19
  obtain ⟨_, _, ⟨T24, L24, k24, n24⟩, -, X24, ⟨Lc24, hQ24, l24, y24, z24⟩, st24⟩ := X16.interfaceBack hx (xi := yy45) (y := yy35) hown1 (mvT hZ1 (hi 150 rfl)) (mvT hZ1 (hi 151 rfl)) (mvT hZ1 (hi 152 rfl)) (mvT hZ1 (hi 153 rfl)) (mvT hZ1 (hi 154 rfl)) (mvT hZ1 (hi 155 rfl)) (mvT hZ1 (hi 156 rfl)) (mvT hZ1 (hi 157 rfl)) (by decide) (backOf (W := 2) (rmAd1_0 l Z a0 hw [] n0 h15 O15 qqR qqN qqK qqU qqS qqE qqI qqM W b7 bb10 kk10 xe fa19 fa20 fa21 fa22 fa17 fa18 Ov10 fa23 gx7 gx10) hZ1 (hi 158 rfl) (hi 127 rfl) (by decide) (by decide)) q24a q24b q24c (g := (mkL fx m 60 #[vR fx, vR xe] [(.ref xe), (.ref b7)])) rfl (by rw [hml]; rfl) (Steps.refl _) (argsL := [(.ref xe)]) (rest := []) (lenOf owpd24 rfl) rfl (Nat.le_of_eq rfl) (hb hby d13_60) (fun _ _ => ⟨rfl, e16, (by decide : 4 + 0 ≤ _), (by decide : 140 + 0 ≤ _)⟩)
  dsimp only [Pt.U, Pt.locs, Pt.cells, Pt.slots] at X24 l24 y24 z24 st24 hQ24
  subst l24 y24 z24
  obtain ⟨Nq24, hP24⟩ := hQ24
  have N24 := Fr.app N15 Nq24
  have ee24 : T24.heap = T24.heap := rfl
  obtain ⟨rfl, Oc24, Kc24, bb24, kk24, rfl, Ec24, La24, Lb24, Lc24, Va24, Ea24, Ov24⟩ := hP24
  have ct24 := CHr.keep Kc24 (sfS (Safe.exa (EL := consts_1) hZ1.alike fa19 (by decide) (by decide)) (sfS (Safe.exa (EL := consts_1) hZ1.alike fa18 (by decide) (by decide)) sf0)) hC15
  have hC24 := ct24.1
  have cr24 := cr15.trans ct24
  have hkk24 := Nat.le_trans hkk15 Kc24.1
  have Kp24 : Keep h0 T24.heap [fx] := Kp15.trans Kc24 (allS (P := fun x => x ∈ [fx] ∨ h0.size ≤ x) (Or.inr sz7) (allS (P := fun x => x ∈ [fx] ∨ h0.size ≤ x) (Or.inr sz10) (all0 (P := fun x => x ∈ [fx] ∨ h0.size ≤ x))))
  have fa25 := ((fa14.wr W15).keep Kc24)
  have fa26 := (Fw15.keep Kc24 (ninS ne_fx_7 (ninS ne_fx_10 nin0)))
  have fa27 := (fa23.keep Kc24)
  subst hs
  obtain ⟨Vs, hr, hrun, hended, Mv, Kv, hvm, hre⟩ := own_leaveSW X24 Bd.object Bd.enterable Bd.synchronized (own_since hS1) (by rw [ee24]; exact hkk24) (v := none) (fun _ => rfl)
  rw [ee24] at Mv Kv
  refine ⟨Vs, _, ?_, hrun, hended, none, _, rfl, ?_, ?_, hre.1, hre.2.1, hre.2.2.1, hre.2.2.2.mono (by decide) (by decide)⟩
  · show Steps p.tables e below (s₁.setTop (mkL fx m 0 #[vR fx, vR xe] [])) Vs
    show Steps p.tables e below (s₁.setTop (mkL fx m 0 #[vR fx, vR xe] [])) _
    refine XS.aloadN Y0.here hx rfl (hb hby d13_0) rfl rfl ?_
    refine XS.aloadN Y0.here hx rfl (hb hby d13_1) rfl rfl ?_
    show Steps p.tables e below (s₁.setTop (mkL fx m 2 #[vR fx, vR xe] [(.ref fx), (.ref xe)])) _
    refine Jvm.RoadKit.acmp (g := (mkL fx m 2 #[vR fx, vR xe] [(.ref fx), (.ref xe)])) Y0 hx rfl rfl rfl (pc0 := 2) (pc' := 17) (same := false) rfl (hb hby d13_2) rfl (decide_eq_false fun q => (Ne.symm nx) (Value.ref.inj q)) (by decide) (by decide) ?_
    show Steps p.tables e below (s₁.setTop (mkL fx m 17 #[vR fx, vR xe] [])) _
    refine XS.aloadN Y0.here hx rfl (hb hby d13_17) rfl rfl ?_
    show Steps p.tables e below (s₁.setTop (mkL fx m 18 #[vR fx, vR xe] [(.ref xe)])) _
    refine st1 _ ?_
    show Steps p.tables e below (T1.setTop (mkL fx m 21 #[vR fx, vR xe] [(.ref a1), (.ref xe)])) _
    refine st2 _ ?_
    show Steps p.tables e below (T2.setTop (mkL fx m 24 #[vR fx, vR xe] [(.ref xe)])) _
    refine XS.pop X2.here hx rfl (hb hby d13_24) rfl rfl ?_
    refine XS.aloadN X2.here hx rfl (hb hby d13_25) rfl rfl ?_
    show Steps p.tables e below (T2.setTop (mkL fx m 26 #[vR fx, vR xe] [(.ref fx)])) _
    refine st4 _ ?_
    show Steps p.tables e below (T4.setTop (mkL fx m 29 #[vR fx, vR xe] [(.ref qqS)])) _
    refine XS.ifnonnullYes X4.here hx rfl (pc0 := 29) (pc' := 33) rfl (hb hby d13_29) rfl (by decide) (by decide) ?_
    refine XS.aloadN X4.here hx rfl (hb hby d13_33) rfl rfl ?_
    show Steps p.tables e below (T4.setTop (mkL fx m 34 #[vR fx, vR xe] [(.ref fx)])) _
    refine st5 _ ?_
    show Steps p.tables e below (T5.setTop (mkL fx m 37 #[vR fx, vR xe] [(.ref qqS)])) _
    refine st6 _ ?_
    show Steps p.tables e below (T6.setTop (mkL fx m 40 #[vR fx, vR xe] [(.ref qqS), (.ref qqS)])) _
    refine Jvm.RoadKit.acmp (g := (mkL fx m 40 #[vR fx, vR xe] [(.ref qqS), (.ref qqS)])) X6 hx rfl rfl rfl (pc0 := 40) (pc' := 43) (same := true) rfl (hb hby d13_40) rfl (decide_eq_true rfl) (by decide) (by decide) ?_
    show Steps p.tables e below (T6.setTop (mkL fx m 43 #[vR fx, vR xe] [])) _
    refine XS.aloadN X6.here hx rfl (hb hby d13_43) rfl rfl ?_
    show Steps p.tables e below (T6.setTop (mkL fx m 44 #[vR fx, vR xe] [(.ref fx)])) _
    refine st7 _ ?_
    show Steps p.tables e below (T7.setTop (mkL fx m 47 #[vR fx, vR xe] [(.ref b7), (.ref fx)])) _
    refine XS.dup X7.here hx rfl (hb hby d13_47) rfl rfl ?_
    refine XS.iconst X7.here hx rfl (hb hby d13_48) ?_
    show Steps p.tables e below (T7.setTop (mkL fx m 49 #[vR fx, vR xe] [(.int 1), (.ref b7), (.ref b7), (.ref fx)])) _
    refine st10.trans ?_
    show Steps p.tables e below (T10.setTop (mkL fx m 52 #[vR fx, vR xe] [(.ref b7), (.ref fx)])) _
    refine st15 _ ?_
    show Steps p.tables e below (T15.setTop (mkL fx m 55 #[vR fx, vR xe] [])) _
    refine XS.aloadN X15.here hx rfl (hb hby d13_55) rfl rfl ?_
    show Steps p.tables e below (T15.setTop (mkL fx m 56 #[vR fx, vR xe] [(.ref fx)])) _
    refine st16 _ ?_
    show Steps p.tables e below (T16.setTop (mkL fx m 59 #[vR fx, vR xe] [(.ref b7)])) _
    refine XS.aloadN X16.here hx rfl (hb hby d13_59) rfl rfl ?_
    show Steps p.tables e below (T16.setTop (mkL fx m 60 #[vR fx, vR xe] [(.ref xe), (.ref b7)])) _
    refine st24.trans ?_
    show Steps p.tables e below (T24.setTop (mkL fx m 65 #[vR fx, vR xe] [(.int 1)])) _
    refine XS.pop X24.here hx rfl (hb hby d13_65) rfl rfl ?_
    show Steps p.tables e below (T24.setTop (mkL fx m 66 #[vR fx, vR xe] [])) _
    exact retS0 X24 hx Bd.returns (hb hby d13_66) hr
  · have hU := own_untk hre.2.2.2 hh Nf
    have OV := Oc24.keep Kv (allS (P := fun x => n0 ≤ x) gf all0)
    have KV := Kp24.trans Kv (allS (P := fun x => x ∈ [fx] ∨ h0.size ≤ x) (Or.inl (List.mem_cons_self ..)) all0)
    exact ⟨N24, rfl, OV, KV, fa25.mon Mv, hU, b7, bb10, kk24, xe, fa26.mon Mv, gx7, gx10, Ec24.mon Mv, La24.mon Mv, Lb24.mon Mv, Lc24.mon Mv, Va24.keep Kv (ninS (Ne.symm ne_fx_10) nin0), Ea24.mon Mv, Ov24, fa27.mon Mv⟩
  · have crF := cr24.trans (CHv.at X24 hZ1 hEL hC24)
    rw [hh, hvm]
    exact crF.trans (CHr.keep Kv (sfS (Safe.exa (EL := consts_1) (hZ1.alike.trans X24.warmed.alike) fa25 (by decide) (by decide)) sf0) crF.1)
theorem rmSup1 (l : Launch) (Z : State) (a0 : Array Value) (hw : OwHw Z a0) (ws : List Jvm.Cond) (n0 : Nat) (h0 : Heap) (O : Old Z n0 h0) (qqR qqN qqK qqU qqS qqE : Addr) (qqI : Int32) (qqM : Addr) (W : OwW Z qqR qqN qqK qqU qqS qqE qqI qqM) (fx xe : Addr) (li ar : Addr) (ka : ClassId) (xo : Addr) (Ef : Exa Z h0 fx zs15) (Nf : Unt h0 fx) (Sf : Fld Z h0 fx zs20 "suppressedExceptions" "Ljava/util/List;" (.ref li)) (Ex : Exa Z h0 xe zs15) (nx : fx ≠ xe) (gf : n0 ≤ fx) (El : Exa Z h0 li zs22) (Lf0 : Fld Z h0 li zs21 "modCount" "I" (.int 1)) (Lf1 : Fld Z h0 li zs22 "elementData" zs6 (.ref ar)) (Lf2 : Fld Z h0 li zs22 "size" "I" (.int 1)) (Va : Arv Z h0 ar ka (.object zs16) (1 : Int32) [(.ref xo)] .null) (Ea : Exa Z h0 ar zs6) (Oa : Ovr Z ka zs16) (Eo : Exa Z h0 xo zs15) (gl : n0 ≤ li) (gr : n0 ≤ ar) :
    MetFree l yy31 (head1 (Jvm.Cond.codeSync yy31 j28 2 none :: Jvm.Cond.instanceMethod yy31 :: ws) (rM 7 3 138 104)) (fun a U => a = #[(.ref fx), (.ref xe)] ∧ Z.Warmed39 U.vm ∧ U.heap = h0 ∧ CHv Z consts_1 U.vm h0 ∧ ∃ cell : Cell, h0[fx]? = some cell ∧ cell.enterable U.cur) (fun _ _ _ _ _ => True) (fun _ U o U' => ∃ v L, o = .returned v ∧ (OwP (fun v h => v = none ∧ Old Z n0 h ∧ Keep h0 h [fx, li]) n0) v U'.heap L ∧ CHr Z consts_1 U.vm U.heap U'.vm U'.heap ∧ ReturnedEndW U o U' L (rM 7 3 138 104).cells (rM 7 3 138 104).slots) := by
  refine MetFree.of_bodySync (plainFor_of_name owpn13) (hisS (List.mem_cons_self ..)) (fun _ s _ hp => by obtain ⟨h1, _, h2, _, cl, h3, h4⟩ := hp; exact ⟨fx, cl, by rw [h1]; rfl, by rw [h2]; exact h3, h4⟩) ?_
  intro p e s0 m args below meth c a' cell s₁ Bd hml0 hP _
  have hi := @own_hi Z a0 hw
  obtain ⟨rfl, hZ0, hh, hC00, -⟩ := hP
  cases Bd.receiver
  have hx := Bd.exec
  have hby := Bd.bytes
  have hml : c.maxLocals = 2 := hml0
  obtain ⟨s, hs⟩ : ∃ s : State, s = s0.setCell fx (cell.withEntry s0.cur) := ⟨_, rfl⟩
  have hZ : Z.Warmed39 s.vm := by rw [hs]; exact hZ0
  have hown : s.vm.findClass zs20 = some m.cls := by rw [hs]; exact findClass_of_methodNamed Bd.named
  have X0 : Stand p l e (rM 7 3 138 104) s m #[(.ref fx), (.ref xe)] below meth c s₁ [] 0 0 := by rw [hs]; exact Stand.of_bodySync Bd
  obtain ⟨hq, e0⟩ : ∃ hq : Heap, s₁.heap = hq := ⟨_, rfl⟩
  have hqe : hq = h0.setIfInBounds fx (cell.withEntry s0.cur) := by rw [← e0, Bd.state, ← hh]; rfl
  have hob : h0[fx]? = some cell := by rw [← hh]; exact Bd.object
  have Mq : Mon h0 hq := by rw [hqe]; exact mon_set hob _
  have Kq : Keep h0 hq [fx] := by rw [hqe]; exact own_keepset hob rfl rfl rfl
  have Oq := O.keep Kq (allS (P := fun x => n0 ≤ x) gf all0)
  have Kq0 : Keep h0 hq [fx, li] := own_kw Kq (allS (P := fun x => x ∈ [fx, li]) (List.mem_cons_self ..) all0)
  have N0 := Fr.nil n0
  have WW := W
  obtain ⟨ES, nzI, SR, SN, FR, FN, SK, FK, SU, SS, SC, nRN, nKN, Mo, -⟩ := WW
  have Y0 : Stand p l e (rM 7 3 138 104) (s.setVm s.vm) m #[(.ref fx), (.ref xe)] below meth c s₁ [] 0 0 := X0
  have hS0 : s.Since s.vm s.heap.size := (State.WarmedH.refl s).since _
  have hk0 : s.heap.size ≤ hq.size := Nat.le_of_eq (by rw [hs, hqe, ← hh]; simp [State.setCell])
  have wS : ∀ a ∈ Bundle.stringAtoms, a.before a0 Z = true := fun a ha => hw a (own_strin a ha)
  have hEL := own_EW hw
  have vms : s.vm = s0.vm := by rw [hs]; rfl
  have cr0 : CHr Z consts_1 s0.vm h0 s.vm hq := by rw [vms]; exact CHr.keep Kq (sfS (Safe.exa (EL := consts_1) hZ0.alike Ef (by decide) (by decide)) sf0) hC00
  have hC0 := cr0.1
  obtain ⟨a1, T1, h1, k1, X1, e1, E1, hS1, hk1, hZ1, hown1, ct1, Lt1, st1⟩ := own_ldcwO Y0 hx hZ hown (hi 120 rfl) wS e0 hS0 hk0 hEL hC0 (g := (mkL fx m 18 #[vR fx, vR xe] [(.ref xe)])) rfl (hb hby d13_18) (n := 132) (by decide) (by decide) (by decide) (by decide)
  obtain ⟨bb1, kk1, Es1, Fc1, Fv1, Va1⟩ := own_ldcwC hZ1 (hi 120 rfl) (by decide : (zs20, 258) ∈ consts_1) ct1.1 Lt1 (vs := [(.int 67), (.int 97), (.int 110), (.int 110), (.int 111), (.int 116), (.int 32), (.int 115), (.int 117), (.int 112), (.int 112), (.int 114), (.int 101), (.int 115), (.int 115), (.int 32), (.int 97), (.int 32), (.int 110), (.int 117), (.int 108), (.int 108), (.int 32), (.int 101), (.int 120), (.int 99), (.int 101), (.int 112), (.int 116), (.int 105), (.int 111), (.int 110), (.int 46)]) (z := (33 : Int32)) ⟨by decide, by decide⟩ (by decide) rfl
  have hC1 := ct1.1
  have cr1 := cr0.trans ct1
  have O1 := Oq.ext E1
  have Kp1 : Keep h0 h1 [fx, li] := Kq0.ext E1
  obtain ⟨_, _, ⟨T2, L2, k2, n2⟩, -, X2, ⟨Lc2, hQ2, l2, y2, z2⟩, st2⟩ := Jvm.LawKit.callS X1 hx (y := yy46) hown1 (mvT hZ1 (hi 121 rfl)) (mvT hZ1 (hi 122 rfl)) (mvT hZ1 (hi 123 rfl)) (mvT hZ1 (hi 124 rfl)) (by decide) (backOf (W := 2) (rmRnn l Z a0 hw [] n0 h1 O1 qqR qqN qqK qqU qqS qqE qqI qqM W xe a1) hZ1 (hi 124 rfl) (hi 123 rfl) (by decide) (by decide)) (g := (mkL fx m 21 #[vR fx, vR xe] [(.ref a1), (.ref xe)])) rfl (by rw [hml]; rfl) (argsL := [(.ref xe), (.ref a1)]) (rest := []) (lenOf owpd23 rfl) rfl (Nat.le_of_eq rfl) (hb hby d13_21) (fun _ _ => ⟨rfl, e1, (by decide : 2 + 0 ≤ _), (by decide : 136 + 0 ≤ _)⟩)
  dsimp only [Pt.U, Pt.locs, Pt.cells, Pt.slots] at X2 l2 y2 z2 st2 hQ2
  subst l2 y2 z2
  obtain ⟨rfl, Nq2, e2⟩ := hQ2
  have N2 := Fr.app N0 Nq2
  have fa3 := ((Sf.mon Mq).ext E1)
  obtain ⟨T4, X4, e4, st4⟩ := getF X2 hx hZ1 hown1 (host := "") (Or.inl (hi 22 rfl)) Via.refl e2 fa3 (g := (mkL fx m 26 #[vR fx, vR xe] [(.ref fx)])) rfl rfl (hb hby d13_26)
  obtain ⟨T5, X5, e5, st5⟩ := getF X4 hx hZ1 hown1 (host := "") (Or.inl (hi 22 rfl)) Via.refl e4 fa3 (g := (mkL fx m 34 #[vR fx, vR xe] [(.ref fx)])) rfl rfl (hb hby d13_34)
  obtain ⟨T6, X6, e6, st6⟩ := getS2 X5 hx hZ1 hown1 (host := "") (Or.inl (hi 21 rfl)) Via.refl e5 (SS.ext O1.2) (g := (mkL fx m 37 #[vR fx, vR xe] [(.ref li)])) rfl (hb hby d13_37)
  have fa7 := ((El.mon Mq).ext E1)
  obtain ⟨T8, X8, e8, st8⟩ := getF X6 hx hZ1 hown1 (host := "") (Or.inl (hi 22 rfl)) Via.refl e6 fa3 (g := (mkL fx m 56 #[vR fx, vR xe] [(.ref fx)])) rfl rfl (hb hby d13_56)
  have fa9 := ((Ea.mon Mq).ext E1)
  have fa10 := ((Ef.mon Mq).ext E1)
  have fa11 := ((Va.keep Kq (ninS (Exa.ne fa9 fa10 (by decide)) nin0)).ext E1)
  have fa12 := ((Lf0.mon Mq).ext E1)
  have fa13 := ((Lf1.mon Mq).ext E1)
  have fa14 := ((Lf2.mon Mq).ext E1)
  have fa15 := ((Ex.mon Mq).ext E1)
  have fa16 := ((Eo.mon Mq).ext E1)
  obtain ⟨cq17, kq17, q17a, q17b, q17c⟩ := isOf hZ1 e8 fa7
  obtain ⟨_, _, ⟨T17, L17, k17, n17⟩, -, X17, ⟨Lc17, hQ17, l17, y17, z17⟩, st17⟩ := X8.interfaceBack hx (xi := yy45) (y := yy35) hown1 (mvT hZ1 (hi 150 rfl)) (mvT hZ1 (hi 151 rfl)) (mvT hZ1 (hi 152 rfl)) (mvT hZ1 (hi 153 rfl)) (mvT hZ1 (hi 154 rfl)) (mvT hZ1 (hi 155 rfl)) (mvT hZ1 (hi 156 rfl)) (mvT hZ1 (hi 157 rfl)) (by decide) (backOf (W := 2) (rmAd1_1 l Z a0 hw [] n0 h1 O1 qqR qqN qqK qqU qqS qqE qqI qqM W li ar ka xe xo fa7 fa12 fa13 fa14 fa11 fa9 Oa fa15 fa16 gl gr) hZ1 (hi 158 rfl) (hi 127 rfl) (by decide) (by decide)) q17a q17b q17c (g := (mkL fx m 60 #[vR fx, vR xe] [(.ref xe), (.ref li)])) rfl (by rw [hml]; rfl) (Steps.refl _) (argsL := [(.ref xe)]) (rest := []) (lenOf owpd24 rfl) rfl (Nat.le_of_eq rfl) (hb hby d13_60) (fun _ _ => ⟨rfl, e8, (by decide : 2 + 1 ≤ _), (by decide : 136 + 2 ≤ _)⟩)
  dsimp only [Pt.U, Pt.locs, Pt.cells, Pt.slots] at X17 l17 y17 z17 st17 hQ17
  subst l17 y17 z17
  obtain ⟨Nq17, hP17⟩ := hQ17
  have N17 := Fr.app N2 Nq17
  have ee17 : T17.heap = T17.heap := rfl
  obtain ⟨rfl, Oc17, Kc17, bb17, kk17, hb17, Ec17, La17, Lb17, Lc17, Va17, Ea17, Ov17⟩ := hP17
  have ne_fx_17 : fx ≠ bb17 := Nat.ne_of_lt (Nat.lt_of_lt_of_le fa10.lt hb17)
  have ne_xe_17 : xe ≠ bb17 := Nat.ne_of_lt (Nat.lt_of_lt_of_le fa15.lt hb17)
  have ne_li_17 : li ≠ bb17 := Nat.ne_of_lt (Nat.lt_of_lt_of_le fa7.lt hb17)
  have ne_ar_17 : ar ≠ bb17 := Nat.ne_of_lt (Nat.lt_of_lt_of_le fa9.lt hb17)
  have ne_xo_17 : xo ≠ bb17 := Nat.ne_of_lt (Nat.lt_of_lt_of_le fa16.lt hb17)
  have gx17 : n0 ≤ bb17 := Nat.le_trans (Nat.le_trans (Nat.le_of_eq O1.1.symm) O1.2.1) hb17
  have sz17 : h0.size ≤ bb17 := Nat.le_trans Kp1.1 hb17
  have ct17 := CHr.keep Kc17 (sfS (Safe.exa (EL := consts_1) hZ1.alike fa7 (by decide) (by decide)) sf0) hC1
  have hC17 := ct17.1
  have cr17 := cr1.trans ct17
  have hkk17 := Nat.le_trans hk1 Kc17.1
  have Kp17 : Keep h0 T17.heap [fx, li] := Kp1.trans Kc17 (allS (P := fun x => x ∈ [fx, li] ∨ h0.size ≤ x) (Or.inl (List.mem_of_getElem? (i := 1) rfl)) (all0 (P := fun x => x ∈ [fx, li] ∨ h0.size ≤ x)))
  have fa18 := (fa10.keep Kc17)
  subst hs
  obtain ⟨Vs, hr, hrun, hended, Mv, Kv, hvm, hre⟩ := own_leaveSW X17 Bd.object Bd.enterable Bd.synchronized (own_since hS1) (by rw [ee17]; exact hkk17) (v := none) (fun _ => rfl)
  rw [ee17] at Mv Kv
  refine ⟨Vs, _, ?_, hrun, hended, none, _, rfl, ?_, ?_, hre.1, hre.2.1, hre.2.2.1, hre.2.2.2.mono (by decide) (by decide)⟩
  · show Steps p.tables e below (s₁.setTop (mkL fx m 0 #[vR fx, vR xe] [])) Vs
    show Steps p.tables e below (s₁.setTop (mkL fx m 0 #[vR fx, vR xe] [])) _
    refine XS.aloadN Y0.here hx rfl (hb hby d13_0) rfl rfl ?_
    refine XS.aloadN Y0.here hx rfl (hb hby d13_1) rfl rfl ?_
    show Steps p.tables e below (s₁.setTop (mkL fx m 2 #[vR fx, vR xe] [(.ref fx), (.ref xe)])) _
    refine Jvm.RoadKit.acmp (g := (mkL fx m 2 #[vR fx, vR xe] [(.ref fx), (.ref xe)])) Y0 hx rfl rfl rfl (pc0 := 2) (pc' := 17) (same := false) rfl (hb hby d13_2) rfl (decide_eq_false fun q => (Ne.symm nx) (Value.ref.inj q)) (by decide) (by decide) ?_
    show Steps p.tables e below (s₁.setTop (mkL fx m 17 #[vR fx, vR xe] [])) _
    refine XS.aloadN Y0.here hx rfl (hb hby d13_17) rfl rfl ?_
    show Steps p.tables e below (s₁.setTop (mkL fx m 18 #[vR fx, vR xe] [(.ref xe)])) _
    refine st1 _ ?_
    show Steps p.tables e below (T1.setTop (mkL fx m 21 #[vR fx, vR xe] [(.ref a1), (.ref xe)])) _
    refine st2 _ ?_
    show Steps p.tables e below (T2.setTop (mkL fx m 24 #[vR fx, vR xe] [(.ref xe)])) _
    refine XS.pop X2.here hx rfl (hb hby d13_24) rfl rfl ?_
    refine XS.aloadN X2.here hx rfl (hb hby d13_25) rfl rfl ?_
    show Steps p.tables e below (T2.setTop (mkL fx m 26 #[vR fx, vR xe] [(.ref fx)])) _
    refine st4 _ ?_
    show Steps p.tables e below (T4.setTop (mkL fx m 29 #[vR fx, vR xe] [(.ref li)])) _
    refine XS.ifnonnullYes X4.here hx rfl (pc0 := 29) (pc' := 33) rfl (hb hby d13_29) rfl (by decide) (by decide) ?_
    refine XS.aloadN X4.here hx rfl (hb hby d13_33) rfl rfl ?_
    show Steps p.tables e below (T4.setTop (mkL fx m 34 #[vR fx, vR xe] [(.ref fx)])) _
    refine st5 _ ?_
    show Steps p.tables e below (T5.setTop (mkL fx m 37 #[vR fx, vR xe] [(.ref li)])) _
    refine st6 _ ?_
    show Steps p.tables e below (T6.setTop (mkL fx m 40 #[vR fx, vR xe] [(.ref qqS), (.ref li)])) _
    refine Jvm.RoadKit.acmp (g := (mkL fx m 40 #[vR fx, vR xe] [(.ref qqS), (.ref li)])) X6 hx rfl rfl rfl (pc0 := 40) (pc' := 55) (same := false) rfl (hb hby d13_40) rfl (decide_eq_false fun q => (Exa.ne fa7 (ES.ext O1.2) (by decide)) (Value.ref.inj q)) (by decide) (by decide) ?_
    show Steps p.tables e below (T6.setTop (mkL fx m 55 #[vR fx, vR xe] [])) _
    refine XS.aloadN X6.here hx rfl (hb hby d13_55) rfl rfl ?_
    show Steps p.tables e below (T6.setTop (mkL fx m 56 #[vR fx, vR xe] [(.ref fx)])) _
    refine st8 _ ?_
    show Steps p.tables e below (T8.setTop (mkL fx m 59 #[vR fx, vR xe] [(.ref li)])) _
    refine XS.aloadN X8.here hx rfl (hb hby d13_59) rfl rfl ?_
    show Steps p.tables e below (T8.setTop (mkL fx m 60 #[vR fx, vR xe] [(.ref xe), (.ref li)])) _
    refine st17.trans ?_
    show Steps p.tables e below (T17.setTop (mkL fx m 65 #[vR fx, vR xe] [(.int 1)])) _
    refine XS.pop X17.here hx rfl (hb hby d13_65) rfl rfl ?_
    show Steps p.tables e below (T17.setTop (mkL fx m 66 #[vR fx, vR xe] [])) _
    exact retS0 X17 hx Bd.returns (hb hby d13_66) hr
  · have hU := own_untk hre.2.2.2 hh Nf
    have OV := Oc17.keep Kv (allS (P := fun x => n0 ≤ x) gf all0)
    have KV := Kp17.trans Kv (allS (P := fun x => x ∈ [fx, li] ∨ h0.size ≤ x) (Or.inl (List.mem_cons_self ..)) all0)
    exact ⟨N17, rfl, OV, KV⟩
  · have crF := cr17.trans (CHv.at X17 hZ1 hEL hC17)
    rw [hh, hvm]
    exact crF.trans (CHr.keep Kv (sfS (Safe.exa (EL := consts_1) (hZ1.alike.trans X17.warmed.alike) fa18 (by decide) (by decide)) sf0) crF.1)
theorem rmCf1 (l : Launch) (Z : State) (a0 : Array Value) (hw : OwHw Z a0) (ws : List Jvm.Cond) (n0 : Nat) (h0 : Heap) (O : Old Z n0 h0) (qqR qqN qqK qqU qqS qqE : Addr) (qqI : Int32) (qqM : Addr) (W : OwW Z qqR qqN qqK qqU qqS qqE qqI qqM) (u xe : Addr) (cm : Int32) (wk : Addr) (fl : Value) (U : owU Z h0 u cm wk fl) (gu : n0 ≤ u) :
    OwConH l yy1 j20 3 none ws (rM 0 2 256 0) #[(.ref u), (.ref xe), (.int 1)] Z h0 consts_1 (OwP (fun v h => v = none ∧ Old Z n0 h ∧ Keep h0 h [u] ∧ owU Z h u cm qqR (.ref xe)) n0) := by
  refine MetFree.of_bodySF (plainFor_of_name owpn10) hisR ?_
  intro p e s m args below meth c s₁ Bd hml0 hP hK
  have hi := @own_hi Z a0 hw
  obtain ⟨rfl, hZ, hh, hC0⟩ := hP
  have hx := Bd.exec
  have hby := Bd.bytes
  have hml : c.maxLocals = 3 := hml0
  have hown := findClass_of_methodNamed Bd.named
  have X0 : Stand p l e (rM 0 2 256 0) s m #[(.ref u), (.ref xe), (.int 1)] below meth c s₁ [] 0 0 := Stand.of_body Bd
  have e0 : s₁.heap = h0 := by rw [← hh, Bd.state]; rfl
  have N0 := Fr.nil n0
  have WW := W
  obtain ⟨ES, nzI, SR, SN, FR, FN, SK, FK, SU, SS, SC, nRN, nKN, Mo, -⟩ := WW
  have ef : entryFrame m #[(.ref u), (.ref xe), (.int 1)] 3 = mkF m 0 #[.val (.ref u), .val (.ref xe), .val (.int 1)] [] := by first | (simp [entryFrame, mkF, argsToLocals, Value.category]; done) | rfl
  have Y0 : Stand p l e (rM 0 2 256 0) (s.setVm s.vm) m #[(.ref u), (.ref xe), (.int 1)] below meth c s₁ [] 0 0 := X0
  have hS0 : s.Since s.vm s.heap.size := (State.WarmedH.refl s).since _
  have hk0 : s.heap.size ≤ h0.size := Nat.le_of_eq (by rw [← hh])
  have wS : ∀ a ∈ Bundle.stringAtoms, a.before a0 Z = true := fun a ha => hw a (own_strin a ha)
  have cr0 := CHr.refl hC0
  have hEL := own_EW hw
  obtain ⟨Eu, Uc, Uw, Uf, xv, Ux⟩ := id U
  obtain ⟨T1, h1, X1, e1, W1, st1⟩ := putF Y0 hx hZ hown (host := "") (Or.inl (hi 78 rfl)) Via.refl e0 Uf Eu (Or.inl (hi 79 rfl)) (hi 49 rfl) (ty := (.object zs15)) (by decide) rfl rfl (g := (mkF m 2 #[vR u, vR xe, vI 1] [(.ref xe), (.ref u)])) rfl rfl (hb hby d10_2)
  have Fw1 := Uf.same W1
  have N1 := Fr.snoc X1 N0 gu
  have O1 := O.wr W1 gu
  have hkk1 := Nat.le_trans hk0 (Nat.le_of_eq W1.size.symm)
  have ct1 := CHr.wr W1 (Safe.exa (EL := consts_1) hZ.alike Eu (by decide) (by decide)) hC0
  have hC1 := ct1.1
  have cr1 := cr0.trans ct1
  have Kp1 : Keep h0 h1 [u] := (Keep.refl h0 [u]).wr W1 (Or.inl (List.mem_of_getElem? (i := 0) rfl))
  obtain ⟨a2, T2, h2, k2, bb2, kk2, X2, e2, E2, hS2, hk2, hZ2, hown2, Es2, Fc2, Fv2, Va2, -, -, ct2, -, -, st2⟩ := ldcCH X1 hx hZ hown (hi 99 rfl) wS e1 hS0 hkk1 hEL (by decide : (zs9, 29) ∈ consts_1) hC1 (vs := [(.int 67), (.int 111), (.int 117), (.int 108), (.int 100), (.int 32), (.int 110), (.int 111), (.int 116), (.int 32), (.int 99), (.int 111), (.int 109), (.int 109), (.int 105), (.int 116), (.int 32), (.int 116), (.int 104), (.int 101), (.int 32), (.int 117), (.int 110), (.int 105), (.int 116), (.int 32), (.int 111), (.int 102), (.int 32), (.int 119), (.int 111), (.int 114), (.int 107), (.int 59), (.int 32), (.int 105), (.int 116), (.int 115), (.int 32), (.int 99), (.int 104), (.int 97), (.int 110), (.int 103), (.int 101), (.int 115), (.int 32), (.int 119), (.int 101), (.int 114), (.int 101), (.int 32), (.int 114), (.int 111), (.int 108), (.int 108), (.int 101), (.int 100), (.int 32), (.int 98), (.int 97), (.int 99), (.int 107)]) (z := (63 : Int32)) ⟨by decide, by decide⟩ (by decide) rfl (g := (mkF m 10 #[vR u, vR xe, vI 1] [(.ref u)])) rfl (hb hby d10_10) (n := 252) (by decide) (by decide) (by decide) (by decide)
  have hC2 := ct2.1
  have cr2 := cr1.trans ct2
  have O2 := O1.ext E2
  have Kp2 : Keep h0 h2 [u] := Kp1.ext E2
  have fa3 := ((Ux.other W1 (Or.inr (slot_ne (Or.inl (hi 89 rfl)) (Or.inl (hi 79 rfl)) (by decide) (t := (.object zs18)) (t' := (.object zs15)) (by decide) (by decide)))).ext E2)
  have fa4 := ((Eu.wr W1).ext E2)
  obtain ⟨T5, h5, X5, e5, W5, st5⟩ := putF X2 hx hZ2 hown2 (host := "") (Or.inl (hi 88 rfl)) Via.refl e2 fa3 fa4 (Or.inl (hi 89 rfl)) (hi 49 rfl) (ty := (.object zs18)) (by decide) rfl rfl (g := (mkF m 17 #[vR u, vR xe, vI 1] [(.ref a2), (.ref u)])) rfl rfl (hb hby d10_17)
  have Fw5 := fa3.same W5
  have N5 := Fr.snoc X5 N1 gu
  have O5 := O2.wr W5 gu
  have hkk5 := Nat.le_trans hk2 (Nat.le_of_eq W5.size.symm)
  have ct5 := CHr.wr W5 (Safe.exa (EL := consts_1) hZ2.alike fa4 (by decide) (by decide)) hC2
  have hC5 := ct5.1
  have cr5 := cr2.trans ct5
  have Kp5 : Keep h0 h5 [u] := Kp2.wr W5 (Or.inl (List.mem_of_getElem? (i := 0) rfl))
  obtain ⟨T6, X6, e6, st6⟩ := getS2 X5 hx hZ2 hown2 (host := "") (Or.inl (hi 57 rfl)) Via.refl e5 (SR.ext O5.2) (g := (mkF m 25 #[vR u, vR xe, vI 1] [(.ref u)])) rfl (hb hby d10_25)
  have fa7 := (((Uw.other W1 (Or.inr (slot_ne (Or.inl (hi 61 rfl)) (Or.inl (hi 79 rfl)) (by decide) (t := (.object zs10)) (t' := (.object zs15)) (by decide) (by decide)))).ext E2).other W5 (Or.inr (slot_ne (Or.inl (hi 61 rfl)) (Or.inl (hi 89 rfl)) (by decide) (t := (.object zs10)) (t' := (.object zs18)) (by decide) (by decide))))
  have fa8 := (fa4.wr W5)
  obtain ⟨T9, h9, X9, e9, W9, st9⟩ := putF X6 hx hZ2 hown2 (host := "") (Or.inl (hi 60 rfl)) Via.refl e6 fa7 fa8 (Or.inl (hi 61 rfl)) (hi 49 rfl) (ty := (.object zs10)) (by decide) rfl rfl (g := (mkF m 34 #[vR u, vR xe, vI 1] [(.ref qqR), (.ref u)])) rfl rfl (hb hby d10_34)
  have Fw9 := fa7.same W9
  have N9 := Fr.snoc X9 N5 gu
  have O9 := O5.wr W9 gu
  have hkk9 := Nat.le_trans hkk5 (Nat.le_of_eq W9.size.symm)
  have ct9 := CHr.wr W9 (Safe.exa (EL := consts_1) hZ2.alike fa8 (by decide) (by decide)) hC5
  have hC9 := ct9.1
  have cr9 := cr5.trans ct9
  have Kp9 : Keep h0 h9 [u] := Kp5.wr W9 (Or.inl (List.mem_of_getElem? (i := 0) rfl))
  have fa10 := (fa8.wr W9)
  have fa11 := ((((Uc.other W1 (Or.inr (slot_ne (Or.inr (hi 56 rfl)) (Or.inl (hi 79 rfl)) (by decide) (t := .boolean) (t' := (.object zs15)) (by decide) (by decide)))).ext E2).other W5 (Or.inr (slot_ne (Or.inr (hi 56 rfl)) (Or.inl (hi 89 rfl)) (by decide) (t := .boolean) (t' := (.object zs18)) (by decide) (by decide)))).other W9 (Or.inr (slot_ne (Or.inr (hi 56 rfl)) (Or.inl (hi 61 rfl)) (by decide) (t := .boolean) (t' := (.object zs10)) (by decide) (by decide))))
  have fa12 := (((Fw1.ext E2).other W5 (Or.inr (slot_ne (Or.inl (hi 79 rfl)) (Or.inl (hi 89 rfl)) (by decide) (t := (.object zs15)) (t' := (.object zs18)) (by decide) (by decide)))).other W9 (Or.inr (slot_ne (Or.inl (hi 79 rfl)) (Or.inl (hi 61 rfl)) (by decide) (t := (.object zs15)) (t' := (.object zs10)) (by decide) (by decide))))
  have fa13 := (Fw5.other W9 (Or.inr (slot_ne (Or.inl (hi 89 rfl)) (Or.inl (hi 61 rfl)) (by decide) (t := (.object zs18)) (t' := (.object zs10)) (by decide) (by decide))))
  obtain ⟨fs, hr, hrun, hended, hend⟩ := X9.leaveW hS2 (by rw [e9]; exact hkk9) (v := none) (fun _ => rfl)
  refine ⟨_, _, castTop ef ?_, hrun, hended, _, _, rfl, ?_, ?_, hend.1, hend.2.1, hend.2.2.1, hend.2.2.2.mono (by decide) (by decide)⟩
  · show OwG p e below s₁ m 0 #[vR u, vR xe, vI 1] [] _
    refine XS.aloadN Y0.here hx rfl (hb hby d10_0) rfl rfl ?_
    show OwG p e below s₁ m 1 #[vR u, vR xe, vI 1] [(.ref u)] _
    refine XS.aloadN Y0.here hx rfl (hb hby d10_1) rfl rfl ?_
    show OwG p e below s₁ m 2 #[vR u, vR xe, vI 1] [(.ref xe), (.ref u)] _
    refine st1 _ ?_
    show OwG p e below T1 m 5 #[vR u, vR xe, vI 1] [] _
    refine XS.aloadN X1.here hx rfl (hb hby d10_5) rfl rfl ?_
    refine XS.iloadN X1.here hx rfl (hb hby d10_6) rfl ?_
    refine XS.ifNo X1.here hx rfl (hb hby d10_7) rfl ((if0 _ _).trans (feq (by decide : ¬ ((1 : Int32) = (0 : Int32)))).1) ?_
    show OwG p e below T1 m 10 #[vR u, vR xe, vI 1] [(.ref u)] _
    refine st2 _ ?_
    show OwG p e below T2 m 12 #[vR u, vR xe, vI 1] [(.ref a2), (.ref u)] _
    refine XS.goto X2.here hx rfl (pc0 := 12) (pc' := 17) rfl (hb hby d10_12) (by decide) (by decide) ?_
    show OwG p e below T2 m 17 #[vR u, vR xe, vI 1] [(.ref a2), (.ref u)] _
    refine st5 _ ?_
    show OwG p e below T5 m 20 #[vR u, vR xe, vI 1] [] _
    refine XS.aloadN X5.here hx rfl (hb hby d10_20) rfl rfl ?_
    refine XS.iloadN X5.here hx rfl (hb hby d10_21) rfl ?_
    refine XS.ifNo X5.here hx rfl (hb hby d10_22) rfl ((if0 _ _).trans (feq (by decide : ¬ ((1 : Int32) = (0 : Int32)))).1) ?_
    show OwG p e below T5 m 25 #[vR u, vR xe, vI 1] [(.ref u)] _
    refine st6 _ ?_
    show OwG p e below T6 m 28 #[vR u, vR xe, vI 1] [(.ref qqR), (.ref u)] _
    refine XS.goto X6.here hx rfl (pc0 := 28) (pc' := 34) rfl (hb hby d10_28) (by decide) (by decide) ?_
    show OwG p e below T6 m 34 #[vR u, vR xe, vI 1] [(.ref qqR), (.ref u)] _
    refine st9 _ ?_
    show OwG p e below T9 m 37 #[vR u, vR xe, vI 1] [] _
    exact X9.returnOut hx Bd.returns (hb hby d10_37) hr
  · have eF : (T9.setFrames fs).heap = h9 := e9
    exact ⟨N9, rfl, by rw [eF]; exact ⟨O9, Kp9, ⟨fa10, fa11, Fw9, fa12, _, fa13⟩⟩⟩
  · have eF : (T9.setFrames fs).heap = h9 := e9
    have crF := cr9.trans (CHv.at X9 hZ2 hEL hC9)
    rw [hh, eF]
    exact crF
theorem rmCf0 (l : Launch) (Z : State) (a0 : Array Value) (hw : OwHw Z a0) (ws : List Jvm.Cond) (n0 : Nat) (h0 : Heap) (O : Old Z n0 h0) (qqR qqN qqK qqU qqS qqE : Addr) (qqI : Int32) (qqM : Addr) (W : OwW Z qqR qqN qqK qqU qqS qqE qqI qqM) (u xe : Addr) (cm : Int32) (wk : Addr) (fl : Value) (U : owU Z h0 u cm wk fl) (gu : n0 ≤ u) :
    OwConH l yy1 j20 3 none ws (rM 0 2 208 0) #[(.ref u), (.ref xe), (.int 0)] Z h0 consts_1 (OwP (fun v h => v = none ∧ Old Z n0 h ∧ Keep h0 h [u] ∧ owU Z h u cm qqN (.ref xe)) n0) := by
  refine MetFree.of_bodySF (plainFor_of_name owpn10) hisR ?_
  intro p e s m args below meth c s₁ Bd hml0 hP hK
  have hi := @own_hi Z a0 hw
  obtain ⟨rfl, hZ, hh, hC0⟩ := hP
  have hx := Bd.exec
  have hby := Bd.bytes
  have hml : c.maxLocals = 3 := hml0
  have hown := findClass_of_methodNamed Bd.named
  have X0 : Stand p l e (rM 0 2 208 0) s m #[(.ref u), (.ref xe), (.int 0)] below meth c s₁ [] 0 0 := Stand.of_body Bd
  have e0 : s₁.heap = h0 := by rw [← hh, Bd.state]; rfl
  have N0 := Fr.nil n0
  have WW := W
  obtain ⟨ES, nzI, SR, SN, FR, FN, SK, FK, SU, SS, SC, nRN, nKN, Mo, -⟩ := WW
  have ef : entryFrame m #[(.ref u), (.ref xe), (.int 0)] 3 = mkF m 0 #[.val (.ref u), .val (.ref xe), .val (.int 0)] [] := by first | (simp [entryFrame, mkF, argsToLocals, Value.category]; done) | rfl
  have Y0 : Stand p l e (rM 0 2 208 0) (s.setVm s.vm) m #[(.ref u), (.ref xe), (.int 0)] below meth c s₁ [] 0 0 := X0
  have hS0 : s.Since s.vm s.heap.size := (State.WarmedH.refl s).since _
  have hk0 : s.heap.size ≤ h0.size := Nat.le_of_eq (by rw [← hh])
  have wS : ∀ a ∈ Bundle.stringAtoms, a.before a0 Z = true := fun a ha => hw a (own_strin a ha)
  have cr0 := CHr.refl hC0
  have hEL := own_EW hw
  obtain ⟨Eu, Uc, Uw, Uf, xv, Ux⟩ := id U
  obtain ⟨T1, h1, X1, e1, W1, st1⟩ := putF Y0 hx hZ hown (host := "") (Or.inl (hi 78 rfl)) Via.refl e0 Uf Eu (Or.inl (hi 79 rfl)) (hi 49 rfl) (ty := (.object zs15)) (by decide) rfl rfl (g := (mkF m 2 #[vR u, vR xe, vI 0] [(.ref xe), (.ref u)])) rfl rfl (hb hby d10_2)
  have Fw1 := Uf.same W1
  have N1 := Fr.snoc X1 N0 gu
  have O1 := O.wr W1 gu
  have hkk1 := Nat.le_trans hk0 (Nat.le_of_eq W1.size.symm)
  have ct1 := CHr.wr W1 (Safe.exa (EL := consts_1) hZ.alike Eu (by decide) (by decide)) hC0
  have hC1 := ct1.1
  have cr1 := cr0.trans ct1
  have Kp1 : Keep h0 h1 [u] := (Keep.refl h0 [u]).wr W1 (Or.inl (List.mem_of_getElem? (i := 0) rfl))
  obtain ⟨a2, T2, h2, k2, bb2, kk2, X2, e2, E2, hS2, hk2, hZ2, hown2, Es2, Fc2, Fv2, Va2, -, -, ct2, -, -, st2⟩ := ldcCH X1 hx hZ hown (hi 98 rfl) wS e1 hS0 hkk1 hEL (by decide : (zs9, 31) ∈ consts_1) hC1 (vs := [(.int 67), (.int 111), (.int 117), (.int 108), (.int 100), (.int 32), (.int 110), (.int 111), (.int 116), (.int 32), (.int 99), (.int 111), (.int 109), (.int 109), (.int 105), (.int 116), (.int 32), (.int 116), (.int 104), (.int 101), (.int 32), (.int 117), (.int 110), (.int 105), (.int 116), (.int 32), (.int 111), (.int 102), (.int 32), (.int 119), (.int 111), (.int 114), (.int 107), (.int 44), (.int 32), (.int 110), (.int 111), (.int 114), (.int 32), (.int 114), (.int 111), (.int 108), (.int 108), (.int 32), (.int 105), (.int 116), (.int 32), (.int 98), (.int 97), (.int 99), (.int 107)]) (z := (51 : Int32)) ⟨by decide, by decide⟩ (by decide) rfl (g := (mkF m 15 #[vR u, vR xe, vI 0] [(.ref u)])) rfl (hb hby d10_15) (n := 204) (by decide) (by decide) (by decide) (by decide)
  have hC2 := ct2.1
  have cr2 := cr1.trans ct2
  have O2 := O1.ext E2
  have Kp2 : Keep h0 h2 [u] := Kp1.ext E2
  have fa3 := ((Ux.other W1 (Or.inr (slot_ne (Or.inl (hi 89 rfl)) (Or.inl (hi 79 rfl)) (by decide) (t := (.object zs18)) (t' := (.object zs15)) (by decide) (by decide)))).ext E2)
  have fa4 := ((Eu.wr W1).ext E2)
  obtain ⟨T5, h5, X5, e5, W5, st5⟩ := putF X2 hx hZ2 hown2 (host := "") (Or.inl (hi 88 rfl)) Via.refl e2 fa3 fa4 (Or.inl (hi 89 rfl)) (hi 49 rfl) (ty := (.object zs18)) (by decide) rfl rfl (g := (mkF m 17 #[vR u, vR xe, vI 0] [(.ref a2), (.ref u)])) rfl rfl (hb hby d10_17)
  have Fw5 := fa3.same W5
  have N5 := Fr.snoc X5 N1 gu
  have O5 := O2.wr W5 gu
  have hkk5 := Nat.le_trans hk2 (Nat.le_of_eq W5.size.symm)
  have ct5 := CHr.wr W5 (Safe.exa (EL := consts_1) hZ2.alike fa4 (by decide) (by decide)) hC2
  have hC5 := ct5.1
  have cr5 := cr2.trans ct5
  have Kp5 : Keep h0 h5 [u] := Kp2.wr W5 (Or.inl (List.mem_of_getElem? (i := 0) rfl))
  obtain ⟨T6, X6, e6, st6⟩ := getS2 X5 hx hZ2 hown2 (host := "") (Or.inl (hi 67 rfl)) Via.refl e5 (SN.ext O5.2) (g := (mkF m 31 #[vR u, vR xe, vI 0] [(.ref u)])) rfl (hb hby d10_31)
  have fa7 := (((Uw.other W1 (Or.inr (slot_ne (Or.inl (hi 61 rfl)) (Or.inl (hi 79 rfl)) (by decide) (t := (.object zs10)) (t' := (.object zs15)) (by decide) (by decide)))).ext E2).other W5 (Or.inr (slot_ne (Or.inl (hi 61 rfl)) (Or.inl (hi 89 rfl)) (by decide) (t := (.object zs10)) (t' := (.object zs18)) (by decide) (by decide))))
  have fa8 := (fa4.wr W5)
  obtain ⟨T9, h9, X9, e9, W9, st9⟩ := putF X6 hx hZ2 hown2 (host := "") (Or.inl (hi 60 rfl)) Via.refl e6 fa7 fa8 (Or.inl (hi 61 rfl)) (hi 49 rfl) (ty := (.object zs10)) (by decide) rfl rfl (g := (mkF m 34 #[vR u, vR xe, vI 0] [(.ref qqN), (.ref u)])) rfl rfl (hb hby d10_34)
  have Fw9 := fa7.same W9
  have N9 := Fr.snoc X9 N5 gu
  have O9 := O5.wr W9 gu
  have hkk9 := Nat.le_trans hkk5 (Nat.le_of_eq W9.size.symm)
  have ct9 := CHr.wr W9 (Safe.exa (EL := consts_1) hZ2.alike fa8 (by decide) (by decide)) hC5
  have hC9 := ct9.1
  have cr9 := cr5.trans ct9
  have Kp9 : Keep h0 h9 [u] := Kp5.wr W9 (Or.inl (List.mem_of_getElem? (i := 0) rfl))
  have fa10 := (fa8.wr W9)
  have fa11 := ((((Uc.other W1 (Or.inr (slot_ne (Or.inr (hi 56 rfl)) (Or.inl (hi 79 rfl)) (by decide) (t := .boolean) (t' := (.object zs15)) (by decide) (by decide)))).ext E2).other W5 (Or.inr (slot_ne (Or.inr (hi 56 rfl)) (Or.inl (hi 89 rfl)) (by decide) (t := .boolean) (t' := (.object zs18)) (by decide) (by decide)))).other W9 (Or.inr (slot_ne (Or.inr (hi 56 rfl)) (Or.inl (hi 61 rfl)) (by decide) (t := .boolean) (t' := (.object zs10)) (by decide) (by decide))))
  have fa12 := (((Fw1.ext E2).other W5 (Or.inr (slot_ne (Or.inl (hi 79 rfl)) (Or.inl (hi 89 rfl)) (by decide) (t := (.object zs15)) (t' := (.object zs18)) (by decide) (by decide)))).other W9 (Or.inr (slot_ne (Or.inl (hi 79 rfl)) (Or.inl (hi 61 rfl)) (by decide) (t := (.object zs15)) (t' := (.object zs10)) (by decide) (by decide))))
  have fa13 := (Fw5.other W9 (Or.inr (slot_ne (Or.inl (hi 89 rfl)) (Or.inl (hi 61 rfl)) (by decide) (t := (.object zs18)) (t' := (.object zs10)) (by decide) (by decide))))
  obtain ⟨fs, hr, hrun, hended, hend⟩ := X9.leaveW hS2 (by rw [e9]; exact hkk9) (v := none) (fun _ => rfl)
  refine ⟨_, _, castTop ef ?_, hrun, hended, _, _, rfl, ?_, ?_, hend.1, hend.2.1, hend.2.2.1, hend.2.2.2.mono (by decide) (by decide)⟩
  · show OwG p e below s₁ m 0 #[vR u, vR xe, vI 0] [] _
    refine XS.aloadN Y0.here hx rfl (hb hby d10_0) rfl rfl ?_
    show OwG p e below s₁ m 1 #[vR u, vR xe, vI 0] [(.ref u)] _
    refine XS.aloadN Y0.here hx rfl (hb hby d10_1) rfl rfl ?_
    show OwG p e below s₁ m 2 #[vR u, vR xe, vI 0] [(.ref xe), (.ref u)] _
    refine st1 _ ?_
    show OwG p e below T1 m 5 #[vR u, vR xe, vI 0] [] _
    refine XS.aloadN X1.here hx rfl (hb hby d10_5) rfl rfl ?_
    refine XS.iloadN X1.here hx rfl (hb hby d10_6) rfl ?_
    refine XS.ifYes X1.here hx rfl (pc0 := 7) (pc' := 15) rfl (hb hby d10_7) rfl ((if0 _ _).trans (teq (by decide : (0 : Int32) = (0 : Int32))).1) (by decide) (by decide) ?_
    show OwG p e below T1 m 15 #[vR u, vR xe, vI 0] [(.ref u)] _
    refine st2 _ ?_
    show OwG p e below T2 m 17 #[vR u, vR xe, vI 0] [(.ref a2), (.ref u)] _
    refine st5 _ ?_
    show OwG p e below T5 m 20 #[vR u, vR xe, vI 0] [] _
    refine XS.aloadN X5.here hx rfl (hb hby d10_20) rfl rfl ?_
    refine XS.iloadN X5.here hx rfl (hb hby d10_21) rfl ?_
    refine XS.ifYes X5.here hx rfl (pc0 := 22) (pc' := 31) rfl (hb hby d10_22) rfl ((if0 _ _).trans (teq (by decide : (0 : Int32) = (0 : Int32))).1) (by decide) (by decide) ?_
    show OwG p e below T5 m 31 #[vR u, vR xe, vI 0] [(.ref u)] _
    refine st6 _ ?_
    show OwG p e below T6 m 34 #[vR u, vR xe, vI 0] [(.ref qqN), (.ref u)] _
    refine st9 _ ?_
    show OwG p e below T9 m 37 #[vR u, vR xe, vI 0] [] _
    exact X9.returnOut hx Bd.returns (hb hby d10_37) hr
  · have eF : (T9.setFrames fs).heap = h9 := e9
    exact ⟨N9, rfl, by rw [eF]; exact ⟨O9, Kp9, ⟨fa10, fa11, Fw9, fa12, _, fa13⟩⟩⟩
  · have eF : (T9.setFrames fs).heap = h9 := e9
    have crF := cr9.trans (CHv.at X9 hZ2 hEL hC9)
    rw [hh, eF]
    exact crF
theorem rmCu (l : Launch) (Z : State) (a0 : Array Value) (hw : OwHw Z a0) (ws : List Jvm.Cond) (n0 : Nat) (h0 : Heap) (O : Old Z n0 h0) (qqR qqN qqK qqU qqS qqE : Addr) (qqI : Int32) (qqM : Addr) (W : OwW Z qqR qqN qqK qqU qqS qqE qqI qqM) (u xe : Addr) (cm : Int32) (wk : Addr) (fl : Value) (U : owU Z h0 u cm wk fl) (gu : n0 ≤ u) :
    OwConH l yy2 j13 2 none ws (rM 0 2 136 0) #[(.ref u), (.ref xe)] Z h0 consts_1 (OwP (fun v h => v = none ∧ Old Z n0 h ∧ Keep h0 h [u] ∧ owU Z h u cm qqN (.ref xe)) n0) := by
  refine MetFree.of_bodySF (plainFor_of_name owpn8) hisR ?_
  intro p e s m args below meth c s₁ Bd hml0 hP hK
  have hi := @own_hi Z a0 hw
  obtain ⟨rfl, hZ, hh, hC0⟩ := hP
  have hx := Bd.exec
  have hby := Bd.bytes
  have hml : c.maxLocals = 2 := hml0
  have hown := findClass_of_methodNamed Bd.named
  have X0 : Stand p l e (rM 0 2 136 0) s m #[(.ref u), (.ref xe)] below meth c s₁ [] 0 0 := Stand.of_body Bd
  have e0 : s₁.heap = h0 := by rw [← hh, Bd.state]; rfl
  have N0 := Fr.nil n0
  have WW := W
  obtain ⟨ES, nzI, SR, SN, FR, FN, SK, FK, SU, SS, SC, nRN, nKN, Mo, -⟩ := WW
  have ef : entryFrame m #[(.ref u), (.ref xe)] 2 = mkF m 0 #[.val (.ref u), .val (.ref xe)] [] := by first | (simp [entryFrame, mkF, argsToLocals, Value.category]; done) | rfl
  have Y0 : Stand p l e (rM 0 2 136 0) (s.setVm s.vm) m #[(.ref u), (.ref xe)] below meth c s₁ [] 0 0 := X0
  have hS0 : s.Since s.vm s.heap.size := (State.WarmedH.refl s).since _
  have hk0 : s.heap.size ≤ h0.size := Nat.le_of_eq (by rw [← hh])
  have wS : ∀ a ∈ Bundle.stringAtoms, a.before a0 Z = true := fun a ha => hw a (own_strin a ha)
  have cr0 := CHr.refl hC0
  have hEL := own_EW hw
  obtain ⟨Eu, Uc, Uw, Uf, xv, Ux⟩ := id U
  obtain ⟨T1, h1, X1, e1, W1, st1⟩ := putF Y0 hx hZ hown (host := "") (Or.inl (hi 78 rfl)) Via.refl e0 Uf Eu (Or.inl (hi 79 rfl)) (hi 49 rfl) (ty := (.object zs15)) (by decide) rfl rfl (g := (mkF m 2 #[vR u, vR xe] [(.ref xe), (.ref u)])) rfl rfl (hb hby d8_2)
  have Fw1 := Uf.same W1
  have N1 := Fr.snoc X1 N0 gu
  have O1 := O.wr W1 gu
  have hkk1 := Nat.le_trans hk0 (Nat.le_of_eq W1.size.symm)
  have ct1 := CHr.wr W1 (Safe.exa (EL := consts_1) hZ.alike Eu (by decide) (by decide)) hC0
  have hC1 := ct1.1
  have cr1 := cr0.trans ct1
  have Kp1 : Keep h0 h1 [u] := (Keep.refl h0 [u]).wr W1 (Or.inl (List.mem_of_getElem? (i := 0) rfl))
  obtain ⟨a2, T2, h2, k2, bb2, kk2, X2, e2, E2, hS2, hk2, hZ2, hown2, Es2, Fc2, Fv2, Va2, -, -, ct2, -, -, st2⟩ := ldcCH X1 hx hZ hown (hi 80 rfl) wS e1 hS0 hkk1 hEL (by decide : (zs9, 40) ∈ consts_1) hC1 (vs := [(.int 67), (.int 111), (.int 117), (.int 108), (.int 100), (.int 32), (.int 110), (.int 111), (.int 116), (.int 32), (.int 99), (.int 111), (.int 109), (.int 109), (.int 105), (.int 116), (.int 32), (.int 116), (.int 104), (.int 101), (.int 32), (.int 117), (.int 110), (.int 105), (.int 116), (.int 32), (.int 111), (.int 102), (.int 32), (.int 119), (.int 111), (.int 114), (.int 107)]) (z := (33 : Int32)) ⟨by decide, by decide⟩ (by decide) rfl (g := (mkF m 6 #[vR u, vR xe] [(.ref u)])) rfl (hb hby d8_6) (n := 132) (by decide) (by decide) (by decide) (by decide)
  have hC2 := ct2.1
  have cr2 := cr1.trans ct2
  have O2 := O1.ext E2
  have Kp2 : Keep h0 h2 [u] := Kp1.ext E2
  have fa3 := ((Ux.other W1 (Or.inr (slot_ne (Or.inl (hi 89 rfl)) (Or.inl (hi 79 rfl)) (by decide) (t := (.object zs18)) (t' := (.object zs15)) (by decide) (by decide)))).ext E2)
  have fa4 := ((Eu.wr W1).ext E2)
  obtain ⟨T5, h5, X5, e5, W5, st5⟩ := putF X2 hx hZ2 hown2 (host := "") (Or.inl (hi 88 rfl)) Via.refl e2 fa3 fa4 (Or.inl (hi 89 rfl)) (hi 49 rfl) (ty := (.object zs18)) (by decide) rfl rfl (g := (mkF m 8 #[vR u, vR xe] [(.ref a2), (.ref u)])) rfl rfl (hb hby d8_8)
  have Fw5 := fa3.same W5
  have N5 := Fr.snoc X5 N1 gu
  have O5 := O2.wr W5 gu
  have hkk5 := Nat.le_trans hk2 (Nat.le_of_eq W5.size.symm)
  have ct5 := CHr.wr W5 (Safe.exa (EL := consts_1) hZ2.alike fa4 (by decide) (by decide)) hC2
  have hC5 := ct5.1
  have cr5 := cr2.trans ct5
  have Kp5 : Keep h0 h5 [u] := Kp2.wr W5 (Or.inl (List.mem_of_getElem? (i := 0) rfl))
  obtain ⟨T6, X6, e6, st6⟩ := getS2 X5 hx hZ2 hown2 (host := "") (Or.inl (hi 67 rfl)) Via.refl e5 (SN.ext O5.2) (g := (mkF m 12 #[vR u, vR xe] [(.ref u)])) rfl (hb hby d8_12)
  have fa7 := (((Uw.other W1 (Or.inr (slot_ne (Or.inl (hi 61 rfl)) (Or.inl (hi 79 rfl)) (by decide) (t := (.object zs10)) (t' := (.object zs15)) (by decide) (by decide)))).ext E2).other W5 (Or.inr (slot_ne (Or.inl (hi 61 rfl)) (Or.inl (hi 89 rfl)) (by decide) (t := (.object zs10)) (t' := (.object zs18)) (by decide) (by decide))))
  have fa8 := (fa4.wr W5)
  obtain ⟨T9, h9, X9, e9, W9, st9⟩ := putF X6 hx hZ2 hown2 (host := "") (Or.inl (hi 60 rfl)) Via.refl e6 fa7 fa8 (Or.inl (hi 61 rfl)) (hi 49 rfl) (ty := (.object zs10)) (by decide) rfl rfl (g := (mkF m 15 #[vR u, vR xe] [(.ref qqN), (.ref u)])) rfl rfl (hb hby d8_15)
  have Fw9 := fa7.same W9
  have N9 := Fr.snoc X9 N5 gu
  have O9 := O5.wr W9 gu
  have hkk9 := Nat.le_trans hkk5 (Nat.le_of_eq W9.size.symm)
  have ct9 := CHr.wr W9 (Safe.exa (EL := consts_1) hZ2.alike fa8 (by decide) (by decide)) hC5
  have hC9 := ct9.1
  have cr9 := cr5.trans ct9
  have Kp9 : Keep h0 h9 [u] := Kp5.wr W9 (Or.inl (List.mem_of_getElem? (i := 0) rfl))
  have fa10 := (fa8.wr W9)
  have fa11 := ((((Uc.other W1 (Or.inr (slot_ne (Or.inr (hi 56 rfl)) (Or.inl (hi 79 rfl)) (by decide) (t := .boolean) (t' := (.object zs15)) (by decide) (by decide)))).ext E2).other W5 (Or.inr (slot_ne (Or.inr (hi 56 rfl)) (Or.inl (hi 89 rfl)) (by decide) (t := .boolean) (t' := (.object zs18)) (by decide) (by decide)))).other W9 (Or.inr (slot_ne (Or.inr (hi 56 rfl)) (Or.inl (hi 61 rfl)) (by decide) (t := .boolean) (t' := (.object zs10)) (by decide) (by decide))))
  have fa12 := (((Fw1.ext E2).other W5 (Or.inr (slot_ne (Or.inl (hi 79 rfl)) (Or.inl (hi 89 rfl)) (by decide) (t := (.object zs15)) (t' := (.object zs18)) (by decide) (by decide)))).other W9 (Or.inr (slot_ne (Or.inl (hi 79 rfl)) (Or.inl (hi 61 rfl)) (by decide) (t := (.object zs15)) (t' := (.object zs10)) (by decide) (by decide))))
  have fa13 := (Fw5.other W9 (Or.inr (slot_ne (Or.inl (hi 89 rfl)) (Or.inl (hi 61 rfl)) (by decide) (t := (.object zs18)) (t' := (.object zs10)) (by decide) (by decide))))
  obtain ⟨fs, hr, hrun, hended, hend⟩ := X9.leaveW hS2 (by rw [e9]; exact hkk9) (v := none) (fun _ => rfl)
  refine ⟨_, _, castTop ef ?_, hrun, hended, _, _, rfl, ?_, ?_, hend.1, hend.2.1, hend.2.2.1, hend.2.2.2.mono (by decide) (by decide)⟩
  · show OwG p e below s₁ m 0 #[vR u, vR xe] [] _
    refine XS.aloadN Y0.here hx rfl (hb hby d8_0) rfl rfl ?_
    show OwG p e below s₁ m 1 #[vR u, vR xe] [(.ref u)] _
    refine XS.aloadN Y0.here hx rfl (hb hby d8_1) rfl rfl ?_
    show OwG p e below s₁ m 2 #[vR u, vR xe] [(.ref xe), (.ref u)] _
    refine st1 _ ?_
    show OwG p e below T1 m 5 #[vR u, vR xe] [] _
    refine XS.aloadN X1.here hx rfl (hb hby d8_5) rfl rfl ?_
    show OwG p e below T1 m 6 #[vR u, vR xe] [(.ref u)] _
    refine st2 _ ?_
    show OwG p e below T2 m 8 #[vR u, vR xe] [(.ref a2), (.ref u)] _
    refine st5 _ ?_
    show OwG p e below T5 m 11 #[vR u, vR xe] [] _
    refine XS.aloadN X5.here hx rfl (hb hby d8_11) rfl rfl ?_
    show OwG p e below T5 m 12 #[vR u, vR xe] [(.ref u)] _
    refine st6 _ ?_
    show OwG p e below T6 m 15 #[vR u, vR xe] [(.ref qqN), (.ref u)] _
    refine st9 _ ?_
    show OwG p e below T9 m 18 #[vR u, vR xe] [] _
    exact X9.returnOut hx Bd.returns (hb hby d8_18) hr
  · have eF : (T9.setFrames fs).heap = h9 := e9
    exact ⟨N9, rfl, by rw [eF]; exact ⟨O9, Kp9, ⟨fa10, fa11, Fw9, fa12, _, fa13⟩⟩⟩
  · have eF : (T9.setFrames fs).heap = h9 := e9
    have crF := cr9.trans (CHv.at X9 hZ2 hEL hC9)
    rw [hh, eF]
    exact crF
theorem rmRf (l : Launch) (Z : State) (a0 : Array Value) (hw : OwHw Z a0) (ws : List Jvm.Cond) (n0 : Nat) (h0 : Heap) (O : Old Z n0 h0) (qqR qqN qqK qqU qqS qqE : Addr) (qqI : Int32) (qqM : Addr) (W : OwW Z qqR qqN qqK qqU qqS qqE qqI qqM) (u xe : Addr) (cm : Int32) (wk : Addr) (fl : Value) (U : owU Z h0 u cm wk fl) (gu : n0 ≤ u) :
    OwConH l yy5 j10 2 none ws (rM 0 2 148 0) #[(.ref u), (.ref xe)] Z h0 consts_1 (OwP (fun v h => v = none ∧ Old Z n0 h ∧ Keep h0 h [u] ∧ owU Z h u cm qqN (.ref xe)) n0) := by
  refine MetFree.of_bodySF (plainFor_of_name owpn11) hisR ?_
  intro p e s m args below meth c s₁ Bd hml0 hP hK
  have hi := @own_hi Z a0 hw
  obtain ⟨rfl, hZ, hh, hC0⟩ := hP
  have hx := Bd.exec
  have hby := Bd.bytes
  have hml : c.maxLocals = 2 := hml0
  have hown := findClass_of_methodNamed Bd.named
  have X0 : Stand p l e (rM 0 2 148 0) s m #[(.ref u), (.ref xe)] below meth c s₁ [] 0 0 := Stand.of_body Bd
  have e0 : s₁.heap = h0 := by rw [← hh, Bd.state]; rfl
  have N0 := Fr.nil n0
  have WW := W
  obtain ⟨ES, nzI, SR, SN, FR, FN, SK, FK, SU, SS, SC, nRN, nKN, Mo, -⟩ := WW
  have ef : entryFrame m #[(.ref u), (.ref xe)] 2 = mkF m 0 #[.val (.ref u), .val (.ref xe)] [] := by first | (simp [entryFrame, mkF, argsToLocals, Value.category]; done) | rfl
  have Y0 : Stand p l e (rM 0 2 148 0) (s.setVm s.vm) m #[(.ref u), (.ref xe)] below meth c s₁ [] 0 0 := X0
  have hS0 : s.Since s.vm s.heap.size := (State.WarmedH.refl s).since _
  have hk0 : s.heap.size ≤ h0.size := Nat.le_of_eq (by rw [← hh])
  have wS : ∀ a ∈ Bundle.stringAtoms, a.before a0 Z = true := fun a ha => hw a (own_strin a ha)
  have cr0 := CHr.refl hC0
  have hEL := own_EW hw
  obtain ⟨Eu, Uc, Uw, Uf, xv, Ux⟩ := id U
  obtain ⟨T1, h1, X1, e1, W1, st1⟩ := putF Y0 hx hZ hown (host := "") (Or.inl (hi 78 rfl)) Via.refl e0 Uf Eu (Or.inl (hi 79 rfl)) (hi 49 rfl) (ty := (.object zs15)) (by decide) rfl rfl (g := (mkF m 2 #[vR u, vR xe] [(.ref xe), (.ref u)])) rfl rfl (hb hby d11_2)
  have Fw1 := Uf.same W1
  have N1 := Fr.snoc X1 N0 gu
  have O1 := O.wr W1 gu
  have hkk1 := Nat.le_trans hk0 (Nat.le_of_eq W1.size.symm)
  have ct1 := CHr.wr W1 (Safe.exa (EL := consts_1) hZ.alike Eu (by decide) (by decide)) hC0
  have hC1 := ct1.1
  have cr1 := cr0.trans ct1
  have Kp1 : Keep h0 h1 [u] := (Keep.refl h0 [u]).wr W1 (Or.inl (List.mem_of_getElem? (i := 0) rfl))
  obtain ⟨a2, T2, h2, k2, bb2, kk2, X2, e2, E2, hS2, hk2, hZ2, hown2, Es2, Fc2, Fv2, Va2, -, -, ct2, -, -, st2⟩ := ldcCH X1 hx hZ hown (hi 105 rfl) wS e1 hS0 hkk1 hEL (by decide : (zs9, 42) ∈ consts_1) hC1 (vs := [(.int 67), (.int 111), (.int 117), (.int 108), (.int 100), (.int 32), (.int 110), (.int 111), (.int 116), (.int 32), (.int 114), (.int 111), (.int 108), (.int 108), (.int 32), (.int 98), (.int 97), (.int 99), (.int 107), (.int 32), (.int 116), (.int 104), (.int 101), (.int 32), (.int 117), (.int 110), (.int 105), (.int 116), (.int 32), (.int 111), (.int 102), (.int 32), (.int 119), (.int 111), (.int 114), (.int 107)]) (z := (36 : Int32)) ⟨by decide, by decide⟩ (by decide) rfl (g := (mkF m 6 #[vR u, vR xe] [(.ref u)])) rfl (hb hby d11_6) (n := 144) (by decide) (by decide) (by decide) (by decide)
  have hC2 := ct2.1
  have cr2 := cr1.trans ct2
  have O2 := O1.ext E2
  have Kp2 : Keep h0 h2 [u] := Kp1.ext E2
  have fa3 := ((Ux.other W1 (Or.inr (slot_ne (Or.inl (hi 89 rfl)) (Or.inl (hi 79 rfl)) (by decide) (t := (.object zs18)) (t' := (.object zs15)) (by decide) (by decide)))).ext E2)
  have fa4 := ((Eu.wr W1).ext E2)
  obtain ⟨T5, h5, X5, e5, W5, st5⟩ := putF X2 hx hZ2 hown2 (host := "") (Or.inl (hi 88 rfl)) Via.refl e2 fa3 fa4 (Or.inl (hi 89 rfl)) (hi 49 rfl) (ty := (.object zs18)) (by decide) rfl rfl (g := (mkF m 8 #[vR u, vR xe] [(.ref a2), (.ref u)])) rfl rfl (hb hby d11_8)
  have Fw5 := fa3.same W5
  have N5 := Fr.snoc X5 N1 gu
  have O5 := O2.wr W5 gu
  have hkk5 := Nat.le_trans hk2 (Nat.le_of_eq W5.size.symm)
  have ct5 := CHr.wr W5 (Safe.exa (EL := consts_1) hZ2.alike fa4 (by decide) (by decide)) hC2
  have hC5 := ct5.1
  have cr5 := cr2.trans ct5
  have Kp5 : Keep h0 h5 [u] := Kp2.wr W5 (Or.inl (List.mem_of_getElem? (i := 0) rfl))
  obtain ⟨T6, X6, e6, st6⟩ := getS2 X5 hx hZ2 hown2 (host := "") (Or.inl (hi 67 rfl)) Via.refl e5 (SN.ext O5.2) (g := (mkF m 12 #[vR u, vR xe] [(.ref u)])) rfl (hb hby d11_12)
  have fa7 := (((Uw.other W1 (Or.inr (slot_ne (Or.inl (hi 61 rfl)) (Or.inl (hi 79 rfl)) (by decide) (t := (.object zs10)) (t' := (.object zs15)) (by decide) (by decide)))).ext E2).other W5 (Or.inr (slot_ne (Or.inl (hi 61 rfl)) (Or.inl (hi 89 rfl)) (by decide) (t := (.object zs10)) (t' := (.object zs18)) (by decide) (by decide))))
  have fa8 := (fa4.wr W5)
  obtain ⟨T9, h9, X9, e9, W9, st9⟩ := putF X6 hx hZ2 hown2 (host := "") (Or.inl (hi 60 rfl)) Via.refl e6 fa7 fa8 (Or.inl (hi 61 rfl)) (hi 49 rfl) (ty := (.object zs10)) (by decide) rfl rfl (g := (mkF m 15 #[vR u, vR xe] [(.ref qqN), (.ref u)])) rfl rfl (hb hby d11_15)
  have Fw9 := fa7.same W9
  have N9 := Fr.snoc X9 N5 gu
  have O9 := O5.wr W9 gu
  have hkk9 := Nat.le_trans hkk5 (Nat.le_of_eq W9.size.symm)
  have ct9 := CHr.wr W9 (Safe.exa (EL := consts_1) hZ2.alike fa8 (by decide) (by decide)) hC5
  have hC9 := ct9.1
  have cr9 := cr5.trans ct9
  have Kp9 : Keep h0 h9 [u] := Kp5.wr W9 (Or.inl (List.mem_of_getElem? (i := 0) rfl))
  have fa10 := (fa8.wr W9)
  have fa11 := ((((Uc.other W1 (Or.inr (slot_ne (Or.inr (hi 56 rfl)) (Or.inl (hi 79 rfl)) (by decide) (t := .boolean) (t' := (.object zs15)) (by decide) (by decide)))).ext E2).other W5 (Or.inr (slot_ne (Or.inr (hi 56 rfl)) (Or.inl (hi 89 rfl)) (by decide) (t := .boolean) (t' := (.object zs18)) (by decide) (by decide)))).other W9 (Or.inr (slot_ne (Or.inr (hi 56 rfl)) (Or.inl (hi 61 rfl)) (by decide) (t := .boolean) (t' := (.object zs10)) (by decide) (by decide))))
  have fa12 := (((Fw1.ext E2).other W5 (Or.inr (slot_ne (Or.inl (hi 79 rfl)) (Or.inl (hi 89 rfl)) (by decide) (t := (.object zs15)) (t' := (.object zs18)) (by decide) (by decide)))).other W9 (Or.inr (slot_ne (Or.inl (hi 79 rfl)) (Or.inl (hi 61 rfl)) (by decide) (t := (.object zs15)) (t' := (.object zs10)) (by decide) (by decide))))
  have fa13 := (Fw5.other W9 (Or.inr (slot_ne (Or.inl (hi 89 rfl)) (Or.inl (hi 61 rfl)) (by decide) (t := (.object zs18)) (t' := (.object zs10)) (by decide) (by decide))))
  obtain ⟨fs, hr, hrun, hended, hend⟩ := X9.leaveW hS2 (by rw [e9]; exact hkk9) (v := none) (fun _ => rfl)
  refine ⟨_, _, castTop ef ?_, hrun, hended, _, _, rfl, ?_, ?_, hend.1, hend.2.1, hend.2.2.1, hend.2.2.2.mono (by decide) (by decide)⟩
  · show OwG p e below s₁ m 0 #[vR u, vR xe] [] _
    refine XS.aloadN Y0.here hx rfl (hb hby d11_0) rfl rfl ?_
    show OwG p e below s₁ m 1 #[vR u, vR xe] [(.ref u)] _
    refine XS.aloadN Y0.here hx rfl (hb hby d11_1) rfl rfl ?_
    show OwG p e below s₁ m 2 #[vR u, vR xe] [(.ref xe), (.ref u)] _
    refine st1 _ ?_
    show OwG p e below T1 m 5 #[vR u, vR xe] [] _
    refine XS.aloadN X1.here hx rfl (hb hby d11_5) rfl rfl ?_
    show OwG p e below T1 m 6 #[vR u, vR xe] [(.ref u)] _
    refine st2 _ ?_
    show OwG p e below T2 m 8 #[vR u, vR xe] [(.ref a2), (.ref u)] _
    refine st5 _ ?_
    show OwG p e below T5 m 11 #[vR u, vR xe] [] _
    refine XS.aloadN X5.here hx rfl (hb hby d11_11) rfl rfl ?_
    show OwG p e below T5 m 12 #[vR u, vR xe] [(.ref u)] _
    refine st6 _ ?_
    show OwG p e below T6 m 15 #[vR u, vR xe] [(.ref qqN), (.ref u)] _
    refine st9 _ ?_
    show OwG p e below T9 m 18 #[vR u, vR xe] [] _
    exact X9.returnOut hx Bd.returns (hb hby d11_18) hr
  · have eF : (T9.setFrames fs).heap = h9 := e9
    exact ⟨N9, rfl, by rw [eF]; exact ⟨O9, Kp9, ⟨fa10, fa11, Fw9, fa12, _, fa13⟩⟩⟩
  · have eF : (T9.setFrames fs).heap = h9 := e9
    have crF := cr9.trans (CHv.at X9 hZ2 hEL hC9)
    rw [hh, eF]
    exact crF
theorem rmRelN0 (l : Launch) (Z : State) (a0 : Array Value) (hw : OwHw Z a0) (ws : List Jvm.Cond) (n0 : Nat) (h0 : Heap) (O : Old Z n0 h0) (qqR qqN qqK qqU qqS qqE : Addr) (qqI : Int32) (qqM : Addr) (W : OwW Z qqR qqN qqK qqU qqS qqE qqI qqM) (u xe : Addr) (wk : Addr) (a ab : Addr) (ak : ClassId) (U : owU Z h0 u (0 : Int32) wk .null) (gu : n0 ≤ u) (Ess : Exa Z h0 a zs18) (Fcs : Fld Z h0 a zs18 "coder" "B" (.int 0)) (Fvs : Fld Z h0 a zs18 "value" "[B" (.ref ab)) (Vbs : owB Z h0 ab ak (22 : Int32)) :
    OwConH l yy4 j23 3 none ws (rM 6 13 574 92) #[(.ref u), (.ref xe), (.ref a)] Z h0 consts_1 (OwP (fun v h => v = none ∧ Old Z n0 h ∧ Keep h0 h [u] ∧ owU Z h u (0 : Int32) wk (.ref xe)) n0) := by
  refine MetFree.of_bodySF (plainFor_of_name owpn12) hisR ?_
  intro p e s m args below meth c s₁ Bd hml0 hP hK
  have hi := @own_hi Z a0 hw
  obtain ⟨rfl, hZ, hh, hC0⟩ := hP
  have hx := Bd.exec
  have hby := Bd.bytes
  have hml : c.maxLocals = 3 := hml0
  have hown := findClass_of_methodNamed Bd.named
  have X0 : Stand p l e (rM 6 13 574 92) s m #[(.ref u), (.ref xe), (.ref a)] below meth c s₁ [] 0 0 := Stand.of_body Bd
  have e0 : s₁.heap = h0 := by rw [← hh, Bd.state]; rfl
  have N0 := Fr.nil n0
  have ef : entryFrame m #[(.ref u), (.ref xe), (.ref a)] 3 = mkF m 0 #[.val (.ref u), .val (.ref xe), .val (.ref a)] [] := by first | (simp [entryFrame, mkF, argsToLocals, Value.category]; done) | rfl
  have Y0 : Stand p l e (rM 6 13 574 92) (s.setVm s.vm) m #[(.ref u), (.ref xe), (.ref a)] below meth c s₁ [] 0 0 := X0
  have hS0 : s.Since s.vm s.heap.size := (State.WarmedH.refl s).since _
  have hk0 : s.heap.size ≤ h0.size := Nat.le_of_eq (by rw [← hh])
  have wS : ∀ a ∈ Bundle.stringAtoms, a.before a0 Z = true := fun a ha => hw a (own_strin a ha)
  have cr0 := CHr.refl hC0
  have hEL := own_EW hw
  obtain ⟨Eu, Uc, Uw, Uf, xv, Ux⟩ := id U
  obtain ⟨T1, X1, e1, st1⟩ := getF Y0 hx hZ hown (host := "") (Or.inl (hi 78 rfl)) Via.refl e0 Uf (g := (mkF m 1 #[vR u, vR xe, vR a] [(.ref u)])) rfl rfl (hb hby d12_1)
  obtain ⟨T2, h2, X2, e2, W2, st2⟩ := putF X1 hx hZ hown (host := "") (Or.inl (hi 78 rfl)) Via.refl e1 Uf Eu (Or.inl (hi 79 rfl)) (hi 49 rfl) (ty := (.object zs15)) (by decide) rfl rfl (g := (mkF m 18 #[vR u, vR xe, vR a] [(.ref xe), (.ref u)])) rfl rfl (hb hby d12_18)
  have Fw2 := Uf.same W2
  have N2 := Fr.snoc X2 N0 gu
  have O2 := O.wr W2 gu
  have hkk2 := Nat.le_trans hk0 (Nat.le_of_eq W2.size.symm)
  have ct2 := CHr.wr W2 (Safe.exa (EL := consts_1) hZ.alike Eu (by decide) (by decide)) hC0
  have hC2 := ct2.1
  have cr2 := cr0.trans ct2
  have Kp2 : Keep h0 h2 [u] := (Keep.refl h0 [u]).wr W2 (Or.inl (List.mem_of_getElem? (i := 0) rfl))
  obtain ⟨T3, h3, X3, e3, E3, A3, D3, Un3, st3⟩ := newO X2 hx hZ hown (hi 169 rfl) (hi 170 rfl) (hi 171 rfl) e2 (g := (mkF m 22 #[vR u, vR xe, vR a] [(.ref u)])) rfl (hb hby d12_22) (by decide) (by decide)
  obtain ⟨b3, g3⟩ : ∃ z, z = h2.size := ⟨_, rfl⟩
  rw [← g3] at A3 D3 Un3 st3
  have gx3 : n0 ≤ b3 := Nat.le_trans (Nat.le_trans (Nat.le_of_eq O2.1.symm) O2.2.1) (Nat.le_of_eq g3.symm)
  have fa4 := (Eu.wr W2)
  have ne_u_3 : u ≠ b3 := Nat.ne_of_lt (Nat.lt_of_lt_of_le fa4.lt (Nat.le_of_eq g3.symm))
  have fa5 := (Ess.wr W2)
  have ne_a_3 : a ≠ b3 := Nat.ne_of_lt (Nat.lt_of_lt_of_le fa5.lt (Nat.le_of_eq g3.symm))
  have nq6 := owB.ne Vbs Eu (hi 49 rfl)
  have fa7 := (Vbs.other W2 nq6)
  have ne_ab_3 : ab ≠ b3 := Nat.ne_of_lt (Nat.lt_of_lt_of_le fa7.lt (Nat.le_of_eq g3.symm))
  have O3 := O2.ext E3
  have Fn3_value : Fld Z h3 b3 zs14 "value" "[B" .null := D3 (Or.inl (hi 184 rfl)) (ty := (.array .byte)) (by decide)
  have Fn3_coder : Fld Z h3 b3 zs14 "coder" "B" (.int 0) := D3 (Or.inl (hi 186 rfl)) (ty := .byte) (by decide)
  have Fn3_count : Fld Z h3 b3 zs14 "count" "I" (.int 0) := D3 (Or.inl (hi 212 rfl)) (ty := .int) (by decide)
  have sz3 : h0.size ≤ b3 := Nat.le_trans Kp2.1 (Nat.le_of_eq g3.symm)
  have Kp3 : Keep h0 h3 [u] := Kp2.ext E3
  have hkk3 := Nat.le_trans hkk2 E3.1
  have ct3 := CHr.ext E3 hC2
  have hC3 := ct3.1
  have cr3 := cr2.trans ct3
  obtain ⟨_, _, ⟨T8, L8, k8, n8⟩, -, X8, ⟨Lc8, hQ8, l8, y8, z8⟩, st8⟩ := X3.specialBack hx (y := yy26) rfl hown (mvT hZ (hi 172 rfl)) (mvT hZ (hi 173 rfl)) (mvT hZ (hi 174 rfl)) (by decide) (backOf (W := 2) (rmSbI l Z a0 hw [] n0 h3 O3 qqR qqN qqK qqU qqS qqE qqI qqM W b3 A3 Fn3_value Fn3_coder Fn3_count gx3) hZ (hi 174 rfl) (hi 171 rfl) (by decide) (by decide)) (g := (mkF m 26 #[vR u, vR xe, vR a] [(.ref b3), (.ref b3), (.ref u)])) rfl (by rw [hml]; rfl) (Steps.refl _) (a := b3) (argsL := []) (rest := [(.ref b3), (.ref u)]) (lenOf owpd0 rfl) rfl (Nat.le_of_eq rfl) (hb hby d12_26) (fun _ _ => ⟨rfl, e3, (by decide : 1 + 1 ≤ _), (by decide : 4 + 16 ≤ _)⟩)
  dsimp only [Pt.U, Pt.locs, Pt.cells, Pt.slots] at X8 l8 y8 z8 st8 hQ8
  subst l8 y8 z8
  obtain ⟨Nq8, hP8⟩ := hQ8
  have N8 := Fr.app N2 Nq8
  have ee8 : T8.heap = T8.heap := rfl
  obtain ⟨rfl, Oc8, Kc8, bb8, kk8, hb8, Ec8, Gv8, Gc8, Gn8, Vb8⟩ := hP8
  have fa9 := (fa4.ext E3)
  have ne_u_8 : u ≠ bb8 := Nat.ne_of_lt (Nat.lt_of_lt_of_le fa9.lt hb8)
  have fa10 := (fa5.ext E3)
  have ne_a_8 : a ≠ bb8 := Nat.ne_of_lt (Nat.lt_of_lt_of_le fa10.lt hb8)
  have fa11 := (fa7.ext E3)
  have ne_ab_8 : ab ≠ bb8 := Nat.ne_of_lt (Nat.lt_of_lt_of_le fa11.lt hb8)
  have ne_b3_8 : b3 ≠ bb8 := Nat.ne_of_lt (Nat.lt_of_lt_of_le A3.lt hb8)
  have gx8 : n0 ≤ bb8 := Nat.le_trans (Nat.le_trans (Nat.le_of_eq O3.1.symm) O3.2.1) hb8
  have sz8 : h0.size ≤ bb8 := Nat.le_trans Kp3.1 hb8
  have ct8 := CHr.keep Kc8 (sfS (Safe.exa (EL := consts_1) hZ.alike A3 (by decide) (by decide)) sf0) hC3
  have hC8 := ct8.1
  have cr8 := cr3.trans ct8
  have hkk8 := Nat.le_trans hkk3 Kc8.1
  have Kp8 : Keep h0 T8.heap [u] := Kp3.trans Kc8 (allS (P := fun x => x ∈ [u] ∨ h0.size ≤ x) (Or.inr sz3) (all0 (P := fun x => x ∈ [u] ∨ h0.size ≤ x)))
  have sf_bb8 := Safe.keep Kc8 (sfS (Safe.exa (EL := consts_1) hZ.alike A3 (by decide) (by decide)) sf0) hC3 (Safe.new (EL := consts_1) hb8)
  obtain ⟨a12, T12, h12, k12, bb12, kk12, X12, e12, E12, hS12, hk12, hZ12, hown12, Es12, Fc12, Fv12, Va12, -, -, ct12, -, -, st12⟩ := ldcCH X8 hx hZ hown (hi 187 rfl) wS ee8 hS0 hkk8 hEL (by decide : (zs9, 53) ∈ consts_1) hC8 (vs := [(.int 67), (.int 111), (.int 117), (.int 108), (.int 100), (.int 32), (.int 110), (.int 111), (.int 116), (.int 32)]) (z := (10 : Int32)) ⟨by decide, by decide⟩ (by decide) rfl (g := (mkF m 29 #[vR u, vR xe, vR a] [(.ref b3), (.ref u)])) rfl (hb hby d12_29) (n := 40) (by decide) (by decide) (by decide) (by decide)
  have hC12 := ct12.1
  have cr12 := cr8.trans ct12
  have O12 := Oc8.ext E12
  have Vh12 : owB Z h12 bb12 kk12 (10 : Int32) := owB.of Va12 (by decide)
  have sf_bb8_12 := ct12.safe Vb8.lt sf_bb8
  have Kp12 : Keep h0 h12 [u] := Kp8.ext E12
  have fa13 := (Ec8.ext E12)
  have fa14 := (Gv8.ext E12)
  have fa15 := (Gc8.ext E12)
  have fa16 := (Gn8.ext E12)
  have fa17 := (Vb8.ext E12)
  obtain ⟨cq18, kq18, q18a, q18b, q18c⟩ := isOf hZ12 e12 fa13
  obtain ⟨_, _, ⟨T18, L18, k18, n18⟩, -, X18, ⟨Lc18, hQ18, l18, y18, z18⟩, st18⟩ := X12.virtualBack hx (y := yy27) (z := yy27) hown12 (mvT hZ12 (hi 188 rfl)) (mvT hZ12 (hi 189 rfl)) (notFace_of_selects (args := #[]) (mvT hZ12 (hi 191 rfl))) (mvT hZ12 (hi 191 rfl)) (mvT hZ12 (hi 190 rfl)) (by decide) (backOf (W := 1) (rmApS_16_0_10 l Z a0 hw [] n0 h12 O12 qqR qqN qqK qqU qqS qqE qqI qqM W b3 bb8 kk8 a12 bb12 kk12 fa13 fa14 fa15 fa16 fa17 Es12 Fc12 Fv12 Vh12 gx3 gx8) hZ12 (hi 192 rfl) (hi 171 rfl) (by decide) (by decide)) q18a q18c (g := (mkF m 31 #[vR u, vR xe, vR a] [(.ref a12), (.ref b3), (.ref u)])) rfl (by rw [hml]; rfl) (Steps.refl _) (argsL := [(.ref a12)]) (rest := [(.ref u)]) (lenOf owpd25 rfl) rfl (Nat.le_of_eq rfl) (hb hby d12_31) (fun _ _ => ⟨rfl, e12, (by decide : 4 + 0 ≤ _), (by decide : 64 + 0 ≤ _)⟩)
  dsimp only [Pt.U, Pt.locs, Pt.cells, Pt.slots] at X18 l18 y18 z18 st18 hQ18
  subst l18 y18 z18
  obtain ⟨Nq18, hP18⟩ := hQ18
  have N18 := Fr.app N8 Nq18
  have ee18 : T18.heap = T18.heap := rfl
  obtain ⟨rfl, Oc18, Kc18, bb18, kk18, rfl, Ec18, Gv18, Gc18, Gn18, Vb18⟩ := hP18
  have ct18 := CHr.keep Kc18 (sfS (Safe.exa (EL := consts_1) hZ12.alike fa13 (by decide) (by decide)) (sfS sf_bb8_12 sf0)) hC12
  have hC18 := ct18.1
  have cr18 := cr12.trans ct18
  have hkk18 := Nat.le_trans hk12 Kc18.1
  have Kp18 : Keep h0 T18.heap [u] := Kp12.trans Kc18 (allS (P := fun x => x ∈ [u] ∨ h0.size ≤ x) (Or.inr sz3) (allS (P := fun x => x ∈ [u] ∨ h0.size ≤ x) (Or.inr sz8) (all0 (P := fun x => x ∈ [u] ∨ h0.size ≤ x))))
  have fa19 := (((fa10.keep Kc8).ext E12).keep Kc18)
  have fa20 := (((fa9.keep Kc8).ext E12).keep Kc18)
  have fa21 := (((((Fcs.other W2 (Or.inl (Exa.ne fa19 fa20 (by decide)))).ext E3).keep Kc8 (ninS ne_a_3 nin0)).ext E12).keep Kc18 (ninS ne_a_3 (ninS ne_a_8 nin0)))
  have fa22 := (((((Fvs.other W2 (Or.inl (Exa.ne fa19 fa20 (by decide)))).ext E3).keep Kc8 (ninS ne_a_3 nin0)).ext E12).keep Kc18 (ninS ne_a_3 (ninS ne_a_8 nin0)))
  have fa23 := (((fa11.keep Kc8 (ninS ne_ab_3 nin0)).ext E12).keep Kc18 (ninS ne_ab_3 (ninS ne_ab_8 nin0)))
  obtain ⟨cq24, kq24, q24a, q24b, q24c⟩ := isOf hZ12 ee18 Ec18
  obtain ⟨_, _, ⟨T24, L24, k24, n24⟩, -, X24, ⟨Lc24, hQ24, l24, y24, z24⟩, st24⟩ := X18.virtualBack hx (y := yy27) (z := yy27) hown12 (mvT hZ12 (hi 188 rfl)) (mvT hZ12 (hi 189 rfl)) (notFace_of_selects (args := #[]) (mvT hZ12 (hi 191 rfl))) (mvT hZ12 (hi 191 rfl)) (mvT hZ12 (hi 190 rfl)) (by decide) (backOf (W := 1) (rmApS_16_10_22 l Z a0 hw [] n0 T18.heap Oc18 qqR qqN qqK qqU qqS qqE qqI qqM W b3 bb8 kk18 a ab ak Ec18 Gv18 Gc18 Gn18 Vb18 fa19 fa21 fa22 fa23 gx3 gx8) hZ12 (hi 192 rfl) (hi 171 rfl) (by decide) (by decide)) q24a q24c (g := (mkF m 35 #[vR u, vR xe, vR a] [(.ref a), (.ref b3), (.ref u)])) rfl (by rw [hml]; rfl) (Steps.refl _) (argsL := [(.ref a)]) (rest := [(.ref u)]) (lenOf owpd25 rfl) rfl (Nat.le_of_eq rfl) (hb hby d12_35) (fun _ _ => ⟨rfl, ee18, (by decide : 4 + 1 ≤ _), (by decide : 64 + 34 ≤ _)⟩)
  dsimp only [Pt.U, Pt.locs, Pt.cells, Pt.slots] at X24 l24 y24 z24 st24 hQ24
  subst l24 y24 z24
  obtain ⟨Nq24, hP24⟩ := hQ24
  have N24 := Fr.app N18 Nq24
  have ee24 : T24.heap = T24.heap := rfl
  obtain ⟨rfl, Oc24, Kc24, bb24, kk24, hb24, Ec24, Gv24, Gc24, Gn24, Vb24⟩ := hP24
  have ne_u_24 : u ≠ bb24 := Nat.ne_of_lt (Nat.lt_of_lt_of_le fa20.lt hb24)
  have ne_a_24 : a ≠ bb24 := Nat.ne_of_lt (Nat.lt_of_lt_of_le fa19.lt hb24)
  have ne_ab_24 : ab ≠ bb24 := Nat.ne_of_lt (Nat.lt_of_lt_of_le fa23.lt hb24)
  have ne_b3_24 : b3 ≠ bb24 := Nat.ne_of_lt (Nat.lt_of_lt_of_le Ec18.lt hb24)
  have ne_bb8_24 : bb8 ≠ bb24 := Nat.ne_of_lt (Nat.lt_of_lt_of_le Vb18.lt hb24)
  have gx24 : n0 ≤ bb24 := Nat.le_trans (Nat.le_trans (Nat.le_of_eq Oc18.1.symm) Oc18.2.1) hb24
  have sz24 : h0.size ≤ bb24 := Nat.le_trans Kp18.1 hb24
  have ct24 := CHr.keep Kc24 (sfS (Safe.exa (EL := consts_1) hZ12.alike Ec18 (by decide) (by decide)) sf0) hC18
  have hC24 := ct24.1
  have cr24 := cr18.trans ct24
  have hkk24 := Nat.le_trans hkk18 Kc24.1
  have Kp24 : Keep h0 T24.heap [u] := Kp18.trans Kc24 (allS (P := fun x => x ∈ [u] ∨ h0.size ≤ x) (Or.inr sz3) (all0 (P := fun x => x ∈ [u] ∨ h0.size ≤ x)))
  obtain ⟨a25, T25, h25, k25, bb25, kk25, X25, e25, E25, hS25, hk25, hZ25, hown25, Es25, Fc25, Fv25, Va25, -, -, ct25, -, -, st25⟩ := ldcCH X24 hx hZ12 hown12 (hi 261 rfl) wS ee24 hS12 hkk24 hEL (by decide : (zs9, 59) ∈ consts_1) hC24 (vs := [(.int 32), (.int 111), (.int 102), (.int 32), (.int 116), (.int 104), (.int 101), (.int 32), (.int 117), (.int 110), (.int 105), (.int 116), (.int 32), (.int 111), (.int 102), (.int 32), (.int 119), (.int 111), (.int 114), (.int 107), (.int 32), (.int 111), (.int 110), (.int 99), (.int 101), (.int 32), (.int 105), (.int 116), (.int 32), (.int 104), (.int 97), (.int 100), (.int 32)]) (z := (33 : Int32)) ⟨by decide, by decide⟩ (by decide) rfl (g := (mkF m 38 #[vR u, vR xe, vR a] [(.ref b3), (.ref u)])) rfl (hb hby d12_38) (n := 132) (by decide) (by decide) (by decide) (by decide)
  have hC25 := ct25.1
  have cr25 := cr24.trans ct25
  have O25 := Oc24.ext E25
  have Vh25 : owB Z h25 bb25 kk25 (33 : Int32) := owB.of Va25 (by decide)
  have Kp25 : Keep h0 h25 [u] := Kp24.ext E25
  have fa26 := (Ec24.ext E25)
  have fa27 := (Gv24.ext E25)
  have fa28 := (Gc24.ext E25)
  have fa29 := (Gn24.ext E25)
  have fa30 := (Vb24.ext E25)
  obtain ⟨cq31, kq31, q31a, q31b, q31c⟩ := isOf hZ25 e25 fa26
  obtain ⟨_, _, ⟨T31, L31, k31, n31⟩, -, X31, ⟨Lc31, hQ31, l31, y31, z31⟩, st31⟩ := X25.virtualBack hx (y := yy27) (z := yy27) hown25 (mvT hZ25 (hi 188 rfl)) (mvT hZ25 (hi 189 rfl)) (notFace_of_selects (args := #[]) (mvT hZ25 (hi 191 rfl))) (mvT hZ25 (hi 191 rfl)) (mvT hZ25 (hi 190 rfl)) (by decide) (backOf (W := 1) (rmApS_34_32_33 l Z a0 hw [] n0 h25 O25 qqR qqN qqK qqU qqS qqE qqI qqM W b3 bb24 kk24 a25 bb25 kk25 fa26 fa27 fa28 fa29 fa30 Es25 Fc25 Fv25 Vh25 gx3 gx24) hZ25 (hi 192 rfl) (hi 171 rfl) (by decide) (by decide)) q31a q31c (g := (mkF m 40 #[vR u, vR xe, vR a] [(.ref a25), (.ref b3), (.ref u)])) rfl (by rw [hml]; rfl) (Steps.refl _) (argsL := [(.ref a25)]) (rest := [(.ref u)]) (lenOf owpd25 rfl) rfl (Nat.le_of_eq rfl) (hb hby d12_40) (fun _ _ => ⟨rfl, e25, (by decide : 7 + 1 ≤ _), (by decide : 234 + 70 ≤ _)⟩)
  dsimp only [Pt.U, Pt.locs, Pt.cells, Pt.slots] at X31 l31 y31 z31 st31 hQ31
  subst l31 y31 z31
  obtain ⟨Nq31, hP31⟩ := hQ31
  have N31 := Fr.app N24 Nq31
  have ee31 : T31.heap = T31.heap := rfl
  obtain ⟨rfl, Oc31, Kc31, bb31, kk31, hb31, Ec31, Gv31, Gc31, Gn31, Vb31⟩ := hP31
  have fa32 := ((fa20.keep Kc24).ext E25)
  have ne_u_31 : u ≠ bb31 := Nat.ne_of_lt (Nat.lt_of_lt_of_le fa32.lt hb31)
  have fa33 := ((fa19.keep Kc24).ext E25)
  have ne_a_31 : a ≠ bb31 := Nat.ne_of_lt (Nat.lt_of_lt_of_le fa33.lt hb31)
  have fa34 := ((fa23.keep Kc24 (ninS ne_ab_3 nin0)).ext E25)
  have ne_ab_31 : ab ≠ bb31 := Nat.ne_of_lt (Nat.lt_of_lt_of_le fa34.lt hb31)
  have ne_b3_31 : b3 ≠ bb31 := Nat.ne_of_lt (Nat.lt_of_lt_of_le fa26.lt hb31)
  have fa35 := ((Vb18.keep Kc24 (ninS (Ne.symm ne_b3_8) nin0)).ext E25)
  have ne_bb8_31 : bb8 ≠ bb31 := Nat.ne_of_lt (Nat.lt_of_lt_of_le fa35.lt hb31)
  have ne_bb24_31 : bb24 ≠ bb31 := Nat.ne_of_lt (Nat.lt_of_lt_of_le fa30.lt hb31)
  have gx31 : n0 ≤ bb31 := Nat.le_trans (Nat.le_trans (Nat.le_of_eq O25.1.symm) O25.2.1) hb31
  have sz31 : h0.size ≤ bb31 := Nat.le_trans Kp25.1 hb31
  have ct31 := CHr.keep Kc31 (sfS (Safe.exa (EL := consts_1) hZ25.alike fa26 (by decide) (by decide)) sf0) hC25
  have hC31 := ct31.1
  have cr31 := cr25.trans ct31
  have hkk31 := Nat.le_trans hk25 Kc31.1
  have Kp31 : Keep h0 T31.heap [u] := Kp25.trans Kc31 (allS (P := fun x => x ∈ [u] ∨ h0.size ≤ x) (Or.inr sz3) (all0 (P := fun x => x ∈ [u] ∨ h0.size ≤ x)))
  have fa36 := ((((((((Uc.other W2 (Or.inr (slot_ne (Or.inr (hi 56 rfl)) (Or.inl (hi 79 rfl)) (by decide) (t := .boolean) (t' := (.object zs15)) (by decide) (by decide)))).ext E3).keep Kc8 (ninS ne_u_3 nin0)).ext E12).keep Kc18 (ninS ne_u_3 (ninS ne_u_8 nin0))).keep Kc24 (ninS ne_u_3 nin0)).ext E25).keep Kc31 (ninS ne_u_3 nin0))
  obtain ⟨T37, X37, e37, st37⟩ := getF X31 hx hZ25 hown25 (host := "") (Or.inl (hi 55 rfl)) Via.refl ee31 fa36 (g := (mkF m 44 #[vR u, vR xe, vR a] [(.ref u), (.ref b3), (.ref u)])) rfl rfl (hb hby d12_44)
  obtain ⟨a38, T38, h38, k38, bb38, kk38, X38, e38, E38, hS38, hk38, hZ38, hown38, Es38, Fc38, Fv38, Va38, -, -, ct38, -, -, st38⟩ := ldcCH X37 hx hZ25 hown25 (hi 262 rfl) wS e37 hS25 hkk31 hEL (by decide : (zs9, 63) ∈ consts_1) hC31 (vs := [(.int 114), (.int 111), (.int 108), (.int 108), (.int 101), (.int 100), (.int 32), (.int 98), (.int 97), (.int 99), (.int 107)]) (z := (11 : Int32)) ⟨by decide, by decide⟩ (by decide) rfl (g := (mkF m 55 #[vR u, vR xe, vR a] [(.ref b3), (.ref u)])) rfl (hb hby d12_55) (n := 44) (by decide) (by decide) (by decide) (by decide)
  have hC38 := ct38.1
  have cr38 := cr31.trans ct38
  have O38 := Oc31.ext E38
  have Vh38 : owB Z h38 bb38 kk38 (11 : Int32) := owB.of Va38 (by decide)
  have Kp38 : Keep h0 h38 [u] := Kp31.ext E38
  have fa39 := (Ec31.ext E38)
  have fa40 := (Gv31.ext E38)
  have fa41 := (Gc31.ext E38)
  have fa42 := (Gn31.ext E38)
  have fa43 := (Vb31.ext E38)
  obtain ⟨cq44, kq44, q44a, q44b, q44c⟩ := isOf hZ38 e38 fa39
  obtain ⟨_, _, ⟨T44, L44, k44, n44⟩, -, X44, ⟨Lc44, hQ44, l44, y44, z44⟩, st44⟩ := X38.virtualBack hx (y := yy27) (z := yy27) hown38 (mvT hZ38 (hi 188 rfl)) (mvT hZ38 (hi 189 rfl)) (notFace_of_selects (args := #[]) (mvT hZ38 (hi 191 rfl))) (mvT hZ38 (hi 191 rfl)) (mvT hZ38 (hi 190 rfl)) (by decide) (backOf (W := 1) (rmApS_70_65_11 l Z a0 hw [] n0 h38 O38 qqR qqN qqK qqU qqS qqE qqI qqM W b3 bb31 kk31 a38 bb38 kk38 fa39 fa40 fa41 fa42 fa43 Es38 Fc38 Fv38 Vh38 gx3 gx31) hZ38 (hi 192 rfl) (hi 171 rfl) (by decide) (by decide)) q44a q44c (g := (mkF m 57 #[vR u, vR xe, vR a] [(.ref a38), (.ref b3), (.ref u)])) rfl (by rw [hml]; rfl) (Steps.refl _) (argsL := [(.ref a38)]) (rest := [(.ref u)]) (lenOf owpd25 rfl) rfl (Nat.le_of_eq rfl) (hb hby d12_57) (fun _ _ => ⟨rfl, e38, (by decide : 10 + 1 ≤ _), (by decide : 352 + 142 ≤ _)⟩)
  dsimp only [Pt.U, Pt.locs, Pt.cells, Pt.slots] at X44 l44 y44 z44 st44 hQ44
  subst l44 y44 z44
  obtain ⟨Nq44, hP44⟩ := hQ44
  have N44 := Fr.app N31 Nq44
  have ee44 : T44.heap = T44.heap := rfl
  obtain ⟨rfl, Oc44, Kc44, bb44, kk44, hb44, Ec44, Gv44, Gc44, Gn44, Vb44⟩ := hP44
  have fa45 := ((fa32.keep Kc31).ext E38)
  have ne_u_44 : u ≠ bb44 := Nat.ne_of_lt (Nat.lt_of_lt_of_le fa45.lt hb44)
  have fa46 := ((fa33.keep Kc31).ext E38)
  have ne_a_44 : a ≠ bb44 := Nat.ne_of_lt (Nat.lt_of_lt_of_le fa46.lt hb44)
  have fa47 := ((fa34.keep Kc31 (ninS ne_ab_3 nin0)).ext E38)
  have ne_ab_44 : ab ≠ bb44 := Nat.ne_of_lt (Nat.lt_of_lt_of_le fa47.lt hb44)
  have ne_b3_44 : b3 ≠ bb44 := Nat.ne_of_lt (Nat.lt_of_lt_of_le fa39.lt hb44)
  have fa48 := ((fa35.keep Kc31 (ninS (Ne.symm ne_b3_8) nin0)).ext E38)
  have ne_bb8_44 : bb8 ≠ bb44 := Nat.ne_of_lt (Nat.lt_of_lt_of_le fa48.lt hb44)
  have fa49 := ((fa30.keep Kc31 (ninS (Ne.symm ne_b3_24) nin0)).ext E38)
  have ne_bb24_44 : bb24 ≠ bb44 := Nat.ne_of_lt (Nat.lt_of_lt_of_le fa49.lt hb44)
  have ne_bb31_44 : bb31 ≠ bb44 := Nat.ne_of_lt (Nat.lt_of_lt_of_le fa43.lt hb44)
  have gx44 : n0 ≤ bb44 := Nat.le_trans (Nat.le_trans (Nat.le_of_eq O38.1.symm) O38.2.1) hb44
  have sz44 : h0.size ≤ bb44 := Nat.le_trans Kp38.1 hb44
  have ct44 := CHr.keep Kc44 (sfS (Safe.exa (EL := consts_1) hZ38.alike fa39 (by decide) (by decide)) sf0) hC38
  have hC44 := ct44.1
  have cr44 := cr38.trans ct44
  have hkk44 := Nat.le_trans hk38 Kc44.1
  have Kp44 : Keep h0 T44.heap [u] := Kp38.trans Kc44 (allS (P := fun x => x ∈ [u] ∨ h0.size ≤ x) (Or.inr sz3) (all0 (P := fun x => x ∈ [u] ∨ h0.size ≤ x)))
  obtain ⟨cq50, kq50, q50a, q50b, q50c⟩ := isOf hZ38 ee44 Ec44
  obtain ⟨_, _, ⟨T50, L50, k50, n50⟩, -, X50, ⟨Lc50, hQ50, l50, y50, z50⟩, st50⟩ := X44.virtualBack hx (y := yy29) (z := yy29) hown38 (mvT hZ38 (hi 263 rfl)) (mvT hZ38 (hi 264 rfl)) (notFace_of_selects (args := #[]) (mvT hZ38 (hi 266 rfl))) (mvT hZ38 (hi 266 rfl)) (mvT hZ38 (hi 265 rfl)) (by decide) (backOf (W := 1) (rmTos_76 l Z a0 hw [] n0 T44.heap Oc44 qqR qqN qqK qqU qqS qqE qqI qqM W b3 bb44 kk44 Ec44 Gv44 Gc44 Gn44 Vb44) hZ38 (hi 267 rfl) (hi 171 rfl) (by decide) (by decide)) q50a q50c (g := (mkF m 60 #[vR u, vR xe, vR a] [(.ref b3), (.ref u)])) rfl (by rw [hml]; rfl) (Steps.refl _) (argsL := []) (rest := [(.ref u)]) (lenOf owpd26 rfl) rfl (Nat.le_of_eq rfl) (hb hby d12_60) (fun _ _ => ⟨rfl, ee44, (by decide : 11 + 2 ≤ _), (by decide : 494 + 80 ≤ _)⟩)
  dsimp only [Pt.U, Pt.locs, Pt.cells, Pt.slots] at X50 l50 y50 z50 st50 hQ50
  subst l50 y50 z50
  obtain ⟨Nq50, hP50⟩ := hQ50
  have N50 := Fr.app N44 Nq50
  have ee50 : T50.heap = T50.heap := rfl
  obtain ⟨bb50, rfl, hb50, Oc50, Kc50⟩ := hP50
  have ct50 := CHr.keep Kc50 sf0 hC44
  have hC50 := ct50.1
  have cr50 := cr44.trans ct50
  have hkk50 := Nat.le_trans hkk44 Kc50.1
  have Kp50 : Keep h0 T50.heap [u] := Kp44.trans Kc50 (all0 (P := fun x => x ∈ [u] ∨ h0.size ≤ x))
  have fa51 := (((((((((((Ux.other W2 (Or.inr (slot_ne (Or.inl (hi 89 rfl)) (Or.inl (hi 79 rfl)) (by decide) (t := (.object zs18)) (t' := (.object zs15)) (by decide) (by decide)))).ext E3).keep Kc8 (ninS ne_u_3 nin0)).ext E12).keep Kc18 (ninS ne_u_3 (ninS ne_u_8 nin0))).keep Kc24 (ninS ne_u_3 nin0)).ext E25).keep Kc31 (ninS ne_u_3 nin0)).ext E38).keep Kc44 (ninS ne_u_3 nin0)).keep Kc50 nin0)
  have fa52 := ((fa45.keep Kc44).keep Kc50)
  obtain ⟨T53, h53, X53, e53, W53, st53⟩ := putF X50 hx hZ38 hown38 (host := "") (Or.inl (hi 88 rfl)) Via.refl ee50 fa51 fa52 (Or.inl (hi 89 rfl)) (hi 49 rfl) (ty := (.object zs18)) (by decide) rfl rfl (g := (mkF m 63 #[vR u, vR xe, vR a] [(.ref bb50), (.ref u)])) rfl rfl (hb hby d12_63)
  have Fw53 := fa51.same W53
  have N53 := Fr.snoc X53 N50 gu
  have O53 := Oc50.wr W53 gu
  have hkk53 := Nat.le_trans hkk50 (Nat.le_of_eq W53.size.symm)
  have ct53 := CHr.wr W53 (Safe.exa (EL := consts_1) hZ38.alike fa52 (by decide) (by decide)) hC50
  have hC53 := ct53.1
  have cr53 := cr50.trans ct53
  have Kp53 : Keep h0 h53 [u] := Kp50.wr W53 (Or.inl (List.mem_of_getElem? (i := 0) rfl))
  have fa54 := (fa52.wr W53)
  have fa55 := ((((fa36.ext E38).keep Kc44 (ninS ne_u_3 nin0)).keep Kc50 nin0).other W53 (Or.inr (slot_ne (Or.inr (hi 56 rfl)) (Or.inl (hi 89 rfl)) (by decide) (t := .boolean) (t' := (.object zs18)) (by decide) (by decide))))
  have fa56 := ((((((((((((Uw.other W2 (Or.inr (slot_ne (Or.inl (hi 61 rfl)) (Or.inl (hi 79 rfl)) (by decide) (t := (.object zs10)) (t' := (.object zs15)) (by decide) (by decide)))).ext E3).keep Kc8 (ninS ne_u_3 nin0)).ext E12).keep Kc18 (ninS ne_u_3 (ninS ne_u_8 nin0))).keep Kc24 (ninS ne_u_3 nin0)).ext E25).keep Kc31 (ninS ne_u_3 nin0)).ext E38).keep Kc44 (ninS ne_u_3 nin0)).keep Kc50 nin0).other W53 (Or.inr (slot_ne (Or.inl (hi 61 rfl)) (Or.inl (hi 89 rfl)) (by decide) (t := (.object zs10)) (t' := (.object zs18)) (by decide) (by decide))))
  have fa57 := (((((((((((Fw2.ext E3).keep Kc8 (ninS ne_u_3 nin0)).ext E12).keep Kc18 (ninS ne_u_3 (ninS ne_u_8 nin0))).keep Kc24 (ninS ne_u_3 nin0)).ext E25).keep Kc31 (ninS ne_u_3 nin0)).ext E38).keep Kc44 (ninS ne_u_3 nin0)).keep Kc50 nin0).other W53 (Or.inr (slot_ne (Or.inl (hi 79 rfl)) (Or.inl (hi 89 rfl)) (by decide) (t := (.object zs15)) (t' := (.object zs18)) (by decide) (by decide))))
  obtain ⟨fs, hr, hrun, hended, hend⟩ := X53.leaveW hS38 (by rw [e53]; exact hkk53) (v := none) (fun _ => rfl)
  refine ⟨_, _, castTop ef ?_, hrun, hended, _, _, rfl, ?_, ?_, hend.1, hend.2.1, hend.2.2.1, hend.2.2.2.mono (by decide) (by decide)⟩
  · show OwG p e below s₁ m 0 #[vR u, vR xe, vR a] [] _
    refine XS.aloadN Y0.here hx rfl (hb hby d12_0) rfl rfl ?_
    show OwG p e below s₁ m 1 #[vR u, vR xe, vR a] [(.ref u)] _
    refine st1 _ ?_
    show OwG p e below T1 m 4 #[vR u, vR xe, vR a] [.null] _
    refine XS.ifnullYes X1.here hx rfl (pc0 := 4) (pc' := 16) rfl (hb hby d12_4) rfl (by decide) (by decide) ?_
    refine XS.aloadN X1.here hx rfl (hb hby d12_16) rfl rfl ?_
    refine XS.aloadN X1.here hx rfl (hb hby d12_17) rfl rfl ?_
    show OwG p e below T1 m 18 #[vR u, vR xe, vR a] [(.ref xe), (.ref u)] _
    refine st2 _ ?_
    show OwG p e below T2 m 21 #[vR u, vR xe, vR a] [] _
    refine XS.aloadN X2.here hx rfl (hb hby d12_21) rfl rfl ?_
    show OwG p e below T2 m 22 #[vR u, vR xe, vR a] [(.ref u)] _
    refine st3 _ ?_
    show OwG p e below T3 m 25 #[vR u, vR xe, vR a] [(.ref b3), (.ref u)] _
    refine XS.dup X3.here hx rfl (hb hby d12_25) rfl rfl ?_
    show OwG p e below T3 m 26 #[vR u, vR xe, vR a] [(.ref b3), (.ref b3), (.ref u)] _
    refine st8.trans ?_
    show OwG p e below T8 m 29 #[vR u, vR xe, vR a] [(.ref b3), (.ref u)] _
    refine st12 _ ?_
    show OwG p e below T12 m 31 #[vR u, vR xe, vR a] [(.ref a12), (.ref b3), (.ref u)] _
    refine st18.trans ?_
    show OwG p e below T18 m 34 #[vR u, vR xe, vR a] [(.ref b3), (.ref u)] _
    refine XS.aloadN X18.here hx rfl (hb hby d12_34) rfl rfl ?_
    show OwG p e below T18 m 35 #[vR u, vR xe, vR a] [(.ref a), (.ref b3), (.ref u)] _
    refine st24.trans ?_
    show OwG p e below T24 m 38 #[vR u, vR xe, vR a] [(.ref b3), (.ref u)] _
    refine st25 _ ?_
    show OwG p e below T25 m 40 #[vR u, vR xe, vR a] [(.ref a25), (.ref b3), (.ref u)] _
    refine st31.trans ?_
    show OwG p e below T31 m 43 #[vR u, vR xe, vR a] [(.ref b3), (.ref u)] _
    refine XS.aloadN X31.here hx rfl (hb hby d12_43) rfl rfl ?_
    show OwG p e below T31 m 44 #[vR u, vR xe, vR a] [(.ref u), (.ref b3), (.ref u)] _
    refine st37 _ ?_
    show OwG p e below T37 m 47 #[vR u, vR xe, vR a] [(.int 0), (.ref b3), (.ref u)] _
    refine XS.ifYes X37.here hx rfl (pc0 := 47) (pc' := 55) rfl (hb hby d12_47) rfl ((if0 _ _).trans (teq (by decide : (0 : Int32) = (0 : Int32))).1) (by decide) (by decide) ?_
    show OwG p e below T37 m 55 #[vR u, vR xe, vR a] [(.ref b3), (.ref u)] _
    refine st38 _ ?_
    show OwG p e below T38 m 57 #[vR u, vR xe, vR a] [(.ref a38), (.ref b3), (.ref u)] _
    refine st44.trans ?_
    show OwG p e below T44 m 60 #[vR u, vR xe, vR a] [(.ref b3), (.ref u)] _
    refine st50.trans ?_
    show OwG p e below T50 m 63 #[vR u, vR xe, vR a] [(.ref bb50), (.ref u)] _
    refine st53 _ ?_
    show OwG p e below T53 m 66 #[vR u, vR xe, vR a] [] _
    exact X53.returnOut hx Bd.returns (hb hby d12_66) hr
  · have eF : (T53.setFrames fs).heap = h53 := e53
    exact ⟨N53, rfl, by rw [eF]; exact ⟨O53, Kp53, ⟨fa54, fa55, fa56, fa57, _, Fw53⟩⟩⟩
  · have eF : (T53.setFrames fs).heap = h53 := e53
    have crF := cr53.trans (CHv.at X53 hZ38 hEL hC53)
    rw [hh, eF]
    exact crF
theorem rmRelN1 (l : Launch) (Z : State) (a0 : Array Value) (hw : OwHw Z a0) (ws : List Jvm.Cond) (n0 : Nat) (h0 : Heap) (O : Old Z n0 h0) (qqR qqN qqK qqU qqS qqE : Addr) (qqI : Int32) (qqM : Addr) (W : OwW Z qqR qqN qqK qqU qqS qqE qqI qqM) (u xe : Addr) (wk : Addr) (a ab : Addr) (ak : ClassId) (U : owU Z h0 u (1 : Int32) wk .null) (gu : n0 ≤ u) (Ess : Exa Z h0 a zs18) (Fcs : Fld Z h0 a zs18 "coder" "B" (.int 0)) (Fvs : Fld Z h0 a zs18 "value" "[B" (.ref ab)) (Vbs : owB Z h0 ab ak (22 : Int32)) :
    OwConH l yy4 j23 3 none ws (rM 6 13 564 92) #[(.ref u), (.ref xe), (.ref a)] Z h0 consts_1 (OwP (fun v h => v = none ∧ Old Z n0 h ∧ Keep h0 h [u] ∧ owU Z h u (1 : Int32) wk (.ref xe)) n0) := by
  refine MetFree.of_bodySF (plainFor_of_name owpn12) hisR ?_
  intro p e s m args below meth c s₁ Bd hml0 hP hK
  have hi := @own_hi Z a0 hw
  obtain ⟨rfl, hZ, hh, hC0⟩ := hP
  have hx := Bd.exec
  have hby := Bd.bytes
  have hml : c.maxLocals = 3 := hml0
  have hown := findClass_of_methodNamed Bd.named
  have X0 : Stand p l e (rM 6 13 564 92) s m #[(.ref u), (.ref xe), (.ref a)] below meth c s₁ [] 0 0 := Stand.of_body Bd
  have e0 : s₁.heap = h0 := by rw [← hh, Bd.state]; rfl
  have N0 := Fr.nil n0
  have ef : entryFrame m #[(.ref u), (.ref xe), (.ref a)] 3 = mkF m 0 #[.val (.ref u), .val (.ref xe), .val (.ref a)] [] := by first | (simp [entryFrame, mkF, argsToLocals, Value.category]; done) | rfl
  have Y0 : Stand p l e (rM 6 13 564 92) (s.setVm s.vm) m #[(.ref u), (.ref xe), (.ref a)] below meth c s₁ [] 0 0 := X0
  have hS0 : s.Since s.vm s.heap.size := (State.WarmedH.refl s).since _
  have hk0 : s.heap.size ≤ h0.size := Nat.le_of_eq (by rw [← hh])
  have wS : ∀ a ∈ Bundle.stringAtoms, a.before a0 Z = true := fun a ha => hw a (own_strin a ha)
  have cr0 := CHr.refl hC0
  have hEL := own_EW hw
  obtain ⟨Eu, Uc, Uw, Uf, xv, Ux⟩ := id U
  obtain ⟨T1, X1, e1, st1⟩ := getF Y0 hx hZ hown (host := "") (Or.inl (hi 78 rfl)) Via.refl e0 Uf (g := (mkF m 1 #[vR u, vR xe, vR a] [(.ref u)])) rfl rfl (hb hby d12_1)
  obtain ⟨T2, h2, X2, e2, W2, st2⟩ := putF X1 hx hZ hown (host := "") (Or.inl (hi 78 rfl)) Via.refl e1 Uf Eu (Or.inl (hi 79 rfl)) (hi 49 rfl) (ty := (.object zs15)) (by decide) rfl rfl (g := (mkF m 18 #[vR u, vR xe, vR a] [(.ref xe), (.ref u)])) rfl rfl (hb hby d12_18)
  have Fw2 := Uf.same W2
  have N2 := Fr.snoc X2 N0 gu
  have O2 := O.wr W2 gu
  have hkk2 := Nat.le_trans hk0 (Nat.le_of_eq W2.size.symm)
  have ct2 := CHr.wr W2 (Safe.exa (EL := consts_1) hZ.alike Eu (by decide) (by decide)) hC0
  have hC2 := ct2.1
  have cr2 := cr0.trans ct2
  have Kp2 : Keep h0 h2 [u] := (Keep.refl h0 [u]).wr W2 (Or.inl (List.mem_of_getElem? (i := 0) rfl))
  obtain ⟨T3, h3, X3, e3, E3, A3, D3, Un3, st3⟩ := newO X2 hx hZ hown (hi 169 rfl) (hi 170 rfl) (hi 171 rfl) e2 (g := (mkF m 22 #[vR u, vR xe, vR a] [(.ref u)])) rfl (hb hby d12_22) (by decide) (by decide)
  obtain ⟨b3, g3⟩ : ∃ z, z = h2.size := ⟨_, rfl⟩
  rw [← g3] at A3 D3 Un3 st3
  have gx3 : n0 ≤ b3 := Nat.le_trans (Nat.le_trans (Nat.le_of_eq O2.1.symm) O2.2.1) (Nat.le_of_eq g3.symm)
  have fa4 := (Eu.wr W2)
  have ne_u_3 : u ≠ b3 := Nat.ne_of_lt (Nat.lt_of_lt_of_le fa4.lt (Nat.le_of_eq g3.symm))
  have fa5 := (Ess.wr W2)
  have ne_a_3 : a ≠ b3 := Nat.ne_of_lt (Nat.lt_of_lt_of_le fa5.lt (Nat.le_of_eq g3.symm))
  have nq6 := owB.ne Vbs Eu (hi 49 rfl)
  have fa7 := (Vbs.other W2 nq6)
  have ne_ab_3 : ab ≠ b3 := Nat.ne_of_lt (Nat.lt_of_lt_of_le fa7.lt (Nat.le_of_eq g3.symm))
  have O3 := O2.ext E3
  have Fn3_value : Fld Z h3 b3 zs14 "value" "[B" .null := D3 (Or.inl (hi 184 rfl)) (ty := (.array .byte)) (by decide)
  have Fn3_coder : Fld Z h3 b3 zs14 "coder" "B" (.int 0) := D3 (Or.inl (hi 186 rfl)) (ty := .byte) (by decide)
  have Fn3_count : Fld Z h3 b3 zs14 "count" "I" (.int 0) := D3 (Or.inl (hi 212 rfl)) (ty := .int) (by decide)
  have sz3 : h0.size ≤ b3 := Nat.le_trans Kp2.1 (Nat.le_of_eq g3.symm)
  have Kp3 : Keep h0 h3 [u] := Kp2.ext E3
  have hkk3 := Nat.le_trans hkk2 E3.1
  have ct3 := CHr.ext E3 hC2
  have hC3 := ct3.1
  have cr3 := cr2.trans ct3
  obtain ⟨_, _, ⟨T8, L8, k8, n8⟩, -, X8, ⟨Lc8, hQ8, l8, y8, z8⟩, st8⟩ := X3.specialBack hx (y := yy26) rfl hown (mvT hZ (hi 172 rfl)) (mvT hZ (hi 173 rfl)) (mvT hZ (hi 174 rfl)) (by decide) (backOf (W := 2) (rmSbI l Z a0 hw [] n0 h3 O3 qqR qqN qqK qqU qqS qqE qqI qqM W b3 A3 Fn3_value Fn3_coder Fn3_count gx3) hZ (hi 174 rfl) (hi 171 rfl) (by decide) (by decide)) (g := (mkF m 26 #[vR u, vR xe, vR a] [(.ref b3), (.ref b3), (.ref u)])) rfl (by rw [hml]; rfl) (Steps.refl _) (a := b3) (argsL := []) (rest := [(.ref b3), (.ref u)]) (lenOf owpd0 rfl) rfl (Nat.le_of_eq rfl) (hb hby d12_26) (fun _ _ => ⟨rfl, e3, (by decide : 1 + 1 ≤ _), (by decide : 4 + 16 ≤ _)⟩)
  dsimp only [Pt.U, Pt.locs, Pt.cells, Pt.slots] at X8 l8 y8 z8 st8 hQ8
  subst l8 y8 z8
  obtain ⟨Nq8, hP8⟩ := hQ8
  have N8 := Fr.app N2 Nq8
  have ee8 : T8.heap = T8.heap := rfl
  obtain ⟨rfl, Oc8, Kc8, bb8, kk8, hb8, Ec8, Gv8, Gc8, Gn8, Vb8⟩ := hP8
  have fa9 := (fa4.ext E3)
  have ne_u_8 : u ≠ bb8 := Nat.ne_of_lt (Nat.lt_of_lt_of_le fa9.lt hb8)
  have fa10 := (fa5.ext E3)
  have ne_a_8 : a ≠ bb8 := Nat.ne_of_lt (Nat.lt_of_lt_of_le fa10.lt hb8)
  have fa11 := (fa7.ext E3)
  have ne_ab_8 : ab ≠ bb8 := Nat.ne_of_lt (Nat.lt_of_lt_of_le fa11.lt hb8)
  have ne_b3_8 : b3 ≠ bb8 := Nat.ne_of_lt (Nat.lt_of_lt_of_le A3.lt hb8)
  have gx8 : n0 ≤ bb8 := Nat.le_trans (Nat.le_trans (Nat.le_of_eq O3.1.symm) O3.2.1) hb8
  have sz8 : h0.size ≤ bb8 := Nat.le_trans Kp3.1 hb8
  have ct8 := CHr.keep Kc8 (sfS (Safe.exa (EL := consts_1) hZ.alike A3 (by decide) (by decide)) sf0) hC3
  have hC8 := ct8.1
  have cr8 := cr3.trans ct8
  have hkk8 := Nat.le_trans hkk3 Kc8.1
  have Kp8 : Keep h0 T8.heap [u] := Kp3.trans Kc8 (allS (P := fun x => x ∈ [u] ∨ h0.size ≤ x) (Or.inr sz3) (all0 (P := fun x => x ∈ [u] ∨ h0.size ≤ x)))
  have sf_bb8 := Safe.keep Kc8 (sfS (Safe.exa (EL := consts_1) hZ.alike A3 (by decide) (by decide)) sf0) hC3 (Safe.new (EL := consts_1) hb8)
  obtain ⟨a12, T12, h12, k12, bb12, kk12, X12, e12, E12, hS12, hk12, hZ12, hown12, Es12, Fc12, Fv12, Va12, -, -, ct12, -, -, st12⟩ := ldcCH X8 hx hZ hown (hi 187 rfl) wS ee8 hS0 hkk8 hEL (by decide : (zs9, 53) ∈ consts_1) hC8 (vs := [(.int 67), (.int 111), (.int 117), (.int 108), (.int 100), (.int 32), (.int 110), (.int 111), (.int 116), (.int 32)]) (z := (10 : Int32)) ⟨by decide, by decide⟩ (by decide) rfl (g := (mkF m 29 #[vR u, vR xe, vR a] [(.ref b3), (.ref u)])) rfl (hb hby d12_29) (n := 40) (by decide) (by decide) (by decide) (by decide)
  have hC12 := ct12.1
  have cr12 := cr8.trans ct12
  have O12 := Oc8.ext E12
  have Vh12 : owB Z h12 bb12 kk12 (10 : Int32) := owB.of Va12 (by decide)
  have sf_bb8_12 := ct12.safe Vb8.lt sf_bb8
  have Kp12 : Keep h0 h12 [u] := Kp8.ext E12
  have fa13 := (Ec8.ext E12)
  have fa14 := (Gv8.ext E12)
  have fa15 := (Gc8.ext E12)
  have fa16 := (Gn8.ext E12)
  have fa17 := (Vb8.ext E12)
  obtain ⟨cq18, kq18, q18a, q18b, q18c⟩ := isOf hZ12 e12 fa13
  obtain ⟨_, _, ⟨T18, L18, k18, n18⟩, -, X18, ⟨Lc18, hQ18, l18, y18, z18⟩, st18⟩ := X12.virtualBack hx (y := yy27) (z := yy27) hown12 (mvT hZ12 (hi 188 rfl)) (mvT hZ12 (hi 189 rfl)) (notFace_of_selects (args := #[]) (mvT hZ12 (hi 191 rfl))) (mvT hZ12 (hi 191 rfl)) (mvT hZ12 (hi 190 rfl)) (by decide) (backOf (W := 1) (rmApS_16_0_10 l Z a0 hw [] n0 h12 O12 qqR qqN qqK qqU qqS qqE qqI qqM W b3 bb8 kk8 a12 bb12 kk12 fa13 fa14 fa15 fa16 fa17 Es12 Fc12 Fv12 Vh12 gx3 gx8) hZ12 (hi 192 rfl) (hi 171 rfl) (by decide) (by decide)) q18a q18c (g := (mkF m 31 #[vR u, vR xe, vR a] [(.ref a12), (.ref b3), (.ref u)])) rfl (by rw [hml]; rfl) (Steps.refl _) (argsL := [(.ref a12)]) (rest := [(.ref u)]) (lenOf owpd25 rfl) rfl (Nat.le_of_eq rfl) (hb hby d12_31) (fun _ _ => ⟨rfl, e12, (by decide : 4 + 0 ≤ _), (by decide : 64 + 0 ≤ _)⟩)
  dsimp only [Pt.U, Pt.locs, Pt.cells, Pt.slots] at X18 l18 y18 z18 st18 hQ18
  subst l18 y18 z18
  obtain ⟨Nq18, hP18⟩ := hQ18
  have N18 := Fr.app N8 Nq18
  have ee18 : T18.heap = T18.heap := rfl
  obtain ⟨rfl, Oc18, Kc18, bb18, kk18, rfl, Ec18, Gv18, Gc18, Gn18, Vb18⟩ := hP18
  have ct18 := CHr.keep Kc18 (sfS (Safe.exa (EL := consts_1) hZ12.alike fa13 (by decide) (by decide)) (sfS sf_bb8_12 sf0)) hC12
  have hC18 := ct18.1
  have cr18 := cr12.trans ct18
  have hkk18 := Nat.le_trans hk12 Kc18.1
  have Kp18 : Keep h0 T18.heap [u] := Kp12.trans Kc18 (allS (P := fun x => x ∈ [u] ∨ h0.size ≤ x) (Or.inr sz3) (allS (P := fun x => x ∈ [u] ∨ h0.size ≤ x) (Or.inr sz8) (all0 (P := fun x => x ∈ [u] ∨ h0.size ≤ x))))
  have fa19 := (((fa10.keep Kc8).ext E12).keep Kc18)
  have fa20 := (((fa9.keep Kc8).ext E12).keep Kc18)
  have fa21 := (((((Fcs.other W2 (Or.inl (Exa.ne fa19 fa20 (by decide)))).ext E3).keep Kc8 (ninS ne_a_3 nin0)).ext E12).keep Kc18 (ninS ne_a_3 (ninS ne_a_8 nin0)))
  have fa22 := (((((Fvs.other W2 (Or.inl (Exa.ne fa19 fa20 (by decide)))).ext E3).keep Kc8 (ninS ne_a_3 nin0)).ext E12).keep Kc18 (ninS ne_a_3 (ninS ne_a_8 nin0)))
  have fa23 := (((fa11.keep Kc8 (ninS ne_ab_3 nin0)).ext E12).keep Kc18 (ninS ne_ab_3 (ninS ne_ab_8 nin0)))
  obtain ⟨cq24, kq24, q24a, q24b, q24c⟩ := isOf hZ12 ee18 Ec18
  obtain ⟨_, _, ⟨T24, L24, k24, n24⟩, -, X24, ⟨Lc24, hQ24, l24, y24, z24⟩, st24⟩ := X18.virtualBack hx (y := yy27) (z := yy27) hown12 (mvT hZ12 (hi 188 rfl)) (mvT hZ12 (hi 189 rfl)) (notFace_of_selects (args := #[]) (mvT hZ12 (hi 191 rfl))) (mvT hZ12 (hi 191 rfl)) (mvT hZ12 (hi 190 rfl)) (by decide) (backOf (W := 1) (rmApS_16_10_22 l Z a0 hw [] n0 T18.heap Oc18 qqR qqN qqK qqU qqS qqE qqI qqM W b3 bb8 kk18 a ab ak Ec18 Gv18 Gc18 Gn18 Vb18 fa19 fa21 fa22 fa23 gx3 gx8) hZ12 (hi 192 rfl) (hi 171 rfl) (by decide) (by decide)) q24a q24c (g := (mkF m 35 #[vR u, vR xe, vR a] [(.ref a), (.ref b3), (.ref u)])) rfl (by rw [hml]; rfl) (Steps.refl _) (argsL := [(.ref a)]) (rest := [(.ref u)]) (lenOf owpd25 rfl) rfl (Nat.le_of_eq rfl) (hb hby d12_35) (fun _ _ => ⟨rfl, ee18, (by decide : 4 + 1 ≤ _), (by decide : 64 + 34 ≤ _)⟩)
  dsimp only [Pt.U, Pt.locs, Pt.cells, Pt.slots] at X24 l24 y24 z24 st24 hQ24
  subst l24 y24 z24
  obtain ⟨Nq24, hP24⟩ := hQ24
  have N24 := Fr.app N18 Nq24
  have ee24 : T24.heap = T24.heap := rfl
  obtain ⟨rfl, Oc24, Kc24, bb24, kk24, hb24, Ec24, Gv24, Gc24, Gn24, Vb24⟩ := hP24
  have ne_u_24 : u ≠ bb24 := Nat.ne_of_lt (Nat.lt_of_lt_of_le fa20.lt hb24)
  have ne_a_24 : a ≠ bb24 := Nat.ne_of_lt (Nat.lt_of_lt_of_le fa19.lt hb24)
  have ne_ab_24 : ab ≠ bb24 := Nat.ne_of_lt (Nat.lt_of_lt_of_le fa23.lt hb24)
  have ne_b3_24 : b3 ≠ bb24 := Nat.ne_of_lt (Nat.lt_of_lt_of_le Ec18.lt hb24)
  have ne_bb8_24 : bb8 ≠ bb24 := Nat.ne_of_lt (Nat.lt_of_lt_of_le Vb18.lt hb24)
  have gx24 : n0 ≤ bb24 := Nat.le_trans (Nat.le_trans (Nat.le_of_eq Oc18.1.symm) Oc18.2.1) hb24
  have sz24 : h0.size ≤ bb24 := Nat.le_trans Kp18.1 hb24
  have ct24 := CHr.keep Kc24 (sfS (Safe.exa (EL := consts_1) hZ12.alike Ec18 (by decide) (by decide)) sf0) hC18
  have hC24 := ct24.1
  have cr24 := cr18.trans ct24
  have hkk24 := Nat.le_trans hkk18 Kc24.1
  have Kp24 : Keep h0 T24.heap [u] := Kp18.trans Kc24 (allS (P := fun x => x ∈ [u] ∨ h0.size ≤ x) (Or.inr sz3) (all0 (P := fun x => x ∈ [u] ∨ h0.size ≤ x)))
  obtain ⟨a25, T25, h25, k25, bb25, kk25, X25, e25, E25, hS25, hk25, hZ25, hown25, Es25, Fc25, Fv25, Va25, -, -, ct25, -, -, st25⟩ := ldcCH X24 hx hZ12 hown12 (hi 261 rfl) wS ee24 hS12 hkk24 hEL (by decide : (zs9, 59) ∈ consts_1) hC24 (vs := [(.int 32), (.int 111), (.int 102), (.int 32), (.int 116), (.int 104), (.int 101), (.int 32), (.int 117), (.int 110), (.int 105), (.int 116), (.int 32), (.int 111), (.int 102), (.int 32), (.int 119), (.int 111), (.int 114), (.int 107), (.int 32), (.int 111), (.int 110), (.int 99), (.int 101), (.int 32), (.int 105), (.int 116), (.int 32), (.int 104), (.int 97), (.int 100), (.int 32)]) (z := (33 : Int32)) ⟨by decide, by decide⟩ (by decide) rfl (g := (mkF m 38 #[vR u, vR xe, vR a] [(.ref b3), (.ref u)])) rfl (hb hby d12_38) (n := 132) (by decide) (by decide) (by decide) (by decide)
  have hC25 := ct25.1
  have cr25 := cr24.trans ct25
  have O25 := Oc24.ext E25
  have Vh25 : owB Z h25 bb25 kk25 (33 : Int32) := owB.of Va25 (by decide)
  have Kp25 : Keep h0 h25 [u] := Kp24.ext E25
  have fa26 := (Ec24.ext E25)
  have fa27 := (Gv24.ext E25)
  have fa28 := (Gc24.ext E25)
  have fa29 := (Gn24.ext E25)
  have fa30 := (Vb24.ext E25)
  obtain ⟨cq31, kq31, q31a, q31b, q31c⟩ := isOf hZ25 e25 fa26
  obtain ⟨_, _, ⟨T31, L31, k31, n31⟩, -, X31, ⟨Lc31, hQ31, l31, y31, z31⟩, st31⟩ := X25.virtualBack hx (y := yy27) (z := yy27) hown25 (mvT hZ25 (hi 188 rfl)) (mvT hZ25 (hi 189 rfl)) (notFace_of_selects (args := #[]) (mvT hZ25 (hi 191 rfl))) (mvT hZ25 (hi 191 rfl)) (mvT hZ25 (hi 190 rfl)) (by decide) (backOf (W := 1) (rmApS_34_32_33 l Z a0 hw [] n0 h25 O25 qqR qqN qqK qqU qqS qqE qqI qqM W b3 bb24 kk24 a25 bb25 kk25 fa26 fa27 fa28 fa29 fa30 Es25 Fc25 Fv25 Vh25 gx3 gx24) hZ25 (hi 192 rfl) (hi 171 rfl) (by decide) (by decide)) q31a q31c (g := (mkF m 40 #[vR u, vR xe, vR a] [(.ref a25), (.ref b3), (.ref u)])) rfl (by rw [hml]; rfl) (Steps.refl _) (argsL := [(.ref a25)]) (rest := [(.ref u)]) (lenOf owpd25 rfl) rfl (Nat.le_of_eq rfl) (hb hby d12_40) (fun _ _ => ⟨rfl, e25, (by decide : 7 + 1 ≤ _), (by decide : 234 + 70 ≤ _)⟩)
  dsimp only [Pt.U, Pt.locs, Pt.cells, Pt.slots] at X31 l31 y31 z31 st31 hQ31
  subst l31 y31 z31
  obtain ⟨Nq31, hP31⟩ := hQ31
  have N31 := Fr.app N24 Nq31
  have ee31 : T31.heap = T31.heap := rfl
  obtain ⟨rfl, Oc31, Kc31, bb31, kk31, hb31, Ec31, Gv31, Gc31, Gn31, Vb31⟩ := hP31
  have fa32 := ((fa20.keep Kc24).ext E25)
  have ne_u_31 : u ≠ bb31 := Nat.ne_of_lt (Nat.lt_of_lt_of_le fa32.lt hb31)
  have fa33 := ((fa19.keep Kc24).ext E25)
  have ne_a_31 : a ≠ bb31 := Nat.ne_of_lt (Nat.lt_of_lt_of_le fa33.lt hb31)
  have fa34 := ((fa23.keep Kc24 (ninS ne_ab_3 nin0)).ext E25)
  have ne_ab_31 : ab ≠ bb31 := Nat.ne_of_lt (Nat.lt_of_lt_of_le fa34.lt hb31)
  have ne_b3_31 : b3 ≠ bb31 := Nat.ne_of_lt (Nat.lt_of_lt_of_le fa26.lt hb31)
  have fa35 := ((Vb18.keep Kc24 (ninS (Ne.symm ne_b3_8) nin0)).ext E25)
  have ne_bb8_31 : bb8 ≠ bb31 := Nat.ne_of_lt (Nat.lt_of_lt_of_le fa35.lt hb31)
  have ne_bb24_31 : bb24 ≠ bb31 := Nat.ne_of_lt (Nat.lt_of_lt_of_le fa30.lt hb31)
  have gx31 : n0 ≤ bb31 := Nat.le_trans (Nat.le_trans (Nat.le_of_eq O25.1.symm) O25.2.1) hb31
  have sz31 : h0.size ≤ bb31 := Nat.le_trans Kp25.1 hb31
  have ct31 := CHr.keep Kc31 (sfS (Safe.exa (EL := consts_1) hZ25.alike fa26 (by decide) (by decide)) sf0) hC25
  have hC31 := ct31.1
  have cr31 := cr25.trans ct31
  have hkk31 := Nat.le_trans hk25 Kc31.1
  have Kp31 : Keep h0 T31.heap [u] := Kp25.trans Kc31 (allS (P := fun x => x ∈ [u] ∨ h0.size ≤ x) (Or.inr sz3) (all0 (P := fun x => x ∈ [u] ∨ h0.size ≤ x)))
  have fa36 := ((((((((Uc.other W2 (Or.inr (slot_ne (Or.inr (hi 56 rfl)) (Or.inl (hi 79 rfl)) (by decide) (t := .boolean) (t' := (.object zs15)) (by decide) (by decide)))).ext E3).keep Kc8 (ninS ne_u_3 nin0)).ext E12).keep Kc18 (ninS ne_u_3 (ninS ne_u_8 nin0))).keep Kc24 (ninS ne_u_3 nin0)).ext E25).keep Kc31 (ninS ne_u_3 nin0))
  obtain ⟨T37, X37, e37, st37⟩ := getF X31 hx hZ25 hown25 (host := "") (Or.inl (hi 55 rfl)) Via.refl ee31 fa36 (g := (mkF m 44 #[vR u, vR xe, vR a] [(.ref u), (.ref b3), (.ref u)])) rfl rfl (hb hby d12_44)
  obtain ⟨a38, T38, h38, k38, bb38, kk38, X38, e38, E38, hS38, hk38, hZ38, hown38, Es38, Fc38, Fv38, Va38, -, -, ct38, -, -, st38⟩ := ldcCH X37 hx hZ25 hown25 (hi 329 rfl) wS e37 hS25 hkk31 hEL (by decide : (zs9, 61) ∈ consts_1) hC31 (vs := [(.int 99), (.int 111), (.int 109), (.int 109), (.int 105), (.int 116), (.int 116), (.int 101), (.int 100)]) (z := (9 : Int32)) ⟨by decide, by decide⟩ (by decide) rfl (g := (mkF m 50 #[vR u, vR xe, vR a] [(.ref b3), (.ref u)])) rfl (hb hby d12_50) (n := 36) (by decide) (by decide) (by decide) (by decide)
  have hC38 := ct38.1
  have cr38 := cr31.trans ct38
  have O38 := Oc31.ext E38
  have Vh38 : owB Z h38 bb38 kk38 (9 : Int32) := owB.of Va38 (by decide)
  have Kp38 : Keep h0 h38 [u] := Kp31.ext E38
  have fa39 := (Ec31.ext E38)
  have fa40 := (Gv31.ext E38)
  have fa41 := (Gc31.ext E38)
  have fa42 := (Gn31.ext E38)
  have fa43 := (Vb31.ext E38)
  obtain ⟨cq44, kq44, q44a, q44b, q44c⟩ := isOf hZ38 e38 fa39
  obtain ⟨_, _, ⟨T44, L44, k44, n44⟩, -, X44, ⟨Lc44, hQ44, l44, y44, z44⟩, st44⟩ := X38.virtualBack hx (y := yy27) (z := yy27) hown38 (mvT hZ38 (hi 188 rfl)) (mvT hZ38 (hi 189 rfl)) (notFace_of_selects (args := #[]) (mvT hZ38 (hi 191 rfl))) (mvT hZ38 (hi 191 rfl)) (mvT hZ38 (hi 190 rfl)) (by decide) (backOf (W := 1) (rmApS_70_65_9 l Z a0 hw [] n0 h38 O38 qqR qqN qqK qqU qqS qqE qqI qqM W b3 bb31 kk31 a38 bb38 kk38 fa39 fa40 fa41 fa42 fa43 Es38 Fc38 Fv38 Vh38 gx3 gx31) hZ38 (hi 192 rfl) (hi 171 rfl) (by decide) (by decide)) q44a q44c (g := (mkF m 57 #[vR u, vR xe, vR a] [(.ref a38), (.ref b3), (.ref u)])) rfl (by rw [hml]; rfl) (Steps.refl _) (argsL := [(.ref a38)]) (rest := [(.ref u)]) (lenOf owpd25 rfl) rfl (Nat.le_of_eq rfl) (hb hby d12_57) (fun _ _ => ⟨rfl, e38, (by decide : 10 + 1 ≤ _), (by decide : 344 + 142 ≤ _)⟩)
  dsimp only [Pt.U, Pt.locs, Pt.cells, Pt.slots] at X44 l44 y44 z44 st44 hQ44
  subst l44 y44 z44
  obtain ⟨Nq44, hP44⟩ := hQ44
  have N44 := Fr.app N31 Nq44
  have ee44 : T44.heap = T44.heap := rfl
  obtain ⟨rfl, Oc44, Kc44, bb44, kk44, hb44, Ec44, Gv44, Gc44, Gn44, Vb44⟩ := hP44
  have fa45 := ((fa32.keep Kc31).ext E38)
  have ne_u_44 : u ≠ bb44 := Nat.ne_of_lt (Nat.lt_of_lt_of_le fa45.lt hb44)
  have fa46 := ((fa33.keep Kc31).ext E38)
  have ne_a_44 : a ≠ bb44 := Nat.ne_of_lt (Nat.lt_of_lt_of_le fa46.lt hb44)
  have fa47 := ((fa34.keep Kc31 (ninS ne_ab_3 nin0)).ext E38)
  have ne_ab_44 : ab ≠ bb44 := Nat.ne_of_lt (Nat.lt_of_lt_of_le fa47.lt hb44)
  have ne_b3_44 : b3 ≠ bb44 := Nat.ne_of_lt (Nat.lt_of_lt_of_le fa39.lt hb44)
  have fa48 := ((fa35.keep Kc31 (ninS (Ne.symm ne_b3_8) nin0)).ext E38)
  have ne_bb8_44 : bb8 ≠ bb44 := Nat.ne_of_lt (Nat.lt_of_lt_of_le fa48.lt hb44)
  have fa49 := ((fa30.keep Kc31 (ninS (Ne.symm ne_b3_24) nin0)).ext E38)
  have ne_bb24_44 : bb24 ≠ bb44 := Nat.ne_of_lt (Nat.lt_of_lt_of_le fa49.lt hb44)
  have ne_bb31_44 : bb31 ≠ bb44 := Nat.ne_of_lt (Nat.lt_of_lt_of_le fa43.lt hb44)
  have gx44 : n0 ≤ bb44 := Nat.le_trans (Nat.le_trans (Nat.le_of_eq O38.1.symm) O38.2.1) hb44
  have sz44 : h0.size ≤ bb44 := Nat.le_trans Kp38.1 hb44
  have ct44 := CHr.keep Kc44 (sfS (Safe.exa (EL := consts_1) hZ38.alike fa39 (by decide) (by decide)) sf0) hC38
  have hC44 := ct44.1
  have cr44 := cr38.trans ct44
  have hkk44 := Nat.le_trans hk38 Kc44.1
  have Kp44 : Keep h0 T44.heap [u] := Kp38.trans Kc44 (allS (P := fun x => x ∈ [u] ∨ h0.size ≤ x) (Or.inr sz3) (all0 (P := fun x => x ∈ [u] ∨ h0.size ≤ x)))
  obtain ⟨cq50, kq50, q50a, q50b, q50c⟩ := isOf hZ38 ee44 Ec44
  obtain ⟨_, _, ⟨T50, L50, k50, n50⟩, -, X50, ⟨Lc50, hQ50, l50, y50, z50⟩, st50⟩ := X44.virtualBack hx (y := yy29) (z := yy29) hown38 (mvT hZ38 (hi 263 rfl)) (mvT hZ38 (hi 264 rfl)) (notFace_of_selects (args := #[]) (mvT hZ38 (hi 266 rfl))) (mvT hZ38 (hi 266 rfl)) (mvT hZ38 (hi 265 rfl)) (by decide) (backOf (W := 1) (rmTos_74 l Z a0 hw [] n0 T44.heap Oc44 qqR qqN qqK qqU qqS qqE qqI qqM W b3 bb44 kk44 Ec44 Gv44 Gc44 Gn44 Vb44) hZ38 (hi 267 rfl) (hi 171 rfl) (by decide) (by decide)) q50a q50c (g := (mkF m 60 #[vR u, vR xe, vR a] [(.ref b3), (.ref u)])) rfl (by rw [hml]; rfl) (Steps.refl _) (argsL := []) (rest := [(.ref u)]) (lenOf owpd26 rfl) rfl (Nat.le_of_eq rfl) (hb hby d12_60) (fun _ _ => ⟨rfl, ee44, (by decide : 11 + 2 ≤ _), (by decide : 486 + 78 ≤ _)⟩)
  dsimp only [Pt.U, Pt.locs, Pt.cells, Pt.slots] at X50 l50 y50 z50 st50 hQ50
  subst l50 y50 z50
  obtain ⟨Nq50, hP50⟩ := hQ50
  have N50 := Fr.app N44 Nq50
  have ee50 : T50.heap = T50.heap := rfl
  obtain ⟨bb50, rfl, hb50, Oc50, Kc50⟩ := hP50
  have ct50 := CHr.keep Kc50 sf0 hC44
  have hC50 := ct50.1
  have cr50 := cr44.trans ct50
  have hkk50 := Nat.le_trans hkk44 Kc50.1
  have Kp50 : Keep h0 T50.heap [u] := Kp44.trans Kc50 (all0 (P := fun x => x ∈ [u] ∨ h0.size ≤ x))
  have fa51 := (((((((((((Ux.other W2 (Or.inr (slot_ne (Or.inl (hi 89 rfl)) (Or.inl (hi 79 rfl)) (by decide) (t := (.object zs18)) (t' := (.object zs15)) (by decide) (by decide)))).ext E3).keep Kc8 (ninS ne_u_3 nin0)).ext E12).keep Kc18 (ninS ne_u_3 (ninS ne_u_8 nin0))).keep Kc24 (ninS ne_u_3 nin0)).ext E25).keep Kc31 (ninS ne_u_3 nin0)).ext E38).keep Kc44 (ninS ne_u_3 nin0)).keep Kc50 nin0)
  have fa52 := ((fa45.keep Kc44).keep Kc50)
  obtain ⟨T53, h53, X53, e53, W53, st53⟩ := putF X50 hx hZ38 hown38 (host := "") (Or.inl (hi 88 rfl)) Via.refl ee50 fa51 fa52 (Or.inl (hi 89 rfl)) (hi 49 rfl) (ty := (.object zs18)) (by decide) rfl rfl (g := (mkF m 63 #[vR u, vR xe, vR a] [(.ref bb50), (.ref u)])) rfl rfl (hb hby d12_63)
  have Fw53 := fa51.same W53
  have N53 := Fr.snoc X53 N50 gu
  have O53 := Oc50.wr W53 gu
  have hkk53 := Nat.le_trans hkk50 (Nat.le_of_eq W53.size.symm)
  have ct53 := CHr.wr W53 (Safe.exa (EL := consts_1) hZ38.alike fa52 (by decide) (by decide)) hC50
  have hC53 := ct53.1
  have cr53 := cr50.trans ct53
  have Kp53 : Keep h0 h53 [u] := Kp50.wr W53 (Or.inl (List.mem_of_getElem? (i := 0) rfl))
  have fa54 := (fa52.wr W53)
  have fa55 := ((((fa36.ext E38).keep Kc44 (ninS ne_u_3 nin0)).keep Kc50 nin0).other W53 (Or.inr (slot_ne (Or.inr (hi 56 rfl)) (Or.inl (hi 89 rfl)) (by decide) (t := .boolean) (t' := (.object zs18)) (by decide) (by decide))))
  have fa56 := ((((((((((((Uw.other W2 (Or.inr (slot_ne (Or.inl (hi 61 rfl)) (Or.inl (hi 79 rfl)) (by decide) (t := (.object zs10)) (t' := (.object zs15)) (by decide) (by decide)))).ext E3).keep Kc8 (ninS ne_u_3 nin0)).ext E12).keep Kc18 (ninS ne_u_3 (ninS ne_u_8 nin0))).keep Kc24 (ninS ne_u_3 nin0)).ext E25).keep Kc31 (ninS ne_u_3 nin0)).ext E38).keep Kc44 (ninS ne_u_3 nin0)).keep Kc50 nin0).other W53 (Or.inr (slot_ne (Or.inl (hi 61 rfl)) (Or.inl (hi 89 rfl)) (by decide) (t := (.object zs10)) (t' := (.object zs18)) (by decide) (by decide))))
  have fa57 := (((((((((((Fw2.ext E3).keep Kc8 (ninS ne_u_3 nin0)).ext E12).keep Kc18 (ninS ne_u_3 (ninS ne_u_8 nin0))).keep Kc24 (ninS ne_u_3 nin0)).ext E25).keep Kc31 (ninS ne_u_3 nin0)).ext E38).keep Kc44 (ninS ne_u_3 nin0)).keep Kc50 nin0).other W53 (Or.inr (slot_ne (Or.inl (hi 79 rfl)) (Or.inl (hi 89 rfl)) (by decide) (t := (.object zs15)) (t' := (.object zs18)) (by decide) (by decide))))
  obtain ⟨fs, hr, hrun, hended, hend⟩ := X53.leaveW hS38 (by rw [e53]; exact hkk53) (v := none) (fun _ => rfl)
  refine ⟨_, _, castTop ef ?_, hrun, hended, _, _, rfl, ?_, ?_, hend.1, hend.2.1, hend.2.2.1, hend.2.2.2.mono (by decide) (by decide)⟩
  · show OwG p e below s₁ m 0 #[vR u, vR xe, vR a] [] _
    refine XS.aloadN Y0.here hx rfl (hb hby d12_0) rfl rfl ?_
    show OwG p e below s₁ m 1 #[vR u, vR xe, vR a] [(.ref u)] _
    refine st1 _ ?_
    show OwG p e below T1 m 4 #[vR u, vR xe, vR a] [.null] _
    refine XS.ifnullYes X1.here hx rfl (pc0 := 4) (pc' := 16) rfl (hb hby d12_4) rfl (by decide) (by decide) ?_
    refine XS.aloadN X1.here hx rfl (hb hby d12_16) rfl rfl ?_
    refine XS.aloadN X1.here hx rfl (hb hby d12_17) rfl rfl ?_
    show OwG p e below T1 m 18 #[vR u, vR xe, vR a] [(.ref xe), (.ref u)] _
    refine st2 _ ?_
    show OwG p e below T2 m 21 #[vR u, vR xe, vR a] [] _
    refine XS.aloadN X2.here hx rfl (hb hby d12_21) rfl rfl ?_
    show OwG p e below T2 m 22 #[vR u, vR xe, vR a] [(.ref u)] _
    refine st3 _ ?_
    show OwG p e below T3 m 25 #[vR u, vR xe, vR a] [(.ref b3), (.ref u)] _
    refine XS.dup X3.here hx rfl (hb hby d12_25) rfl rfl ?_
    show OwG p e below T3 m 26 #[vR u, vR xe, vR a] [(.ref b3), (.ref b3), (.ref u)] _
    refine st8.trans ?_
    show OwG p e below T8 m 29 #[vR u, vR xe, vR a] [(.ref b3), (.ref u)] _
    refine st12 _ ?_
    show OwG p e below T12 m 31 #[vR u, vR xe, vR a] [(.ref a12), (.ref b3), (.ref u)] _
    refine st18.trans ?_
    show OwG p e below T18 m 34 #[vR u, vR xe, vR a] [(.ref b3), (.ref u)] _
    refine XS.aloadN X18.here hx rfl (hb hby d12_34) rfl rfl ?_
    show OwG p e below T18 m 35 #[vR u, vR xe, vR a] [(.ref a), (.ref b3), (.ref u)] _
    refine st24.trans ?_
    show OwG p e below T24 m 38 #[vR u, vR xe, vR a] [(.ref b3), (.ref u)] _
    refine st25 _ ?_
    show OwG p e below T25 m 40 #[vR u, vR xe, vR a] [(.ref a25), (.ref b3), (.ref u)] _
    refine st31.trans ?_
    show OwG p e below T31 m 43 #[vR u, vR xe, vR a] [(.ref b3), (.ref u)] _
    refine XS.aloadN X31.here hx rfl (hb hby d12_43) rfl rfl ?_
    show OwG p e below T31 m 44 #[vR u, vR xe, vR a] [(.ref u), (.ref b3), (.ref u)] _
    refine st37 _ ?_
    show OwG p e below T37 m 47 #[vR u, vR xe, vR a] [(.int 1), (.ref b3), (.ref u)] _
    refine XS.ifNo X37.here hx rfl (hb hby d12_47) rfl ((if0 _ _).trans (feq (by decide : ¬ ((1 : Int32) = (0 : Int32)))).1) ?_
    show OwG p e below T37 m 50 #[vR u, vR xe, vR a] [(.ref b3), (.ref u)] _
    refine st38 _ ?_
    show OwG p e below T38 m 52 #[vR u, vR xe, vR a] [(.ref a38), (.ref b3), (.ref u)] _
    refine XS.goto X38.here hx rfl (pc0 := 52) (pc' := 57) rfl (hb hby d12_52) (by decide) (by decide) ?_
    show OwG p e below T38 m 57 #[vR u, vR xe, vR a] [(.ref a38), (.ref b3), (.ref u)] _
    refine st44.trans ?_
    show OwG p e below T44 m 60 #[vR u, vR xe, vR a] [(.ref b3), (.ref u)] _
    refine st50.trans ?_
    show OwG p e below T50 m 63 #[vR u, vR xe, vR a] [(.ref bb50), (.ref u)] _
    refine st53 _ ?_
    show OwG p e below T53 m 66 #[vR u, vR xe, vR a] [] _
    exact X53.returnOut hx Bd.returns (hb hby d12_66) hr
  · have eF : (T53.setFrames fs).heap = h53 := e53
    exact ⟨N53, rfl, by rw [eF]; exact ⟨O53, Kp53, ⟨fa54, fa55, fa56, fa57, _, Fw53⟩⟩⟩
  · have eF : (T53.setFrames fs).heap = h53 := e53
    have crF := cr53.trans (CHv.at X53 hZ38 hEL hC53)
    rw [hh, eF]
    exact crF
theorem rmRelS0 (l : Launch) (Z : State) (a0 : Array Value) (hw : OwHw Z a0) (ws : List Jvm.Cond) (n0 : Nat) (h0 : Heap) (O : Old Z n0 h0) (qqR qqN qqK qqU qqS qqE : Addr) (qqI : Int32) (qqM : Addr) (W : OwW Z qqR qqN qqK qqU qqS qqE qqI qqM) (u xe : Addr) (cm : Int32) (wk fx a : Addr) (U : owU Z h0 u cm wk (.ref fx)) (Xf : owX0 Z h0 qqS fx) (Ex : Exa Z h0 xe zs15) (nx : fx ≠ xe) (gf : n0 ≤ fx) :
    OwConH l yy4 j23 3 none ws (rM 5 4 140 66) #[(.ref u), (.ref xe), (.ref a)] Z h0 consts_1 (OwP (fun v h => v = none ∧ Old Z n0 h ∧ Keep h0 h [fx] ∧ owX1 Z h n0 fx ∧ owU Z h u cm wk (.ref fx)) n0) := by
  refine MetFree.of_bodySF (plainFor_of_name owpn12) hisR ?_
  intro p e s m args below meth c s₁ Bd hml0 hP hK
  have hi := @own_hi Z a0 hw
  obtain ⟨rfl, hZ, hh, hC0⟩ := hP
  have hx := Bd.exec
  have hby := Bd.bytes
  have hml : c.maxLocals = 3 := hml0
  have hown := findClass_of_methodNamed Bd.named
  have X0 : Stand p l e (rM 5 4 140 66) s m #[(.ref u), (.ref xe), (.ref a)] below meth c s₁ [] 0 0 := Stand.of_body Bd
  have e0 : s₁.heap = h0 := by rw [← hh, Bd.state]; rfl
  have N0 := Fr.nil n0
  have ef : entryFrame m #[(.ref u), (.ref xe), (.ref a)] 3 = mkF m 0 #[.val (.ref u), .val (.ref xe), .val (.ref a)] [] := by first | (simp [entryFrame, mkF, argsToLocals, Value.category]; done) | rfl
  have Y0 : Stand p l e (rM 5 4 140 66) (s.setVm s.vm) m #[(.ref u), (.ref xe), (.ref a)] below meth c s₁ [] 0 0 := X0
  have hS0 : s.Since s.vm s.heap.size := (State.WarmedH.refl s).since _
  have hk0 : s.heap.size ≤ h0.size := Nat.le_of_eq (by rw [← hh])
  have wS : ∀ a ∈ Bundle.stringAtoms, a.before a0 Z = true := fun a ha => hw a (own_strin a ha)
  have cr0 := CHr.refl hC0
  have hEL := own_EW hw
  obtain ⟨Eu, Uc, Uw, Uf, xv, Ux⟩ := id U
  obtain ⟨Ef, Nf, Sf⟩ := id Xf
  obtain ⟨T1, X1, e1, st1⟩ := getF Y0 hx hZ hown (host := "") (Or.inl (hi 78 rfl)) Via.refl e0 Uf (g := (mkF m 1 #[vR u, vR xe, vR a] [(.ref u)])) rfl rfl (hb hby d12_1)
  obtain ⟨T2, X2, e2, st2⟩ := getF X1 hx hZ hown (host := "") (Or.inl (hi 78 rfl)) Via.refl e1 Uf (g := (mkF m 8 #[vR u, vR xe, vR a] [(.ref u)])) rfl rfl (hb hby d12_8)
  obtain ⟨cq3, kq3, q3a, q3b, q3c⟩ := isOf hZ e2 Ef
  obtain ⟨_, _, ⟨T3, L3, k3, n3⟩, -, Xw3, hSw3, hgr3, ⟨Lc3, hQ3, l3, y3, z3, ct3⟩, st3⟩ := own_upS X2 hx (owner := zs20) (x := yy18) (y := yy31) hown (mvT hZ (hi 114 rfl)) (mvT hZ (hi 115 rfl)) (mvT hZ (hi 116 rfl)) (by decide) (mvT hZ (hi 118 rfl)) (mvT hZ (hi 117 rfl)) (own_backSync (W := 0) (rmSup0 l Z a0 hw [] n0 h0 O qqR qqN qqK qqU qqS qqE qqI qqM W fx xe Ef Nf Sf Ex nx gf) hZ (hi 119 rfl) (hi 117 rfl) (hi 11 rfl) (by decide) (by decide) hEL hC0 Nf) q3a q3c (g := (mkF m 12 #[vR u, vR xe, vR a] [(.ref xe), (.ref fx)])) rfl (by rw [hml]; rfl) (Steps.refl _) (argsL := [(.ref xe)]) (rest := []) (lenOf owpd27 rfl) rfl (Nat.le_of_eq rfl) (hb hby d12_12) (fun _ _ => ⟨rfl, e2, (by decide : 0 + 4 ≤ _), (by decide : 0 + 140 ≤ _)⟩)
  dsimp only [Pt.U, Pt.locs, Pt.cells, Pt.slots] at Xw3 hSw3 hgr3 ct3 l3 y3 z3 st3 hQ3
  subst l3 y3 z3
  obtain ⟨X3, hS3, hZ3, hown3⟩ := rebS hS0 (by rw [e2]; exact hk0) Xw3 hSw3 hgr3 hZ hown
  have hk3 := Nat.le_refl T3.heap.size
  have hC3 := ct3.1
  have cr3 := cr0.trans ct3
  obtain ⟨Nq3, hP3⟩ := hQ3
  have N3 := Fr.app N0 Nq3
  have ee3 : T3.heap = T3.heap := rfl
  obtain ⟨rfl, Oc3, Kc3, X1c3⟩ := hP3
  have Kp3 : Keep h0 T3.heap [fx] := (Keep.refl h0 [fx]).trans Kc3 (allS (P := fun x => x ∈ [fx] ∨ h0.size ≤ x) (Or.inl (List.mem_of_getElem? (i := 0) rfl)) (all0 (P := fun x => x ∈ [fx] ∨ h0.size ≤ x)))
  have fa4 := (Eu.keep Kc3)
  have fa5 := (Ef.keep Kc3)
  have fa6 := (Uc.keep Kc3 (ninS (Exa.ne fa4 fa5 (by decide)) nin0))
  have fa7 := (Uw.keep Kc3 (ninS (Exa.ne fa4 fa5 (by decide)) nin0))
  have fa8 := (Uf.keep Kc3 (ninS (Exa.ne fa4 fa5 (by decide)) nin0))
  have fa9 := (Ux.keep Kc3 (ninS (Exa.ne fa4 fa5 (by decide)) nin0))
  obtain ⟨fs, hr, hrun, hended, hend⟩ := X3.leaveW hS3 (by rw [ee3]; exact hk3) (v := none) (fun _ => rfl)
  refine ⟨_, _, castTop ef ?_, hrun, hended, _, _, rfl, ?_, ?_, hend.1, hend.2.1, hend.2.2.1, hend.2.2.2.mono (by decide) (by decide)⟩
  · show OwG p e below s₁ m 0 #[vR u, vR xe, vR a] [] _
    refine XS.aloadN Y0.here hx rfl (hb hby d12_0) rfl rfl ?_
    show OwG p e below s₁ m 1 #[vR u, vR xe, vR a] [(.ref u)] _
    refine st1 _ ?_
    show OwG p e below T1 m 4 #[vR u, vR xe, vR a] [(.ref fx)] _
    refine XS.ifnullNo X1.here hx rfl (hb hby d12_4) rfl ?_
    refine XS.aloadN X1.here hx rfl (hb hby d12_7) rfl rfl ?_
    show OwG p e below T1 m 8 #[vR u, vR xe, vR a] [(.ref u)] _
    refine st2 _ ?_
    show OwG p e below T2 m 11 #[vR u, vR xe, vR a] [(.ref fx)] _
    refine XS.aloadN X2.here hx rfl (hb hby d12_11) rfl rfl ?_
    show OwG p e below T2 m 12 #[vR u, vR xe, vR a] [(.ref xe), (.ref fx)] _
    refine st3.trans ?_
    show OwG p e below T3 m 15 #[vR u, vR xe, vR a] [] _
    exact X3.returnOut hx Bd.returns (hb hby d12_15) hr
  · have eF : (T3.setFrames fs).heap = T3.heap := ee3
    exact ⟨N3, rfl, by rw [eF]; exact ⟨Oc3, Kp3, X1c3, ⟨fa4, fa6, fa7, fa8, _, fa9⟩⟩⟩
  · have eF : (T3.setFrames fs).heap = T3.heap := ee3
    have crF := cr3.trans (CHv.at X3 hZ3 hEL hC3)
    rw [hh, eF]
    exact crF
theorem rmRelS1 (l : Launch) (Z : State) (a0 : Array Value) (hw : OwHw Z a0) (ws : List Jvm.Cond) (n0 : Nat) (h0 : Heap) (O : Old Z n0 h0) (qqR qqN qqK qqU qqS qqE : Addr) (qqI : Int32) (qqM : Addr) (W : OwW Z qqR qqN qqK qqU qqS qqE qqI qqM) (u xe : Addr) (cm : Int32) (wk fx a : Addr) (U : owU Z h0 u cm wk (.ref fx)) (Xf : owX1 Z h0 n0 fx) (Ex : Exa Z h0 xe zs15) (nx : fx ≠ xe) (gf : n0 ≤ fx) :
    OwConH l yy4 j23 3 none ws (rM 8 3 138 117) #[(.ref u), (.ref xe), (.ref a)] Z h0 consts_1 (OwP (fun v h => v = none ∧ Old Z n0 h ∧ owU Z h u cm wk (.ref fx)) n0) := by
  refine MetFree.of_bodySF (plainFor_of_name owpn12) hisR ?_
  intro p e s m args below meth c s₁ Bd hml0 hP hK
  have hi := @own_hi Z a0 hw
  obtain ⟨rfl, hZ, hh, hC0⟩ := hP
  have hx := Bd.exec
  have hby := Bd.bytes
  have hml : c.maxLocals = 3 := hml0
  have hown := findClass_of_methodNamed Bd.named
  have X0 : Stand p l e (rM 8 3 138 117) s m #[(.ref u), (.ref xe), (.ref a)] below meth c s₁ [] 0 0 := Stand.of_body Bd
  have e0 : s₁.heap = h0 := by rw [← hh, Bd.state]; rfl
  have N0 := Fr.nil n0
  have ef : entryFrame m #[(.ref u), (.ref xe), (.ref a)] 3 = mkF m 0 #[.val (.ref u), .val (.ref xe), .val (.ref a)] [] := by first | (simp [entryFrame, mkF, argsToLocals, Value.category]; done) | rfl
  have Y0 : Stand p l e (rM 8 3 138 117) (s.setVm s.vm) m #[(.ref u), (.ref xe), (.ref a)] below meth c s₁ [] 0 0 := X0
  have hS0 : s.Since s.vm s.heap.size := (State.WarmedH.refl s).since _
  have hk0 : s.heap.size ≤ h0.size := Nat.le_of_eq (by rw [← hh])
  have wS : ∀ a ∈ Bundle.stringAtoms, a.before a0 Z = true := fun a ha => hw a (own_strin a ha)
  have cr0 := CHr.refl hC0
  have hEL := own_EW hw
  obtain ⟨Eu, Uc, Uw, Uf, xv, Ux⟩ := id U
  obtain ⟨Ef, Nf, li, ar, ka, xo, Sf, gl, gr, El, Lf0, Lf1, Lf2, Va, Ea, Oa, Eo⟩ := id Xf
  obtain ⟨T1, X1, e1, st1⟩ := getF Y0 hx hZ hown (host := "") (Or.inl (hi 78 rfl)) Via.refl e0 Uf (g := (mkF m 1 #[vR u, vR xe, vR a] [(.ref u)])) rfl rfl (hb hby d12_1)
  obtain ⟨T2, X2, e2, st2⟩ := getF X1 hx hZ hown (host := "") (Or.inl (hi 78 rfl)) Via.refl e1 Uf (g := (mkF m 8 #[vR u, vR xe, vR a] [(.ref u)])) rfl rfl (hb hby d12_8)
  obtain ⟨cq3, kq3, q3a, q3b, q3c⟩ := isOf hZ e2 Ef
  obtain ⟨_, _, ⟨T3, L3, k3, n3⟩, -, Xw3, hSw3, hgr3, ⟨Lc3, hQ3, l3, y3, z3, ct3⟩, st3⟩ := own_upS X2 hx (owner := zs20) (x := yy18) (y := yy31) hown (mvT hZ (hi 114 rfl)) (mvT hZ (hi 115 rfl)) (mvT hZ (hi 116 rfl)) (by decide) (mvT hZ (hi 118 rfl)) (mvT hZ (hi 117 rfl)) (own_backSync (W := 0) (rmSup1 l Z a0 hw [] n0 h0 O qqR qqN qqK qqU qqS qqE qqI qqM W fx xe li ar ka xo Ef Nf Sf Ex nx gf El Lf0 Lf1 Lf2 Va Ea Oa Eo gl gr) hZ (hi 119 rfl) (hi 117 rfl) (hi 11 rfl) (by decide) (by decide) hEL hC0 Nf) q3a q3c (g := (mkF m 12 #[vR u, vR xe, vR a] [(.ref xe), (.ref fx)])) rfl (by rw [hml]; rfl) (Steps.refl _) (argsL := [(.ref xe)]) (rest := []) (lenOf owpd27 rfl) rfl (Nat.le_of_eq rfl) (hb hby d12_12) (fun _ _ => ⟨rfl, e2, (by decide : 0 + 3 ≤ _), (by decide : 0 + 138 ≤ _)⟩)
  dsimp only [Pt.U, Pt.locs, Pt.cells, Pt.slots] at Xw3 hSw3 hgr3 ct3 l3 y3 z3 st3 hQ3
  subst l3 y3 z3
  obtain ⟨X3, hS3, hZ3, hown3⟩ := rebS hS0 (by rw [e2]; exact hk0) Xw3 hSw3 hgr3 hZ hown
  have hk3 := Nat.le_refl T3.heap.size
  have hC3 := ct3.1
  have cr3 := cr0.trans ct3
  obtain ⟨Nq3, hP3⟩ := hQ3
  have N3 := Fr.app N0 Nq3
  have ee3 : T3.heap = T3.heap := rfl
  obtain ⟨rfl, Oc3, Kc3⟩ := hP3
  have fa4 := (Eu.keep Kc3)
  have fa5 := (El.keep Kc3)
  have fa6 := (Ef.keep Kc3)
  have fa7 := (Uc.keep Kc3 (ninS (Exa.ne fa4 fa6 (by decide)) (ninS (Exa.ne fa4 fa5 (by decide)) nin0)))
  have fa8 := (Uw.keep Kc3 (ninS (Exa.ne fa4 fa6 (by decide)) (ninS (Exa.ne fa4 fa5 (by decide)) nin0)))
  have fa9 := (Uf.keep Kc3 (ninS (Exa.ne fa4 fa6 (by decide)) (ninS (Exa.ne fa4 fa5 (by decide)) nin0)))
  have fa10 := (Ux.keep Kc3 (ninS (Exa.ne fa4 fa6 (by decide)) (ninS (Exa.ne fa4 fa5 (by decide)) nin0)))
  obtain ⟨fs, hr, hrun, hended, hend⟩ := X3.leaveW hS3 (by rw [ee3]; exact hk3) (v := none) (fun _ => rfl)
  refine ⟨_, _, castTop ef ?_, hrun, hended, _, _, rfl, ?_, ?_, hend.1, hend.2.1, hend.2.2.1, hend.2.2.2.mono (by decide) (by decide)⟩
  · show OwG p e below s₁ m 0 #[vR u, vR xe, vR a] [] _
    refine XS.aloadN Y0.here hx rfl (hb hby d12_0) rfl rfl ?_
    show OwG p e below s₁ m 1 #[vR u, vR xe, vR a] [(.ref u)] _
    refine st1 _ ?_
    show OwG p e below T1 m 4 #[vR u, vR xe, vR a] [(.ref fx)] _
    refine XS.ifnullNo X1.here hx rfl (hb hby d12_4) rfl ?_
    refine XS.aloadN X1.here hx rfl (hb hby d12_7) rfl rfl ?_
    show OwG p e below T1 m 8 #[vR u, vR xe, vR a] [(.ref u)] _
    refine st2 _ ?_
    show OwG p e below T2 m 11 #[vR u, vR xe, vR a] [(.ref fx)] _
    refine XS.aloadN X2.here hx rfl (hb hby d12_11) rfl rfl ?_
    show OwG p e below T2 m 12 #[vR u, vR xe, vR a] [(.ref xe), (.ref fx)] _
    refine st3.trans ?_
    show OwG p e below T3 m 15 #[vR u, vR xe, vR a] [] _
    exact X3.returnOut hx Bd.returns (hb hby d12_15) hr
  · have eF : (T3.setFrames fs).heap = T3.heap := ee3
    exact ⟨N3, rfl, by rw [eF]; exact ⟨Oc3, ⟨fa4, fa7, fa8, fa9, _, fa10⟩⟩⟩
  · have eF : (T3.setFrames fs).heap = T3.heap := ee3
    have crF := cr3.trans (CHv.at X3 hZ3 hEL hC3)
    rw [hh, eF]
    exact crF
theorem rmUi0 (l : Launch) (Z : State) (a0 : Array Value) (hw : OwHw Z a0) (ws : List Jvm.Cond) (n0 : Nat) (h0 : Heap) (O : Old Z n0 h0) (qqR qqN qqK qqU qqS qqE : Addr) (qqI : Int32) (qqM : Addr) (W : OwW Z qqR qqN qqK qqU qqS qqE qqI qqM) (u : Addr) (Eu : Exa Z h0 u zs9) (Uc : Fld Z h0 u zs9 "commit" "Z" (.int 0)) (Uw : Fld Z h0 u zs9 "work" "Lcom/example/portable_transactions/portabletransactions/transaction/UnitEnding$Work;" .null) (Uf : Fld Z h0 u zs9 "failure" "Ljava/lang/Exception;" .null) (Ux : Fld Z h0 u zs9 "failed" "Ljava/lang/String;" .null) (gu : n0 ≤ u) :
    OwCon l yy0 j25 2 none ws (rM 1 0 0 12) #[(.ref u), (.int 0)] Z h0 (OwP (fun v h => v = none ∧ Old Z n0 h ∧ Keep h0 h [u] ∧ owU Z h u (0 : Int32) qqR .null) n0) := by
  refine MetFree.of_bodySF (plainFor_of_name owpn5) hisR ?_
  intro p e s m args below meth c s₁ Bd hml0 hP hK
  have hi := @own_hi Z a0 hw
  obtain ⟨rfl, hZ, hh⟩ := hP
  have hx := Bd.exec
  have hby := Bd.bytes
  have hml : c.maxLocals = 2 := hml0
  have hown := findClass_of_methodNamed Bd.named
  have hnm := (name_of_methodNamed Bd.named Bd.method).1
  have X0 : Stand p l e (rM 1 0 0 12) s m #[(.ref u), (.int 0)] below meth c s₁ [] 0 0 := Stand.of_body Bd
  have e0 : s₁.heap = h0 := by rw [← hh, Bd.state]; rfl
  have N0 := Fr.nil n0
  have WW := W
  obtain ⟨ES, nzI, SR, SN, FR, FN, SK, FK, SU, SS, SC, nRN, nKN, Mo, -⟩ := WW
  have ef : entryFrame m #[(.ref u), (.int 0)] 2 = mkF m 0 #[.val (.ref u), .val (.int 0)] [] := by first | (simp [entryFrame, mkF, argsToLocals, Value.category]; done) | rfl
  obtain ⟨T1, X1, e1, st1⟩ := initO X0 hx hZ hown (hi 54 rfl) (hi 14 rfl) (hi 15 rfl) e0 (g := (mkF m 1 #[vR u, vI 0] [(.ref u)])) rfl (by rw [hml]; rfl) rfl (hb hby d5_1) (by decide) (W := 0) (Nat.le_of_eq rfl) (by decide)
  obtain ⟨T2, h2, X2, e2, W2, st2⟩ := putFN X1 hx hZ hown (hi 55 rfl) Via.refl e1 Uc Eu (Or.inr ⟨(hi 56 rfl), rfl, hnm⟩) (hi 49 rfl) (ty := .boolean) (v' := (.int 0)) (by decide) rfl rfl (g := (mkF m 6 #[vR u, vI 0] [(.int 0), (.ref u)])) rfl rfl (hb hby d5_6)
  have Fw2 := Uc.same W2
  have N2 := Fr.snoc X2 N0 gu
  have O2 := O.wr W2 gu
  have Kp2 : Keep h0 h2 [u] := (Keep.refl h0 [u]).wr W2 (Or.inl (List.mem_of_getElem? (i := 0) rfl))
  obtain ⟨T3, X3, e3, st3⟩ := getS2 X2 hx hZ hown (host := "") (Or.inl (hi 57 rfl)) Via.refl e2 (SR.ext O2.2) (g := (mkF m 20 #[vR u, vI 0] [(.ref u)])) rfl (hb hby d5_20)
  have fa4 := (Uw.other W2 (Or.inr (slot_ne (Or.inl (hi 61 rfl)) (Or.inr (hi 56 rfl)) (by decide) (t := (.object zs10)) (t' := .boolean) (by decide) (by decide))))
  have fa5 := (Eu.wr W2)
  obtain ⟨T6, h6, X6, e6, W6, st6⟩ := putF X3 hx hZ hown (host := "") (Or.inl (hi 60 rfl)) Via.refl e3 fa4 fa5 (Or.inl (hi 61 rfl)) (hi 49 rfl) (ty := (.object zs10)) (by decide) rfl rfl (g := (mkF m 23 #[vR u, vI 0] [(.ref qqR), (.ref u)])) rfl rfl (hb hby d5_23)
  have Fw6 := fa4.same W6
  have N6 := Fr.snoc X6 N2 gu
  have O6 := O2.wr W6 gu
  have Kp6 : Keep h0 h6 [u] := Kp2.wr W6 (Or.inl (List.mem_of_getElem? (i := 0) rfl))
  have fa7 := (fa5.wr W6)
  have fa8 := (Fw2.other W6 (Or.inr (slot_ne (Or.inr (hi 56 rfl)) (Or.inl (hi 61 rfl)) (by decide) (t := .boolean) (t' := (.object zs10)) (by decide) (by decide))))
  have fa9 := ((Uf.other W2 (Or.inr (slot_ne (Or.inl (hi 79 rfl)) (Or.inr (hi 56 rfl)) (by decide) (t := (.object zs15)) (t' := .boolean) (by decide) (by decide)))).other W6 (Or.inr (slot_ne (Or.inl (hi 79 rfl)) (Or.inl (hi 61 rfl)) (by decide) (t := (.object zs15)) (t' := (.object zs10)) (by decide) (by decide))))
  have fa10 := ((Ux.other W2 (Or.inr (slot_ne (Or.inl (hi 89 rfl)) (Or.inr (hi 56 rfl)) (by decide) (t := (.object zs18)) (t' := .boolean) (by decide) (by decide)))).other W6 (Or.inr (slot_ne (Or.inl (hi 89 rfl)) (Or.inl (hi 61 rfl)) (by decide) (t := (.object zs18)) (t' := (.object zs10)) (by decide) (by decide))))
  obtain ⟨fs, hr, hrun, hended, hW, hsame⟩ := X6.leave (v := none) (fun _ => rfl)
  refine ⟨_, _, castTop ef ?_, hrun, hended, _, _, rfl, ?_, ⟨_, rfl⟩, hW, hsame.mono (by decide) (by decide)⟩
  · show OwG p e below s₁ m 0 #[vR u, vI 0] [] _
    refine XS.aloadN X0.here hx rfl (hb hby d5_0) rfl rfl ?_
    show OwG p e below s₁ m 1 #[vR u, vI 0] [(.ref u)] _
    refine st1 _ ?_
    show OwG p e below T1 m 4 #[vR u, vI 0] [] _
    refine XS.aloadN X1.here hx rfl (hb hby d5_4) rfl rfl ?_
    refine XS.iloadN X1.here hx rfl (hb hby d5_5) rfl ?_
    show OwG p e below T1 m 6 #[vR u, vI 0] [(.int 0), (.ref u)] _
    refine st2 _ ?_
    show OwG p e below T2 m 9 #[vR u, vI 0] [] _
    refine XS.aloadN X2.here hx rfl (hb hby d5_9) rfl rfl ?_
    refine XS.iloadN X2.here hx rfl (hb hby d5_10) rfl ?_
    refine XS.ifYes X2.here hx rfl (pc0 := 11) (pc' := 20) rfl (hb hby d5_11) rfl ((if0 _ _).trans (teq (by decide : (0 : Int32) = (0 : Int32))).1) (by decide) (by decide) ?_
    show OwG p e below T2 m 20 #[vR u, vI 0] [(.ref u)] _
    refine st3 _ ?_
    show OwG p e below T3 m 23 #[vR u, vI 0] [(.ref qqR), (.ref u)] _
    refine st6 _ ?_
    show OwG p e below T6 m 26 #[vR u, vI 0] [] _
    exact X6.returnOut hx Bd.returns (hb hby d5_26) hr
  · have eF : (T6.setFrames fs).heap = h6 := e6
    exact ⟨N6, rfl, by rw [eF]; exact ⟨O6, Kp6, ⟨fa7, fa8, Fw6, fa9, _, fa10⟩⟩⟩
theorem rmUi1 (l : Launch) (Z : State) (a0 : Array Value) (hw : OwHw Z a0) (ws : List Jvm.Cond) (n0 : Nat) (h0 : Heap) (O : Old Z n0 h0) (qqR qqN qqK qqU qqS qqE : Addr) (qqI : Int32) (qqM : Addr) (W : OwW Z qqR qqN qqK qqU qqS qqE qqI qqM) (u : Addr) (Eu : Exa Z h0 u zs9) (Uc : Fld Z h0 u zs9 "commit" "Z" (.int 0)) (Uw : Fld Z h0 u zs9 "work" "Lcom/example/portable_transactions/portabletransactions/transaction/UnitEnding$Work;" .null) (Uf : Fld Z h0 u zs9 "failure" "Ljava/lang/Exception;" .null) (Ux : Fld Z h0 u zs9 "failed" "Ljava/lang/String;" .null) (gu : n0 ≤ u) :
    OwCon l yy0 j25 2 none ws (rM 1 0 0 12) #[(.ref u), (.int 1)] Z h0 (OwP (fun v h => v = none ∧ Old Z n0 h ∧ Keep h0 h [u] ∧ owU Z h u (1 : Int32) qqK .null) n0) := by
  refine MetFree.of_bodySF (plainFor_of_name owpn5) hisR ?_
  intro p e s m args below meth c s₁ Bd hml0 hP hK
  have hi := @own_hi Z a0 hw
  obtain ⟨rfl, hZ, hh⟩ := hP
  have hx := Bd.exec
  have hby := Bd.bytes
  have hml : c.maxLocals = 2 := hml0
  have hown := findClass_of_methodNamed Bd.named
  have hnm := (name_of_methodNamed Bd.named Bd.method).1
  have X0 : Stand p l e (rM 1 0 0 12) s m #[(.ref u), (.int 1)] below meth c s₁ [] 0 0 := Stand.of_body Bd
  have e0 : s₁.heap = h0 := by rw [← hh, Bd.state]; rfl
  have N0 := Fr.nil n0
  have WW := W
  obtain ⟨ES, nzI, SR, SN, FR, FN, SK, FK, SU, SS, SC, nRN, nKN, Mo, -⟩ := WW
  have ef : entryFrame m #[(.ref u), (.int 1)] 2 = mkF m 0 #[.val (.ref u), .val (.int 1)] [] := by first | (simp [entryFrame, mkF, argsToLocals, Value.category]; done) | rfl
  obtain ⟨T1, X1, e1, st1⟩ := initO X0 hx hZ hown (hi 54 rfl) (hi 14 rfl) (hi 15 rfl) e0 (g := (mkF m 1 #[vR u, vI 1] [(.ref u)])) rfl (by rw [hml]; rfl) rfl (hb hby d5_1) (by decide) (W := 0) (Nat.le_of_eq rfl) (by decide)
  obtain ⟨T2, h2, X2, e2, W2, st2⟩ := putFN X1 hx hZ hown (hi 55 rfl) Via.refl e1 Uc Eu (Or.inr ⟨(hi 56 rfl), rfl, hnm⟩) (hi 49 rfl) (ty := .boolean) (v' := (.int 1)) (by decide) rfl rfl (g := (mkF m 6 #[vR u, vI 1] [(.int 1), (.ref u)])) rfl rfl (hb hby d5_6)
  have Fw2 := Uc.same W2
  have N2 := Fr.snoc X2 N0 gu
  have O2 := O.wr W2 gu
  have Kp2 : Keep h0 h2 [u] := (Keep.refl h0 [u]).wr W2 (Or.inl (List.mem_of_getElem? (i := 0) rfl))
  obtain ⟨T3, X3, e3, st3⟩ := getS2 X2 hx hZ hown (host := "") (Or.inl (hi 106 rfl)) Via.refl e2 (SK.ext O2.2) (g := (mkF m 14 #[vR u, vI 1] [(.ref u)])) rfl (hb hby d5_14)
  have fa4 := (Uw.other W2 (Or.inr (slot_ne (Or.inl (hi 61 rfl)) (Or.inr (hi 56 rfl)) (by decide) (t := (.object zs10)) (t' := .boolean) (by decide) (by decide))))
  have fa5 := (Eu.wr W2)
  obtain ⟨T6, h6, X6, e6, W6, st6⟩ := putF X3 hx hZ hown (host := "") (Or.inl (hi 60 rfl)) Via.refl e3 fa4 fa5 (Or.inl (hi 61 rfl)) (hi 49 rfl) (ty := (.object zs10)) (by decide) rfl rfl (g := (mkF m 23 #[vR u, vI 1] [(.ref qqK), (.ref u)])) rfl rfl (hb hby d5_23)
  have Fw6 := fa4.same W6
  have N6 := Fr.snoc X6 N2 gu
  have O6 := O2.wr W6 gu
  have Kp6 : Keep h0 h6 [u] := Kp2.wr W6 (Or.inl (List.mem_of_getElem? (i := 0) rfl))
  have fa7 := (fa5.wr W6)
  have fa8 := (Fw2.other W6 (Or.inr (slot_ne (Or.inr (hi 56 rfl)) (Or.inl (hi 61 rfl)) (by decide) (t := .boolean) (t' := (.object zs10)) (by decide) (by decide))))
  have fa9 := ((Uf.other W2 (Or.inr (slot_ne (Or.inl (hi 79 rfl)) (Or.inr (hi 56 rfl)) (by decide) (t := (.object zs15)) (t' := .boolean) (by decide) (by decide)))).other W6 (Or.inr (slot_ne (Or.inl (hi 79 rfl)) (Or.inl (hi 61 rfl)) (by decide) (t := (.object zs15)) (t' := (.object zs10)) (by decide) (by decide))))
  have fa10 := ((Ux.other W2 (Or.inr (slot_ne (Or.inl (hi 89 rfl)) (Or.inr (hi 56 rfl)) (by decide) (t := (.object zs18)) (t' := .boolean) (by decide) (by decide)))).other W6 (Or.inr (slot_ne (Or.inl (hi 89 rfl)) (Or.inl (hi 61 rfl)) (by decide) (t := (.object zs18)) (t' := (.object zs10)) (by decide) (by decide))))
  obtain ⟨fs, hr, hrun, hended, hW, hsame⟩ := X6.leave (v := none) (fun _ => rfl)
  refine ⟨_, _, castTop ef ?_, hrun, hended, _, _, rfl, ?_, ⟨_, rfl⟩, hW, hsame.mono (by decide) (by decide)⟩
  · show OwG p e below s₁ m 0 #[vR u, vI 1] [] _
    refine XS.aloadN X0.here hx rfl (hb hby d5_0) rfl rfl ?_
    show OwG p e below s₁ m 1 #[vR u, vI 1] [(.ref u)] _
    refine st1 _ ?_
    show OwG p e below T1 m 4 #[vR u, vI 1] [] _
    refine XS.aloadN X1.here hx rfl (hb hby d5_4) rfl rfl ?_
    refine XS.iloadN X1.here hx rfl (hb hby d5_5) rfl ?_
    show OwG p e below T1 m 6 #[vR u, vI 1] [(.int 1), (.ref u)] _
    refine st2 _ ?_
    show OwG p e below T2 m 9 #[vR u, vI 1] [] _
    refine XS.aloadN X2.here hx rfl (hb hby d5_9) rfl rfl ?_
    refine XS.iloadN X2.here hx rfl (hb hby d5_10) rfl ?_
    refine XS.ifNo X2.here hx rfl (hb hby d5_11) rfl ((if0 _ _).trans (feq (by decide : ¬ ((1 : Int32) = (0 : Int32)))).1) ?_
    show OwG p e below T2 m 14 #[vR u, vI 1] [(.ref u)] _
    refine st3 _ ?_
    show OwG p e below T3 m 17 #[vR u, vI 1] [(.ref qqK), (.ref u)] _
    refine XS.goto X3.here hx rfl (pc0 := 17) (pc' := 23) rfl (hb hby d5_17) (by decide) (by decide) ?_
    show OwG p e below T3 m 23 #[vR u, vI 1] [(.ref qqK), (.ref u)] _
    refine st6 _ ?_
    show OwG p e below T6 m 26 #[vR u, vI 1] [] _
    exact X6.returnOut hx Bd.returns (hb hby d5_26) hr
  · have eF : (T6.setFrames fs).heap = h6 := e6
    exact ⟨N6, rfl, by rw [eF]; exact ⟨O6, Kp6, ⟨fa7, fa8, Fw6, fa9, _, fa10⟩⟩⟩
theorem own_mono {l : Launch} {y : MethodName} {bytes : ByteArray} {ml : Nat} {ret : Option FieldType} {ws : List Jvm.Cond} {rm : Room} {as : Array Value} {Z : State} {h0 : Heap} {Q Q' : Option Value → Heap → List Loc → Prop} (hM : OwCon l y bytes ml ret ws rm as Z h0 Q) (hq : ∀ v h L, Q v h L → Q' v h L) : OwCon l y bytes ml ret ws rm as Z h0 Q' := fun p e ha hc hk s m args below hf happ hP hK => by
  obtain ⟨n, o, h1, h2, h3, v, L, e1, e2, r⟩ := hM p e ha hc hk s m args below hf happ hP hK
  exact ⟨n, o, h1, h2, h3, v, L, e1, hq _ _ _ e2, r⟩
theorem own_TE {Z : State} {h : Heap} {ke rb nk u : Addr} {d : Int32} (q : owT Z h ke rb nk u d) : Exa Z h u zs9 := by obtain ⟨_, _, _, U, -⟩ := q; exact U.1
theorem own_E01 {op d : Int32} (q : d = 0 ∨ d = 1) : owE op d = 0 ∨ owE op d = 1 := by unfold owE; (repeat' split) <;> simp [q]
theorem rmUi (l : Launch) (Z : State) (a0 : Array Value) (hw : OwHw Z a0) (ws : List Jvm.Cond) (n0 : Nat) (h0 : Heap) (O : Old Z n0 h0) (qqR qqN qqK qqU qqS qqE : Addr) (qqI : Int32) (qqM : Addr) (W : OwW Z qqR qqN qqK qqU qqS qqE qqI qqM) (u : Addr) (Eu : Exa Z h0 u zs9) (Uc : Fld Z h0 u zs9 "commit" "Z" (.int (0 : Int32))) (Uw : Fld Z h0 u zs9 "work" "Lcom/example/portable_transactions/portabletransactions/transaction/UnitEnding$Work;" .null) (Uf : Fld Z h0 u zs9 "failure" "Ljava/lang/Exception;" .null) (Ux : Fld Z h0 u zs9 "failed" "Ljava/lang/String;" .null) (gu : n0 ≤ u) (cm : Int32) (hc01 : cm = 0 ∨ cm = 1) :
    OwCon l yy0 j25 2 none ws (rM 1 0 0 12) #[(.ref u), (.int cm)] Z h0 (OwP (fun v h => v = none ∧ Old Z n0 h ∧ Keep h0 h [u] ∧ ∃ wk, owU Z h u cm wk .null ∧ owD qqK qqR qqN wk 1) n0) := by
  rcases hc01 with rfl | rfl
  · exact own_mono (rmUi0 l Z a0 hw ws n0 h0 O qqR qqN qqK qqU qqS qqE qqI qqM W u Eu Uc Uw Uf Ux gu) (fun v h L ⟨N, hv, O', K, U⟩ => ⟨N, hv, O', K, _, U, Or.inr (Or.inl ⟨rfl, rfl⟩)⟩)
  · exact own_mono (rmUi1 l Z a0 hw ws n0 h0 O qqR qqN qqK qqU qqS qqE qqI qqM W u Eu Uc Uw Uf Ux gu) (fun v h L ⟨N, hv, O', K, U⟩ => ⟨N, hv, O', K, _, U, Or.inl ⟨rfl, rfl⟩⟩)
theorem rmIsK (l : Launch) (Z : State) (a0 : Array Value) (hw : OwHw Z a0) (ws : List Jvm.Cond) (n0 : Nat) (h0 : Heap) (O : Old Z n0 h0) (qqR qqN qqK qqU qqS qqE : Addr) (qqI : Int32) (qqM : Addr) (W : OwW Z qqR qqN qqK qqU qqS qqE qqI qqM) (u : Addr) (cm : Int32) (fl : Value) (U : owU Z h0 u cm qqK fl) :
    OwCon l yy3 j9 1 (some .boolean) ws (rM 0 0 0 0) #[(.ref u)] Z h0 (OwQ (some (.int 1)) h0 n0) := by
  refine MetFree.of_bodySF (plainFor_of_name owpn6) hisR ?_
  intro p e s m args below meth c s₁ Bd hml0 hP hK
  have hi := @own_hi Z a0 hw
  obtain ⟨rfl, hZ, hh⟩ := hP
  have hx := Bd.exec
  have hby := Bd.bytes
  have hml : c.maxLocals = 1 := hml0
  have hown := findClass_of_methodNamed Bd.named
  have X0 : Stand p l e (rM 0 0 0 0) s m #[(.ref u)] below meth c s₁ [] 0 0 := Stand.of_body Bd
  have e0 : s₁.heap = h0 := by rw [← hh, Bd.state]; rfl
  have N0 := Fr.nil n0
  have WW := W
  obtain ⟨ES, nzI, SR, SN, FR, FN, SK, FK, SU, SS, SC, nRN, nKN, Mo, -⟩ := WW
  have ef : entryFrame m #[(.ref u)] 1 = mkF m 0 #[.val (.ref u)] [] := by first | (simp [entryFrame, mkF, argsToLocals, Value.category]; done) | rfl
  obtain ⟨Eu, Uc, Uw, Uf, xv, Ux⟩ := id U
  obtain ⟨T1, X1, e1, st1⟩ := getF X0 hx hZ hown (host := "") (Or.inl (hi 60 rfl)) Via.refl e0 Uw (g := (mkF m 1 #[vR u] [(.ref u)])) rfl rfl (hb hby d6_1)
  obtain ⟨T2, X2, e2, st2⟩ := getS2 X1 hx hZ hown (host := "") (Or.inl (hi 67 rfl)) Via.refl e1 (SN.ext O.2) (g := (mkF m 4 #[vR u] [(.ref qqK)])) rfl (hb hby d6_4)
  obtain ⟨fs, hr, hrun, hended, hW, hsame⟩ := X2.leave (v := some (.int 1)) (fun h => by rw [Bd.returns] at h; cases h)
  refine ⟨_, _, castTop ef ?_, hrun, hended, _, _, rfl, ?_, ⟨_, rfl⟩, hW, hsame.mono (by decide) (by decide)⟩
  · show OwG p e below s₁ m 0 #[vR u] [] _
    refine XS.aloadN X0.here hx rfl (hb hby d6_0) rfl rfl ?_
    show OwG p e below s₁ m 1 #[vR u] [(.ref u)] _
    refine st1 _ ?_
    show OwG p e below T1 m 4 #[vR u] [(.ref qqK)] _
    refine st2 _ ?_
    show OwG p e below T2 m 7 #[vR u] [(.ref qqN), (.ref qqK)] _
    refine Jvm.RoadKit.acmp (g := (mkF m 7 #[vR u] [(.ref qqN), (.ref qqK)])) X2 hx rfl rfl rfl (pc0 := 7) (pc' := 10) (same := false) rfl (hb hby d6_7) rfl (decide_eq_false fun q => nKN (Value.ref.inj q)) (by decide) (by decide) ?_
    show OwG p e below T2 m 10 #[vR u] [] _
    refine XS.iconst X2.here hx rfl (hb hby d6_10) ?_
    refine XS.goto X2.here hx rfl (pc0 := 11) (pc' := 15) rfl (hb hby d6_11) (by decide) (by decide) ?_
    show OwG p e below T2 m 15 #[vR u] [(.int 1)] _
    exact retN X2 hx (t := .boolean) Bd.returns (by simp) (hb hby d6_15) hr
  · have eF : (T2.setFrames fs).heap = h0 := e2
    exact ⟨rfl, N0, eF⟩
theorem rmIsR (l : Launch) (Z : State) (a0 : Array Value) (hw : OwHw Z a0) (ws : List Jvm.Cond) (n0 : Nat) (h0 : Heap) (O : Old Z n0 h0) (qqR qqN qqK qqU qqS qqE : Addr) (qqI : Int32) (qqM : Addr) (W : OwW Z qqR qqN qqK qqU qqS qqE qqI qqM) (u : Addr) (cm : Int32) (fl : Value) (U : owU Z h0 u cm qqR fl) :
    OwCon l yy3 j9 1 (some .boolean) ws (rM 0 0 0 0) #[(.ref u)] Z h0 (OwQ (some (.int 1)) h0 n0) := by
  refine MetFree.of_bodySF (plainFor_of_name owpn6) hisR ?_
  intro p e s m args below meth c s₁ Bd hml0 hP hK
  have hi := @own_hi Z a0 hw
  obtain ⟨rfl, hZ, hh⟩ := hP
  have hx := Bd.exec
  have hby := Bd.bytes
  have hml : c.maxLocals = 1 := hml0
  have hown := findClass_of_methodNamed Bd.named
  have X0 : Stand p l e (rM 0 0 0 0) s m #[(.ref u)] below meth c s₁ [] 0 0 := Stand.of_body Bd
  have e0 : s₁.heap = h0 := by rw [← hh, Bd.state]; rfl
  have N0 := Fr.nil n0
  have WW := W
  obtain ⟨ES, nzI, SR, SN, FR, FN, SK, FK, SU, SS, SC, nRN, nKN, Mo, -⟩ := WW
  have ef : entryFrame m #[(.ref u)] 1 = mkF m 0 #[.val (.ref u)] [] := by first | (simp [entryFrame, mkF, argsToLocals, Value.category]; done) | rfl
  obtain ⟨Eu, Uc, Uw, Uf, xv, Ux⟩ := id U
  obtain ⟨T1, X1, e1, st1⟩ := getF X0 hx hZ hown (host := "") (Or.inl (hi 60 rfl)) Via.refl e0 Uw (g := (mkF m 1 #[vR u] [(.ref u)])) rfl rfl (hb hby d6_1)
  obtain ⟨T2, X2, e2, st2⟩ := getS2 X1 hx hZ hown (host := "") (Or.inl (hi 67 rfl)) Via.refl e1 (SN.ext O.2) (g := (mkF m 4 #[vR u] [(.ref qqR)])) rfl (hb hby d6_4)
  obtain ⟨fs, hr, hrun, hended, hW, hsame⟩ := X2.leave (v := some (.int 1)) (fun h => by rw [Bd.returns] at h; cases h)
  refine ⟨_, _, castTop ef ?_, hrun, hended, _, _, rfl, ?_, ⟨_, rfl⟩, hW, hsame.mono (by decide) (by decide)⟩
  · show OwG p e below s₁ m 0 #[vR u] [] _
    refine XS.aloadN X0.here hx rfl (hb hby d6_0) rfl rfl ?_
    show OwG p e below s₁ m 1 #[vR u] [(.ref u)] _
    refine st1 _ ?_
    show OwG p e below T1 m 4 #[vR u] [(.ref qqR)] _
    refine st2 _ ?_
    show OwG p e below T2 m 7 #[vR u] [(.ref qqN), (.ref qqR)] _
    refine Jvm.RoadKit.acmp (g := (mkF m 7 #[vR u] [(.ref qqN), (.ref qqR)])) X2 hx rfl rfl rfl (pc0 := 7) (pc' := 10) (same := false) rfl (hb hby d6_7) rfl (decide_eq_false fun q => nRN (Value.ref.inj q)) (by decide) (by decide) ?_
    show OwG p e below T2 m 10 #[vR u] [] _
    refine XS.iconst X2.here hx rfl (hb hby d6_10) ?_
    refine XS.goto X2.here hx rfl (pc0 := 11) (pc' := 15) rfl (hb hby d6_11) (by decide) (by decide) ?_
    show OwG p e below T2 m 15 #[vR u] [(.int 1)] _
    exact retN X2 hx (t := .boolean) Bd.returns (by simp) (hb hby d6_15) hr
  · have eF : (T2.setFrames fs).heap = h0 := e2
    exact ⟨rfl, N0, eF⟩
theorem rmIsN (l : Launch) (Z : State) (a0 : Array Value) (hw : OwHw Z a0) (ws : List Jvm.Cond) (n0 : Nat) (h0 : Heap) (O : Old Z n0 h0) (qqR qqN qqK qqU qqS qqE : Addr) (qqI : Int32) (qqM : Addr) (W : OwW Z qqR qqN qqK qqU qqS qqE qqI qqM) (u : Addr) (cm : Int32) (fl : Value) (U : owU Z h0 u cm qqN fl) :
    OwCon l yy3 j9 1 (some .boolean) ws (rM 0 0 0 0) #[(.ref u)] Z h0 (OwQ (some (.int 0)) h0 n0) := by
  refine MetFree.of_bodySF (plainFor_of_name owpn6) hisR ?_
  intro p e s m args below meth c s₁ Bd hml0 hP hK
  have hi := @own_hi Z a0 hw
  obtain ⟨rfl, hZ, hh⟩ := hP
  have hx := Bd.exec
  have hby := Bd.bytes
  have hml : c.maxLocals = 1 := hml0
  have hown := findClass_of_methodNamed Bd.named
  have X0 : Stand p l e (rM 0 0 0 0) s m #[(.ref u)] below meth c s₁ [] 0 0 := Stand.of_body Bd
  have e0 : s₁.heap = h0 := by rw [← hh, Bd.state]; rfl
  have N0 := Fr.nil n0
  have WW := W
  obtain ⟨ES, nzI, SR, SN, FR, FN, SK, FK, SU, SS, SC, nRN, nKN, Mo, -⟩ := WW
  have ef : entryFrame m #[(.ref u)] 1 = mkF m 0 #[.val (.ref u)] [] := by first | (simp [entryFrame, mkF, argsToLocals, Value.category]; done) | rfl
  obtain ⟨Eu, Uc, Uw, Uf, xv, Ux⟩ := id U
  obtain ⟨T1, X1, e1, st1⟩ := getF X0 hx hZ hown (host := "") (Or.inl (hi 60 rfl)) Via.refl e0 Uw (g := (mkF m 1 #[vR u] [(.ref u)])) rfl rfl (hb hby d6_1)
  obtain ⟨T2, X2, e2, st2⟩ := getS2 X1 hx hZ hown (host := "") (Or.inl (hi 67 rfl)) Via.refl e1 (SN.ext O.2) (g := (mkF m 4 #[vR u] [(.ref qqN)])) rfl (hb hby d6_4)
  obtain ⟨fs, hr, hrun, hended, hW, hsame⟩ := X2.leave (v := some (.int 0)) (fun h => by rw [Bd.returns] at h; cases h)
  refine ⟨_, _, castTop ef ?_, hrun, hended, _, _, rfl, ?_, ⟨_, rfl⟩, hW, hsame.mono (by decide) (by decide)⟩
  · show OwG p e below s₁ m 0 #[vR u] [] _
    refine XS.aloadN X0.here hx rfl (hb hby d6_0) rfl rfl ?_
    show OwG p e below s₁ m 1 #[vR u] [(.ref u)] _
    refine st1 _ ?_
    show OwG p e below T1 m 4 #[vR u] [(.ref qqN)] _
    refine st2 _ ?_
    show OwG p e below T2 m 7 #[vR u] [(.ref qqN), (.ref qqN)] _
    refine Jvm.RoadKit.acmp (g := (mkF m 7 #[vR u] [(.ref qqN), (.ref qqN)])) X2 hx rfl rfl rfl (pc0 := 7) (pc' := 14) (same := true) rfl (hb hby d6_7) rfl (decide_eq_true rfl) (by decide) (by decide) ?_
    show OwG p e below T2 m 14 #[vR u] [] _
    refine XS.iconst X2.here hx rfl (hb hby d6_14) ?_
    show OwG p e below T2 m 15 #[vR u] [(.int 0)] _
    exact retN X2 hx (t := .boolean) Bd.returns (by simp) (hb hby d6_15) hr
  · have eF : (T2.setFrames fs).heap = h0 := e2
    exact ⟨rfl, N0, eF⟩
theorem rmIs (l : Launch) (Z : State) (a0 : Array Value) (hw : OwHw Z a0) (ws : List Jvm.Cond) (n0 : Nat) (h0 : Heap) (O : Old Z n0 h0) (qqR qqN qqK qqU qqS qqE : Addr) (qqI : Int32) (qqM : Addr) (W : OwW Z qqR qqN qqK qqU qqS qqE qqI qqM) (u : Addr) (d : Int32) (S : owT Z h0 qqK qqR qqN u d) :
    OwCon l yy3 j9 1 (some .boolean) ws (rM 0 0 0 0) #[(.ref u)] Z h0 (OwQ (some (.int d)) h0 n0) := by
  obtain ⟨cm, wk, fl, U, D⟩ := S
  rcases D with ⟨hk, rfl⟩ | ⟨hk, rfl⟩ | ⟨hk, rfl⟩
  · rw [hk] at U; exact rmIsK l Z a0 hw ws n0 h0 O qqR qqN qqK qqU qqS qqE qqI qqM W u cm fl U
  · rw [hk] at U; exact rmIsR l Z a0 hw ws n0 h0 O qqR qqN qqK qqU qqS qqE qqI qqM W u cm fl U
  · rw [hk] at U; exact rmIsN l Z a0 hw ws n0 h0 O qqR qqN qqK qqU qqS qqE qqI qqM W u cm fl U
theorem rmE0 (l : Launch) (Z : State) (a0 : Array Value) (hw : OwHw Z a0) (ws : List Jvm.Cond) (n0 : Nat) (h0 : Heap) (O : Old Z n0 h0) (qqR qqN qqK qqU qqS qqE : Addr) (qqI : Int32) (qqM : Addr) (W : OwW Z qqR qqN qqK qqU qqS qqE qqI qqM) (d : Int32) (hd : d = 0 ∨ d = 1) :
    OwCon l yy7 method_3_code 2 (some .boolean) ws (rM 0 0 0 0) #[(.int 0), (.int d)] Z h0 (OwQ (some (.int d)) h0 n0) := by
  refine MetFree.of_bodySF (plainFor_of_name owpn9) hisR ?_
  intro p e s m args below meth c s₁ Bd hml0 hP hK
  have hi := @own_hi Z a0 hw
  obtain ⟨rfl, hZ, hh⟩ := hP
  have hx := Bd.exec
  have hby := Bd.bytes
  have hml : c.maxLocals = 2 := hml0
  have hown := findClass_of_methodNamed Bd.named
  have X0 : Stand p l e (rM 0 0 0 0) s m #[(.int 0), (.int d)] below meth c s₁ [] 0 0 := Stand.of_body Bd
  have e0 : s₁.heap = h0 := by rw [← hh, Bd.state]; rfl
  have N0 := Fr.nil n0
  have ef : entryFrame m #[(.int 0), (.int d)] 2 = mkF m 0 #[.val (.int 0), .val (.int d)] [] := by first | (simp [entryFrame, mkF, argsToLocals, Value.category]; done) | rfl
  obtain ⟨fs, hr, hrun, hended, hW, hsame⟩ := X0.leave (v := some (.int d)) (fun h => by rw [Bd.returns] at h; cases h)
  refine ⟨_, _, castTop ef ?_, hrun, hended, _, _, rfl, ?_, ⟨_, rfl⟩, hW, hsame.mono (by decide) (by decide)⟩
  · show OwG p e below s₁ m 0 #[vI 0, vI d] [] _
    refine XS.iloadN X0.here hx rfl (hb hby d9_0) rfl ?_
    show OwG p e below s₁ m 1 #[vI 0, vI d] [(.int 0)] _
    refine XS.iconst X0.here hx rfl (hb hby d9_1) ?_
    refine XS.icmpYes X0.here hx rfl (pc0 := 2) (pc' := 7) rfl (hb hby d9_2) rfl (feq (by decide : ¬ ((0 : Int32) = (1 : Int32)))).2 (by decide) (by decide) ?_
    refine XS.iloadN X0.here hx rfl (hb hby d9_7) rfl ?_
    refine XS.iconst X0.here hx rfl (hb hby d9_8) ?_
    refine XS.icmpNo X0.here hx rfl (hb hby d9_9) rfl (feq (by decide : ¬ ((0 : Int32) = (2 : Int32)))).1 ?_
    refine XS.iloadN X0.here hx rfl (hb hby d9_12) rfl ?_
    show OwG p e below s₁ m 13 #[vI 0, vI d] [(.int 0)] _
    refine XS.iconst X0.here hx rfl (hb hby d9_13) ?_
    refine XS.icmpNo X0.here hx rfl (hb hby d9_14) rfl (feq (by decide : ¬ ((0 : Int32) = (3 : Int32)))).1 ?_
    refine XS.iloadN X0.here hx rfl (hb hby d9_17) rfl ?_
    refine XS.iconst X0.here hx rfl (hb hby d9_18) ?_
    refine XS.icmpYes X0.here hx rfl (pc0 := 19) (pc' := 24) rfl (hb hby d9_19) rfl (feq (by decide : ¬ ((0 : Int32) = (4 : Int32)))).2 (by decide) (by decide) ?_
    refine XS.iloadN X0.here hx rfl (hb hby d9_24) rfl ?_
    show OwG p e below s₁ m 25 #[vI 0, vI d] [(.int d)] _
    exact own_retB X0 hx (t := .boolean) Bd.returns (by simp) (hb hby d9_25) (by rcases hd with rfl | rfl <;> rfl) hr
  · have eF : (s₁.setFrames fs).heap = h0 := e0
    exact ⟨rfl, N0, eF⟩
theorem rmE1 (l : Launch) (Z : State) (a0 : Array Value) (hw : OwHw Z a0) (ws : List Jvm.Cond) (n0 : Nat) (h0 : Heap) (O : Old Z n0 h0) (qqR qqN qqK qqU qqS qqE : Addr) (qqI : Int32) (qqM : Addr) (W : OwW Z qqR qqN qqK qqU qqS qqE qqI qqM) (d : Int32) (hd : d = 0 ∨ d = 1) :
    OwCon l yy7 method_3_code 2 (some .boolean) ws (rM 0 0 0 0) #[(.int 1), (.int d)] Z h0 (OwQ (some (.int 1)) h0 n0) := by
  refine MetFree.of_bodySF (plainFor_of_name owpn9) hisR ?_
  intro p e s m args below meth c s₁ Bd hml0 hP hK
  have hi := @own_hi Z a0 hw
  obtain ⟨rfl, hZ, hh⟩ := hP
  have hx := Bd.exec
  have hby := Bd.bytes
  have hml : c.maxLocals = 2 := hml0
  have hown := findClass_of_methodNamed Bd.named
  have X0 : Stand p l e (rM 0 0 0 0) s m #[(.int 1), (.int d)] below meth c s₁ [] 0 0 := Stand.of_body Bd
  have e0 : s₁.heap = h0 := by rw [← hh, Bd.state]; rfl
  have N0 := Fr.nil n0
  have ef : entryFrame m #[(.int 1), (.int d)] 2 = mkF m 0 #[.val (.int 1), .val (.int d)] [] := by first | (simp [entryFrame, mkF, argsToLocals, Value.category]; done) | rfl
  obtain ⟨fs, hr, hrun, hended, hW, hsame⟩ := X0.leave (v := some (.int 1)) (fun h => by rw [Bd.returns] at h; cases h)
  refine ⟨_, _, castTop ef ?_, hrun, hended, _, _, rfl, ?_, ⟨_, rfl⟩, hW, hsame.mono (by decide) (by decide)⟩
  · show OwG p e below s₁ m 0 #[vI 1, vI d] [] _
    refine XS.iloadN X0.here hx rfl (hb hby d9_0) rfl ?_
    show OwG p e below s₁ m 1 #[vI 1, vI d] [(.int 1)] _
    refine XS.iconst X0.here hx rfl (hb hby d9_1) ?_
    refine XS.icmpNo X0.here hx rfl (hb hby d9_2) rfl (teq (by decide : (1 : Int32) = (1 : Int32))).2 ?_
    refine XS.iconst X0.here hx rfl (hb hby d9_5) ?_
    show OwG p e below s₁ m 6 #[vI 1, vI d] [(.int 1)] _
    exact retN X0 hx (t := .boolean) Bd.returns (by simp) (hb hby d9_6) hr
  · have eF : (s₁.setFrames fs).heap = h0 := e0
    exact ⟨rfl, N0, eF⟩
theorem rmE2 (l : Launch) (Z : State) (a0 : Array Value) (hw : OwHw Z a0) (ws : List Jvm.Cond) (n0 : Nat) (h0 : Heap) (O : Old Z n0 h0) (qqR qqN qqK qqU qqS qqE : Addr) (qqI : Int32) (qqM : Addr) (W : OwW Z qqR qqN qqK qqU qqS qqE qqI qqM) (d : Int32) (hd : d = 0 ∨ d = 1) :
    OwCon l yy7 method_3_code 2 (some .boolean) ws (rM 0 0 0 0) #[(.int 2), (.int d)] Z h0 (OwQ (some (.int 0)) h0 n0) := by
  refine MetFree.of_bodySF (plainFor_of_name owpn9) hisR ?_
  intro p e s m args below meth c s₁ Bd hml0 hP hK
  have hi := @own_hi Z a0 hw
  obtain ⟨rfl, hZ, hh⟩ := hP
  have hx := Bd.exec
  have hby := Bd.bytes
  have hml : c.maxLocals = 2 := hml0
  have hown := findClass_of_methodNamed Bd.named
  have X0 : Stand p l e (rM 0 0 0 0) s m #[(.int 2), (.int d)] below meth c s₁ [] 0 0 := Stand.of_body Bd
  have e0 : s₁.heap = h0 := by rw [← hh, Bd.state]; rfl
  have N0 := Fr.nil n0
  have ef : entryFrame m #[(.int 2), (.int d)] 2 = mkF m 0 #[.val (.int 2), .val (.int d)] [] := by first | (simp [entryFrame, mkF, argsToLocals, Value.category]; done) | rfl
  obtain ⟨fs, hr, hrun, hended, hW, hsame⟩ := X0.leave (v := some (.int 0)) (fun h => by rw [Bd.returns] at h; cases h)
  refine ⟨_, _, castTop ef ?_, hrun, hended, _, _, rfl, ?_, ⟨_, rfl⟩, hW, hsame.mono (by decide) (by decide)⟩
  · show OwG p e below s₁ m 0 #[vI 2, vI d] [] _
    refine XS.iloadN X0.here hx rfl (hb hby d9_0) rfl ?_
    show OwG p e below s₁ m 1 #[vI 2, vI d] [(.int 2)] _
    refine XS.iconst X0.here hx rfl (hb hby d9_1) ?_
    refine XS.icmpYes X0.here hx rfl (pc0 := 2) (pc' := 7) rfl (hb hby d9_2) rfl (feq (by decide : ¬ ((2 : Int32) = (1 : Int32)))).2 (by decide) (by decide) ?_
    refine XS.iloadN X0.here hx rfl (hb hby d9_7) rfl ?_
    refine XS.iconst X0.here hx rfl (hb hby d9_8) ?_
    refine XS.icmpYes X0.here hx rfl (pc0 := 9) (pc' := 22) rfl (hb hby d9_9) rfl (teq (by decide : (2 : Int32) = (2 : Int32))).1 (by decide) (by decide) ?_
    refine XS.iconst X0.here hx rfl (hb hby d9_22) ?_
    show OwG p e below s₁ m 23 #[vI 2, vI d] [(.int 0)] _
    exact retN X0 hx (t := .boolean) Bd.returns (by simp) (hb hby d9_23) hr
  · have eF : (s₁.setFrames fs).heap = h0 := e0
    exact ⟨rfl, N0, eF⟩
theorem rmE3 (l : Launch) (Z : State) (a0 : Array Value) (hw : OwHw Z a0) (ws : List Jvm.Cond) (n0 : Nat) (h0 : Heap) (O : Old Z n0 h0) (qqR qqN qqK qqU qqS qqE : Addr) (qqI : Int32) (qqM : Addr) (W : OwW Z qqR qqN qqK qqU qqS qqE qqI qqM) (d : Int32) (hd : d = 0 ∨ d = 1) :
    OwCon l yy7 method_3_code 2 (some .boolean) ws (rM 0 0 0 0) #[(.int 3), (.int d)] Z h0 (OwQ (some (.int 0)) h0 n0) := by
  refine MetFree.of_bodySF (plainFor_of_name owpn9) hisR ?_
  intro p e s m args below meth c s₁ Bd hml0 hP hK
  have hi := @own_hi Z a0 hw
  obtain ⟨rfl, hZ, hh⟩ := hP
  have hx := Bd.exec
  have hby := Bd.bytes
  have hml : c.maxLocals = 2 := hml0
  have hown := findClass_of_methodNamed Bd.named
  have X0 : Stand p l e (rM 0 0 0 0) s m #[(.int 3), (.int d)] below meth c s₁ [] 0 0 := Stand.of_body Bd
  have e0 : s₁.heap = h0 := by rw [← hh, Bd.state]; rfl
  have N0 := Fr.nil n0
  have ef : entryFrame m #[(.int 3), (.int d)] 2 = mkF m 0 #[.val (.int 3), .val (.int d)] [] := by first | (simp [entryFrame, mkF, argsToLocals, Value.category]; done) | rfl
  obtain ⟨fs, hr, hrun, hended, hW, hsame⟩ := X0.leave (v := some (.int 0)) (fun h => by rw [Bd.returns] at h; cases h)
  refine ⟨_, _, castTop ef ?_, hrun, hended, _, _, rfl, ?_, ⟨_, rfl⟩, hW, hsame.mono (by decide) (by decide)⟩
  · show OwG p e below s₁ m 0 #[vI 3, vI d] [] _
    refine XS.iloadN X0.here hx rfl (hb hby d9_0) rfl ?_
    show OwG p e below s₁ m 1 #[vI 3, vI d] [(.int 3)] _
    refine XS.iconst X0.here hx rfl (hb hby d9_1) ?_
    refine XS.icmpYes X0.here hx rfl (pc0 := 2) (pc' := 7) rfl (hb hby d9_2) rfl (feq (by decide : ¬ ((3 : Int32) = (1 : Int32)))).2 (by decide) (by decide) ?_
    refine XS.iloadN X0.here hx rfl (hb hby d9_7) rfl ?_
    refine XS.iconst X0.here hx rfl (hb hby d9_8) ?_
    refine XS.icmpNo X0.here hx rfl (hb hby d9_9) rfl (feq (by decide : ¬ ((3 : Int32) = (2 : Int32)))).1 ?_
    refine XS.iloadN X0.here hx rfl (hb hby d9_12) rfl ?_
    show OwG p e below s₁ m 13 #[vI 3, vI d] [(.int 3)] _
    refine XS.iconst X0.here hx rfl (hb hby d9_13) ?_
    refine XS.icmpYes X0.here hx rfl (pc0 := 14) (pc' := 22) rfl (hb hby d9_14) rfl (teq (by decide : (3 : Int32) = (3 : Int32))).1 (by decide) (by decide) ?_
    refine XS.iconst X0.here hx rfl (hb hby d9_22) ?_
    show OwG p e below s₁ m 23 #[vI 3, vI d] [(.int 0)] _
    exact retN X0 hx (t := .boolean) Bd.returns (by simp) (hb hby d9_23) hr
  · have eF : (s₁.setFrames fs).heap = h0 := e0
    exact ⟨rfl, N0, eF⟩
theorem rmE4 (l : Launch) (Z : State) (a0 : Array Value) (hw : OwHw Z a0) (ws : List Jvm.Cond) (n0 : Nat) (h0 : Heap) (O : Old Z n0 h0) (qqR qqN qqK qqU qqS qqE : Addr) (qqI : Int32) (qqM : Addr) (W : OwW Z qqR qqN qqK qqU qqS qqE qqI qqM) (d : Int32) (hd : d = 0 ∨ d = 1) :
    OwCon l yy7 method_3_code 2 (some .boolean) ws (rM 0 0 0 0) #[(.int 4), (.int d)] Z h0 (OwQ (some (.int 0)) h0 n0) := by
  refine MetFree.of_bodySF (plainFor_of_name owpn9) hisR ?_
  intro p e s m args below meth c s₁ Bd hml0 hP hK
  have hi := @own_hi Z a0 hw
  obtain ⟨rfl, hZ, hh⟩ := hP
  have hx := Bd.exec
  have hby := Bd.bytes
  have hml : c.maxLocals = 2 := hml0
  have hown := findClass_of_methodNamed Bd.named
  have X0 : Stand p l e (rM 0 0 0 0) s m #[(.int 4), (.int d)] below meth c s₁ [] 0 0 := Stand.of_body Bd
  have e0 : s₁.heap = h0 := by rw [← hh, Bd.state]; rfl
  have N0 := Fr.nil n0
  have ef : entryFrame m #[(.int 4), (.int d)] 2 = mkF m 0 #[.val (.int 4), .val (.int d)] [] := by first | (simp [entryFrame, mkF, argsToLocals, Value.category]; done) | rfl
  obtain ⟨fs, hr, hrun, hended, hW, hsame⟩ := X0.leave (v := some (.int 0)) (fun h => by rw [Bd.returns] at h; cases h)
  refine ⟨_, _, castTop ef ?_, hrun, hended, _, _, rfl, ?_, ⟨_, rfl⟩, hW, hsame.mono (by decide) (by decide)⟩
  · show OwG p e below s₁ m 0 #[vI 4, vI d] [] _
    refine XS.iloadN X0.here hx rfl (hb hby d9_0) rfl ?_
    show OwG p e below s₁ m 1 #[vI 4, vI d] [(.int 4)] _
    refine XS.iconst X0.here hx rfl (hb hby d9_1) ?_
    refine XS.icmpYes X0.here hx rfl (pc0 := 2) (pc' := 7) rfl (hb hby d9_2) rfl (feq (by decide : ¬ ((4 : Int32) = (1 : Int32)))).2 (by decide) (by decide) ?_
    refine XS.iloadN X0.here hx rfl (hb hby d9_7) rfl ?_
    refine XS.iconst X0.here hx rfl (hb hby d9_8) ?_
    refine XS.icmpNo X0.here hx rfl (hb hby d9_9) rfl (feq (by decide : ¬ ((4 : Int32) = (2 : Int32)))).1 ?_
    refine XS.iloadN X0.here hx rfl (hb hby d9_12) rfl ?_
    show OwG p e below s₁ m 13 #[vI 4, vI d] [(.int 4)] _
    refine XS.iconst X0.here hx rfl (hb hby d9_13) ?_
    refine XS.icmpNo X0.here hx rfl (hb hby d9_14) rfl (feq (by decide : ¬ ((4 : Int32) = (3 : Int32)))).1 ?_
    refine XS.iloadN X0.here hx rfl (hb hby d9_17) rfl ?_
    refine XS.iconst X0.here hx rfl (hb hby d9_18) ?_
    refine XS.icmpNo X0.here hx rfl (hb hby d9_19) rfl (teq (by decide : (4 : Int32) = (4 : Int32))).2 ?_
    refine XS.iconst X0.here hx rfl (hb hby d9_22) ?_
    show OwG p e below s₁ m 23 #[vI 4, vI d] [(.int 0)] _
    exact retN X0 hx (t := .boolean) Bd.returns (by simp) (hb hby d9_23) hr
  · have eF : (s₁.setFrames fs).heap = h0 := e0
    exact ⟨rfl, N0, eF⟩
theorem rmE5 (l : Launch) (Z : State) (a0 : Array Value) (hw : OwHw Z a0) (ws : List Jvm.Cond) (n0 : Nat) (h0 : Heap) (O : Old Z n0 h0) (qqR qqN qqK qqU qqS qqE : Addr) (qqI : Int32) (qqM : Addr) (W : OwW Z qqR qqN qqK qqU qqS qqE qqI qqM) (d : Int32) (hd : d = 0 ∨ d = 1) :
    OwCon l yy7 method_3_code 2 (some .boolean) ws (rM 0 0 0 0) #[(.int 5), (.int d)] Z h0 (OwQ (some (.int d)) h0 n0) := by
  refine MetFree.of_bodySF (plainFor_of_name owpn9) hisR ?_
  intro p e s m args below meth c s₁ Bd hml0 hP hK
  have hi := @own_hi Z a0 hw
  obtain ⟨rfl, hZ, hh⟩ := hP
  have hx := Bd.exec
  have hby := Bd.bytes
  have hml : c.maxLocals = 2 := hml0
  have hown := findClass_of_methodNamed Bd.named
  have X0 : Stand p l e (rM 0 0 0 0) s m #[(.int 5), (.int d)] below meth c s₁ [] 0 0 := Stand.of_body Bd
  have e0 : s₁.heap = h0 := by rw [← hh, Bd.state]; rfl
  have N0 := Fr.nil n0
  have ef : entryFrame m #[(.int 5), (.int d)] 2 = mkF m 0 #[.val (.int 5), .val (.int d)] [] := by first | (simp [entryFrame, mkF, argsToLocals, Value.category]; done) | rfl
  obtain ⟨fs, hr, hrun, hended, hW, hsame⟩ := X0.leave (v := some (.int d)) (fun h => by rw [Bd.returns] at h; cases h)
  refine ⟨_, _, castTop ef ?_, hrun, hended, _, _, rfl, ?_, ⟨_, rfl⟩, hW, hsame.mono (by decide) (by decide)⟩
  · show OwG p e below s₁ m 0 #[vI 5, vI d] [] _
    refine XS.iloadN X0.here hx rfl (hb hby d9_0) rfl ?_
    show OwG p e below s₁ m 1 #[vI 5, vI d] [(.int 5)] _
    refine XS.iconst X0.here hx rfl (hb hby d9_1) ?_
    refine XS.icmpYes X0.here hx rfl (pc0 := 2) (pc' := 7) rfl (hb hby d9_2) rfl (feq (by decide : ¬ ((5 : Int32) = (1 : Int32)))).2 (by decide) (by decide) ?_
    refine XS.iloadN X0.here hx rfl (hb hby d9_7) rfl ?_
    refine XS.iconst X0.here hx rfl (hb hby d9_8) ?_
    refine XS.icmpNo X0.here hx rfl (hb hby d9_9) rfl (feq (by decide : ¬ ((5 : Int32) = (2 : Int32)))).1 ?_
    refine XS.iloadN X0.here hx rfl (hb hby d9_12) rfl ?_
    show OwG p e below s₁ m 13 #[vI 5, vI d] [(.int 5)] _
    refine XS.iconst X0.here hx rfl (hb hby d9_13) ?_
    refine XS.icmpNo X0.here hx rfl (hb hby d9_14) rfl (feq (by decide : ¬ ((5 : Int32) = (3 : Int32)))).1 ?_
    refine XS.iloadN X0.here hx rfl (hb hby d9_17) rfl ?_
    refine XS.iconst X0.here hx rfl (hb hby d9_18) ?_
    refine XS.icmpYes X0.here hx rfl (pc0 := 19) (pc' := 24) rfl (hb hby d9_19) rfl (feq (by decide : ¬ ((5 : Int32) = (4 : Int32)))).2 (by decide) (by decide) ?_
    refine XS.iloadN X0.here hx rfl (hb hby d9_24) rfl ?_
    show OwG p e below s₁ m 25 #[vI 5, vI d] [(.int d)] _
    exact own_retB X0 hx (t := .boolean) Bd.returns (by simp) (hb hby d9_25) (by rcases hd with rfl | rfl <;> rfl) hr
  · have eF : (s₁.setFrames fs).heap = h0 := e0
    exact ⟨rfl, N0, eF⟩
theorem rmE (l : Launch) (Z : State) (a0 : Array Value) (hw : OwHw Z a0) (ws : List Jvm.Cond) (n0 : Nat) (h0 : Heap) (O : Old Z n0 h0) (qqR qqN qqK qqU qqS qqE : Addr) (qqI : Int32) (qqM : Addr) (W : OwW Z qqR qqN qqK qqU qqS qqE qqI qqM) (op d : Int32) (hop : owOp op) (hd : d = 0 ∨ d = 1) :
    OwCon l yy7 method_3_code 2 (some .boolean) ws (rM 0 0 0 0) #[(.int op), (.int d)] Z h0 (OwQ (some (.int (owE op d))) h0 n0) := by
  have e0 : owE 0 d = d := by simp [owE]
  have e1 : owE 1 d = 1 := by simp [owE]
  have e2 : owE 2 d = 0 := by simp [owE]
  have e3 : owE 3 d = 0 := by simp [owE]
  have e4 : owE 4 d = 0 := by simp [owE]
  have e5 : owE 5 d = d := by simp [owE]
  rcases hop with rfl | rfl | rfl | rfl | rfl | rfl
  · rw [e0]; exact rmE0 l Z a0 hw ws n0 h0 O qqR qqN qqK qqU qqS qqE qqI qqM W d hd
  · rw [e1]; exact rmE1 l Z a0 hw ws n0 h0 O qqR qqN qqK qqU qqS qqE qqI qqM W d hd
  · rw [e2]; exact rmE2 l Z a0 hw ws n0 h0 O qqR qqN qqK qqU qqS qqE qqI qqM W d hd
  · rw [e3]; exact rmE3 l Z a0 hw ws n0 h0 O qqR qqN qqK qqU qqS qqE qqI qqM W d hd
  · rw [e4]; exact rmE4 l Z a0 hw ws n0 h0 O qqR qqN qqK qqU qqS qqE qqI qqM W d hd
  · rw [e5]; exact rmE5 l Z a0 hw ws n0 h0 O qqR qqN qqK qqU qqS qqE qqI qqM W d hd
theorem rmA0 (l : Launch) (Z : State) (a0 : Array Value) (hw : OwHw Z a0) (ws : List Jvm.Cond) (n0 : Nat) (h0 : Heap) (O : Old Z n0 h0) (qqR qqN qqK qqU qqS qqE : Addr) (qqI : Int32) (qqM : Addr) (W : OwW Z qqR qqN qqK qqU qqS qqE qqI qqM) (u xe : Addr) (cm : Int32) (wk : Addr) (fl : Value) :
    OwConH l yy6 method_2_code 3 none ws (rM 9 15 666 131) #[(.ref u), (.int 0), (.ref xe)] Z h0 consts_1 (OwP (fun v h => v = none ∧ h = h0) n0) := by
  refine MetFree.of_bodySF (plainFor_of_name owpn7) hisR ?_
  intro p e s m args below meth c s₁ Bd hml0 hP hK
  have hi := @own_hi Z a0 hw
  obtain ⟨rfl, hZ, hh, hC0⟩ := hP
  have hx := Bd.exec
  have hby := Bd.bytes
  have hml : c.maxLocals = 3 := hml0
  have hown := findClass_of_methodNamed Bd.named
  have X0 : Stand p l e (rM 9 15 666 131) s m #[(.ref u), (.int 0), (.ref xe)] below meth c s₁ [] 0 0 := Stand.of_body Bd
  have e0 : s₁.heap = h0 := by rw [← hh, Bd.state]; rfl
  have N0 := Fr.nil n0
  have ef : entryFrame m #[(.ref u), (.int 0), (.ref xe)] 3 = mkF m 0 #[.val (.ref u), .val (.int 0), .val (.ref xe)] [] := by first | (simp [entryFrame, mkF, argsToLocals, Value.category]; done) | rfl
  have Y0 : Stand p l e (rM 9 15 666 131) (s.setVm s.vm) m #[(.ref u), (.int 0), (.ref xe)] below meth c s₁ [] 0 0 := X0
  have hS0 : s.Since s.vm s.heap.size := (State.WarmedH.refl s).since _
  have hk0 : s.heap.size ≤ h0.size := Nat.le_of_eq (by rw [← hh])
  have wS : ∀ a ∈ Bundle.stringAtoms, a.before a0 Z = true := fun a ha => hw a (own_strin a ha)
  have cr0 := CHr.refl hC0
  have hEL := own_EW hw
  obtain ⟨fs, hr, hrun, hended, hend⟩ := Y0.leaveW hS0 (by rw [e0]; exact hk0) (v := none) (fun _ => rfl)
  refine ⟨_, _, castTop ef ?_, hrun, hended, _, _, rfl, ?_, ?_, hend.1, hend.2.1, hend.2.2.1, hend.2.2.2.mono (by decide) (by decide)⟩
  · show OwG p e below s₁ m 0 #[vR u, vI 0, vR xe] [] _
    refine XS.iloadN Y0.here hx rfl (hb hby d7_0) rfl ?_
    show OwG p e below s₁ m 1 #[vR u, vI 0, vR xe] [(.int 0)] _
    refine XS.iconst Y0.here hx rfl (hb hby d7_1) ?_
    refine XS.icmpYes Y0.here hx rfl (pc0 := 2) (pc' := 14) rfl (hb hby d7_2) rfl (feq (by decide : ¬ ((0 : Int32) = (1 : Int32)))).2 (by decide) (by decide) ?_
    refine XS.iloadN Y0.here hx rfl (hb hby d7_14) rfl ?_
    refine XS.iconst Y0.here hx rfl (hb hby d7_15) ?_
    refine XS.icmpYes Y0.here hx rfl (pc0 := 16) (pc' := 28) rfl (hb hby d7_16) rfl (feq (by decide : ¬ ((0 : Int32) = (2 : Int32)))).2 (by decide) (by decide) ?_
    refine XS.iloadN Y0.here hx rfl (hb hby d7_28) rfl ?_
    show OwG p e below s₁ m 29 #[vR u, vI 0, vR xe] [(.int 0)] _
    refine XS.iconst Y0.here hx rfl (hb hby d7_29) ?_
    refine XS.icmpYes Y0.here hx rfl (pc0 := 30) (pc' := 41) rfl (hb hby d7_30) rfl (feq (by decide : ¬ ((0 : Int32) = (3 : Int32)))).2 (by decide) (by decide) ?_
    refine XS.iloadN Y0.here hx rfl (hb hby d7_41) rfl ?_
    refine XS.iconst Y0.here hx rfl (hb hby d7_42) ?_
    refine XS.icmpYes Y0.here hx rfl (pc0 := 43) (pc' := 54) rfl (hb hby d7_43) rfl (feq (by decide : ¬ ((0 : Int32) = (4 : Int32)))).2 (by decide) (by decide) ?_
    refine XS.iloadN Y0.here hx rfl (hb hby d7_54) rfl ?_
    show OwG p e below s₁ m 55 #[vR u, vI 0, vR xe] [(.int 0)] _
    refine XS.iconst Y0.here hx rfl (hb hby d7_55) ?_
    refine XS.icmpYes Y0.here hx rfl (pc0 := 56) (pc' := 66) rfl (hb hby d7_56) rfl (feq (by decide : ¬ ((0 : Int32) = (5 : Int32)))).2 (by decide) (by decide) ?_
    show OwG p e below s₁ m 66 #[vR u, vI 0, vR xe] [] _
    exact Y0.returnOut hx Bd.returns (hb hby d7_66) hr
  · have eF : (s₁.setFrames fs).heap = h0 := e0
    exact ⟨N0, rfl, eF⟩
  · have eF : (s₁.setFrames fs).heap = h0 := e0
    have crF := cr0.trans (CHv.at Y0 hZ hEL hC0)
    rw [hh, eF]
    exact crF
theorem rmA1 (l : Launch) (Z : State) (a0 : Array Value) (hw : OwHw Z a0) (ws : List Jvm.Cond) (n0 : Nat) (h0 : Heap) (O : Old Z n0 h0) (qqR qqN qqK qqU qqS qqE : Addr) (qqI : Int32) (qqM : Addr) (W : OwW Z qqR qqN qqK qqU qqS qqE qqI qqM) (u xe : Addr) (cm : Int32) (wk : Addr) (fl : Value) (U : owU Z h0 u cm wk fl) (gu : n0 ≤ u) (Xe : owX0 Z h0 qqS xe) :
    OwConH l yy6 method_2_code 3 none ws (rM 9 15 666 131) #[(.ref u), (.int 1), (.ref xe)] Z h0 consts_1 (OwP (fun v h => v = none ∧ Old Z n0 h ∧ Keep h0 h [u] ∧ owU Z h u cm qqR (.ref xe) ∧ owX0 Z h qqS xe) n0) := by
  refine MetFree.of_bodySF (plainFor_of_name owpn7) hisR ?_
  intro p e s m args below meth c s₁ Bd hml0 hP hK
  have hi := @own_hi Z a0 hw
  obtain ⟨rfl, hZ, hh, hC0⟩ := hP
  have hx := Bd.exec
  have hby := Bd.bytes
  have hml : c.maxLocals = 3 := hml0
  have hown := findClass_of_methodNamed Bd.named
  have X0 : Stand p l e (rM 9 15 666 131) s m #[(.ref u), (.int 1), (.ref xe)] below meth c s₁ [] 0 0 := Stand.of_body Bd
  have e0 : s₁.heap = h0 := by rw [← hh, Bd.state]; rfl
  have N0 := Fr.nil n0
  have ef : entryFrame m #[(.ref u), (.int 1), (.ref xe)] 3 = mkF m 0 #[.val (.ref u), .val (.int 1), .val (.ref xe)] [] := by first | (simp [entryFrame, mkF, argsToLocals, Value.category]; done) | rfl
  have Y0 : Stand p l e (rM 9 15 666 131) (s.setVm s.vm) m #[(.ref u), (.int 1), (.ref xe)] below meth c s₁ [] 0 0 := X0
  have hS0 : s.Since s.vm s.heap.size := (State.WarmedH.refl s).since _
  have hk0 : s.heap.size ≤ h0.size := Nat.le_of_eq (by rw [← hh])
  have wS : ∀ a ∈ Bundle.stringAtoms, a.before a0 Z = true := fun a ha => hw a (own_strin a ha)
  have cr0 := CHr.refl hC0
  have hEL := own_EW hw
  obtain ⟨Eu, Uc, Uw, Uf, xv, Ux⟩ := id U
  obtain ⟨Ex, Nx, Sx⟩ := id Xe
  obtain ⟨cq1, kq1, q1a, q1b, q1c⟩ := isOf hZ e0 Eu
  obtain ⟨_, _, ⟨T1, L1, k1, n1⟩, -, Xw1, hSw1, hgr1, ⟨Lc1, hQ1, l1, y1, z1, ct1⟩, st1⟩ := Y0.virtualBackS hx (y := yy1) (z := yy1) hown (mvT hZ (hi 93 rfl)) (mvT hZ (hi 94 rfl)) (notFace_of_selects (args := #[]) (mvT hZ (hi 96 rfl))) (mvT hZ (hi 96 rfl)) (mvT hZ (hi 95 rfl)) (by decide) (backOfSH (W := 0) (rmCf1 l Z a0 hw [] n0 h0 O qqR qqN qqK qqU qqS qqE qqI qqM W u xe cm wk fl ⟨Eu, Uc, Uw, Uf, _, Ux⟩ gu) hZ (hi 97 rfl) (hi 50 rfl) (by decide) (by decide) hEL hC0) q1a q1c (g := (mkF m 8 #[vR u, vI 1, vR xe] [(.int 1), (.ref xe), (.ref u)])) rfl (by rw [hml]; rfl) (Steps.refl _) (argsL := [(.ref xe), (.int 1)]) (rest := []) (lenOf owpd28 rfl) rfl (Nat.le_of_eq rfl) (hb hby d7_8) (fun _ _ => ⟨rfl, e0, (by decide : 0 + 2 ≤ _), (by decide : 0 + 256 ≤ _)⟩)
  dsimp only [Pt.U, Pt.locs, Pt.cells, Pt.slots] at Xw1 hSw1 hgr1 ct1 l1 y1 z1 st1 hQ1
  subst l1 y1 z1
  obtain ⟨X1, hS1, hZ1, hown1⟩ := rebS hS0 (by rw [e0]; exact hk0) Xw1 hSw1 hgr1 hZ hown
  have hk1 := Nat.le_refl T1.heap.size
  have hC1 := ct1.1
  have cr1 := cr0.trans ct1
  obtain ⟨Nq1, hP1⟩ := hQ1
  have N1 := Fr.app N0 Nq1
  have ee1 : T1.heap = T1.heap := rfl
  obtain ⟨rfl, Oc1, Kc1, Uu1⟩ := hP1
  have Kp1 : Keep h0 T1.heap [u] := (Keep.refl h0 [u]).trans Kc1 (allS (P := fun x => x ∈ [u] ∨ h0.size ≤ x) (Or.inl (List.mem_of_getElem? (i := 0) rfl)) (all0 (P := fun x => x ∈ [u] ∨ h0.size ≤ x)))
  obtain ⟨Eu1, Uc1, Uw1, Uf1, xv1, Ux1⟩ := id Uu1
  have fa2 := (Ex.keep Kc1)
  have fa3 := (Nx.keep Kc1 (ninS (Exa.ne fa2 Eu1 (by decide)) nin0))
  have fa4 := (Sx.keep Kc1 (ninS (Exa.ne fa2 Eu1 (by decide)) nin0))
  obtain ⟨fs, hr, hrun, hended, hend⟩ := X1.leaveW hS1 (by rw [ee1]; exact hk1) (v := none) (fun _ => rfl)
  refine ⟨_, _, castTop ef ?_, hrun, hended, _, _, rfl, ?_, ?_, hend.1, hend.2.1, hend.2.2.1, hend.2.2.2.mono (by decide) (by decide)⟩
  · show OwG p e below s₁ m 0 #[vR u, vI 1, vR xe] [] _
    refine XS.iloadN Y0.here hx rfl (hb hby d7_0) rfl ?_
    show OwG p e below s₁ m 1 #[vR u, vI 1, vR xe] [(.int 1)] _
    refine XS.iconst Y0.here hx rfl (hb hby d7_1) ?_
    refine XS.icmpNo Y0.here hx rfl (hb hby d7_2) rfl (teq (by decide : (1 : Int32) = (1 : Int32))).2 ?_
    refine XS.aloadN Y0.here hx rfl (hb hby d7_5) rfl rfl ?_
    refine XS.aloadN Y0.here hx rfl (hb hby d7_6) rfl rfl ?_
    refine XS.iconst Y0.here hx rfl (hb hby d7_7) ?_
    show OwG p e below s₁ m 8 #[vR u, vI 1, vR xe] [(.int 1), (.ref xe), (.ref u)] _
    refine st1.trans ?_
    show OwG p e below T1 m 11 #[vR u, vI 1, vR xe] [] _
    refine XS.goto X1.here hx rfl (pc0 := 11) (pc' := 66) rfl (hb hby d7_11) (by decide) (by decide) ?_
    show OwG p e below T1 m 66 #[vR u, vI 1, vR xe] [] _
    exact X1.returnOut hx Bd.returns (hb hby d7_66) hr
  · have eF : (T1.setFrames fs).heap = T1.heap := ee1
    exact ⟨N1, rfl, by rw [eF]; exact ⟨Oc1, Kp1, ⟨Eu1, Uc1, Uw1, Uf1, _, Ux1⟩, ⟨fa2, fa3, fa4⟩⟩⟩
  · have eF : (T1.setFrames fs).heap = T1.heap := ee1
    have crF := cr1.trans (CHv.at X1 hZ1 hEL hC1)
    rw [hh, eF]
    exact crF
theorem rmA2 (l : Launch) (Z : State) (a0 : Array Value) (hw : OwHw Z a0) (ws : List Jvm.Cond) (n0 : Nat) (h0 : Heap) (O : Old Z n0 h0) (qqR qqN qqK qqU qqS qqE : Addr) (qqI : Int32) (qqM : Addr) (W : OwW Z qqR qqN qqK qqU qqS qqE qqI qqM) (u xe : Addr) (cm : Int32) (wk : Addr) (fl : Value) (U : owU Z h0 u cm wk fl) (gu : n0 ≤ u) (Xe : owX0 Z h0 qqS xe) :
    OwConH l yy6 method_2_code 3 none ws (rM 9 15 666 131) #[(.ref u), (.int 2), (.ref xe)] Z h0 consts_1 (OwP (fun v h => v = none ∧ Old Z n0 h ∧ Keep h0 h [u] ∧ owU Z h u cm qqN (.ref xe) ∧ owX0 Z h qqS xe) n0) := by
  refine MetFree.of_bodySF (plainFor_of_name owpn7) hisR ?_
  intro p e s m args below meth c s₁ Bd hml0 hP hK
  have hi := @own_hi Z a0 hw
  obtain ⟨rfl, hZ, hh, hC0⟩ := hP
  have hx := Bd.exec
  have hby := Bd.bytes
  have hml : c.maxLocals = 3 := hml0
  have hown := findClass_of_methodNamed Bd.named
  have X0 : Stand p l e (rM 9 15 666 131) s m #[(.ref u), (.int 2), (.ref xe)] below meth c s₁ [] 0 0 := Stand.of_body Bd
  have e0 : s₁.heap = h0 := by rw [← hh, Bd.state]; rfl
  have N0 := Fr.nil n0
  have ef : entryFrame m #[(.ref u), (.int 2), (.ref xe)] 3 = mkF m 0 #[.val (.ref u), .val (.int 2), .val (.ref xe)] [] := by first | (simp [entryFrame, mkF, argsToLocals, Value.category]; done) | rfl
  have Y0 : Stand p l e (rM 9 15 666 131) (s.setVm s.vm) m #[(.ref u), (.int 2), (.ref xe)] below meth c s₁ [] 0 0 := X0
  have hS0 : s.Since s.vm s.heap.size := (State.WarmedH.refl s).since _
  have hk0 : s.heap.size ≤ h0.size := Nat.le_of_eq (by rw [← hh])
  have wS : ∀ a ∈ Bundle.stringAtoms, a.before a0 Z = true := fun a ha => hw a (own_strin a ha)
  have cr0 := CHr.refl hC0
  have hEL := own_EW hw
  obtain ⟨Eu, Uc, Uw, Uf, xv, Ux⟩ := id U
  obtain ⟨Ex, Nx, Sx⟩ := id Xe
  obtain ⟨cq1, kq1, q1a, q1b, q1c⟩ := isOf hZ e0 Eu
  obtain ⟨_, _, ⟨T1, L1, k1, n1⟩, -, Xw1, hSw1, hgr1, ⟨Lc1, hQ1, l1, y1, z1, ct1⟩, st1⟩ := Y0.virtualBackS hx (y := yy1) (z := yy1) hown (mvT hZ (hi 93 rfl)) (mvT hZ (hi 94 rfl)) (notFace_of_selects (args := #[]) (mvT hZ (hi 96 rfl))) (mvT hZ (hi 96 rfl)) (mvT hZ (hi 95 rfl)) (by decide) (backOfSH (W := 0) (rmCf0 l Z a0 hw [] n0 h0 O qqR qqN qqK qqU qqS qqE qqI qqM W u xe cm wk fl ⟨Eu, Uc, Uw, Uf, _, Ux⟩ gu) hZ (hi 97 rfl) (hi 50 rfl) (by decide) (by decide) hEL hC0) q1a q1c (g := (mkF m 22 #[vR u, vI 2, vR xe] [(.int 0), (.ref xe), (.ref u)])) rfl (by rw [hml]; rfl) (Steps.refl _) (argsL := [(.ref xe), (.int 0)]) (rest := []) (lenOf owpd28 rfl) rfl (Nat.le_of_eq rfl) (hb hby d7_22) (fun _ _ => ⟨rfl, e0, (by decide : 0 + 2 ≤ _), (by decide : 0 + 208 ≤ _)⟩)
  dsimp only [Pt.U, Pt.locs, Pt.cells, Pt.slots] at Xw1 hSw1 hgr1 ct1 l1 y1 z1 st1 hQ1
  subst l1 y1 z1
  obtain ⟨X1, hS1, hZ1, hown1⟩ := rebS hS0 (by rw [e0]; exact hk0) Xw1 hSw1 hgr1 hZ hown
  have hk1 := Nat.le_refl T1.heap.size
  have hC1 := ct1.1
  have cr1 := cr0.trans ct1
  obtain ⟨Nq1, hP1⟩ := hQ1
  have N1 := Fr.app N0 Nq1
  have ee1 : T1.heap = T1.heap := rfl
  obtain ⟨rfl, Oc1, Kc1, Uu1⟩ := hP1
  have Kp1 : Keep h0 T1.heap [u] := (Keep.refl h0 [u]).trans Kc1 (allS (P := fun x => x ∈ [u] ∨ h0.size ≤ x) (Or.inl (List.mem_of_getElem? (i := 0) rfl)) (all0 (P := fun x => x ∈ [u] ∨ h0.size ≤ x)))
  obtain ⟨Eu1, Uc1, Uw1, Uf1, xv1, Ux1⟩ := id Uu1
  have fa2 := (Ex.keep Kc1)
  have fa3 := (Nx.keep Kc1 (ninS (Exa.ne fa2 Eu1 (by decide)) nin0))
  have fa4 := (Sx.keep Kc1 (ninS (Exa.ne fa2 Eu1 (by decide)) nin0))
  obtain ⟨fs, hr, hrun, hended, hend⟩ := X1.leaveW hS1 (by rw [ee1]; exact hk1) (v := none) (fun _ => rfl)
  refine ⟨_, _, castTop ef ?_, hrun, hended, _, _, rfl, ?_, ?_, hend.1, hend.2.1, hend.2.2.1, hend.2.2.2.mono (by decide) (by decide)⟩
  · show OwG p e below s₁ m 0 #[vR u, vI 2, vR xe] [] _
    refine XS.iloadN Y0.here hx rfl (hb hby d7_0) rfl ?_
    show OwG p e below s₁ m 1 #[vR u, vI 2, vR xe] [(.int 2)] _
    refine XS.iconst Y0.here hx rfl (hb hby d7_1) ?_
    refine XS.icmpYes Y0.here hx rfl (pc0 := 2) (pc' := 14) rfl (hb hby d7_2) rfl (feq (by decide : ¬ ((2 : Int32) = (1 : Int32)))).2 (by decide) (by decide) ?_
    refine XS.iloadN Y0.here hx rfl (hb hby d7_14) rfl ?_
    refine XS.iconst Y0.here hx rfl (hb hby d7_15) ?_
    refine XS.icmpNo Y0.here hx rfl (hb hby d7_16) rfl (teq (by decide : (2 : Int32) = (2 : Int32))).2 ?_
    refine XS.aloadN Y0.here hx rfl (hb hby d7_19) rfl rfl ?_
    show OwG p e below s₁ m 20 #[vR u, vI 2, vR xe] [(.ref u)] _
    refine XS.aloadN Y0.here hx rfl (hb hby d7_20) rfl rfl ?_
    refine XS.iconst Y0.here hx rfl (hb hby d7_21) ?_
    show OwG p e below s₁ m 22 #[vR u, vI 2, vR xe] [(.int 0), (.ref xe), (.ref u)] _
    refine st1.trans ?_
    show OwG p e below T1 m 25 #[vR u, vI 2, vR xe] [] _
    refine XS.goto X1.here hx rfl (pc0 := 25) (pc' := 66) rfl (hb hby d7_25) (by decide) (by decide) ?_
    show OwG p e below T1 m 66 #[vR u, vI 2, vR xe] [] _
    exact X1.returnOut hx Bd.returns (hb hby d7_66) hr
  · have eF : (T1.setFrames fs).heap = T1.heap := ee1
    exact ⟨N1, rfl, by rw [eF]; exact ⟨Oc1, Kp1, ⟨Eu1, Uc1, Uw1, Uf1, _, Ux1⟩, ⟨fa2, fa3, fa4⟩⟩⟩
  · have eF : (T1.setFrames fs).heap = T1.heap := ee1
    have crF := cr1.trans (CHv.at X1 hZ1 hEL hC1)
    rw [hh, eF]
    exact crF
theorem rmA3 (l : Launch) (Z : State) (a0 : Array Value) (hw : OwHw Z a0) (ws : List Jvm.Cond) (n0 : Nat) (h0 : Heap) (O : Old Z n0 h0) (qqR qqN qqK qqU qqS qqE : Addr) (qqI : Int32) (qqM : Addr) (W : OwW Z qqR qqN qqK qqU qqS qqE qqI qqM) (u xe : Addr) (cm : Int32) (wk : Addr) (fl : Value) (U : owU Z h0 u cm wk fl) (gu : n0 ≤ u) (Xe : owX0 Z h0 qqS xe) :
    OwConH l yy6 method_2_code 3 none ws (rM 9 15 666 131) #[(.ref u), (.int 3), (.ref xe)] Z h0 consts_1 (OwP (fun v h => v = none ∧ Old Z n0 h ∧ Keep h0 h [u] ∧ owU Z h u cm qqN (.ref xe) ∧ owX0 Z h qqS xe) n0) := by
  refine MetFree.of_bodySF (plainFor_of_name owpn7) hisR ?_
  intro p e s m args below meth c s₁ Bd hml0 hP hK
  have hi := @own_hi Z a0 hw
  obtain ⟨rfl, hZ, hh, hC0⟩ := hP
  have hx := Bd.exec
  have hby := Bd.bytes
  have hml : c.maxLocals = 3 := hml0
  have hown := findClass_of_methodNamed Bd.named
  have X0 : Stand p l e (rM 9 15 666 131) s m #[(.ref u), (.int 3), (.ref xe)] below meth c s₁ [] 0 0 := Stand.of_body Bd
  have e0 : s₁.heap = h0 := by rw [← hh, Bd.state]; rfl
  have N0 := Fr.nil n0
  have ef : entryFrame m #[(.ref u), (.int 3), (.ref xe)] 3 = mkF m 0 #[.val (.ref u), .val (.int 3), .val (.ref xe)] [] := by first | (simp [entryFrame, mkF, argsToLocals, Value.category]; done) | rfl
  have Y0 : Stand p l e (rM 9 15 666 131) (s.setVm s.vm) m #[(.ref u), (.int 3), (.ref xe)] below meth c s₁ [] 0 0 := X0
  have hS0 : s.Since s.vm s.heap.size := (State.WarmedH.refl s).since _
  have hk0 : s.heap.size ≤ h0.size := Nat.le_of_eq (by rw [← hh])
  have wS : ∀ a ∈ Bundle.stringAtoms, a.before a0 Z = true := fun a ha => hw a (own_strin a ha)
  have cr0 := CHr.refl hC0
  have hEL := own_EW hw
  obtain ⟨Eu, Uc, Uw, Uf, xv, Ux⟩ := id U
  obtain ⟨Ex, Nx, Sx⟩ := id Xe
  obtain ⟨cq1, kq1, q1a, q1b, q1c⟩ := isOf hZ e0 Eu
  obtain ⟨_, _, ⟨T1, L1, k1, n1⟩, -, Xw1, hSw1, hgr1, ⟨Lc1, hQ1, l1, y1, z1, ct1⟩, st1⟩ := Y0.virtualBackS hx (y := yy2) (z := yy2) hown (mvT hZ (hi 73 rfl)) (mvT hZ (hi 74 rfl)) (notFace_of_selects (args := #[]) (mvT hZ (hi 76 rfl))) (mvT hZ (hi 76 rfl)) (mvT hZ (hi 75 rfl)) (by decide) (backOfSH (W := 0) (rmCu l Z a0 hw [] n0 h0 O qqR qqN qqK qqU qqS qqE qqI qqM W u xe cm wk fl ⟨Eu, Uc, Uw, Uf, _, Ux⟩ gu) hZ (hi 77 rfl) (hi 50 rfl) (by decide) (by decide) hEL hC0) q1a q1c (g := (mkF m 35 #[vR u, vI 3, vR xe] [(.ref xe), (.ref u)])) rfl (by rw [hml]; rfl) (Steps.refl _) (argsL := [(.ref xe)]) (rest := []) (lenOf owpd29 rfl) rfl (Nat.le_of_eq rfl) (hb hby d7_35) (fun _ _ => ⟨rfl, e0, (by decide : 0 + 2 ≤ _), (by decide : 0 + 136 ≤ _)⟩)
  dsimp only [Pt.U, Pt.locs, Pt.cells, Pt.slots] at Xw1 hSw1 hgr1 ct1 l1 y1 z1 st1 hQ1
  subst l1 y1 z1
  obtain ⟨X1, hS1, hZ1, hown1⟩ := rebS hS0 (by rw [e0]; exact hk0) Xw1 hSw1 hgr1 hZ hown
  have hk1 := Nat.le_refl T1.heap.size
  have hC1 := ct1.1
  have cr1 := cr0.trans ct1
  obtain ⟨Nq1, hP1⟩ := hQ1
  have N1 := Fr.app N0 Nq1
  have ee1 : T1.heap = T1.heap := rfl
  obtain ⟨rfl, Oc1, Kc1, Uu1⟩ := hP1
  have Kp1 : Keep h0 T1.heap [u] := (Keep.refl h0 [u]).trans Kc1 (allS (P := fun x => x ∈ [u] ∨ h0.size ≤ x) (Or.inl (List.mem_of_getElem? (i := 0) rfl)) (all0 (P := fun x => x ∈ [u] ∨ h0.size ≤ x)))
  obtain ⟨Eu1, Uc1, Uw1, Uf1, xv1, Ux1⟩ := id Uu1
  have fa2 := (Ex.keep Kc1)
  have fa3 := (Nx.keep Kc1 (ninS (Exa.ne fa2 Eu1 (by decide)) nin0))
  have fa4 := (Sx.keep Kc1 (ninS (Exa.ne fa2 Eu1 (by decide)) nin0))
  obtain ⟨fs, hr, hrun, hended, hend⟩ := X1.leaveW hS1 (by rw [ee1]; exact hk1) (v := none) (fun _ => rfl)
  refine ⟨_, _, castTop ef ?_, hrun, hended, _, _, rfl, ?_, ?_, hend.1, hend.2.1, hend.2.2.1, hend.2.2.2.mono (by decide) (by decide)⟩
  · show OwG p e below s₁ m 0 #[vR u, vI 3, vR xe] [] _
    refine XS.iloadN Y0.here hx rfl (hb hby d7_0) rfl ?_
    show OwG p e below s₁ m 1 #[vR u, vI 3, vR xe] [(.int 3)] _
    refine XS.iconst Y0.here hx rfl (hb hby d7_1) ?_
    refine XS.icmpYes Y0.here hx rfl (pc0 := 2) (pc' := 14) rfl (hb hby d7_2) rfl (feq (by decide : ¬ ((3 : Int32) = (1 : Int32)))).2 (by decide) (by decide) ?_
    refine XS.iloadN Y0.here hx rfl (hb hby d7_14) rfl ?_
    refine XS.iconst Y0.here hx rfl (hb hby d7_15) ?_
    refine XS.icmpYes Y0.here hx rfl (pc0 := 16) (pc' := 28) rfl (hb hby d7_16) rfl (feq (by decide : ¬ ((3 : Int32) = (2 : Int32)))).2 (by decide) (by decide) ?_
    refine XS.iloadN Y0.here hx rfl (hb hby d7_28) rfl ?_
    show OwG p e below s₁ m 29 #[vR u, vI 3, vR xe] [(.int 3)] _
    refine XS.iconst Y0.here hx rfl (hb hby d7_29) ?_
    refine XS.icmpNo Y0.here hx rfl (hb hby d7_30) rfl (teq (by decide : (3 : Int32) = (3 : Int32))).2 ?_
    refine XS.aloadN Y0.here hx rfl (hb hby d7_33) rfl rfl ?_
    refine XS.aloadN Y0.here hx rfl (hb hby d7_34) rfl rfl ?_
    show OwG p e below s₁ m 35 #[vR u, vI 3, vR xe] [(.ref xe), (.ref u)] _
    refine st1.trans ?_
    show OwG p e below T1 m 38 #[vR u, vI 3, vR xe] [] _
    refine XS.goto X1.here hx rfl (pc0 := 38) (pc' := 66) rfl (hb hby d7_38) (by decide) (by decide) ?_
    show OwG p e below T1 m 66 #[vR u, vI 3, vR xe] [] _
    exact X1.returnOut hx Bd.returns (hb hby d7_66) hr
  · have eF : (T1.setFrames fs).heap = T1.heap := ee1
    exact ⟨N1, rfl, by rw [eF]; exact ⟨Oc1, Kp1, ⟨Eu1, Uc1, Uw1, Uf1, _, Ux1⟩, ⟨fa2, fa3, fa4⟩⟩⟩
  · have eF : (T1.setFrames fs).heap = T1.heap := ee1
    have crF := cr1.trans (CHv.at X1 hZ1 hEL hC1)
    rw [hh, eF]
    exact crF
theorem rmA4 (l : Launch) (Z : State) (a0 : Array Value) (hw : OwHw Z a0) (ws : List Jvm.Cond) (n0 : Nat) (h0 : Heap) (O : Old Z n0 h0) (qqR qqN qqK qqU qqS qqE : Addr) (qqI : Int32) (qqM : Addr) (W : OwW Z qqR qqN qqK qqU qqS qqE qqI qqM) (u xe : Addr) (cm : Int32) (wk : Addr) (fl : Value) (U : owU Z h0 u cm wk fl) (gu : n0 ≤ u) (Xe : owX0 Z h0 qqS xe) :
    OwConH l yy6 method_2_code 3 none ws (rM 9 15 666 131) #[(.ref u), (.int 4), (.ref xe)] Z h0 consts_1 (OwP (fun v h => v = none ∧ Old Z n0 h ∧ Keep h0 h [u] ∧ owU Z h u cm qqN (.ref xe) ∧ owX0 Z h qqS xe) n0) := by
  refine MetFree.of_bodySF (plainFor_of_name owpn7) hisR ?_
  intro p e s m args below meth c s₁ Bd hml0 hP hK
  have hi := @own_hi Z a0 hw
  obtain ⟨rfl, hZ, hh, hC0⟩ := hP
  have hx := Bd.exec
  have hby := Bd.bytes
  have hml : c.maxLocals = 3 := hml0
  have hown := findClass_of_methodNamed Bd.named
  have X0 : Stand p l e (rM 9 15 666 131) s m #[(.ref u), (.int 4), (.ref xe)] below meth c s₁ [] 0 0 := Stand.of_body Bd
  have e0 : s₁.heap = h0 := by rw [← hh, Bd.state]; rfl
  have N0 := Fr.nil n0
  have ef : entryFrame m #[(.ref u), (.int 4), (.ref xe)] 3 = mkF m 0 #[.val (.ref u), .val (.int 4), .val (.ref xe)] [] := by first | (simp [entryFrame, mkF, argsToLocals, Value.category]; done) | rfl
  have Y0 : Stand p l e (rM 9 15 666 131) (s.setVm s.vm) m #[(.ref u), (.int 4), (.ref xe)] below meth c s₁ [] 0 0 := X0
  have hS0 : s.Since s.vm s.heap.size := (State.WarmedH.refl s).since _
  have hk0 : s.heap.size ≤ h0.size := Nat.le_of_eq (by rw [← hh])
  have wS : ∀ a ∈ Bundle.stringAtoms, a.before a0 Z = true := fun a ha => hw a (own_strin a ha)
  have cr0 := CHr.refl hC0
  have hEL := own_EW hw
  obtain ⟨Eu, Uc, Uw, Uf, xv, Ux⟩ := id U
  obtain ⟨Ex, Nx, Sx⟩ := id Xe
  obtain ⟨cq1, kq1, q1a, q1b, q1c⟩ := isOf hZ e0 Eu
  obtain ⟨_, _, ⟨T1, L1, k1, n1⟩, -, Xw1, hSw1, hgr1, ⟨Lc1, hQ1, l1, y1, z1, ct1⟩, st1⟩ := Y0.virtualBackS hx (y := yy5) (z := yy5) hown (mvT hZ (hi 100 rfl)) (mvT hZ (hi 101 rfl)) (notFace_of_selects (args := #[]) (mvT hZ (hi 103 rfl))) (mvT hZ (hi 103 rfl)) (mvT hZ (hi 102 rfl)) (by decide) (backOfSH (W := 0) (rmRf l Z a0 hw [] n0 h0 O qqR qqN qqK qqU qqS qqE qqI qqM W u xe cm wk fl ⟨Eu, Uc, Uw, Uf, _, Ux⟩ gu) hZ (hi 104 rfl) (hi 50 rfl) (by decide) (by decide) hEL hC0) q1a q1c (g := (mkF m 48 #[vR u, vI 4, vR xe] [(.ref xe), (.ref u)])) rfl (by rw [hml]; rfl) (Steps.refl _) (argsL := [(.ref xe)]) (rest := []) (lenOf owpd29 rfl) rfl (Nat.le_of_eq rfl) (hb hby d7_48) (fun _ _ => ⟨rfl, e0, (by decide : 0 + 2 ≤ _), (by decide : 0 + 148 ≤ _)⟩)
  dsimp only [Pt.U, Pt.locs, Pt.cells, Pt.slots] at Xw1 hSw1 hgr1 ct1 l1 y1 z1 st1 hQ1
  subst l1 y1 z1
  obtain ⟨X1, hS1, hZ1, hown1⟩ := rebS hS0 (by rw [e0]; exact hk0) Xw1 hSw1 hgr1 hZ hown
  have hk1 := Nat.le_refl T1.heap.size
  have hC1 := ct1.1
  have cr1 := cr0.trans ct1
  obtain ⟨Nq1, hP1⟩ := hQ1
  have N1 := Fr.app N0 Nq1
  have ee1 : T1.heap = T1.heap := rfl
  obtain ⟨rfl, Oc1, Kc1, Uu1⟩ := hP1
  have Kp1 : Keep h0 T1.heap [u] := (Keep.refl h0 [u]).trans Kc1 (allS (P := fun x => x ∈ [u] ∨ h0.size ≤ x) (Or.inl (List.mem_of_getElem? (i := 0) rfl)) (all0 (P := fun x => x ∈ [u] ∨ h0.size ≤ x)))
  obtain ⟨Eu1, Uc1, Uw1, Uf1, xv1, Ux1⟩ := id Uu1
  have fa2 := (Ex.keep Kc1)
  have fa3 := (Nx.keep Kc1 (ninS (Exa.ne fa2 Eu1 (by decide)) nin0))
  have fa4 := (Sx.keep Kc1 (ninS (Exa.ne fa2 Eu1 (by decide)) nin0))
  obtain ⟨fs, hr, hrun, hended, hend⟩ := X1.leaveW hS1 (by rw [ee1]; exact hk1) (v := none) (fun _ => rfl)
  refine ⟨_, _, castTop ef ?_, hrun, hended, _, _, rfl, ?_, ?_, hend.1, hend.2.1, hend.2.2.1, hend.2.2.2.mono (by decide) (by decide)⟩
  · show OwG p e below s₁ m 0 #[vR u, vI 4, vR xe] [] _
    refine XS.iloadN Y0.here hx rfl (hb hby d7_0) rfl ?_
    show OwG p e below s₁ m 1 #[vR u, vI 4, vR xe] [(.int 4)] _
    refine XS.iconst Y0.here hx rfl (hb hby d7_1) ?_
    refine XS.icmpYes Y0.here hx rfl (pc0 := 2) (pc' := 14) rfl (hb hby d7_2) rfl (feq (by decide : ¬ ((4 : Int32) = (1 : Int32)))).2 (by decide) (by decide) ?_
    refine XS.iloadN Y0.here hx rfl (hb hby d7_14) rfl ?_
    refine XS.iconst Y0.here hx rfl (hb hby d7_15) ?_
    refine XS.icmpYes Y0.here hx rfl (pc0 := 16) (pc' := 28) rfl (hb hby d7_16) rfl (feq (by decide : ¬ ((4 : Int32) = (2 : Int32)))).2 (by decide) (by decide) ?_
    refine XS.iloadN Y0.here hx rfl (hb hby d7_28) rfl ?_
    show OwG p e below s₁ m 29 #[vR u, vI 4, vR xe] [(.int 4)] _
    refine XS.iconst Y0.here hx rfl (hb hby d7_29) ?_
    refine XS.icmpYes Y0.here hx rfl (pc0 := 30) (pc' := 41) rfl (hb hby d7_30) rfl (feq (by decide : ¬ ((4 : Int32) = (3 : Int32)))).2 (by decide) (by decide) ?_
    refine XS.iloadN Y0.here hx rfl (hb hby d7_41) rfl ?_
    refine XS.iconst Y0.here hx rfl (hb hby d7_42) ?_
    refine XS.icmpNo Y0.here hx rfl (hb hby d7_43) rfl (teq (by decide : (4 : Int32) = (4 : Int32))).2 ?_
    refine XS.aloadN Y0.here hx rfl (hb hby d7_46) rfl rfl ?_
    show OwG p e below s₁ m 47 #[vR u, vI 4, vR xe] [(.ref u)] _
    refine XS.aloadN Y0.here hx rfl (hb hby d7_47) rfl rfl ?_
    show OwG p e below s₁ m 48 #[vR u, vI 4, vR xe] [(.ref xe), (.ref u)] _
    refine st1.trans ?_
    show OwG p e below T1 m 51 #[vR u, vI 4, vR xe] [] _
    refine XS.goto X1.here hx rfl (pc0 := 51) (pc' := 66) rfl (hb hby d7_51) (by decide) (by decide) ?_
    show OwG p e below T1 m 66 #[vR u, vI 4, vR xe] [] _
    exact X1.returnOut hx Bd.returns (hb hby d7_66) hr
  · have eF : (T1.setFrames fs).heap = T1.heap := ee1
    exact ⟨N1, rfl, by rw [eF]; exact ⟨Oc1, Kp1, ⟨Eu1, Uc1, Uw1, Uf1, _, Ux1⟩, ⟨fa2, fa3, fa4⟩⟩⟩
  · have eF : (T1.setFrames fs).heap = T1.heap := ee1
    have crF := cr1.trans (CHv.at X1 hZ1 hEL hC1)
    rw [hh, eF]
    exact crF
theorem rmA5n0 (l : Launch) (Z : State) (a0 : Array Value) (hw : OwHw Z a0) (ws : List Jvm.Cond) (n0 : Nat) (h0 : Heap) (O : Old Z n0 h0) (qqR qqN qqK qqU qqS qqE : Addr) (qqI : Int32) (qqM : Addr) (W : OwW Z qqR qqN qqK qqU qqS qqE qqI qqM) (u xe : Addr) (wk : Addr) (U : owU Z h0 u (0 : Int32) wk .null) (gu : n0 ≤ u) (Xe : owX0 Z h0 qqS xe) :
    OwConH l yy6 method_2_code 3 none ws (rM 9 15 666 131) #[(.ref u), (.int 5), (.ref xe)] Z h0 consts_1 (OwP (fun v h => v = none ∧ Old Z n0 h ∧ Keep h0 h [u] ∧ owU Z h u (0 : Int32) wk (.ref xe) ∧ owX0 Z h qqS xe) n0) := by
  refine MetFree.of_bodySF (plainFor_of_name owpn7) hisR ?_
  intro p e s m args below meth c s₁ Bd hml0 hP hK
  have hi := @own_hi Z a0 hw
  obtain ⟨rfl, hZ, hh, hC0⟩ := hP
  have hx := Bd.exec
  have hby := Bd.bytes
  have hml : c.maxLocals = 3 := hml0
  have hown := findClass_of_methodNamed Bd.named
  have X0 : Stand p l e (rM 9 15 666 131) s m #[(.ref u), (.int 5), (.ref xe)] below meth c s₁ [] 0 0 := Stand.of_body Bd
  have e0 : s₁.heap = h0 := by rw [← hh, Bd.state]; rfl
  have N0 := Fr.nil n0
  have ef : entryFrame m #[(.ref u), (.int 5), (.ref xe)] 3 = mkF m 0 #[.val (.ref u), .val (.int 5), .val (.ref xe)] [] := by first | (simp [entryFrame, mkF, argsToLocals, Value.category]; done) | rfl
  have Y0 : Stand p l e (rM 9 15 666 131) (s.setVm s.vm) m #[(.ref u), (.int 5), (.ref xe)] below meth c s₁ [] 0 0 := X0
  have hS0 : s.Since s.vm s.heap.size := (State.WarmedH.refl s).since _
  have hk0 : s.heap.size ≤ h0.size := Nat.le_of_eq (by rw [← hh])
  have wS : ∀ a ∈ Bundle.stringAtoms, a.before a0 Z = true := fun a ha => hw a (own_strin a ha)
  have cr0 := CHr.refl hC0
  have hEL := own_EW hw
  obtain ⟨Eu, Uc, Uw, Uf, xv, Ux⟩ := id U
  obtain ⟨Ex, Nx, Sx⟩ := id Xe
  obtain ⟨a1, T1, h1, k1, bb1, kk1, X1, e1, E1, hS1, hk1, hZ1, hown1, Es1, Fc1, Fv1, Va1, -, -, ct1, -, -, st1⟩ := ldcCH Y0 hx hZ hown (hi 108 rfl) wS e0 hS0 hk0 hEL (by decide : ("com/example/portable_transactions/portabletransactions/transaction/UnitEndingIsSettledPinLaw", 20) ∈ consts_1) hC0 (vs := [(.int 114), (.int 101), (.int 108), (.int 101), (.int 97), (.int 115), (.int 101), (.int 32), (.int 116), (.int 104), (.int 101), (.int 32), (.int 99), (.int 111), (.int 110), (.int 110), (.int 101), (.int 99), (.int 116), (.int 105), (.int 111), (.int 110)]) (z := (22 : Int32)) ⟨by decide, by decide⟩ (by decide) rfl (g := (mkF m 61 #[vR u, vI 5, vR xe] [(.ref xe), (.ref u)])) rfl (hb hby d7_61) (n := 88) (by decide) (by decide) (by decide) (by decide)
  have hC1 := ct1.1
  have cr1 := cr0.trans ct1
  have O1 := O.ext E1
  have Vh1 : owB Z h1 bb1 kk1 (22 : Int32) := owB.of Va1 (by decide)
  have Kp1 : Keep h0 h1 [u] := (Keep.refl h0 [u]).ext E1
  have fa2 := (Eu.ext E1)
  have fa3 := (Uc.ext E1)
  have fa4 := (Uw.ext E1)
  have fa5 := (Uf.ext E1)
  have fa6 := (Ux.ext E1)
  obtain ⟨cq7, kq7, q7a, q7b, q7c⟩ := isOf hZ1 e1 fa2
  obtain ⟨_, _, ⟨T7, L7, k7, n7⟩, -, Xw7, hSw7, hgr7, ⟨Lc7, hQ7, l7, y7, z7, ct7⟩, st7⟩ := X1.virtualBackS hx (y := yy4) (z := yy4) hown1 (mvT hZ1 (hi 109 rfl)) (mvT hZ1 (hi 110 rfl)) (notFace_of_selects (args := #[]) (mvT hZ1 (hi 112 rfl))) (mvT hZ1 (hi 112 rfl)) (mvT hZ1 (hi 111 rfl)) (by decide) (backOfSH (W := 0) (rmRelN0 l Z a0 hw [] n0 h1 O1 qqR qqN qqK qqU qqS qqE qqI qqM W u xe wk a1 bb1 kk1 ⟨fa2, fa3, fa4, fa5, _, fa6⟩ gu Es1 Fc1 Fv1 Vh1) hZ1 (hi 113 rfl) (hi 50 rfl) (by decide) (by decide) hEL hC1) q7a q7c (g := (mkF m 63 #[vR u, vI 5, vR xe] [(.ref a1), (.ref xe), (.ref u)])) rfl (by rw [hml]; rfl) (Steps.refl _) (argsL := [(.ref xe), (.ref a1)]) (rest := []) (lenOf owpd30 rfl) rfl (Nat.le_of_eq rfl) (hb hby d7_63) (fun _ _ => ⟨rfl, e1, (by decide : 2 + 13 ≤ _), (by decide : 92 + 574 ≤ _)⟩)
  dsimp only [Pt.U, Pt.locs, Pt.cells, Pt.slots] at Xw7 hSw7 hgr7 ct7 l7 y7 z7 st7 hQ7
  subst l7 y7 z7
  obtain ⟨X7, hS7, hZ7, hown7⟩ := rebS hS1 (by rw [e1]; exact hk1) Xw7 hSw7 hgr7 hZ1 hown1
  have hk7 := Nat.le_refl T7.heap.size
  have hC7 := ct7.1
  have cr7 := cr1.trans ct7
  obtain ⟨Nq7, hP7⟩ := hQ7
  have N7 := Fr.app N0 Nq7
  have ee7 : T7.heap = T7.heap := rfl
  obtain ⟨rfl, Oc7, Kc7, Uu7⟩ := hP7
  have Kp7 : Keep h0 T7.heap [u] := Kp1.trans Kc7 (allS (P := fun x => x ∈ [u] ∨ h0.size ≤ x) (Or.inl (List.mem_of_getElem? (i := 0) rfl)) (all0 (P := fun x => x ∈ [u] ∨ h0.size ≤ x)))
  obtain ⟨Eu7, Uc7, Uw7, Uf7, xv7, Ux7⟩ := id Uu7
  have fa8 := ((Ex.ext E1).keep Kc7)
  have fa9 := ((Nx.ext E1).keep Kc7 (ninS (Exa.ne fa8 Eu7 (by decide)) nin0))
  have fa10 := ((Sx.ext E1).keep Kc7 (ninS (Exa.ne fa8 Eu7 (by decide)) nin0))
  obtain ⟨fs, hr, hrun, hended, hend⟩ := X7.leaveW hS7 (by rw [ee7]; exact hk7) (v := none) (fun _ => rfl)
  refine ⟨_, _, castTop ef ?_, hrun, hended, _, _, rfl, ?_, ?_, hend.1, hend.2.1, hend.2.2.1, hend.2.2.2.mono (by decide) (by decide)⟩
  · show OwG p e below s₁ m 0 #[vR u, vI 5, vR xe] [] _
    refine XS.iloadN Y0.here hx rfl (hb hby d7_0) rfl ?_
    show OwG p e below s₁ m 1 #[vR u, vI 5, vR xe] [(.int 5)] _
    refine XS.iconst Y0.here hx rfl (hb hby d7_1) ?_
    refine XS.icmpYes Y0.here hx rfl (pc0 := 2) (pc' := 14) rfl (hb hby d7_2) rfl (feq (by decide : ¬ ((5 : Int32) = (1 : Int32)))).2 (by decide) (by decide) ?_
    refine XS.iloadN Y0.here hx rfl (hb hby d7_14) rfl ?_
    refine XS.iconst Y0.here hx rfl (hb hby d7_15) ?_
    refine XS.icmpYes Y0.here hx rfl (pc0 := 16) (pc' := 28) rfl (hb hby d7_16) rfl (feq (by decide : ¬ ((5 : Int32) = (2 : Int32)))).2 (by decide) (by decide) ?_
    refine XS.iloadN Y0.here hx rfl (hb hby d7_28) rfl ?_
    show OwG p e below s₁ m 29 #[vR u, vI 5, vR xe] [(.int 5)] _
    refine XS.iconst Y0.here hx rfl (hb hby d7_29) ?_
    refine XS.icmpYes Y0.here hx rfl (pc0 := 30) (pc' := 41) rfl (hb hby d7_30) rfl (feq (by decide : ¬ ((5 : Int32) = (3 : Int32)))).2 (by decide) (by decide) ?_
    refine XS.iloadN Y0.here hx rfl (hb hby d7_41) rfl ?_
    refine XS.iconst Y0.here hx rfl (hb hby d7_42) ?_
    refine XS.icmpYes Y0.here hx rfl (pc0 := 43) (pc' := 54) rfl (hb hby d7_43) rfl (feq (by decide : ¬ ((5 : Int32) = (4 : Int32)))).2 (by decide) (by decide) ?_
    refine XS.iloadN Y0.here hx rfl (hb hby d7_54) rfl ?_
    show OwG p e below s₁ m 55 #[vR u, vI 5, vR xe] [(.int 5)] _
    refine XS.iconst Y0.here hx rfl (hb hby d7_55) ?_
    refine XS.icmpNo Y0.here hx rfl (hb hby d7_56) rfl (teq (by decide : (5 : Int32) = (5 : Int32))).2 ?_
    refine XS.aloadN Y0.here hx rfl (hb hby d7_59) rfl rfl ?_
    refine XS.aloadN Y0.here hx rfl (hb hby d7_60) rfl rfl ?_
    show OwG p e below s₁ m 61 #[vR u, vI 5, vR xe] [(.ref xe), (.ref u)] _
    refine st1 _ ?_
    show OwG p e below T1 m 63 #[vR u, vI 5, vR xe] [(.ref a1), (.ref xe), (.ref u)] _
    refine st7.trans ?_
    show OwG p e below T7 m 66 #[vR u, vI 5, vR xe] [] _
    exact X7.returnOut hx Bd.returns (hb hby d7_66) hr
  · have eF : (T7.setFrames fs).heap = T7.heap := ee7
    exact ⟨N7, rfl, by rw [eF]; exact ⟨Oc7, Kp7, ⟨Eu7, Uc7, Uw7, Uf7, _, Ux7⟩, ⟨fa8, fa9, fa10⟩⟩⟩
  · have eF : (T7.setFrames fs).heap = T7.heap := ee7
    have crF := cr7.trans (CHv.at X7 hZ7 hEL hC7)
    rw [hh, eF]
    exact crF
theorem rmA5n1 (l : Launch) (Z : State) (a0 : Array Value) (hw : OwHw Z a0) (ws : List Jvm.Cond) (n0 : Nat) (h0 : Heap) (O : Old Z n0 h0) (qqR qqN qqK qqU qqS qqE : Addr) (qqI : Int32) (qqM : Addr) (W : OwW Z qqR qqN qqK qqU qqS qqE qqI qqM) (u xe : Addr) (wk : Addr) (U : owU Z h0 u (1 : Int32) wk .null) (gu : n0 ≤ u) (Xe : owX0 Z h0 qqS xe) :
    OwConH l yy6 method_2_code 3 none ws (rM 9 15 666 131) #[(.ref u), (.int 5), (.ref xe)] Z h0 consts_1 (OwP (fun v h => v = none ∧ Old Z n0 h ∧ Keep h0 h [u] ∧ owU Z h u (1 : Int32) wk (.ref xe) ∧ owX0 Z h qqS xe) n0) := by
  refine MetFree.of_bodySF (plainFor_of_name owpn7) hisR ?_
  intro p e s m args below meth c s₁ Bd hml0 hP hK
  have hi := @own_hi Z a0 hw
  obtain ⟨rfl, hZ, hh, hC0⟩ := hP
  have hx := Bd.exec
  have hby := Bd.bytes
  have hml : c.maxLocals = 3 := hml0
  have hown := findClass_of_methodNamed Bd.named
  have X0 : Stand p l e (rM 9 15 666 131) s m #[(.ref u), (.int 5), (.ref xe)] below meth c s₁ [] 0 0 := Stand.of_body Bd
  have e0 : s₁.heap = h0 := by rw [← hh, Bd.state]; rfl
  have N0 := Fr.nil n0
  have ef : entryFrame m #[(.ref u), (.int 5), (.ref xe)] 3 = mkF m 0 #[.val (.ref u), .val (.int 5), .val (.ref xe)] [] := by first | (simp [entryFrame, mkF, argsToLocals, Value.category]; done) | rfl
  have Y0 : Stand p l e (rM 9 15 666 131) (s.setVm s.vm) m #[(.ref u), (.int 5), (.ref xe)] below meth c s₁ [] 0 0 := X0
  have hS0 : s.Since s.vm s.heap.size := (State.WarmedH.refl s).since _
  have hk0 : s.heap.size ≤ h0.size := Nat.le_of_eq (by rw [← hh])
  have wS : ∀ a ∈ Bundle.stringAtoms, a.before a0 Z = true := fun a ha => hw a (own_strin a ha)
  have cr0 := CHr.refl hC0
  have hEL := own_EW hw
  obtain ⟨Eu, Uc, Uw, Uf, xv, Ux⟩ := id U
  obtain ⟨Ex, Nx, Sx⟩ := id Xe
  obtain ⟨a1, T1, h1, k1, bb1, kk1, X1, e1, E1, hS1, hk1, hZ1, hown1, Es1, Fc1, Fv1, Va1, -, -, ct1, -, -, st1⟩ := ldcCH Y0 hx hZ hown (hi 108 rfl) wS e0 hS0 hk0 hEL (by decide : ("com/example/portable_transactions/portabletransactions/transaction/UnitEndingIsSettledPinLaw", 20) ∈ consts_1) hC0 (vs := [(.int 114), (.int 101), (.int 108), (.int 101), (.int 97), (.int 115), (.int 101), (.int 32), (.int 116), (.int 104), (.int 101), (.int 32), (.int 99), (.int 111), (.int 110), (.int 110), (.int 101), (.int 99), (.int 116), (.int 105), (.int 111), (.int 110)]) (z := (22 : Int32)) ⟨by decide, by decide⟩ (by decide) rfl (g := (mkF m 61 #[vR u, vI 5, vR xe] [(.ref xe), (.ref u)])) rfl (hb hby d7_61) (n := 88) (by decide) (by decide) (by decide) (by decide)
  have hC1 := ct1.1
  have cr1 := cr0.trans ct1
  have O1 := O.ext E1
  have Vh1 : owB Z h1 bb1 kk1 (22 : Int32) := owB.of Va1 (by decide)
  have Kp1 : Keep h0 h1 [u] := (Keep.refl h0 [u]).ext E1
  have fa2 := (Eu.ext E1)
  have fa3 := (Uc.ext E1)
  have fa4 := (Uw.ext E1)
  have fa5 := (Uf.ext E1)
  have fa6 := (Ux.ext E1)
  obtain ⟨cq7, kq7, q7a, q7b, q7c⟩ := isOf hZ1 e1 fa2
  obtain ⟨_, _, ⟨T7, L7, k7, n7⟩, -, Xw7, hSw7, hgr7, ⟨Lc7, hQ7, l7, y7, z7, ct7⟩, st7⟩ := X1.virtualBackS hx (y := yy4) (z := yy4) hown1 (mvT hZ1 (hi 109 rfl)) (mvT hZ1 (hi 110 rfl)) (notFace_of_selects (args := #[]) (mvT hZ1 (hi 112 rfl))) (mvT hZ1 (hi 112 rfl)) (mvT hZ1 (hi 111 rfl)) (by decide) (backOfSH (W := 0) (rmRelN1 l Z a0 hw [] n0 h1 O1 qqR qqN qqK qqU qqS qqE qqI qqM W u xe wk a1 bb1 kk1 ⟨fa2, fa3, fa4, fa5, _, fa6⟩ gu Es1 Fc1 Fv1 Vh1) hZ1 (hi 113 rfl) (hi 50 rfl) (by decide) (by decide) hEL hC1) q7a q7c (g := (mkF m 63 #[vR u, vI 5, vR xe] [(.ref a1), (.ref xe), (.ref u)])) rfl (by rw [hml]; rfl) (Steps.refl _) (argsL := [(.ref xe), (.ref a1)]) (rest := []) (lenOf owpd30 rfl) rfl (Nat.le_of_eq rfl) (hb hby d7_63) (fun _ _ => ⟨rfl, e1, (by decide : 2 + 13 ≤ _), (by decide : 92 + 564 ≤ _)⟩)
  dsimp only [Pt.U, Pt.locs, Pt.cells, Pt.slots] at Xw7 hSw7 hgr7 ct7 l7 y7 z7 st7 hQ7
  subst l7 y7 z7
  obtain ⟨X7, hS7, hZ7, hown7⟩ := rebS hS1 (by rw [e1]; exact hk1) Xw7 hSw7 hgr7 hZ1 hown1
  have hk7 := Nat.le_refl T7.heap.size
  have hC7 := ct7.1
  have cr7 := cr1.trans ct7
  obtain ⟨Nq7, hP7⟩ := hQ7
  have N7 := Fr.app N0 Nq7
  have ee7 : T7.heap = T7.heap := rfl
  obtain ⟨rfl, Oc7, Kc7, Uu7⟩ := hP7
  have Kp7 : Keep h0 T7.heap [u] := Kp1.trans Kc7 (allS (P := fun x => x ∈ [u] ∨ h0.size ≤ x) (Or.inl (List.mem_of_getElem? (i := 0) rfl)) (all0 (P := fun x => x ∈ [u] ∨ h0.size ≤ x)))
  obtain ⟨Eu7, Uc7, Uw7, Uf7, xv7, Ux7⟩ := id Uu7
  have fa8 := ((Ex.ext E1).keep Kc7)
  have fa9 := ((Nx.ext E1).keep Kc7 (ninS (Exa.ne fa8 Eu7 (by decide)) nin0))
  have fa10 := ((Sx.ext E1).keep Kc7 (ninS (Exa.ne fa8 Eu7 (by decide)) nin0))
  obtain ⟨fs, hr, hrun, hended, hend⟩ := X7.leaveW hS7 (by rw [ee7]; exact hk7) (v := none) (fun _ => rfl)
  refine ⟨_, _, castTop ef ?_, hrun, hended, _, _, rfl, ?_, ?_, hend.1, hend.2.1, hend.2.2.1, hend.2.2.2.mono (by decide) (by decide)⟩
  · show OwG p e below s₁ m 0 #[vR u, vI 5, vR xe] [] _
    refine XS.iloadN Y0.here hx rfl (hb hby d7_0) rfl ?_
    show OwG p e below s₁ m 1 #[vR u, vI 5, vR xe] [(.int 5)] _
    refine XS.iconst Y0.here hx rfl (hb hby d7_1) ?_
    refine XS.icmpYes Y0.here hx rfl (pc0 := 2) (pc' := 14) rfl (hb hby d7_2) rfl (feq (by decide : ¬ ((5 : Int32) = (1 : Int32)))).2 (by decide) (by decide) ?_
    refine XS.iloadN Y0.here hx rfl (hb hby d7_14) rfl ?_
    refine XS.iconst Y0.here hx rfl (hb hby d7_15) ?_
    refine XS.icmpYes Y0.here hx rfl (pc0 := 16) (pc' := 28) rfl (hb hby d7_16) rfl (feq (by decide : ¬ ((5 : Int32) = (2 : Int32)))).2 (by decide) (by decide) ?_
    refine XS.iloadN Y0.here hx rfl (hb hby d7_28) rfl ?_
    show OwG p e below s₁ m 29 #[vR u, vI 5, vR xe] [(.int 5)] _
    refine XS.iconst Y0.here hx rfl (hb hby d7_29) ?_
    refine XS.icmpYes Y0.here hx rfl (pc0 := 30) (pc' := 41) rfl (hb hby d7_30) rfl (feq (by decide : ¬ ((5 : Int32) = (3 : Int32)))).2 (by decide) (by decide) ?_
    refine XS.iloadN Y0.here hx rfl (hb hby d7_41) rfl ?_
    refine XS.iconst Y0.here hx rfl (hb hby d7_42) ?_
    refine XS.icmpYes Y0.here hx rfl (pc0 := 43) (pc' := 54) rfl (hb hby d7_43) rfl (feq (by decide : ¬ ((5 : Int32) = (4 : Int32)))).2 (by decide) (by decide) ?_
    refine XS.iloadN Y0.here hx rfl (hb hby d7_54) rfl ?_
    show OwG p e below s₁ m 55 #[vR u, vI 5, vR xe] [(.int 5)] _
    refine XS.iconst Y0.here hx rfl (hb hby d7_55) ?_
    refine XS.icmpNo Y0.here hx rfl (hb hby d7_56) rfl (teq (by decide : (5 : Int32) = (5 : Int32))).2 ?_
    refine XS.aloadN Y0.here hx rfl (hb hby d7_59) rfl rfl ?_
    refine XS.aloadN Y0.here hx rfl (hb hby d7_60) rfl rfl ?_
    show OwG p e below s₁ m 61 #[vR u, vI 5, vR xe] [(.ref xe), (.ref u)] _
    refine st1 _ ?_
    show OwG p e below T1 m 63 #[vR u, vI 5, vR xe] [(.ref a1), (.ref xe), (.ref u)] _
    refine st7.trans ?_
    show OwG p e below T7 m 66 #[vR u, vI 5, vR xe] [] _
    exact X7.returnOut hx Bd.returns (hb hby d7_66) hr
  · have eF : (T7.setFrames fs).heap = T7.heap := ee7
    exact ⟨N7, rfl, by rw [eF]; exact ⟨Oc7, Kp7, ⟨Eu7, Uc7, Uw7, Uf7, _, Ux7⟩, ⟨fa8, fa9, fa10⟩⟩⟩
  · have eF : (T7.setFrames fs).heap = T7.heap := ee7
    have crF := cr7.trans (CHv.at X7 hZ7 hEL hC7)
    rw [hh, eF]
    exact crF
theorem rmA5s0 (l : Launch) (Z : State) (a0 : Array Value) (hw : OwHw Z a0) (ws : List Jvm.Cond) (n0 : Nat) (h0 : Heap) (O : Old Z n0 h0) (qqR qqN qqK qqU qqS qqE : Addr) (qqI : Int32) (qqM : Addr) (W : OwW Z qqR qqN qqK qqU qqS qqE qqI qqM) (u xe : Addr) (cm : Int32) (wk fx : Addr) (U : owU Z h0 u cm wk (.ref fx)) (Xf : owX0 Z h0 qqS fx) (Ex : Exa Z h0 xe zs15) (nx : fx ≠ xe) (gf : n0 ≤ fx) :
    OwConH l yy6 method_2_code 3 none ws (rM 9 15 666 131) #[(.ref u), (.int 5), (.ref xe)] Z h0 consts_1 (OwP (fun v h => v = none ∧ Old Z n0 h ∧ Keep h0 h [fx] ∧ owX1 Z h n0 fx ∧ owU Z h u cm wk (.ref fx)) n0) := by
  refine MetFree.of_bodySF (plainFor_of_name owpn7) hisR ?_
  intro p e s m args below meth c s₁ Bd hml0 hP hK
  have hi := @own_hi Z a0 hw
  obtain ⟨rfl, hZ, hh, hC0⟩ := hP
  have hx := Bd.exec
  have hby := Bd.bytes
  have hml : c.maxLocals = 3 := hml0
  have hown := findClass_of_methodNamed Bd.named
  have X0 : Stand p l e (rM 9 15 666 131) s m #[(.ref u), (.int 5), (.ref xe)] below meth c s₁ [] 0 0 := Stand.of_body Bd
  have e0 : s₁.heap = h0 := by rw [← hh, Bd.state]; rfl
  have N0 := Fr.nil n0
  have ef : entryFrame m #[(.ref u), (.int 5), (.ref xe)] 3 = mkF m 0 #[.val (.ref u), .val (.int 5), .val (.ref xe)] [] := by first | (simp [entryFrame, mkF, argsToLocals, Value.category]; done) | rfl
  have Y0 : Stand p l e (rM 9 15 666 131) (s.setVm s.vm) m #[(.ref u), (.int 5), (.ref xe)] below meth c s₁ [] 0 0 := X0
  have hS0 : s.Since s.vm s.heap.size := (State.WarmedH.refl s).since _
  have hk0 : s.heap.size ≤ h0.size := Nat.le_of_eq (by rw [← hh])
  have wS : ∀ a ∈ Bundle.stringAtoms, a.before a0 Z = true := fun a ha => hw a (own_strin a ha)
  have cr0 := CHr.refl hC0
  have hEL := own_EW hw
  obtain ⟨Eu, Uc, Uw, Uf, xv, Ux⟩ := id U
  obtain ⟨Ef, Nf, Sf⟩ := id Xf
  obtain ⟨a1, T1, h1, k1, bb1, kk1, X1, e1, E1, hS1, hk1, hZ1, hown1, Es1, Fc1, Fv1, Va1, -, -, ct1, -, -, st1⟩ := ldcCH Y0 hx hZ hown (hi 108 rfl) wS e0 hS0 hk0 hEL (by decide : ("com/example/portable_transactions/portabletransactions/transaction/UnitEndingIsSettledPinLaw", 20) ∈ consts_1) hC0 (vs := [(.int 114), (.int 101), (.int 108), (.int 101), (.int 97), (.int 115), (.int 101), (.int 32), (.int 116), (.int 104), (.int 101), (.int 32), (.int 99), (.int 111), (.int 110), (.int 110), (.int 101), (.int 99), (.int 116), (.int 105), (.int 111), (.int 110)]) (z := (22 : Int32)) ⟨by decide, by decide⟩ (by decide) rfl (g := (mkF m 61 #[vR u, vI 5, vR xe] [(.ref xe), (.ref u)])) rfl (hb hby d7_61) (n := 88) (by decide) (by decide) (by decide) (by decide)
  have hC1 := ct1.1
  have cr1 := cr0.trans ct1
  have O1 := O.ext E1
  have Vh1 : owB Z h1 bb1 kk1 (22 : Int32) := owB.of Va1 (by decide)
  have Kp1 : Keep h0 h1 [fx] := (Keep.refl h0 [fx]).ext E1
  have fa2 := (Eu.ext E1)
  have fa3 := (Uc.ext E1)
  have fa4 := (Uw.ext E1)
  have fa5 := (Uf.ext E1)
  have fa6 := (Ux.ext E1)
  have fa7 := (Ef.ext E1)
  have fa8 := (Nf.ext E1)
  have fa9 := (Sf.ext E1)
  have fa10 := (Ex.ext E1)
  obtain ⟨cq11, kq11, q11a, q11b, q11c⟩ := isOf hZ1 e1 fa2
  obtain ⟨_, _, ⟨T11, L11, k11, n11⟩, -, Xw11, hSw11, hgr11, ⟨Lc11, hQ11, l11, y11, z11, ct11⟩, st11⟩ := X1.virtualBackS hx (y := yy4) (z := yy4) hown1 (mvT hZ1 (hi 109 rfl)) (mvT hZ1 (hi 110 rfl)) (notFace_of_selects (args := #[]) (mvT hZ1 (hi 112 rfl))) (mvT hZ1 (hi 112 rfl)) (mvT hZ1 (hi 111 rfl)) (by decide) (backOfSH (W := 0) (rmRelS0 l Z a0 hw [] n0 h1 O1 qqR qqN qqK qqU qqS qqE qqI qqM W u xe cm wk fx a1 ⟨fa2, fa3, fa4, fa5, _, fa6⟩ ⟨fa7, fa8, fa9⟩ fa10 nx gf) hZ1 (hi 113 rfl) (hi 50 rfl) (by decide) (by decide) hEL hC1) q11a q11c (g := (mkF m 63 #[vR u, vI 5, vR xe] [(.ref a1), (.ref xe), (.ref u)])) rfl (by rw [hml]; rfl) (Steps.refl _) (argsL := [(.ref xe), (.ref a1)]) (rest := []) (lenOf owpd30 rfl) rfl (Nat.le_of_eq rfl) (hb hby d7_63) (fun _ _ => ⟨rfl, e1, (by decide : 2 + 4 ≤ _), (by decide : 92 + 140 ≤ _)⟩)
  dsimp only [Pt.U, Pt.locs, Pt.cells, Pt.slots] at Xw11 hSw11 hgr11 ct11 l11 y11 z11 st11 hQ11
  subst l11 y11 z11
  obtain ⟨X11, hS11, hZ11, hown11⟩ := rebS hS1 (by rw [e1]; exact hk1) Xw11 hSw11 hgr11 hZ1 hown1
  have hk11 := Nat.le_refl T11.heap.size
  have hC11 := ct11.1
  have cr11 := cr1.trans ct11
  obtain ⟨Nq11, hP11⟩ := hQ11
  have N11 := Fr.app N0 Nq11
  have ee11 : T11.heap = T11.heap := rfl
  obtain ⟨rfl, Oc11, Kc11, X1c11, Uu11⟩ := hP11
  have Kp11 : Keep h0 T11.heap [fx] := Kp1.trans Kc11 (allS (P := fun x => x ∈ [fx] ∨ h0.size ≤ x) (Or.inl (List.mem_of_getElem? (i := 0) rfl)) (all0 (P := fun x => x ∈ [fx] ∨ h0.size ≤ x)))
  obtain ⟨Eu11, Uc11, Uw11, Uf11, xv11, Ux11⟩ := id Uu11
  obtain ⟨fs, hr, hrun, hended, hend⟩ := X11.leaveW hS11 (by rw [ee11]; exact hk11) (v := none) (fun _ => rfl)
  refine ⟨_, _, castTop ef ?_, hrun, hended, _, _, rfl, ?_, ?_, hend.1, hend.2.1, hend.2.2.1, hend.2.2.2.mono (by decide) (by decide)⟩
  · show OwG p e below s₁ m 0 #[vR u, vI 5, vR xe] [] _
    refine XS.iloadN Y0.here hx rfl (hb hby d7_0) rfl ?_
    show OwG p e below s₁ m 1 #[vR u, vI 5, vR xe] [(.int 5)] _
    refine XS.iconst Y0.here hx rfl (hb hby d7_1) ?_
    refine XS.icmpYes Y0.here hx rfl (pc0 := 2) (pc' := 14) rfl (hb hby d7_2) rfl (feq (by decide : ¬ ((5 : Int32) = (1 : Int32)))).2 (by decide) (by decide) ?_
    refine XS.iloadN Y0.here hx rfl (hb hby d7_14) rfl ?_
    refine XS.iconst Y0.here hx rfl (hb hby d7_15) ?_
    refine XS.icmpYes Y0.here hx rfl (pc0 := 16) (pc' := 28) rfl (hb hby d7_16) rfl (feq (by decide : ¬ ((5 : Int32) = (2 : Int32)))).2 (by decide) (by decide) ?_
    refine XS.iloadN Y0.here hx rfl (hb hby d7_28) rfl ?_
    show OwG p e below s₁ m 29 #[vR u, vI 5, vR xe] [(.int 5)] _
    refine XS.iconst Y0.here hx rfl (hb hby d7_29) ?_
    refine XS.icmpYes Y0.here hx rfl (pc0 := 30) (pc' := 41) rfl (hb hby d7_30) rfl (feq (by decide : ¬ ((5 : Int32) = (3 : Int32)))).2 (by decide) (by decide) ?_
    refine XS.iloadN Y0.here hx rfl (hb hby d7_41) rfl ?_
    refine XS.iconst Y0.here hx rfl (hb hby d7_42) ?_
    refine XS.icmpYes Y0.here hx rfl (pc0 := 43) (pc' := 54) rfl (hb hby d7_43) rfl (feq (by decide : ¬ ((5 : Int32) = (4 : Int32)))).2 (by decide) (by decide) ?_
    refine XS.iloadN Y0.here hx rfl (hb hby d7_54) rfl ?_
    show OwG p e below s₁ m 55 #[vR u, vI 5, vR xe] [(.int 5)] _
    refine XS.iconst Y0.here hx rfl (hb hby d7_55) ?_
    refine XS.icmpNo Y0.here hx rfl (hb hby d7_56) rfl (teq (by decide : (5 : Int32) = (5 : Int32))).2 ?_
    refine XS.aloadN Y0.here hx rfl (hb hby d7_59) rfl rfl ?_
    refine XS.aloadN Y0.here hx rfl (hb hby d7_60) rfl rfl ?_
    show OwG p e below s₁ m 61 #[vR u, vI 5, vR xe] [(.ref xe), (.ref u)] _
    refine st1 _ ?_
    show OwG p e below T1 m 63 #[vR u, vI 5, vR xe] [(.ref a1), (.ref xe), (.ref u)] _
    refine st11.trans ?_
    show OwG p e below T11 m 66 #[vR u, vI 5, vR xe] [] _
    exact X11.returnOut hx Bd.returns (hb hby d7_66) hr
  · have eF : (T11.setFrames fs).heap = T11.heap := ee11
    exact ⟨N11, rfl, by rw [eF]; exact ⟨Oc11, Kp11, X1c11, ⟨Eu11, Uc11, Uw11, Uf11, _, Ux11⟩⟩⟩
  · have eF : (T11.setFrames fs).heap = T11.heap := ee11
    have crF := cr11.trans (CHv.at X11 hZ11 hEL hC11)
    rw [hh, eF]
    exact crF
theorem rmA5s1 (l : Launch) (Z : State) (a0 : Array Value) (hw : OwHw Z a0) (ws : List Jvm.Cond) (n0 : Nat) (h0 : Heap) (O : Old Z n0 h0) (qqR qqN qqK qqU qqS qqE : Addr) (qqI : Int32) (qqM : Addr) (W : OwW Z qqR qqN qqK qqU qqS qqE qqI qqM) (u xe : Addr) (cm : Int32) (wk fx : Addr) (U : owU Z h0 u cm wk (.ref fx)) (Xf : owX1 Z h0 n0 fx) (Ex : Exa Z h0 xe zs15) (nx : fx ≠ xe) (gf : n0 ≤ fx) :
    OwConH l yy6 method_2_code 3 none ws (rM 9 15 666 131) #[(.ref u), (.int 5), (.ref xe)] Z h0 consts_1 (OwP (fun v h => v = none ∧ Old Z n0 h ∧ owU Z h u cm wk (.ref fx)) n0) := by
  refine MetFree.of_bodySF (plainFor_of_name owpn7) hisR ?_
  intro p e s m args below meth c s₁ Bd hml0 hP hK
  have hi := @own_hi Z a0 hw
  obtain ⟨rfl, hZ, hh, hC0⟩ := hP
  have hx := Bd.exec
  have hby := Bd.bytes
  have hml : c.maxLocals = 3 := hml0
  have hown := findClass_of_methodNamed Bd.named
  have X0 : Stand p l e (rM 9 15 666 131) s m #[(.ref u), (.int 5), (.ref xe)] below meth c s₁ [] 0 0 := Stand.of_body Bd
  have e0 : s₁.heap = h0 := by rw [← hh, Bd.state]; rfl
  have N0 := Fr.nil n0
  have ef : entryFrame m #[(.ref u), (.int 5), (.ref xe)] 3 = mkF m 0 #[.val (.ref u), .val (.int 5), .val (.ref xe)] [] := by first | (simp [entryFrame, mkF, argsToLocals, Value.category]; done) | rfl
  have Y0 : Stand p l e (rM 9 15 666 131) (s.setVm s.vm) m #[(.ref u), (.int 5), (.ref xe)] below meth c s₁ [] 0 0 := X0
  have hS0 : s.Since s.vm s.heap.size := (State.WarmedH.refl s).since _
  have hk0 : s.heap.size ≤ h0.size := Nat.le_of_eq (by rw [← hh])
  have wS : ∀ a ∈ Bundle.stringAtoms, a.before a0 Z = true := fun a ha => hw a (own_strin a ha)
  have cr0 := CHr.refl hC0
  have hEL := own_EW hw
  obtain ⟨Eu, Uc, Uw, Uf, xv, Ux⟩ := id U
  obtain ⟨Ef, Nf, li, ar, ka, xo, Sf, gl, gr, El, Lf0, Lf1, Lf2, Va, Ea, Oa, Eo⟩ := id Xf
  obtain ⟨a1, T1, h1, k1, bb1, kk1, X1, e1, E1, hS1, hk1, hZ1, hown1, Es1, Fc1, Fv1, Va1, -, -, ct1, -, -, st1⟩ := ldcCH Y0 hx hZ hown (hi 108 rfl) wS e0 hS0 hk0 hEL (by decide : ("com/example/portable_transactions/portabletransactions/transaction/UnitEndingIsSettledPinLaw", 20) ∈ consts_1) hC0 (vs := [(.int 114), (.int 101), (.int 108), (.int 101), (.int 97), (.int 115), (.int 101), (.int 32), (.int 116), (.int 104), (.int 101), (.int 32), (.int 99), (.int 111), (.int 110), (.int 110), (.int 101), (.int 99), (.int 116), (.int 105), (.int 111), (.int 110)]) (z := (22 : Int32)) ⟨by decide, by decide⟩ (by decide) rfl (g := (mkF m 61 #[vR u, vI 5, vR xe] [(.ref xe), (.ref u)])) rfl (hb hby d7_61) (n := 88) (by decide) (by decide) (by decide) (by decide)
  have hC1 := ct1.1
  have cr1 := cr0.trans ct1
  have O1 := O.ext E1
  have Vh1 : owB Z h1 bb1 kk1 (22 : Int32) := owB.of Va1 (by decide)
  have fa2 := (Eu.ext E1)
  have fa3 := (Uc.ext E1)
  have fa4 := (Uw.ext E1)
  have fa5 := (Uf.ext E1)
  have fa6 := (Ux.ext E1)
  have fa7 := (Ef.ext E1)
  have fa8 := (Nf.ext E1)
  have fa9 := (Va.ext E1)
  have fa10 := (Ea.ext E1)
  have fa11 := (Sf.ext E1)
  have fa12 := (El.ext E1)
  have fa13 := (Lf0.ext E1)
  have fa14 := (Lf1.ext E1)
  have fa15 := (Lf2.ext E1)
  have fa16 := (Eo.ext E1)
  have fa17 := (Ex.ext E1)
  obtain ⟨cq18, kq18, q18a, q18b, q18c⟩ := isOf hZ1 e1 fa2
  obtain ⟨_, _, ⟨T18, L18, k18, n18⟩, -, Xw18, hSw18, hgr18, ⟨Lc18, hQ18, l18, y18, z18, ct18⟩, st18⟩ := X1.virtualBackS hx (y := yy4) (z := yy4) hown1 (mvT hZ1 (hi 109 rfl)) (mvT hZ1 (hi 110 rfl)) (notFace_of_selects (args := #[]) (mvT hZ1 (hi 112 rfl))) (mvT hZ1 (hi 112 rfl)) (mvT hZ1 (hi 111 rfl)) (by decide) (backOfSH (W := 0) (rmRelS1 l Z a0 hw [] n0 h1 O1 qqR qqN qqK qqU qqS qqE qqI qqM W u xe cm wk fx a1 ⟨fa2, fa3, fa4, fa5, _, fa6⟩ ⟨fa7, fa8, li, ar, ka, xo, fa11, gl, gr, fa12, fa13, fa14, fa15, fa9, fa10, Oa, fa16⟩ fa17 nx gf) hZ1 (hi 113 rfl) (hi 50 rfl) (by decide) (by decide) hEL hC1) q18a q18c (g := (mkF m 63 #[vR u, vI 5, vR xe] [(.ref a1), (.ref xe), (.ref u)])) rfl (by rw [hml]; rfl) (Steps.refl _) (argsL := [(.ref xe), (.ref a1)]) (rest := []) (lenOf owpd30 rfl) rfl (Nat.le_of_eq rfl) (hb hby d7_63) (fun _ _ => ⟨rfl, e1, (by decide : 2 + 3 ≤ _), (by decide : 92 + 138 ≤ _)⟩)
  dsimp only [Pt.U, Pt.locs, Pt.cells, Pt.slots] at Xw18 hSw18 hgr18 ct18 l18 y18 z18 st18 hQ18
  subst l18 y18 z18
  obtain ⟨X18, hS18, hZ18, hown18⟩ := rebS hS1 (by rw [e1]; exact hk1) Xw18 hSw18 hgr18 hZ1 hown1
  have hk18 := Nat.le_refl T18.heap.size
  have hC18 := ct18.1
  have cr18 := cr1.trans ct18
  obtain ⟨Nq18, hP18⟩ := hQ18
  have N18 := Fr.app N0 Nq18
  have ee18 : T18.heap = T18.heap := rfl
  obtain ⟨rfl, Oc18, Uu18⟩ := hP18
  obtain ⟨Eu18, Uc18, Uw18, Uf18, xv18, Ux18⟩ := id Uu18
  obtain ⟨fs, hr, hrun, hended, hend⟩ := X18.leaveW hS18 (by rw [ee18]; exact hk18) (v := none) (fun _ => rfl)
  refine ⟨_, _, castTop ef ?_, hrun, hended, _, _, rfl, ?_, ?_, hend.1, hend.2.1, hend.2.2.1, hend.2.2.2.mono (by decide) (by decide)⟩
  · show OwG p e below s₁ m 0 #[vR u, vI 5, vR xe] [] _
    refine XS.iloadN Y0.here hx rfl (hb hby d7_0) rfl ?_
    show OwG p e below s₁ m 1 #[vR u, vI 5, vR xe] [(.int 5)] _
    refine XS.iconst Y0.here hx rfl (hb hby d7_1) ?_
    refine XS.icmpYes Y0.here hx rfl (pc0 := 2) (pc' := 14) rfl (hb hby d7_2) rfl (feq (by decide : ¬ ((5 : Int32) = (1 : Int32)))).2 (by decide) (by decide) ?_
    refine XS.iloadN Y0.here hx rfl (hb hby d7_14) rfl ?_
    refine XS.iconst Y0.here hx rfl (hb hby d7_15) ?_
    refine XS.icmpYes Y0.here hx rfl (pc0 := 16) (pc' := 28) rfl (hb hby d7_16) rfl (feq (by decide : ¬ ((5 : Int32) = (2 : Int32)))).2 (by decide) (by decide) ?_
    refine XS.iloadN Y0.here hx rfl (hb hby d7_28) rfl ?_
    show OwG p e below s₁ m 29 #[vR u, vI 5, vR xe] [(.int 5)] _
    refine XS.iconst Y0.here hx rfl (hb hby d7_29) ?_
    refine XS.icmpYes Y0.here hx rfl (pc0 := 30) (pc' := 41) rfl (hb hby d7_30) rfl (feq (by decide : ¬ ((5 : Int32) = (3 : Int32)))).2 (by decide) (by decide) ?_
    refine XS.iloadN Y0.here hx rfl (hb hby d7_41) rfl ?_
    refine XS.iconst Y0.here hx rfl (hb hby d7_42) ?_
    refine XS.icmpYes Y0.here hx rfl (pc0 := 43) (pc' := 54) rfl (hb hby d7_43) rfl (feq (by decide : ¬ ((5 : Int32) = (4 : Int32)))).2 (by decide) (by decide) ?_
    refine XS.iloadN Y0.here hx rfl (hb hby d7_54) rfl ?_
    show OwG p e below s₁ m 55 #[vR u, vI 5, vR xe] [(.int 5)] _
    refine XS.iconst Y0.here hx rfl (hb hby d7_55) ?_
    refine XS.icmpNo Y0.here hx rfl (hb hby d7_56) rfl (teq (by decide : (5 : Int32) = (5 : Int32))).2 ?_
    refine XS.aloadN Y0.here hx rfl (hb hby d7_59) rfl rfl ?_
    refine XS.aloadN Y0.here hx rfl (hb hby d7_60) rfl rfl ?_
    show OwG p e below s₁ m 61 #[vR u, vI 5, vR xe] [(.ref xe), (.ref u)] _
    refine st1 _ ?_
    show OwG p e below T1 m 63 #[vR u, vI 5, vR xe] [(.ref a1), (.ref xe), (.ref u)] _
    refine st18.trans ?_
    show OwG p e below T18 m 66 #[vR u, vI 5, vR xe] [] _
    exact X18.returnOut hx Bd.returns (hb hby d7_66) hr
  · have eF : (T18.setFrames fs).heap = T18.heap := ee18
    exact ⟨N18, rfl, by rw [eF]; exact ⟨Oc18, ⟨Eu18, Uc18, Uw18, Uf18, _, Ux18⟩⟩⟩
  · have eF : (T18.setFrames fs).heap = T18.heap := ee18
    have crF := cr18.trans (CHv.at X18 hZ18 hEL hC18)
    rw [hh, eF]
    exact crF
theorem rmAp1 (l : Launch) (Z : State) (a0 : Array Value) (hw : OwHw Z a0) (ws : List Jvm.Cond) (n0 : Nat) (h0 : Heap) (O : Old Z n0 h0) (qqR qqN qqK qqU qqS qqE : Addr) (qqI : Int32) (qqM : Addr) (W : OwW Z qqR qqN qqK qqU qqS qqE qqI qqM) (u xe : Addr) (op d : Int32) (hop : owOp op) (S : ∃ cm wk, (cm = 0 ∨ cm = 1) ∧ owU Z h0 u cm wk .null ∧ owD qqK qqR qqN wk d) (Xe : owX0 Z h0 qqS xe) (gu : n0 ≤ u) (ge : n0 ≤ xe) :
    OwConH l yy6 method_2_code 3 none ws (rM 9 15 666 131) #[(.ref u), (.int op), (.ref xe)] Z h0 consts_1 (OwP (fun v h => v = none ∧ Old Z n0 h ∧ Keep h0 h [u] ∧ owS Z h n0 qqK qqR qqN qqS u (owE op d) [xe] 0) n0) := by
  obtain ⟨cm, wk, hcm, U, D⟩ := S
  have e0 : owE 0 d = d := by simp [owE]
  have e1 : owE 1 d = 1 := by simp [owE]
  have e2 : owE 2 d = 0 := by simp [owE]
  have e3 : owE 3 d = 0 := by simp [owE]
  have e4 : owE 4 d = 0 := by simp [owE]
  have e5 : owE 5 d = d := by simp [owE]
  rcases hop with rfl | rfl | rfl | rfl | rfl | rfl
  · rw [e0]; exact own_monoH (rmA0 l Z a0 hw ws n0 h0 O qqR qqN qqK qqU qqS qqE qqI qqM W u xe cm wk .null) (fun v h L ⟨N, hv, hh⟩ => by subst hh; exact ⟨N, hv, O, Keep.refl _ _, cm, wk, _, hcm, U, D, Or.inl rfl⟩)
  · rw [e1]; exact own_monoH (rmA1 l Z a0 hw ws n0 h0 O qqR qqN qqK qqU qqS qqE qqI qqM W u xe cm wk .null U gu Xe) (fun v h L ⟨N, hv, O', K, U', X'⟩ => ⟨N, hv, O', K, cm, _, _, hcm, U', Or.inr (Or.inl ⟨rfl, rfl⟩), Or.inr ⟨xe, (List.mem_cons_self ..), rfl, ge, Or.inl X'⟩⟩)
  · rw [e2]; exact own_monoH (rmA2 l Z a0 hw ws n0 h0 O qqR qqN qqK qqU qqS qqE qqI qqM W u xe cm wk .null U gu Xe) (fun v h L ⟨N, hv, O', K, U', X'⟩ => ⟨N, hv, O', K, cm, _, _, hcm, U', Or.inr (Or.inr ⟨rfl, rfl⟩), Or.inr ⟨xe, (List.mem_cons_self ..), rfl, ge, Or.inl X'⟩⟩)
  · rw [e3]; exact own_monoH (rmA3 l Z a0 hw ws n0 h0 O qqR qqN qqK qqU qqS qqE qqI qqM W u xe cm wk .null U gu Xe) (fun v h L ⟨N, hv, O', K, U', X'⟩ => ⟨N, hv, O', K, cm, _, _, hcm, U', Or.inr (Or.inr ⟨rfl, rfl⟩), Or.inr ⟨xe, (List.mem_cons_self ..), rfl, ge, Or.inl X'⟩⟩)
  · rw [e4]; exact own_monoH (rmA4 l Z a0 hw ws n0 h0 O qqR qqN qqK qqU qqS qqE qqI qqM W u xe cm wk .null U gu Xe) (fun v h L ⟨N, hv, O', K, U', X'⟩ => ⟨N, hv, O', K, cm, _, _, hcm, U', Or.inr (Or.inr ⟨rfl, rfl⟩), Or.inr ⟨xe, (List.mem_cons_self ..), rfl, ge, Or.inl X'⟩⟩)
  · rw [e5]; rcases hcm with rfl | rfl
    · exact own_monoH (rmA5n0 l Z a0 hw ws n0 h0 O qqR qqN qqK qqU qqS qqE qqI qqM W u xe wk U gu Xe) (fun v h L ⟨N, hv, O', K, U', X'⟩ => ⟨N, hv, O', K, 0, _, _, Or.inl rfl, U', D, Or.inr ⟨xe, (List.mem_cons_self ..), rfl, ge, Or.inl X'⟩⟩)
    · exact own_monoH (rmA5n1 l Z a0 hw ws n0 h0 O qqR qqN qqK qqU qqS qqE qqI qqM W u xe wk U gu Xe) (fun v h L ⟨N, hv, O', K, U', X'⟩ => ⟨N, hv, O', K, 1, _, _, Or.inr rfl, U', D, Or.inr ⟨xe, (List.mem_cons_self ..), rfl, ge, Or.inl X'⟩⟩)
theorem rmAp2 (l : Launch) (Z : State) (a0 : Array Value) (hw : OwHw Z a0) (ws : List Jvm.Cond) (n0 : Nat) (h0 : Heap) (O : Old Z n0 h0) (qqR qqN qqK qqU qqS qqE : Addr) (qqI : Int32) (qqM : Addr) (W : OwW Z qqR qqN qqK qqU qqS qqE qqI qqM) (u xe : Addr) (us : List Addr) (op d : Int32) (hop : owOp op) (S : owS Z h0 n0 qqK qqR qqN qqS u d us 0) (Xe : owX0 Z h0 qqS xe) (hne : ∀ f ∈ us, f ≠ xe) (gu : n0 ≤ u) (ge : n0 ≤ xe) :
    OwConH l yy6 method_2_code 3 none ws (rM 9 15 666 131) #[(.ref u), (.int op), (.ref xe)] Z h0 consts_1 (OwP (fun v h => v = none ∧ Old Z n0 h ∧ Keep h0 h (u :: us) ∧ owS Z h n0 qqK qqR qqN qqS u (owE op d) (xe :: us) 1) n0) := by
  obtain ⟨cm, wk, fl, hcm, U, D, F⟩ := S
  have e0 : owE 0 d = d := by simp [owE]
  have e1 : owE 1 d = 1 := by simp [owE]
  have e2 : owE 2 d = 0 := by simp [owE]
  have e3 : owE 3 d = 0 := by simp [owE]
  have e4 : owE 4 d = 0 := by simp [owE]
  have e5 : owE 5 d = d := by simp [owE]
  rcases hop with rfl | rfl | rfl | rfl | rfl | rfl
  · rw [e0]; exact own_monoH (rmA0 l Z a0 hw ws n0 h0 O qqR qqN qqK qqU qqS qqE qqI qqM W u xe cm wk fl) (fun v h L ⟨N, hv, hh⟩ => by subst hh; exact ⟨N, hv, O, Keep.refl _ _, cm, wk, fl, hcm, U, D, F.imp id fun ⟨f, h1, h2, h3, h4⟩ => ⟨f, List.mem_cons_of_mem _ h1, h2, h3, h4.imp id fun q => absurd q.1 (by decide)⟩⟩)
  · rw [e1]; exact own_monoH (rmA1 l Z a0 hw ws n0 h0 O qqR qqN qqK qqU qqS qqE qqI qqM W u xe cm wk fl U gu Xe) (fun v h L ⟨N, hv, O', K, U', X'⟩ => ⟨N, hv, O', (own_kw K (allS (P := fun x => x ∈ u :: us) (List.mem_cons_self ..) all0)), cm, _, _, hcm, U', Or.inr (Or.inl ⟨rfl, rfl⟩), Or.inr ⟨xe, (List.mem_cons_self ..), rfl, ge, Or.inl X'⟩⟩)
  · rw [e2]; exact own_monoH (rmA2 l Z a0 hw ws n0 h0 O qqR qqN qqK qqU qqS qqE qqI qqM W u xe cm wk fl U gu Xe) (fun v h L ⟨N, hv, O', K, U', X'⟩ => ⟨N, hv, O', (own_kw K (allS (P := fun x => x ∈ u :: us) (List.mem_cons_self ..) all0)), cm, _, _, hcm, U', Or.inr (Or.inr ⟨rfl, rfl⟩), Or.inr ⟨xe, (List.mem_cons_self ..), rfl, ge, Or.inl X'⟩⟩)
  · rw [e3]; exact own_monoH (rmA3 l Z a0 hw ws n0 h0 O qqR qqN qqK qqU qqS qqE qqI qqM W u xe cm wk fl U gu Xe) (fun v h L ⟨N, hv, O', K, U', X'⟩ => ⟨N, hv, O', (own_kw K (allS (P := fun x => x ∈ u :: us) (List.mem_cons_self ..) all0)), cm, _, _, hcm, U', Or.inr (Or.inr ⟨rfl, rfl⟩), Or.inr ⟨xe, (List.mem_cons_self ..), rfl, ge, Or.inl X'⟩⟩)
  · rw [e4]; exact own_monoH (rmA4 l Z a0 hw ws n0 h0 O qqR qqN qqK qqU qqS qqE qqI qqM W u xe cm wk fl U gu Xe) (fun v h L ⟨N, hv, O', K, U', X'⟩ => ⟨N, hv, O', (own_kw K (allS (P := fun x => x ∈ u :: us) (List.mem_cons_self ..) all0)), cm, _, _, hcm, U', Or.inr (Or.inr ⟨rfl, rfl⟩), Or.inr ⟨xe, (List.mem_cons_self ..), rfl, ge, Or.inl X'⟩⟩)
  · rw [e5]; rcases F with rfl | ⟨f, hm, rfl, gf, X0 | ⟨q, -⟩⟩
    · rcases hcm with rfl | rfl
      · exact own_monoH (rmA5n0 l Z a0 hw ws n0 h0 O qqR qqN qqK qqU qqS qqE qqI qqM W u xe wk U gu Xe) (fun v h L ⟨N, hv, O', K, U', X'⟩ => ⟨N, hv, O', (own_kw K (allS (P := fun x => x ∈ u :: us) (List.mem_cons_self ..) all0)), 0, _, _, Or.inl rfl, U', D, Or.inr ⟨xe, (List.mem_cons_self ..), rfl, ge, Or.inl X'⟩⟩)
      · exact own_monoH (rmA5n1 l Z a0 hw ws n0 h0 O qqR qqN qqK qqU qqS qqE qqI qqM W u xe wk U gu Xe) (fun v h L ⟨N, hv, O', K, U', X'⟩ => ⟨N, hv, O', (own_kw K (allS (P := fun x => x ∈ u :: us) (List.mem_cons_self ..) all0)), 1, _, _, Or.inr rfl, U', D, Or.inr ⟨xe, (List.mem_cons_self ..), rfl, ge, Or.inl X'⟩⟩)
    · exact own_monoH (rmA5s0 l Z a0 hw ws n0 h0 O qqR qqN qqK qqU qqS qqE qqI qqM W u xe cm wk f U X0 Xe.1 (hne f hm) gf) (fun v h L ⟨N, hv, O', K, X1, U'⟩ => ⟨N, hv, O', own_kw K (allS (P := fun x => x ∈ u :: us) (List.mem_cons_of_mem _ hm) all0), cm, wk, _, hcm, U', D, Or.inr ⟨f, List.mem_cons_of_mem _ hm, rfl, gf, Or.inr ⟨rfl, X1⟩⟩⟩)
    · exact absurd q (by decide)
theorem rmAp3 (l : Launch) (Z : State) (a0 : Array Value) (hw : OwHw Z a0) (ws : List Jvm.Cond) (n0 : Nat) (h0 : Heap) (O : Old Z n0 h0) (qqR qqN qqK qqU qqS qqE : Addr) (qqI : Int32) (qqM : Addr) (W : OwW Z qqR qqN qqK qqU qqS qqE qqI qqM) (u xe : Addr) (us : List Addr) (op d : Int32) (hop : owOp op) (S : owS Z h0 n0 qqK qqR qqN qqS u d us 1) (Xe : owX0 Z h0 qqS xe) (hne : ∀ f ∈ us, f ≠ xe) (gu : n0 ≤ u) (ge : n0 ≤ xe) :
    OwConH l yy6 method_2_code 3 none ws (rM 9 15 666 131) #[(.ref u), (.int op), (.ref xe)] Z h0 consts_1 (OwP (fun v h => v = none ∧ Old Z n0 h ∧ owT Z h qqK qqR qqN u (owE op d)) n0) := by
  obtain ⟨cm, wk, fl, hcm, U, D, F⟩ := S
  have e0 : owE 0 d = d := by simp [owE]
  have e1 : owE 1 d = 1 := by simp [owE]
  have e2 : owE 2 d = 0 := by simp [owE]
  have e3 : owE 3 d = 0 := by simp [owE]
  have e4 : owE 4 d = 0 := by simp [owE]
  have e5 : owE 5 d = d := by simp [owE]
  rcases hop with rfl | rfl | rfl | rfl | rfl | rfl
  · rw [e0]; exact own_monoH (rmA0 l Z a0 hw ws n0 h0 O qqR qqN qqK qqU qqS qqE qqI qqM W u xe cm wk fl) (fun v h L ⟨N, hv, hh⟩ => by subst hh; exact ⟨N, hv, O, cm, wk, fl, U, D⟩)
  · rw [e1]; exact own_monoH (rmA1 l Z a0 hw ws n0 h0 O qqR qqN qqK qqU qqS qqE qqI qqM W u xe cm wk fl U gu Xe) (fun v h L ⟨N, hv, O', K, U', X'⟩ => ⟨N, hv, O', cm, _, _, U', Or.inr (Or.inl ⟨rfl, rfl⟩)⟩)
  · rw [e2]; exact own_monoH (rmA2 l Z a0 hw ws n0 h0 O qqR qqN qqK qqU qqS qqE qqI qqM W u xe cm wk fl U gu Xe) (fun v h L ⟨N, hv, O', K, U', X'⟩ => ⟨N, hv, O', cm, _, _, U', Or.inr (Or.inr ⟨rfl, rfl⟩)⟩)
  · rw [e3]; exact own_monoH (rmA3 l Z a0 hw ws n0 h0 O qqR qqN qqK qqU qqS qqE qqI qqM W u xe cm wk fl U gu Xe) (fun v h L ⟨N, hv, O', K, U', X'⟩ => ⟨N, hv, O', cm, _, _, U', Or.inr (Or.inr ⟨rfl, rfl⟩)⟩)
  · rw [e4]; exact own_monoH (rmA4 l Z a0 hw ws n0 h0 O qqR qqN qqK qqU qqS qqE qqI qqM W u xe cm wk fl U gu Xe) (fun v h L ⟨N, hv, O', K, U', X'⟩ => ⟨N, hv, O', cm, _, _, U', Or.inr (Or.inr ⟨rfl, rfl⟩)⟩)
  · rw [e5]; rcases F with rfl | ⟨f, hm, rfl, gf, X0 | ⟨-, X1⟩⟩
    · rcases hcm with rfl | rfl
      · exact own_monoH (rmA5n0 l Z a0 hw ws n0 h0 O qqR qqN qqK qqU qqS qqE qqI qqM W u xe wk U gu Xe) (fun v h L ⟨N, hv, O', K, U', X'⟩ => ⟨N, hv, O', 0, _, _, U', D⟩)
      · exact own_monoH (rmA5n1 l Z a0 hw ws n0 h0 O qqR qqN qqK qqU qqS qqE qqI qqM W u xe wk U gu Xe) (fun v h L ⟨N, hv, O', K, U', X'⟩ => ⟨N, hv, O', 1, _, _, U', D⟩)
    · exact own_monoH (rmA5s0 l Z a0 hw ws n0 h0 O qqR qqN qqK qqU qqS qqE qqI qqM W u xe cm wk f U X0 Xe.1 (hne f hm) gf) (fun v h L ⟨N, hv, O', K, X1, U'⟩ => ⟨N, hv, O', cm, wk, _, U', D⟩)
    · exact own_monoH (rmA5s1 l Z a0 hw ws n0 h0 O qqR qqN qqK qqU qqS qqE qqI qqM W u xe cm wk f U X1 Xe.1 (hne f hm) gf) (fun v h L ⟨N, hv, O', U'⟩ => ⟨N, hv, O', cm, wk, _, U', D⟩)
theorem rm0 (l : Launch) (Z : State) (a0 : Array Value) (hw : OwHw Z a0) (ws : List Jvm.Cond) (n0 : Nat) (h0 : Heap) (O : Old Z n0 h0) (qqR qqN qqK qqU qqS qqE : Addr) (qqI : Int32) (qqM : Addr) (W : OwW Z qqR qqN qqK qqU qqS qqE qqI qqM) (p0 : Int32) (p1 : Int32) (p2 : Int32) (p3 : Int32) (hl : l.stackTraces = true) (hTS : ThS Z h0) (cm oa ob oc : Int32) (hcm : (if (p0 &&& (1 : Int32)) = (0 : Int32) then (0 : Int32) else (1 : Int32)) = cm) (hoa : ((p1 &&& (2147483647 : Int32)) % (6 : Int32)) = oa) (hob : ((p2 &&& (2147483647 : Int32)) % (6 : Int32)) = ob) (hoc : ((p3 &&& (2147483647 : Int32)) % (6 : Int32)) = oc) (hc01 : cm = 0 ∨ cm = 1) (qa : owOp oa) (qb : owOp ob) (qc : owOp oc) :
    OwConHK l x code maxLocals ret ws room_1 #[(.int p0), (.int p1), (.int p2), (.int p3)] Z h0 consts_1 (OwP (fun v _ => v = some (.int 1)) n0) := by
  refine MetFree.of_bodySF (plainFor_of_name owpn0) hisR ?_
  intro p e s m args below meth c s₁ Bd hml0 hP hK
  have hi := @own_hi Z a0 hw
  obtain ⟨rfl, hZ, hh, hC0⟩ := hP
  have hx := Bd.exec
  have hby := Bd.bytes
  have hml : c.maxLocals = 14 := hml0
  have hown := findClass_of_methodNamed Bd.named
  have X0 : Stand p l e room_1 s m #[(.int p0), (.int p1), (.int p2), (.int p3)] below meth c s₁ [] 0 0 := Stand.of_body Bd
  have e0 : s₁.heap = h0 := by rw [← hh, Bd.state]; rfl
  have N0 := Fr.nil n0
  obtain ⟨hTK, hBelow⟩ := X0.known hK.2 hK.1
  have ef : entryFrame m #[(.int p0), (.int p1), (.int p2), (.int p3)] maxLocals = mkF m 0 #[.val (.int p0), .val (.int p1), .val (.int p2), .val (.int p3), .unset, .unset, .unset, .unset, .unset, .unset, .unset, .unset, .unset, .unset] [] := by first | (simp [entryFrame, mkF, argsToLocals, Value.category, maxLocals]; done) | rfl
  have Y0 : Stand p l e room_1 (s.setVm s.vm) m #[(.int p0), (.int p1), (.int p2), (.int p3)] below meth c s₁ [] 0 0 := X0
  have hS0 : s.Since s.vm s.heap.size := (State.WarmedH.refl s).since _
  have hk0 : s.heap.size ≤ h0.size := Nat.le_of_eq (by rw [← hh])
  have wS : ∀ a ∈ Bundle.stringAtoms, a.before a0 Z = true := fun a ha => hw a (own_strin a ha)
  have cr0 := CHr.refl hC0
  have hEL := own_EW hw
  have sg1 : ∀ target, Steps p.tables e below (s₁.setTop (mkF m 11 #[vI p0, vI p1, vI p2, vI p3, .unset, .unset, .unset, .unset, .unset, .unset, .unset, .unset, .unset, .unset] [(.int (if (p0 &&& (1 : Int32)) = (0 : Int32) then (0 : Int32) else (1 : Int32)))])) target → Steps p.tables e below (s₁.setTop (mkF m 3 #[vI p0, vI p1, vI p2, vI p3, .unset, .unset, .unset, .unset, .unset, .unset, .unset, .unset, .unset, .unset] [(.int (p0 &&& (1 : Int32)))])) target := by
    intro target kt
    by_cases hd1_0 : (p0 &&& (1 : Int32)) = (0 : Int32)
    · show OwG p e below s₁ m 3 #[vI p0, vI p1, vI p2, vI p3, .unset, .unset, .unset, .unset, .unset, .unset, .unset, .unset, .unset, .unset] [(.int (p0 &&& (1 : Int32)))] _
      refine XS.ifYes Y0.here hx rfl (pc0 := 3) (pc' := 10) rfl (hb hby at_3) rfl ((if0 _ _).trans (teq hd1_0).1) (by decide) (by decide) ?_
      show OwG p e below s₁ m 10 #[vI p0, vI p1, vI p2, vI p3, .unset, .unset, .unset, .unset, .unset, .unset, .unset, .unset, .unset, .unset] [] _
      refine XS.iconst Y0.here hx rfl (hb hby at_10) ?_
      show OwG p e below s₁ m 11 #[vI p0, vI p1, vI p2, vI p3, .unset, .unset, .unset, .unset, .unset, .unset, .unset, .unset, .unset, .unset] [(.int 0)] _
      exact (by simpa only [if_pos hd1_0] using kt)
    · show OwG p e below s₁ m 3 #[vI p0, vI p1, vI p2, vI p3, .unset, .unset, .unset, .unset, .unset, .unset, .unset, .unset, .unset, .unset] [(.int (p0 &&& (1 : Int32)))] _
      refine XS.ifNo Y0.here hx rfl (hb hby at_3) rfl ((if0 _ _).trans (feq hd1_0).1) ?_
      refine XS.iconst Y0.here hx rfl (hb hby at_6) ?_
      refine XS.goto Y0.here hx rfl (pc0 := 7) (pc' := 11) rfl (hb hby at_7) (by decide) (by decide) ?_
      show OwG p e below s₁ m 11 #[vI p0, vI p1, vI p2, vI p3, .unset, .unset, .unset, .unset, .unset, .unset, .unset, .unset, .unset, .unset] [(.int 1)] _
      exact (by simpa only [if_neg hd1_0] using kt)
  obtain ⟨T2, h2, X2, e2, E2, A2, D2, Un2, st2⟩ := newO Y0 hx hZ hown (hi 1 rfl) (hi 2 rfl) (hi 3 rfl) e0 (g := (mkF m 40 #[vI p0, vI p1, vI p2, vI p3, vI cm, vI oa, vI ob, vI oc, .unset, .unset, .unset, .unset, .unset, .unset] [])) rfl (hb hby at_40) (by decide) (by decide)
  obtain ⟨b2, g2⟩ : ∃ z, z = h0.size := ⟨_, rfl⟩
  rw [← g2] at A2 D2 Un2 st2
  have gx2 : n0 ≤ b2 := Nat.le_trans (Nat.le_trans (Nat.le_of_eq O.1.symm) O.2.1) (Nat.le_of_eq g2.symm)
  have O2 := O.ext E2
  have Fn2_cause : Fld Z h2 b2 zs20 "cause" "Ljava/lang/Throwable;" .null := D2 (Or.inl (hi 17 rfl)) (ty := (.object zs20)) (by decide)
  have Fn2_stackTrace : Fld Z h2 b2 zs20 "stackTrace" "[Ljava/lang/StackTraceElement;" .null := D2 (Or.inl (hi 20 rfl)) (ty := (.array (.object "java/lang/StackTraceElement"))) (by decide)
  have Fn2_suppressedExceptions : Fld Z h2 b2 zs20 "suppressedExceptions" "Ljava/util/List;" .null := D2 (Or.inl (hi 23 rfl)) (ty := (.object "java/util/List")) (by decide)
  have Fn2_detailMessage : Fld Z h2 b2 zs20 "detailMessage" "Ljava/lang/String;" .null := D2 (Or.inl (hi 44 rfl)) (ty := (.object zs18)) (by decide)
  have Fn2_backtrace : Fld Z h2 b2 zs20 "backtrace" "Ljava/lang/Object;" .null := D2 (Or.inl (hi 45 rfl)) (ty := (.object zs16)) (by decide)
  have Fn2_depth : Fld Z h2 b2 zs20 "depth" "I" (.int 0) := D2 (Or.inl (hi 46 rfl)) (ty := .int) (by decide)
  have hkk2 := Nat.le_trans hk0 E2.1
  have ct2 := CHr.ext E2 hC0
  have hC2 := ct2.1
  have cr2 := cr0.trans ct2
  have fa3 := (hTS.ext E2)
  obtain ⟨_, _, ⟨T4, L4, k4, n4⟩, -, X4, ⟨Lc4, hQ4, l4, y4, z4⟩, st4⟩ := X2.specialBack hx (y := yy17) rfl hown (mvT hZ (hi 4 rfl)) (mvT hZ (hi 5 rfl)) (mvT hZ (hi 6 rfl)) (by decide) (backOfKL (W := 1) (rmExc l Z a0 hw [] n0 h2 O2 qqR qqN qqK qqU qqS qqE qqI qqM W b2 A2 (Un2 : Unt h2 b2) Fn2_cause Fn2_stackTrace Fn2_suppressedExceptions Fn2_backtrace gx2 hl fa3) hZ (hi 6 rfl) (hi 3 rfl) (by decide) (by decide) hTK hBelow) (g := (mkF m 44 #[vI p0, vI p1, vI p2, vI p3, vI cm, vI oa, vI ob, vI oc, .unset, .unset, .unset, .unset, .unset, .unset] [(.ref b2), (.ref b2)])) rfl (by rw [hml]; rfl) (Steps.refl _) (a := b2) (argsL := []) (rest := [(.ref b2)]) (lenOf owpd0 rfl) rfl (Nat.le_of_eq rfl) (hb hby at_44) (fun _ _ => ⟨rfl, e2, (by decide : 1 + 1 ≤ _), (by decide : 6 + 2752 ≤ _)⟩)
  dsimp only [Pt.U, Pt.locs, Pt.cells, Pt.slots] at X4 l4 y4 z4 st4 hQ4
  subst l4 y4 z4
  obtain ⟨Nq4, hP4⟩ := hQ4
  have N4 := Fr.app N0 Nq4
  have ee4 : T4.heap = T4.heap := rfl
  obtain ⟨rfl, O4, Kc4, Ec4, Uc4, Tc4, Fc4⟩ := hP4
  have ct4 := CHr.keep Kc4 (sfS (Safe.exa (EL := consts_1) hZ.alike A2 (by decide) (by decide)) sf0) hC2
  have hC4 := ct4.1
  have cr4 := cr2.trans ct4
  have hkk4 := Nat.le_trans hkk2 Kc4.1
  obtain ⟨T5, h5, X5, e5, E5, A5, D5, Un5, st5⟩ := newO X4 hx hZ hown (hi 1 rfl) (hi 2 rfl) (hi 3 rfl) ee4 (g := (mkF m 49 #[vI p0, vI p1, vI p2, vI p3, vI cm, vI oa, vI ob, vI oc, vR b2, .unset, .unset, .unset, .unset, .unset] [])) rfl (hb hby at_49) (by decide) (by decide)
  obtain ⟨b5, g5⟩ : ∃ z, z = T4.heap.size := ⟨_, rfl⟩
  rw [← g5] at A5 D5 Un5 st5
  have gx5 : n0 ≤ b5 := Nat.le_trans (Nat.le_trans (Nat.le_of_eq O4.1.symm) O4.2.1) (Nat.le_of_eq g5.symm)
  have ne_b2_5 : b2 ≠ b5 := Nat.ne_of_lt (Nat.lt_of_lt_of_le Ec4.lt (Nat.le_of_eq g5.symm))
  have O5 := O4.ext E5
  have Fn5_cause : Fld Z h5 b5 zs20 "cause" "Ljava/lang/Throwable;" .null := D5 (Or.inl (hi 17 rfl)) (ty := (.object zs20)) (by decide)
  have Fn5_stackTrace : Fld Z h5 b5 zs20 "stackTrace" "[Ljava/lang/StackTraceElement;" .null := D5 (Or.inl (hi 20 rfl)) (ty := (.array (.object "java/lang/StackTraceElement"))) (by decide)
  have Fn5_suppressedExceptions : Fld Z h5 b5 zs20 "suppressedExceptions" "Ljava/util/List;" .null := D5 (Or.inl (hi 23 rfl)) (ty := (.object "java/util/List")) (by decide)
  have Fn5_detailMessage : Fld Z h5 b5 zs20 "detailMessage" "Ljava/lang/String;" .null := D5 (Or.inl (hi 44 rfl)) (ty := (.object zs18)) (by decide)
  have Fn5_backtrace : Fld Z h5 b5 zs20 "backtrace" "Ljava/lang/Object;" .null := D5 (Or.inl (hi 45 rfl)) (ty := (.object zs16)) (by decide)
  have Fn5_depth : Fld Z h5 b5 zs20 "depth" "I" (.int 0) := D5 (Or.inl (hi 46 rfl)) (ty := .int) (by decide)
  have hkk5 := Nat.le_trans hkk4 E5.1
  have ct5 := CHr.ext E5 hC4
  have hC5 := ct5.1
  have cr5 := cr4.trans ct5
  have fa6 := (Tc4.ext E5)
  obtain ⟨_, _, ⟨T7, L7, k7, n7⟩, -, X7, ⟨Lc7, hQ7, l7, y7, z7⟩, st7⟩ := X5.specialBack hx (y := yy17) rfl hown (mvT hZ (hi 4 rfl)) (mvT hZ (hi 5 rfl)) (mvT hZ (hi 6 rfl)) (by decide) (backOfKL (W := 1) (rmExc l Z a0 hw [] n0 h5 O5 qqR qqN qqK qqU qqS qqE qqI qqM W b5 A5 (Un5 : Unt h5 b5) Fn5_cause Fn5_stackTrace Fn5_suppressedExceptions Fn5_backtrace gx5 hl fa6) hZ (hi 6 rfl) (hi 3 rfl) (by decide) (by decide) hTK hBelow) (g := (mkF m 53 #[vI p0, vI p1, vI p2, vI p3, vI cm, vI oa, vI ob, vI oc, vR b2, .unset, .unset, .unset, .unset, .unset] [(.ref b5), (.ref b5)])) rfl (by rw [hml]; rfl) (Steps.refl _) (a := b5) (argsL := []) (rest := [(.ref b5)]) (lenOf owpd0 rfl) rfl (Nat.le_of_eq rfl) (hb hby at_53) (fun _ _ => ⟨rfl, e5, (by decide : 3 + 1 ≤ _), (by decide : 2764 + 2752 ≤ _)⟩)
  dsimp only [Pt.U, Pt.locs, Pt.cells, Pt.slots] at X7 l7 y7 z7 st7 hQ7
  subst l7 y7 z7
  obtain ⟨Nq7, hP7⟩ := hQ7
  have N7 := Fr.app N4 Nq7
  have ee7 : T7.heap = T7.heap := rfl
  obtain ⟨rfl, O7, Kc7, Ec7, Uc7, Tc7, Fc7⟩ := hP7
  have ct7 := CHr.keep Kc7 (sfS (Safe.exa (EL := consts_1) hZ.alike A5 (by decide) (by decide)) sf0) hC5
  have hC7 := ct7.1
  have cr7 := cr5.trans ct7
  have hkk7 := Nat.le_trans hkk5 Kc7.1
  obtain ⟨T8, h8, X8, e8, E8, A8, D8, Un8, st8⟩ := newO X7 hx hZ hown (hi 1 rfl) (hi 2 rfl) (hi 3 rfl) ee7 (g := (mkF m 58 #[vI p0, vI p1, vI p2, vI p3, vI cm, vI oa, vI ob, vI oc, vR b2, vR b5, .unset, .unset, .unset, .unset] [])) rfl (hb hby at_58) (by decide) (by decide)
  obtain ⟨b8, g8⟩ : ∃ z, z = T7.heap.size := ⟨_, rfl⟩
  rw [← g8] at A8 D8 Un8 st8
  have gx8 : n0 ≤ b8 := Nat.le_trans (Nat.le_trans (Nat.le_of_eq O7.1.symm) O7.2.1) (Nat.le_of_eq g8.symm)
  have fa9 := ((Ec4.ext E5).keep Kc7)
  have ne_b2_8 : b2 ≠ b8 := Nat.ne_of_lt (Nat.lt_of_lt_of_le fa9.lt (Nat.le_of_eq g8.symm))
  have ne_b5_8 : b5 ≠ b8 := Nat.ne_of_lt (Nat.lt_of_lt_of_le Ec7.lt (Nat.le_of_eq g8.symm))
  have O8 := O7.ext E8
  have Fn8_cause : Fld Z h8 b8 zs20 "cause" "Ljava/lang/Throwable;" .null := D8 (Or.inl (hi 17 rfl)) (ty := (.object zs20)) (by decide)
  have Fn8_stackTrace : Fld Z h8 b8 zs20 "stackTrace" "[Ljava/lang/StackTraceElement;" .null := D8 (Or.inl (hi 20 rfl)) (ty := (.array (.object "java/lang/StackTraceElement"))) (by decide)
  have Fn8_suppressedExceptions : Fld Z h8 b8 zs20 "suppressedExceptions" "Ljava/util/List;" .null := D8 (Or.inl (hi 23 rfl)) (ty := (.object "java/util/List")) (by decide)
  have Fn8_detailMessage : Fld Z h8 b8 zs20 "detailMessage" "Ljava/lang/String;" .null := D8 (Or.inl (hi 44 rfl)) (ty := (.object zs18)) (by decide)
  have Fn8_backtrace : Fld Z h8 b8 zs20 "backtrace" "Ljava/lang/Object;" .null := D8 (Or.inl (hi 45 rfl)) (ty := (.object zs16)) (by decide)
  have Fn8_depth : Fld Z h8 b8 zs20 "depth" "I" (.int 0) := D8 (Or.inl (hi 46 rfl)) (ty := .int) (by decide)
  have hkk8 := Nat.le_trans hkk7 E8.1
  have ct8 := CHr.ext E8 hC7
  have hC8 := ct8.1
  have cr8 := cr7.trans ct8
  have fa10 := (Tc7.ext E8)
  obtain ⟨_, _, ⟨T11, L11, k11, n11⟩, -, X11, ⟨Lc11, hQ11, l11, y11, z11⟩, st11⟩ := X8.specialBack hx (y := yy17) rfl hown (mvT hZ (hi 4 rfl)) (mvT hZ (hi 5 rfl)) (mvT hZ (hi 6 rfl)) (by decide) (backOfKL (W := 1) (rmExc l Z a0 hw [] n0 h8 O8 qqR qqN qqK qqU qqS qqE qqI qqM W b8 A8 (Un8 : Unt h8 b8) Fn8_cause Fn8_stackTrace Fn8_suppressedExceptions Fn8_backtrace gx8 hl fa10) hZ (hi 6 rfl) (hi 3 rfl) (by decide) (by decide) hTK hBelow) (g := (mkF m 62 #[vI p0, vI p1, vI p2, vI p3, vI cm, vI oa, vI ob, vI oc, vR b2, vR b5, .unset, .unset, .unset, .unset] [(.ref b8), (.ref b8)])) rfl (by rw [hml]; rfl) (Steps.refl _) (a := b8) (argsL := []) (rest := [(.ref b8)]) (lenOf owpd0 rfl) rfl (Nat.le_of_eq rfl) (hb hby at_62) (fun _ _ => ⟨rfl, e8, (by decide : 5 + 1 ≤ _), (by decide : 5522 + 2752 ≤ _)⟩)
  dsimp only [Pt.U, Pt.locs, Pt.cells, Pt.slots] at X11 l11 y11 z11 st11 hQ11
  subst l11 y11 z11
  obtain ⟨Nq11, hP11⟩ := hQ11
  have N11 := Fr.app N7 Nq11
  have ee11 : T11.heap = T11.heap := rfl
  obtain ⟨rfl, O11, Kc11, Ec11, Uc11, Tc11, Fc11⟩ := hP11
  have ct11 := CHr.keep Kc11 (sfS (Safe.exa (EL := consts_1) hZ.alike A8 (by decide) (by decide)) sf0) hC8
  have hC11 := ct11.1
  have cr11 := cr8.trans ct11
  have hkk11 := Nat.le_trans hkk8 Kc11.1
  obtain ⟨T12, h12, X12, e12, E12, A12, D12, Un12, st12⟩ := newO X11 hx hZ hown (hi 48 rfl) (hi 49 rfl) (hi 50 rfl) ee11 (g := (mkF m 67 #[vI p0, vI p1, vI p2, vI p3, vI cm, vI oa, vI ob, vI oc, vR b2, vR b5, vR b8, .unset, .unset, .unset] [])) rfl (hb hby at_67) (by decide) (by decide)
  obtain ⟨b12, g12⟩ : ∃ z, z = T11.heap.size := ⟨_, rfl⟩
  rw [← g12] at A12 D12 Un12 st12
  have gx12 : n0 ≤ b12 := Nat.le_trans (Nat.le_trans (Nat.le_of_eq O11.1.symm) O11.2.1) (Nat.le_of_eq g12.symm)
  have fa13 := ((fa9.ext E8).keep Kc11)
  have ne_b2_12 : b2 ≠ b12 := Nat.ne_of_lt (Nat.lt_of_lt_of_le fa13.lt (Nat.le_of_eq g12.symm))
  have fa14 := ((Ec7.ext E8).keep Kc11)
  have ne_b5_12 : b5 ≠ b12 := Nat.ne_of_lt (Nat.lt_of_lt_of_le fa14.lt (Nat.le_of_eq g12.symm))
  have ne_b8_12 : b8 ≠ b12 := Nat.ne_of_lt (Nat.lt_of_lt_of_le Ec11.lt (Nat.le_of_eq g12.symm))
  have O12 := O11.ext E12
  have Fn12_commit : Fld Z h12 b12 zs9 "commit" "Z" (.int 0) := D12 (Or.inr (hi 56 rfl)) (ty := .boolean) (by decide)
  have Fn12_work : Fld Z h12 b12 zs9 "work" "Lcom/example/portable_transactions/portabletransactions/transaction/UnitEnding$Work;" .null := D12 (Or.inl (hi 61 rfl)) (ty := (.object zs10)) (by decide)
  have Fn12_failure : Fld Z h12 b12 zs9 "failure" "Ljava/lang/Exception;" .null := D12 (Or.inl (hi 79 rfl)) (ty := (.object zs15)) (by decide)
  have Fn12_failed : Fld Z h12 b12 zs9 "failed" "Ljava/lang/String;" .null := D12 (Or.inl (hi 89 rfl)) (ty := (.object zs18)) (by decide)
  have hkk12 := Nat.le_trans hkk11 E12.1
  have ct12 := CHr.ext E12 hC11
  have hC12 := ct12.1
  have cr12 := cr11.trans ct12
  obtain ⟨_, _, ⟨T15, L15, k15, n15⟩, -, X15, ⟨Lc15, hQ15, l15, y15, z15⟩, st15⟩ := X12.specialBack hx (y := yy0) rfl hown (mvT hZ (hi 51 rfl)) (mvT hZ (hi 52 rfl)) (mvT hZ (hi 53 rfl)) (by decide) (backOf (W := 1) (rmUi l Z a0 hw [] n0 h12 O12 qqR qqN qqK qqU qqS qqE qqI qqM W b12 A12 Fn12_commit Fn12_work Fn12_failure Fn12_failed gx12 cm hc01) hZ (hi 53 rfl) (hi 50 rfl) (by decide) (by decide)) (g := (mkF m 73 #[vI p0, vI p1, vI p2, vI p3, vI cm, vI oa, vI ob, vI oc, vR b2, vR b5, vR b8, .unset, .unset, .unset] [(.int cm), (.ref b12), (.ref b12)])) rfl (by rw [hml]; rfl) (Steps.refl _) (a := b12) (argsL := [(.int cm)]) (rest := [(.ref b12)]) (lenOf owpd31 rfl) rfl (Nat.le_of_eq rfl) (hb hby at_73) (fun _ _ => ⟨rfl, e12, (by decide : 7 + 0 ≤ _), (by decide : 8278 + 0 ≤ _)⟩)
  dsimp only [Pt.U, Pt.locs, Pt.cells, Pt.slots] at X15 l15 y15 z15 st15 hQ15
  subst l15 y15 z15
  obtain ⟨Nq15, hP15⟩ := hQ15
  have N15 := Fr.app N11 Nq15
  have ee15 : T15.heap = T15.heap := rfl
  obtain ⟨rfl, Oc15, Kc15, wk15, Uu15, Dd15⟩ := hP15
  have ct15 := CHr.keep Kc15 (sfS (Safe.exa (EL := consts_1) hZ.alike A12 (by decide) (by decide)) sf0) hC12
  have hC15 := ct15.1
  have cr15 := cr12.trans ct15
  have hkk15 := Nat.le_trans hkk12 Kc15.1
  have Tt15 : owT Z T15.heap qqK qqR qqN b12 (1 : Int32) := ⟨cm, wk15, _, Uu15, Dd15⟩
  obtain ⟨cq16, kq16, q16a, q16b, q16c⟩ := isOf hZ ee15 Uu15.1
  obtain ⟨_, _, ⟨T16, L16, k16, n16⟩, -, X16, ⟨Lc16, hQ16, l16, y16, z16⟩, st16⟩ := X15.virtualBack hx (y := yy3) (z := yy3) hown (mvT hZ (hi 62 rfl)) (mvT hZ (hi 63 rfl)) (notFace_of_selects (args := #[]) (mvT hZ (hi 65 rfl))) (mvT hZ (hi 65 rfl)) (mvT hZ (hi 64 rfl)) (by decide) (backOf (W := 0) (rmIs l Z a0 hw [] n0 T15.heap Oc15 qqR qqN qqK qqU qqS qqE qqI qqM W b12 (1 : Int32) Tt15) hZ (hi 66 rfl) (hi 50 rfl) (by decide) (by decide)) q16a q16c (g := (mkF m 83 #[vI p0, vI p1, vI p2, vI p3, vI cm, vI oa, vI ob, vI oc, vR b2, vR b5, vR b8, vR b12, vI 1, .unset] [(.ref b12)])) rfl (by rw [hml]; rfl) (Steps.refl _) (argsL := []) (rest := []) (lenOf owpd15 rfl) rfl (Nat.le_of_eq rfl) (hb hby at_83) (fun _ _ => ⟨rfl, ee15, (by decide : 7 + 0 ≤ _), (by decide : 8278 + 0 ≤ _)⟩)
  dsimp only [Pt.U, Pt.locs, Pt.cells, Pt.slots] at X16 l16 y16 z16 st16 hQ16
  subst l16 y16 z16
  obtain ⟨rfl, Nq16, e16⟩ := hQ16
  have N16 := Fr.app N15 Nq16
  have fa17 := ((fa13.ext E12).keep Kc15)
  have fa18 := ((((((Uc4.ext E5).keep Kc7 (ninS ne_b2_5 nin0)).ext E8).keep Kc11 (ninS ne_b2_8 nin0)).ext E12).keep Kc15 (ninS ne_b2_12 nin0))
  have fa19 := ((((((Fc4.ext E5).keep Kc7 (ninS ne_b2_5 nin0)).ext E8).keep Kc11 (ninS ne_b2_8 nin0)).ext E12).keep Kc15 (ninS ne_b2_12 nin0))
  obtain ⟨_, _, ⟨T20, L20, k20, n20⟩, -, Xw20, hSw20, hgr20, ⟨Lc20, hQ20, l20, y20, z20, ct20⟩, st20⟩ := callSS X16 hx (y := yy6) hown (mvT hZ (hi 69 rfl)) (mvT hZ (hi 70 rfl)) (mvT hZ (hi 71 rfl)) (mvT hZ (hi 72 rfl)) (by decide) (backOfSH (W := 0) (rmAp1 l Z a0 hw [] n0 T15.heap Oc15 qqR qqN qqK qqU qqS qqE qqI qqM W b12 b2 oa (1 : Int32) qa ⟨cm, wk15, hc01, Uu15, Dd15⟩ ⟨fa17, fa18, fa19⟩ gx12 gx2) hZ (hi 72 rfl) (hi 71 rfl) (by decide) (by decide) hEL hC15) (g := (mkF m 104 #[vI p0, vI p1, vI p2, vI p3, vI cm, vI oa, vI ob, vI oc, vR b2, vR b5, vR b8, vR b12, vI 1, vI 1] [(.ref b2), (.int oa), (.ref b12)])) rfl (by rw [hml]; rfl) (argsL := [(.ref b12), (.int oa), (.ref b2)]) (rest := []) (lenOf owpd32 rfl) rfl (Nat.le_of_eq rfl) (hb hby at_104) (fun _ _ => ⟨rfl, e16, (by decide : 7 + 15 ≤ _), (by decide : 8278 + 666 ≤ _)⟩)
  dsimp only [Pt.U, Pt.locs, Pt.cells, Pt.slots] at Xw20 hSw20 hgr20 ct20 l20 y20 z20 st20 hQ20
  subst l20 y20 z20
  obtain ⟨X20, hS20, hZ20, hown20⟩ := rebS hS0 (by rw [e16]; exact hkk15) Xw20 hSw20 hgr20 hZ hown
  have hk20 := Nat.le_refl T20.heap.size
  have hC20 := ct20.1
  have cr20 := cr15.trans ct20
  obtain ⟨Nq20, hP20⟩ := hQ20
  have N20 := Fr.app N16 Nq20
  have ee20 : T20.heap = T20.heap := rfl
  obtain ⟨rfl, Oc20, Kc20, Ss20⟩ := hP20
  have Tt20 : owT Z T20.heap qqK qqR qqN b12 (owE oa (1 : Int32)) := Ss20.t
  obtain ⟨_, _, ⟨T21, L21, k21, n21⟩, -, X21, ⟨Lc21, hQ21, l21, y21, z21⟩, st21⟩ := Jvm.LawKit.callS X20 hx (y := yy7) hown20 (mvT hZ20 (hi 90 rfl)) (mvT hZ20 (hi 91 rfl)) (mvT hZ20 (hi 71 rfl)) (mvT hZ20 (hi 92 rfl)) (by decide) (backOf (W := 0) (rmE l Z a0 hw [] n0 T20.heap Oc20 qqR qqN qqK qqU qqS qqE qqI qqM W oa (1 : Int32) qa (Or.inr rfl)) hZ20 (hi 92 rfl) (hi 71 rfl) (by decide) (by decide)) (g := (mkF m 111 #[vI p0, vI p1, vI p2, vI p3, vI cm, vI oa, vI ob, vI oc, vR b2, vR b5, vR b8, vR b12, vI 1, vI 1] [(.int 1), (.int oa)])) rfl (by rw [hml]; rfl) (argsL := [(.int oa), (.int 1)]) (rest := []) (lenOf owpd33 rfl) rfl (Nat.le_of_eq rfl) (hb hby at_111) (fun _ _ => ⟨rfl, ee20, (by decide : 22 + 0 ≤ _), (by decide : 8944 + 0 ≤ _)⟩)
  dsimp only [Pt.U, Pt.locs, Pt.cells, Pt.slots] at X21 l21 y21 z21 st21 hQ21
  subst l21 y21 z21
  obtain ⟨rfl, Nq21, e21⟩ := hQ21
  have N21 := Fr.app N20 Nq21
  obtain ⟨cq22, kq22, q22a, q22b, q22c⟩ := isOf hZ20 e21 (own_TE Tt20)
  obtain ⟨_, _, ⟨T22, L22, k22, n22⟩, -, X22, ⟨Lc22, hQ22, l22, y22, z22⟩, st22⟩ := X21.virtualBack hx (y := yy3) (z := yy3) hown20 (mvT hZ20 (hi 62 rfl)) (mvT hZ20 (hi 63 rfl)) (notFace_of_selects (args := #[]) (mvT hZ20 (hi 65 rfl))) (mvT hZ20 (hi 65 rfl)) (mvT hZ20 (hi 64 rfl)) (by decide) (backOf (W := 0) (rmIs l Z a0 hw [] n0 T20.heap Oc20 qqR qqN qqK qqU qqS qqE qqI qqM W b12 (owE oa (1 : Int32)) Tt20) hZ20 (hi 66 rfl) (hi 50 rfl) (by decide) (by decide)) q22a q22c (g := (mkF m 123 #[vI p0, vI p1, vI p2, vI p3, vI cm, vI oa, vI ob, vI oc, vR b2, vR b5, vR b8, vR b12, .val (.int (owE oa (1 : Int32))), vI 1] [(.ref b12)])) rfl (by rw [hml]; rfl) (Steps.refl _) (argsL := []) (rest := []) (lenOf owpd15 rfl) rfl (Nat.le_of_eq rfl) (hb hby at_123) (fun _ _ => ⟨rfl, e21, (by decide : 22 + 0 ≤ _), (by decide : 8944 + 0 ≤ _)⟩)
  dsimp only [Pt.U, Pt.locs, Pt.cells, Pt.slots] at X22 l22 y22 z22 st22 hQ22
  subst l22 y22 z22
  obtain ⟨rfl, Nq22, e22⟩ := hQ22
  have N22 := Fr.app N21 Nq22
  have fa23 := (((fa14.ext E12).keep Kc15).keep Kc20)
  have fa24 := (((((Uc7.ext E8).keep Kc11 (ninS ne_b5_8 nin0)).ext E12).keep Kc15 (ninS ne_b5_12 nin0)).keep Kc20 (ninS ne_b5_12 nin0))
  have fa25 := (((((Fc7.ext E8).keep Kc11 (ninS ne_b5_8 nin0)).ext E12).keep Kc15 (ninS ne_b5_12 nin0)).keep Kc20 (ninS ne_b5_12 nin0))
  obtain ⟨_, _, ⟨T26, L26, k26, n26⟩, -, Xw26, hSw26, hgr26, ⟨Lc26, hQ26, l26, y26, z26, ct26⟩, st26⟩ := callSS X22 hx (y := yy6) hown20 (mvT hZ20 (hi 69 rfl)) (mvT hZ20 (hi 70 rfl)) (mvT hZ20 (hi 71 rfl)) (mvT hZ20 (hi 72 rfl)) (by decide) (backOfSH (W := 0) (rmAp2 l Z a0 hw [] n0 T20.heap Oc20 qqR qqN qqK qqU qqS qqE qqI qqM W b12 b5 [b2] ob (owE oa (1 : Int32)) qb Ss20 ⟨fa23, fa24, fa25⟩ (allS (P := fun f => f ≠ b5) ne_b2_5 all0) gx12 gx5) hZ20 (hi 72 rfl) (hi 71 rfl) (by decide) (by decide) hEL hC20) (g := (mkF m 144 #[vI p0, vI p1, vI p2, vI p3, vI cm, vI oa, vI ob, vI oc, vR b2, vR b5, vR b8, vR b12, .val (.int (owE oa (1 : Int32))), vI 1] [(.ref b5), (.int ob), (.ref b12)])) rfl (by rw [hml]; rfl) (argsL := [(.ref b12), (.int ob), (.ref b5)]) (rest := []) (lenOf owpd32 rfl) rfl (Nat.le_of_eq rfl) (hb hby at_144) (fun _ _ => ⟨rfl, e22, (by decide : 22 + 15 ≤ _), (by decide : 8944 + 666 ≤ _)⟩)
  dsimp only [Pt.U, Pt.locs, Pt.cells, Pt.slots] at Xw26 hSw26 hgr26 ct26 l26 y26 z26 st26 hQ26
  subst l26 y26 z26
  obtain ⟨X26, hS26, hZ26, hown26⟩ := rebS hS20 (by rw [e22]; exact hk20) Xw26 hSw26 hgr26 hZ20 hown20
  have hk26 := Nat.le_refl T26.heap.size
  have hC26 := ct26.1
  have cr26 := cr20.trans ct26
  obtain ⟨Nq26, hP26⟩ := hQ26
  have N26 := Fr.app N22 Nq26
  have ee26 : T26.heap = T26.heap := rfl
  obtain ⟨rfl, Oc26, Kc26, Ss26⟩ := hP26
  have Tt26 : owT Z T26.heap qqK qqR qqN b12 (owE ob (owE oa (1 : Int32))) := Ss26.t
  obtain ⟨_, _, ⟨T27, L27, k27, n27⟩, -, X27, ⟨Lc27, hQ27, l27, y27, z27⟩, st27⟩ := Jvm.LawKit.callS X26 hx (y := yy7) hown26 (mvT hZ26 (hi 90 rfl)) (mvT hZ26 (hi 91 rfl)) (mvT hZ26 (hi 71 rfl)) (mvT hZ26 (hi 92 rfl)) (by decide) (backOf (W := 0) (rmE l Z a0 hw [] n0 T26.heap Oc26 qqR qqN qqK qqU qqS qqE qqI qqM W ob (owE oa (1 : Int32)) qb (own_E01 (Or.inr rfl))) hZ26 (hi 92 rfl) (hi 71 rfl) (by decide) (by decide)) (g := (mkF m 151 #[vI p0, vI p1, vI p2, vI p3, vI cm, vI oa, vI ob, vI oc, vR b2, vR b5, vR b8, vR b12, .val (.int (owE oa (1 : Int32))), vI 1] [(.int (owE oa (1 : Int32))), (.int ob)])) rfl (by rw [hml]; rfl) (argsL := [(.int ob), (.int (owE oa (1 : Int32)))]) (rest := []) (lenOf owpd33 rfl) rfl (Nat.le_of_eq rfl) (hb hby at_151) (fun _ _ => ⟨rfl, ee26, (by decide : 37 + 0 ≤ _), (by decide : 9610 + 0 ≤ _)⟩)
  dsimp only [Pt.U, Pt.locs, Pt.cells, Pt.slots] at X27 l27 y27 z27 st27 hQ27
  subst l27 y27 z27
  obtain ⟨rfl, Nq27, e27⟩ := hQ27
  have N27 := Fr.app N26 Nq27
  obtain ⟨cq28, kq28, q28a, q28b, q28c⟩ := isOf hZ26 e27 (own_TE Tt26)
  obtain ⟨_, _, ⟨T28, L28, k28, n28⟩, -, X28, ⟨Lc28, hQ28, l28, y28, z28⟩, st28⟩ := X27.virtualBack hx (y := yy3) (z := yy3) hown26 (mvT hZ26 (hi 62 rfl)) (mvT hZ26 (hi 63 rfl)) (notFace_of_selects (args := #[]) (mvT hZ26 (hi 65 rfl))) (mvT hZ26 (hi 65 rfl)) (mvT hZ26 (hi 64 rfl)) (by decide) (backOf (W := 0) (rmIs l Z a0 hw [] n0 T26.heap Oc26 qqR qqN qqK qqU qqS qqE qqI qqM W b12 (owE ob (owE oa (1 : Int32))) Tt26) hZ26 (hi 66 rfl) (hi 50 rfl) (by decide) (by decide)) q28a q28c (g := (mkF m 163 #[vI p0, vI p1, vI p2, vI p3, vI cm, vI oa, vI ob, vI oc, vR b2, vR b5, vR b8, vR b12, .val (.int (owE ob (owE oa (1 : Int32)))), vI 1] [(.ref b12)])) rfl (by rw [hml]; rfl) (Steps.refl _) (argsL := []) (rest := []) (lenOf owpd15 rfl) rfl (Nat.le_of_eq rfl) (hb hby at_163) (fun _ _ => ⟨rfl, e27, (by decide : 37 + 0 ≤ _), (by decide : 9610 + 0 ≤ _)⟩)
  dsimp only [Pt.U, Pt.locs, Pt.cells, Pt.slots] at X28 l28 y28 z28 st28 hQ28
  subst l28 y28 z28
  obtain ⟨rfl, Nq28, e28⟩ := hQ28
  have N28 := Fr.app N27 Nq28
  have fa29 := ((((Ec11.ext E12).keep Kc15).keep Kc20).keep Kc26)
  have fa30 := ((((Uc11.ext E12).keep Kc15 (ninS ne_b8_12 nin0)).keep Kc20 (ninS ne_b8_12 nin0)).keep Kc26 (ninS ne_b8_12 (ninS (Ne.symm ne_b2_8) nin0)))
  have fa31 := ((((Fc11.ext E12).keep Kc15 (ninS ne_b8_12 nin0)).keep Kc20 (ninS ne_b8_12 nin0)).keep Kc26 (ninS ne_b8_12 (ninS (Ne.symm ne_b2_8) nin0)))
  obtain ⟨_, _, ⟨T32, L32, k32, n32⟩, -, Xw32, hSw32, hgr32, ⟨Lc32, hQ32, l32, y32, z32, ct32⟩, st32⟩ := callSS X28 hx (y := yy6) hown26 (mvT hZ26 (hi 69 rfl)) (mvT hZ26 (hi 70 rfl)) (mvT hZ26 (hi 71 rfl)) (mvT hZ26 (hi 72 rfl)) (by decide) (backOfSH (W := 0) (rmAp3 l Z a0 hw [] n0 T26.heap Oc26 qqR qqN qqK qqU qqS qqE qqI qqM W b12 b8 [b5, b2] oc (owE ob (owE oa (1 : Int32))) qc Ss26 ⟨fa29, fa30, fa31⟩ (allS (P := fun f => f ≠ b8) ne_b5_8 (allS (P := fun f => f ≠ b8) ne_b2_8 all0)) gx12 gx8) hZ26 (hi 72 rfl) (hi 71 rfl) (by decide) (by decide) hEL hC26) (g := (mkF m 184 #[vI p0, vI p1, vI p2, vI p3, vI cm, vI oa, vI ob, vI oc, vR b2, vR b5, vR b8, vR b12, .val (.int (owE ob (owE oa (1 : Int32)))), vI 1] [(.ref b8), (.int oc), (.ref b12)])) rfl (by rw [hml]; rfl) (argsL := [(.ref b12), (.int oc), (.ref b8)]) (rest := []) (lenOf owpd32 rfl) rfl (Nat.le_of_eq rfl) (hb hby at_184) (fun _ _ => ⟨rfl, e28, (by decide : 37 + 15 ≤ _), (by decide : 9610 + 666 ≤ _)⟩)
  dsimp only [Pt.U, Pt.locs, Pt.cells, Pt.slots] at Xw32 hSw32 hgr32 ct32 l32 y32 z32 st32 hQ32
  subst l32 y32 z32
  obtain ⟨X32, hS32, hZ32, hown32⟩ := rebS hS26 (by rw [e28]; exact hk26) Xw32 hSw32 hgr32 hZ26 hown26
  have hk32 := Nat.le_refl T32.heap.size
  have hC32 := ct32.1
  have cr32 := cr26.trans ct32
  obtain ⟨Nq32, hP32⟩ := hQ32
  have N32 := Fr.app N28 Nq32
  have ee32 : T32.heap = T32.heap := rfl
  obtain ⟨rfl, Oc32, Ss32⟩ := hP32
  have Tt32 : owT Z T32.heap qqK qqR qqN b12 (owE oc (owE ob (owE oa (1 : Int32)))) := Ss32
  obtain ⟨_, _, ⟨T33, L33, k33, n33⟩, -, X33, ⟨Lc33, hQ33, l33, y33, z33⟩, st33⟩ := Jvm.LawKit.callS X32 hx (y := yy7) hown32 (mvT hZ32 (hi 90 rfl)) (mvT hZ32 (hi 91 rfl)) (mvT hZ32 (hi 71 rfl)) (mvT hZ32 (hi 92 rfl)) (by decide) (backOf (W := 0) (rmE l Z a0 hw [] n0 T32.heap Oc32 qqR qqN qqK qqU qqS qqE qqI qqM W oc (owE ob (owE oa (1 : Int32))) qc (own_E01 (own_E01 (Or.inr rfl)))) hZ32 (hi 92 rfl) (hi 71 rfl) (by decide) (by decide)) (g := (mkF m 191 #[vI p0, vI p1, vI p2, vI p3, vI cm, vI oa, vI ob, vI oc, vR b2, vR b5, vR b8, vR b12, .val (.int (owE ob (owE oa (1 : Int32)))), vI 1] [(.int (owE ob (owE oa (1 : Int32)))), (.int oc)])) rfl (by rw [hml]; rfl) (argsL := [(.int oc), (.int (owE ob (owE oa (1 : Int32))))]) (rest := []) (lenOf owpd33 rfl) rfl (Nat.le_of_eq rfl) (hb hby at_191) (fun _ _ => ⟨rfl, ee32, (by decide : 52 + 0 ≤ _), (by decide : 10276 + 0 ≤ _)⟩)
  dsimp only [Pt.U, Pt.locs, Pt.cells, Pt.slots] at X33 l33 y33 z33 st33 hQ33
  subst l33 y33 z33
  obtain ⟨rfl, Nq33, e33⟩ := hQ33
  have N33 := Fr.app N32 Nq33
  obtain ⟨cq34, kq34, q34a, q34b, q34c⟩ := isOf hZ32 e33 (own_TE Tt32)
  obtain ⟨_, _, ⟨T34, L34, k34, n34⟩, -, X34, ⟨Lc34, hQ34, l34, y34, z34⟩, st34⟩ := X33.virtualBack hx (y := yy3) (z := yy3) hown32 (mvT hZ32 (hi 62 rfl)) (mvT hZ32 (hi 63 rfl)) (notFace_of_selects (args := #[]) (mvT hZ32 (hi 65 rfl))) (mvT hZ32 (hi 65 rfl)) (mvT hZ32 (hi 64 rfl)) (by decide) (backOf (W := 0) (rmIs l Z a0 hw [] n0 T32.heap Oc32 qqR qqN qqK qqU qqS qqE qqI qqM W b12 (owE oc (owE ob (owE oa (1 : Int32)))) Tt32) hZ32 (hi 66 rfl) (hi 50 rfl) (by decide) (by decide)) q34a q34c (g := (mkF m 203 #[vI p0, vI p1, vI p2, vI p3, vI cm, vI oa, vI ob, vI oc, vR b2, vR b5, vR b8, vR b12, .val (.int (owE oc (owE ob (owE oa (1 : Int32))))), vI 1] [(.ref b12)])) rfl (by rw [hml]; rfl) (Steps.refl _) (argsL := []) (rest := []) (lenOf owpd15 rfl) rfl (Nat.le_of_eq rfl) (hb hby at_203) (fun _ _ => ⟨rfl, e33, (by decide : 52 + 0 ≤ _), (by decide : 10276 + 0 ≤ _)⟩)
  dsimp only [Pt.U, Pt.locs, Pt.cells, Pt.slots] at X34 l34 y34 z34 st34 hQ34
  subst l34 y34 z34
  obtain ⟨rfl, Nq34, e34⟩ := hQ34
  have N34 := Fr.app N33 Nq34
  obtain ⟨fs, hr, hrun, hended, hend⟩ := X34.leaveW hS32 (by rw [e34]; exact hk32) (v := some (.int 1)) (fun h => by rw [Bd.returns] at h; cases h)
  refine ⟨_, _, castTop ef ?_, hrun, hended, _, _, rfl, ?_, ?_, hend.1, hend.2.1, hend.2.2.1, hend.2.2.2.mono (by decide) (by decide)⟩
  · show OwG p e below s₁ m 0 #[vI p0, vI p1, vI p2, vI p3, .unset, .unset, .unset, .unset, .unset, .unset, .unset, .unset, .unset, .unset] [] _
    refine XS.iloadN Y0.here hx rfl (hb hby at_0) rfl ?_
    refine XS.iconst Y0.here hx rfl (hb hby at_1) ?_
    refine XS.iand Y0.here hx rfl (hb hby at_2) rfl ?_
    show OwG p e below s₁ m 3 #[vI p0, vI p1, vI p2, vI p3, .unset, .unset, .unset, .unset, .unset, .unset, .unset, .unset, .unset, .unset] [(.int (p0 &&& (1 : Int32)))] _
    refine sg1 _ ?_
    show OwG p e below s₁ m 11 #[vI p0, vI p1, vI p2, vI p3, .unset, .unset, .unset, .unset, .unset, .unset, .unset, .unset, .unset, .unset] [(.int (if (p0 &&& (1 : Int32)) = (0 : Int32) then (0 : Int32) else (1 : Int32)))] _
    rw [hcm]
    show OwG p e below s₁ m 11 #[vI p0, vI p1, vI p2, vI p3, .unset, .unset, .unset, .unset, .unset, .unset, .unset, .unset, .unset, .unset] [(.int cm)] _
    refine XS.istore Y0.here hx rfl (hb hby at_11) rfl (l' := #[vI p0, vI p1, vI p2, vI p3, vI cm, .unset, .unset, .unset, .unset, .unset, .unset, .unset, .unset, .unset]) rfl ?_
    refine XS.iloadN Y0.here hx rfl (hb hby at_13) rfl ?_
    show OwG p e below s₁ m 14 #[vI p0, vI p1, vI p2, vI p3, vI cm, .unset, .unset, .unset, .unset, .unset, .unset, .unset, .unset, .unset] [(.int p1)] _
    refine Y0.ldcInt hx hown (mvT hZ (hi 0 rfl)) (g := (mkF m 14 #[vI p0, vI p1, vI p2, vI p3, vI cm, .unset, .unset, .unset, .unset, .unset, .unset, .unset, .unset, .unset] [(.int p1)])) rfl (hb hby at_14) _ ?_
    show OwG p e below s₁ m 16 #[vI p0, vI p1, vI p2, vI p3, vI cm, .unset, .unset, .unset, .unset, .unset, .unset, .unset, .unset, .unset] [(.int 2147483647), (.int p1)] _
    refine XS.iand Y0.here hx rfl (hb hby at_16) rfl ?_
    refine XS.bipush Y0.here hx rfl (hb hby at_17) ?_
    show OwG p e below s₁ m 19 #[vI p0, vI p1, vI p2, vI p3, vI cm, .unset, .unset, .unset, .unset, .unset, .unset, .unset, .unset, .unset] [(.int 6), (.int (p1 &&& (2147483647 : Int32)))] _
    refine iremM Y0 hx rfl (hb hby at_19) rfl (by decide) ?_
    show OwG p e below s₁ m 20 #[vI p0, vI p1, vI p2, vI p3, vI cm, .unset, .unset, .unset, .unset, .unset, .unset, .unset, .unset, .unset] [(.int ((p1 &&& (2147483647 : Int32)) % (6 : Int32)))] _
    rw [hoa]
    show OwG p e below s₁ m 20 #[vI p0, vI p1, vI p2, vI p3, vI cm, .unset, .unset, .unset, .unset, .unset, .unset, .unset, .unset, .unset] [(.int oa)] _
    refine XS.istore Y0.here hx rfl (hb hby at_20) rfl (l' := #[vI p0, vI p1, vI p2, vI p3, vI cm, vI oa, .unset, .unset, .unset, .unset, .unset, .unset, .unset, .unset]) rfl ?_
    refine XS.iloadN Y0.here hx rfl (hb hby at_22) rfl ?_
    show OwG p e below s₁ m 23 #[vI p0, vI p1, vI p2, vI p3, vI cm, vI oa, .unset, .unset, .unset, .unset, .unset, .unset, .unset, .unset] [(.int p2)] _
    refine Y0.ldcInt hx hown (mvT hZ (hi 0 rfl)) (g := (mkF m 23 #[vI p0, vI p1, vI p2, vI p3, vI cm, vI oa, .unset, .unset, .unset, .unset, .unset, .unset, .unset, .unset] [(.int p2)])) rfl (hb hby at_23) _ ?_
    show OwG p e below s₁ m 25 #[vI p0, vI p1, vI p2, vI p3, vI cm, vI oa, .unset, .unset, .unset, .unset, .unset, .unset, .unset, .unset] [(.int 2147483647), (.int p2)] _
    refine XS.iand Y0.here hx rfl (hb hby at_25) rfl ?_
    refine XS.bipush Y0.here hx rfl (hb hby at_26) ?_
    show OwG p e below s₁ m 28 #[vI p0, vI p1, vI p2, vI p3, vI cm, vI oa, .unset, .unset, .unset, .unset, .unset, .unset, .unset, .unset] [(.int 6), (.int (p2 &&& (2147483647 : Int32)))] _
    refine iremM Y0 hx rfl (hb hby at_28) rfl (by decide) ?_
    show OwG p e below s₁ m 29 #[vI p0, vI p1, vI p2, vI p3, vI cm, vI oa, .unset, .unset, .unset, .unset, .unset, .unset, .unset, .unset] [(.int ((p2 &&& (2147483647 : Int32)) % (6 : Int32)))] _
    rw [hob]
    show OwG p e below s₁ m 29 #[vI p0, vI p1, vI p2, vI p3, vI cm, vI oa, .unset, .unset, .unset, .unset, .unset, .unset, .unset, .unset] [(.int ob)] _
    refine XS.istore Y0.here hx rfl (hb hby at_29) rfl (l' := #[vI p0, vI p1, vI p2, vI p3, vI cm, vI oa, vI ob, .unset, .unset, .unset, .unset, .unset, .unset, .unset]) rfl ?_
    refine XS.iloadN Y0.here hx rfl (hb hby at_31) rfl ?_
    show OwG p e below s₁ m 32 #[vI p0, vI p1, vI p2, vI p3, vI cm, vI oa, vI ob, .unset, .unset, .unset, .unset, .unset, .unset, .unset] [(.int p3)] _
    refine Y0.ldcInt hx hown (mvT hZ (hi 0 rfl)) (g := (mkF m 32 #[vI p0, vI p1, vI p2, vI p3, vI cm, vI oa, vI ob, .unset, .unset, .unset, .unset, .unset, .unset, .unset] [(.int p3)])) rfl (hb hby at_32) _ ?_
    show OwG p e below s₁ m 34 #[vI p0, vI p1, vI p2, vI p3, vI cm, vI oa, vI ob, .unset, .unset, .unset, .unset, .unset, .unset, .unset] [(.int 2147483647), (.int p3)] _
    refine XS.iand Y0.here hx rfl (hb hby at_34) rfl ?_
    refine XS.bipush Y0.here hx rfl (hb hby at_35) ?_
    show OwG p e below s₁ m 37 #[vI p0, vI p1, vI p2, vI p3, vI cm, vI oa, vI ob, .unset, .unset, .unset, .unset, .unset, .unset, .unset] [(.int 6), (.int (p3 &&& (2147483647 : Int32)))] _
    refine iremM Y0 hx rfl (hb hby at_37) rfl (by decide) ?_
    show OwG p e below s₁ m 38 #[vI p0, vI p1, vI p2, vI p3, vI cm, vI oa, vI ob, .unset, .unset, .unset, .unset, .unset, .unset, .unset] [(.int ((p3 &&& (2147483647 : Int32)) % (6 : Int32)))] _
    rw [hoc]
    show OwG p e below s₁ m 38 #[vI p0, vI p1, vI p2, vI p3, vI cm, vI oa, vI ob, .unset, .unset, .unset, .unset, .unset, .unset, .unset] [(.int oc)] _
    refine XS.istore Y0.here hx rfl (hb hby at_38) rfl (l' := #[vI p0, vI p1, vI p2, vI p3, vI cm, vI oa, vI ob, vI oc, .unset, .unset, .unset, .unset, .unset, .unset]) rfl ?_
    show OwG p e below s₁ m 40 #[vI p0, vI p1, vI p2, vI p3, vI cm, vI oa, vI ob, vI oc, .unset, .unset, .unset, .unset, .unset, .unset] [] _
    refine st2 _ ?_
    show OwG p e below T2 m 43 #[vI p0, vI p1, vI p2, vI p3, vI cm, vI oa, vI ob, vI oc, .unset, .unset, .unset, .unset, .unset, .unset] [(.ref b2)] _
    refine XS.dup X2.here hx rfl (hb hby at_43) rfl rfl ?_
    show OwG p e below T2 m 44 #[vI p0, vI p1, vI p2, vI p3, vI cm, vI oa, vI ob, vI oc, .unset, .unset, .unset, .unset, .unset, .unset] [(.ref b2), (.ref b2)] _
    refine st4.trans ?_
    show OwG p e below T4 m 47 #[vI p0, vI p1, vI p2, vI p3, vI cm, vI oa, vI ob, vI oc, .unset, .unset, .unset, .unset, .unset, .unset] [(.ref b2)] _
    refine XS.astore X4.here hx rfl (hb hby at_47) rfl rfl (l' := #[vI p0, vI p1, vI p2, vI p3, vI cm, vI oa, vI ob, vI oc, vR b2, .unset, .unset, .unset, .unset, .unset]) rfl ?_
    show OwG p e below T4 m 49 #[vI p0, vI p1, vI p2, vI p3, vI cm, vI oa, vI ob, vI oc, vR b2, .unset, .unset, .unset, .unset, .unset] [] _
    refine st5 _ ?_
    show OwG p e below T5 m 52 #[vI p0, vI p1, vI p2, vI p3, vI cm, vI oa, vI ob, vI oc, vR b2, .unset, .unset, .unset, .unset, .unset] [(.ref b5)] _
    refine XS.dup X5.here hx rfl (hb hby at_52) rfl rfl ?_
    show OwG p e below T5 m 53 #[vI p0, vI p1, vI p2, vI p3, vI cm, vI oa, vI ob, vI oc, vR b2, .unset, .unset, .unset, .unset, .unset] [(.ref b5), (.ref b5)] _
    refine st7.trans ?_
    show OwG p e below T7 m 56 #[vI p0, vI p1, vI p2, vI p3, vI cm, vI oa, vI ob, vI oc, vR b2, .unset, .unset, .unset, .unset, .unset] [(.ref b5)] _
    refine XS.astore X7.here hx rfl (hb hby at_56) rfl rfl (l' := #[vI p0, vI p1, vI p2, vI p3, vI cm, vI oa, vI ob, vI oc, vR b2, vR b5, .unset, .unset, .unset, .unset]) rfl ?_
    show OwG p e below T7 m 58 #[vI p0, vI p1, vI p2, vI p3, vI cm, vI oa, vI ob, vI oc, vR b2, vR b5, .unset, .unset, .unset, .unset] [] _
    refine st8 _ ?_
    show OwG p e below T8 m 61 #[vI p0, vI p1, vI p2, vI p3, vI cm, vI oa, vI ob, vI oc, vR b2, vR b5, .unset, .unset, .unset, .unset] [(.ref b8)] _
    refine XS.dup X8.here hx rfl (hb hby at_61) rfl rfl ?_
    show OwG p e below T8 m 62 #[vI p0, vI p1, vI p2, vI p3, vI cm, vI oa, vI ob, vI oc, vR b2, vR b5, .unset, .unset, .unset, .unset] [(.ref b8), (.ref b8)] _
    refine st11.trans ?_
    show OwG p e below T11 m 65 #[vI p0, vI p1, vI p2, vI p3, vI cm, vI oa, vI ob, vI oc, vR b2, vR b5, .unset, .unset, .unset, .unset] [(.ref b8)] _
    refine XS.astore X11.here hx rfl (hb hby at_65) rfl rfl (l' := #[vI p0, vI p1, vI p2, vI p3, vI cm, vI oa, vI ob, vI oc, vR b2, vR b5, vR b8, .unset, .unset, .unset]) rfl ?_
    show OwG p e below T11 m 67 #[vI p0, vI p1, vI p2, vI p3, vI cm, vI oa, vI ob, vI oc, vR b2, vR b5, vR b8, .unset, .unset, .unset] [] _
    refine st12 _ ?_
    show OwG p e below T12 m 70 #[vI p0, vI p1, vI p2, vI p3, vI cm, vI oa, vI ob, vI oc, vR b2, vR b5, vR b8, .unset, .unset, .unset] [(.ref b12)] _
    refine XS.dup X12.here hx rfl (hb hby at_70) rfl rfl ?_
    refine XS.iload X12.here hx rfl (hb hby at_71) rfl ?_
    show OwG p e below T12 m 73 #[vI p0, vI p1, vI p2, vI p3, vI cm, vI oa, vI ob, vI oc, vR b2, vR b5, vR b8, .unset, .unset, .unset] [(.int cm), (.ref b12), (.ref b12)] _
    refine st15.trans ?_
    show OwG p e below T15 m 76 #[vI p0, vI p1, vI p2, vI p3, vI cm, vI oa, vI ob, vI oc, vR b2, vR b5, vR b8, .unset, .unset, .unset] [(.ref b12)] _
    refine XS.astore X15.here hx rfl (hb hby at_76) rfl rfl (l' := #[vI p0, vI p1, vI p2, vI p3, vI cm, vI oa, vI ob, vI oc, vR b2, vR b5, vR b8, vR b12, .unset, .unset]) rfl ?_
    refine XS.iconst X15.here hx rfl (hb hby at_78) ?_
    refine XS.istore X15.here hx rfl (hb hby at_79) rfl (l' := #[vI p0, vI p1, vI p2, vI p3, vI cm, vI oa, vI ob, vI oc, vR b2, vR b5, vR b8, vR b12, vI 1, .unset]) rfl ?_
    refine XS.aload X15.here hx rfl (hb hby at_81) rfl rfl ?_
    show OwG p e below T15 m 83 #[vI p0, vI p1, vI p2, vI p3, vI cm, vI oa, vI ob, vI oc, vR b2, vR b5, vR b8, vR b12, vI 1, .unset] [(.ref b12)] _
    refine st16.trans ?_
    show OwG p e below T16 m 86 #[vI p0, vI p1, vI p2, vI p3, vI cm, vI oa, vI ob, vI oc, vR b2, vR b5, vR b8, vR b12, vI 1, .unset] [(.int 1)] _
    refine XS.iload X16.here hx rfl (hb hby at_86) rfl ?_
    refine XS.icmpNo X16.here hx rfl (hb hby at_88) rfl (teq (by decide : (1 : Int32) = (1 : Int32))).2 ?_
    refine XS.iconst X16.here hx rfl (hb hby at_91) ?_
    refine XS.goto X16.here hx rfl (pc0 := 92) (pc' := 96) rfl (hb hby at_92) (by decide) (by decide) ?_
    refine XS.istore X16.here hx rfl (hb hby at_96) rfl (l' := #[vI p0, vI p1, vI p2, vI p3, vI cm, vI oa, vI ob, vI oc, vR b2, vR b5, vR b8, vR b12, vI 1, vI 1]) rfl ?_
    refine XS.aload X16.here hx rfl (hb hby at_98) rfl rfl ?_
    show OwG p e below T16 m 100 #[vI p0, vI p1, vI p2, vI p3, vI cm, vI oa, vI ob, vI oc, vR b2, vR b5, vR b8, vR b12, vI 1, vI 1] [(.ref b12)] _
    refine XS.iload X16.here hx rfl (hb hby at_100) rfl ?_
    refine XS.aload X16.here hx rfl (hb hby at_102) rfl rfl ?_
    show OwG p e below T16 m 104 #[vI p0, vI p1, vI p2, vI p3, vI cm, vI oa, vI ob, vI oc, vR b2, vR b5, vR b8, vR b12, vI 1, vI 1] [(.ref b2), (.int oa), (.ref b12)] _
    refine st20.trans ?_
    show OwG p e below T20 m 107 #[vI p0, vI p1, vI p2, vI p3, vI cm, vI oa, vI ob, vI oc, vR b2, vR b5, vR b8, vR b12, vI 1, vI 1] [] _
    refine XS.iload X20.here hx rfl (hb hby at_107) rfl ?_
    refine XS.iload X20.here hx rfl (hb hby at_109) rfl ?_
    show OwG p e below T20 m 111 #[vI p0, vI p1, vI p2, vI p3, vI cm, vI oa, vI ob, vI oc, vR b2, vR b5, vR b8, vR b12, vI 1, vI 1] [(.int 1), (.int oa)] _
    refine st21 _ ?_
    show OwG p e below T21 m 114 #[vI p0, vI p1, vI p2, vI p3, vI cm, vI oa, vI ob, vI oc, vR b2, vR b5, vR b8, vR b12, vI 1, vI 1] [(.int (owE oa (1 : Int32)))] _
    refine XS.istore X21.here hx rfl (hb hby at_114) rfl (l' := #[vI p0, vI p1, vI p2, vI p3, vI cm, vI oa, vI ob, vI oc, vR b2, vR b5, vR b8, vR b12, .val (.int (owE oa (1 : Int32))), vI 1]) rfl ?_
    refine XS.iload X21.here hx rfl (hb hby at_116) rfl ?_
    refine XS.ifNo X21.here hx rfl (hb hby at_118) rfl ((if0 _ _).trans (feq (by decide : ¬ ((1 : Int32) = (0 : Int32)))).1) ?_
    refine XS.aload X21.here hx rfl (hb hby at_121) rfl rfl ?_
    show OwG p e below T21 m 123 #[vI p0, vI p1, vI p2, vI p3, vI cm, vI oa, vI ob, vI oc, vR b2, vR b5, vR b8, vR b12, .val (.int (owE oa (1 : Int32))), vI 1] [(.ref b12)] _
    refine st22.trans ?_
    show OwG p e below T22 m 126 #[vI p0, vI p1, vI p2, vI p3, vI cm, vI oa, vI ob, vI oc, vR b2, vR b5, vR b8, vR b12, .val (.int (owE oa (1 : Int32))), vI 1] [(.int (owE oa (1 : Int32)))] _
    refine XS.iload X22.here hx rfl (hb hby at_126) rfl ?_
    refine XS.icmpNo X22.here hx rfl (hb hby at_128) rfl (teq (rfl : (owE oa (1 : Int32)) = (owE oa (1 : Int32)))).2 ?_
    refine XS.iconst X22.here hx rfl (hb hby at_131) ?_
    refine XS.goto X22.here hx rfl (pc0 := 132) (pc' := 136) rfl (hb hby at_132) (by decide) (by decide) ?_
    refine XS.istore X22.here hx rfl (hb hby at_136) rfl (l' := #[vI p0, vI p1, vI p2, vI p3, vI cm, vI oa, vI ob, vI oc, vR b2, vR b5, vR b8, vR b12, .val (.int (owE oa (1 : Int32))), vI 1]) rfl ?_
    refine XS.aload X22.here hx rfl (hb hby at_138) rfl rfl ?_
    show OwG p e below T22 m 140 #[vI p0, vI p1, vI p2, vI p3, vI cm, vI oa, vI ob, vI oc, vR b2, vR b5, vR b8, vR b12, .val (.int (owE oa (1 : Int32))), vI 1] [(.ref b12)] _
    refine XS.iload X22.here hx rfl (hb hby at_140) rfl ?_
    refine XS.aload X22.here hx rfl (hb hby at_142) rfl rfl ?_
    show OwG p e below T22 m 144 #[vI p0, vI p1, vI p2, vI p3, vI cm, vI oa, vI ob, vI oc, vR b2, vR b5, vR b8, vR b12, .val (.int (owE oa (1 : Int32))), vI 1] [(.ref b5), (.int ob), (.ref b12)] _
    refine st26.trans ?_
    show OwG p e below T26 m 147 #[vI p0, vI p1, vI p2, vI p3, vI cm, vI oa, vI ob, vI oc, vR b2, vR b5, vR b8, vR b12, .val (.int (owE oa (1 : Int32))), vI 1] [] _
    refine XS.iload X26.here hx rfl (hb hby at_147) rfl ?_
    refine XS.iload X26.here hx rfl (hb hby at_149) rfl ?_
    show OwG p e below T26 m 151 #[vI p0, vI p1, vI p2, vI p3, vI cm, vI oa, vI ob, vI oc, vR b2, vR b5, vR b8, vR b12, .val (.int (owE oa (1 : Int32))), vI 1] [(.int (owE oa (1 : Int32))), (.int ob)] _
    refine st27 _ ?_
    show OwG p e below T27 m 154 #[vI p0, vI p1, vI p2, vI p3, vI cm, vI oa, vI ob, vI oc, vR b2, vR b5, vR b8, vR b12, .val (.int (owE oa (1 : Int32))), vI 1] [(.int (owE ob (owE oa (1 : Int32))))] _
    refine XS.istore X27.here hx rfl (hb hby at_154) rfl (l' := #[vI p0, vI p1, vI p2, vI p3, vI cm, vI oa, vI ob, vI oc, vR b2, vR b5, vR b8, vR b12, .val (.int (owE ob (owE oa (1 : Int32)))), vI 1]) rfl ?_
    refine XS.iload X27.here hx rfl (hb hby at_156) rfl ?_
    refine XS.ifNo X27.here hx rfl (hb hby at_158) rfl ((if0 _ _).trans (feq (by decide : ¬ ((1 : Int32) = (0 : Int32)))).1) ?_
    refine XS.aload X27.here hx rfl (hb hby at_161) rfl rfl ?_
    show OwG p e below T27 m 163 #[vI p0, vI p1, vI p2, vI p3, vI cm, vI oa, vI ob, vI oc, vR b2, vR b5, vR b8, vR b12, .val (.int (owE ob (owE oa (1 : Int32)))), vI 1] [(.ref b12)] _
    refine st28.trans ?_
    show OwG p e below T28 m 166 #[vI p0, vI p1, vI p2, vI p3, vI cm, vI oa, vI ob, vI oc, vR b2, vR b5, vR b8, vR b12, .val (.int (owE ob (owE oa (1 : Int32)))), vI 1] [(.int (owE ob (owE oa (1 : Int32))))] _
    refine XS.iload X28.here hx rfl (hb hby at_166) rfl ?_
    refine XS.icmpNo X28.here hx rfl (hb hby at_168) rfl (teq (rfl : (owE ob (owE oa (1 : Int32))) = (owE ob (owE oa (1 : Int32))))).2 ?_
    refine XS.iconst X28.here hx rfl (hb hby at_171) ?_
    refine XS.goto X28.here hx rfl (pc0 := 172) (pc' := 176) rfl (hb hby at_172) (by decide) (by decide) ?_
    refine XS.istore X28.here hx rfl (hb hby at_176) rfl (l' := #[vI p0, vI p1, vI p2, vI p3, vI cm, vI oa, vI ob, vI oc, vR b2, vR b5, vR b8, vR b12, .val (.int (owE ob (owE oa (1 : Int32)))), vI 1]) rfl ?_
    refine XS.aload X28.here hx rfl (hb hby at_178) rfl rfl ?_
    show OwG p e below T28 m 180 #[vI p0, vI p1, vI p2, vI p3, vI cm, vI oa, vI ob, vI oc, vR b2, vR b5, vR b8, vR b12, .val (.int (owE ob (owE oa (1 : Int32)))), vI 1] [(.ref b12)] _
    refine XS.iload X28.here hx rfl (hb hby at_180) rfl ?_
    refine XS.aload X28.here hx rfl (hb hby at_182) rfl rfl ?_
    show OwG p e below T28 m 184 #[vI p0, vI p1, vI p2, vI p3, vI cm, vI oa, vI ob, vI oc, vR b2, vR b5, vR b8, vR b12, .val (.int (owE ob (owE oa (1 : Int32)))), vI 1] [(.ref b8), (.int oc), (.ref b12)] _
    refine st32.trans ?_
    show OwG p e below T32 m 187 #[vI p0, vI p1, vI p2, vI p3, vI cm, vI oa, vI ob, vI oc, vR b2, vR b5, vR b8, vR b12, .val (.int (owE ob (owE oa (1 : Int32)))), vI 1] [] _
    refine XS.iload X32.here hx rfl (hb hby at_187) rfl ?_
    refine XS.iload X32.here hx rfl (hb hby at_189) rfl ?_
    show OwG p e below T32 m 191 #[vI p0, vI p1, vI p2, vI p3, vI cm, vI oa, vI ob, vI oc, vR b2, vR b5, vR b8, vR b12, .val (.int (owE ob (owE oa (1 : Int32)))), vI 1] [(.int (owE ob (owE oa (1 : Int32)))), (.int oc)] _
    refine st33 _ ?_
    show OwG p e below T33 m 194 #[vI p0, vI p1, vI p2, vI p3, vI cm, vI oa, vI ob, vI oc, vR b2, vR b5, vR b8, vR b12, .val (.int (owE ob (owE oa (1 : Int32)))), vI 1] [(.int (owE oc (owE ob (owE oa (1 : Int32)))))] _
    refine XS.istore X33.here hx rfl (hb hby at_194) rfl (l' := #[vI p0, vI p1, vI p2, vI p3, vI cm, vI oa, vI ob, vI oc, vR b2, vR b5, vR b8, vR b12, .val (.int (owE oc (owE ob (owE oa (1 : Int32))))), vI 1]) rfl ?_
    refine XS.iload X33.here hx rfl (hb hby at_196) rfl ?_
    refine XS.ifNo X33.here hx rfl (hb hby at_198) rfl ((if0 _ _).trans (feq (by decide : ¬ ((1 : Int32) = (0 : Int32)))).1) ?_
    refine XS.aload X33.here hx rfl (hb hby at_201) rfl rfl ?_
    show OwG p e below T33 m 203 #[vI p0, vI p1, vI p2, vI p3, vI cm, vI oa, vI ob, vI oc, vR b2, vR b5, vR b8, vR b12, .val (.int (owE oc (owE ob (owE oa (1 : Int32))))), vI 1] [(.ref b12)] _
    refine st34.trans ?_
    show OwG p e below T34 m 206 #[vI p0, vI p1, vI p2, vI p3, vI cm, vI oa, vI ob, vI oc, vR b2, vR b5, vR b8, vR b12, .val (.int (owE oc (owE ob (owE oa (1 : Int32))))), vI 1] [(.int (owE oc (owE ob (owE oa (1 : Int32)))))] _
    refine XS.iload X34.here hx rfl (hb hby at_206) rfl ?_
    refine XS.icmpNo X34.here hx rfl (hb hby at_208) rfl (teq (rfl : (owE oc (owE ob (owE oa (1 : Int32)))) = (owE oc (owE ob (owE oa (1 : Int32)))))).2 ?_
    refine XS.iconst X34.here hx rfl (hb hby at_211) ?_
    refine XS.goto X34.here hx rfl (pc0 := 212) (pc' := 216) rfl (hb hby at_212) (by decide) (by decide) ?_
    refine XS.istore X34.here hx rfl (hb hby at_216) rfl (l' := #[vI p0, vI p1, vI p2, vI p3, vI cm, vI oa, vI ob, vI oc, vR b2, vR b5, vR b8, vR b12, .val (.int (owE oc (owE ob (owE oa (1 : Int32))))), vI 1]) rfl ?_
    refine XS.iload X34.here hx rfl (hb hby at_218) rfl ?_
    show OwG p e below T34 m 220 #[vI p0, vI p1, vI p2, vI p3, vI cm, vI oa, vI ob, vI oc, vR b2, vR b5, vR b8, vR b12, .val (.int (owE oc (owE ob (owE oa (1 : Int32))))), vI 1] [(.int 1)] _
    exact retN X34 hx (t := .boolean) Bd.returns (by simp) (hb hby at_220) hr
  · have eF : (T34.setFrames fs).heap = T32.heap := e34
    exact ⟨N34, rfl⟩
  · have eF : (T34.setFrames fs).heap = T32.heap := e34
    have crF := cr32.trans (CHv.at X34 hZ32 hEL hC32)
    rw [hh, eF]
    exact crF
set_option maxRecDepth 65536 in
set_option maxHeartbeats 40000000 in
theorem comes_1 {Post : Tables → Env → Array Value → State → Outcome → State → Prop} (hpost : ∀ tb e args s v u, (limb_1_1.after args s (.returned v) u = true ∧ limb_1_2.after args s (.returned v) u = true ∧ True) → ReturnedEndW s (.returned v) u (Jvm.fieldLocs frame_1_writes args s ++ Jvm.arrayLocs frame_1_arrays args s ++ Jvm.staticLocs frame_1_statics s) 64 27648 → Post tb e args s (.returned v) u) :
    ArmFor flags0 classFile x code maxLocals ret World_1 tables_1 room_1 Calls_1 rest_1 Pre_1 Post := by
  intro l hfl _ _ p e ha hc hk s m args below hf hA hF happ hP
  obtain ⟨hcalls, hrest, hpre⟩ := hP
  obtain ⟨-, -, -, hnamed, -, -, -, hat⟩ := (Spec.applies_iff hf).mp happ
  obtain ⟨hg, hn⟩ := and_e (Cond.before_iff.mp (show (Jvm.Cond.and given_1 narrow_1).before args s = true from hpre))
  obtain ⟨ga1, gb1⟩ := and_e hg
  obtain ⟨ga2, gb2⟩ := and_e gb1
  obtain ⟨ga3, gb3⟩ := and_e gb2
  obtain ⟨ga4, gb4⟩ := and_e gb3
  obtain ⟨w0, w1, w2, w3, rfl⟩ : ∃ w0 w1 w2 w3 : Value, args = #[w0, w1, w2, w3] := by
    have hs : args.size = 4 := by simpa [Cond.value, given_1] using ga1
    obtain ⟨L⟩ := args
    match L, hs with
    | [w0, w1, w2, w3], _ => exact ⟨w0, w1, w2, w3, rfl⟩
  have hw := fun d (hd : d ∈ tables_1) => atoms_spec (ws := Jvm.Cond.code x code maxLocals ret :: tables_1) hat d (List.mem_cons_of_mem _ hd)
  have hfit : Fit s := fun {y c} hc i hi => by
    obtain ⟨ha, rfl⟩ := Array.getElem?_eq_some_iff.mp hc
    have q := List.all_eq_true.mp ((Array.all_eq_true_iff_forall_mem.mp hF) _ (Array.getElem_mem ha)) i (List.mem_range.mpr hi)
    simpa [Array.getElem?_eq_getElem hi] using q
  obtain ⟨i0, ei0⟩ := is_v ga2
  obtain rfl : w0 = (.int i0) := Option.some.inj ei0
  obtain ⟨i1, ei1⟩ := is_v ga3
  obtain rfl : w1 = (.int i1) := Option.some.inj ei1
  obtain ⟨i2, ei2⟩ := is_v ga4
  obtain rfl : w2 = (.int i2) := Option.some.inj ei2
  obtain ⟨i3, ei3⟩ := is_v gb4
  obtain rfl : w3 = (.int i3) := Option.some.inj ei3
  obtain ⟨nn1, nn2⟩ := and_e hn
  obtain ⟨nn3, nn4⟩ := and_e nn2
  obtain ⟨nn5, nn6⟩ := and_e nn4
  obtain ⟨nn7, nn8⟩ := and_e nn6
  obtain ⟨nn9, nn10⟩ := and_e nn8
  obtain ⟨hsets, hown0⟩ := atoms_of _ (rest_1_c_eq ▸ (show rest_1_c.before _ s = true from hrest))
  obtain ⟨qqR, ev_qqR⟩ := exa_v nn1
  have E_qqR : Exa s s.heap qqR "com/example/portable_transactions/portabletransactions/transaction/UnitEnding$Work" := Exa.start ev_qqR nn1
  obtain ⟨qqN, ev_qqN⟩ := exa_v nn3
  have E_qqN : Exa s s.heap qqN "com/example/portable_transactions/portabletransactions/transaction/UnitEnding$Work" := Exa.start ev_qqN nn3
  have ev11 := own_eqI nn5
  have ev12 := own_eqI nn7
  obtain ⟨qqK, ev_qqK⟩ := exa_v nn9
  have E_qqK : Exa s s.heap qqK "com/example/portable_transactions/portabletransactions/transaction/UnitEnding$Work" := Exa.start ev_qqK nn9
  have ev13 := own_eqI nn10
  have ev14 := own_eqI (Cond.before_iff.mp (hsets _ (List.mem_of_getElem? (i := 4) rfl)))
  obtain ⟨qqU, ev_qqU⟩ := arr_v (Cond.before_iff.mp (hsets _ (List.mem_of_getElem? (i := 8) rfl)))
  obtain ⟨cl_qqU, A_qqU⟩ := Arr.start ev_qqU (Cond.before_iff.mp (hsets _ (List.mem_of_getElem? (i := 8) rfl)))
  have ev15 := own_eqI (Cond.before_iff.mp (hsets _ (List.mem_of_getElem? (i := 9) rfl)))
  obtain ⟨qqS, ev_qqS⟩ := exa_v (Cond.before_iff.mp (hsets _ (List.mem_of_getElem? (i := 13) rfl)))
  have E_qqS : Exa s s.heap qqS "java/util/Collections$EmptyList" := Exa.start ev_qqS (Cond.before_iff.mp (hsets _ (List.mem_of_getElem? (i := 13) rfl)))
  obtain ⟨qqE, ev_qqE⟩ := arr_v (Cond.before_iff.mp (hsets _ (List.mem_of_getElem? (i := 18) rfl)))
  obtain ⟨cl_qqE, A_qqE⟩ := Arr.start ev_qqE (Cond.before_iff.mp (hsets _ (List.mem_of_getElem? (i := 18) rfl)))
  have ev17 := own_eqI (Cond.before_iff.mp (hsets _ (List.mem_of_getElem? (i := 19) rfl)))
  obtain ⟨qqI, ev_qqI⟩ := is_v (Cond.before_iff.mp (hsets _ (List.mem_of_getElem? (i := 21) rfl)))
  have nz_qqI : ¬ qqI = (0 : Int32) := own_neI (Cond.before_iff.mp (hsets _ (List.mem_of_getElem? (i := 22) rfl))) ev_qqI
  have SWROLLED_BACK : Sta s s.heap "com/example/portable_transactions/portabletransactions/transaction/UnitEnding$Work" "ROLLED_BACK" "Lcom/example/portable_transactions/portabletransactions/transaction/UnitEnding$Work;" (.ref qqR) := Sta.start ev_qqR (Or.inr ⟨(hw _ (List.mem_of_getElem? (i := 58) rfl)), (hw _ (List.mem_of_getElem? (i := 59) rfl))⟩)
  have SWNOT_KNOWN : Sta s s.heap "com/example/portable_transactions/portabletransactions/transaction/UnitEnding$Work" "NOT_KNOWN" "Lcom/example/portable_transactions/portabletransactions/transaction/UnitEnding$Work;" (.ref qqN) := Sta.start ev_qqN (Or.inr ⟨(hw _ (List.mem_of_getElem? (i := 58) rfl)), (hw _ (List.mem_of_getElem? (i := 68) rfl))⟩)
  have F_qqR_ordinal : Fld s s.heap qqR "java/lang/Enum" "ordinal" "I" (.int (1 : Int32)) := own_fld ev_qqR ev11
  have F_qqN_ordinal : Fld s s.heap qqN "java/lang/Enum" "ordinal" "I" (.int (2 : Int32)) := own_fld ev_qqN ev12
  have SWKEPT : Sta s s.heap "com/example/portable_transactions/portabletransactions/transaction/UnitEnding$Work" "KEPT" "Lcom/example/portable_transactions/portabletransactions/transaction/UnitEnding$Work;" (.ref qqK) := Sta.start ev_qqK (Or.inr ⟨(hw _ (List.mem_of_getElem? (i := 58) rfl)), (hw _ (List.mem_of_getElem? (i := 107) rfl))⟩)
  have F_qqK_ordinal : Fld s s.heap qqK "java/lang/Enum" "ordinal" "I" (.int (0 : Int32)) := own_fld ev_qqK ev13
  have ST_assertionsDisabled : Sta s s.heap "java/lang/Throwable" "$assertionsDisabled" "Z" (.int (1 : Int32)) := Sta.start ev14 (Or.inl (Cond.before_iff.mpr (Cond.before_iff.mp (hsets _ (List.mem_of_getElem? (i := 3) rfl)))))
  have STUNASSIGNED_STACK : Sta s s.heap "java/lang/Throwable" "UNASSIGNED_STACK" "[Ljava/lang/StackTraceElement;" (.ref qqU) := Sta.start ev_qqU (Or.inr ⟨(hw _ (List.mem_of_getElem? (i := 11) rfl)), (hw _ (List.mem_of_getElem? (i := 41) rfl))⟩)
  have STSUPPRESSED_SENTINEL : Sta s s.heap "java/lang/Throwable" "SUPPRESSED_SENTINEL" "Ljava/util/List;" (.ref qqS) := Sta.start ev_qqS (Or.inr ⟨(hw _ (List.mem_of_getElem? (i := 11) rfl)), (hw _ (List.mem_of_getElem? (i := 42) rfl))⟩)
  have STEMPTY_THROWABLE_ARRAY : Sta s s.heap "java/lang/Throwable" "EMPTY_THROWABLE_ARRAY" "[Ljava/lang/Throwable;" (.ref qqE) := Sta.start ev_qqE (Or.inl (Cond.before_iff.mpr (Cond.before_iff.mp (hsets _ (List.mem_of_getElem? (i := 16) rfl)))))
  have SCS : Sta s s.heap "java/lang/String" "COMPACT_STRINGS" "Z" (.int qqI) := Sta.start ev_qqI (Or.inl (Cond.before_iff.mpr (Cond.before_iff.mp (hsets _ (List.mem_of_getElem? (i := 20) rfl)))))
  have ne_qqR_qqN : qqR ≠ qqN := F_qqR_ordinal.ne F_qqN_ordinal (by decide)
  have ne_qqK_qqN : qqK ≠ qqN := F_qqK_ordinal.ne F_qqN_ordinal (by decide)
  obtain ⟨qqM, Mo⟩ : ∃ qqM, owM s "[Ljava/lang/Object;" qqM := by obtain ⟨c1, k1, m1, r1, r2, r3, -⟩ := hcalls.2.2.1; exact ⟨m1, c1, k1, r1, r2, r3⟩
  have W : OwW s qqR qqN qqK qqU qqS qqE qqI qqM := ⟨E_qqS, nz_qqI, SWROLLED_BACK, SWNOT_KNOWN, F_qqR_ordinal, F_qqN_ordinal, SWKEPT, F_qqK_ordinal, STUNASSIGNED_STACK, STSUPPRESSED_SENTINEL, SCS, ne_qqR_qqN, ne_qqK_qqN, Mo, trivial⟩
  have fin : OwConHK l x code maxLocals ret tables_1 room_1 #[(.int i0), (.int i1), (.int i2), (.int i3)] s s.heap consts_1 (OwP (fun v _ => v = some (.int 1)) s.heap.size) := by
    exact rm0 l s _ hw tables_1 s.heap.size s.heap (Old.start s) qqR qqN qqK qqU qqS qqE qqI qqM W i0 i1 i2 i3 (by unfold Launch.stackTraces; rw [hfl]; decide) ThS.start _ _ _ _ rfl rfl rfl rfl (by split <;> simp) (own_mod i1) (own_mod i2) (own_mod i3)
  obtain ⟨n, o, h1, h2, h3, _, L, rfl, ⟨N, rfl⟩, -, hq⟩ := fin p e ha hc hk s m _ below hf ((Spec.applies_iff_loose hf).mp happ).1 ⟨rfl, State.Warmed39.refl s, rfl, CHv.start (own_EW hw) (fun p hp => hcalls.2.2.2.1 p hp) (hsets _ (List.mem_of_getElem? (i := 22) rfl)) (hw _ (List.mem_of_getElem? (i := 83) rfl)) (hw _ (List.mem_of_getElem? (i := 82) rfl))⟩ ⟨hcalls.1, hcalls.2.1⟩
  refine ⟨n, _, h1, h2, h3, hpost _ _ _ _ _ _ ⟨Cond.after_iff.mpr rfl, Cond.after_iff.mpr (eq_i res_at (Term.int_eval (1)) rfl), trivial⟩ ⟨hq.1, hq.2.1, hq.2.2.1, (hq.2.2.2.sift fun y hy => Or.inr (N y hy)).mono (by decide) (by decide)⟩⟩
theorem main_1_1 : Claimed_1_1 := comes_1 fun _ _ _ _ _ _ h hF => ⟨h.1, hF⟩
theorem main_1_2 : Claimed_1_2 := comes_1 fun _ _ _ _ _ _ h hF => ⟨h.2.1, hF⟩
end Jvm.Pilot.@@N@@
namespace Jvm.Pilot.@@N@@
open Jvm Jvm.ClassFile Sem Op Lib Jvm.Free Jvm.Stand Jvm.Pilot.@@N@@.Jvm.D
/-! MADE BY PROGRAM (witnessworld.py) out of the Statement's table words and the real class files: 42 classes; the members and pool entries that the words name. The judged class is class 1, her method 3. -/
namespace start1
open Jvm.ClassFile
def u (s : String) : CpInfo := .utf8 (stringToUtf16 s)
/-- a pool by its gaps: so many unusable entries, then the entry; so many at the end -/
def gap : Nat → List CpInfo → List CpInfo
  | 0, r => r
  | n + 1, r => .unusable :: gap n r
def poolList (es : List (Nat × CpInfo)) (last : Nat) : List CpInfo := es.foldr (fun e r => gap e.1 (e.2 :: r)) (gap last [])
def pool (es : List (Nat × CpInfo)) (last : Nat) : Array CpInfo := ⟨poolList es last⟩
def fileOf (pool : Array CpInfo) (this : Nat) (attrs : Array Attribute := #[]) (ms : Array MethodInfo := #[]) (fl : Nat := 33) (sup : Nat := 0) (ifs : Array Nat := #[]) (fds : Array FieldInfo := #[]) : ClassFile where
  minorVersion := 0
  majorVersion := 65
  constantPool := pool
  accessFlags := fl
  thisClass := this
  superClass := sup
  interfaces := ifs
  fields := fds
  methods := ms
  attributes := attrs
def plain (name : String) (sup : Option ClassId) : Class where
  name := name
  kind := .ordinary
  loader := none
  accessFlags := 33
  super := sup
  interfaces := #[]
  cf := none
  fields := #[]
  methods := #[]
  instanceTypes := #[]
  staticTypes := #[]
  resolved := #[]
  callSites := []
  init := .initialized
  statics := none
  mirror := none

def pool0 : Array CpInfo := pool [(5, u "<init>"), (0, u "()V"), (1, .class_ 10), (1, u "java/lang/Object"), (0, u "getClass"), (0, u "()Ljava/lang/Class;")] 111

def k0c0 : Code := { maxStack := 0, maxLocals := 1, code := object_method_1_code, exceptionTable := #[], attributes := #[] }
def k0m0 : Method := { name := "<init>", desc := "()V", sig := { parameters := [], returnType := none }, accessFlags := 1, code := some k0c0 }
def k0m1 : Method := { name := "getClass", desc := "()Ljava/lang/Class;", sig := { parameters := [], returnType := some (.object "java/lang/Class") }, accessFlags := 273, code := none }
/-- java/lang/Object -/
def k0 : Class := { plain "java/lang/Object" none with
  accessFlags := 33
  interfaces := #[]
  cf := some (fileOf pool0 8 #[] #[{ accessFlags := 1, nameIndex := 5, descriptorIndex := 6, attributes := #[] }, { accessFlags := 273, nameIndex := 11, descriptorIndex := 12, attributes := #[] }] 33 0 #[] #[])
  fields := #[]
  methods := #[k0m0, k0m1]
  instanceTypes := #[]
  staticTypes := #[]
  resolved := Array.replicate 124 none
  statics := none }

def pool1 : Array CpInfo := pool [(2, .class_ 4), (0, .nameAndType 5 6), (0, u "java/lang/Object"), (0, u "<init>"), (0, u "()V"), (0, .methodref 8 9), (0, .class_ 10), (0, .nameAndType 11 12), (0, u "com/example/portable_transactions/portabletransactions/transaction/UnitEnding"), (0, u "commitFailed"), (0, u "(Ljava/lang/Exception;Z)V"), (0, .methodref 8 14), (0, .nameAndType 15 16), (0, u "commitFailedUntold"), (0, u "(Ljava/lang/Exception;)V"), (0, .methodref 8 18), (0, .nameAndType 19 16), (0, u "rollbackFailed"), (0, .string 21), (0, u "release the connection"), (0, .methodref 8 23), (0, .nameAndType 24 25), (0, u "releaseFailed"), (0, u "(Ljava/lang/Exception;Ljava/lang/String;)V"), (0, .integer 2147483647), (0, .class_ 28), (0, u "java/lang/Exception"), (0, .methodref 27 3), (0, .methodref 8 31), (0, .nameAndType 5 32), (0, u "(Z)V"), (0, .methodref 8 34), (0, .nameAndType 35 36), (0, u "isSettled"), (0, u "()Z"), (0, .methodref 38 39), (0, .class_ 40), (0, .nameAndType 41 42), (0, u "com/example/portable_transactions/portabletransactions/transaction/UnitEndingIsSettledPinLaw"), (0, u "apply"), (0, u "(Lcom/example/portable_transactions/portabletransactions/transaction/UnitEnding;ILjava/lang/Exception;)V"), (0, .methodref 38 44), (0, .nameAndType 45 46), (0, u "expect"), (0, u "(IZ)Z"), (3, u "law"), (0, u "(IIII)Z")] 2

def k1m0 : Method := { name := "<init>", desc := "()V", sig := { parameters := [], returnType := none }, accessFlags := 1, code := none }
def k1c1 : Code := { maxStack := 3, maxLocals := 3, code := method_2_code, exceptionTable := #[], attributes := #[] }
def k1m1 : Method := { name := "apply", desc := "(Lcom/example/portable_transactions/portabletransactions/transaction/UnitEnding;ILjava/lang/Exception;)V", sig := { parameters := [(.object "com/example/portable_transactions/portabletransactions/transaction/UnitEnding"), .int, (.object "java/lang/Exception")], returnType := none }, accessFlags := 10, code := some k1c1 }
def k1c2 : Code := { maxStack := 2, maxLocals := 2, code := method_3_code, exceptionTable := #[], attributes := #[] }
def k1m2 : Method := { name := "expect", desc := "(IZ)Z", sig := { parameters := [.int, .boolean], returnType := some .boolean }, accessFlags := 10, code := some k1c2 }
def k1c3 : Code := { maxStack := 3, maxLocals := 14, code := code, exceptionTable := #[], attributes := #[] }
def k1m3 : Method := { name := "law", desc := "(IIII)Z", sig := { parameters := [.int, .int, .int, .int], returnType := some .boolean }, accessFlags := 9, code := some k1c3 }
/-- com/example/portable_transactions/portabletransactions/transaction/UnitEndingIsSettledPinLaw -/
def k1 : Class := { plain "com/example/portable_transactions/portabletransactions/transaction/UnitEndingIsSettledPinLaw" (some 0) with
  accessFlags := 49
  interfaces := #[]
  cf := some (fileOf pool1 38 #[] #[{ accessFlags := 1, nameIndex := 5, descriptorIndex := 6, attributes := #[] }, { accessFlags := 10, nameIndex := 41, descriptorIndex := 42, attributes := #[] }, { accessFlags := 10, nameIndex := 45, descriptorIndex := 46, attributes := #[] }, { accessFlags := 9, nameIndex := 50, descriptorIndex := 51, attributes := #[] }] 49 2 #[] #[])
  fields := #[]
  methods := #[k1m0, k1m1, k1m2, k1m3]
  instanceTypes := #[]
  staticTypes := #[]
  resolved := Array.replicate 54 none
  statics := none }

def pool2 : Array CpInfo := pool [(1, .class_ 2), (0, u "java/io/Serializable"), (0, .class_ 4), (0, u "java/lang/Object")] 2

/-- java/io/Serializable -/
def k2 : Class := { plain "java/io/Serializable" (some 0) with
  accessFlags := 1537
  interfaces := #[]
  cf := some (fileOf pool2 1 #[] #[] 1537 3 #[] #[])
  fields := #[]
  methods := #[]
  instanceTypes := #[]
  staticTypes := #[]
  resolved := Array.replicate 7 none
  statics := none }

def pool3 : Array CpInfo := pool [(1, .methodref 2 3), (0, .class_ 4), (0, .nameAndType 5 6), (0, u "java/lang/Object"), (0, u "<init>"), (0, u "()V"), (0, .fieldref 8 9), (0, .class_ 10), (0, .nameAndType 11 12), (0, u "java/lang/Throwable"), (0, u "cause"), (0, u "Ljava/lang/Throwable;"), (0, .fieldref 8 14), (0, .nameAndType 15 16), (0, u "UNASSIGNED_STACK"), (0, u "[Ljava/lang/StackTraceElement;"), (0, .fieldref 8 18), (0, .nameAndType 19 16), (0, u "stackTrace"), (0, .fieldref 8 21), (0, .nameAndType 22 23), (0, u "SUPPRESSED_SENTINEL"), (0, u "Ljava/util/List;"), (0, .fieldref 8 25), (0, .nameAndType 26 23), (0, u "suppressedExceptions"), (0, .methodref 8 28), (0, .nameAndType 29 30), (0, u "fillInStackTrace"), (0, u "()Ljava/lang/Throwable;"), (2, u "detailMessage"), (0, u "Ljava/lang/String;"), (21, .class_ 58), (1, u "java/util/Objects"), (34, .class_ 94), (0, u "java/lang/Throwable$WrappedPrintStream"), (6, .class_ 103), (1, u "java/lang/Throwable$PrintStreamOrWriter"), (23, .nameAndType 129 130), (1, u "add"), (0, u "(Ljava/lang/Object;)Z"), (34, u "$assertionsDisabled"), (0, u "Z"), (26, .class_ 194), (0, u "java/lang/Throwable$WrappedPrintWriter"), (3, .fieldref 8 199), (0, .nameAndType 200 201), (0, u "backtrace"), (0, u "Ljava/lang/Object;"), (0, .methodref 8 203), (0, .nameAndType 29 204), (0, u "(I)Ljava/lang/Throwable;"), (6, u "depth"), (0, u "I"), (20, .class_ 234), (0, u "java/util/ArrayList"), (6, .methodref 233 242), (0, .nameAndType 5 243), (0, u "(I)V"), (1, .class_ 247), (1, u "java/util/List"), (10, .string 259), (0, u "Cannot suppress a null exception."), (0, .methodref 56 261), (0, .nameAndType 262 263), (0, u "requireNonNull"), (0, u "(Ljava/lang/Object;Ljava/lang/String;)Ljava/lang/Object;"), (5, .class_ 271), (1, u "java/lang/Throwable$SentinelHolder"), (29, .interfaceMethodref 245 127), (2, u "EMPTY_THROWABLE_ARRAY"), (0, u "[Ljava/lang/Throwable;"), (12, .class_ 319), (0, u "java/io/Serializable"), (0, u "serialVersionUID"), (0, u "J"), (5, u "NULL_CAUSE_MESSAGE"), (0, u "SELF_SUPPRESSION_MESSAGE"), (0, u "CAUSE_CAPTION"), (0, u "SUPPRESSED_CAPTION"), (5, u "(Ljava/lang/Throwable;)V"), (56, u "addSuppressed")] 10

def k3c0 : Code := { maxStack := 2, maxLocals := 1, code := jdk_78_method_1_code, exceptionTable := #[], attributes := #[] }
def k3m0 : Method := { name := "<init>", desc := "()V", sig := { parameters := [], returnType := none }, accessFlags := 1, code := some k3c0 }
def k3c1 : Code := { maxStack := 2, maxLocals := 1, code := ⟨#[0x2a, 0xb4, 0x00, 0x11, 0xc7, 0x00, 0x0a, 0x2a, 0xb4, 0x00, 0xc6, 0xc6, 0x00, 0x10, 0x2a, 0x03, 0xb6, 0x00, 0xca, 0x57, 0x2a, 0xb2, 0x00, 0x0d, 0xb5, 0x00, 0x11, 0x2a, 0xb0]⟩, exceptionTable := #[], attributes := #[] }
def k3m1 : Method := { name := "fillInStackTrace", desc := "()Ljava/lang/Throwable;", sig := { parameters := [], returnType := some (.object "java/lang/Throwable") }, accessFlags := 33, code := some k3c1 }
def k3m2 : Method := { name := "fillInStackTrace", desc := "(I)Ljava/lang/Throwable;", sig := { parameters := [.int], returnType := some (.object "java/lang/Throwable") }, accessFlags := 258, code := none }
def k3c3 : Code := { maxStack := 4, maxLocals := 2, code := ⟨#[0x2b, 0x2a, 0xa6, 0x00, 0x0f, 0xbb, 0x00, 0x40, 0x59, 0x13, 0x01, 0x08, 0x2b, 0xb7, 0x00, 0x44, 0xbf, 0x2b, 0x13, 0x01, 0x02, 0xb8, 0x01, 0x04, 0x57, 0x2a, 0xb4, 0x00, 0x18, 0xc7, 0x00, 0x04, 0xb1, 0x2a, 0xb4, 0x00, 0x18, 0xb2, 0x00, 0x14, 0xa6, 0x00, 0x0f, 0x2a, 0xbb, 0x00, 0xe9, 0x59, 0x04, 0xb7, 0x00, 0xf1, 0xb5, 0x00, 0x18, 0x2a, 0xb4, 0x00, 0x18, 0x2b, 0xb9, 0x01, 0x2d, 0x02, 0x00, 0x57, 0xb1]⟩, exceptionTable := #[], attributes := #[] }
def k3m3 : Method := { name := "addSuppressed", desc := "(Ljava/lang/Throwable;)V", sig := { parameters := [(.object "java/lang/Throwable")], returnType := none }, accessFlags := 49, code := some k3c3 }
/-- java/lang/Throwable -/
def k3 : Class := { plain "java/lang/Throwable" (some 0) with
  accessFlags := 33
  interfaces := #[2]
  cf := some (fileOf pool3 8 #[.nestMembers #[193, 93, 101, 269]] #[{ accessFlags := 1, nameIndex := 5, descriptorIndex := 6, attributes := #[] }, { accessFlags := 33, nameIndex := 29, descriptorIndex := 30, attributes := #[] }, { accessFlags := 258, nameIndex := 29, descriptorIndex := 204, attributes := #[] }, { accessFlags := 49, nameIndex := 393, descriptorIndex := 336, attributes := #[] }] 33 2 #[318] #[{ accessFlags := 26, nameIndex := 320, descriptorIndex := 321, attributes := #[] }, { accessFlags := 130, nameIndex := 200, descriptorIndex := 201, attributes := #[] }, { accessFlags := 2, nameIndex := 33, descriptorIndex := 34, attributes := #[] }, { accessFlags := 26, nameIndex := 15, descriptorIndex := 16, attributes := #[] }, { accessFlags := 2, nameIndex := 11, descriptorIndex := 12, attributes := #[] }, { accessFlags := 2, nameIndex := 19, descriptorIndex := 16, attributes := #[] }, { accessFlags := 130, nameIndex := 211, descriptorIndex := 212, attributes := #[] }, { accessFlags := 26, nameIndex := 22, descriptorIndex := 23, attributes := #[] }, { accessFlags := 2, nameIndex := 26, descriptorIndex := 23, attributes := #[] }, { accessFlags := 26, nameIndex := 327, descriptorIndex := 34, attributes := #[] }, { accessFlags := 26, nameIndex := 328, descriptorIndex := 34, attributes := #[] }, { accessFlags := 26, nameIndex := 329, descriptorIndex := 34, attributes := #[] }, { accessFlags := 26, nameIndex := 330, descriptorIndex := 34, attributes := #[] }, { accessFlags := 26, nameIndex := 304, descriptorIndex := 305, attributes := #[] }, { accessFlags := 4120, nameIndex := 165, descriptorIndex := 166, attributes := #[] }])
  fields := #[{ name := "serialVersionUID", type := .long, accessFlags := 26, slot := 0, constantValue := 0 }, { name := "backtrace", type := (.object "java/lang/Object"), accessFlags := 130, slot := 0, constantValue := 0 }, { name := "detailMessage", type := (.object "java/lang/String"), accessFlags := 2, slot := 1, constantValue := 0 }, { name := "UNASSIGNED_STACK", type := (.array (.object "java/lang/StackTraceElement")), accessFlags := 26, slot := 1, constantValue := 0 }, { name := "cause", type := (.object "java/lang/Throwable"), accessFlags := 2, slot := 2, constantValue := 0 }, { name := "stackTrace", type := (.array (.object "java/lang/StackTraceElement")), accessFlags := 2, slot := 3, constantValue := 0 }, { name := "depth", type := .int, accessFlags := 130, slot := 4, constantValue := 0 }, { name := "SUPPRESSED_SENTINEL", type := (.object "java/util/List"), accessFlags := 26, slot := 2, constantValue := 0 }, { name := "suppressedExceptions", type := (.object "java/util/List"), accessFlags := 2, slot := 5, constantValue := 0 }, { name := "NULL_CAUSE_MESSAGE", type := (.object "java/lang/String"), accessFlags := 26, slot := 3, constantValue := 0 }, { name := "SELF_SUPPRESSION_MESSAGE", type := (.object "java/lang/String"), accessFlags := 26, slot := 4, constantValue := 0 }, { name := "CAUSE_CAPTION", type := (.object "java/lang/String"), accessFlags := 26, slot := 5, constantValue := 0 }, { name := "SUPPRESSED_CAPTION", type := (.object "java/lang/String"), accessFlags := 26, slot := 6, constantValue := 0 }, { name := "EMPTY_THROWABLE_ARRAY", type := (.array (.object "java/lang/Throwable")), accessFlags := 26, slot := 7, constantValue := 0 }, { name := "$assertionsDisabled", type := .boolean, accessFlags := 4120, slot := 8, constantValue := 0 }]
  methods := #[k3m0, k3m1, k3m2, k3m3]
  instanceTypes := #[(.object "java/lang/Object"), (.object "java/lang/String"), (.object "java/lang/Throwable"), (.array (.object "java/lang/StackTraceElement")), .int, (.object "java/util/List")]
  staticTypes := #[.long, (.array (.object "java/lang/StackTraceElement")), (.object "java/util/List"), (.object "java/lang/String"), (.object "java/lang/String"), (.object "java/lang/String"), (.object "java/lang/String"), (.array (.object "java/lang/Throwable")), .boolean]
  resolved := Array.replicate 404 none
  statics := some 0 }

def pool4 : Array CpInfo := pool [(1, .methodref 2 3), (0, .class_ 4), (0, .nameAndType 5 6), (0, u "java/lang/Throwable"), (0, u "<init>"), (0, u "()V"), (12, .class_ 20), (0, u "java/lang/Exception"), (0, u "serialVersionUID"), (0, u "J")] 17

def k4c0 : Code := { maxStack := 1, maxLocals := 1, code := jdk_59_method_1_code, exceptionTable := #[], attributes := #[] }
def k4m0 : Method := { name := "<init>", desc := "()V", sig := { parameters := [], returnType := none }, accessFlags := 1, code := some k4c0 }
/-- java/lang/Exception -/
def k4 : Class := { plain "java/lang/Exception" (some 3) with
  accessFlags := 33
  interfaces := #[]
  cf := some (fileOf pool4 19 #[] #[{ accessFlags := 1, nameIndex := 5, descriptorIndex := 6, attributes := #[] }] 33 2 #[] #[{ accessFlags := 24, nameIndex := 21, descriptorIndex := 22, attributes := #[] }])
  fields := #[{ name := "serialVersionUID", type := .long, accessFlags := 24, slot := 0, constantValue := 0 }]
  methods := #[k4m0]
  instanceTypes := #[(.object "java/lang/Object"), (.object "java/lang/String"), (.object "java/lang/Throwable"), (.array (.object "java/lang/StackTraceElement")), .int, (.object "java/util/List")]
  staticTypes := #[.long]
  resolved := Array.replicate 40 none
  statics := none }

def pool5 : Array CpInfo := pool [(1, .methodref 2 3), (0, .class_ 4), (0, .nameAndType 5 6), (0, u "java/lang/Object"), (0, u "<init>"), (0, u "()V"), (0, .fieldref 8 9), (0, .class_ 10), (0, .nameAndType 11 12), (0, u "com/example/portable_transactions/portabletransactions/transaction/UnitEnding"), (0, u "commit"), (0, u "Z"), (0, .fieldref 14 15), (0, .class_ 16), (0, .nameAndType 17 18), (0, u "com/example/portable_transactions/portabletransactions/transaction/UnitEnding$Work"), (0, u "KEPT"), (0, u "Lcom/example/portable_transactions/portabletransactions/transaction/UnitEnding$Work;"), (0, .fieldref 14 20), (0, .nameAndType 21 18), (0, u "ROLLED_BACK"), (0, .fieldref 8 23), (0, .nameAndType 24 18), (0, u "work"), (0, .fieldref 8 26), (0, .nameAndType 27 28), (0, u "failure"), (0, u "Ljava/lang/Exception;"), (0, .string 30), (0, u "Could not commit the unit of work; its changes were rolled back"), (0, .string 32), (0, u "Could not commit the unit of work, nor roll it back"), (0, .fieldref 8 34), (0, .nameAndType 35 36), (0, u "failed"), (0, u "Ljava/lang/String;"), (0, .fieldref 14 38), (0, .nameAndType 39 18), (0, u "NOT_KNOWN"), (0, .string 41), (0, u "Could not commit the unit of work"), (0, .string 43), (0, u "Could not roll back the unit of work"), (0, .methodref 45 46), (0, .class_ 47), (0, .nameAndType 48 49), (0, u "java/lang/Exception"), (0, u "addSuppressed"), (0, u "(Ljava/lang/Throwable;)V"), (0, .class_ 51), (0, u "java/lang/StringBuilder"), (0, .methodref 50 3), (0, .string 54), (0, u "Could not "), (0, .methodref 50 56), (0, .nameAndType 57 58), (0, u "append"), (0, u "(Ljava/lang/String;)Ljava/lang/StringBuilder;"), (0, .string 60), (0, u " of the unit of work once it had "), (0, .string 62), (0, u "committed"), (0, .string 64), (0, u "rolled back"), (0, .methodref 50 66), (0, .nameAndType 67 68), (0, u "toString"), (0, u "()Ljava/lang/String;"), (15, u "(Z)V"), (3, u "commitFailed"), (0, u "(Ljava/lang/Exception;Z)V"), (2, u "commitFailedUntold"), (0, u "(Ljava/lang/Exception;)V"), (0, u "rollbackFailed"), (0, u "releaseFailed"), (0, u "(Ljava/lang/Exception;Ljava/lang/String;)V"), (0, u "isSettled"), (0, u "()Z")] 6

def k5c0 : Code := { maxStack := 2, maxLocals := 2, code := prog_49_method_1_code, exceptionTable := #[], attributes := #[] }
def k5m0 : Method := { name := "<init>", desc := "(Z)V", sig := { parameters := [.boolean], returnType := none }, accessFlags := 1, code := some k5c0 }
def k5c1 : Code := { maxStack := 2, maxLocals := 3, code := prog_49_method_2_code, exceptionTable := #[], attributes := #[] }
def k5m1 : Method := { name := "commitFailed", desc := "(Ljava/lang/Exception;Z)V", sig := { parameters := [(.object "java/lang/Exception"), .boolean], returnType := none }, accessFlags := 1, code := some k5c1 }
def k5c2 : Code := { maxStack := 2, maxLocals := 2, code := prog_49_method_3_code, exceptionTable := #[], attributes := #[] }
def k5m2 : Method := { name := "commitFailedUntold", desc := "(Ljava/lang/Exception;)V", sig := { parameters := [(.object "java/lang/Exception")], returnType := none }, accessFlags := 1, code := some k5c2 }
def k5c3 : Code := { maxStack := 2, maxLocals := 2, code := prog_49_method_4_code, exceptionTable := #[], attributes := #[] }
def k5m3 : Method := { name := "rollbackFailed", desc := "(Ljava/lang/Exception;)V", sig := { parameters := [(.object "java/lang/Exception")], returnType := none }, accessFlags := 1, code := some k5c3 }
def k5c4 : Code := { maxStack := 3, maxLocals := 3, code := prog_49_method_5_code, exceptionTable := #[], attributes := #[] }
def k5m4 : Method := { name := "releaseFailed", desc := "(Ljava/lang/Exception;Ljava/lang/String;)V", sig := { parameters := [(.object "java/lang/Exception"), (.object "java/lang/String")], returnType := none }, accessFlags := 1, code := some k5c4 }
def k5c5 : Code := { maxStack := 2, maxLocals := 1, code := prog_49_method_6_code, exceptionTable := #[], attributes := #[] }
def k5m5 : Method := { name := "isSettled", desc := "()Z", sig := { parameters := [], returnType := some .boolean }, accessFlags := 1, code := some k5c5 }
/-- com/example/portable_transactions/portabletransactions/transaction/UnitEnding -/
def k5 : Class := { plain "com/example/portable_transactions/portabletransactions/transaction/UnitEnding" (some 0) with
  accessFlags := 49
  interfaces := #[]
  cf := some (fileOf pool5 8 #[.nestMembers #[14]] #[{ accessFlags := 1, nameIndex := 5, descriptorIndex := 84, attributes := #[] }, { accessFlags := 1, nameIndex := 88, descriptorIndex := 89, attributes := #[] }, { accessFlags := 1, nameIndex := 92, descriptorIndex := 93, attributes := #[] }, { accessFlags := 1, nameIndex := 94, descriptorIndex := 93, attributes := #[] }, { accessFlags := 1, nameIndex := 95, descriptorIndex := 96, attributes := #[] }, { accessFlags := 1, nameIndex := 97, descriptorIndex := 98, attributes := #[] }] 49 2 #[] #[{ accessFlags := 18, nameIndex := 11, descriptorIndex := 12, attributes := #[] }, { accessFlags := 2, nameIndex := 24, descriptorIndex := 18, attributes := #[] }, { accessFlags := 2, nameIndex := 27, descriptorIndex := 28, attributes := #[] }, { accessFlags := 2, nameIndex := 35, descriptorIndex := 36, attributes := #[] }])
  fields := #[{ name := "commit", type := .boolean, accessFlags := 18, slot := 0, constantValue := 0 }, { name := "work", type := (.object "com/example/portable_transactions/portabletransactions/transaction/UnitEnding$Work"), accessFlags := 2, slot := 1, constantValue := 0 }, { name := "failure", type := (.object "java/lang/Exception"), accessFlags := 2, slot := 2, constantValue := 0 }, { name := "failed", type := (.object "java/lang/String"), accessFlags := 2, slot := 3, constantValue := 0 }]
  methods := #[k5m0, k5m1, k5m2, k5m3, k5m4, k5m5]
  instanceTypes := #[.boolean, (.object "com/example/portable_transactions/portabletransactions/transaction/UnitEnding$Work"), (.object "java/lang/Exception"), (.object "java/lang/String")]
  staticTypes := #[]
  resolved := Array.replicate 105 none
  statics := none }

def pool6 : Array CpInfo := pool [(1, .class_ 2), (0, u "java/lang/constant/Constable"), (0, .class_ 4), (0, u "java/lang/Object")] 6

/-- java/lang/constant/Constable -/
def k6 : Class := { plain "java/lang/constant/Constable" (some 0) with
  accessFlags := 1537
  interfaces := #[]
  cf := some (fileOf pool6 1 #[] #[] 1537 3 #[] #[])
  fields := #[]
  methods := #[]
  instanceTypes := #[]
  staticTypes := #[]
  resolved := Array.replicate 11 none
  statics := none }

def pool7 : Array CpInfo := pool [(1, .class_ 2), (0, u "java/lang/Comparable"), (0, .class_ 4), (0, u "java/lang/Object")] 7

/-- java/lang/Comparable -/
def k7 : Class := { plain "java/lang/Comparable" (some 0) with
  accessFlags := 1537
  interfaces := #[]
  cf := some (fileOf pool7 1 #[] #[] 1537 3 #[] #[])
  fields := #[]
  methods := #[]
  instanceTypes := #[]
  staticTypes := #[]
  resolved := Array.replicate 12 none
  statics := none }

def pool8 : Array CpInfo := pool [(2, .class_ 4), (1, u "java/lang/Enum"), (0, u "name"), (0, u "Ljava/lang/String;"), (2, u "ordinal"), (0, u "I"), (1, .class_ 14), (1, u "java/lang/Object"), (4, u "hash"), (86, .class_ 108), (1, u "java/lang/Enum$EnumDesc"), (2, .class_ 112), (0, u "java/lang/constant/Constable"), (0, .class_ 114), (0, u "java/lang/Comparable"), (0, .class_ 116), (0, u "java/io/Serializable")] 87

/-- java/lang/Enum -/
def k8 : Class := { plain "java/lang/Enum" (some 0) with
  accessFlags := 1057
  interfaces := #[6, 7, 2]
  cf := some (fileOf pool8 2 #[.nestMembers #[106]] #[] 1057 12 #[111, 113, 115] #[{ accessFlags := 18, nameIndex := 5, descriptorIndex := 6, attributes := #[] }, { accessFlags := 18, nameIndex := 9, descriptorIndex := 10, attributes := #[] }, { accessFlags := 2, nameIndex := 19, descriptorIndex := 10, attributes := #[] }])
  fields := #[{ name := "name", type := (.object "java/lang/String"), accessFlags := 18, slot := 0, constantValue := 0 }, { name := "ordinal", type := .int, accessFlags := 18, slot := 1, constantValue := 0 }, { name := "hash", type := .int, accessFlags := 2, slot := 2, constantValue := 0 }]
  methods := #[]
  instanceTypes := #[(.object "java/lang/String"), .int, .int]
  staticTypes := #[]
  resolved := Array.replicate 204 none
  statics := none }

def pool9 : Array CpInfo := pool [(1, .class_ 2), (0, u "com/example/portable_transactions/portabletransactions/transaction/UnitEnding$Work"), (2, u "KEPT"), (0, u "Lcom/example/portable_transactions/portabletransactions/transaction/UnitEnding$Work;"), (2, u "ROLLED_BACK"), (2, u "NOT_KNOWN"), (2, u "$VALUES"), (0, u "[Lcom/example/portable_transactions/portabletransactions/transaction/UnitEnding$Work;"), (6, .class_ 25), (1, u "java/lang/Enum"), (26, .class_ 53), (0, u "com/example/portable_transactions/portabletransactions/transaction/UnitEnding")] 2

/-- com/example/portable_transactions/portabletransactions/transaction/UnitEnding$Work -/
def k9 : Class := { plain "com/example/portable_transactions/portabletransactions/transaction/UnitEnding$Work" (some 8) with
  accessFlags := 16432
  interfaces := #[]
  cf := some (fileOf pool9 1 #[.nestHost 52] #[] 16432 23 #[] #[{ accessFlags := 16409, nameIndex := 5, descriptorIndex := 6, attributes := #[] }, { accessFlags := 16409, nameIndex := 9, descriptorIndex := 6, attributes := #[] }, { accessFlags := 16409, nameIndex := 12, descriptorIndex := 6, attributes := #[] }, { accessFlags := 4122, nameIndex := 15, descriptorIndex := 16, attributes := #[] }])
  fields := #[{ name := "KEPT", type := (.object "com/example/portable_transactions/portabletransactions/transaction/UnitEnding$Work"), accessFlags := 16409, slot := 0, constantValue := 0 }, { name := "ROLLED_BACK", type := (.object "com/example/portable_transactions/portabletransactions/transaction/UnitEnding$Work"), accessFlags := 16409, slot := 1, constantValue := 0 }, { name := "NOT_KNOWN", type := (.object "com/example/portable_transactions/portabletransactions/transaction/UnitEnding$Work"), accessFlags := 16409, slot := 2, constantValue := 0 }, { name := "$VALUES", type := (.array (.object "com/example/portable_transactions/portabletransactions/transaction/UnitEnding$Work")), accessFlags := 4122, slot := 3, constantValue := 0 }]
  methods := #[]
  instanceTypes := #[(.object "java/lang/String"), .int, .int]
  staticTypes := #[(.object "com/example/portable_transactions/portabletransactions/transaction/UnitEnding$Work"), (.object "com/example/portable_transactions/portabletransactions/transaction/UnitEnding$Work"), (.object "com/example/portable_transactions/portabletransactions/transaction/UnitEnding$Work"), (.array (.object "com/example/portable_transactions/portabletransactions/transaction/UnitEnding$Work"))]
  resolved := Array.replicate 56 none
  statics := some 1 }

def pool10 : Array CpInfo := pool [(2, .class_ 4), (1, u "java/lang/CharSequence"), (42, .class_ 48), (0, u "java/lang/CharSequence$1CodePointIterator"), (10, .class_ 60), (0, u "java/lang/CharSequence$1CharIterator"), (5, .class_ 67), (0, u "java/lang/Object")] 63

/-- java/lang/CharSequence -/
def k10 : Class := { plain "java/lang/CharSequence" (some 0) with
  accessFlags := 1537
  interfaces := #[]
  cf := some (fileOf pool10 2 #[.nestMembers #[47, 59]] #[] 1537 66 #[] #[])
  fields := #[]
  methods := #[]
  instanceTypes := #[]
  staticTypes := #[]
  resolved := Array.replicate 131 none
  statics := none }

def pool11 : Array CpInfo := pool [(1, .class_ 2), (0, u "java/lang/constant/ConstantDesc"), (0, .class_ 4), (0, u "java/lang/Object")] 32

/-- java/lang/constant/ConstantDesc -/
def k11 : Class := { plain "java/lang/constant/ConstantDesc" (some 0) with
  accessFlags := 1537
  interfaces := #[]
  cf := some (fileOf pool11 1 #[] #[] 1537 3 #[] #[])
  fields := #[]
  methods := #[]
  instanceTypes := #[]
  staticTypes := #[]
  resolved := Array.replicate 37 none
  statics := none }

def pool12 : Array CpInfo := pool [(1, .methodref 2 3), (0, .class_ 4), (0, .nameAndType 5 6), (0, u "java/lang/Object"), (0, u "<init>"), (0, u "()V"), (2, .fieldref 10 11), (0, .class_ 12), (0, .nameAndType 13 14), (0, u "java/lang/String"), (0, u "value"), (0, u "[B"), (0, .fieldref 10 16), (0, .nameAndType 17 18), (0, u "coder"), (0, u "B"), (2, u "hash"), (0, u "I"), (2, u "hashIsZero"), (0, u "Z"), (11, .fieldref 10 39), (0, .nameAndType 40 26), (0, u "COMPACT_STRINGS"), (13, .methodref 55 56), (0, .class_ 57), (0, .nameAndType 58 59), (0, u "java/util/Arrays"), (0, u "copyOfRange"), (0, u "([BII)[B"), (82, u "()Z"), (50, .class_ 195), (1, u "java/lang/System"), (16, .methodref 193 213), (0, .nameAndType 214 215), (0, u "arraycopy"), (0, u "(Ljava/lang/Object;ILjava/lang/Object;II)V"), (118, u "()I"), (0, .methodref 10 336), (0, .nameAndType 17 337), (0, u "()B"), (2, u "()[B"), (148, .methodref 10 490), (0, .nameAndType 5 491), (0, u "(Ljava/lang/AbstractStringBuilder;Ljava/lang/Void;)V"), (1, .nameAndType 494 142), (0, u "isLatin1"), (11, .nameAndType 507 334), (0, u "length"), (24, u "getBytes"), (16, .methodref 550 506), (0, .class_ 551), (0, u "java/lang/AbstractStringBuilder"), (0, .methodref 550 553), (0, .nameAndType 554 340), (0, u "getValue"), (20, .class_ 576), (0, u "java/lang/CharSequence"), (22, u "CASE_INSENSITIVE_ORDER"), (0, u "Ljava/util/Comparator;"), (220, u "([BIB)V"), (225, .methodref 550 493), (53, u "serialPersistentFields"), (0, u "[Ljava/io/ObjectStreamField;"), (0, .class_ 1104), (0, u "java/lang/String$CaseInsensitiveComparator"), (1, .class_ 1107), (0, u "java/io/Serializable"), (0, .class_ 1109), (0, u "java/lang/Comparable"), (0, .class_ 1111), (0, u "java/lang/constant/Constable"), (0, .class_ 1113), (0, u "java/lang/constant/ConstantDesc"), (2, u "serialVersionUID"), (0, u "J"), (3, u "REPL"), (0, u "C"), (2, u "LATIN1"), (1, u "UTF16"), (105, u "(Ljava/lang/StringBuilder;)V")] 217

def k12m0 : Method := { name := "<init>", desc := "()V", sig := { parameters := [], returnType := none }, accessFlags := 1, code := none }
def k12c1 : Code := { maxStack := 3, maxLocals := 2, code := jdk_42_method_53_code, exceptionTable := #[], attributes := #[] }
def k12m1 : Method := { name := "<init>", desc := "(Ljava/lang/StringBuilder;)V", sig := { parameters := [(.object "java/lang/StringBuilder")], returnType := none }, accessFlags := 1, code := some k12c1 }
def k12c2 : Code := { maxStack := 2, maxLocals := 1, code := jdk_42_method_54_code, exceptionTable := #[], attributes := #[] }
def k12m2 : Method := { name := "length", desc := "()I", sig := { parameters := [], returnType := some .int }, accessFlags := 1, code := some k12c2 }
def k12c3 : Code := { maxStack := 5, maxLocals := 4, code := jdk_42_method_147_code, exceptionTable := #[], attributes := #[] }
def k12m3 : Method := { name := "getBytes", desc := "([BIB)V", sig := { parameters := [(.array .byte), .int, .byte], returnType := none }, accessFlags := 0, code := some k12c3 }
def k12c4 : Code := { maxStack := 5, maxLocals := 5, code := jdk_42_method_150_code, exceptionTable := #[], attributes := #[] }
def k12m4 : Method := { name := "<init>", desc := "(Ljava/lang/AbstractStringBuilder;Ljava/lang/Void;)V", sig := { parameters := [(.object "java/lang/AbstractStringBuilder"), (.object "java/lang/Void")], returnType := none }, accessFlags := 0, code := some k12c4 }
def k12c5 : Code := { maxStack := 1, maxLocals := 1, code := jdk_42_method_152_code, exceptionTable := #[], attributes := #[] }
def k12m5 : Method := { name := "coder", desc := "()B", sig := { parameters := [], returnType := some .byte }, accessFlags := 0, code := some k12c5 }
/-- java/lang/String -/
def k12 : Class := { plain "java/lang/String" (some 0) with
  accessFlags := 49
  interfaces := #[2, 7, 10, 6, 11]
  cf := some (fileOf pool12 10 #[.nestMembers #[1103]] #[{ accessFlags := 1, nameIndex := 5, descriptorIndex := 6, attributes := #[] }, { accessFlags := 1, nameIndex := 5, descriptorIndex := 1233, attributes := #[] }, { accessFlags := 1, nameIndex := 507, descriptorIndex := 334, attributes := #[] }, { accessFlags := 0, nameIndex := 532, descriptorIndex := 821, attributes := #[] }, { accessFlags := 0, nameIndex := 5, descriptorIndex := 491, attributes := #[] }, { accessFlags := 0, nameIndex := 17, descriptorIndex := 337, attributes := #[] }] 49 2 #[1106, 1108, 575, 1110, 1112] #[{ accessFlags := 18, nameIndex := 13, descriptorIndex := 14, attributes := #[] }, { accessFlags := 18, nameIndex := 17, descriptorIndex := 18, attributes := #[] }, { accessFlags := 2, nameIndex := 21, descriptorIndex := 22, attributes := #[] }, { accessFlags := 2, nameIndex := 25, descriptorIndex := 26, attributes := #[] }, { accessFlags := 26, nameIndex := 1116, descriptorIndex := 1117, attributes := #[] }, { accessFlags := 24, nameIndex := 40, descriptorIndex := 26, attributes := #[] }, { accessFlags := 26, nameIndex := 1101, descriptorIndex := 1102, attributes := #[] }, { accessFlags := 26, nameIndex := 1121, descriptorIndex := 1122, attributes := #[] }, { accessFlags := 25, nameIndex := 599, descriptorIndex := 600, attributes := #[] }, { accessFlags := 24, nameIndex := 1125, descriptorIndex := 18, attributes := #[] }, { accessFlags := 24, nameIndex := 1127, descriptorIndex := 18, attributes := #[] }])
  fields := #[{ name := "value", type := (.array .byte), accessFlags := 18, slot := 0, constantValue := 0 }, { name := "coder", type := .byte, accessFlags := 18, slot := 1, constantValue := 0 }, { name := "hash", type := .int, accessFlags := 2, slot := 2, constantValue := 0 }, { name := "hashIsZero", type := .boolean, accessFlags := 2, slot := 3, constantValue := 0 }, { name := "serialVersionUID", type := .long, accessFlags := 26, slot := 0, constantValue := 0 }, { name := "COMPACT_STRINGS", type := .boolean, accessFlags := 24, slot := 1, constantValue := 0 }, { name := "serialPersistentFields", type := (.array (.object "java/io/ObjectStreamField")), accessFlags := 26, slot := 2, constantValue := 0 }, { name := "REPL", type := .char, accessFlags := 26, slot := 3, constantValue := 0 }, { name := "CASE_INSENSITIVE_ORDER", type := (.object "java/util/Comparator"), accessFlags := 25, slot := 4, constantValue := 0 }, { name := "LATIN1", type := .byte, accessFlags := 24, slot := 5, constantValue := 0 }, { name := "UTF16", type := .byte, accessFlags := 24, slot := 6, constantValue := 0 }]
  methods := #[k12m0, k12m1, k12m2, k12m3, k12m4, k12m5]
  instanceTypes := #[(.array .byte), .byte, .int, .boolean]
  staticTypes := #[.long, .boolean, (.array (.object "java/io/ObjectStreamField")), .char, (.object "java/util/Comparator"), .byte, .byte]
  resolved := Array.replicate 1451 none
  statics := some 2 }

def pool13 : Array CpInfo := pool [(2, .class_ 4), (1, u "java/lang/Object"), (0, u "<init>"), (0, u "()V"), (35, .class_ 44), (1, u "java/util/Objects"), (0, u "requireNonNull"), (48, u "(Ljava/lang/Object;Ljava/lang/String;)Ljava/lang/Object;")] 89

def k13m0 : Method := { name := "<init>", desc := "()V", sig := { parameters := [], returnType := none }, accessFlags := 2, code := none }
def k13c1 : Code := { maxStack := 3, maxLocals := 2, code := jdk_31_method_11_code, exceptionTable := #[], attributes := #[] }
def k13m1 : Method := { name := "requireNonNull", desc := "(Ljava/lang/Object;Ljava/lang/String;)Ljava/lang/Object;", sig := { parameters := [(.object "java/lang/Object"), (.object "java/lang/String")], returnType := some (.object "java/lang/Object") }, accessFlags := 9, code := some k13c1 }
/-- java/util/Objects -/
def k13 : Class := { plain "java/util/Objects" (some 0) with
  accessFlags := 49
  interfaces := #[]
  cf := some (fileOf pool13 42 #[] #[{ accessFlags := 2, nameIndex := 5, descriptorIndex := 6, attributes := #[] }, { accessFlags := 9, nameIndex := 45, descriptorIndex := 94, attributes := #[] }] 49 2 #[] #[])
  fields := #[]
  methods := #[k13m0, k13m1]
  instanceTypes := #[]
  staticTypes := #[]
  resolved := Array.replicate 184 none
  statics := none }

def pool14 : Array CpInfo := pool [(8, .class_ 10), (1, u "java/lang/Iterable"), (24, .class_ 36), (0, u "java/lang/Object")] 25

/-- java/lang/Iterable -/
def k14 : Class := { plain "java/lang/Iterable" (some 0) with
  accessFlags := 1537
  interfaces := #[]
  cf := some (fileOf pool14 8 #[] #[] 1537 35 #[] #[])
  fields := #[]
  methods := #[]
  instanceTypes := #[]
  staticTypes := #[]
  resolved := Array.replicate 62 none
  statics := none }

def pool15 : Array CpInfo := pool [(10, .class_ 12), (1, u "java/util/Collection"), (47, .class_ 61), (0, u "java/lang/Object"), (0, .class_ 63), (0, u "java/lang/Iterable")] 51

/-- java/util/Collection -/
def k15 : Class := { plain "java/util/Collection" (some 0) with
  accessFlags := 1537
  interfaces := #[14]
  cf := some (fileOf pool15 10 #[] #[] 1537 60 #[62] #[])
  fields := #[]
  methods := #[]
  instanceTypes := #[]
  staticTypes := #[]
  resolved := Array.replicate 115 none
  statics := none }

def pool16 : Array CpInfo := pool [(1, .methodref 2 3), (0, .class_ 4), (0, .nameAndType 5 6), (0, u "java/lang/Object"), (0, u "<init>"), (0, u "()V"), (1, .class_ 10), (1, u "java/util/AbstractCollection"), (66, .class_ 78), (0, u "java/util/Collection")] 81

def k16c0 : Code := { maxStack := 1, maxLocals := 1, code := jdk_22_method_1_code, exceptionTable := #[], attributes := #[] }
def k16m0 : Method := { name := "<init>", desc := "()V", sig := { parameters := [], returnType := none }, accessFlags := 4, code := some k16c0 }
/-- java/util/AbstractCollection -/
def k16 : Class := { plain "java/util/AbstractCollection" (some 0) with
  accessFlags := 1057
  interfaces := #[15]
  cf := some (fileOf pool16 8 #[] #[{ accessFlags := 4, nameIndex := 5, descriptorIndex := 6, attributes := #[] }] 1057 2 #[77] #[])
  fields := #[]
  methods := #[k16m0]
  instanceTypes := #[]
  staticTypes := #[]
  resolved := Array.replicate 160 none
  statics := none }

def pool17 : Array CpInfo := pool [(8, .class_ 10), (1, u "java/util/SequencedCollection"), (15, .class_ 27), (0, u "java/lang/Object"), (0, .class_ 29), (0, u "java/util/Collection")] 27

/-- java/util/SequencedCollection -/
def k17 : Class := { plain "java/util/SequencedCollection" (some 0) with
  accessFlags := 1537
  interfaces := #[15]
  cf := some (fileOf pool17 8 #[] #[] 1537 26 #[28] #[])
  fields := #[]
  methods := #[]
  instanceTypes := #[]
  staticTypes := #[]
  resolved := Array.replicate 57 none
  statics := none }

def pool18 : Array CpInfo := pool [(8, .class_ 10), (1, u "java/util/List"), (49, u "add"), (3, u "(Ljava/lang/Object;)Z"), (38, .class_ 104), (0, u "java/lang/Object"), (15, .class_ 121), (0, u "java/util/SequencedCollection")] 129

def k18m0 : Method := { name := "add", desc := "(Ljava/lang/Object;)Z", sig := { parameters := [(.object "java/lang/Object")], returnType := some .boolean }, accessFlags := 1025, code := none }
/-- java/util/List -/
def k18 : Class := { plain "java/util/List" (some 0) with
  accessFlags := 1537
  interfaces := #[17]
  cf := some (fileOf pool18 8 #[] #[{ accessFlags := 1025, nameIndex := 60, descriptorIndex := 64, attributes := #[] }] 1537 103 #[120] #[])
  fields := #[]
  methods := #[k18m0]
  instanceTypes := #[]
  staticTypes := #[]
  resolved := Array.replicate 251 none
  statics := none }

def pool19 : Array CpInfo := pool [(1, .methodref 2 3), (0, .class_ 4), (0, .nameAndType 5 6), (0, u "java/util/AbstractCollection"), (0, u "<init>"), (0, u "()V"), (0, .fieldref 8 9), (0, .class_ 10), (0, .nameAndType 11 12), (0, u "java/util/AbstractList"), (0, u "modCount"), (0, u "I"), (64, .class_ 78), (0, u "java/util/AbstractList$Itr"), (3, .class_ 83), (0, u "java/util/AbstractList$ListItr"), (9, .class_ 94), (0, u "java/util/AbstractList$RandomAccessSubList"), (3, .class_ 99), (0, u "java/util/AbstractList$SubList"), (33, .class_ 134), (0, u "java/util/List"), (73, .class_ 209), (0, u "java/util/AbstractList$SubList$1"), (0, .class_ 211), (0, u "java/util/AbstractList$RandomAccessSpliterator")] 6

def k19c0 : Code := { maxStack := 2, maxLocals := 1, code := jdk_39_method_1_code, exceptionTable := #[], attributes := #[] }
def k19m0 : Method := { name := "<init>", desc := "()V", sig := { parameters := [], returnType := none }, accessFlags := 4, code := some k19c0 }
/-- java/util/AbstractList -/
def k19 : Class := { plain "java/util/AbstractList" (some 16) with
  accessFlags := 1057
  interfaces := #[18]
  cf := some (fileOf pool19 8 #[.nestMembers #[93, 98, 208, 210, 82, 77]] #[{ accessFlags := 4, nameIndex := 5, descriptorIndex := 6, attributes := #[] }] 1057 2 #[133] #[{ accessFlags := 132, nameIndex := 11, descriptorIndex := 12, attributes := #[] }])
  fields := #[{ name := "modCount", type := .int, accessFlags := 132, slot := 0, constantValue := 0 }]
  methods := #[k19m0]
  instanceTypes := #[.int]
  staticTypes := #[]
  resolved := Array.replicate 218 none
  statics := none }

def pool20 : Array CpInfo := pool [(1, .class_ 2), (0, u "java/util/RandomAccess"), (0, .class_ 4), (0, u "java/lang/Object")] 2

/-- java/util/RandomAccess -/
def k20 : Class := { plain "java/util/RandomAccess" (some 0) with
  accessFlags := 1537
  interfaces := #[]
  cf := some (fileOf pool20 1 #[] #[] 1537 3 #[] #[])
  fields := #[]
  methods := #[]
  instanceTypes := #[]
  staticTypes := #[]
  resolved := Array.replicate 7 none
  statics := none }

def pool21 : Array CpInfo := pool [(1, .class_ 2), (0, u "java/lang/Cloneable"), (0, .class_ 4), (0, u "java/lang/Object")] 2

/-- java/lang/Cloneable -/
def k21 : Class := { plain "java/lang/Cloneable" (some 0) with
  accessFlags := 1537
  interfaces := #[]
  cf := some (fileOf pool21 1 #[] #[] 1537 3 #[] #[])
  fields := #[]
  methods := #[]
  instanceTypes := #[]
  staticTypes := #[]
  resolved := Array.replicate 7 none
  statics := none }

def pool22 : Array CpInfo := pool [(1, .methodref 2 3), (0, .class_ 4), (0, .nameAndType 5 6), (0, u "java/util/AbstractList"), (0, u "<init>"), (0, u "()V"), (0, .class_ 8), (0, u "java/lang/Object"), (0, .fieldref 10 11), (0, .class_ 12), (0, .nameAndType 13 14), (0, u "java/util/ArrayList"), (0, u "elementData"), (0, u "[Ljava/lang/Object;"), (2, u "EMPTY_ELEMENTDATA"), (23, u "DEFAULTCAPACITY_EMPTY_ELEMENTDATA"), (5, u "()[Ljava/lang/Object;"), (0, .fieldref 10 49), (0, .nameAndType 50 51), (0, u "size"), (0, u "I"), (6, .class_ 60), (1, u "java/util/Arrays"), (0, u "copyOf"), (1, .fieldref 10 64), (0, .nameAndType 65 51), (0, u "modCount"), (0, .methodref 58 67), (0, .nameAndType 61 68), (0, u "([Ljava/lang/Object;I)[Ljava/lang/Object;"), (0, .methodref 10 70), (0, .nameAndType 71 72), (0, u "grow"), (0, u "(I)[Ljava/lang/Object;"), (0, .methodref 74 75), (0, .class_ 76), (0, .nameAndType 77 78), (0, u "jdk/internal/util/ArraysSupport"), (0, u "newLength"), (0, u "(III)I"), (17, u "(Ljava/lang/Object;)Z"), (32, .methodref 10 130), (0, .nameAndType 71 47), (0, .methodref 10 132), (0, .nameAndType 133 134), (0, u "add"), (0, u "(Ljava/lang/Object;[Ljava/lang/Object;I)V"), (3, u "(I)V"), (9, .class_ 149), (0, u "java/util/List"), (112, .class_ 263), (0, u "java/util/ArrayList$ListItr"), (3, .class_ 268), (0, u "java/util/ArrayList$Itr"), (7, .class_ 277), (0, u "java/util/ArrayList$SubList"), (12, .class_ 291), (0, u "java/util/ArrayList$ArrayListSpliterator"), (37, .class_ 330), (0, u "java/util/RandomAccess"), (0, .class_ 332), (0, u "java/lang/Cloneable"), (0, .class_ 334), (0, u "java/io/Serializable"), (0, u "serialVersionUID"), (0, u "J"), (3, u "DEFAULT_CAPACITY"), (159, .class_ 501), (0, u "java/util/ArrayList$SubList$2"), (0, .class_ 503), (0, u "java/util/ArrayList$SubList$1")] 5

def k22c0 : Code := { maxStack := 4, maxLocals := 2, code := jdk_38_method_1_code, exceptionTable := #[], attributes := #[] }
def k22m0 : Method := { name := "<init>", desc := "(I)V", sig := { parameters := [.int], returnType := none }, accessFlags := 1, code := some k22c0 }
def k22m1 : Method := { name := "<init>", desc := "()V", sig := { parameters := [], returnType := none }, accessFlags := 1, code := none }
def k22c2 : Code := { maxStack := 4, maxLocals := 4, code := jdk_38_method_6_code, exceptionTable := #[], attributes := #[] }
def k22m2 : Method := { name := "grow", desc := "(I)[Ljava/lang/Object;", sig := { parameters := [.int], returnType := some (.array (.object "java/lang/Object")) }, accessFlags := 2, code := some k22c2 }
def k22c3 : Code := { maxStack := 3, maxLocals := 1, code := jdk_38_method_7_code, exceptionTable := #[], attributes := #[] }
def k22m3 : Method := { name := "grow", desc := "()[Ljava/lang/Object;", sig := { parameters := [], returnType := some (.array (.object "java/lang/Object")) }, accessFlags := 2, code := some k22c3 }
def k22c4 : Code := { maxStack := 3, maxLocals := 4, code := jdk_38_method_24_code, exceptionTable := #[], attributes := #[] }
def k22m4 : Method := { name := "add", desc := "(Ljava/lang/Object;[Ljava/lang/Object;I)V", sig := { parameters := [(.object "java/lang/Object"), (.array (.object "java/lang/Object")), .int], returnType := none }, accessFlags := 2, code := some k22c4 }
def k22c5 : Code := { maxStack := 4, maxLocals := 2, code := jdk_38_method_25_code, exceptionTable := #[], attributes := #[] }
def k22m5 : Method := { name := "add", desc := "(Ljava/lang/Object;)Z", sig := { parameters := [(.object "java/lang/Object")], returnType := some .boolean }, accessFlags := 1, code := some k22c5 }
/-- java/util/ArrayList -/
def k22 : Class := { plain "java/util/ArrayList" (some 19) with
  accessFlags := 33
  interfaces := #[18, 20, 21, 2]
  cf := some (fileOf pool22 10 #[.nestMembers #[290, 276, 500, 502, 262, 267]] #[{ accessFlags := 1, nameIndex := 5, descriptorIndex := 138, attributes := #[] }, { accessFlags := 1, nameIndex := 5, descriptorIndex := 6, attributes := #[] }, { accessFlags := 2, nameIndex := 71, descriptorIndex := 72, attributes := #[] }, { accessFlags := 2, nameIndex := 71, descriptorIndex := 47, attributes := #[] }, { accessFlags := 2, nameIndex := 133, descriptorIndex := 134, attributes := #[] }, { accessFlags := 1, nameIndex := 133, descriptorIndex := 96, attributes := #[] }] 33 2 #[148, 329, 331, 333] #[{ accessFlags := 26, nameIndex := 335, descriptorIndex := 336, attributes := #[] }, { accessFlags := 26, nameIndex := 340, descriptorIndex := 51, attributes := #[] }, { accessFlags := 26, nameIndex := 17, descriptorIndex := 14, attributes := #[] }, { accessFlags := 26, nameIndex := 41, descriptorIndex := 14, attributes := #[] }, { accessFlags := 128, nameIndex := 13, descriptorIndex := 14, attributes := #[] }, { accessFlags := 2, nameIndex := 50, descriptorIndex := 51, attributes := #[] }])
  fields := #[{ name := "serialVersionUID", type := .long, accessFlags := 26, slot := 0, constantValue := 0 }, { name := "DEFAULT_CAPACITY", type := .int, accessFlags := 26, slot := 1, constantValue := 0 }, { name := "EMPTY_ELEMENTDATA", type := (.array (.object "java/lang/Object")), accessFlags := 26, slot := 2, constantValue := 0 }, { name := "DEFAULTCAPACITY_EMPTY_ELEMENTDATA", type := (.array (.object "java/lang/Object")), accessFlags := 26, slot := 3, constantValue := 0 }, { name := "elementData", type := (.array (.object "java/lang/Object")), accessFlags := 128, slot := 1, constantValue := 0 }, { name := "size", type := .int, accessFlags := 2, slot := 2, constantValue := 0 }]
  methods := #[k22m0, k22m1, k22m2, k22m3, k22m4, k22m5]
  instanceTypes := #[.int, (.array (.object "java/lang/Object")), .int]
  staticTypes := #[.long, .int, (.array (.object "java/lang/Object")), (.array (.object "java/lang/Object"))]
  resolved := Array.replicate 509 none
  statics := none }

def pool23 : Array CpInfo := pool [(1, .class_ 2), (0, u "java/lang/Appendable"), (0, .class_ 4), (0, u "java/lang/Object")] 9

/-- java/lang/Appendable -/
def k23 : Class := { plain "java/lang/Appendable" (some 0) with
  accessFlags := 1537
  interfaces := #[]
  cf := some (fileOf pool23 1 #[] #[] 1537 3 #[] #[])
  fields := #[]
  methods := #[]
  instanceTypes := #[]
  staticTypes := #[]
  resolved := Array.replicate 14 none
  statics := none }

def pool24 : Array CpInfo := pool [(1, .class_ 2), (0, u "java/lang/String"), (0, .methodref 4 5), (0, .class_ 6), (0, .nameAndType 7 8), (0, u "java/lang/Object"), (0, u "<init>"), (0, u "()V"), (1, .class_ 12), (1, u "java/lang/AbstractStringBuilder"), (0, u "EMPTYVALUE"), (0, u "[B"), (0, .fieldref 10 16), (0, .nameAndType 17 14), (0, u "value"), (0, .fieldref 1 19), (0, .nameAndType 20 21), (0, u "COMPACT_STRINGS"), (0, u "Z"), (0, .fieldref 10 23), (0, .nameAndType 24 25), (0, u "coder"), (0, u "B"), (6, .methodref 1 33), (0, .nameAndType 34 35), (0, u "length"), (0, u "()I"), (3, .integer 2147483647), (0, .methodref 1 41), (0, .nameAndType 24 42), (0, u "()B"), (2, u "append"), (0, u "(Ljava/lang/String;)Ljava/lang/AbstractStringBuilder;"), (1, .class_ 49), (0, u "java/lang/CharSequence"), (19, u "(Ljava/lang/String;)V"), (5, u "maybeLatin1"), (3, .fieldref 10 80), (0, .nameAndType 81 82), (0, u "count"), (0, u "I"), (2, u "isLatin1"), (0, u "()Z"), (13, .methodref 10 101), (0, .nameAndType 102 103), (0, u "ensureCapacityInternal"), (0, u "(I)V"), (0, .methodref 10 105), (0, .nameAndType 106 107), (0, u "newCapacity"), (0, u "(I)I"), (0, .methodref 109 110), (0, .class_ 111), (0, .nameAndType 112 113), (0, u "java/util/Arrays"), (0, u "copyOf"), (0, u "([BI)[B"), (0, .methodref 115 116), (0, .class_ 117), (0, .nameAndType 118 119), (0, u "jdk/internal/util/ArraysSupport"), (0, u "newLength"), (0, u "(III)I"), (88, .methodref 10 209), (0, .nameAndType 210 211), (0, u "putStringAt"), (0, u "(ILjava/lang/String;)V"), (5, u "inflateIfNeededFor"), (2, .nameAndType 221 222), (0, u "getBytes"), (0, u "([BIB)V"), (174, .methodref 10 398), (0, .nameAndType 217 69), (0, .methodref 1 220), (3, u "()[B"), (40, .class_ 445), (0, u "java/lang/Appendable"), (106, u "getValue")] 56

def k24m0 : Method := { name := "<init>", desc := "()V", sig := { parameters := [], returnType := none }, accessFlags := 0, code := none }
def k24c1 : Code := { maxStack := 2, maxLocals := 2, code := jdk_68_method_2_code, exceptionTable := #[], attributes := #[] }
def k24m1 : Method := { name := "<init>", desc := "(I)V", sig := { parameters := [.int], returnType := none }, accessFlags := 0, code := some k24c1 }
def k24c2 : Code := { maxStack := 1, maxLocals := 1, code := jdk_68_method_6_code, exceptionTable := #[], attributes := #[] }
def k24m2 : Method := { name := "length", desc := "()I", sig := { parameters := [], returnType := some .int }, accessFlags := 1, code := some k24c2 }
def k24c3 : Code := { maxStack := 4, maxLocals := 3, code := jdk_68_method_9_code, exceptionTable := #[], attributes := #[] }
def k24m3 : Method := { name := "ensureCapacityInternal", desc := "(I)V", sig := { parameters := [.int], returnType := none }, accessFlags := 2, code := some k24c3 }
def k24c4 : Code := { maxStack := 5, maxLocals := 6, code := jdk_68_method_10_code, exceptionTable := #[], attributes := #[] }
def k24m4 : Method := { name := "newCapacity", desc := "(I)I", sig := { parameters := [.int], returnType := some .int }, accessFlags := 2, code := some k24c4 }
def k24c5 : Code := { maxStack := 3, maxLocals := 3, code := jdk_68_method_22_code, exceptionTable := #[], attributes := #[] }
def k24m5 : Method := { name := "append", desc := "(Ljava/lang/String;)Ljava/lang/AbstractStringBuilder;", sig := { parameters := [(.object "java/lang/String")], returnType := some (.object "java/lang/AbstractStringBuilder") }, accessFlags := 1, code := some k24c5 }
def k24c6 : Code := { maxStack := 1, maxLocals := 1, code := jdk_68_method_64_code, exceptionTable := #[], attributes := #[] }
def k24m6 : Method := { name := "getValue", desc := "()[B", sig := { parameters := [], returnType := some (.array .byte) }, accessFlags := 16, code := some k24c6 }
def k24c7 : Code := { maxStack := 1, maxLocals := 1, code := jdk_68_method_68_code, exceptionTable := #[], attributes := #[] }
def k24m7 : Method := { name := "isLatin1", desc := "()Z", sig := { parameters := [], returnType := some .boolean }, accessFlags := 16, code := some k24c7 }
def k24c8 : Code := { maxStack := 2, maxLocals := 2, code := jdk_68_method_71_code, exceptionTable := #[], attributes := #[] }
def k24m8 : Method := { name := "inflateIfNeededFor", desc := "(Ljava/lang/String;)V", sig := { parameters := [(.object "java/lang/String")], returnType := none }, accessFlags := 2, code := some k24c8 }
def k24c9 : Code := { maxStack := 4, maxLocals := 3, code := jdk_68_method_73_code, exceptionTable := #[], attributes := #[] }
def k24m9 : Method := { name := "putStringAt", desc := "(ILjava/lang/String;)V", sig := { parameters := [.int, (.object "java/lang/String")], returnType := none }, accessFlags := 2, code := some k24c9 }
/-- java/lang/AbstractStringBuilder -/
def k24 : Class := { plain "java/lang/AbstractStringBuilder" (some 0) with
  accessFlags := 1056
  interfaces := #[23, 10]
  cf := some (fileOf pool24 10 #[] #[{ accessFlags := 0, nameIndex := 7, descriptorIndex := 8, attributes := #[] }, { accessFlags := 0, nameIndex := 7, descriptorIndex := 103, attributes := #[] }, { accessFlags := 1, nameIndex := 34, descriptorIndex := 35, attributes := #[] }, { accessFlags := 2, nameIndex := 102, descriptorIndex := 103, attributes := #[] }, { accessFlags := 2, nameIndex := 106, descriptorIndex := 107, attributes := #[] }, { accessFlags := 1, nameIndex := 45, descriptorIndex := 46, attributes := #[] }, { accessFlags := 16, nameIndex := 552, descriptorIndex := 403, attributes := #[] }, { accessFlags := 16, nameIndex := 85, descriptorIndex := 86, attributes := #[] }, { accessFlags := 2, nameIndex := 217, descriptorIndex := 69, attributes := #[] }, { accessFlags := 2, nameIndex := 210, descriptorIndex := 211, attributes := #[] }] 1056 4 #[444, 48] #[{ accessFlags := 0, nameIndex := 17, descriptorIndex := 14, attributes := #[] }, { accessFlags := 0, nameIndex := 24, descriptorIndex := 25, attributes := #[] }, { accessFlags := 0, nameIndex := 75, descriptorIndex := 21, attributes := #[] }, { accessFlags := 0, nameIndex := 81, descriptorIndex := 82, attributes := #[] }, { accessFlags := 26, nameIndex := 13, descriptorIndex := 14, attributes := #[] }])
  fields := #[{ name := "value", type := (.array .byte), accessFlags := 0, slot := 0, constantValue := 0 }, { name := "coder", type := .byte, accessFlags := 0, slot := 1, constantValue := 0 }, { name := "maybeLatin1", type := .boolean, accessFlags := 0, slot := 2, constantValue := 0 }, { name := "count", type := .int, accessFlags := 0, slot := 3, constantValue := 0 }, { name := "EMPTYVALUE", type := (.array .byte), accessFlags := 26, slot := 0, constantValue := 0 }]
  methods := #[k24m0, k24m1, k24m2, k24m3, k24m4, k24m5, k24m6, k24m7, k24m8, k24m9]
  instanceTypes := #[(.array .byte), .byte, .boolean, .int]
  staticTypes := #[(.array .byte)]
  resolved := Array.replicate 609 none
  statics := none }

def pool25 : Array CpInfo := pool [(1, .methodref 2 3), (0, .class_ 4), (0, .nameAndType 5 6), (0, u "java/lang/AbstractStringBuilder"), (0, u "<init>"), (0, u "(I)V"), (11, .class_ 20), (1, u "java/lang/String"), (3, .class_ 26), (1, u "java/lang/StringBuilder"), (0, u "append"), (0, u "(Ljava/lang/String;)Ljava/lang/StringBuilder;"), (0, .methodref 2 30), (0, .nameAndType 27 31), (0, u "(Ljava/lang/String;)Ljava/lang/AbstractStringBuilder;"), (105, .methodref 18 138), (0, .nameAndType 5 139), (0, u "(Ljava/lang/StringBuilder;)V"), (5, u "()V"), (10, u "()I"), (186, .methodref 2 344), (0, .nameAndType 345 156), (0, u "length"), (3, .class_ 350), (0, u "java/lang/Appendable"), (0, .class_ 352), (0, u "java/io/Serializable"), (0, .class_ 354), (0, u "java/lang/Comparable"), (0, .class_ 356), (0, u "java/lang/CharSequence"), (0, u "serialVersionUID"), (0, u "J"), (40, u "toString"), (0, u "()Ljava/lang/String;")] 21

def k25c0 : Code := { maxStack := 2, maxLocals := 1, code := jdk_67_method_1_code, exceptionTable := #[], attributes := #[] }
def k25m0 : Method := { name := "<init>", desc := "()V", sig := { parameters := [], returnType := none }, accessFlags := 1, code := some k25c0 }
def k25c1 : Code := { maxStack := 2, maxLocals := 2, code := jdk_67_method_7_code, exceptionTable := #[], attributes := #[] }
def k25m1 : Method := { name := "append", desc := "(Ljava/lang/String;)Ljava/lang/StringBuilder;", sig := { parameters := [(.object "java/lang/String")], returnType := some (.object "java/lang/StringBuilder") }, accessFlags := 1, code := some k25c1 }
def k25c2 : Code := { maxStack := 3, maxLocals := 1, code := jdk_67_method_42_code, exceptionTable := #[], attributes := #[] }
def k25m2 : Method := { name := "toString", desc := "()Ljava/lang/String;", sig := { parameters := [], returnType := some (.object "java/lang/String") }, accessFlags := 1, code := some k25c2 }
def k25c3 : Code := { maxStack := 1, maxLocals := 1, code := jdk_67_method_93_code, exceptionTable := #[], attributes := #[] }
def k25m3 : Method := { name := "length", desc := "()I", sig := { parameters := [], returnType := some .int }, accessFlags := 4161, code := some k25c3 }
/-- java/lang/StringBuilder -/
def k25 : Class := { plain "java/lang/StringBuilder" (some 24) with
  accessFlags := 49
  interfaces := #[23, 2, 7, 10]
  cf := some (fileOf pool25 24 #[] #[{ accessFlags := 1, nameIndex := 5, descriptorIndex := 145, attributes := #[] }, { accessFlags := 1, nameIndex := 27, descriptorIndex := 28, attributes := #[] }, { accessFlags := 1, nameIndex := 399, descriptorIndex := 400, attributes := #[] }, { accessFlags := 4161, nameIndex := 345, descriptorIndex := 156, attributes := #[] }] 49 2 #[349, 351, 353, 355] #[{ accessFlags := 24, nameIndex := 357, descriptorIndex := 358, attributes := #[] }])
  fields := #[{ name := "serialVersionUID", type := .long, accessFlags := 24, slot := 0, constantValue := 0 }]
  methods := #[k25m0, k25m1, k25m2, k25m3]
  instanceTypes := #[(.array .byte), .byte, .boolean, .int]
  staticTypes := #[.long]
  resolved := Array.replicate 422 none
  statics := none }

def pool26 : Array CpInfo := pool [(2, .class_ 4), (1, u "java/lang/Object"), (0, u "<init>"), (0, u "()V"), (1, .class_ 10), (1, u "java/lang/System"), (0, u "allowSecurityManager"), (0, u "I"), (16, u "cons"), (0, u "Ljava/io/Console;"), (77, .class_ 110), (1, u "java/lang/System$CallersHolder"), (43, u "initialErrStream"), (0, u "Ljava/io/PrintStream;"), (19, u "security"), (0, u "Ljava/lang/SecurityManager;"), (31, .class_ 209), (0, u "java/lang/System$1"), (7, u "props"), (0, u "Ljava/util/Properties;"), (2, u "lineSeparator"), (0, u "Ljava/lang/String;"), (96, .class_ 321), (1, u "java/lang/System$LoggerFinder"), (5, .class_ 328), (0, u "java/lang/System$Logger"), (67, u "err"), (2, u "out"), (91, u "notSupportedJnuEncoding"), (15, u "in"), (17, u "initialIn"), (0, u "Ljava/io/InputStream;"), (35, u "bootLayer"), (0, u "Ljava/lang/ModuleLayer;"), (99, .class_ 664), (0, u "java/lang/System$2"), (9, u "NEVER"), (2, u "MAYBE"), (49, u "arraycopy"), (0, u "(Ljava/lang/Object;ILjava/lang/Object;II)V"), (72, .class_ 802), (0, u "java/lang/System$Logger$Level")] 31

def k26m0 : Method := { name := "<init>", desc := "()V", sig := { parameters := [], returnType := none }, accessFlags := 2, code := none }
def k26m1 : Method := { name := "arraycopy", desc := "(Ljava/lang/Object;ILjava/lang/Object;II)V", sig := { parameters := [(.object "java/lang/Object"), .int, (.object "java/lang/Object"), .int, .int], returnType := none }, accessFlags := 265, code := none }
/-- java/lang/System -/
def k26 : Class := { plain "java/lang/System" (some 0) with
  accessFlags := 49
  interfaces := #[]
  cf := some (fileOf pool26 8 #[.nestMembers #[319, 327, 801, 108, 663, 208]] #[{ accessFlags := 2, nameIndex := 5, descriptorIndex := 6, attributes := #[] }, { accessFlags := 265, nameIndex := 727, descriptorIndex := 728, attributes := #[] }] 49 2 #[] #[{ accessFlags := 25, nameIndex := 507, descriptorIndex := 526, attributes := #[] }, { accessFlags := 25, nameIndex := 399, descriptorIndex := 155, attributes := #[] }, { accessFlags := 25, nameIndex := 396, descriptorIndex := 155, attributes := #[] }, { accessFlags := 10, nameIndex := 525, descriptorIndex := 526, attributes := #[] }, { accessFlags := 26, nameIndex := 674, descriptorIndex := 12, attributes := #[] }, { accessFlags := 26, nameIndex := 677, descriptorIndex := 12, attributes := #[] }, { accessFlags := 10, nameIndex := 11, descriptorIndex := 12, attributes := #[] }, { accessFlags := 74, nameIndex := 175, descriptorIndex := 176, attributes := #[] }, { accessFlags := 10, nameIndex := 491, descriptorIndex := 222, attributes := #[] }, { accessFlags := 74, nameIndex := 29, descriptorIndex := 30, attributes := #[] }, { accessFlags := 74, nameIndex := 154, descriptorIndex := 155, attributes := #[] }, { accessFlags := 10, nameIndex := 217, descriptorIndex := 218, attributes := #[] }, { accessFlags := 10, nameIndex := 221, descriptorIndex := 222, attributes := #[] }, { accessFlags := 8, nameIndex := 562, descriptorIndex := 563, attributes := #[] }])
  fields := #[{ name := "in", type := (.object "java/io/InputStream"), accessFlags := 25, slot := 0, constantValue := 0 }, { name := "out", type := (.object "java/io/PrintStream"), accessFlags := 25, slot := 1, constantValue := 0 }, { name := "err", type := (.object "java/io/PrintStream"), accessFlags := 25, slot := 2, constantValue := 0 }, { name := "initialIn", type := (.object "java/io/InputStream"), accessFlags := 10, slot := 3, constantValue := 0 }, { name := "NEVER", type := .int, accessFlags := 26, slot := 4, constantValue := 0 }, { name := "MAYBE", type := .int, accessFlags := 26, slot := 5, constantValue := 0 }, { name := "allowSecurityManager", type := .int, accessFlags := 10, slot := 6, constantValue := 0 }, { name := "security", type := (.object "java/lang/SecurityManager"), accessFlags := 74, slot := 7, constantValue := 0 }, { name := "notSupportedJnuEncoding", type := (.object "java/lang/String"), accessFlags := 10, slot := 8, constantValue := 0 }, { name := "cons", type := (.object "java/io/Console"), accessFlags := 74, slot := 9, constantValue := 0 }, { name := "initialErrStream", type := (.object "java/io/PrintStream"), accessFlags := 74, slot := 10, constantValue := 0 }, { name := "props", type := (.object "java/util/Properties"), accessFlags := 10, slot := 11, constantValue := 0 }, { name := "lineSeparator", type := (.object "java/lang/String"), accessFlags := 10, slot := 12, constantValue := 0 }, { name := "bootLayer", type := (.object "java/lang/ModuleLayer"), accessFlags := 8, slot := 13, constantValue := 0 }]
  methods := #[k26m0, k26m1]
  instanceTypes := #[]
  staticTypes := #[(.object "java/io/InputStream"), (.object "java/io/PrintStream"), (.object "java/io/PrintStream"), (.object "java/io/InputStream"), .int, .int, .int, (.object "java/lang/SecurityManager"), (.object "java/lang/String"), (.object "java/io/Console"), (.object "java/io/PrintStream"), (.object "java/util/Properties"), (.object "java/lang/String"), (.object "java/lang/ModuleLayer")]
  resolved := Array.replicate 834 none
  statics := none }

def pool27 : Array CpInfo := pool [(9, u "<init>"), (6, .class_ 18), (1, u "java/lang/Object"), (0, u "()V"), (1, .class_ 23), (1, u "jdk/internal/util/ArraysSupport"), (0, u "LOG2_ARRAY_LONG_INDEX_SCALE"), (0, u "I"), (2, u "U"), (0, u "Ljdk/internal/misc/Unsafe;"), (8, u "BIG_ENDIAN"), (0, u "Z"), (8, u "LOG2_BYTE_BIT_SIZE"), (4, u "LOG2_ARRAY_INT_INDEX_SCALE"), (54, u "JLA"), (0, u "Ljdk/internal/access/JavaLangAccess;"), (11, u "LOG2_ARRAY_BOOLEAN_INDEX_SCALE"), (9, u "LOG2_ARRAY_BYTE_INDEX_SCALE"), (5, u "LOG2_ARRAY_CHAR_INDEX_SCALE"), (5, u "LOG2_ARRAY_SHORT_INDEX_SCALE"), (18, u "LOG2_ARRAY_FLOAT_INDEX_SCALE"), (24, u "LOG2_ARRAY_DOUBLE_INDEX_SCALE"), (6, .methodref 195 196), (0, .class_ 197), (0, .nameAndType 198 199), (0, u "java/lang/Math"), (0, u "max"), (0, u "(II)I"), (0, .integer 2147483639), (76, u "T_BOOLEAN"), (2, u "T_CHAR"), (1, u "T_FLOAT"), (1, u "T_DOUBLE"), (1, u "T_BYTE"), (1, u "T_SHORT"), (1, u "T_INT"), (1, u "T_LONG"), (1, u "SOFT_MAX_ARRAY_LENGTH"), (56, u "newLength"), (0, u "(III)I")] 25

def k27m0 : Method := { name := "<init>", desc := "()V", sig := { parameters := [], returnType := none }, accessFlags := 2, code := none }
def k27c1 : Code := { maxStack := 3, maxLocals := 4, code := jdk_48_method_27_code, exceptionTable := #[], attributes := #[] }
def k27m1 : Method := { name := "newLength", desc := "(III)I", sig := { parameters := [.int, .int, .int], returnType := some .int }, accessFlags := 9, code := some k27c1 }
/-- jdk/internal/util/ArraysSupport -/
def k27 : Class := { plain "jdk/internal/util/ArraysSupport" (some 0) with
  accessFlags := 33
  interfaces := #[]
  cf := some (fileOf pool27 21 #[] #[{ accessFlags := 2, nameIndex := 9, descriptorIndex := 19, attributes := #[] }, { accessFlags := 9, nameIndex := 351, descriptorIndex := 352, attributes := #[] }] 33 16 #[] #[{ accessFlags := 24, nameIndex := 28, descriptorIndex := 29, attributes := #[] }, { accessFlags := 26, nameIndex := 38, descriptorIndex := 39, attributes := #[] }, { accessFlags := 25, nameIndex := 121, descriptorIndex := 25, attributes := #[] }, { accessFlags := 25, nameIndex := 131, descriptorIndex := 25, attributes := #[] }, { accessFlags := 25, nameIndex := 137, descriptorIndex := 25, attributes := #[] }, { accessFlags := 25, nameIndex := 143, descriptorIndex := 25, attributes := #[] }, { accessFlags := 25, nameIndex := 53, descriptorIndex := 25, attributes := #[] }, { accessFlags := 25, nameIndex := 24, descriptorIndex := 25, attributes := #[] }, { accessFlags := 25, nameIndex := 162, descriptorIndex := 25, attributes := #[] }, { accessFlags := 25, nameIndex := 187, descriptorIndex := 25, attributes := #[] }, { accessFlags := 26, nameIndex := 48, descriptorIndex := 25, attributes := #[] }, { accessFlags := 25, nameIndex := 277, descriptorIndex := 25, attributes := #[] }, { accessFlags := 25, nameIndex := 280, descriptorIndex := 25, attributes := #[] }, { accessFlags := 25, nameIndex := 282, descriptorIndex := 25, attributes := #[] }, { accessFlags := 25, nameIndex := 284, descriptorIndex := 25, attributes := #[] }, { accessFlags := 25, nameIndex := 286, descriptorIndex := 25, attributes := #[] }, { accessFlags := 25, nameIndex := 288, descriptorIndex := 25, attributes := #[] }, { accessFlags := 25, nameIndex := 290, descriptorIndex := 25, attributes := #[] }, { accessFlags := 25, nameIndex := 292, descriptorIndex := 25, attributes := #[] }, { accessFlags := 26, nameIndex := 108, descriptorIndex := 109, attributes := #[] }, { accessFlags := 25, nameIndex := 294, descriptorIndex := 25, attributes := #[] }])
  fields := #[{ name := "U", type := (.object "jdk/internal/misc/Unsafe"), accessFlags := 24, slot := 0, constantValue := 0 }, { name := "BIG_ENDIAN", type := .boolean, accessFlags := 26, slot := 1, constantValue := 0 }, { name := "LOG2_ARRAY_BOOLEAN_INDEX_SCALE", type := .int, accessFlags := 25, slot := 2, constantValue := 0 }, { name := "LOG2_ARRAY_BYTE_INDEX_SCALE", type := .int, accessFlags := 25, slot := 3, constantValue := 0 }, { name := "LOG2_ARRAY_CHAR_INDEX_SCALE", type := .int, accessFlags := 25, slot := 4, constantValue := 0 }, { name := "LOG2_ARRAY_SHORT_INDEX_SCALE", type := .int, accessFlags := 25, slot := 5, constantValue := 0 }, { name := "LOG2_ARRAY_INT_INDEX_SCALE", type := .int, accessFlags := 25, slot := 6, constantValue := 0 }, { name := "LOG2_ARRAY_LONG_INDEX_SCALE", type := .int, accessFlags := 25, slot := 7, constantValue := 0 }, { name := "LOG2_ARRAY_FLOAT_INDEX_SCALE", type := .int, accessFlags := 25, slot := 8, constantValue := 0 }, { name := "LOG2_ARRAY_DOUBLE_INDEX_SCALE", type := .int, accessFlags := 25, slot := 9, constantValue := 0 }, { name := "LOG2_BYTE_BIT_SIZE", type := .int, accessFlags := 26, slot := 10, constantValue := 0 }, { name := "T_BOOLEAN", type := .int, accessFlags := 25, slot := 11, constantValue := 0 }, { name := "T_CHAR", type := .int, accessFlags := 25, slot := 12, constantValue := 0 }, { name := "T_FLOAT", type := .int, accessFlags := 25, slot := 13, constantValue := 0 }, { name := "T_DOUBLE", type := .int, accessFlags := 25, slot := 14, constantValue := 0 }, { name := "T_BYTE", type := .int, accessFlags := 25, slot := 15, constantValue := 0 }, { name := "T_SHORT", type := .int, accessFlags := 25, slot := 16, constantValue := 0 }, { name := "T_INT", type := .int, accessFlags := 25, slot := 17, constantValue := 0 }, { name := "T_LONG", type := .int, accessFlags := 25, slot := 18, constantValue := 0 }, { name := "JLA", type := (.object "jdk/internal/access/JavaLangAccess"), accessFlags := 26, slot := 19, constantValue := 0 }, { name := "SOFT_MAX_ARRAY_LENGTH", type := .int, accessFlags := 25, slot := 20, constantValue := 0 }]
  methods := #[k27m0, k27m1]
  instanceTypes := #[]
  staticTypes := #[(.object "jdk/internal/misc/Unsafe"), .boolean, .int, .int, .int, .int, .int, .int, .int, .int, .int, .int, .int, .int, .int, .int, .int, .int, .int, (.object "jdk/internal/access/JavaLangAccess"), .int]
  resolved := Array.replicate 378 none
  statics := none }

def pool28 : Array CpInfo := pool [(1, .class_ 2), (0, u "java/lang/Math"), (1, .class_ 6), (1, u "java/lang/Object"), (0, u "<init>"), (0, u "()V"), (89, .class_ 100), (1, u "java/lang/Math$RandomNumberGeneratorHolder"), (71, u "negativeZeroFloatBits"), (0, u "J"), (2, u "negativeZeroDoubleBits"), (21, u "max"), (2, u "min"), (43, u "$assertionsDisabled"), (0, u "Z"), (88, u "(II)I"), (2, u "twoToTheDoubleScaleDown"), (0, u "D"), (4, u "twoToTheDoubleScaleUp"), (9, u "E"), (3, u "PI"), (2, u "TAU"), (2, u "DEGREES_TO_RADIANS"), (0, u "RADIANS_TO_DEGREES")] 94

def k28m0 : Method := { name := "<init>", desc := "()V", sig := { parameters := [], returnType := none }, accessFlags := 2, code := none }
def k28c1 : Code := { maxStack := 2, maxLocals := 2, code := jdk_29_method_65_code, exceptionTable := #[], attributes := #[] }
def k28m1 : Method := { name := "max", desc := "(II)I", sig := { parameters := [.int, .int], returnType := some .int }, accessFlags := 9, code := some k28c1 }
def k28c2 : Code := { maxStack := 2, maxLocals := 2, code := jdk_29_method_69_code, exceptionTable := #[], attributes := #[] }
def k28m2 : Method := { name := "min", desc := "(II)I", sig := { parameters := [.int, .int], returnType := some .int }, accessFlags := 9, code := some k28c2 }
/-- java/lang/Math -/
def k28 : Class := { plain "java/lang/Math" (some 0) with
  accessFlags := 49
  interfaces := #[]
  cf := some (fileOf pool28 1 #[.nestMembers #[98]] #[{ accessFlags := 2, nameIndex := 7, descriptorIndex := 8, attributes := #[] }, { accessFlags := 9, nameIndex := 198, descriptorIndex := 335, attributes := #[] }, { accessFlags := 9, nameIndex := 201, descriptorIndex := 335, attributes := #[] }] 49 4 #[] #[{ accessFlags := 25, nameIndex := 354, descriptorIndex := 339, attributes := #[] }, { accessFlags := 25, nameIndex := 358, descriptorIndex := 339, attributes := #[] }, { accessFlags := 25, nameIndex := 361, descriptorIndex := 339, attributes := #[] }, { accessFlags := 26, nameIndex := 364, descriptorIndex := 339, attributes := #[] }, { accessFlags := 26, nameIndex := 365, descriptorIndex := 339, attributes := #[] }, { accessFlags := 26, nameIndex := 172, descriptorIndex := 173, attributes := #[] }, { accessFlags := 26, nameIndex := 176, descriptorIndex := 173, attributes := #[] }, { accessFlags := 8, nameIndex := 344, descriptorIndex := 339, attributes := #[] }, { accessFlags := 8, nameIndex := 338, descriptorIndex := 339, attributes := #[] }, { accessFlags := 4120, nameIndex := 245, descriptorIndex := 246, attributes := #[] }])
  fields := #[{ name := "E", type := .double, accessFlags := 25, slot := 0, constantValue := 0 }, { name := "PI", type := .double, accessFlags := 25, slot := 1, constantValue := 0 }, { name := "TAU", type := .double, accessFlags := 25, slot := 2, constantValue := 0 }, { name := "DEGREES_TO_RADIANS", type := .double, accessFlags := 26, slot := 3, constantValue := 0 }, { name := "RADIANS_TO_DEGREES", type := .double, accessFlags := 26, slot := 4, constantValue := 0 }, { name := "negativeZeroFloatBits", type := .long, accessFlags := 26, slot := 5, constantValue := 0 }, { name := "negativeZeroDoubleBits", type := .long, accessFlags := 26, slot := 6, constantValue := 0 }, { name := "twoToTheDoubleScaleUp", type := .double, accessFlags := 8, slot := 7, constantValue := 0 }, { name := "twoToTheDoubleScaleDown", type := .double, accessFlags := 8, slot := 8, constantValue := 0 }, { name := "$assertionsDisabled", type := .boolean, accessFlags := 4120, slot := 9, constantValue := 0 }]
  methods := #[k28m0, k28m1, k28m2]
  instanceTypes := #[]
  staticTypes := #[.double, .double, .double, .double, .double, .long, .long, .double, .double, .boolean]
  resolved := Array.replicate 460 none
  statics := none }

def pool29 : Array CpInfo := pool [(2, .class_ 4), (1, u "java/lang/Object"), (0, u "<init>"), (0, u "()V"), (7, .class_ 16), (1, u "java/util/Arrays"), (57, .class_ 76), (1, u "java/util/Arrays$NaturalOrder"), (9, .methodref 2 87), (0, .nameAndType 88 89), (0, u "getClass"), (0, u "()Ljava/lang/Class;"), (20, .class_ 111), (0, u "[Ljava/lang/Object;"), (1, .class_ 115), (1, u "java/util/Arrays$LegacyMergeSort"), (1, u "Z"), (21, u "copyOfRange"), (10, .methodref 151 152), (0, .class_ 153), (0, .nameAndType 154 155), (0, u "java/lang/System"), (0, u "arraycopy"), (0, u "(Ljava/lang/Object;ILjava/lang/Object;II)V"), (144, .methodref 14 301), (0, .nameAndType 302 303), (0, u "copyOf"), (0, u "([Ljava/lang/Object;ILjava/lang/Class;)[Ljava/lang/Object;"), (0, .methodref 305 306), (0, .class_ 307), (0, .nameAndType 308 309), (0, u "java/lang/Math"), (0, u "min"), (0, u "(II)I"), (29, .methodref 14 340), (0, .nameAndType 341 342), (0, u "copyOfRangeByte"), (0, u "([BII)[B"), (0, .methodref 14 344), (0, .nameAndType 345 346), (0, u "checkLength"), (0, u "(II)V"), (28, .class_ 376), (0, u "java/util/Arrays$ArrayList"), (68, u "$assertionsDisabled"), (269, u "MIN_ARRAY_SORT_GRAN"), (0, u "I"), (2, u "INSERTIONSORT_THRESHOLD"), (140, u "([Ljava/lang/Object;I)[Ljava/lang/Object;"), (8, u "([BI)[B"), (105, .class_ 976), (0, u "java/util/Arrays$ArrayItr")] 52

def k29m0 : Method := { name := "<init>", desc := "()V", sig := { parameters := [], returnType := none }, accessFlags := 2, code := none }
def k29c1 : Code := { maxStack := 3, maxLocals := 2, code := jdk_65_method_119_code, exceptionTable := #[], attributes := #[] }
def k29m1 : Method := { name := "copyOf", desc := "([Ljava/lang/Object;I)[Ljava/lang/Object;", sig := { parameters := [(.array (.object "java/lang/Object")), .int], returnType := some (.array (.object "java/lang/Object")) }, accessFlags := 9, code := some k29c1 }
def k29c2 : Code := { maxStack := 6, maxLocals := 4, code := jdk_65_method_120_code, exceptionTable := #[], attributes := #[] }
def k29m2 : Method := { name := "copyOf", desc := "([Ljava/lang/Object;ILjava/lang/Class;)[Ljava/lang/Object;", sig := { parameters := [(.array (.object "java/lang/Object")), .int, (.object "java/lang/Class")], returnType := some (.array (.object "java/lang/Object")) }, accessFlags := 9, code := some k29c2 }
def k29c3 : Code := { maxStack := 6, maxLocals := 3, code := jdk_65_method_121_code, exceptionTable := #[], attributes := #[] }
def k29m3 : Method := { name := "copyOf", desc := "([BI)[B", sig := { parameters := [(.array .byte), .int], returnType := some (.array .byte) }, accessFlags := 9, code := some k29c3 }
def k29c4 : Code := { maxStack := 4, maxLocals := 2, code := jdk_65_method_131_code, exceptionTable := #[], attributes := #[] }
def k29m4 : Method := { name := "checkLength", desc := "(II)V", sig := { parameters := [.int, .int], returnType := none }, accessFlags := 10, code := some k29c4 }
def k29c5 : Code := { maxStack := 3, maxLocals := 3, code := jdk_65_method_132_code, exceptionTable := #[], attributes := #[] }
def k29m5 : Method := { name := "copyOfRange", desc := "([BII)[B", sig := { parameters := [(.array .byte), .int, .int], returnType := some (.array .byte) }, accessFlags := 9, code := some k29c5 }
def k29c6 : Code := { maxStack := 6, maxLocals := 5, code := jdk_65_method_133_code, exceptionTable := #[], attributes := #[] }
def k29m6 : Method := { name := "copyOfRangeByte", desc := "([BII)[B", sig := { parameters := [(.array .byte), .int, .int], returnType := some (.array .byte) }, accessFlags := 10, code := some k29c6 }
/-- java/util/Arrays -/
def k29 : Class := { plain "java/util/Arrays" (some 0) with
  accessFlags := 49
  interfaces := #[]
  cf := some (fileOf pool29 14 #[.nestMembers #[975, 375, 113, 74]] #[{ accessFlags := 2, nameIndex := 5, descriptorIndex := 6, attributes := #[] }, { accessFlags := 9, nameIndex := 302, descriptorIndex := 860, attributes := #[] }, { accessFlags := 9, nameIndex := 302, descriptorIndex := 303, attributes := #[] }, { accessFlags := 9, nameIndex := 302, descriptorIndex := 869, attributes := #[] }, { accessFlags := 10, nameIndex := 345, descriptorIndex := 346, attributes := #[] }, { accessFlags := 9, nameIndex := 139, descriptorIndex := 342, attributes := #[] }, { accessFlags := 10, nameIndex := 341, descriptorIndex := 342, attributes := #[] }] 49 2 #[] #[{ accessFlags := 26, nameIndex := 715, descriptorIndex := 716, attributes := #[] }, { accessFlags := 26, nameIndex := 719, descriptorIndex := 716, attributes := #[] }, { accessFlags := 4120, nameIndex := 445, descriptorIndex := 117, attributes := #[] }])
  fields := #[{ name := "MIN_ARRAY_SORT_GRAN", type := .int, accessFlags := 26, slot := 0, constantValue := 0 }, { name := "INSERTIONSORT_THRESHOLD", type := .int, accessFlags := 26, slot := 1, constantValue := 0 }, { name := "$assertionsDisabled", type := .boolean, accessFlags := 4120, slot := 2, constantValue := 0 }]
  methods := #[k29m0, k29m1, k29m2, k29m3, k29m4, k29m5, k29m6]
  instanceTypes := #[]
  staticTypes := #[.int, .int, .boolean]
  resolved := Array.replicate 1029 none
  statics := none }

def pool30 : Array CpInfo := pool [(2, .class_ 4), (1, u "java/lang/Object"), (0, u "<init>"), (0, u "()V"), (12, .class_ 20), (0, u "java/util/Collections"), (63, u "r"), (0, u "Ljava/util/Random;"), (80, .class_ 167), (0, u "java/util/Collections$UnmodifiableCollection"), (6, .class_ 175), (0, u "java/util/Collections$UnmodifiableSequencedCollection"), (6, .class_ 183), (0, u "java/util/Collections$UnmodifiableSet"), (6, .class_ 191), (0, u "java/util/Collections$UnmodifiableSequencedSet"), (6, .class_ 199), (0, u "java/util/Collections$UnmodifiableSortedSet"), (6, .class_ 207), (0, u "java/util/Collections$UnmodifiableNavigableSet"), (4, .class_ 213), (0, u "java/util/Collections$UnmodifiableList"), (1, .class_ 216), (0, u "java/util/Collections$UnmodifiableRandomAccessList"), (6, .class_ 224), (0, u "java/util/Collections$UnmodifiableMap"), (6, .class_ 232), (0, u "java/util/Collections$UnmodifiableSequencedMap"), (4, .class_ 238), (0, u "java/util/Collections$UnmodifiableSortedMap"), (6, .class_ 246), (0, u "java/util/Collections$UnmodifiableNavigableMap"), (3, .class_ 251), (0, u "java/util/Collections$SynchronizedCollection"), (4, .class_ 257), (0, u "java/util/Collections$SynchronizedSet"), (4, .class_ 263), (0, u "java/util/Collections$SynchronizedSortedSet"), (1, .class_ 266), (0, u "java/util/Collections$SynchronizedNavigableSet"), (1, .class_ 269), (0, u "java/util/Collections$SynchronizedRandomAccessList"), (1, .class_ 272), (0, u "java/util/Collections$SynchronizedList"), (5, .class_ 279), (0, u "java/util/Collections$SynchronizedMap"), (1, .class_ 282), (0, u "java/util/Collections$SynchronizedSortedMap"), (1, .class_ 285), (0, u "java/util/Collections$SynchronizedNavigableMap"), (1, .class_ 288), (0, u "java/util/Collections$CheckedCollection"), (11, .class_ 301), (0, u "java/util/Collections$CheckedQueue"), (3, .class_ 306), (0, u "java/util/Collections$CheckedSet"), (3, .class_ 311), (0, u "java/util/Collections$CheckedSortedSet"), (3, .class_ 316), (0, u "java/util/Collections$CheckedNavigableSet"), (3, .class_ 321), (0, u "java/util/Collections$CheckedRandomAccessList"), (3, .class_ 326), (0, u "java/util/Collections$CheckedList"), (1, .class_ 329), (0, u "java/util/Collections$CheckedMap"), (3, .class_ 334), (0, u "java/util/Collections$CheckedSortedMap"), (3, .class_ 339), (0, u "java/util/Collections$CheckedNavigableMap"), (4, .class_ 346), (1, u "java/util/Collections$EmptyIterator"), (3, .class_ 352), (1, u "java/util/Collections$EmptyListIterator"), (2, .class_ 357), (1, u "java/util/Collections$EmptyEnumeration"), (4, u "EMPTY_SET"), (0, u "Ljava/util/Set;"), (6, u "EMPTY_LIST"), (0, u "Ljava/util/List;"), (2, u "EMPTY_MAP"), (0, u "Ljava/util/Map;"), (4, .class_ 381), (0, u "java/util/Collections$SingletonSet"), (2, .class_ 385), (0, u "java/util/Collections$1"), (1, .class_ 388), (0, u "java/util/Collections$2"), (1, .class_ 391), (0, u "java/util/Collections$SingletonList"), (1, .class_ 394), (0, u "java/util/Collections$SingletonMap"), (22, .class_ 418), (0, u "java/util/Collections$CopiesList"), (4, .class_ 425), (1, u "java/util/Collections$ReverseComparator"), (8, .class_ 435), (0, u "java/util/Collections$ReverseComparator2"), (6, .class_ 443), (0, u "java/util/Collections$3"), (25, .class_ 470), (0, u "java/util/Collections$SetFromMap"), (2, .class_ 474), (0, u "java/util/Collections$SequencedSetFromMap"), (3, .class_ 479), (0, u "java/util/Collections$AsLIFOQueue"), (11, .class_ 492), (0, u "java/util/Collections$EmptySet"), (1, .class_ 495), (0, u "java/util/Collections$EmptyList"), (1, .class_ 498), (0, u "java/util/Collections$EmptyMap"), (1, u "BINARYSEARCH_THRESHOLD"), (0, u "I"), (2, u "REVERSE_THRESHOLD"), (1, u "SHUFFLE_THRESHOLD"), (1, u "FILL_THRESHOLD"), (1, u "ROTATE_THRESHOLD"), (1, u "COPY_THRESHOLD"), (1, u "REPLACEALL_THRESHOLD"), (1, u "INDEXOFSUBLIST_THRESHOLD"), (333, .class_ 851), (0, u "java/util/Collections$CheckedMap$CheckedEntrySet"), (0, .class_ 853), (0, u "java/util/Collections$CheckedMap$CheckedEntrySet$CheckedEntry"), (0, .class_ 855), (0, u "java/util/Collections$CheckedMap$CheckedEntrySet$1"), (0, .class_ 857), (0, u "java/util/Collections$CheckedList$1"), (0, .class_ 859), (0, u "java/util/Collections$CheckedCollection$1"), (0, .class_ 861), (0, u "java/util/Collections$UnmodifiableNavigableMap$EmptyNavigableMap"), (0, .class_ 863), (0, u "java/util/Collections$UnmodifiableMap$UnmodifiableEntrySet"), (0, .class_ 865), (0, u "java/util/Collections$UnmodifiableMap$UnmodifiableEntrySet$UnmodifiableEntry"), (0, .class_ 867), (0, u "java/util/Collections$UnmodifiableMap$UnmodifiableEntrySet$UnmodifiableEntrySetSpliterator"), (0, .class_ 869), (0, u "java/util/Collections$UnmodifiableMap$UnmodifiableEntrySet$1"), (0, .class_ 871), (0, u "java/util/Collections$UnmodifiableList$1"), (0, .class_ 873), (0, u "java/util/Collections$UnmodifiableNavigableSet$EmptyNavigableSet"), (0, .class_ 875), (0, u "java/util/Collections$UnmodifiableCollection$1")] 57

def k30m0 : Method := { name := "<init>", desc := "()V", sig := { parameters := [], returnType := none }, accessFlags := 2, code := none }
/-- java/util/Collections -/
def k30 : Class := { plain "java/util/Collections" (some 0) with
  accessFlags := 33
  interfaces := #[]
  cf := some (fileOf pool30 19 #[.nestMembers #[478, 473, 469, 434, 423, 417, 393, 390, 380, 497, 494, 491, 355, 350, 344, 338, 333, 328, 850, 852, 854, 320, 325, 856, 315, 310, 305, 300, 287, 858, 284, 281, 278, 268, 271, 265, 262, 256, 250, 245, 860, 237, 231, 223, 862, 864, 866, 868, 215, 212, 870, 206, 872, 198, 190, 182, 174, 166, 874, 442, 387, 384]] #[{ accessFlags := 2, nameIndex := 5, descriptorIndex := 6, attributes := #[] }] 33 2 #[] #[{ accessFlags := 26, nameIndex := 500, descriptorIndex := 501, attributes := #[] }, { accessFlags := 26, nameIndex := 504, descriptorIndex := 501, attributes := #[] }, { accessFlags := 26, nameIndex := 506, descriptorIndex := 501, attributes := #[] }, { accessFlags := 26, nameIndex := 508, descriptorIndex := 501, attributes := #[] }, { accessFlags := 26, nameIndex := 510, descriptorIndex := 501, attributes := #[] }, { accessFlags := 26, nameIndex := 512, descriptorIndex := 501, attributes := #[] }, { accessFlags := 26, nameIndex := 514, descriptorIndex := 501, attributes := #[] }, { accessFlags := 26, nameIndex := 516, descriptorIndex := 501, attributes := #[] }, { accessFlags := 10, nameIndex := 84, descriptorIndex := 85, attributes := #[] }, { accessFlags := 25, nameIndex := 362, descriptorIndex := 363, attributes := #[] }, { accessFlags := 25, nameIndex := 370, descriptorIndex := 371, attributes := #[] }, { accessFlags := 25, nameIndex := 374, descriptorIndex := 375, attributes := #[] }])
  fields := #[{ name := "BINARYSEARCH_THRESHOLD", type := .int, accessFlags := 26, slot := 0, constantValue := 0 }, { name := "REVERSE_THRESHOLD", type := .int, accessFlags := 26, slot := 1, constantValue := 0 }, { name := "SHUFFLE_THRESHOLD", type := .int, accessFlags := 26, slot := 2, constantValue := 0 }, { name := "FILL_THRESHOLD", type := .int, accessFlags := 26, slot := 3, constantValue := 0 }, { name := "ROTATE_THRESHOLD", type := .int, accessFlags := 26, slot := 4, constantValue := 0 }, { name := "COPY_THRESHOLD", type := .int, accessFlags := 26, slot := 5, constantValue := 0 }, { name := "REPLACEALL_THRESHOLD", type := .int, accessFlags := 26, slot := 6, constantValue := 0 }, { name := "INDEXOFSUBLIST_THRESHOLD", type := .int, accessFlags := 26, slot := 7, constantValue := 0 }, { name := "r", type := (.object "java/util/Random"), accessFlags := 10, slot := 8, constantValue := 0 }, { name := "EMPTY_SET", type := (.object "java/util/Set"), accessFlags := 25, slot := 9, constantValue := 0 }, { name := "EMPTY_LIST", type := (.object "java/util/List"), accessFlags := 25, slot := 10, constantValue := 0 }, { name := "EMPTY_MAP", type := (.object "java/util/Map"), accessFlags := 25, slot := 11, constantValue := 0 }]
  methods := #[k30m0]
  instanceTypes := #[]
  staticTypes := #[.int, .int, .int, .int, .int, .int, .int, .int, (.object "java/util/Random"), (.object "java/util/Set"), (.object "java/util/List"), (.object "java/util/Map")]
  resolved := Array.replicate 933 none
  statics := some 3 }

def pool31 : Array CpInfo := pool [(4, .class_ 6), (1, u "java/lang/Object"), (0, u "<init>"), (0, u "()V"), (5, .class_ 16), (1, u "java/lang/StringLatin1"), (104, u "$assertionsDisabled"), (0, u "Z"), (98, .class_ 223), (1, u "java/lang/StringLatin1$LinesSpliterator"), (166, .class_ 391), (0, u "java/lang/StringLatin1$CharsSpliterator")] 3

def k31m0 : Method := { name := "<init>", desc := "()V", sig := { parameters := [], returnType := none }, accessFlags := 0, code := none }
/-- java/lang/StringLatin1 -/
def k31 : Class := { plain "java/lang/StringLatin1" (some 0) with
  accessFlags := 48
  interfaces := #[]
  cf := some (fileOf pool31 14 #[.nestMembers #[390, 221]] #[{ accessFlags := 0, nameIndex := 7, descriptorIndex := 8, attributes := #[] }] 48 4 #[] #[{ accessFlags := 4120, nameIndex := 121, descriptorIndex := 122, attributes := #[] }])
  fields := #[{ name := "$assertionsDisabled", type := .boolean, accessFlags := 4120, slot := 0, constantValue := 0 }]
  methods := #[k31m0]
  instanceTypes := #[]
  staticTypes := #[.boolean]
  resolved := Array.replicate 395 none
  statics := none }

def pool32 : Array CpInfo := pool [(2, .class_ 4), (1, u "java/lang/Object"), (0, u "<init>"), (0, u "()V"), (17, .class_ 26), (1, u "jdk/internal/util/Preconditions"), (28, .class_ 56), (0, u "jdk/internal/util/Preconditions$4"), (57, .class_ 115), (0, u "jdk/internal/util/Preconditions$1"), (7, u "SIOOBE_FORMATTER"), (0, u "Ljava/util/function/BiFunction;"), (0, .class_ 126), (0, u "jdk/internal/util/Preconditions$2"), (3, u "AIOOBE_FORMATTER"), (0, .class_ 132), (0, u "jdk/internal/util/Preconditions$3"), (3, u "IOOBE_FORMATTER")] 57

def k32m0 : Method := { name := "<init>", desc := "()V", sig := { parameters := [], returnType := none }, accessFlags := 1, code := none }
/-- jdk/internal/util/Preconditions -/
def k32 : Class := { plain "jdk/internal/util/Preconditions" (some 0) with
  accessFlags := 33
  interfaces := #[]
  cf := some (fileOf pool32 24 #[.nestMembers #[55, 131, 125, 114]] #[{ accessFlags := 1, nameIndex := 5, descriptorIndex := 6, attributes := #[] }] 33 2 #[] #[{ accessFlags := 25, nameIndex := 123, descriptorIndex := 124, attributes := #[] }, { accessFlags := 25, nameIndex := 130, descriptorIndex := 124, attributes := #[] }, { accessFlags := 25, nameIndex := 136, descriptorIndex := 124, attributes := #[] }])
  fields := #[{ name := "SIOOBE_FORMATTER", type := (.object "java/util/function/BiFunction"), accessFlags := 25, slot := 0, constantValue := 0 }, { name := "AIOOBE_FORMATTER", type := (.object "java/util/function/BiFunction"), accessFlags := 25, slot := 1, constantValue := 0 }, { name := "IOOBE_FORMATTER", type := (.object "java/util/function/BiFunction"), accessFlags := 25, slot := 2, constantValue := 0 }]
  methods := #[k32m0]
  instanceTypes := #[]
  staticTypes := #[(.object "java/util/function/BiFunction"), (.object "java/util/function/BiFunction"), (.object "java/util/function/BiFunction")]
  resolved := Array.replicate 194 none
  statics := some 4 }

def pool33 : Array CpInfo := pool [(2, .class_ 4), (1, u "java/util/AbstractList"), (0, u "<init>"), (0, u "()V"), (1, .class_ 10), (1, u "java/util/Collections"), (54, .class_ 66), (0, u "java/util/Collections$EmptyList"), (0, .class_ 68), (0, u "java/util/RandomAccess"), (0, .class_ 70), (0, u "java/io/Serializable"), (0, u "serialVersionUID"), (0, u "J")] 77

def k33m0 : Method := { name := "<init>", desc := "()V", sig := { parameters := [], returnType := none }, accessFlags := 2, code := none }
/-- java/util/Collections$EmptyList -/
def k33 : Class := { plain "java/util/Collections$EmptyList" (some 19) with
  accessFlags := 32
  interfaces := #[20, 2]
  cf := some (fileOf pool33 65 #[.nestHost 8] #[{ accessFlags := 2, nameIndex := 5, descriptorIndex := 6, attributes := #[] }] 32 2 #[67, 69] #[{ accessFlags := 26, nameIndex := 71, descriptorIndex := 72, attributes := #[] }])
  fields := #[{ name := "serialVersionUID", type := .long, accessFlags := 26, slot := 0, constantValue := 0 }]
  methods := #[k33m0]
  instanceTypes := #[.int]
  staticTypes := #[.long]
  resolved := Array.replicate 150 none
  statics := none }

def pool34 : Array CpInfo := pool [(2, .class_ 4), (1, u "java/lang/StackTraceElement"), (0, u "<init>"), (2, .class_ 10), (1, u "java/lang/Object"), (0, u "()V"), (2, u "format"), (0, u "B"), (2, u "classLoaderName"), (0, u "Ljava/lang/String;"), (2, u "moduleName"), (2, u "moduleVersion"), (12, u "declaringClass"), (4, u "methodName"), (2, u "fileName"), (2, u "lineNumber"), (0, u "I"), (65, u "declaringClassObject"), (0, u "Ljava/lang/Class;"), (33, .class_ 153), (1, u "java/lang/StackTraceElement$HashedModules"), (17, .class_ 172), (0, u "java/io/Serializable"), (0, u "NATIVE_METHOD"), (1, u "UNKNOWN_SOURCE"), (2, u "BUILTIN_CLASS_LOADER"), (1, u "JDK_NON_UPGRADEABLE_MODULE"), (1, u "serialVersionUID"), (0, u "J")] 51

def k34m0 : Method := { name := "<init>", desc := "()V", sig := { parameters := [], returnType := none }, accessFlags := 2, code := none }
/-- java/lang/StackTraceElement -/
def k34 : Class := { plain "java/lang/StackTraceElement" (some 0) with
  accessFlags := 49
  interfaces := #[2]
  cf := some (fileOf pool34 2 #[.nestMembers #[151]] #[{ accessFlags := 2, nameIndex := 5, descriptorIndex := 11, attributes := #[] }] 49 8 #[171] #[{ accessFlags := 26, nameIndex := 173, descriptorIndex := 19, attributes := #[] }, { accessFlags := 26, nameIndex := 175, descriptorIndex := 19, attributes := #[] }, { accessFlags := 130, nameIndex := 116, descriptorIndex := 117, attributes := #[] }, { accessFlags := 2, nameIndex := 18, descriptorIndex := 19, attributes := #[] }, { accessFlags := 2, nameIndex := 22, descriptorIndex := 19, attributes := #[] }, { accessFlags := 2, nameIndex := 25, descriptorIndex := 19, attributes := #[] }, { accessFlags := 2, nameIndex := 38, descriptorIndex := 19, attributes := #[] }, { accessFlags := 2, nameIndex := 43, descriptorIndex := 19, attributes := #[] }, { accessFlags := 2, nameIndex := 46, descriptorIndex := 19, attributes := #[] }, { accessFlags := 2, nameIndex := 49, descriptorIndex := 50, attributes := #[] }, { accessFlags := 2, nameIndex := 14, descriptorIndex := 15, attributes := #[] }, { accessFlags := 26, nameIndex := 178, descriptorIndex := 15, attributes := #[] }, { accessFlags := 26, nameIndex := 180, descriptorIndex := 15, attributes := #[] }, { accessFlags := 26, nameIndex := 182, descriptorIndex := 183, attributes := #[] }])
  fields := #[{ name := "NATIVE_METHOD", type := (.object "java/lang/String"), accessFlags := 26, slot := 0, constantValue := 0 }, { name := "UNKNOWN_SOURCE", type := (.object "java/lang/String"), accessFlags := 26, slot := 1, constantValue := 0 }, { name := "declaringClassObject", type := (.object "java/lang/Class"), accessFlags := 130, slot := 0, constantValue := 0 }, { name := "classLoaderName", type := (.object "java/lang/String"), accessFlags := 2, slot := 1, constantValue := 0 }, { name := "moduleName", type := (.object "java/lang/String"), accessFlags := 2, slot := 2, constantValue := 0 }, { name := "moduleVersion", type := (.object "java/lang/String"), accessFlags := 2, slot := 3, constantValue := 0 }, { name := "declaringClass", type := (.object "java/lang/String"), accessFlags := 2, slot := 4, constantValue := 0 }, { name := "methodName", type := (.object "java/lang/String"), accessFlags := 2, slot := 5, constantValue := 0 }, { name := "fileName", type := (.object "java/lang/String"), accessFlags := 2, slot := 6, constantValue := 0 }, { name := "lineNumber", type := .int, accessFlags := 2, slot := 7, constantValue := 0 }, { name := "format", type := .byte, accessFlags := 2, slot := 8, constantValue := 0 }, { name := "BUILTIN_CLASS_LOADER", type := .byte, accessFlags := 26, slot := 2, constantValue := 0 }, { name := "JDK_NON_UPGRADEABLE_MODULE", type := .byte, accessFlags := 26, slot := 3, constantValue := 0 }, { name := "serialVersionUID", type := .long, accessFlags := 26, slot := 4, constantValue := 0 }]
  methods := #[k34m0]
  instanceTypes := #[(.object "java/lang/Class"), (.object "java/lang/String"), (.object "java/lang/String"), (.object "java/lang/String"), (.object "java/lang/String"), (.object "java/lang/String"), (.object "java/lang/String"), .int, .byte]
  staticTypes := #[(.object "java/lang/String"), (.object "java/lang/String"), .byte, .byte, .long]
  resolved := Array.replicate 235 none
  statics := none }

/-- the primitive byte -/
def k35 : Class := { plain "byte" none with kind := .primitive 'B', accessFlags := 0x411 }
/-- [B -/
def k36 : Class := { plain "[B" (some 0) with kind := .array 35 .byte, interfaces := #[21, 2], accessFlags := 1041 }

/-- the primitive int -/
def k37 : Class := { plain "int" none with kind := .primitive 'I', accessFlags := 0x411 }
/-- [I -/
def k38 : Class := { plain "[I" (some 0) with kind := .array 37 .int, interfaces := #[21, 2], accessFlags := 1041 }

/-- [Ljava/lang/Object; -/
def k39 : Class := { plain "[Ljava/lang/Object;" (some 0) with mirror := some 11, kind := .array 0 (.object "java/lang/Object"), interfaces := #[21, 2], accessFlags := 1041 }

/-- [Ljava/lang/StackTraceElement; -/
def k40 : Class := { plain "[Ljava/lang/StackTraceElement;" (some 0) with kind := .array 34 (.object "java/lang/StackTraceElement"), interfaces := #[21, 2], accessFlags := 1041 }

/-- [Ljava/lang/Throwable; -/
def k41 : Class := { plain "[Ljava/lang/Throwable;" (some 0) with kind := .array 3 (.object "java/lang/Throwable"), interfaces := #[21, 2], accessFlags := 1041 }

def heap : Heap := #[{ cls := 3, slots := #[.long 0, .ref 8, .ref 9, .null, .null, .null, .null, .ref 10, .int 1], vm := .statics 3 },
  { cls := 9, slots := #[.ref 7, .ref 5, .ref 6, .null], vm := .statics 9 },
  { cls := 12, slots := #[.long 0, .int 1, .null, .int 0, .null, .int 0, .int 0], vm := .statics 12 },
  { cls := 30, slots := #[.int 0, .int 0, .int 0, .int 0, .int 0, .int 0, .int 0, .int 0, .null, .null, .ref 9, .null], vm := .statics 30 },
  { cls := 32, slots := #[.null, .null, .null], vm := .statics 32 },
  { cls := 9, slots := #[.null, .int 1, .int 0], vm := .none },
  { cls := 9, slots := #[.null, .int 2, .int 0], vm := .none },
  { cls := 9, slots := #[.null, .int 0, .int 0], vm := .none },
  { cls := 40, slots := #[], vm := .none },
  { cls := 33, slots := #[.int 0], vm := .none },
  { cls := 41, slots := #[], vm := .none },
  { cls := 0, slots := #[], vm := .mirror 39 }]
def classes : Array Class := #[k0, k1, k2, k3, k4, k5, k6, k7, k8, k9, k10, k11, k12, k13, k14, k15, k16, k17, k18, k19, k20, k21, k22, k23, k24, k25, k26, k27, k28, k29, k30, k31, k32, k33, k34, k35, k36, k37, k38, k39, k40, k41]
def interned : List (Array UInt16 × Addr) := []
def slotsUsed : Nat := 45
def theMethod : MethodId := ⟨1, 3⟩
def args0 : Array Value := #[.int 1, .int 1, .int 5, .int 0]
def aboutOver (below : List Frame) : State where
  vm := { classes := classes, interned := interned.toArray }
  heap := heap
  slotsUsed := slotsUsed
  threads := #[{ frames := .invoking theMethod args0 :: below }]
def below0 : List Frame := [.native { method := ⟨0, 0⟩, args := #[] }]
def about1 : State := aboutOver below0
def p0 : Program := .bare "" "" ""
def e0 : Env := launch0.env 0 0 0
theorem w_frames : about1.frames = Frame.invoking theMethod args0 :: below0 := rfl
set_option maxRecDepth 65536 in
theorem w_args : argsFit about1.vm theMethod args0 = true := by decide +kernel
set_option maxRecDepth 65536 in
theorem w_heap : heapFits about1 = true := by decide +kernel
set_option maxRecDepth 65536 in
theorem w_runnable : about1.curStatus? = some .runnable := by decide +kernel
set_option maxRecDepth 65536 in
theorem w_alone : about1.alone = true := by decide +kernel
set_option maxRecDepth 65536 in
theorem w_named : about1.methodNamed? x = some theMethod := by decide +kernel
set_option maxRecDepth 65536 in
theorem w_hears : about1.hears theMethod below0 = true := by decide +kernel
set_option maxRecDepth 65536 in
theorem w_ripe : about1.ripe theMethod args0 below0 = true := by decide +kernel
theorem w_running : about1.status = .running := rfl
set_option maxRecDepth 65536 in
theorem w_room : about1.hasRoom e0.platform room_1 = true :=
  launch0.hasRoom_least _ room_1 (by decide +kernel) (by decide +kernel) (by decide +kernel) (by decide +kernel) (by decide +kernel) (by decide +kernel)
theorem allAtoms_all (ts : List Jvm.Cond) (a : Array Jvm.Value) (st : Jvm.State) : (allAtoms ts).before a st = ts.all (fun c => c.before a st) := by
  induction ts with
  | nil => rfl
  | cons c t ih =>
    show (Jvm.Cond.and c (allAtoms t)).before a st = _
    rw [Jvm.Cond.before_and, ih, List.all_cons]
def words1 : List Jvm.Cond := Jvm.Cond.code x code maxLocals ret :: tables_1
/-- a 'code' word, met by the world's own term for the bytes: nothing is compared byte by byte -/
theorem code_word {y : MethodName} {bytes : ByteArray} {mx : Nat} {rt : Option FieldType} {a : Array Value} {s : State} {m : MethodId} {meth : Method} {c : Code} (h1 : s.methodNamed? y = some m) (h2 : s.vm.method? m = some meth) (h3 : meth.code = some c) (h4 : c.code = bytes)
    (h5 : (c.maxLocals == mx && c.exceptionTable.isEmpty && decide (c.maxStack ≤ mostOperands) && decide (meth.sig.returnType = rt) && !meth.locks && decide (parseMethodDescriptor y.desc = some meth.sig)) = true) : (Jvm.Cond.code y bytes mx rt).before a s = true := by
  simp only [Bool.and_eq_true, beq_iff_eq, Bool.not_eq_true', decide_eq_true_eq] at h5
  obtain ⟨⟨⟨⟨⟨g1, g2⟩, g3⟩, g4⟩, g5⟩, g6⟩ := h5
  simp [Cond.before, Cond.holds, Cond.value, h1, h2, h3, h4, g1, g2, g3, g4, g5, g6]
def isCode : Jvm.Cond → Bool
  | .code _ _ _ _ => true
  | _ => false
theorem all_split {L : List Jvm.Cond} {P : Jvm.Cond → Bool} (h1 : L.all (fun c => isCode c || P c) = true) (h2 : ∀ c ∈ L.filter isCode, P c = true) : L.all P = true := by
  refine List.all_eq_true.mpr fun c hc => ?_
  have h := List.all_eq_true.mp h1 c hc
  rcases Bool.eq_false_or_eq_true (isCode c) with hi | hi
  · exact h2 c (List.mem_filter.mpr ⟨hc, hi⟩)
  · simpa [hi] using h
set_option maxRecDepth 65536 in
theorem w_c0 : (Jvm.Cond.code x code maxLocals ret).before args0 about1 = true := code_word (m := ⟨1, 3⟩) (meth := k1m3) (c := k1c3) (by decide +kernel) rfl rfl rfl (by decide +kernel)
set_option maxRecDepth 65536 in
theorem w_c1 : (Jvm.Cond.code ({ cls := "java/lang/Exception", name := "<init>", desc := "()V" } : Jvm.MethodName) jdk_59_method_1_code (1 : Nat) (Option.none : Option Jvm.ClassFile.FieldType)).before args0 about1 = true := code_word (m := ⟨4, 0⟩) (meth := k4m0) (c := k4c0) (by decide +kernel) rfl rfl rfl (by decide +kernel)
set_option maxRecDepth 65536 in
theorem w_c2 : (Jvm.Cond.code ({ cls := "java/lang/Throwable", name := "<init>", desc := "()V" } : Jvm.MethodName) jdk_78_method_1_code (1 : Nat) (Option.none : Option Jvm.ClassFile.FieldType)).before args0 about1 = true := code_word (m := ⟨3, 0⟩) (meth := k3m0) (c := k3c0) (by decide +kernel) rfl rfl rfl (by decide +kernel)
set_option maxRecDepth 65536 in
theorem w_c3 : (Jvm.Cond.code ({ cls := "java/lang/Object", name := "<init>", desc := "()V" } : Jvm.MethodName) object_method_1_code (1 : Nat) (Option.none : Option Jvm.ClassFile.FieldType)).before args0 about1 = true := code_word (m := ⟨0, 0⟩) (meth := k0m0) (c := k0c0) (by decide +kernel) rfl rfl rfl (by decide +kernel)
set_option maxRecDepth 65536 in
theorem w_c4 : (Jvm.Cond.code ({ cls := "com/example/portable_transactions/portabletransactions/transaction/UnitEnding", name := "<init>", desc := "(Z)V" } : Jvm.MethodName) prog_49_method_1_code (2 : Nat) (Option.none : Option Jvm.ClassFile.FieldType)).before args0 about1 = true := code_word (m := ⟨5, 0⟩) (meth := k5m0) (c := k5c0) (by decide +kernel) rfl rfl rfl (by decide +kernel)
set_option maxRecDepth 65536 in
theorem w_c5 : (Jvm.Cond.code ({ cls := "com/example/portable_transactions/portabletransactions/transaction/UnitEnding", name := "isSettled", desc := "()Z" } : Jvm.MethodName) prog_49_method_6_code (1 : Nat) (Option.some Jvm.ClassFile.FieldType.boolean)).before args0 about1 = true := code_word (m := ⟨5, 5⟩) (meth := k5m5) (c := k5c5) (by decide +kernel) rfl rfl rfl (by decide +kernel)
set_option maxRecDepth 65536 in
theorem w_c6 : (Jvm.Cond.code ({ cls := "com/example/portable_transactions/portabletransactions/transaction/UnitEndingIsSettledPinLaw", name := "apply", desc := "(Lcom/example/portable_transactions/portabletransactions/transaction/UnitEnding;ILjava/lang/Exception;)V" } : Jvm.MethodName) method_2_code (3 : Nat) (Option.none : Option Jvm.ClassFile.FieldType)).before args0 about1 = true := code_word (m := ⟨1, 1⟩) (meth := k1m1) (c := k1c1) (by decide +kernel) rfl rfl rfl (by decide +kernel)
set_option maxRecDepth 65536 in
theorem w_c7 : (Jvm.Cond.code ({ cls := "com/example/portable_transactions/portabletransactions/transaction/UnitEnding", name := "commitFailedUntold", desc := "(Ljava/lang/Exception;)V" } : Jvm.MethodName) prog_49_method_3_code (2 : Nat) (Option.none : Option Jvm.ClassFile.FieldType)).before args0 about1 = true := code_word (m := ⟨5, 2⟩) (meth := k5m2) (c := k5c2) (by decide +kernel) rfl rfl rfl (by decide +kernel)
set_option maxRecDepth 65536 in
theorem w_c8 : (Jvm.Cond.code ({ cls := "com/example/portable_transactions/portabletransactions/transaction/UnitEndingIsSettledPinLaw", name := "expect", desc := "(IZ)Z" } : Jvm.MethodName) method_3_code (2 : Nat) (Option.some Jvm.ClassFile.FieldType.boolean)).before args0 about1 = true := code_word (m := ⟨1, 2⟩) (meth := k1m2) (c := k1c2) (by decide +kernel) rfl rfl rfl (by decide +kernel)
set_option maxRecDepth 65536 in
theorem w_c9 : (Jvm.Cond.code ({ cls := "com/example/portable_transactions/portabletransactions/transaction/UnitEnding", name := "commitFailed", desc := "(Ljava/lang/Exception;Z)V" } : Jvm.MethodName) prog_49_method_2_code (3 : Nat) (Option.none : Option Jvm.ClassFile.FieldType)).before args0 about1 = true := code_word (m := ⟨5, 1⟩) (meth := k5m1) (c := k5c1) (by decide +kernel) rfl rfl rfl (by decide +kernel)
set_option maxRecDepth 65536 in
theorem w_c10 : (Jvm.Cond.code ({ cls := "com/example/portable_transactions/portabletransactions/transaction/UnitEnding", name := "rollbackFailed", desc := "(Ljava/lang/Exception;)V" } : Jvm.MethodName) prog_49_method_4_code (2 : Nat) (Option.none : Option Jvm.ClassFile.FieldType)).before args0 about1 = true := code_word (m := ⟨5, 3⟩) (meth := k5m3) (c := k5c3) (by decide +kernel) rfl rfl rfl (by decide +kernel)
set_option maxRecDepth 65536 in
theorem w_c11 : (Jvm.Cond.code ({ cls := "com/example/portable_transactions/portabletransactions/transaction/UnitEnding", name := "releaseFailed", desc := "(Ljava/lang/Exception;Ljava/lang/String;)V" } : Jvm.MethodName) prog_49_method_5_code (3 : Nat) (Option.none : Option Jvm.ClassFile.FieldType)).before args0 about1 = true := code_word (m := ⟨5, 4⟩) (meth := k5m4) (c := k5c4) (by decide +kernel) rfl rfl rfl (by decide +kernel)
set_option maxRecDepth 65536 in
theorem w_c12 : (Jvm.Cond.code ({ cls := "java/util/Objects", name := "requireNonNull", desc := "(Ljava/lang/Object;Ljava/lang/String;)Ljava/lang/Object;" } : Jvm.MethodName) jdk_31_method_11_code (2 : Nat) (Option.some (Jvm.ClassFile.FieldType.object "java/lang/Object"))).before args0 about1 = true := code_word (m := ⟨13, 1⟩) (meth := k13m1) (c := k13c1) (by decide +kernel) rfl rfl rfl (by decide +kernel)
set_option maxRecDepth 65536 in
theorem w_c13 : (Jvm.Cond.code ({ cls := "java/util/ArrayList", name := "<init>", desc := "(I)V" } : Jvm.MethodName) jdk_38_method_1_code (2 : Nat) (Option.none : Option Jvm.ClassFile.FieldType)).before args0 about1 = true := code_word (m := ⟨22, 0⟩) (meth := k22m0) (c := k22c0) (by decide +kernel) rfl rfl rfl (by decide +kernel)
set_option maxRecDepth 65536 in
theorem w_c14 : (Jvm.Cond.code ({ cls := "java/util/AbstractList", name := "<init>", desc := "()V" } : Jvm.MethodName) jdk_39_method_1_code (1 : Nat) (Option.none : Option Jvm.ClassFile.FieldType)).before args0 about1 = true := code_word (m := ⟨19, 0⟩) (meth := k19m0) (c := k19c0) (by decide +kernel) rfl rfl rfl (by decide +kernel)
set_option maxRecDepth 65536 in
theorem w_c15 : (Jvm.Cond.code ({ cls := "java/util/AbstractCollection", name := "<init>", desc := "()V" } : Jvm.MethodName) jdk_22_method_1_code (1 : Nat) (Option.none : Option Jvm.ClassFile.FieldType)).before args0 about1 = true := code_word (m := ⟨16, 0⟩) (meth := k16m0) (c := k16c0) (by decide +kernel) rfl rfl rfl (by decide +kernel)
set_option maxRecDepth 65536 in
theorem w_c16 : (Jvm.Cond.code ({ cls := "java/util/ArrayList", name := "add", desc := "(Ljava/lang/Object;)Z" } : Jvm.MethodName) jdk_38_method_25_code (2 : Nat) (Option.some Jvm.ClassFile.FieldType.boolean)).before args0 about1 = true := code_word (m := ⟨22, 5⟩) (meth := k22m5) (c := k22c5) (by decide +kernel) rfl rfl rfl (by decide +kernel)
set_option maxRecDepth 65536 in
theorem w_c17 : (Jvm.Cond.code ({ cls := "java/util/ArrayList", name := "add", desc := "(Ljava/lang/Object;[Ljava/lang/Object;I)V" } : Jvm.MethodName) jdk_38_method_24_code (4 : Nat) (Option.none : Option Jvm.ClassFile.FieldType)).before args0 about1 = true := code_word (m := ⟨22, 4⟩) (meth := k22m4) (c := k22c4) (by decide +kernel) rfl rfl rfl (by decide +kernel)
set_option maxRecDepth 65536 in
theorem w_c18 : (Jvm.Cond.code ({ cls := "java/lang/StringBuilder", name := "<init>", desc := "()V" } : Jvm.MethodName) jdk_67_method_1_code (1 : Nat) (Option.none : Option Jvm.ClassFile.FieldType)).before args0 about1 = true := code_word (m := ⟨25, 0⟩) (meth := k25m0) (c := k25c0) (by decide +kernel) rfl rfl rfl (by decide +kernel)
set_option maxRecDepth 65536 in
theorem w_c19 : (Jvm.Cond.code ({ cls := "java/lang/AbstractStringBuilder", name := "<init>", desc := "(I)V" } : Jvm.MethodName) jdk_68_method_2_code (2 : Nat) (Option.none : Option Jvm.ClassFile.FieldType)).before args0 about1 = true := code_word (m := ⟨24, 1⟩) (meth := k24m1) (c := k24c1) (by decide +kernel) rfl rfl rfl (by decide +kernel)
set_option maxRecDepth 65536 in
theorem w_c20 : (Jvm.Cond.code ({ cls := "java/lang/StringBuilder", name := "append", desc := "(Ljava/lang/String;)Ljava/lang/StringBuilder;" } : Jvm.MethodName) jdk_67_method_7_code (2 : Nat) (Option.some (Jvm.ClassFile.FieldType.object "java/lang/StringBuilder"))).before args0 about1 = true := code_word (m := ⟨25, 1⟩) (meth := k25m1) (c := k25c1) (by decide +kernel) rfl rfl rfl (by decide +kernel)
set_option maxRecDepth 65536 in
theorem w_c21 : (Jvm.Cond.code ({ cls := "java/lang/AbstractStringBuilder", name := "append", desc := "(Ljava/lang/String;)Ljava/lang/AbstractStringBuilder;" } : Jvm.MethodName) jdk_68_method_22_code (3 : Nat) (Option.some (Jvm.ClassFile.FieldType.object "java/lang/AbstractStringBuilder"))).before args0 about1 = true := code_word (m := ⟨24, 5⟩) (meth := k24m5) (c := k24c5) (by decide +kernel) rfl rfl rfl (by decide +kernel)
set_option maxRecDepth 65536 in
theorem w_c22 : (Jvm.Cond.code ({ cls := "java/lang/String", name := "length", desc := "()I" } : Jvm.MethodName) jdk_42_method_54_code (1 : Nat) (Option.some Jvm.ClassFile.FieldType.int)).before args0 about1 = true := code_word (m := ⟨12, 2⟩) (meth := k12m2) (c := k12c2) (by decide +kernel) rfl rfl rfl (by decide +kernel)
set_option maxRecDepth 65536 in
theorem w_c23 : (Jvm.Cond.code ({ cls := "java/lang/String", name := "coder", desc := "()B" } : Jvm.MethodName) jdk_42_method_152_code (1 : Nat) (Option.some Jvm.ClassFile.FieldType.byte)).before args0 about1 = true := code_word (m := ⟨12, 5⟩) (meth := k12m5) (c := k12c5) (by decide +kernel) rfl rfl rfl (by decide +kernel)
set_option maxRecDepth 65536 in
theorem w_c24 : (Jvm.Cond.code ({ cls := "java/lang/AbstractStringBuilder", name := "ensureCapacityInternal", desc := "(I)V" } : Jvm.MethodName) jdk_68_method_9_code (3 : Nat) (Option.none : Option Jvm.ClassFile.FieldType)).before args0 about1 = true := code_word (m := ⟨24, 3⟩) (meth := k24m3) (c := k24c3) (by decide +kernel) rfl rfl rfl (by decide +kernel)
set_option maxRecDepth 65536 in
theorem w_c25 : (Jvm.Cond.code ({ cls := "java/lang/AbstractStringBuilder", name := "putStringAt", desc := "(ILjava/lang/String;)V" } : Jvm.MethodName) jdk_68_method_73_code (3 : Nat) (Option.none : Option Jvm.ClassFile.FieldType)).before args0 about1 = true := code_word (m := ⟨24, 9⟩) (meth := k24m9) (c := k24c9) (by decide +kernel) rfl rfl rfl (by decide +kernel)
set_option maxRecDepth 65536 in
theorem w_c26 : (Jvm.Cond.code ({ cls := "java/lang/AbstractStringBuilder", name := "inflateIfNeededFor", desc := "(Ljava/lang/String;)V" } : Jvm.MethodName) jdk_68_method_71_code (2 : Nat) (Option.none : Option Jvm.ClassFile.FieldType)).before args0 about1 = true := code_word (m := ⟨24, 8⟩) (meth := k24m8) (c := k24c8) (by decide +kernel) rfl rfl rfl (by decide +kernel)
set_option maxRecDepth 65536 in
theorem w_c27 : (Jvm.Cond.code ({ cls := "java/lang/String", name := "getBytes", desc := "([BIB)V" } : Jvm.MethodName) jdk_42_method_147_code (4 : Nat) (Option.none : Option Jvm.ClassFile.FieldType)).before args0 about1 = true := code_word (m := ⟨12, 3⟩) (meth := k12m3) (c := k12c3) (by decide +kernel) rfl rfl rfl (by decide +kernel)
set_option maxRecDepth 65536 in
theorem w_c28 : (Jvm.Cond.code ({ cls := "java/lang/AbstractStringBuilder", name := "newCapacity", desc := "(I)I" } : Jvm.MethodName) jdk_68_method_10_code (6 : Nat) (Option.some Jvm.ClassFile.FieldType.int)).before args0 about1 = true := code_word (m := ⟨24, 4⟩) (meth := k24m4) (c := k24c4) (by decide +kernel) rfl rfl rfl (by decide +kernel)
set_option maxRecDepth 65536 in
theorem w_c29 : (Jvm.Cond.code ({ cls := "jdk/internal/util/ArraysSupport", name := "newLength", desc := "(III)I" } : Jvm.MethodName) jdk_48_method_27_code (4 : Nat) (Option.some Jvm.ClassFile.FieldType.int)).before args0 about1 = true := code_word (m := ⟨27, 1⟩) (meth := k27m1) (c := k27c1) (by decide +kernel) rfl rfl rfl (by decide +kernel)
set_option maxRecDepth 65536 in
theorem w_c30 : (Jvm.Cond.code ({ cls := "java/lang/Math", name := "max", desc := "(II)I" } : Jvm.MethodName) jdk_29_method_65_code (2 : Nat) (Option.some Jvm.ClassFile.FieldType.int)).before args0 about1 = true := code_word (m := ⟨28, 1⟩) (meth := k28m1) (c := k28c1) (by decide +kernel) rfl rfl rfl (by decide +kernel)
set_option maxRecDepth 65536 in
theorem w_c31 : (Jvm.Cond.code ({ cls := "java/util/Arrays", name := "copyOf", desc := "([BI)[B" } : Jvm.MethodName) jdk_65_method_121_code (3 : Nat) (Option.some (Jvm.ClassFile.FieldType.array Jvm.ClassFile.FieldType.byte))).before args0 about1 = true := code_word (m := ⟨29, 3⟩) (meth := k29m3) (c := k29c3) (by decide +kernel) rfl rfl rfl (by decide +kernel)
set_option maxRecDepth 65536 in
theorem w_c32 : (Jvm.Cond.code ({ cls := "java/lang/Math", name := "min", desc := "(II)I" } : Jvm.MethodName) jdk_29_method_69_code (2 : Nat) (Option.some Jvm.ClassFile.FieldType.int)).before args0 about1 = true := code_word (m := ⟨28, 2⟩) (meth := k28m2) (c := k28c2) (by decide +kernel) rfl rfl rfl (by decide +kernel)
set_option maxRecDepth 65536 in
theorem w_c33 : (Jvm.Cond.code ({ cls := "java/lang/StringBuilder", name := "toString", desc := "()Ljava/lang/String;" } : Jvm.MethodName) jdk_67_method_42_code (1 : Nat) (Option.some (Jvm.ClassFile.FieldType.object "java/lang/String"))).before args0 about1 = true := code_word (m := ⟨25, 2⟩) (meth := k25m2) (c := k25c2) (by decide +kernel) rfl rfl rfl (by decide +kernel)
set_option maxRecDepth 65536 in
theorem w_c34 : (Jvm.Cond.code ({ cls := "java/lang/String", name := "<init>", desc := "(Ljava/lang/StringBuilder;)V" } : Jvm.MethodName) jdk_42_method_53_code (2 : Nat) (Option.none : Option Jvm.ClassFile.FieldType)).before args0 about1 = true := code_word (m := ⟨12, 1⟩) (meth := k12m1) (c := k12c1) (by decide +kernel) rfl rfl rfl (by decide +kernel)
set_option maxRecDepth 65536 in
theorem w_c35 : (Jvm.Cond.code ({ cls := "java/lang/String", name := "<init>", desc := "(Ljava/lang/AbstractStringBuilder;Ljava/lang/Void;)V" } : Jvm.MethodName) jdk_42_method_150_code (5 : Nat) (Option.none : Option Jvm.ClassFile.FieldType)).before args0 about1 = true := code_word (m := ⟨12, 4⟩) (meth := k12m4) (c := k12c4) (by decide +kernel) rfl rfl rfl (by decide +kernel)
set_option maxRecDepth 65536 in
theorem w_c36 : (Jvm.Cond.code ({ cls := "java/lang/AbstractStringBuilder", name := "getValue", desc := "()[B" } : Jvm.MethodName) jdk_68_method_64_code (1 : Nat) (Option.some (Jvm.ClassFile.FieldType.array Jvm.ClassFile.FieldType.byte))).before args0 about1 = true := code_word (m := ⟨24, 6⟩) (meth := k24m6) (c := k24c6) (by decide +kernel) rfl rfl rfl (by decide +kernel)
set_option maxRecDepth 65536 in
theorem w_c37 : (Jvm.Cond.code ({ cls := "java/lang/StringBuilder", name := "length", desc := "()I" } : Jvm.MethodName) jdk_67_method_93_code (1 : Nat) (Option.some Jvm.ClassFile.FieldType.int)).before args0 about1 = true := code_word (m := ⟨25, 3⟩) (meth := k25m3) (c := k25c3) (by decide +kernel) rfl rfl rfl (by decide +kernel)
set_option maxRecDepth 65536 in
theorem w_c38 : (Jvm.Cond.code ({ cls := "java/lang/AbstractStringBuilder", name := "length", desc := "()I" } : Jvm.MethodName) jdk_68_method_6_code (1 : Nat) (Option.some Jvm.ClassFile.FieldType.int)).before args0 about1 = true := code_word (m := ⟨24, 2⟩) (meth := k24m2) (c := k24c2) (by decide +kernel) rfl rfl rfl (by decide +kernel)
set_option maxRecDepth 65536 in
theorem w_c39 : (Jvm.Cond.code ({ cls := "java/lang/AbstractStringBuilder", name := "isLatin1", desc := "()Z" } : Jvm.MethodName) jdk_68_method_68_code (1 : Nat) (Option.some Jvm.ClassFile.FieldType.boolean)).before args0 about1 = true := code_word (m := ⟨24, 7⟩) (meth := k24m7) (c := k24c7) (by decide +kernel) rfl rfl rfl (by decide +kernel)
set_option maxRecDepth 65536 in
theorem w_c40 : (Jvm.Cond.code ({ cls := "java/util/Arrays", name := "copyOfRange", desc := "([BII)[B" } : Jvm.MethodName) jdk_65_method_132_code (3 : Nat) (Option.some (Jvm.ClassFile.FieldType.array Jvm.ClassFile.FieldType.byte))).before args0 about1 = true := code_word (m := ⟨29, 5⟩) (meth := k29m5) (c := k29c5) (by decide +kernel) rfl rfl rfl (by decide +kernel)
set_option maxRecDepth 65536 in
theorem w_c41 : (Jvm.Cond.code ({ cls := "java/util/Arrays", name := "copyOfRangeByte", desc := "([BII)[B" } : Jvm.MethodName) jdk_65_method_133_code (5 : Nat) (Option.some (Jvm.ClassFile.FieldType.array Jvm.ClassFile.FieldType.byte))).before args0 about1 = true := code_word (m := ⟨29, 6⟩) (meth := k29m6) (c := k29c6) (by decide +kernel) rfl rfl rfl (by decide +kernel)
set_option maxRecDepth 65536 in
theorem w_c42 : (Jvm.Cond.code ({ cls := "java/util/Arrays", name := "checkLength", desc := "(II)V" } : Jvm.MethodName) jdk_65_method_131_code (2 : Nat) (Option.none : Option Jvm.ClassFile.FieldType)).before args0 about1 = true := code_word (m := ⟨29, 4⟩) (meth := k29m4) (c := k29c4) (by decide +kernel) rfl rfl rfl (by decide +kernel)
set_option maxRecDepth 65536 in
theorem w_c43 : (Jvm.Cond.code ({ cls := "java/util/ArrayList", name := "grow", desc := "()[Ljava/lang/Object;" } : Jvm.MethodName) jdk_38_method_7_code (1 : Nat) (Option.some (Jvm.ClassFile.FieldType.array (Jvm.ClassFile.FieldType.object "java/lang/Object")))).before args0 about1 = true := code_word (m := ⟨22, 3⟩) (meth := k22m3) (c := k22c3) (by decide +kernel) rfl rfl rfl (by decide +kernel)
set_option maxRecDepth 65536 in
theorem w_c44 : (Jvm.Cond.code ({ cls := "java/util/ArrayList", name := "grow", desc := "(I)[Ljava/lang/Object;" } : Jvm.MethodName) jdk_38_method_6_code (4 : Nat) (Option.some (Jvm.ClassFile.FieldType.array (Jvm.ClassFile.FieldType.object "java/lang/Object")))).before args0 about1 = true := code_word (m := ⟨22, 2⟩) (meth := k22m2) (c := k22c2) (by decide +kernel) rfl rfl rfl (by decide +kernel)
set_option maxRecDepth 65536 in
theorem w_c45 : (Jvm.Cond.code ({ cls := "java/util/Arrays", name := "copyOf", desc := "([Ljava/lang/Object;I)[Ljava/lang/Object;" } : Jvm.MethodName) jdk_65_method_119_code (2 : Nat) (Option.some (Jvm.ClassFile.FieldType.array (Jvm.ClassFile.FieldType.object "java/lang/Object")))).before args0 about1 = true := code_word (m := ⟨29, 1⟩) (meth := k29m1) (c := k29c1) (by decide +kernel) rfl rfl rfl (by decide +kernel)
set_option maxRecDepth 65536 in
theorem w_c46 : (Jvm.Cond.code ({ cls := "java/util/Arrays", name := "copyOf", desc := "([Ljava/lang/Object;ILjava/lang/Class;)[Ljava/lang/Object;" } : Jvm.MethodName) jdk_65_method_120_code (4 : Nat) (Option.some (Jvm.ClassFile.FieldType.array (Jvm.ClassFile.FieldType.object "java/lang/Object")))).before args0 about1 = true := code_word (m := ⟨29, 2⟩) (meth := k29m2) (c := k29c2) (by decide +kernel) rfl rfl rfl (by decide +kernel)
def codes1 : List Jvm.Cond := [Jvm.Cond.code x code maxLocals ret, Jvm.Cond.code ({ cls := "java/lang/Exception", name := "<init>", desc := "()V" } : Jvm.MethodName) jdk_59_method_1_code (1 : Nat) (Option.none : Option Jvm.ClassFile.FieldType), Jvm.Cond.code ({ cls := "java/lang/Throwable", name := "<init>", desc := "()V" } : Jvm.MethodName) jdk_78_method_1_code (1 : Nat) (Option.none : Option Jvm.ClassFile.FieldType), Jvm.Cond.code ({ cls := "java/lang/Object", name := "<init>", desc := "()V" } : Jvm.MethodName) object_method_1_code (1 : Nat) (Option.none : Option Jvm.ClassFile.FieldType), Jvm.Cond.code ({ cls := "com/example/portable_transactions/portabletransactions/transaction/UnitEnding", name := "<init>", desc := "(Z)V" } : Jvm.MethodName) prog_49_method_1_code (2 : Nat) (Option.none : Option Jvm.ClassFile.FieldType), Jvm.Cond.code ({ cls := "com/example/portable_transactions/portabletransactions/transaction/UnitEnding", name := "isSettled", desc := "()Z" } : Jvm.MethodName) prog_49_method_6_code (1 : Nat) (Option.some Jvm.ClassFile.FieldType.boolean), Jvm.Cond.code ({ cls := "com/example/portable_transactions/portabletransactions/transaction/UnitEndingIsSettledPinLaw", name := "apply", desc := "(Lcom/example/portable_transactions/portabletransactions/transaction/UnitEnding;ILjava/lang/Exception;)V" } : Jvm.MethodName) method_2_code (3 : Nat) (Option.none : Option Jvm.ClassFile.FieldType), Jvm.Cond.code ({ cls := "com/example/portable_transactions/portabletransactions/transaction/UnitEnding", name := "commitFailedUntold", desc := "(Ljava/lang/Exception;)V" } : Jvm.MethodName) prog_49_method_3_code (2 : Nat) (Option.none : Option Jvm.ClassFile.FieldType), Jvm.Cond.code ({ cls := "com/example/portable_transactions/portabletransactions/transaction/UnitEndingIsSettledPinLaw", name := "expect", desc := "(IZ)Z" } : Jvm.MethodName) method_3_code (2 : Nat) (Option.some Jvm.ClassFile.FieldType.boolean), Jvm.Cond.code ({ cls := "com/example/portable_transactions/portabletransactions/transaction/UnitEnding", name := "commitFailed", desc := "(Ljava/lang/Exception;Z)V" } : Jvm.MethodName) prog_49_method_2_code (3 : Nat) (Option.none : Option Jvm.ClassFile.FieldType), Jvm.Cond.code ({ cls := "com/example/portable_transactions/portabletransactions/transaction/UnitEnding", name := "rollbackFailed", desc := "(Ljava/lang/Exception;)V" } : Jvm.MethodName) prog_49_method_4_code (2 : Nat) (Option.none : Option Jvm.ClassFile.FieldType), Jvm.Cond.code ({ cls := "com/example/portable_transactions/portabletransactions/transaction/UnitEnding", name := "releaseFailed", desc := "(Ljava/lang/Exception;Ljava/lang/String;)V" } : Jvm.MethodName) prog_49_method_5_code (3 : Nat) (Option.none : Option Jvm.ClassFile.FieldType), Jvm.Cond.code ({ cls := "java/util/Objects", name := "requireNonNull", desc := "(Ljava/lang/Object;Ljava/lang/String;)Ljava/lang/Object;" } : Jvm.MethodName) jdk_31_method_11_code (2 : Nat) (Option.some (Jvm.ClassFile.FieldType.object "java/lang/Object")), Jvm.Cond.code ({ cls := "java/util/ArrayList", name := "<init>", desc := "(I)V" } : Jvm.MethodName) jdk_38_method_1_code (2 : Nat) (Option.none : Option Jvm.ClassFile.FieldType), Jvm.Cond.code ({ cls := "java/util/AbstractList", name := "<init>", desc := "()V" } : Jvm.MethodName) jdk_39_method_1_code (1 : Nat) (Option.none : Option Jvm.ClassFile.FieldType), Jvm.Cond.code ({ cls := "java/util/AbstractCollection", name := "<init>", desc := "()V" } : Jvm.MethodName) jdk_22_method_1_code (1 : Nat) (Option.none : Option Jvm.ClassFile.FieldType), Jvm.Cond.code ({ cls := "java/util/ArrayList", name := "add", desc := "(Ljava/lang/Object;)Z" } : Jvm.MethodName) jdk_38_method_25_code (2 : Nat) (Option.some Jvm.ClassFile.FieldType.boolean), Jvm.Cond.code ({ cls := "java/util/ArrayList", name := "add", desc := "(Ljava/lang/Object;[Ljava/lang/Object;I)V" } : Jvm.MethodName) jdk_38_method_24_code (4 : Nat) (Option.none : Option Jvm.ClassFile.FieldType), Jvm.Cond.code ({ cls := "java/lang/StringBuilder", name := "<init>", desc := "()V" } : Jvm.MethodName) jdk_67_method_1_code (1 : Nat) (Option.none : Option Jvm.ClassFile.FieldType), Jvm.Cond.code ({ cls := "java/lang/AbstractStringBuilder", name := "<init>", desc := "(I)V" } : Jvm.MethodName) jdk_68_method_2_code (2 : Nat) (Option.none : Option Jvm.ClassFile.FieldType), Jvm.Cond.code ({ cls := "java/lang/StringBuilder", name := "append", desc := "(Ljava/lang/String;)Ljava/lang/StringBuilder;" } : Jvm.MethodName) jdk_67_method_7_code (2 : Nat) (Option.some (Jvm.ClassFile.FieldType.object "java/lang/StringBuilder")), Jvm.Cond.code ({ cls := "java/lang/AbstractStringBuilder", name := "append", desc := "(Ljava/lang/String;)Ljava/lang/AbstractStringBuilder;" } : Jvm.MethodName) jdk_68_method_22_code (3 : Nat) (Option.some (Jvm.ClassFile.FieldType.object "java/lang/AbstractStringBuilder")), Jvm.Cond.code ({ cls := "java/lang/String", name := "length", desc := "()I" } : Jvm.MethodName) jdk_42_method_54_code (1 : Nat) (Option.some Jvm.ClassFile.FieldType.int), Jvm.Cond.code ({ cls := "java/lang/String", name := "coder", desc := "()B" } : Jvm.MethodName) jdk_42_method_152_code (1 : Nat) (Option.some Jvm.ClassFile.FieldType.byte), Jvm.Cond.code ({ cls := "java/lang/AbstractStringBuilder", name := "ensureCapacityInternal", desc := "(I)V" } : Jvm.MethodName) jdk_68_method_9_code (3 : Nat) (Option.none : Option Jvm.ClassFile.FieldType), Jvm.Cond.code ({ cls := "java/lang/AbstractStringBuilder", name := "putStringAt", desc := "(ILjava/lang/String;)V" } : Jvm.MethodName) jdk_68_method_73_code (3 : Nat) (Option.none : Option Jvm.ClassFile.FieldType), Jvm.Cond.code ({ cls := "java/lang/AbstractStringBuilder", name := "inflateIfNeededFor", desc := "(Ljava/lang/String;)V" } : Jvm.MethodName) jdk_68_method_71_code (2 : Nat) (Option.none : Option Jvm.ClassFile.FieldType), Jvm.Cond.code ({ cls := "java/lang/String", name := "getBytes", desc := "([BIB)V" } : Jvm.MethodName) jdk_42_method_147_code (4 : Nat) (Option.none : Option Jvm.ClassFile.FieldType), Jvm.Cond.code ({ cls := "java/lang/AbstractStringBuilder", name := "newCapacity", desc := "(I)I" } : Jvm.MethodName) jdk_68_method_10_code (6 : Nat) (Option.some Jvm.ClassFile.FieldType.int), Jvm.Cond.code ({ cls := "jdk/internal/util/ArraysSupport", name := "newLength", desc := "(III)I" } : Jvm.MethodName) jdk_48_method_27_code (4 : Nat) (Option.some Jvm.ClassFile.FieldType.int), Jvm.Cond.code ({ cls := "java/lang/Math", name := "max", desc := "(II)I" } : Jvm.MethodName) jdk_29_method_65_code (2 : Nat) (Option.some Jvm.ClassFile.FieldType.int), Jvm.Cond.code ({ cls := "java/util/Arrays", name := "copyOf", desc := "([BI)[B" } : Jvm.MethodName) jdk_65_method_121_code (3 : Nat) (Option.some (Jvm.ClassFile.FieldType.array Jvm.ClassFile.FieldType.byte)), Jvm.Cond.code ({ cls := "java/lang/Math", name := "min", desc := "(II)I" } : Jvm.MethodName) jdk_29_method_69_code (2 : Nat) (Option.some Jvm.ClassFile.FieldType.int), Jvm.Cond.code ({ cls := "java/lang/StringBuilder", name := "toString", desc := "()Ljava/lang/String;" } : Jvm.MethodName) jdk_67_method_42_code (1 : Nat) (Option.some (Jvm.ClassFile.FieldType.object "java/lang/String")), Jvm.Cond.code ({ cls := "java/lang/String", name := "<init>", desc := "(Ljava/lang/StringBuilder;)V" } : Jvm.MethodName) jdk_42_method_53_code (2 : Nat) (Option.none : Option Jvm.ClassFile.FieldType), Jvm.Cond.code ({ cls := "java/lang/String", name := "<init>", desc := "(Ljava/lang/AbstractStringBuilder;Ljava/lang/Void;)V" } : Jvm.MethodName) jdk_42_method_150_code (5 : Nat) (Option.none : Option Jvm.ClassFile.FieldType), Jvm.Cond.code ({ cls := "java/lang/AbstractStringBuilder", name := "getValue", desc := "()[B" } : Jvm.MethodName) jdk_68_method_64_code (1 : Nat) (Option.some (Jvm.ClassFile.FieldType.array Jvm.ClassFile.FieldType.byte)), Jvm.Cond.code ({ cls := "java/lang/StringBuilder", name := "length", desc := "()I" } : Jvm.MethodName) jdk_67_method_93_code (1 : Nat) (Option.some Jvm.ClassFile.FieldType.int), Jvm.Cond.code ({ cls := "java/lang/AbstractStringBuilder", name := "length", desc := "()I" } : Jvm.MethodName) jdk_68_method_6_code (1 : Nat) (Option.some Jvm.ClassFile.FieldType.int), Jvm.Cond.code ({ cls := "java/lang/AbstractStringBuilder", name := "isLatin1", desc := "()Z" } : Jvm.MethodName) jdk_68_method_68_code (1 : Nat) (Option.some Jvm.ClassFile.FieldType.boolean), Jvm.Cond.code ({ cls := "java/util/Arrays", name := "copyOfRange", desc := "([BII)[B" } : Jvm.MethodName) jdk_65_method_132_code (3 : Nat) (Option.some (Jvm.ClassFile.FieldType.array Jvm.ClassFile.FieldType.byte)), Jvm.Cond.code ({ cls := "java/util/Arrays", name := "copyOfRangeByte", desc := "([BII)[B" } : Jvm.MethodName) jdk_65_method_133_code (5 : Nat) (Option.some (Jvm.ClassFile.FieldType.array Jvm.ClassFile.FieldType.byte)), Jvm.Cond.code ({ cls := "java/util/Arrays", name := "checkLength", desc := "(II)V" } : Jvm.MethodName) jdk_65_method_131_code (2 : Nat) (Option.none : Option Jvm.ClassFile.FieldType), Jvm.Cond.code ({ cls := "java/util/ArrayList", name := "grow", desc := "()[Ljava/lang/Object;" } : Jvm.MethodName) jdk_38_method_7_code (1 : Nat) (Option.some (Jvm.ClassFile.FieldType.array (Jvm.ClassFile.FieldType.object "java/lang/Object"))), Jvm.Cond.code ({ cls := "java/util/ArrayList", name := "grow", desc := "(I)[Ljava/lang/Object;" } : Jvm.MethodName) jdk_38_method_6_code (4 : Nat) (Option.some (Jvm.ClassFile.FieldType.array (Jvm.ClassFile.FieldType.object "java/lang/Object"))), Jvm.Cond.code ({ cls := "java/util/Arrays", name := "copyOf", desc := "([Ljava/lang/Object;I)[Ljava/lang/Object;" } : Jvm.MethodName) jdk_65_method_119_code (2 : Nat) (Option.some (Jvm.ClassFile.FieldType.array (Jvm.ClassFile.FieldType.object "java/lang/Object"))), Jvm.Cond.code ({ cls := "java/util/Arrays", name := "copyOf", desc := "([Ljava/lang/Object;ILjava/lang/Class;)[Ljava/lang/Object;" } : Jvm.MethodName) jdk_65_method_120_code (4 : Nat) (Option.some (Jvm.ClassFile.FieldType.array (Jvm.ClassFile.FieldType.object "java/lang/Object")))]
set_option maxRecDepth 65536 in
theorem codes_eq : words1.filter isCode = codes1 := rfl
theorem w_codes : ∀ c ∈ words1.filter isCode, c.before args0 about1 = true := by
  rw [codes_eq]
  intro c hc
  simp only [codes1, List.mem_cons, List.not_mem_nil, or_false] at hc
  rcases hc with rfl | rfl | rfl | rfl | rfl | rfl | rfl | rfl | rfl | rfl | rfl | rfl | rfl | rfl | rfl | rfl | rfl | rfl | rfl | rfl | rfl | rfl | rfl | rfl | rfl | rfl | rfl | rfl | rfl | rfl | rfl | rfl | rfl | rfl | rfl | rfl | rfl | rfl | rfl | rfl | rfl | rfl | rfl | rfl | rfl | rfl | rfl
  · exact w_c0
  · exact w_c1
  · exact w_c2
  · exact w_c3
  · exact w_c4
  · exact w_c5
  · exact w_c6
  · exact w_c7
  · exact w_c8
  · exact w_c9
  · exact w_c10
  · exact w_c11
  · exact w_c12
  · exact w_c13
  · exact w_c14
  · exact w_c15
  · exact w_c16
  · exact w_c17
  · exact w_c18
  · exact w_c19
  · exact w_c20
  · exact w_c21
  · exact w_c22
  · exact w_c23
  · exact w_c24
  · exact w_c25
  · exact w_c26
  · exact w_c27
  · exact w_c28
  · exact w_c29
  · exact w_c30
  · exact w_c31
  · exact w_c32
  · exact w_c33
  · exact w_c34
  · exact w_c35
  · exact w_c36
  · exact w_c37
  · exact w_c38
  · exact w_c39
  · exact w_c40
  · exact w_c41
  · exact w_c42
  · exact w_c43
  · exact w_c44
  · exact w_c45
  · exact w_c46
set_option maxRecDepth 65536 in
theorem w_t1 : (words1.take 24).all (fun c => isCode c || c.before args0 about1) = true := by decide +kernel
set_option maxRecDepth 65536 in
theorem w_t2 : ((words1.drop 24).take 24).all (fun c => isCode c || c.before args0 about1) = true := by decide +kernel
set_option maxRecDepth 65536 in
theorem w_t3 : (((words1.drop 24).drop 24).take 24).all (fun c => isCode c || c.before args0 about1) = true := by decide +kernel
set_option maxRecDepth 65536 in
theorem w_t4 : ((((words1.drop 24).drop 24).drop 24).take 24).all (fun c => isCode c || c.before args0 about1) = true := by decide +kernel
set_option maxRecDepth 65536 in
theorem w_t5 : (((((words1.drop 24).drop 24).drop 24).drop 24).take 24).all (fun c => isCode c || c.before args0 about1) = true := by decide +kernel
set_option maxRecDepth 65536 in
theorem w_t6 : ((((((words1.drop 24).drop 24).drop 24).drop 24).drop 24).take 24).all (fun c => isCode c || c.before args0 about1) = true := by decide +kernel
set_option maxRecDepth 65536 in
theorem w_t7 : (((((((words1.drop 24).drop 24).drop 24).drop 24).drop 24).drop 24).take 24).all (fun c => isCode c || c.before args0 about1) = true := by decide +kernel
set_option maxRecDepth 65536 in
theorem w_t8 : ((((((((words1.drop 24).drop 24).drop 24).drop 24).drop 24).drop 24).drop 24).take 24).all (fun c => isCode c || c.before args0 about1) = true := by decide +kernel
set_option maxRecDepth 65536 in
theorem w_t9 : (((((((((words1.drop 24).drop 24).drop 24).drop 24).drop 24).drop 24).drop 24).drop 24).take 24).all (fun c => isCode c || c.before args0 about1) = true := by decide +kernel
set_option maxRecDepth 65536 in
theorem w_t10 : ((((((((((words1.drop 24).drop 24).drop 24).drop 24).drop 24).drop 24).drop 24).drop 24).drop 24).take 24).all (fun c => isCode c || c.before args0 about1) = true := by decide +kernel
set_option maxRecDepth 65536 in
theorem w_t11 : (((((((((((words1.drop 24).drop 24).drop 24).drop 24).drop 24).drop 24).drop 24).drop 24).drop 24).drop 24).take 24).all (fun c => isCode c || c.before args0 about1) = true := by decide +kernel
set_option maxRecDepth 65536 in
theorem w_t12 : ((((((((((((words1.drop 24).drop 24).drop 24).drop 24).drop 24).drop 24).drop 24).drop 24).drop 24).drop 24).drop 24).take 24).all (fun c => isCode c || c.before args0 about1) = true := by decide +kernel
set_option maxRecDepth 65536 in
theorem w_t13 : (((((((((((((words1.drop 24).drop 24).drop 24).drop 24).drop 24).drop 24).drop 24).drop 24).drop 24).drop 24).drop 24).drop 24).take 24).all (fun c => isCode c || c.before args0 about1) = true := by decide +kernel
set_option maxRecDepth 65536 in
theorem w_t14 : (((((((((((((words1.drop 24).drop 24).drop 24).drop 24).drop 24).drop 24).drop 24).drop 24).drop 24).drop 24).drop 24).drop 24).drop 24).all (fun c => isCode c || c.before args0 about1) = true := by decide +kernel
theorem w_tables : (allAtoms (Jvm.Cond.code x code maxLocals ret :: tables_1)).before args0 about1 = true := by
  rw [allAtoms_all]
  show words1.all (fun c => c.before args0 about1) = true
  refine all_split ?_ w_codes
  rw [← List.take_append_drop 24 words1, List.all_append, w_t1, ← List.take_append_drop 24 (words1.drop 24), List.all_append, w_t2, ← List.take_append_drop 24 ((words1.drop 24).drop 24), List.all_append, w_t3, ← List.take_append_drop 24 (((words1.drop 24).drop 24).drop 24), List.all_append, w_t4, ← List.take_append_drop 24 ((((words1.drop 24).drop 24).drop 24).drop 24), List.all_append, w_t5, ← List.take_append_drop 24 (((((words1.drop 24).drop 24).drop 24).drop 24).drop 24), List.all_append, w_t6, ← List.take_append_drop 24 ((((((words1.drop 24).drop 24).drop 24).drop 24).drop 24).drop 24), List.all_append, w_t7, ← List.take_append_drop 24 (((((((words1.drop 24).drop 24).drop 24).drop 24).drop 24).drop 24).drop 24), List.all_append, w_t8, ← List.take_append_drop 24 ((((((((words1.drop 24).drop 24).drop 24).drop 24).drop 24).drop 24).drop 24).drop 24), List.all_append, w_t9, ← List.take_append_drop 24 (((((((((words1.drop 24).drop 24).drop 24).drop 24).drop 24).drop 24).drop 24).drop 24).drop 24), List.all_append, w_t10, ← List.take_append_drop 24 ((((((((((words1.drop 24).drop 24).drop 24).drop 24).drop 24).drop 24).drop 24).drop 24).drop 24).drop 24), List.all_append, w_t11, ← List.take_append_drop 24 (((((((((((words1.drop 24).drop 24).drop 24).drop 24).drop 24).drop 24).drop 24).drop 24).drop 24).drop 24).drop 24), List.all_append, w_t12, ← List.take_append_drop 24 ((((((((((((words1.drop 24).drop 24).drop 24).drop 24).drop 24).drop 24).drop 24).drop 24).drop 24).drop 24).drop 24).drop 24), List.all_append, w_t13, w_t14]
  rfl
set_option maxRecDepth 65536 in
theorem w_rest : rest_1_c.before args0 about1 = true := by decide +kernel
set_option maxRecDepth 65536 in
theorem w_case : (Jvm.Cond.and given_1 narrow_1).before args0 about1 = true := by decide +kernel
set_option maxRecDepth 65536 in
theorem w_consts : constsHeld consts_1 about1 := Jvm.Lit.constsHeldB_iff.mp (by decide +kernel)
theorem w_applies : (headSpec (Jvm.Cond.code x code maxLocals ret :: tables_1) room_1).applies x e0.platform about1 = true :=
  (Spec.applies_iff w_frames).mpr ⟨w_running, w_runnable, w_alone, w_named, w_hears, w_ripe, w_room, w_tables⟩
theorem atStart : AtStart classFile x code maxLocals ret World_1 tables_1 room_1 Calls_1 rest_1 Pre_1 launch0 p0 e0 about1 theMethod args0 below0 :=
  ⟨lists_1, trivial, launch0.admits_env _ _ _, launch0.least_env, fairChoices_fair.cas, fairChoices_fair.clock, w_frames, w_args, w_heap, w_applies, ⟨(by decide +kernel : framesKnown about1 = true), ⟨(by decide +kernel : tablesKnown about1 = true), ⟨⟨39, k39, 11, by decide +kernel, rfl, rfl, _, rfl, rfl⟩, ⟨w_consts, trivial⟩⟩⟩⟩, w_rest, w_case⟩
end start1
theorem witness_1 : WitnessClaimed_1 := ⟨start1.p0, start1.e0, start1.about1, start1.theMethod, start1.args0, start1.below0, start1.atStart⟩
end Jvm.Pilot.@@N@@
