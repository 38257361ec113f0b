import JvmDerived
import JvmDerived.Pilot.@@N@@Statement
import JvmDerived.Pilot.@@N@@Code
set_option linter.unusedVariables false
set_option linter.unusedSimpArgs false
namespace Jvm.RoadKit
open Sem ClassFile Op Lib Jvm.Stand Jvm.Free Jvm.LawKit
section New
variable {p : Program} {l : Launch} {e : Env} {R : Room} {s : State} {m : MethodId} {args : Array Value} {below : List Frame} {meth : Method} {c : Code} {T : State} {locs : List Loc} {cells slots : Nat}
theorem retI (X : Stand p l e R s m args below meth c T locs cells slots) (hx : p.tables.exec = Jvm.exec) {pc : Nat} {Ls : Array Slot} {z : Int32} {rest : List Value} (hret : meth.sig.returnType = some .int) (hd : decode c.code pc = .ok (.ireturn, 1)) {fs : List Frame}
    (hl : ∀ (f : JFrame) (acts : List Action), f.method = m → f.locked = none → f.entered = [] → (doReturn e (T.setTop f) acts (some (.int z))).1 = T.setFrames fs) : Steps p.tables e below (T.setTop (mkF m pc Ls (.int z :: rest))) (T.setFrames fs) := by
  have hm' : T.vm.method? m = some meth := X.method'
  have hn : narrow .int (.int z) = .int z := rfl
  show Steps p.tables e below (T.setTop { method := m, pc := pc, locals := Ls, stack := _ :: rest, locked := none }) _
  jvm_step X.here [X.here.top, hx, hd, hm', hret, hn]
  first | (intro acts; rw [hl _ acts rfl rfl rfl]) | rw [hl _ _ rfl rfl rfl]
  exact Steps.refl _
end New
end Jvm.RoadKit
namespace Jvm.Pilot.@@N@@
open Jvm Jvm.ClassFile Sem Op Lib Jvm.Free Jvm.Stand Jvm.LawKit Jvm.RoadKit Bundle Jvm.Free.SB Jvm.Free.SBG Jvm.Pilot.@@N@@.Jvm.D
/-- a body's contract: from these arguments and this heap it returns, and Q says what it leaves -/
abbrev OwCon (l : Launch) (y : MethodName) (bytes : ByteArray) (ml : Nat) (ret : Option FieldType) (ws : List Jvm.Cond) (rm : Room) (as : Array Value) (Z : State) (h0 : Heap) (Q : Option Value → Heap → List Loc → Prop) : Prop :=
  MetFree l y (head1 (Jvm.Cond.code y bytes ml ret :: ws) rm) (fun a U => a = as ∧ Z.Warmed39 U.vm ∧ U.heap = h0) (fun _ _ _ _ _ => True) (fun _ U o U' => ∃ v L, o = .returned v ∧ Q v U'.heap L ∧ FrameEnd U o U' L rm.cells rm.slots)
/-- .. it may load literals that nobody loaded before -/
abbrev OwConW (l : Launch) (y : MethodName) (bytes : ByteArray) (ml : Nat) (ret : Option FieldType) (ws : List Jvm.Cond) (rm : Room) (as : Array Value) (Z : State) (h0 : Heap) (Q : Option Value → Heap → List Loc → Prop) : Prop :=
  MetFree l y (head1 (Jvm.Cond.code y bytes ml ret :: ws) rm) (fun a U => a = as ∧ Z.Warmed39 U.vm ∧ U.heap = h0) (fun _ _ _ _ _ => True) (fun _ U o U' => ∃ v L, o = .returned v ∧ Q v U'.heap L ∧ ReturnedEndW U o U' L rm.cells rm.slots)
/-- .. and read some that are held -/
abbrev OwConH (l : Launch) (y : MethodName) (bytes : ByteArray) (ml : Nat) (ret : Option FieldType) (ws : List Jvm.Cond) (rm : Room) (as : Array Value) (Z : State) (h0 : Heap) (EL : List (String × Nat)) (Q : Option Value → Heap → List Loc → Prop) : Prop :=
  MetFree l y (head1 (Jvm.Cond.code y bytes ml ret :: ws) rm) (fun a U => a = as ∧ Z.Warmed39 U.vm ∧ U.heap = h0 ∧ CHv Z EL U.vm h0) (fun _ _ _ _ _ => True) (fun _ U o U' => ∃ v L, o = .returned v ∧ Q v U'.heap L ∧ CHr Z EL U.vm U.heap U'.vm U'.heap ∧ ReturnedEndW U o U' L rm.cells rm.slots)
/-- it returns val and leaves the heap as it was -/
def OwQ (val : Option Value) (h0 : Heap) (n0 : Nat) (v : Option Value) (h : Heap) (L : List Loc) : Prop := v = val ∧ Fr n0 L ∧ h = h0
/-- it writes nothing old, and P holds of what it returns and leaves -/
def OwP (P : Option Value → Heap → Prop) (n0 : Nat) (v : Option Value) (h : Heap) (L : List Loc) : Prop := Fr n0 L ∧ P v h
theorem own_eqI {args : Array Value} {s : State} {t : Term} {k : Int32} (h : (Jvm.Cond.eq t (.int k)).value args s none s [] = some true) : t.eval args s none [] s = some (.int k) := by
  obtain ⟨x, y, h1, h2, -, q⟩ := cmp_v (Or.inl h)
  cases h2
  obtain ⟨z, rfl⟩ := q
  rw [h1]; simp [Cond.value, h1, Term.eval] at h; rw [h]
theorem own_eqJ {args : Array Value} {s : State} {t : Term} {k : Int64} (h : (Jvm.Cond.eq t (.long k)).value args s none s [] = some true) : t.eval args s none [] s = some (.long k) := by
  obtain ⟨x, y, h1, h2, -, q⟩ := cmp_v (Or.inl h)
  cases h2
  obtain ⟨z, rfl⟩ := q
  rw [h1]; simp [Cond.value, h1, Term.eval] at h; rw [h]
theorem own_eqR {args : Array Value} {s : State} {t t' : Term} {a : Addr} (h : (Jvm.Cond.eq t t').value args s none s [] = some true) (e : t'.eval args s none [] s = some (.ref a)) : t.eval args s none [] s = some (.ref a) := by
  obtain ⟨x, y, h1, h2, q, -⟩ := cmp_v (Or.inl h)
  cases e.symm.trans h2
  cases x with
  | null => simp [Cond.value, h1, h2] at h
  | ref b => simp [Cond.value, h1, h2] at h; rw [h1, h]
  | _ => simp [Kin, Value.isRef] at q
theorem own_retB {p : Program} {l : Launch} {e : Env} {R : Room} {s : State} {m : MethodId} {args : Array Value} {below : List Frame} {meth : Method} {c : Code} {T : State} {locs : List Loc} {cells slots : Nat} (X : Stand p l e R s m args below meth c T locs cells slots) (hx : p.tables.exec = Jvm.exec) {pc : Nat} {Ls : Array Slot} {z w : Int32} {t : FieldType} {rest : List Value} (hret : meth.sig.returnType = some t) (ht : t = .boolean ∨ t = .byte ∨ t = .char ∨ t = .short)
    (hd : decode c.code pc = .ok (.ireturn, 1)) (q : nar t z = w) {fs : List Frame} (hl : ∀ (f : JFrame) (acts : List Action), f.method = m → f.locked = none → f.entered = [] → (doReturn e (T.setTop f) acts (some (.int w))).1 = T.setFrames fs) : Steps p.tables e below (T.setTop (mkF m pc Ls (.int z :: rest))) (T.setFrames fs) := by
  subst q; exact retN X hx hret ht hd hl
theorem own_neI {args : Array Value} {s : State} {t : Term} {k x : Int32} (h : (Jvm.Cond.not (Jvm.Cond.eq t (.int k))).value args s none s [] = some true) (e : t.eval args s none [] s = some (.int x)) : ¬ x = k := by
  have q := not_v h
  simpa [Cond.value, e, Term.eval] using q
theorem own_cat {v : Value} (h : v.isRef = true) : v.category = 1 := by rcases ref_cases h with rfl | ⟨a, rfl⟩ <;> rfl
theorem own_len {args : Array Value} {s : State} {t : Term} {a : Addr} {cl : Cell} {ty : FieldType} {n : Int32} (e : t.eval args s none [] s = some (.ref a)) (A : Arr s s.heap a cl ty) (h : (Term.length t).eval args s none [] s = some (.int n)) : cl.slots.size < 2 ^ 31 ∧ cl.slots.size.toInt32 = n := by
  have q := Arr.fin (Vm.Alike.refl _) A
  simpa [Term.eval, e, q] using h
theorem own_el {args : Array Value} {s : State} {t : Term} {a : Addr} {cl : Cell} {ty : FieldType} {j : Int32} {v : Value} (e : t.eval args s none [] s = some (.ref a)) (A : Arr s s.heap a cl ty) (h : (Term.elem t (.int j)).eval args s none [] s = some v) : cl.slots[j.toNatClampNeg]? = some v := (elem_in h e rfl A.1).2
theorem own_fld {args : Array Value} {s : State} {t : Term} {a : Addr} {C n d : String} {v : Value} (e : t.eval args s none [] s = some (.ref a)) (h : (Term.field t C n d).eval args s none [] s = some v) : Fld s s.heap a C n d v := Fld.start ((fld_at e).symm.trans h)
section LdcW
variable {p : Program} {l : Launch} {e : Env} {R : Room} {s : State} {m : MethodId} {args : Array Value} {below : List Frame} {meth : Method} {c : Code} {T : State} {locs : List Loc} {cells slots : Nat}
set_option maxHeartbeats 4000000 in
/-- 'ldc_w' of a String constant, whoever loaded it before: what the tables and the heap come to, and, where the String is made here, what it spells -/
theorem own_ldcwN (X : Stand p l e R s m args below meth c T locs cells slots) (hexec : p.tables.exec = Jvm.exec) {own text : String} {index : Nat} (hown : s.vm.findClass own = some m.cls)
    (hlink : (Jvm.Cond.stringLink own index text).before args s = true) (hS : ∀ a ∈ Bundle.stringAtoms, a.before args s = true)
    {g : JFrame} (hg : g.method = m) (hdg : decode c.code g.pc = .ok (.ldc_w index, 3)) {n : Nat} (hn : 4 * text.toList.length ≤ n) (hbig : n ≤ 536870912)
    (hc2 : cells + 2 ≤ R.cells) (hs2 : slots + (n + 4) ≤ R.slots) :
    ∃ (a : Addr) (T₂ : State), Stand p l e R (s.setVm T₂.vm) m args below meth c T₂ locs (cells + 2) (slots + (n + 4)) ∧ s.Since T₂.vm T₂.heap.size ∧
      (∃ k₂, T₂.vm.classes[m.cls]? = some k₂ ∧ k₂.resolved[index]? = some (some (.string a))) ∧ (∀ b, b < T.heap.size → T₂.heap[b]? = T.heap[b]?) ∧ T.Warmed39 T₂.vm ∧
      (T₂.vm.interned = T.vm.interned ∨ ∃ units : Array UInt16, utf16ToString? units = some text ∧ T₂.vm.interned = T.vm.interned.push (units, a) ∧ T.vm.interned.find? (fun q => q.1 == units) = none ∧ (units.all (· < 256) = true → SlIn 0 T.heap.size T₂ a units)) ∧
      ∀ target, Steps p.tables e below (T₂.setTop { g with pc := g.pc + 3, stack := .ref a :: g.stack }) target → Steps p.tables e below (T.setTop g) target := by
  have hWT : s.Warmed39 T.vm := X.warmed.wide
  have hownT : (s.setVm T.vm).vm.findClass own = some m.cls := by rw [show (s.setVm T.vm).vm = T.vm from rfl, hWT.alike.findClass]; exact hown
  obtain ⟨k, cf, i, units, hk, hcf, hpc, hpu, hnm, hdec, hres⟩ := Cond.stringLink_spec hownT (Cond.stringLink_warmed39 hWT hlink)
  have hkT : T.vm.classes[m.cls]? = some k := hk
  have n2 : (k.cf.bind fun x => namesOf? x.constantPool index) = some (.string text) := by rw [hcf]; exact hnm
  have n3 : (k.cf.bind fun x => x.constantPool[index]?) = some (.string i) := by rw [hcf]; exact hpc
  have n4 : (k.cf.bind fun x => x.constantPool.utf8? i) = some units := by rw [hcf]; simp [ConstantPool.utf8?, hpu]
  subst hg
  rcases hres with hopen | ⟨a, hr⟩
  · cases hf : T.vm.interned.find? (fun q => q.1 == units) with
    | some q =>
      obtain ⟨u, a⟩ := q
      obtain rfl : u = units := by have := Array.find?_some hf; simpa using this
      have w1 : T.Warmed39 (T.vm.noted g.method.cls index (.string a)) := (State.Warmed39.refl T).notedString hkT (Or.inl hopen) n2 n3 n4 hf
      have w2 : s.Warmed39 (T.vm.noted g.method.cls index (.string a)) := State.Warmed39.trans (t := T) hWT w1
      refine ⟨a, T.setVm (T.vm.noted g.method.cls index (.string a)), (X.mono (Nat.le_add_right _ _) (Nat.le_add_right _ _)).retabled w2, ⟨w2, State.Booked.step (T₂ := T.setVm _) (X.warmed.no_new_pair _) X.same.2.1 ⟨Nat.le_refl _, Or.inl rfl⟩⟩,
        ⟨_, Vm.classes_note_self index (.string a) hkT, Class.resolved_note_self (.string a) hopen⟩, fun _ _ => rfl, w1, Or.inl rfl, fun target hr => ?_⟩
      jvm_step X.here [hexec, hdg, ldc_w.wp_string_found (e := e) (s := T) (f := g) X.here.top hkT hcf hpc hpu hopen hf]
      exact hr
    | none =>
      obtain ⟨S, LS, h4, fit1, fit2⟩ := StringT.of_atoms (args := args) hS
      obtain ⟨kS, kB, LT, htS⟩ := LS.warmer X.warmed.alike
      have hbytes : (stringBytes units).size ≤ n := Nat.le_trans (text_bytes_le hdec) hn
      generalize hA : T.heap.size = A
      obtain ⟨V, hV⟩ : ∃ V : Vm, V = ({ T.vm with interned := T.vm.interned.push (units, A + 1) } : Vm) := ⟨_, rfl⟩
      have hVi : V.interned = T.vm.interned.push (units, A + 1) := by rw [hV]
      have hVf : V.interned.find? (fun q => q.1 == units) = some (units, A + 1) := by rw [hVi, Array.find?_push, hf]; simp
      have w1 : T.Warmed39 (V.noted g.method.cls index (.string (A + 1))) := by rw [hV] at hVf ⊢; exact ((State.Warmed39.refl T).interns units (A + 1)).notedString hkT (Or.inl hopen) n2 n3 n4 hVf
      have w2 : s.Warmed39 (V.noted g.method.cls index (.string (A + 1))) := State.Warmed39.trans (t := T) hWT w1
      obtain ⟨P, hP⟩ : ∃ P : State, P = withString T S.cB S.cS kS S.fv S.fc units := ⟨_, rfl⟩
      have hPh : P.heap = (T.heap.push (bytesOf S.cB units)).push (stringAt S.cS kS S.fv S.fc units A) := by rw [hP, withString_eq, ← hA]; rfl
      have hPs : P.heap.size = A + 2 := by rw [hPh]; simp [hA]
      have hPb : P.heap[A]? = some (bytesOf S.cB units) := by rw [hPh, Array.getElem?_push, if_neg (by rw [Array.size_push, hA]; omega), Array.getElem?_push, if_pos hA.symm]
      have hPc : P.heap[A + 1]? = some (stringAt S.cS kS S.fv S.fc units A) := by rw [hPh, Array.getElem?_push, if_pos (by rw [Array.size_push, hA])]
      have z1 : (bytesOf S.cB units).slots.size = (stringBytes units).size := by rw [(Cell.writeAll_facts _ _).2.2]; simp [bytes0]
      have z2 : (stringAt S.cS kS S.fv S.fc units A).slots.size = 4 := by simp [string0, Cell.setSlot, htS, h4]
      have XP : Stand p l e R s g.method args below meth c P locs (cells + 2) (slots + (n + 4)) := by
        have Y := (X.pushed (bytesOf S.cB units)).pushed (stringAt S.cS kS S.fv S.fc units A)
        rw [hP, withString_eq, hA]
        exact Y.mono (by omega) (by rw [z1, z2]; omega)
      have hfs : T.fitsSlot = s.fitsSlot := (show T.fitsSlot = (s.setVm T.vm).fitsSlot from rfl).trans (State.fitsSlot_setVm X.warmed.alike)
      refine ⟨A + 1, P.setVm (V.noted g.method.cls index (.string (A + 1))), XP.retabled w2, ⟨w2, State.Booked.step (T := T) (T₂ := P.setVm _) (X.warmed.no_new_pair _) X.same.2.1 ⟨?_, Or.inr ⟨units, A + 1, hVi, ?_, ?_⟩⟩⟩, ⟨_, Vm.classes_note_self (vm := V) index (.string (A + 1)) (by rw [hV]; exact hkT), Class.resolved_note_self (.string (A + 1)) hopen⟩, fun b hb => ?_, w1, Or.inr ⟨units, hdec, hVi, hf, fun hl => ?_⟩, fun target hrest => ?_⟩
      · show T.heap.size ≤ P.heap.size; omega
      · omega
      · show A + 1 < P.heap.size; omega
      · show P.heap[b]? = _
        rw [hPh, Array.getElem?_push, if_neg (by rw [Array.size_push, hA]; omega), Array.getElem?_push, if_neg (by omega)]
      · exact made_sl (W := P.setVm (V.noted g.method.cls index (.string (A + 1)))) hS LS h4 htS w2.alike hPb hPc hl (by omega) 0
      · refine Steps.instr (c := _) (by simpa using X.here) ?_
        simp [jvm, wpRun, exec, X.here.top, hexec, hdg]
        refine ldc_w.wp_string_new (e := e) (s := T) (f := g) X.here.top hkT hcf hpc hpu hopen hf LT.found LT.cls LT.initialized LT.ordinary LT.foundB LT.clsB LT.kindB LT.value LT.coder ?_ ?_ (X.cellsAbove hc2) ?_
          (stringBytes_fit LT.clsB LT.kindB units) LT.valueSlot LT.coderSlot (by rw [hfs]; exact fit1 _) (by rw [hfs]; exact fit2 _) (fun d' acts' => ?_)
        · rw [Launch.admits_arrayLengthLimit X.admits]; omega
        · rw [Launch.admits_maxHeapBytes X.admits]; simp only [componentBytes]; omega
        · have := X.slotsAbove hs2
          show T.slotsUsed + (stringBytes units).size + kS.instanceTypes.size ≤ _
          rw [htS, h4]; omega
        · intro acts''
          rw [hA, ← hP, ← hV]
          have q1 : P.topJava?.isSome := by rw [hP]; simpa [withString] using X.here.top
          have q2 : (P.setVm (V.noted g.method.cls index (.string (A + 1)))).topJava?.isSome := by simpa using q1
          simp [jvm, afterInstr, q1, q2]
          rw [State.modifyTopJava_setTop]
          exact hrest
  · refine ⟨a, T, (X.mono (Nat.le_add_right _ _) (Nat.le_add_right _ _)).retabled hWT, X.warmed.since _, ⟨k, hkT, hr⟩, fun _ _ => rfl, State.Warmed39.refl T, Or.inl rfl, fun target h => ?_⟩
    jvm_step X.here [hexec, hdg, ldc_w.wp_string (e := e) (s := T) (f := g) X.here.top hkT hcf hpc hr]
    exact h
/-- what a booked String spells, over the start's tables -/
theorem own_read {Z : State} {vm : Vm} {h : Heap} {a : Addr} {units : Array UInt16} {text : String} (hal : Z.vm.Alike vm) (F : SlOf (Wst Z vm h) a units) (htext : utf16ToString? units = some text) {vs : List Value} {z : Int32}
    (ht : (∀ c ∈ text.toList, c.toNat < 256) ∧ text.toList.map (fun c => Value.int (Jvm.Lit.byteI c.toNat.toUInt16)) = vs) (hz : ¬ z < 0) (hl : z.toNatClampNeg = vs.length) :
    ∃ (b : Addr) (k : ClassId), Exa Z h a "java/lang/String" ∧ Fld Z h a "java/lang/String" "coder" "B" (.int 0) ∧ Fld Z h a "java/lang/String" "value" "[B" (.ref b) ∧ Arv Z h b k .byte z vs (.int 0) := by
  have G : SlOf { Z with heap := h } a units := F.moved (W := { Z with heap := h }) hal.symm fun _ _ q => q
  obtain ⟨q, cS, rfl, ⟨⟨s1, s2, s3, ⟨cv, kv, iv, v1, v2⟩, ⟨cc, kc, ic, c1, c2⟩, s6, s7, s8, s9, s10, s11, s12, s13, s14, s15, s16⟩, hfS, hcS⟩, ⟨kS, k1, k2, k3⟩, hB, hby⟩ := G
  have hlat := Jvm.ClassFile.lat_of_text htext ht.1
  have eu : vs = units.toList.map fun u => Value.int (Jvm.Lit.byteI u) := by rw [← ht.2, Jvm.ClassFile.units_of_text htext ht.1, List.map_map]; rfl
  have hsl : q.SA.slots = units.map fun u => Value.int (Jvm.Lit.byteI u) := by rw [hby, SBG.stringBytes_lat hlat]; rfl
  have hsz : q.SA.slots.size = vs.length := by rw [hsl, eu]; simp
  have H : Has q.SA vs (.int 0) := fun j hj => by
    have hj' : j < units.size := by rw [hsl, Array.size_map] at hj; exact hj
    rw [hsl, eu]; simp [hj']
  refine ⟨q.sd, q.SA.cls, ⟨q.sC, kS, s1, by rw [hcS]; exact hfS, by rw [hcS]; exact k1, s3, fun _ => k3⟩, ⟨q.sC, cc, kc, ic, q.fSC, s1, c1, s7, s2, s3, c2, s9⟩, ⟨q.sC, cv, kv, iv, q.fSV, s1, v1, s6, s2, s3, v2, s8⟩, ⟨q.SA, ⟨s10, s11, s12⟩, rfl, by rw [hsz, hl], hz, H, fun j hj => ?_⟩⟩
  have e1 := s16 j hj
  rw [SBG.getD_of (H j hj)] at e1
  exact e1
/-- 'ldc_w' of any String constant: the words on what is held go on -/
theorem own_ldcwO {vm0 : Vm} {Z : State} {a0 : Array Value} {EL : List (String × Nat)} {h : Heap} {own text : String} {index : Nat} (X : Stand p l e R (s.setVm vm0) m args below meth c T locs cells slots) (hx : p.tables.exec = Jvm.exec) (hZ : Z.Warmed39 vm0) (hown : vm0.findClass own = some m.cls)
    (w : (Jvm.Cond.stringLink own index text).before a0 Z = true) (wS : ∀ a ∈ Bundle.stringAtoms, a.before a0 Z = true) (eT : T.heap = h) {k0 : Nat} (hS : s.Since vm0 k0) (hk : k0 ≤ h.size) (hEL : EW Z a0 EL) (H : CHv Z EL vm0 h)
    {g : JFrame} (hg : g.method = m) (hd : decode c.code g.pc = .ok (.ldc_w index, 3)) {n : Nat} (hn : 4 * text.toList.length ≤ n) (hbig : n ≤ 536870912) (hc : cells + 2 ≤ R.cells) (hl' : slots + (n + 4) ≤ R.slots) :
    ∃ (a : Addr) (T' : State) (h' : Heap) (k1 : Nat), Stand p l e R (s.setVm T'.vm) m args below meth c T' locs (cells + 2) (slots + (n + 4)) ∧ T'.heap = h' ∧ Ext h h' ∧ s.Since T'.vm k1 ∧ k1 ≤ h'.size ∧ Z.Warmed39 (s.setVm T'.vm).vm ∧ (s.setVm T'.vm).vm.findClass own = some m.cls ∧ CHr Z EL vm0 h T'.vm h' ∧ Lit (s.setVm T'.vm) own index a ∧
      ∀ target, Steps p.tables e below (T'.setTop { g with pc := g.pc + 3, stack := .ref a :: g.stack }) target → Steps p.tables e below (T.setTop g) target := by
  have wS' : ∀ d ∈ Bundle.stringAtoms, d.before args (s.setVm vm0) = true := fun d hd => by
    have q := wS d hd
    simp only [Bundle.stringAtoms, List.mem_cons, List.not_mem_nil, or_false] at hd
    rcases hd with rfl | rfl | rfl | rfl | rfl | rfl | rfl
    all_goals try exact mv (s := s.setVm vm0) hZ q (by rfl)
    exact mvA (s := s.setVm vm0) hZ q
  obtain ⟨a, T', X', hS', ⟨k, hkk, hrr⟩, hb, hTW, hint, st⟩ := own_ldcwN X hx (own := own) hown (mvS hZ w) wS' hg hd hn hbig hc hl'
  subst eT
  have E := ext_of hb
  have hZT : Z.Warmed39 T.vm := wtrans (s := s.setVm vm0) hZ X.warmed
  have A := CHv.at X hZ hEL H
  have B := CHv.later (vm := T.vm) (vm1 := T'.vm) hZT (show (Wst Z T.vm T.heap).Warmed39 T'.vm from hTW) hEL E (hint.imp id fun ⟨us, _, e1, e2, e3⟩ => ⟨us, a, e1, e2, fun hl => by
    obtain ⟨q, cS, hq, r1, r2, r3, r4, r5⟩ := e3 hl
    have F : SlB T' q us := ⟨cS, r1, r2, r3, r4⟩
    exact ⟨q, hq, F.carry (V := Wst Z T'.vm T'.heap) (Vm.Alike.refl _) F.ha F.hd, r5.elim (fun z => absurd z.1 (Nat.not_lt_zero _)) id⟩⟩) A.1
  have hf : T'.vm.findClass own = some m.cls := by rw [hS'.1.alike.findClass]; exact hown
  exact ⟨a, T', _, _, X', rfl, E, hS.trans hS' (Nat.le_trans hk E.1), Nat.le_refl _, State.Warmed39.trans (t := s.setVm vm0) hZ hS'.1, hf, A.trans ⟨B.1, E.1, B.2⟩, by simp [Lit, State.resolvedAt?, hf, hkk, hrr], st⟩
/-- .. and what the tables then book for it is read -/
theorem own_ldcwC {vm1 : Vm} {Z : State} {a0 : Array Value} {EL : List (String × Nat)} {h : Heap} {own text : String} {index : Nat} {a : Addr} (hZ : Z.Warmed39 vm1) (w : (Jvm.Cond.stringLink own index text).before a0 Z = true) (hmem : (own, index) ∈ EL) (H : CHv Z EL vm1 h) (L : Lit (s.setVm vm1) own index a) {vs : List Value} {z : Int32}
    (ht : (∀ c ∈ text.toList, c.toNat < 256) ∧ text.toList.map (fun c => Value.int (Jvm.Lit.byteI c.toNat.toUInt16)) = vs) (hz : ¬ z < 0) (hl : z.toNatClampNeg = vs.length) :
    ∃ (b : Addr) (k : ClassId), Exa Z h a "java/lang/String" ∧ Fld Z h a "java/lang/String" "coder" "B" (.int 0) ∧ Fld Z h a "java/lang/String" "value" "[B" (.ref b) ∧ Arv Z h b k .byte z vs (.int 0) := by
  have L' : (s.setVm vm1).resolvedAt? own index = some (.string a) := L
  have w2 : (Jvm.Cond.stringLink own index text).before a0 (Wst Z vm1 h) = true := mvS (s := { Z with heap := h }) hZ w
  cases hf : vm1.findClass own with
  | none => simp [State.resolvedAt?, show (s.setVm vm1).vm = vm1 from rfl, hf] at L'
  | some cur =>
    obtain ⟨k, cf, i, units, hk, hcf, hp, hu, -, htext, -⟩ := Cond.stringLink_spec (s := Wst Z vm1 h) (cur := cur) hf w2
    have hk' : vm1.classes[cur]? = some k := hk
    have hr : k.resolved[index]? = some (some (.string a)) := by
      simp [State.resolvedAt?, show (s.setVm vm1).vm = vm1 from rfl, hf, hk'] at L'
      cases hq : k.resolved[index]? with
      | none => rw [hq] at L'; cases L'
      | some o => rw [hq] at L'; cases o with
        | none => cases L'
        | some r => simpa using L'
    exact own_read hZ.alike (H _ hmem units a ⟨cur, k, cf, i, hf, hk, hcf, hp, hu, Or.inl hr⟩) htext ht hz hl
end LdcW
def owTab (Z : State) (w : Addr) : Prop := ∃ cl : Cell, Arr Z Z.heap w cl .int ∧ cl.slots.size = 256 ∧ cl.slots[(53 : Int32).toNatClampNeg]? = some (.int (402667017 : Int32))
theorem own_strin : ∀ w ∈ Bundle.stringAtoms, w ∈ tables_1 := by decide +kernel
theorem own_EW {Z : State} {a0 : Array Value} (hw : ∀ d ∈ tables_1, d.before a0 Z = true) : EW Z a0 consts_1 := (EW.cons (hw _ (List.mem_of_getElem? (i := 43) rfl)) (by decide) (EW.cons (hw _ (List.mem_of_getElem? (i := 97) rfl)) (by decide) (EW.cons (hw _ (List.mem_of_getElem? (i := 123) rfl)) (by decide) (EW.cons (hw _ (List.mem_of_getElem? (i := 124) rfl)) (by decide) (EW.cons (hw _ (List.mem_of_getElem? (i := 125) rfl)) (by decide) (EW.cons (hw _ (List.mem_of_getElem? (i := 27) rfl)) (by decide) EW.nil))))))
theorem own_nz (x : Int32) (h : (0 : Int32) < x) : x.toInt64 ≠ 0 := fun q => by
  have q' := congrArg Int64.toInt q
  rw [c_i2l] at q'
  rw [Int32.lt_iff_toInt_lt] at h
  have z1 : (0 : Int32).toInt = 0 := by decide
  have z2 : (0 : Int64).toInt = 0 := by decide
  omega
theorem own_n0 (x : Int64) : ¬ (x &&& (2147483647 : Int64)) < (0 : Int64) := by
  have h := c_maskL x (2147483647 : Int64) 31 (by decide) (by decide)
  rw [Int64.lt_iff_toInt_lt, h]
  have z2 : (0 : Int64).toInt = 0 := by decide
  omega
theorem own_n1 (x : Int64) : ¬ (2147483647 : Int64) < (x &&& (2147483647 : Int64)) := by
  have h := c_maskL x (2147483647 : Int64) 31 (by decide) (by decide)
  rw [Int64.lt_iff_toInt_lt, h]
  have z2 : (2147483647 : Int64).toInt = 2147483647 := by decide
  omega
theorem own_d0 (x : Int64) : ¬ (if (1 : Int64) < x then x else (1 : Int64)) < (1 : Int64) := by
  split
  · rename_i h; rw [Int64.lt_iff_toInt_lt] at *; omega
  · decide
theorem own_fin (nn dd : Int64) (p2 : Int32) (hn0 : ¬ nn < (0 : Int64)) (hn1 : ¬ (2147483647 : Int64) < nn) (hd0 : ¬ dd < (1 : Int64)) : (if dd < (nn * (p2.toInt64)) then (0 : Int32) else (1 : Int32)) = (if (0 : Int32) < p2 then (if (dd / (p2.toInt64)) < nn then (0 : Int32) else (1 : Int32)) else (1 : Int32)) := by
  have z0 : (0 : Int64).toInt = 0 := by decide
  have z1 : (1 : Int64).toInt = 1 := by decide
  have z2 : (2147483647 : Int64).toInt = 2147483647 := by decide
  have z3 : (0 : Int32).toInt = 0 := by decide
  rw [Int64.lt_iff_toInt_lt] at hn0 hn1 hd0
  have m := c_lmul nn p2.toInt64
  have e := c_i2l p2
  have r1 := rng32 p2
  have r2 := rng64 (nn * p2.toInt64)
  have r3 := rng64 dd
  rw [e] at m
  have b := mc (a := nn.toInt) (b := p2.toInt) (l1 := 0) (h1 := 2147483647) (l2 := -2147483648) (h2 := 2147483647) (by omega) (by omega) (by omega) (by omega)
  have v : (nn * p2.toInt64).toInt = nn.toInt * p2.toInt := by omega
  by_cases hp : (0 : Int32) < p2
  · rw [if_pos hp]
    rw [Int32.lt_iff_toInt_lt] at hp
    have q := (c_ldiv dd p2.toInt64 p2.toInt e (fun w => by have w' := congrArg Int64.toInt w; rw [e] at w'; have : (-1 : Int64).toInt = -1 := by decide
                                                            omega)).1 (by omega)
    have k : (dd < nn * p2.toInt64) ↔ (dd / p2.toInt64 < nn) := by
      rw [Int64.lt_iff_toInt_lt, Int64.lt_iff_toInt_lt, v, q]
      rw [z3] at hp
      exact (Int.ediv_lt_iff_lt_mul hp).symm
    by_cases h : dd < nn * p2.toInt64
    · rw [if_pos h, if_pos (k.mp h)]
    · rw [if_neg h, if_neg (mt k.mpr h)]
  · rw [if_neg hp, if_neg]
    rw [Int32.lt_iff_toInt_lt] at hp
    rw [Int64.lt_iff_toInt_lt, v]
    have : nn.toInt * p2.toInt ≤ 0 := Int.mul_nonpos_of_nonneg_of_nonpos (by omega) (by omega)
    omega

theorem d1_0 : decode jdk_29_method_66_code 0 = .ok (.lload_n 0, 1) := by decide +kernel
theorem d1_1 : decode jdk_29_method_66_code 1 = .ok (.lload_n 2, 1) := by decide +kernel
theorem d1_2 : decode jdk_29_method_66_code 2 = .ok (.lcmp, 1) := by decide +kernel
theorem d1_3 : decode jdk_29_method_66_code 3 = .ok (.ifCond .lt 7, 3) := by decide +kernel
theorem d1_6 : decode jdk_29_method_66_code 6 = .ok (.lload_n 0, 1) := by decide +kernel
theorem d1_7 : decode jdk_29_method_66_code 7 = .ok (.goto 4, 3) := by decide +kernel
theorem d1_10 : decode jdk_29_method_66_code 10 = .ok (.lload_n 2, 1) := by decide +kernel
theorem d1_11 : decode jdk_29_method_66_code 11 = .ok (.lreturn, 1) := by decide +kernel
theorem d2_0 : decode prog_49_method_1_code 0 = .ok (.aload_n 0, 1) := by decide +kernel
theorem d2_1 : decode prog_49_method_1_code 1 = .ok (.invokespecial 1, 3) := by decide +kernel
theorem d2_4 : decode prog_49_method_1_code 4 = .ok (.lload_n 1, 1) := by decide +kernel
theorem d2_5 : decode prog_49_method_1_code 5 = .ok (.lconst 0, 1) := by decide +kernel
theorem d2_6 : decode prog_49_method_1_code 6 = .ok (.lcmp, 1) := by decide +kernel
theorem d2_7 : decode prog_49_method_1_code 7 = .ok (.ifCond .lt 9, 3) := by decide +kernel
theorem d2_10 : decode prog_49_method_1_code 10 = .ok (.lload_n 3, 1) := by decide +kernel
theorem d2_11 : decode prog_49_method_1_code 11 = .ok (.lconst 1, 1) := by decide +kernel
theorem d2_12 : decode prog_49_method_1_code 12 = .ok (.lcmp, 1) := by decide +kernel
theorem d2_13 : decode prog_49_method_1_code 13 = .ok (.ifCond .ge 18, 3) := by decide +kernel
theorem d2_16 : decode prog_49_method_1_code 16 = .ok (.new 7, 3) := by decide +kernel
theorem d2_19 : decode prog_49_method_1_code 19 = .ok (.dup, 1) := by decide +kernel
theorem d2_20 : decode prog_49_method_1_code 20 = .ok (.lload_n 1, 1) := by decide +kernel
theorem d2_21 : decode prog_49_method_1_code 21 = .ok (.lload_n 3, 1) := by decide +kernel
theorem d2_27 : decode prog_49_method_1_code 27 = .ok (.invokespecial 13, 3) := by decide +kernel
theorem d2_30 : decode prog_49_method_1_code 30 = .ok (.athrow, 1) := by decide +kernel
theorem d2_31 : decode prog_49_method_1_code 31 = .ok (.aload_n 0, 1) := by decide +kernel
theorem d2_32 : decode prog_49_method_1_code 32 = .ok (.lload_n 1, 1) := by decide +kernel
theorem d2_33 : decode prog_49_method_1_code 33 = .ok (.putfield 16, 3) := by decide +kernel
theorem d2_36 : decode prog_49_method_1_code 36 = .ok (.aload_n 0, 1) := by decide +kernel
theorem d2_37 : decode prog_49_method_1_code 37 = .ok (.lload_n 3, 1) := by decide +kernel
theorem d2_38 : decode prog_49_method_1_code 38 = .ok (.putfield 22, 3) := by decide +kernel
theorem d2_41 : decode prog_49_method_1_code 41 = .ok (.return_, 1) := by decide +kernel
theorem owpn2 : plainName "com/example/vestwright/vestwright/plan/Plan$Fraction" = true := by first | (simp [plainName, overriddenIn]; done) | decide +kernel
theorem d3_0 : decode jdk_30_method_1_code 0 = .ok (.aload_n 0, 1) := by decide +kernel
theorem d3_1 : decode jdk_30_method_1_code 1 = .ok (.invokespecial 1, 3) := by decide +kernel
theorem d3_4 : decode jdk_30_method_1_code 4 = .ok (.return_, 1) := by decide +kernel
theorem owpn3 : plainName "java/lang/Record" = true := by first | (simp [plainName, overriddenIn]; done) | decide +kernel
theorem d5_0 : decode prog_44_method_1_code 0 = .ok (.aload_n 0, 1) := by decide +kernel
theorem d5_1 : decode prog_44_method_1_code 1 = .ok (.invokespecial 1, 3) := by decide +kernel
theorem d5_4 : decode prog_44_method_1_code 4 = .ok (.aload_n 1, 1) := by decide +kernel
theorem d5_5 : decode prog_44_method_1_code 5 = .ok (.invokestatic 7, 3) := by decide +kernel
theorem d5_8 : decode prog_44_method_1_code 8 = .ok (.aload_n 2, 1) := by decide +kernel
theorem d5_9 : decode prog_44_method_1_code 9 = .ok (.ldc 13, 2) := by decide +kernel
theorem d5_11 : decode prog_44_method_1_code 11 = .ok (.invokestatic 15, 3) := by decide +kernel
theorem d5_14 : decode prog_44_method_1_code 14 = .ok (.pop, 1) := by decide +kernel
theorem d5_15 : decode prog_44_method_1_code 15 = .ok (.aload_n 0, 1) := by decide +kernel
theorem d5_16 : decode prog_44_method_1_code 16 = .ok (.aload_n 1, 1) := by decide +kernel
theorem d5_17 : decode prog_44_method_1_code 17 = .ok (.putfield 19, 3) := by decide +kernel
theorem d5_20 : decode prog_44_method_1_code 20 = .ok (.aload_n 0, 1) := by decide +kernel
theorem d5_21 : decode prog_44_method_1_code 21 = .ok (.aload_n 2, 1) := by decide +kernel
theorem d5_22 : decode prog_44_method_1_code 22 = .ok (.putfield 25, 3) := by decide +kernel
theorem d5_25 : decode prog_44_method_1_code 25 = .ok (.return_, 1) := by decide +kernel
theorem owpn5 : plainName "com/example/vestwright/vestwright/plan/Plan$EarlyReduction$PerMonth" = true := by first | (simp [plainName, overriddenIn]; done) | decide +kernel
theorem d6_0 : decode prog_27_method_9_code 0 = .ok (.aload_n 0, 1) := by decide +kernel
theorem d6_1 : decode prog_27_method_9_code 1 = .ok (.ldc_w 282, 3) := by decide +kernel
theorem d6_4 : decode prog_27_method_9_code 4 = .ok (.invokestatic 9, 3) := by decide +kernel
theorem d6_7 : decode prog_27_method_9_code 7 = .ok (.checkcast 193, 3) := by decide +kernel
theorem d6_10 : decode prog_27_method_9_code 10 = .ok (.invokevirtual 284, 3) := by decide +kernel
theorem d6_13 : decode prog_27_method_9_code 13 = .ok (.ifCond .eq 14, 3) := by decide +kernel
theorem d6_16 : decode prog_27_method_9_code 16 = .ok (.new 27, 3) := by decide +kernel
theorem d6_19 : decode prog_27_method_9_code 19 = .ok (.dup, 1) := by decide +kernel
theorem d6_20 : decode prog_27_method_9_code 20 = .ok (.ldc_w 288, 3) := by decide +kernel
theorem d6_23 : decode prog_27_method_9_code 23 = .ok (.invokespecial 31, 3) := by decide +kernel
theorem d6_26 : decode prog_27_method_9_code 26 = .ok (.athrow, 1) := by decide +kernel
theorem d6_27 : decode prog_27_method_9_code 27 = .ok (.aload_n 0, 1) := by decide +kernel
theorem d6_28 : decode prog_27_method_9_code 28 = .ok (.ldc_w 290, 3) := by decide +kernel
theorem d6_31 : decode prog_27_method_9_code 31 = .ok (.invokevirtual 292, 3) := by decide +kernel
theorem d6_34 : decode prog_27_method_9_code 34 = .ok (.ifCond .ne 23, 3) := by decide +kernel
theorem d6_37 : decode prog_27_method_9_code 37 = .ok (.aload_n 0, 1) := by decide +kernel
theorem d6_38 : decode prog_27_method_9_code 38 = .ok (.ldc_w 295, 3) := by decide +kernel
theorem d6_41 : decode prog_27_method_9_code 41 = .ok (.invokevirtual 292, 3) := by decide +kernel
theorem d6_44 : decode prog_27_method_9_code 44 = .ok (.ifCond .ne 13, 3) := by decide +kernel
theorem d6_47 : decode prog_27_method_9_code 47 = .ok (.aload_n 0, 1) := by decide +kernel
theorem d6_48 : decode prog_27_method_9_code 48 = .ok (.ldc_w 297, 3) := by decide +kernel
theorem d6_51 : decode prog_27_method_9_code 51 = .ok (.invokevirtual 292, 3) := by decide +kernel
theorem d6_54 : decode prog_27_method_9_code 54 = .ok (.ifCond .eq 14, 3) := by decide +kernel
theorem d6_57 : decode prog_27_method_9_code 57 = .ok (.new 27, 3) := by decide +kernel
theorem d6_60 : decode prog_27_method_9_code 60 = .ok (.dup, 1) := by decide +kernel
theorem d6_61 : decode prog_27_method_9_code 61 = .ok (.ldc_w 299, 3) := by decide +kernel
theorem d6_64 : decode prog_27_method_9_code 64 = .ok (.invokespecial 31, 3) := by decide +kernel
theorem d6_67 : decode prog_27_method_9_code 67 = .ok (.athrow, 1) := by decide +kernel
theorem d6_68 : decode prog_27_method_9_code 68 = .ok (.return_, 1) := by decide +kernel
theorem owpn6 : plainName "com/example/vestwright/vestwright/plan/Plan" = true := by first | (simp [plainName, overriddenIn]; done) | decide +kernel
theorem d7_0 : decode prog_27_method_8_code 0 = .ok (.aload_n 0, 1) := by decide +kernel
theorem d7_1 : decode prog_27_method_8_code 1 = .ok (.ifnonnull 17, 3) := by decide +kernel
theorem d7_4 : decode prog_27_method_8_code 4 = .ok (.new 27, 3) := by decide +kernel
theorem d7_7 : decode prog_27_method_8_code 7 = .ok (.dup, 1) := by decide +kernel
theorem d7_8 : decode prog_27_method_8_code 8 = .ok (.aload_n 1, 1) := by decide +kernel
theorem d7_14 : decode prog_27_method_8_code 14 = .ok (.invokespecial 31, 3) := by decide +kernel
theorem d7_17 : decode prog_27_method_8_code 17 = .ok (.athrow, 1) := by decide +kernel
theorem d7_18 : decode prog_27_method_8_code 18 = .ok (.aload_n 0, 1) := by decide +kernel
theorem d7_19 : decode prog_27_method_8_code 19 = .ok (.areturn, 1) := by decide +kernel
theorem owpn7 : plainName "com/example/vestwright/vestwright/plan/Plan" = true := by first | (simp [plainName, overriddenIn]; done) | decide +kernel
theorem d8_0 : decode jdk_42_method_117_code 0 = .ok (.aload_n 0, 1) := by decide +kernel
theorem d8_1 : decode jdk_42_method_117_code 1 = .ok (.invokevirtual 876, 3) := by decide +kernel
theorem d8_4 : decode jdk_42_method_117_code 4 = .ok (.aload_n 0, 1) := by decide +kernel
theorem d8_5 : decode jdk_42_method_117_code 5 = .ok (.invokevirtual 505, 3) := by decide +kernel
theorem d8_8 : decode jdk_42_method_117_code 8 = .ok (.if_icmp .ne 7, 3) := by decide +kernel
theorem d8_11 : decode jdk_42_method_117_code 11 = .ok (.iconst 1, 1) := by decide +kernel
theorem d8_12 : decode jdk_42_method_117_code 12 = .ok (.goto 4, 3) := by decide +kernel
theorem d8_15 : decode jdk_42_method_117_code 15 = .ok (.iconst 0, 1) := by decide +kernel
theorem d8_16 : decode jdk_42_method_117_code 16 = .ok (.ireturn, 1) := by decide +kernel
theorem owpn8 : plainName "java/lang/String" = true := by first | (simp [plainName, overriddenIn]; done) | decide +kernel
theorem d9_0 : decode jdk_42_method_120_code 0 = .ok (.aload_n 0, 1) := by decide +kernel
theorem d9_1 : decode jdk_42_method_120_code 1 = .ok (.invokevirtual 492, 3) := by decide +kernel
theorem d9_4 : decode jdk_42_method_120_code 4 = .ok (.ifCond .eq 13, 3) := by decide +kernel
theorem d9_7 : decode jdk_42_method_120_code 7 = .ok (.aload_n 0, 1) := by decide +kernel
theorem d9_8 : decode jdk_42_method_120_code 8 = .ok (.getfield 9, 3) := by decide +kernel
theorem d9_11 : decode jdk_42_method_120_code 11 = .ok (.invokestatic 924, 3) := by decide +kernel
theorem d9_14 : decode jdk_42_method_120_code 14 = .ok (.goto 10, 3) := by decide +kernel
theorem d9_17 : decode jdk_42_method_120_code 17 = .ok (.aload_n 0, 1) := by decide +kernel
theorem d9_18 : decode jdk_42_method_120_code 18 = .ok (.getfield 9, 3) := by decide +kernel
theorem d9_21 : decode jdk_42_method_120_code 21 = .ok (.invokestatic 926, 3) := by decide +kernel
theorem d9_24 : decode jdk_42_method_120_code 24 = .ok (.ireturn, 1) := by decide +kernel
theorem owpn9 : plainName "java/lang/String" = true := by first | (simp [plainName, overriddenIn]; done) | decide +kernel
theorem d10_0 : decode jdk_42_method_154_code 0 = .ok (.getstatic 38, 3) := by decide +kernel
theorem d10_3 : decode jdk_42_method_154_code 3 = .ok (.ifCond .eq 14, 3) := by decide +kernel
theorem d10_6 : decode jdk_42_method_154_code 6 = .ok (.aload_n 0, 1) := by decide +kernel
theorem d10_7 : decode jdk_42_method_154_code 7 = .ok (.getfield 15, 3) := by decide +kernel
theorem d10_10 : decode jdk_42_method_154_code 10 = .ok (.ifCond .ne 7, 3) := by decide +kernel
theorem d10_13 : decode jdk_42_method_154_code 13 = .ok (.iconst 1, 1) := by decide +kernel
theorem d10_14 : decode jdk_42_method_154_code 14 = .ok (.goto 4, 3) := by decide +kernel
theorem d10_17 : decode jdk_42_method_154_code 17 = .ok (.iconst 0, 1) := by decide +kernel
theorem d10_18 : decode jdk_42_method_154_code 18 = .ok (.ireturn, 1) := by decide +kernel
theorem owpn10 : plainName "java/lang/String" = true := by first | (simp [plainName, overriddenIn]; done) | decide +kernel
theorem d11_0 : decode jdk_43_method_37_code 0 = .ok (.aload_n 0, 1) := by decide +kernel
theorem d11_1 : decode jdk_43_method_37_code 1 = .ok (.arraylength, 1) := by decide +kernel
theorem d11_2 : decode jdk_43_method_37_code 2 = .ok (.istore_n 1, 1) := by decide +kernel
theorem d11_3 : decode jdk_43_method_37_code 3 = .ok (.iconst 0, 1) := by decide +kernel
theorem d11_4 : decode jdk_43_method_37_code 4 = .ok (.istore_n 2, 1) := by decide +kernel
theorem d11_5 : decode jdk_43_method_37_code 5 = .ok (.iload_n 2, 1) := by decide +kernel
theorem d11_6 : decode jdk_43_method_37_code 6 = .ok (.iload_n 1, 1) := by decide +kernel
theorem d11_7 : decode jdk_43_method_37_code 7 = .ok (.if_icmp .ge 40, 3) := by decide +kernel
theorem d11_10 : decode jdk_43_method_37_code 10 = .ok (.aload_n 0, 1) := by decide +kernel
theorem d11_11 : decode jdk_43_method_37_code 11 = .ok (.iload_n 2, 1) := by decide +kernel
theorem d11_12 : decode jdk_43_method_37_code 12 = .ok (.invokestatic 50, 3) := by decide +kernel
theorem d11_15 : decode jdk_43_method_37_code 15 = .ok (.istore_n 3, 1) := by decide +kernel
theorem d11_16 : decode jdk_43_method_37_code 16 = .ok (.iload_n 3, 1) := by decide +kernel
theorem d11_17 : decode jdk_43_method_37_code 17 = .ok (.bipush 32, 2) := by decide +kernel
theorem d11_19 : decode jdk_43_method_37_code 19 = .ok (.if_icmp .eq 22, 3) := by decide +kernel
theorem d11_22 : decode jdk_43_method_37_code 22 = .ok (.iload_n 3, 1) := by decide +kernel
theorem d11_23 : decode jdk_43_method_37_code 23 = .ok (.bipush 9, 2) := by decide +kernel
theorem d11_25 : decode jdk_43_method_37_code 25 = .ok (.if_icmp .eq 16, 3) := by decide +kernel
theorem d11_28 : decode jdk_43_method_37_code 28 = .ok (.getstatic 66, 3) := by decide +kernel
theorem d11_31 : decode jdk_43_method_37_code 31 = .ok (.iload_n 3, 1) := by decide +kernel
theorem d11_32 : decode jdk_43_method_37_code 32 = .ok (.invokevirtual 211, 3) := by decide +kernel
theorem d11_35 : decode jdk_43_method_37_code 35 = .ok (.ifCond .ne 6, 3) := by decide +kernel
theorem d11_38 : decode jdk_43_method_37_code 38 = .ok (.goto 9, 3) := by decide +kernel
theorem d11_41 : decode jdk_43_method_37_code 41 = .ok (.iinc 2 1, 3) := by decide +kernel
theorem d11_44 : decode jdk_43_method_37_code 44 = .ok (.goto (-39), 3) := by decide +kernel
theorem d11_47 : decode jdk_43_method_37_code 47 = .ok (.iload_n 2, 1) := by decide +kernel
theorem d11_48 : decode jdk_43_method_37_code 48 = .ok (.ireturn, 1) := by decide +kernel
theorem owpn11 : plainName "java/lang/StringLatin1" = true := by first | (simp [plainName, overriddenIn]; done) | decide +kernel
theorem d12_0 : decode jdk_43_method_44_code 0 = .ok (.aload_n 0, 1) := by decide +kernel
theorem d12_1 : decode jdk_43_method_44_code 1 = .ok (.iload_n 1, 1) := by decide +kernel
theorem d12_2 : decode jdk_43_method_44_code 2 = .ok (.baload, 1) := by decide +kernel
theorem d12_3 : decode jdk_43_method_44_code 3 = .ok (.sipush 255, 3) := by decide +kernel
theorem d12_6 : decode jdk_43_method_44_code 6 = .ok (.iand, 1) := by decide +kernel
theorem d12_7 : decode jdk_43_method_44_code 7 = .ok (.i2c, 1) := by decide +kernel
theorem d12_8 : decode jdk_43_method_44_code 8 = .ok (.ireturn, 1) := by decide +kernel
theorem owpn12 : plainName "java/lang/StringLatin1" = true := by first | (simp [plainName, overriddenIn]; done) | decide +kernel
theorem d13_0 : decode jdk_116_method_26_code 0 = .ok (.aload_n 0, 1) := by decide +kernel
theorem d13_1 : decode jdk_116_method_26_code 1 = .ok (.iload_n 1, 1) := by decide +kernel
theorem d13_2 : decode jdk_116_method_26_code 2 = .ok (.invokevirtual 15, 3) := by decide +kernel
theorem d13_5 : decode jdk_116_method_26_code 5 = .ok (.istore_n 2, 1) := by decide +kernel
theorem d13_6 : decode jdk_116_method_26_code 6 = .ok (.iload_n 2, 1) := by decide +kernel
theorem d13_7 : decode jdk_116_method_26_code 7 = .ok (.sipush 28672, 3) := by decide +kernel
theorem d13_10 : decode jdk_116_method_26_code 10 = .ok (.iand, 1) := by decide +kernel
theorem d13_11 : decode jdk_116_method_26_code 11 = .ok (.sipush 16384, 3) := by decide +kernel
theorem d13_14 : decode jdk_116_method_26_code 14 = .ok (.if_icmp .ne 7, 3) := by decide +kernel
theorem d13_17 : decode jdk_116_method_26_code 17 = .ok (.iconst 1, 1) := by decide +kernel
theorem d13_18 : decode jdk_116_method_26_code 18 = .ok (.goto 4, 3) := by decide +kernel
theorem d13_21 : decode jdk_116_method_26_code 21 = .ok (.iconst 0, 1) := by decide +kernel
theorem d13_22 : decode jdk_116_method_26_code 22 = .ok (.ireturn, 1) := by decide +kernel
theorem owpn13 : plainName "java/lang/CharacterDataLatin1" = true := by first | (simp [plainName, overriddenIn]; done) | decide +kernel
theorem d14_0 : decode jdk_116_method_1_code 0 = .ok (.iload_n 1, 1) := by decide +kernel
theorem d14_1 : decode jdk_116_method_1_code 1 = .ok (.i2c, 1) := by decide +kernel
theorem d14_2 : decode jdk_116_method_1_code 2 = .ok (.istore_n 2, 1) := by decide +kernel
theorem d14_3 : decode jdk_116_method_1_code 3 = .ok (.getstatic 1, 3) := by decide +kernel
theorem d14_6 : decode jdk_116_method_1_code 6 = .ok (.iload_n 2, 1) := by decide +kernel
theorem d14_7 : decode jdk_116_method_1_code 7 = .ok (.iaload, 1) := by decide +kernel
theorem d14_8 : decode jdk_116_method_1_code 8 = .ok (.istore_n 3, 1) := by decide +kernel
theorem d14_9 : decode jdk_116_method_1_code 9 = .ok (.iload_n 3, 1) := by decide +kernel
theorem d14_10 : decode jdk_116_method_1_code 10 = .ok (.ireturn, 1) := by decide +kernel
theorem owpn14 : plainName "java/lang/CharacterDataLatin1" = true := by first | (simp [plainName, overriddenIn]; done) | decide +kernel
theorem d15_0 : decode jdk_42_method_54_code 0 = .ok (.aload_n 0, 1) := by decide +kernel
theorem d15_1 : decode jdk_42_method_54_code 1 = .ok (.getfield 9, 3) := by decide +kernel
theorem d15_4 : decode jdk_42_method_54_code 4 = .ok (.arraylength, 1) := by decide +kernel
theorem d15_5 : decode jdk_42_method_54_code 5 = .ok (.aload_n 0, 1) := by decide +kernel
theorem d15_6 : decode jdk_42_method_54_code 6 = .ok (.invokevirtual 335, 3) := by decide +kernel
theorem d15_9 : decode jdk_42_method_54_code 9 = .ok (.ishr, 1) := by decide +kernel
theorem d15_10 : decode jdk_42_method_54_code 10 = .ok (.ireturn, 1) := by decide +kernel
theorem owpn15 : plainName "java/lang/String" = true := by first | (simp [plainName, overriddenIn]; done) | decide +kernel
theorem d16_0 : decode jdk_42_method_152_code 0 = .ok (.getstatic 38, 3) := by decide +kernel
theorem d16_3 : decode jdk_42_method_152_code 3 = .ok (.ifCond .eq 10, 3) := by decide +kernel
theorem d16_6 : decode jdk_42_method_152_code 6 = .ok (.aload_n 0, 1) := by decide +kernel
theorem d16_7 : decode jdk_42_method_152_code 7 = .ok (.getfield 15, 3) := by decide +kernel
theorem d16_10 : decode jdk_42_method_152_code 10 = .ok (.goto 4, 3) := by decide +kernel
theorem d16_13 : decode jdk_42_method_152_code 13 = .ok (.iconst 1, 1) := by decide +kernel
theorem d16_14 : decode jdk_42_method_152_code 14 = .ok (.ireturn, 1) := by decide +kernel
theorem owpn16 : plainName "java/lang/String" = true := by first | (simp [plainName, overriddenIn]; done) | decide +kernel
theorem d17_0 : decode jdk_42_method_97_code 0 = .ok (.aload_n 0, 1) := by decide +kernel
theorem d17_1 : decode jdk_42_method_97_code 1 = .ok (.aload_n 1, 1) := by decide +kernel
theorem d17_2 : decode jdk_42_method_97_code 2 = .ok (.invokeinterface 710 1, 5) := by decide +kernel
theorem d17_7 : decode jdk_42_method_97_code 7 = .ok (.invokevirtual 711, 3) := by decide +kernel
theorem d17_10 : decode jdk_42_method_97_code 10 = .ok (.ifCond .lt 7, 3) := by decide +kernel
theorem d17_13 : decode jdk_42_method_97_code 13 = .ok (.iconst 1, 1) := by decide +kernel
theorem d17_14 : decode jdk_42_method_97_code 14 = .ok (.goto 4, 3) := by decide +kernel
theorem d17_17 : decode jdk_42_method_97_code 17 = .ok (.iconst 0, 1) := by decide +kernel
theorem d17_18 : decode jdk_42_method_97_code 18 = .ok (.ireturn, 1) := by decide +kernel
theorem owpn17 : plainName "java/lang/String" = true := by first | (simp [plainName, overriddenIn]; done) | decide +kernel
theorem d18_0 : decode jdk_42_method_126_code 0 = .ok (.aload_n 0, 1) := by decide +kernel
theorem d18_1 : decode jdk_42_method_126_code 1 = .ok (.areturn, 1) := by decide +kernel
theorem owpn18 : plainName "java/lang/String" = true := by first | (simp [plainName, overriddenIn]; done) | decide +kernel
theorem d19_0 : decode jdk_42_method_84_code 0 = .ok (.aload_n 0, 1) := by decide +kernel
theorem d19_1 : decode jdk_42_method_84_code 1 = .ok (.invokevirtual 335, 3) := by decide +kernel
theorem d19_4 : decode jdk_42_method_84_code 4 = .ok (.istore_n 2, 1) := by decide +kernel
theorem d19_5 : decode jdk_42_method_84_code 5 = .ok (.iload_n 2, 1) := by decide +kernel
theorem d19_6 : decode jdk_42_method_84_code 6 = .ok (.aload_n 1, 1) := by decide +kernel
theorem d19_7 : decode jdk_42_method_84_code 7 = .ok (.invokevirtual 335, 3) := by decide +kernel
theorem d19_10 : decode jdk_42_method_84_code 10 = .ok (.if_icmp .ne 36, 3) := by decide +kernel
theorem d19_13 : decode jdk_42_method_84_code 13 = .ok (.aload_n 0, 1) := by decide +kernel
theorem d19_14 : decode jdk_42_method_84_code 14 = .ok (.invokevirtual 492, 3) := by decide +kernel
theorem d19_17 : decode jdk_42_method_84_code 17 = .ok (.ifCond .eq 17, 3) := by decide +kernel
theorem d19_20 : decode jdk_42_method_84_code 20 = .ok (.aload_n 0, 1) := by decide +kernel
theorem d19_21 : decode jdk_42_method_84_code 21 = .ok (.getfield 9, 3) := by decide +kernel
theorem d19_24 : decode jdk_42_method_84_code 24 = .ok (.aload_n 1, 1) := by decide +kernel
theorem d19_25 : decode jdk_42_method_84_code 25 = .ok (.getfield 9, 3) := by decide +kernel
theorem d19_28 : decode jdk_42_method_84_code 28 = .ok (.invokestatic 647, 3) := by decide +kernel
theorem d19_31 : decode jdk_42_method_84_code 31 = .ok (.goto 14, 3) := by decide +kernel
theorem d19_34 : decode jdk_42_method_84_code 34 = .ok (.aload_n 0, 1) := by decide +kernel
theorem d19_35 : decode jdk_42_method_84_code 35 = .ok (.getfield 9, 3) := by decide +kernel
theorem d19_38 : decode jdk_42_method_84_code 38 = .ok (.aload_n 1, 1) := by decide +kernel
theorem d19_39 : decode jdk_42_method_84_code 39 = .ok (.getfield 9, 3) := by decide +kernel
theorem d19_42 : decode jdk_42_method_84_code 42 = .ok (.invokestatic 649, 3) := by decide +kernel
theorem d19_45 : decode jdk_42_method_84_code 45 = .ok (.ireturn, 1) := by decide +kernel
theorem d19_46 : decode jdk_42_method_84_code 46 = .ok (.iload_n 2, 1) := by decide +kernel
theorem d19_47 : decode jdk_42_method_84_code 47 = .ok (.ifCond .ne 5, 3) := by decide +kernel
theorem d19_50 : decode jdk_42_method_84_code 50 = .ok (.iconst (-1), 1) := by decide +kernel
theorem d19_51 : decode jdk_42_method_84_code 51 = .ok (.ireturn, 1) := by decide +kernel
theorem d19_52 : decode jdk_42_method_84_code 52 = .ok (.aload_n 0, 1) := by decide +kernel
theorem d19_53 : decode jdk_42_method_84_code 53 = .ok (.getfield 9, 3) := by decide +kernel
theorem d19_56 : decode jdk_42_method_84_code 56 = .ok (.aload_n 1, 1) := by decide +kernel
theorem d19_57 : decode jdk_42_method_84_code 57 = .ok (.getfield 9, 3) := by decide +kernel
theorem d19_60 : decode jdk_42_method_84_code 60 = .ok (.invokestatic 650, 3) := by decide +kernel
theorem d19_63 : decode jdk_42_method_84_code 63 = .ok (.ireturn, 1) := by decide +kernel
theorem owpn19 : plainName "java/lang/String" = true := by first | (simp [plainName, overriddenIn]; done) | decide +kernel
theorem d20_0 : decode jdk_43_method_24_code 0 = .ok (.aload_n 1, 1) := by decide +kernel
theorem d20_1 : decode jdk_43_method_24_code 1 = .ok (.arraylength, 1) := by decide +kernel
theorem d20_2 : decode jdk_43_method_24_code 2 = .ok (.ifCond .ne 5, 3) := by decide +kernel
theorem d20_5 : decode jdk_43_method_24_code 5 = .ok (.iconst 0, 1) := by decide +kernel
theorem d20_6 : decode jdk_43_method_24_code 6 = .ok (.ireturn, 1) := by decide +kernel
theorem d20_7 : decode jdk_43_method_24_code 7 = .ok (.aload_n 0, 1) := by decide +kernel
theorem d20_8 : decode jdk_43_method_24_code 8 = .ok (.arraylength, 1) := by decide +kernel
theorem d20_9 : decode jdk_43_method_24_code 9 = .ok (.ifCond .ne 5, 3) := by decide +kernel
theorem d20_12 : decode jdk_43_method_24_code 12 = .ok (.iconst (-1), 1) := by decide +kernel
theorem d20_13 : decode jdk_43_method_24_code 13 = .ok (.ireturn, 1) := by decide +kernel
theorem d20_14 : decode jdk_43_method_24_code 14 = .ok (.aload_n 0, 1) := by decide +kernel
theorem d20_15 : decode jdk_43_method_24_code 15 = .ok (.aload_n 0, 1) := by decide +kernel
theorem d20_16 : decode jdk_43_method_24_code 16 = .ok (.arraylength, 1) := by decide +kernel
theorem d20_17 : decode jdk_43_method_24_code 17 = .ok (.aload_n 1, 1) := by decide +kernel
theorem d20_18 : decode jdk_43_method_24_code 18 = .ok (.aload_n 1, 1) := by decide +kernel
theorem d20_19 : decode jdk_43_method_24_code 19 = .ok (.arraylength, 1) := by decide +kernel
theorem d20_20 : decode jdk_43_method_24_code 20 = .ok (.iconst 0, 1) := by decide +kernel
theorem d20_21 : decode jdk_43_method_24_code 21 = .ok (.invokestatic 99, 3) := by decide +kernel
theorem d20_24 : decode jdk_43_method_24_code 24 = .ok (.ireturn, 1) := by decide +kernel
theorem owpn20 : plainName "java/lang/StringLatin1" = true := by first | (simp [plainName, overriddenIn]; done) | decide +kernel
theorem d21_0 : decode jdk_43_method_25_code 0 = .ok (.aload_n 2, 1) := by decide +kernel
theorem d21_1 : decode jdk_43_method_25_code 1 = .ok (.iconst 0, 1) := by decide +kernel
theorem d21_2 : decode jdk_43_method_25_code 2 = .ok (.baload, 1) := by decide +kernel
theorem d21_3 : decode jdk_43_method_25_code 3 = .ok (.istore 5, 2) := by decide +kernel
theorem d21_5 : decode jdk_43_method_25_code 5 = .ok (.iload_n 1, 1) := by decide +kernel
theorem d21_6 : decode jdk_43_method_25_code 6 = .ok (.iload_n 3, 1) := by decide +kernel
theorem d21_7 : decode jdk_43_method_25_code 7 = .ok (.isub, 1) := by decide +kernel
theorem d21_8 : decode jdk_43_method_25_code 8 = .ok (.istore 6, 2) := by decide +kernel
theorem d21_10 : decode jdk_43_method_25_code 10 = .ok (.iload 4, 2) := by decide +kernel
theorem d21_12 : decode jdk_43_method_25_code 12 = .ok (.istore 7, 2) := by decide +kernel
theorem d21_14 : decode jdk_43_method_25_code 14 = .ok (.iload 7, 2) := by decide +kernel
theorem d21_16 : decode jdk_43_method_25_code 16 = .ok (.iload 6, 2) := by decide +kernel
theorem d21_18 : decode jdk_43_method_25_code 18 = .ok (.if_icmp .gt 101, 3) := by decide +kernel
theorem d21_21 : decode jdk_43_method_25_code 21 = .ok (.aload_n 0, 1) := by decide +kernel
theorem d21_22 : decode jdk_43_method_25_code 22 = .ok (.iload 7, 2) := by decide +kernel
theorem d21_24 : decode jdk_43_method_25_code 24 = .ok (.baload, 1) := by decide +kernel
theorem d21_25 : decode jdk_43_method_25_code 25 = .ok (.iload 5, 2) := by decide +kernel
theorem d21_27 : decode jdk_43_method_25_code 27 = .ok (.if_icmp .eq 25, 3) := by decide +kernel
theorem d21_30 : decode jdk_43_method_25_code 30 = .ok (.iinc 7 1, 3) := by decide +kernel
theorem d21_33 : decode jdk_43_method_25_code 33 = .ok (.iload 7, 2) := by decide +kernel
theorem d21_35 : decode jdk_43_method_25_code 35 = .ok (.iload 6, 2) := by decide +kernel
theorem d21_37 : decode jdk_43_method_25_code 37 = .ok (.if_icmp .gt 15, 3) := by decide +kernel
theorem d21_40 : decode jdk_43_method_25_code 40 = .ok (.aload_n 0, 1) := by decide +kernel
theorem d21_41 : decode jdk_43_method_25_code 41 = .ok (.iload 7, 2) := by decide +kernel
theorem d21_43 : decode jdk_43_method_25_code 43 = .ok (.baload, 1) := by decide +kernel
theorem d21_44 : decode jdk_43_method_25_code 44 = .ok (.iload 5, 2) := by decide +kernel
theorem d21_46 : decode jdk_43_method_25_code 46 = .ok (.if_icmp .eq 6, 3) := by decide +kernel
theorem d21_49 : decode jdk_43_method_25_code 49 = .ok (.goto (-19), 3) := by decide +kernel
theorem d21_52 : decode jdk_43_method_25_code 52 = .ok (.iload 7, 2) := by decide +kernel
theorem d21_54 : decode jdk_43_method_25_code 54 = .ok (.iload 6, 2) := by decide +kernel
theorem d21_56 : decode jdk_43_method_25_code 56 = .ok (.if_icmp .gt 57, 3) := by decide +kernel
theorem d21_59 : decode jdk_43_method_25_code 59 = .ok (.iload 7, 2) := by decide +kernel
theorem d21_61 : decode jdk_43_method_25_code 61 = .ok (.iconst 1, 1) := by decide +kernel
theorem d21_62 : decode jdk_43_method_25_code 62 = .ok (.iadd, 1) := by decide +kernel
theorem d21_63 : decode jdk_43_method_25_code 63 = .ok (.istore 8, 2) := by decide +kernel
theorem d21_65 : decode jdk_43_method_25_code 65 = .ok (.iload 8, 2) := by decide +kernel
theorem d21_67 : decode jdk_43_method_25_code 67 = .ok (.iload_n 3, 1) := by decide +kernel
theorem d21_68 : decode jdk_43_method_25_code 68 = .ok (.iadd, 1) := by decide +kernel
theorem d21_69 : decode jdk_43_method_25_code 69 = .ok (.iconst 1, 1) := by decide +kernel
theorem d21_70 : decode jdk_43_method_25_code 70 = .ok (.isub, 1) := by decide +kernel
theorem d21_71 : decode jdk_43_method_25_code 71 = .ok (.istore 9, 2) := by decide +kernel
theorem d21_73 : decode jdk_43_method_25_code 73 = .ok (.iconst 1, 1) := by decide +kernel
theorem d21_74 : decode jdk_43_method_25_code 74 = .ok (.istore 10, 2) := by decide +kernel
theorem d21_76 : decode jdk_43_method_25_code 76 = .ok (.iload 8, 2) := by decide +kernel
theorem d21_78 : decode jdk_43_method_25_code 78 = .ok (.iload 9, 2) := by decide +kernel
theorem d21_80 : decode jdk_43_method_25_code 80 = .ok (.if_icmp .ge 23, 3) := by decide +kernel
theorem d21_83 : decode jdk_43_method_25_code 83 = .ok (.aload_n 0, 1) := by decide +kernel
theorem d21_84 : decode jdk_43_method_25_code 84 = .ok (.iload 8, 2) := by decide +kernel
theorem d21_86 : decode jdk_43_method_25_code 86 = .ok (.baload, 1) := by decide +kernel
theorem d21_87 : decode jdk_43_method_25_code 87 = .ok (.aload_n 2, 1) := by decide +kernel
theorem d21_88 : decode jdk_43_method_25_code 88 = .ok (.iload 10, 2) := by decide +kernel
theorem d21_90 : decode jdk_43_method_25_code 90 = .ok (.baload, 1) := by decide +kernel
theorem d21_91 : decode jdk_43_method_25_code 91 = .ok (.if_icmp .ne 12, 3) := by decide +kernel
theorem d21_94 : decode jdk_43_method_25_code 94 = .ok (.iinc 8 1, 3) := by decide +kernel
theorem d21_97 : decode jdk_43_method_25_code 97 = .ok (.iinc 10 1, 3) := by decide +kernel
theorem d21_100 : decode jdk_43_method_25_code 100 = .ok (.goto (-24), 3) := by decide +kernel
theorem d21_103 : decode jdk_43_method_25_code 103 = .ok (.iload 8, 2) := by decide +kernel
theorem d21_105 : decode jdk_43_method_25_code 105 = .ok (.iload 9, 2) := by decide +kernel
theorem d21_107 : decode jdk_43_method_25_code 107 = .ok (.if_icmp .ne 6, 3) := by decide +kernel
theorem d21_110 : decode jdk_43_method_25_code 110 = .ok (.iload 7, 2) := by decide +kernel
theorem d21_112 : decode jdk_43_method_25_code 112 = .ok (.ireturn, 1) := by decide +kernel
theorem d21_113 : decode jdk_43_method_25_code 113 = .ok (.iinc 7 1, 3) := by decide +kernel
theorem d21_116 : decode jdk_43_method_25_code 116 = .ok (.goto (-102), 3) := by decide +kernel
theorem d21_119 : decode jdk_43_method_25_code 119 = .ok (.iconst (-1), 1) := by decide +kernel
theorem d21_120 : decode jdk_43_method_25_code 120 = .ok (.ireturn, 1) := by decide +kernel
theorem owpn21 : plainName "java/lang/StringLatin1" = true := by first | (simp [plainName, overriddenIn]; done) | decide +kernel
theorem d22_0 : decode prog_44_method_2_code 0 = .ok (.aload_n 0, 1) := by decide +kernel
theorem d22_1 : decode prog_44_method_2_code 1 = .ok (.getfield 25, 3) := by decide +kernel
theorem d22_4 : decode prog_44_method_2_code 4 = .ok (.invokevirtual 29, 3) := by decide +kernel
theorem d22_7 : decode prog_44_method_2_code 7 = .ok (.iload_n 1, 1) := by decide +kernel
theorem d22_8 : decode prog_44_method_2_code 8 = .ok (.i2l, 1) := by decide +kernel
theorem d22_9 : decode prog_44_method_2_code 9 = .ok (.lmul, 1) := by decide +kernel
theorem d22_10 : decode prog_44_method_2_code 10 = .ok (.aload_n 0, 1) := by decide +kernel
theorem d22_11 : decode prog_44_method_2_code 11 = .ok (.getfield 25, 3) := by decide +kernel
theorem d22_14 : decode prog_44_method_2_code 14 = .ok (.invokevirtual 35, 3) := by decide +kernel
theorem d22_17 : decode prog_44_method_2_code 17 = .ok (.lcmp, 1) := by decide +kernel
theorem d22_18 : decode prog_44_method_2_code 18 = .ok (.ifCond .gt 7, 3) := by decide +kernel
theorem d22_21 : decode prog_44_method_2_code 21 = .ok (.iconst 1, 1) := by decide +kernel
theorem d22_22 : decode prog_44_method_2_code 22 = .ok (.goto 4, 3) := by decide +kernel
theorem d22_25 : decode prog_44_method_2_code 25 = .ok (.iconst 0, 1) := by decide +kernel
theorem d22_26 : decode prog_44_method_2_code 26 = .ok (.ireturn, 1) := by decide +kernel
theorem owpn22 : plainName "com/example/vestwright/vestwright/plan/Plan$EarlyReduction$PerMonth" = true := by first | (simp [plainName, overriddenIn]; done) | decide +kernel
theorem d23_0 : decode prog_49_method_5_code 0 = .ok (.aload_n 0, 1) := by decide +kernel
theorem d23_1 : decode prog_49_method_5_code 1 = .ok (.getfield 16, 3) := by decide +kernel
theorem d23_4 : decode prog_49_method_5_code 4 = .ok (.lreturn, 1) := by decide +kernel
theorem owpn23 : plainName "com/example/vestwright/vestwright/plan/Plan$Fraction" = true := by first | (simp [plainName, overriddenIn]; done) | decide +kernel
theorem d24_0 : decode prog_49_method_6_code 0 = .ok (.aload_n 0, 1) := by decide +kernel
theorem d24_1 : decode prog_49_method_6_code 1 = .ok (.getfield 22, 3) := by decide +kernel
theorem d24_4 : decode prog_49_method_6_code 4 = .ok (.lreturn, 1) := by decide +kernel
theorem owpn24 : plainName "com/example/vestwright/vestwright/plan/Plan$Fraction" = true := by first | (simp [plainName, overriddenIn]; done) | decide +kernel
theorem d25_0 : decode method_3_code 0 = .ok (.iload 4, 2) := by decide +kernel
theorem d25_2 : decode method_3_code 2 = .ok (.ifCond .gt 5, 3) := by decide +kernel
theorem d25_5 : decode method_3_code 5 = .ok (.iconst 1, 1) := by decide +kernel
theorem d25_6 : decode method_3_code 6 = .ok (.ireturn, 1) := by decide +kernel
theorem d25_7 : decode method_3_code 7 = .ok (.iload 4, 2) := by decide +kernel
theorem d25_9 : decode method_3_code 9 = .ok (.i2l, 1) := by decide +kernel
theorem d25_10 : decode method_3_code 10 = .ok (.lstore 5, 2) := by decide +kernel
theorem d25_12 : decode method_3_code 12 = .ok (.lload_n 0, 1) := by decide +kernel
theorem d25_13 : decode method_3_code 13 = .ok (.lload_n 2, 1) := by decide +kernel
theorem d25_14 : decode method_3_code 14 = .ok (.lload 5, 2) := by decide +kernel
theorem d25_16 : decode method_3_code 16 = .ok (.ldiv, 1) := by decide +kernel
theorem d25_17 : decode method_3_code 17 = .ok (.lcmp, 1) := by decide +kernel
theorem d25_18 : decode method_3_code 18 = .ok (.ifCond .gt 7, 3) := by decide +kernel
theorem d25_21 : decode method_3_code 21 = .ok (.iconst 1, 1) := by decide +kernel
theorem d25_22 : decode method_3_code 22 = .ok (.goto 4, 3) := by decide +kernel
theorem d25_25 : decode method_3_code 25 = .ok (.iconst 0, 1) := by decide +kernel
theorem d25_26 : decode method_3_code 26 = .ok (.ireturn, 1) := by decide +kernel
theorem owpn25 : plainName "com/example/vestwright/vestwright/plan/PlanReachesMonthsEarlyPinLaw" = true := by first | (simp [plainName, overriddenIn]; done) | decide +kernel
theorem owpn0 : plainName "com/example/vestwright/vestwright/plan/PlanReachesMonthsEarlyPinLaw" = true := by first | (simp [plainName, overriddenIn]; done) | decide +kernel
theorem owpd0 : parseMethodDescriptor "()V" = some ⟨[], none⟩ := by decide +kernel
theorem owpd1 : parseMethodDescriptor "()B" = some ⟨[], some .byte⟩ := by decide +kernel
theorem owpd2 : parseMethodDescriptor "(I)I" = some ⟨[.int], some .int⟩ := by decide +kernel
theorem owpd3 : parseMethodDescriptor "([BI)C" = some ⟨[(.array .byte), .int], some .char⟩ := by decide +kernel
theorem owpd4 : parseMethodDescriptor "(I)Z" = some ⟨[.int], some .boolean⟩ := by decide +kernel
theorem owpd5 : parseMethodDescriptor "()Z" = some ⟨[], some .boolean⟩ := by decide +kernel
theorem owpd6 : parseMethodDescriptor "([B)I" = some ⟨[(.array .byte)], some .int⟩ := by decide +kernel
theorem owpd7 : parseMethodDescriptor "()I" = some ⟨[], some .int⟩ := by decide +kernel
theorem owpd8 : parseMethodDescriptor "([BI[BII)I" = some ⟨[(.array .byte), .int, (.array .byte), .int, .int], some .int⟩ := by decide +kernel
theorem owpd9 : parseMethodDescriptor "([B[B)I" = some ⟨[(.array .byte), (.array .byte)], some .int⟩ := by decide +kernel
theorem owpd10 : parseMethodDescriptor "()Ljava/lang/String;" = some ⟨[], some (.object "java/lang/String")⟩ := by decide +kernel
theorem owpd11 : parseMethodDescriptor "(Ljava/lang/String;)I" = some ⟨[(.object "java/lang/String")], some .int⟩ := by decide +kernel
theorem owpd12 : parseMethodDescriptor "(Ljava/lang/Object;Ljava/lang/String;)Ljava/lang/Object;" = some ⟨[(.object "java/lang/Object"), (.object "java/lang/String")], some (.object "java/lang/Object")⟩ := by decide +kernel
theorem owpd13 : parseMethodDescriptor "(Ljava/lang/CharSequence;)Z" = some ⟨[(.object "java/lang/CharSequence")], some .boolean⟩ := by decide +kernel
theorem owpd14 : parseMethodDescriptor "(Ljava/lang/String;)V" = some ⟨[(.object "java/lang/String")], none⟩ := by decide +kernel
theorem owpd15 : parseMethodDescriptor "()J" = some ⟨[], some .long⟩ := by decide +kernel
theorem owpd16 : parseMethodDescriptor "(JJ)J" = some ⟨[.long, .long], some .long⟩ := by decide +kernel
theorem owpd17 : parseMethodDescriptor "(JJ)V" = some ⟨[.long, .long], none⟩ := by decide +kernel
theorem owpd18 : parseMethodDescriptor "(Ljava/lang/String;Lcom/example/vestwright/vestwright/plan/Plan$Fraction;)V" = some ⟨[(.object "java/lang/String"), (.object "com/example/vestwright/vestwright/plan/Plan$Fraction")], none⟩ := by decide +kernel
theorem owpd19 : parseMethodDescriptor "(JJI)Z" = some ⟨[.long, .long, .int], some .boolean⟩ := by decide +kernel
def OwW (Z : State) (i_COMPACT_STRINGS : Int32) (w_instance : Addr) (w_A : Addr) : Prop := (¬ i_COMPACT_STRINGS = (0 : Int32)) ∧ (Exa Z Z.heap w_instance "java/lang/CharacterDataLatin1") ∧ (Exa Z Z.heap w_A "[I") ∧ (Sta Z Z.heap "java/lang/String" "COMPACT_STRINGS" "Z" (.int i_COMPACT_STRINGS)) ∧ (Sta Z Z.heap "java/lang/CharacterDataLatin1" "instance" "Ljava/lang/CharacterDataLatin1;" (.ref w_instance)) ∧ (Sta Z Z.heap "java/lang/CharacterDataLatin1" "A" "[I" (.ref w_A)) ∧ (owTab Z w_A) ∧ True
set_option maxRecDepth 65536 in
set_option maxHeartbeats 40000000 in
theorem rmMax (l : Launch) (Z : State) (a0 : Array Value) (hw : ∀ d ∈ tables_1, d.before a0 Z = true) (ws : List Jvm.Cond) (n0 : Nat) (h0 : Heap) (O : Old Z n0 h0) (i_COMPACT_STRINGS : Int32) (w_instance : Addr) (w_A : Addr) (W : OwW Z i_COMPACT_STRINGS w_instance w_A) (q0 : Int64) (q1 : Int64) :
    OwCon l (⟨"java/lang/Math", "max", "(JJ)J"⟩ : MethodName) jdk_29_method_66_code 4 (some .long) ws ({ frames := 0, cells := 0, slots := 0, locals := 0 } : Room) #[(.long q0), (.long q1)] Z h0 (OwQ (some (.long (if q0 < q1 then q1 else q0))) h0 n0) := by
  refine MetFree.of_bodySF (Jvm.Free.JP.mathPlain rfl (by decide +kernel)) hisR ?_
  intro p e s m args below meth c s₁ Bd hml0 hP hK
  obtain ⟨rfl, hZ, hh⟩ := hP
  have hx := Bd.exec
  have hby := Bd.bytes
  have hml : c.maxLocals = 4 := hml0
  have hown : s.vm.findClass "java/lang/Math" = some m.cls := findClass_of_methodNamed Bd.named
  have hnm := (name_of_methodNamed Bd.named Bd.method).1
  have X0 : Stand p l e ({ frames := 0, cells := 0, slots := 0, locals := 0 } : Room) s m #[(.long q0), (.long q1)] below meth c s₁ [] 0 0 := Stand.of_body Bd
  have e0 : s₁.heap = h0 := by rw [← hh, Bd.state]; rfl
  have N0 := Fr.nil n0
  have WW := W
  obtain ⟨nz_i_COMPACT_STRINGS, E_w_instance, E_w_A, S_String_COMPACT_STRINGS, S_CharacterDataLatin1_instance, S_CharacterDataLatin1_A, Ta, -⟩ := WW
  have ef : entryFrame m #[(.long q0), (.long q1)] 4 = mkF m 0 #[.val (.long q0), .second, .val (.long q1), .second] [] := by first | (simp [entryFrame, mkF, argsToLocals, Value.category]; done) | rfl
  have pre0 : ∀ t, Steps p.tables e below (s₁.setTop (mkF m 0 #[.val (.long q0), .second, .val (.long q1), .second] [])) t → Steps p.tables e below (s₁.setTop (entryFrame m #[(.long q0), (.long q1)] 4)) t := fun t k => castTop ef k
  have sg1 : ∀ target, Steps p.tables e below (s₁.setTop (mkF m 11 #[.val (.long q0), .second, .val (.long q1), .second] [(.long (if q0 < q1 then q1 else q0))])) target → Steps p.tables e below (s₁.setTop (mkF m 3 #[.val (.long q0), .second, .val (.long q1), .second] [(.int (lcmpW q0 q1))])) target := by
    intro target kt
    by_cases hd1_0 : q0 < q1
    · show Steps p.tables e below (s₁.setTop (mkF m 3 #[.val (.long q0), .second, .val (.long q1), .second] [(.int (lcmpW q0 q1))])) _
      refine XS.ifYes X0.here hx rfl (pc0 := 3) (pc' := 10) rfl (hb hby d1_3) rfl ((if0 _ _).trans (tlt ((lw_lt q0 q1).mpr hd1_0)).1) (by decide) (by decide) ?_
      show Steps p.tables e below (s₁.setTop (mkF m 10 #[.val (.long q0), .second, .val (.long q1), .second] [])) _
      refine XS.lloadN X0.here hx rfl (hb hby d1_10) rfl ?_
      show Steps p.tables e below (s₁.setTop (mkF m 11 #[.val (.long q0), .second, .val (.long q1), .second] [(.long q1)])) _
      exact (by simpa only [if_pos hd1_0] using kt)
    · show Steps p.tables e below (s₁.setTop (mkF m 3 #[.val (.long q0), .second, .val (.long q1), .second] [(.int (lcmpW q0 q1))])) _
      refine XS.ifNo X0.here hx rfl (hb hby d1_3) rfl ((if0 _ _).trans (flt (mt (lw_lt q0 q1).mp hd1_0)).1) ?_
      show Steps p.tables e below (s₁.setTop (mkF m 6 #[.val (.long q0), .second, .val (.long q1), .second] [])) _
      refine XS.lloadN X0.here hx rfl (hb hby d1_6) rfl ?_
      show Steps p.tables e below (s₁.setTop (mkF m 7 #[.val (.long q0), .second, .val (.long q1), .second] [(.long q0)])) _
      refine XS.goto X0.here hx rfl (pc0 := 7) (pc' := 11) rfl (hb hby d1_7) (by decide) (by decide) ?_
      show Steps p.tables e below (s₁.setTop (mkF m 11 #[.val (.long q0), .second, .val (.long q1), .second] [(.long q0)])) _
      exact (by simpa only [if_neg hd1_0] using kt)
  obtain ⟨fs, hr, hrun, hended, hW, hsame⟩ := X0.leave (v := some (.long (if q0 < q1 then q1 else q0))) (fun h => by rw [Bd.returns] at h; cases h)
  refine ⟨_, _, pre0 _ ?_, hrun, hended, _, _, rfl, ?_, ⟨_, rfl⟩, hW, hsame.mono (by decide) (by decide)⟩
  · show Steps p.tables e below (s₁.setTop (mkF m 0 #[.val (.long q0), .second, .val (.long q1), .second] [])) _
    refine XS.lloadN X0.here hx rfl (hb hby d1_0) rfl ?_
    show Steps p.tables e below (s₁.setTop (mkF m 1 #[.val (.long q0), .second, .val (.long q1), .second] [(.long q0)])) _
    refine XS.lloadN X0.here hx rfl (hb hby d1_1) rfl ?_
    show Steps p.tables e below (s₁.setTop (mkF m 2 #[.val (.long q0), .second, .val (.long q1), .second] [(.long q1), (.long q0)])) _
    refine XS.lcmp X0.here hx rfl (hb hby d1_2) rfl ?_
    show Steps p.tables e below (s₁.setTop (mkF m 3 #[.val (.long q0), .second, .val (.long q1), .second] [(.int (lcmpW q0 q1))])) _
    refine sg1 _ ?_
    show Steps p.tables e below (s₁.setTop (mkF m 11 #[.val (.long q0), .second, .val (.long q1), .second] [(.long (if q0 < q1 then q1 else q0))])) _
    exact retOut X0 hx Bd.returns rfl (Or.inr (Or.inl ⟨rfl, rfl, _, rfl⟩)) (hb hby d1_11) hr
  · have eF : (s₁.setFrames fs).heap = h0 := e0
    exact ⟨rfl, N0, eF⟩
set_option maxRecDepth 65536 in
set_option maxHeartbeats 40000000 in
theorem rmRec (l : Launch) (Z : State) (a0 : Array Value) (hw : ∀ d ∈ tables_1, d.before a0 Z = true) (ws : List Jvm.Cond) (n0 : Nat) (h0 : Heap) (O : Old Z n0 h0) (i_COMPACT_STRINGS : Int32) (w_instance : Addr) (w_A : Addr) (W : OwW Z i_COMPACT_STRINGS w_instance w_A) (a : Addr) :
    OwCon l (⟨"java/lang/Record", "<init>", "()V"⟩ : MethodName) jdk_30_method_1_code 1 none ws ({ frames := 1, cells := 0, slots := 0, locals := 12 } : Room) #[(.ref a)] Z h0 (OwQ none h0 n0) := by
  refine MetFree.of_bodySF (plainFor_of_name owpn3) hisR ?_
  intro p e s m args below meth c s₁ Bd hml0 hP hK
  obtain ⟨rfl, hZ, hh⟩ := hP
  have hx := Bd.exec
  have hby := Bd.bytes
  have hml : c.maxLocals = 1 := hml0
  have hown : s.vm.findClass "java/lang/Record" = some m.cls := findClass_of_methodNamed Bd.named
  have hnm := (name_of_methodNamed Bd.named Bd.method).1
  have X0 : Stand p l e ({ frames := 1, cells := 0, slots := 0, locals := 12 } : Room) s m #[(.ref a)] below meth c s₁ [] 0 0 := Stand.of_body Bd
  have e0 : s₁.heap = h0 := by rw [← hh, Bd.state]; rfl
  have N0 := Fr.nil n0
  have WW := W
  obtain ⟨nz_i_COMPACT_STRINGS, E_w_instance, E_w_A, S_String_COMPACT_STRINGS, S_CharacterDataLatin1_instance, S_CharacterDataLatin1_A, Ta, -⟩ := WW
  have ef : entryFrame m #[(.ref a)] 1 = mkF m 0 #[.val (.ref a)] [] := by first | (simp [entryFrame, mkF, argsToLocals, Value.category]; done) | rfl
  have pre0 : ∀ t, Steps p.tables e below (s₁.setTop (mkF m 0 #[.val (.ref a)] [])) t → Steps p.tables e below (s₁.setTop (entryFrame m #[(.ref a)] 1)) t := fun t k => castTop ef k
  obtain ⟨T1, X1, e1, st1⟩ := initO X0 hx hZ hown (hw _ (List.mem_of_getElem? (i := 17) rfl)) (hw _ (List.mem_of_getElem? (i := 18) rfl)) (hw _ (List.mem_of_getElem? (i := 19) rfl)) e0 (g := (mkF m 1 #[.val (.ref a)] [(.ref a)])) rfl (by rw [hml]; rfl) rfl (hb hby d3_1) (by decide) (W := 0) (by show 2 * 0 + _ ≤ _; exact Nat.le_of_eq rfl) (by decide)
  obtain ⟨fs, hr, hrun, hended, hW, hsame⟩ := X1.leave (v := none) (fun _ => rfl)
  refine ⟨_, _, pre0 _ ?_, hrun, hended, _, _, rfl, ?_, ⟨_, rfl⟩, hW, hsame.mono (by decide) (by decide)⟩
  · show Steps p.tables e below (s₁.setTop (mkF m 0 #[.val (.ref a)] [])) _
    refine XS.aloadN X0.here hx rfl (hb hby d3_0) rfl rfl ?_
    show Steps p.tables e below (s₁.setTop (mkF m 1 #[.val (.ref a)] [(.ref a)])) _
    refine st1 _ ?_
    show Steps p.tables e below (T1.setTop (mkF m 4 #[.val (.ref a)] [])) _
    exact X1.returnOut hx Bd.returns (hb hby d3_4) hr
  · have eF : (T1.setFrames fs).heap = h0 := e1
    exact ⟨rfl, N0, eF⟩
set_option maxRecDepth 65536 in
set_option maxHeartbeats 40000000 in
theorem rmReq (l : Launch) (Z : State) (a0 : Array Value) (hw : ∀ d ∈ tables_1, d.before a0 Z = true) (ws : List Jvm.Cond) (n0 : Nat) (h0 : Heap) (O : Old Z n0 h0) (i_COMPACT_STRINGS : Int32) (w_instance : Addr) (w_A : Addr) (W : OwW Z i_COMPACT_STRINGS w_instance w_A) (a b : Addr) :
    OwCon l (⟨"com/example/vestwright/vestwright/plan/Plan", "require", "(Ljava/lang/Object;Ljava/lang/String;)Ljava/lang/Object;"⟩ : MethodName) prog_27_method_8_code 2 (some (.object "java/lang/Object")) ws ({ frames := 0, cells := 0, slots := 0, locals := 0 } : Room) #[(.ref a), (.ref b)] Z h0 (OwQ (some (.ref a)) h0 n0) := by
  refine MetFree.of_bodySF (plainFor_of_name owpn7) hisR ?_
  intro p e s m args below meth c s₁ Bd hml0 hP hK
  obtain ⟨rfl, hZ, hh⟩ := hP
  have hx := Bd.exec
  have hby := Bd.bytes
  have hml : c.maxLocals = 2 := hml0
  have hown : s.vm.findClass "com/example/vestwright/vestwright/plan/Plan" = some m.cls := findClass_of_methodNamed Bd.named
  have hnm := (name_of_methodNamed Bd.named Bd.method).1
  have X0 : Stand p l e ({ frames := 0, cells := 0, slots := 0, locals := 0 } : Room) s m #[(.ref a), (.ref b)] below meth c s₁ [] 0 0 := Stand.of_body Bd
  have e0 : s₁.heap = h0 := by rw [← hh, Bd.state]; rfl
  have N0 := Fr.nil n0
  have WW := W
  obtain ⟨nz_i_COMPACT_STRINGS, E_w_instance, E_w_A, S_String_COMPACT_STRINGS, S_CharacterDataLatin1_instance, S_CharacterDataLatin1_A, Ta, -⟩ := WW
  have ef : entryFrame m #[(.ref a), (.ref b)] 2 = mkF m 0 #[.val (.ref a), .val (.ref b)] [] := by first | (simp [entryFrame, mkF, argsToLocals, Value.category]; done) | rfl
  have pre0 : ∀ t, Steps p.tables e below (s₁.setTop (mkF m 0 #[.val (.ref a), .val (.ref b)] [])) t → Steps p.tables e below (s₁.setTop (entryFrame m #[(.ref a), (.ref b)] 2)) t := fun t k => castTop ef k
  obtain ⟨fs, hr, hrun, hended, hW, hsame⟩ := X0.leave (v := some (.ref a)) (fun h => by rw [Bd.returns] at h; cases h)
  refine ⟨_, _, pre0 _ ?_, hrun, hended, _, _, rfl, ?_, ⟨_, rfl⟩, hW, hsame.mono (by decide) (by decide)⟩
  · show Steps p.tables e below (s₁.setTop (mkF m 0 #[.val (.ref a), .val (.ref b)] [])) _
    refine XS.aloadN X0.here hx rfl (hb hby d7_0) rfl rfl ?_
    show Steps p.tables e below (s₁.setTop (mkF m 1 #[.val (.ref a), .val (.ref b)] [(.ref a)])) _
    refine XS.ifnonnullYes X0.here hx rfl (pc0 := 1) (pc' := 18) rfl (hb hby d7_1) rfl (by decide) (by decide) ?_
    show Steps p.tables e below (s₁.setTop (mkF m 18 #[.val (.ref a), .val (.ref b)] [])) _
    refine XS.aloadN X0.here hx rfl (hb hby d7_18) rfl rfl ?_
    show Steps p.tables e below (s₁.setTop (mkF m 19 #[.val (.ref a), .val (.ref b)] [(.ref a)])) _
    exact retOut X0 hx Bd.returns rfl (Or.inr (Or.inr (Or.inr (Or.inr ⟨rfl, rfl, rfl⟩)))) (hb hby d7_19) hr
  · have eF : (s₁.setFrames fs).heap = h0 := e0
    exact ⟨rfl, N0, eF⟩
set_option maxRecDepth 65536 in
set_option maxHeartbeats 40000000 in
theorem rmFrac (l : Launch) (Z : State) (a0 : Array Value) (hw : ∀ d ∈ tables_1, d.before a0 Z = true) (ws : List Jvm.Cond) (n0 : Nat) (h0 : Heap) (O : Old Z n0 h0) (i_COMPACT_STRINGS : Int32) (w_instance : Addr) (w_A : Addr) (W : OwW Z i_COMPACT_STRINGS w_instance w_A) (a : Addr) (q1 q2 : Int64) (Ea : Exa Z h0 a "com/example/vestwright/vestwright/plan/Plan$Fraction") (F0 : Fld Z h0 a "com/example/vestwright/vestwright/plan/Plan$Fraction" "numerator" "J" (.long (0 : Int64))) (F1 : Fld Z h0 a "com/example/vestwright/vestwright/plan/Plan$Fraction" "denominator" "J" (.long (0 : Int64))) (ga : n0 ≤ a) (hn : ¬ q1 < (0 : Int64)) (hd : ¬ q2 < (1 : Int64)) :
    OwCon l (⟨"com/example/vestwright/vestwright/plan/Plan$Fraction", "<init>", "(JJ)V"⟩ : MethodName) prog_49_method_1_code 5 none ws ({ frames := 2, cells := 0, slots := 0, locals := 24 } : Room) #[(.ref a), (.long q1), (.long q2)] Z h0 (OwP (fun v h => v = none ∧ Old Z n0 h ∧ Keep h0 h [a] ∧ Exa Z h a "com/example/vestwright/vestwright/plan/Plan$Fraction" ∧ Fld Z h a "com/example/vestwright/vestwright/plan/Plan$Fraction" "numerator" "J" (.long q1) ∧ Fld Z h a "com/example/vestwright/vestwright/plan/Plan$Fraction" "denominator" "J" (.long q2)) n0) := by
  refine MetFree.of_bodySF (plainFor_of_name owpn2) hisR ?_
  intro p e s m args below meth c s₁ Bd hml0 hP hK
  obtain ⟨rfl, hZ, hh⟩ := hP
  have hx := Bd.exec
  have hby := Bd.bytes
  have hml : c.maxLocals = 5 := hml0
  have hown : s.vm.findClass "com/example/vestwright/vestwright/plan/Plan$Fraction" = some m.cls := findClass_of_methodNamed Bd.named
  have hnm := (name_of_methodNamed Bd.named Bd.method).1
  have X0 : Stand p l e ({ frames := 2, cells := 0, slots := 0, locals := 24 } : Room) s m #[(.ref a), (.long q1), (.long q2)] below meth c s₁ [] 0 0 := Stand.of_body Bd
  have e0 : s₁.heap = h0 := by rw [← hh, Bd.state]; rfl
  have N0 := Fr.nil n0
  have WW := W
  obtain ⟨nz_i_COMPACT_STRINGS, E_w_instance, E_w_A, S_String_COMPACT_STRINGS, S_CharacterDataLatin1_instance, S_CharacterDataLatin1_A, Ta, -⟩ := WW
  have ef : entryFrame m #[(.ref a), (.long q1), (.long q2)] 5 = mkF m 0 #[.val (.ref a), .val (.long q1), .second, .val (.long q2), .second] [] := by first | (simp [entryFrame, mkF, argsToLocals, Value.category]; done) | rfl
  have pre0 : ∀ t, Steps p.tables e below (s₁.setTop (mkF m 0 #[.val (.ref a), .val (.long q1), .second, .val (.long q2), .second] [])) t → Steps p.tables e below (s₁.setTop (entryFrame m #[(.ref a), (.long q1), (.long q2)] 5)) t := fun t k => castTop ef k
  obtain ⟨_, _, ⟨T1, L1, k1, n1⟩, -, X1, ⟨Lc1, hQ1, l1, y1, z1⟩, st1⟩ := X0.specialBack hx (y := (⟨"java/lang/Record", "<init>", "()V"⟩ : MethodName)) rfl hown (mvT hZ (hw _ (List.mem_of_getElem? (i := 12) rfl))) (mvT hZ (hw _ (List.mem_of_getElem? (i := 13) rfl))) (mvT hZ (hw _ (List.mem_of_getElem? (i := 16) rfl))) (by decide) (backOf (W := 0) (rmRec l Z a0 hw [] n0 h0 O i_COMPACT_STRINGS w_instance w_A W a) hZ (hw _ (List.mem_of_getElem? (i := 16) rfl)) (hw _ (List.mem_of_getElem? (i := 15) rfl)) (by decide) (by decide)) (g := (mkF m 1 #[.val (.ref a), .val (.long q1), .second, .val (.long q2), .second] [(.ref a)])) rfl (by rw [hml]; rfl) (Steps.refl _) (a := a) (argsL := []) (rest := []) (lenOf owpd0 rfl) rfl (by show 2 * 0 + _ ≤ _; exact Nat.le_of_eq rfl) (hb hby d2_1) (fun _ _ => ⟨rfl, e0, (by decide : 0 + 0 ≤ _), (by decide : 0 + 0 ≤ _)⟩)
  dsimp only [Pt.U, Pt.locs, Pt.cells, Pt.slots] at X1 l1 y1 z1 st1 hQ1
  subst l1 y1 z1
  obtain ⟨rfl, Nq1, e1⟩ := hQ1
  have N1 := Fr.app N0 Nq1
  obtain ⟨T2, h2, X2, e2, W2, st2⟩ := putF X1 hx hZ hown (host := "") (Or.inl (hw _ (List.mem_of_getElem? (i := 20) rfl))) Via.refl e1 F0 Ea (Or.inr ⟨(hw _ (List.mem_of_getElem? (i := 21) rfl)), rfl, hnm⟩) (hw _ (List.mem_of_getElem? (i := 7) rfl)) (ty := .long) (by decide) rfl rfl (g := (mkF m 33 #[.val (.ref a), .val (.long q1), .second, .val (.long q2), .second] [(.long q1), (.ref a)])) rfl rfl (hb hby d2_33)
  have Fw2 := F0.same W2
  have N2 := Fr.snoc X2 N1 ga
  have O2 := O.wr W2 ga
  have Kp2 : Keep h0 h2 [a] := (Keep.refl h0 [a]).wr W2 (Or.inl (List.mem_of_getElem? (i := 0) rfl))
  have fa3 := (F1.other W2 (Or.inr (slot_ne (Or.inr (hw _ (List.mem_of_getElem? (i := 23) rfl))) (Or.inr (hw _ (List.mem_of_getElem? (i := 21) rfl))) (by decide) (t := .long) (t' := .long) (by decide) (by decide))))
  have fa4 := (Ea.wr W2)
  obtain ⟨T5, h5, X5, e5, W5, st5⟩ := putF X2 hx hZ hown (host := "") (Or.inl (hw _ (List.mem_of_getElem? (i := 22) rfl))) Via.refl e2 fa3 fa4 (Or.inr ⟨(hw _ (List.mem_of_getElem? (i := 23) rfl)), rfl, hnm⟩) (hw _ (List.mem_of_getElem? (i := 7) rfl)) (ty := .long) (by decide) rfl rfl (g := (mkF m 38 #[.val (.ref a), .val (.long q1), .second, .val (.long q2), .second] [(.long q2), (.ref a)])) rfl rfl (hb hby d2_38)
  have Fw5 := fa3.same W5
  have N5 := Fr.snoc X5 N2 ga
  have O5 := O2.wr W5 ga
  have Kp5 : Keep h0 h5 [a] := Kp2.wr W5 (Or.inl (List.mem_of_getElem? (i := 0) rfl))
  have fa6 := (Fw2.other W5 (Or.inr (slot_ne (Or.inr (hw _ (List.mem_of_getElem? (i := 21) rfl))) (Or.inr (hw _ (List.mem_of_getElem? (i := 23) rfl))) (by decide) (t := .long) (t' := .long) (by decide) (by decide))))
  have fa7 := (fa4.wr W5)
  obtain ⟨fs, hr, hrun, hended, hW, hsame⟩ := X5.leave (v := none) (fun _ => rfl)
  refine ⟨_, _, pre0 _ ?_, hrun, hended, _, _, rfl, ?_, ⟨_, rfl⟩, hW, hsame.mono (by decide) (by decide)⟩
  · show Steps p.tables e below (s₁.setTop (mkF m 0 #[.val (.ref a), .val (.long q1), .second, .val (.long q2), .second] [])) _
    refine XS.aloadN X0.here hx rfl (hb hby d2_0) rfl rfl ?_
    show Steps p.tables e below (s₁.setTop (mkF m 1 #[.val (.ref a), .val (.long q1), .second, .val (.long q2), .second] [(.ref a)])) _
    refine st1.trans ?_
    show Steps p.tables e below (T1.setTop (mkF m 4 #[.val (.ref a), .val (.long q1), .second, .val (.long q2), .second] [])) _
    refine XS.lloadN X1.here hx rfl (hb hby d2_4) rfl ?_
    show Steps p.tables e below (T1.setTop (mkF m 5 #[.val (.ref a), .val (.long q1), .second, .val (.long q2), .second] [(.long q1)])) _
    refine XS.lconst X1.here hx rfl (hb hby d2_5) ?_
    show Steps p.tables e below (T1.setTop (mkF m 6 #[.val (.ref a), .val (.long q1), .second, .val (.long q2), .second] [(.long (0 : Int64)), (.long q1)])) _
    refine XS.lcmp X1.here hx rfl (hb hby d2_6) rfl ?_
    show Steps p.tables e below (T1.setTop (mkF m 7 #[.val (.ref a), .val (.long q1), .second, .val (.long q2), .second] [(.int (lcmpW q1 (0 : Int64)))])) _
    refine XS.ifNo X1.here hx rfl (hb hby d2_7) rfl ((if0 _ _).trans (flt (mt (lw_lt q1 (0 : Int64)).mp hn)).1) ?_
    show Steps p.tables e below (T1.setTop (mkF m 10 #[.val (.ref a), .val (.long q1), .second, .val (.long q2), .second] [])) _
    refine XS.lloadN X1.here hx rfl (hb hby d2_10) rfl ?_
    show Steps p.tables e below (T1.setTop (mkF m 11 #[.val (.ref a), .val (.long q1), .second, .val (.long q2), .second] [(.long q2)])) _
    refine XS.lconst X1.here hx rfl (hb hby d2_11) ?_
    show Steps p.tables e below (T1.setTop (mkF m 12 #[.val (.ref a), .val (.long q1), .second, .val (.long q2), .second] [(.long (1 : Int64)), (.long q2)])) _
    refine XS.lcmp X1.here hx rfl (hb hby d2_12) rfl ?_
    show Steps p.tables e below (T1.setTop (mkF m 13 #[.val (.ref a), .val (.long q1), .second, .val (.long q2), .second] [(.int (lcmpW q2 (1 : Int64)))])) _
    refine XS.ifYes X1.here hx rfl (pc0 := 13) (pc' := 31) rfl (hb hby d2_13) rfl ((if0 _ _).trans (flt (mt (lw_lt q2 (1 : Int64)).mp hd)).2.1) (by decide) (by decide) ?_
    show Steps p.tables e below (T1.setTop (mkF m 31 #[.val (.ref a), .val (.long q1), .second, .val (.long q2), .second] [])) _
    refine XS.aloadN X1.here hx rfl (hb hby d2_31) rfl rfl ?_
    show Steps p.tables e below (T1.setTop (mkF m 32 #[.val (.ref a), .val (.long q1), .second, .val (.long q2), .second] [(.ref a)])) _
    refine XS.lloadN X1.here hx rfl (hb hby d2_32) rfl ?_
    show Steps p.tables e below (T1.setTop (mkF m 33 #[.val (.ref a), .val (.long q1), .second, .val (.long q2), .second] [(.long q1), (.ref a)])) _
    refine st2 _ ?_
    show Steps p.tables e below (T2.setTop (mkF m 36 #[.val (.ref a), .val (.long q1), .second, .val (.long q2), .second] [])) _
    refine XS.aloadN X2.here hx rfl (hb hby d2_36) rfl rfl ?_
    show Steps p.tables e below (T2.setTop (mkF m 37 #[.val (.ref a), .val (.long q1), .second, .val (.long q2), .second] [(.ref a)])) _
    refine XS.lloadN X2.here hx rfl (hb hby d2_37) rfl ?_
    show Steps p.tables e below (T2.setTop (mkF m 38 #[.val (.ref a), .val (.long q1), .second, .val (.long q2), .second] [(.long q2), (.ref a)])) _
    refine st5 _ ?_
    show Steps p.tables e below (T5.setTop (mkF m 41 #[.val (.ref a), .val (.long q1), .second, .val (.long q2), .second] [])) _
    exact X5.returnOut hx Bd.returns (hb hby d2_41) hr
  · have eF : (T5.setFrames fs).heap = h5 := e5
    exact ⟨N5, rfl, by rw [eF]; exact ⟨O5, Kp5, fa7, fa6, Fw5⟩⟩
set_option maxRecDepth 65536 in
set_option maxHeartbeats 40000000 in
theorem rmCoder_t (l : Launch) (Z : State) (a0 : Array Value) (hw : ∀ d ∈ tables_1, d.before a0 Z = true) (ws : List Jvm.Cond) (n0 : Nat) (h0 : Heap) (O : Old Z n0 h0) (i_COMPACT_STRINGS : Int32) (w_instance : Addr) (w_A : Addr) (W : OwW Z i_COMPACT_STRINGS w_instance w_A) (a b : Addr) (k : ClassId) (Es : Exa Z h0 a "java/lang/String") (Fc : Fld Z h0 a "java/lang/String" "coder" "B" (.int (0 : Int32))) (Fv : Fld Z h0 a "java/lang/String" "value" "[B" (.ref b)) (Va : Arv Z h0 b k .byte (4 : Int32) [(.int (53 : Int32)), (.int (46 : Int32)), (.int (48 : Int32)), (.int (51 : Int32))] (.int 0)) :
    OwCon l (⟨"java/lang/String", "coder", "()B"⟩ : MethodName) jdk_42_method_152_code 1 (some .byte) ws ({ frames := 0, cells := 0, slots := 0, locals := 0 } : Room) #[(.ref a)] Z h0 (OwQ (some (.int (0 : Int32))) h0 n0) := by
  refine MetFree.of_bodySF (plainFor_of_name owpn16) hisR ?_
  intro p e s m args below meth c s₁ Bd hml0 hP hK
  obtain ⟨rfl, hZ, hh⟩ := hP
  have hx := Bd.exec
  have hby := Bd.bytes
  have hml : c.maxLocals = 1 := hml0
  have hown : s.vm.findClass "java/lang/String" = some m.cls := findClass_of_methodNamed Bd.named
  have hnm := (name_of_methodNamed Bd.named Bd.method).1
  have X0 : Stand p l e ({ frames := 0, cells := 0, slots := 0, locals := 0 } : Room) s m #[(.ref a)] below meth c s₁ [] 0 0 := Stand.of_body Bd
  have e0 : s₁.heap = h0 := by rw [← hh, Bd.state]; rfl
  have N0 := Fr.nil n0
  have WW := W
  obtain ⟨nz_i_COMPACT_STRINGS, E_w_instance, E_w_A, S_String_COMPACT_STRINGS, S_CharacterDataLatin1_instance, S_CharacterDataLatin1_A, Ta, -⟩ := WW
  have ef : entryFrame m #[(.ref a)] 1 = mkF m 0 #[.val (.ref a)] [] := by first | (simp [entryFrame, mkF, argsToLocals, Value.category]; done) | rfl
  have pre0 : ∀ t, Steps p.tables e below (s₁.setTop (mkF m 0 #[.val (.ref a)] [])) t → Steps p.tables e below (s₁.setTop (entryFrame m #[(.ref a)] 1)) t := fun t k => castTop ef k
  obtain ⟨T1, X1, e1, st1⟩ := getS2 X0 hx hZ hown (host := "") (Or.inl (hw _ (List.mem_of_getElem? (i := 64) rfl))) Via.refl e0 (S_String_COMPACT_STRINGS.ext O.2) (g := (mkF m 0 #[.val (.ref a)] [])) rfl (hb hby d16_0)
  obtain ⟨T2, X2, e2, st2⟩ := getF X1 hx hZ hown (host := "") (Or.inl (hw _ (List.mem_of_getElem? (i := 65) rfl))) Via.refl e1 Fc (g := (mkF m 7 #[.val (.ref a)] [(.ref a)])) rfl rfl (hb hby d16_7)
  obtain ⟨fs, hr, hrun, hended, hW, hsame⟩ := X2.leave (v := some (.int (0 : Int32))) (fun h => by rw [Bd.returns] at h; cases h)
  refine ⟨_, _, pre0 _ ?_, hrun, hended, _, _, rfl, ?_, ⟨_, rfl⟩, hW, hsame.mono (by decide) (by decide)⟩
  · show Steps p.tables e below (s₁.setTop (mkF m 0 #[.val (.ref a)] [])) _
    refine st1 _ ?_
    show Steps p.tables e below (T1.setTop (mkF m 3 #[.val (.ref a)] [(.int i_COMPACT_STRINGS)])) _
    refine XS.ifNo X1.here hx rfl (hb hby d16_3) rfl ((if0 _ _).trans (feq nz_i_COMPACT_STRINGS).1) ?_
    show Steps p.tables e below (T1.setTop (mkF m 6 #[.val (.ref a)] [])) _
    refine XS.aloadN X1.here hx rfl (hb hby d16_6) rfl rfl ?_
    show Steps p.tables e below (T1.setTop (mkF m 7 #[.val (.ref a)] [(.ref a)])) _
    refine st2 _ ?_
    show Steps p.tables e below (T2.setTop (mkF m 10 #[.val (.ref a)] [(.int (0 : Int32))])) _
    refine XS.goto X2.here hx rfl (pc0 := 10) (pc' := 14) rfl (hb hby d16_10) (by decide) (by decide) ?_
    show Steps p.tables e below (T2.setTop (mkF m 14 #[.val (.ref a)] [(.int (0 : Int32))])) _
    exact retN X2 hx (t := .byte) Bd.returns (by simp) (hb hby d16_14) hr
  · have eF : (T2.setFrames fs).heap = h0 := e2
    exact ⟨rfl, N0, eF⟩
set_option maxRecDepth 65536 in
set_option maxHeartbeats 40000000 in
theorem rmLat_t (l : Launch) (Z : State) (a0 : Array Value) (hw : ∀ d ∈ tables_1, d.before a0 Z = true) (ws : List Jvm.Cond) (n0 : Nat) (h0 : Heap) (O : Old Z n0 h0) (i_COMPACT_STRINGS : Int32) (w_instance : Addr) (w_A : Addr) (W : OwW Z i_COMPACT_STRINGS w_instance w_A) (a b : Addr) (k : ClassId) (Es : Exa Z h0 a "java/lang/String") (Fc : Fld Z h0 a "java/lang/String" "coder" "B" (.int (0 : Int32))) (Fv : Fld Z h0 a "java/lang/String" "value" "[B" (.ref b)) (Va : Arv Z h0 b k .byte (4 : Int32) [(.int (53 : Int32)), (.int (46 : Int32)), (.int (48 : Int32)), (.int (51 : Int32))] (.int 0)) :
    OwCon l (⟨"java/lang/String", "isLatin1", "()Z"⟩ : MethodName) jdk_42_method_154_code 1 (some .boolean) ws ({ frames := 0, cells := 0, slots := 0, locals := 0 } : Room) #[(.ref a)] Z h0 (OwQ (some (.int (1 : Int32))) h0 n0) := by
  refine MetFree.of_bodySF (plainFor_of_name owpn10) hisR ?_
  intro p e s m args below meth c s₁ Bd hml0 hP hK
  obtain ⟨rfl, hZ, hh⟩ := hP
  have hx := Bd.exec
  have hby := Bd.bytes
  have hml : c.maxLocals = 1 := hml0
  have hown : s.vm.findClass "java/lang/String" = some m.cls := findClass_of_methodNamed Bd.named
  have hnm := (name_of_methodNamed Bd.named Bd.method).1
  have X0 : Stand p l e ({ frames := 0, cells := 0, slots := 0, locals := 0 } : Room) s m #[(.ref a)] below meth c s₁ [] 0 0 := Stand.of_body Bd
  have e0 : s₁.heap = h0 := by rw [← hh, Bd.state]; rfl
  have N0 := Fr.nil n0
  have WW := W
  obtain ⟨nz_i_COMPACT_STRINGS, E_w_instance, E_w_A, S_String_COMPACT_STRINGS, S_CharacterDataLatin1_instance, S_CharacterDataLatin1_A, Ta, -⟩ := WW
  have ef : entryFrame m #[(.ref a)] 1 = mkF m 0 #[.val (.ref a)] [] := by first | (simp [entryFrame, mkF, argsToLocals, Value.category]; done) | rfl
  have pre0 : ∀ t, Steps p.tables e below (s₁.setTop (mkF m 0 #[.val (.ref a)] [])) t → Steps p.tables e below (s₁.setTop (entryFrame m #[(.ref a)] 1)) t := fun t k => castTop ef k
  obtain ⟨T1, X1, e1, st1⟩ := getS2 X0 hx hZ hown (host := "") (Or.inl (hw _ (List.mem_of_getElem? (i := 64) rfl))) Via.refl e0 (S_String_COMPACT_STRINGS.ext O.2) (g := (mkF m 0 #[.val (.ref a)] [])) rfl (hb hby d10_0)
  obtain ⟨T2, X2, e2, st2⟩ := getF X1 hx hZ hown (host := "") (Or.inl (hw _ (List.mem_of_getElem? (i := 65) rfl))) Via.refl e1 Fc (g := (mkF m 7 #[.val (.ref a)] [(.ref a)])) rfl rfl (hb hby d10_7)
  obtain ⟨fs, hr, hrun, hended, hW, hsame⟩ := X2.leave (v := some (.int (1 : Int32))) (fun h => by rw [Bd.returns] at h; cases h)
  refine ⟨_, _, pre0 _ ?_, hrun, hended, _, _, rfl, ?_, ⟨_, rfl⟩, hW, hsame.mono (by decide) (by decide)⟩
  · show Steps p.tables e below (s₁.setTop (mkF m 0 #[.val (.ref a)] [])) _
    refine st1 _ ?_
    show Steps p.tables e below (T1.setTop (mkF m 3 #[.val (.ref a)] [(.int i_COMPACT_STRINGS)])) _
    refine XS.ifNo X1.here hx rfl (hb hby d10_3) rfl ((if0 _ _).trans (feq nz_i_COMPACT_STRINGS).1) ?_
    show Steps p.tables e below (T1.setTop (mkF m 6 #[.val (.ref a)] [])) _
    refine XS.aloadN X1.here hx rfl (hb hby d10_6) rfl rfl ?_
    show Steps p.tables e below (T1.setTop (mkF m 7 #[.val (.ref a)] [(.ref a)])) _
    refine st2 _ ?_
    show Steps p.tables e below (T2.setTop (mkF m 10 #[.val (.ref a)] [(.int (0 : Int32))])) _
    refine XS.ifNo X2.here hx rfl (hb hby d10_10) rfl ((if0 _ _).trans (teq (by decide : (0 : Int32) = (0 : Int32))).2) ?_
    show Steps p.tables e below (T2.setTop (mkF m 13 #[.val (.ref a)] [])) _
    refine XS.iconst X2.here hx rfl (hb hby d10_13) ?_
    show Steps p.tables e below (T2.setTop (mkF m 14 #[.val (.ref a)] [(.int (1 : Int32))])) _
    refine XS.goto X2.here hx rfl (pc0 := 14) (pc' := 18) rfl (hb hby d10_14) (by decide) (by decide) ?_
    show Steps p.tables e below (T2.setTop (mkF m 18 #[.val (.ref a)] [(.int (1 : Int32))])) _
    exact retN X2 hx (t := .boolean) Bd.returns (by simp) (hb hby d10_18) hr
  · have eF : (T2.setFrames fs).heap = h0 := e2
    exact ⟨rfl, N0, eF⟩
set_option maxRecDepth 65536 in
set_option maxHeartbeats 40000000 in
theorem rmLen_t (l : Launch) (Z : State) (a0 : Array Value) (hw : ∀ d ∈ tables_1, d.before a0 Z = true) (ws : List Jvm.Cond) (n0 : Nat) (h0 : Heap) (O : Old Z n0 h0) (i_COMPACT_STRINGS : Int32) (w_instance : Addr) (w_A : Addr) (W : OwW Z i_COMPACT_STRINGS w_instance w_A) (a b : Addr) (k : ClassId) (Es : Exa Z h0 a "java/lang/String") (Fc : Fld Z h0 a "java/lang/String" "coder" "B" (.int (0 : Int32))) (Fv : Fld Z h0 a "java/lang/String" "value" "[B" (.ref b)) (Va : Arv Z h0 b k .byte (4 : Int32) [(.int (53 : Int32)), (.int (46 : Int32)), (.int (48 : Int32)), (.int (51 : Int32))] (.int 0)) :
    OwCon l (⟨"java/lang/String", "length", "()I"⟩ : MethodName) jdk_42_method_54_code 1 (some .int) ws ({ frames := 1, cells := 0, slots := 0, locals := 13 } : Room) #[(.ref a)] Z h0 (OwQ (some (.int (4 : Int32))) h0 n0) := by
  refine MetFree.of_bodySF (plainFor_of_name owpn15) hisR ?_
  intro p e s m args below meth c s₁ Bd hml0 hP hK
  obtain ⟨rfl, hZ, hh⟩ := hP
  have hx := Bd.exec
  have hby := Bd.bytes
  have hml : c.maxLocals = 1 := hml0
  have hown : s.vm.findClass "java/lang/String" = some m.cls := findClass_of_methodNamed Bd.named
  have hnm := (name_of_methodNamed Bd.named Bd.method).1
  have X0 : Stand p l e ({ frames := 1, cells := 0, slots := 0, locals := 13 } : Room) s m #[(.ref a)] below meth c s₁ [] 0 0 := Stand.of_body Bd
  have e0 : s₁.heap = h0 := by rw [← hh, Bd.state]; rfl
  have N0 := Fr.nil n0
  have WW := W
  obtain ⟨nz_i_COMPACT_STRINGS, E_w_instance, E_w_A, S_String_COMPACT_STRINGS, S_CharacterDataLatin1_instance, S_CharacterDataLatin1_A, Ta, -⟩ := WW
  have ef : entryFrame m #[(.ref a)] 1 = mkF m 0 #[.val (.ref a)] [] := by first | (simp [entryFrame, mkF, argsToLocals, Value.category]; done) | rfl
  have pre0 : ∀ t, Steps p.tables e below (s₁.setTop (mkF m 0 #[.val (.ref a)] [])) t → Steps p.tables e below (s₁.setTop (entryFrame m #[(.ref a)] 1)) t := fun t k => castTop ef k
  obtain ⟨T1, X1, e1, st1⟩ := getF X0 hx hZ hown (host := "") (Or.inl (hw _ (List.mem_of_getElem? (i := 66) rfl))) Via.refl e0 Fv (g := (mkF m 1 #[.val (.ref a)] [(.ref a)])) rfl rfl (hb hby d15_1)
  obtain ⟨cl2, Ar2, q2, Sz2, Nn2, Hs2, -⟩ := id Va
  obtain ⟨cq3, kq3, q3a, q3b, q3c⟩ := isOf hZ e1 Es
  obtain ⟨_, _, ⟨T3, L3, k3, n3⟩, -, X3, ⟨Lc3, hQ3, l3, y3, z3⟩, st3⟩ := X1.virtualBack hx (y := (⟨"java/lang/String", "coder", "()B"⟩ : MethodName)) (z := (⟨"java/lang/String", "coder", "()B"⟩ : MethodName)) hown (mvT hZ (hw _ (List.mem_of_getElem? (i := 92) rfl))) (mvT hZ (hw _ (List.mem_of_getElem? (i := 93) rfl))) (notFace_of_selects (args := #[]) (mvT hZ (hw _ (List.mem_of_getElem? (i := 95) rfl)))) (mvT hZ (hw _ (List.mem_of_getElem? (i := 95) rfl))) (mvT hZ (hw _ (List.mem_of_getElem? (i := 94) rfl))) (by decide) (backOf (W := 1) (rmCoder_t l Z a0 hw [] n0 h0 O i_COMPACT_STRINGS w_instance w_A W a b k Es Fc Fv Va) hZ (hw _ (List.mem_of_getElem? (i := 96) rfl)) (hw _ (List.mem_of_getElem? (i := 28) rfl)) (by decide) (by decide)) q3a q3c (g := (mkF m 6 #[.val (.ref a)] [(.ref a), (.int (4 : Int32))])) rfl (by rw [hml]; rfl) (Steps.refl _) (argsL := []) (rest := [(.int (4 : Int32))]) (lenOf owpd1 rfl) rfl (by show 2 * 0 + _ ≤ _; exact Nat.le_of_eq rfl) (hb hby d15_6) (fun _ _ => ⟨rfl, e1, (by decide : 0 + 0 ≤ _), (by decide : 0 + 0 ≤ _)⟩)
  dsimp only [Pt.U, Pt.locs, Pt.cells, Pt.slots] at X3 l3 y3 z3 st3 hQ3
  subst l3 y3 z3
  obtain ⟨rfl, Nq3, e3⟩ := hQ3
  have N3 := Fr.app N0 Nq3
  obtain ⟨fs, hr, hrun, hended, hW, hsame⟩ := X3.leave (v := some (.int (4 : Int32))) (fun h => by rw [Bd.returns] at h; cases h)
  refine ⟨_, _, pre0 _ ?_, hrun, hended, _, _, rfl, ?_, ⟨_, rfl⟩, hW, hsame.mono (by decide) (by decide)⟩
  · show Steps p.tables e below (s₁.setTop (mkF m 0 #[.val (.ref a)] [])) _
    refine XS.aloadN X0.here hx rfl (hb hby d15_0) rfl rfl ?_
    show Steps p.tables e below (s₁.setTop (mkF m 1 #[.val (.ref a)] [(.ref a)])) _
    refine st1 _ ?_
    show Steps p.tables e below (T1.setTop (mkF m 4 #[.val (.ref a)] [(.ref b)])) _
    refine X1.arraylength hx (by rw [e1]; exact Ar2.1) (State.isArrayOf_alike hZ.alike Ar2.2.1) (g := (mkF m 4 #[.val (.ref a)] [(.ref b)])) rfl rfl (hb hby d15_4) _ ?_
    rw [len_of Sz2 Nn2]
    show Steps p.tables e below (T1.setTop (mkF m 5 #[.val (.ref a)] [(.int (4 : Int32))])) _
    refine XS.aloadN X1.here hx rfl (hb hby d15_5) rfl rfl ?_
    show Steps p.tables e below (T1.setTop (mkF m 6 #[.val (.ref a)] [(.ref a), (.int (4 : Int32))])) _
    refine st3.trans ?_
    show Steps p.tables e below (T3.setTop (mkF m 9 #[.val (.ref a)] [(.int (0 : Int32)), (.int (4 : Int32))])) _
    refine XS.ishr X3.here hx rfl (hb hby d15_9) rfl ?_
    show Steps p.tables e below (T3.setTop (mkF m 10 #[.val (.ref a)] [(.int (4 : Int32))])) _
    exact retI X3 hx Bd.returns (hb hby d15_10) hr
  · have eF : (T3.setFrames fs).heap = h0 := e3
    exact ⟨rfl, N3, eF⟩
set_option maxRecDepth 65536 in
set_option maxHeartbeats 40000000 in
theorem rmCoder_9 (l : Launch) (Z : State) (a0 : Array Value) (hw : ∀ d ∈ tables_1, d.before a0 Z = true) (ws : List Jvm.Cond) (n0 : Nat) (h0 : Heap) (O : Old Z n0 h0) (i_COMPACT_STRINGS : Int32) (w_instance : Addr) (w_A : Addr) (W : OwW Z i_COMPACT_STRINGS w_instance w_A) (a b : Addr) (k : ClassId) (Es : Exa Z h0 a "java/lang/String") (Fc : Fld Z h0 a "java/lang/String" "coder" "B" (.int (0 : Int32))) (Fv : Fld Z h0 a "java/lang/String" "value" "[B" (.ref b)) (Va : Arv Z h0 b k .byte (1 : Int32) [(.int (9 : Int32))] (.int 0)) :
    OwCon l (⟨"java/lang/String", "coder", "()B"⟩ : MethodName) jdk_42_method_152_code 1 (some .byte) ws ({ frames := 0, cells := 0, slots := 0, locals := 0 } : Room) #[(.ref a)] Z h0 (OwQ (some (.int (0 : Int32))) h0 n0) := by
  refine MetFree.of_bodySF (plainFor_of_name owpn16) hisR ?_
  intro p e s m args below meth c s₁ Bd hml0 hP hK
  obtain ⟨rfl, hZ, hh⟩ := hP
  have hx := Bd.exec
  have hby := Bd.bytes
  have hml : c.maxLocals = 1 := hml0
  have hown : s.vm.findClass "java/lang/String" = some m.cls := findClass_of_methodNamed Bd.named
  have hnm := (name_of_methodNamed Bd.named Bd.method).1
  have X0 : Stand p l e ({ frames := 0, cells := 0, slots := 0, locals := 0 } : Room) s m #[(.ref a)] below meth c s₁ [] 0 0 := Stand.of_body Bd
  have e0 : s₁.heap = h0 := by rw [← hh, Bd.state]; rfl
  have N0 := Fr.nil n0
  have WW := W
  obtain ⟨nz_i_COMPACT_STRINGS, E_w_instance, E_w_A, S_String_COMPACT_STRINGS, S_CharacterDataLatin1_instance, S_CharacterDataLatin1_A, Ta, -⟩ := WW
  have ef : entryFrame m #[(.ref a)] 1 = mkF m 0 #[.val (.ref a)] [] := by first | (simp [entryFrame, mkF, argsToLocals, Value.category]; done) | rfl
  have pre0 : ∀ t, Steps p.tables e below (s₁.setTop (mkF m 0 #[.val (.ref a)] [])) t → Steps p.tables e below (s₁.setTop (entryFrame m #[(.ref a)] 1)) t := fun t k => castTop ef k
  obtain ⟨T1, X1, e1, st1⟩ := getS2 X0 hx hZ hown (host := "") (Or.inl (hw _ (List.mem_of_getElem? (i := 64) rfl))) Via.refl e0 (S_String_COMPACT_STRINGS.ext O.2) (g := (mkF m 0 #[.val (.ref a)] [])) rfl (hb hby d16_0)
  obtain ⟨T2, X2, e2, st2⟩ := getF X1 hx hZ hown (host := "") (Or.inl (hw _ (List.mem_of_getElem? (i := 65) rfl))) Via.refl e1 Fc (g := (mkF m 7 #[.val (.ref a)] [(.ref a)])) rfl rfl (hb hby d16_7)
  obtain ⟨fs, hr, hrun, hended, hW, hsame⟩ := X2.leave (v := some (.int (0 : Int32))) (fun h => by rw [Bd.returns] at h; cases h)
  refine ⟨_, _, pre0 _ ?_, hrun, hended, _, _, rfl, ?_, ⟨_, rfl⟩, hW, hsame.mono (by decide) (by decide)⟩
  · show Steps p.tables e below (s₁.setTop (mkF m 0 #[.val (.ref a)] [])) _
    refine st1 _ ?_
    show Steps p.tables e below (T1.setTop (mkF m 3 #[.val (.ref a)] [(.int i_COMPACT_STRINGS)])) _
    refine XS.ifNo X1.here hx rfl (hb hby d16_3) rfl ((if0 _ _).trans (feq nz_i_COMPACT_STRINGS).1) ?_
    show Steps p.tables e below (T1.setTop (mkF m 6 #[.val (.ref a)] [])) _
    refine XS.aloadN X1.here hx rfl (hb hby d16_6) rfl rfl ?_
    show Steps p.tables e below (T1.setTop (mkF m 7 #[.val (.ref a)] [(.ref a)])) _
    refine st2 _ ?_
    show Steps p.tables e below (T2.setTop (mkF m 10 #[.val (.ref a)] [(.int (0 : Int32))])) _
    refine XS.goto X2.here hx rfl (pc0 := 10) (pc' := 14) rfl (hb hby d16_10) (by decide) (by decide) ?_
    show Steps p.tables e below (T2.setTop (mkF m 14 #[.val (.ref a)] [(.int (0 : Int32))])) _
    exact retN X2 hx (t := .byte) Bd.returns (by simp) (hb hby d16_14) hr
  · have eF : (T2.setFrames fs).heap = h0 := e2
    exact ⟨rfl, N0, eF⟩
set_option maxRecDepth 65536 in
set_option maxHeartbeats 40000000 in
theorem rmToS_9 (l : Launch) (Z : State) (a0 : Array Value) (hw : ∀ d ∈ tables_1, d.before a0 Z = true) (ws : List Jvm.Cond) (n0 : Nat) (h0 : Heap) (O : Old Z n0 h0) (i_COMPACT_STRINGS : Int32) (w_instance : Addr) (w_A : Addr) (W : OwW Z i_COMPACT_STRINGS w_instance w_A) (a : Addr) :
    OwCon l (⟨"java/lang/String", "toString", "()Ljava/lang/String;"⟩ : MethodName) jdk_42_method_126_code 1 (some (.object "java/lang/String")) ws ({ frames := 0, cells := 0, slots := 0, locals := 0 } : Room) #[(.ref a)] Z h0 (OwQ (some (.ref a)) h0 n0) := by
  refine MetFree.of_bodySF (plainFor_of_name owpn18) hisR ?_
  intro p e s m args below meth c s₁ Bd hml0 hP hK
  obtain ⟨rfl, hZ, hh⟩ := hP
  have hx := Bd.exec
  have hby := Bd.bytes
  have hml : c.maxLocals = 1 := hml0
  have hown : s.vm.findClass "java/lang/String" = some m.cls := findClass_of_methodNamed Bd.named
  have hnm := (name_of_methodNamed Bd.named Bd.method).1
  have X0 : Stand p l e ({ frames := 0, cells := 0, slots := 0, locals := 0 } : Room) s m #[(.ref a)] below meth c s₁ [] 0 0 := Stand.of_body Bd
  have e0 : s₁.heap = h0 := by rw [← hh, Bd.state]; rfl
  have N0 := Fr.nil n0
  have WW := W
  obtain ⟨nz_i_COMPACT_STRINGS, E_w_instance, E_w_A, S_String_COMPACT_STRINGS, S_CharacterDataLatin1_instance, S_CharacterDataLatin1_A, Ta, -⟩ := WW
  have ef : entryFrame m #[(.ref a)] 1 = mkF m 0 #[.val (.ref a)] [] := by first | (simp [entryFrame, mkF, argsToLocals, Value.category]; done) | rfl
  have pre0 : ∀ t, Steps p.tables e below (s₁.setTop (mkF m 0 #[.val (.ref a)] [])) t → Steps p.tables e below (s₁.setTop (entryFrame m #[(.ref a)] 1)) t := fun t k => castTop ef k
  obtain ⟨fs, hr, hrun, hended, hW, hsame⟩ := X0.leave (v := some (.ref a)) (fun h => by rw [Bd.returns] at h; cases h)
  refine ⟨_, _, pre0 _ ?_, hrun, hended, _, _, rfl, ?_, ⟨_, rfl⟩, hW, hsame.mono (by decide) (by decide)⟩
  · show Steps p.tables e below (s₁.setTop (mkF m 0 #[.val (.ref a)] [])) _
    refine XS.aloadN X0.here hx rfl (hb hby d18_0) rfl rfl ?_
    show Steps p.tables e below (s₁.setTop (mkF m 1 #[.val (.ref a)] [(.ref a)])) _
    exact retOut X0 hx Bd.returns rfl (Or.inr (Or.inr (Or.inr (Or.inr ⟨rfl, rfl, rfl⟩)))) (hb hby d18_1) hr
  · have eF : (s₁.setFrames fs).heap = h0 := e0
    exact ⟨rfl, N0, eF⟩
set_option maxRecDepth 65536 in
set_option maxHeartbeats 40000000 in
theorem rmCoder_10 (l : Launch) (Z : State) (a0 : Array Value) (hw : ∀ d ∈ tables_1, d.before a0 Z = true) (ws : List Jvm.Cond) (n0 : Nat) (h0 : Heap) (O : Old Z n0 h0) (i_COMPACT_STRINGS : Int32) (w_instance : Addr) (w_A : Addr) (W : OwW Z i_COMPACT_STRINGS w_instance w_A) (a b : Addr) (k : ClassId) (Es : Exa Z h0 a "java/lang/String") (Fc : Fld Z h0 a "java/lang/String" "coder" "B" (.int (0 : Int32))) (Fv : Fld Z h0 a "java/lang/String" "value" "[B" (.ref b)) (Va : Arv Z h0 b k .byte (1 : Int32) [(.int (10 : Int32))] (.int 0)) :
    OwCon l (⟨"java/lang/String", "coder", "()B"⟩ : MethodName) jdk_42_method_152_code 1 (some .byte) ws ({ frames := 0, cells := 0, slots := 0, locals := 0 } : Room) #[(.ref a)] Z h0 (OwQ (some (.int (0 : Int32))) h0 n0) := by
  refine MetFree.of_bodySF (plainFor_of_name owpn16) hisR ?_
  intro p e s m args below meth c s₁ Bd hml0 hP hK
  obtain ⟨rfl, hZ, hh⟩ := hP
  have hx := Bd.exec
  have hby := Bd.bytes
  have hml : c.maxLocals = 1 := hml0
  have hown : s.vm.findClass "java/lang/String" = some m.cls := findClass_of_methodNamed Bd.named
  have hnm := (name_of_methodNamed Bd.named Bd.method).1
  have X0 : Stand p l e ({ frames := 0, cells := 0, slots := 0, locals := 0 } : Room) s m #[(.ref a)] below meth c s₁ [] 0 0 := Stand.of_body Bd
  have e0 : s₁.heap = h0 := by rw [← hh, Bd.state]; rfl
  have N0 := Fr.nil n0
  have WW := W
  obtain ⟨nz_i_COMPACT_STRINGS, E_w_instance, E_w_A, S_String_COMPACT_STRINGS, S_CharacterDataLatin1_instance, S_CharacterDataLatin1_A, Ta, -⟩ := WW
  have ef : entryFrame m #[(.ref a)] 1 = mkF m 0 #[.val (.ref a)] [] := by first | (simp [entryFrame, mkF, argsToLocals, Value.category]; done) | rfl
  have pre0 : ∀ t, Steps p.tables e below (s₁.setTop (mkF m 0 #[.val (.ref a)] [])) t → Steps p.tables e below (s₁.setTop (entryFrame m #[(.ref a)] 1)) t := fun t k => castTop ef k
  obtain ⟨T1, X1, e1, st1⟩ := getS2 X0 hx hZ hown (host := "") (Or.inl (hw _ (List.mem_of_getElem? (i := 64) rfl))) Via.refl e0 (S_String_COMPACT_STRINGS.ext O.2) (g := (mkF m 0 #[.val (.ref a)] [])) rfl (hb hby d16_0)
  obtain ⟨T2, X2, e2, st2⟩ := getF X1 hx hZ hown (host := "") (Or.inl (hw _ (List.mem_of_getElem? (i := 65) rfl))) Via.refl e1 Fc (g := (mkF m 7 #[.val (.ref a)] [(.ref a)])) rfl rfl (hb hby d16_7)
  obtain ⟨fs, hr, hrun, hended, hW, hsame⟩ := X2.leave (v := some (.int (0 : Int32))) (fun h => by rw [Bd.returns] at h; cases h)
  refine ⟨_, _, pre0 _ ?_, hrun, hended, _, _, rfl, ?_, ⟨_, rfl⟩, hW, hsame.mono (by decide) (by decide)⟩
  · show Steps p.tables e below (s₁.setTop (mkF m 0 #[.val (.ref a)] [])) _
    refine st1 _ ?_
    show Steps p.tables e below (T1.setTop (mkF m 3 #[.val (.ref a)] [(.int i_COMPACT_STRINGS)])) _
    refine XS.ifNo X1.here hx rfl (hb hby d16_3) rfl ((if0 _ _).trans (feq nz_i_COMPACT_STRINGS).1) ?_
    show Steps p.tables e below (T1.setTop (mkF m 6 #[.val (.ref a)] [])) _
    refine XS.aloadN X1.here hx rfl (hb hby d16_6) rfl rfl ?_
    show Steps p.tables e below (T1.setTop (mkF m 7 #[.val (.ref a)] [(.ref a)])) _
    refine st2 _ ?_
    show Steps p.tables e below (T2.setTop (mkF m 10 #[.val (.ref a)] [(.int (0 : Int32))])) _
    refine XS.goto X2.here hx rfl (pc0 := 10) (pc' := 14) rfl (hb hby d16_10) (by decide) (by decide) ?_
    show Steps p.tables e below (T2.setTop (mkF m 14 #[.val (.ref a)] [(.int (0 : Int32))])) _
    exact retN X2 hx (t := .byte) Bd.returns (by simp) (hb hby d16_14) hr
  · have eF : (T2.setFrames fs).heap = h0 := e2
    exact ⟨rfl, N0, eF⟩
set_option maxRecDepth 65536 in
set_option maxHeartbeats 40000000 in
theorem rmToS_10 (l : Launch) (Z : State) (a0 : Array Value) (hw : ∀ d ∈ tables_1, d.before a0 Z = true) (ws : List Jvm.Cond) (n0 : Nat) (h0 : Heap) (O : Old Z n0 h0) (i_COMPACT_STRINGS : Int32) (w_instance : Addr) (w_A : Addr) (W : OwW Z i_COMPACT_STRINGS w_instance w_A) (a : Addr) :
    OwCon l (⟨"java/lang/String", "toString", "()Ljava/lang/String;"⟩ : MethodName) jdk_42_method_126_code 1 (some (.object "java/lang/String")) ws ({ frames := 0, cells := 0, slots := 0, locals := 0 } : Room) #[(.ref a)] Z h0 (OwQ (some (.ref a)) h0 n0) := by
  refine MetFree.of_bodySF (plainFor_of_name owpn18) hisR ?_
  intro p e s m args below meth c s₁ Bd hml0 hP hK
  obtain ⟨rfl, hZ, hh⟩ := hP
  have hx := Bd.exec
  have hby := Bd.bytes
  have hml : c.maxLocals = 1 := hml0
  have hown : s.vm.findClass "java/lang/String" = some m.cls := findClass_of_methodNamed Bd.named
  have hnm := (name_of_methodNamed Bd.named Bd.method).1
  have X0 : Stand p l e ({ frames := 0, cells := 0, slots := 0, locals := 0 } : Room) s m #[(.ref a)] below meth c s₁ [] 0 0 := Stand.of_body Bd
  have e0 : s₁.heap = h0 := by rw [← hh, Bd.state]; rfl
  have N0 := Fr.nil n0
  have WW := W
  obtain ⟨nz_i_COMPACT_STRINGS, E_w_instance, E_w_A, S_String_COMPACT_STRINGS, S_CharacterDataLatin1_instance, S_CharacterDataLatin1_A, Ta, -⟩ := WW
  have ef : entryFrame m #[(.ref a)] 1 = mkF m 0 #[.val (.ref a)] [] := by first | (simp [entryFrame, mkF, argsToLocals, Value.category]; done) | rfl
  have pre0 : ∀ t, Steps p.tables e below (s₁.setTop (mkF m 0 #[.val (.ref a)] [])) t → Steps p.tables e below (s₁.setTop (entryFrame m #[(.ref a)] 1)) t := fun t k => castTop ef k
  obtain ⟨fs, hr, hrun, hended, hW, hsame⟩ := X0.leave (v := some (.ref a)) (fun h => by rw [Bd.returns] at h; cases h)
  refine ⟨_, _, pre0 _ ?_, hrun, hended, _, _, rfl, ?_, ⟨_, rfl⟩, hW, hsame.mono (by decide) (by decide)⟩
  · show Steps p.tables e below (s₁.setTop (mkF m 0 #[.val (.ref a)] [])) _
    refine XS.aloadN X0.here hx rfl (hb hby d18_0) rfl rfl ?_
    show Steps p.tables e below (s₁.setTop (mkF m 1 #[.val (.ref a)] [(.ref a)])) _
    exact retOut X0 hx Bd.returns rfl (Or.inr (Or.inr (Or.inr (Or.inr ⟨rfl, rfl, rfl⟩)))) (hb hby d18_1) hr
  · have eF : (s₁.setFrames fs).heap = h0 := e0
    exact ⟨rfl, N0, eF⟩
set_option maxRecDepth 65536 in
set_option maxHeartbeats 40000000 in
theorem rmCoder_13 (l : Launch) (Z : State) (a0 : Array Value) (hw : ∀ d ∈ tables_1, d.before a0 Z = true) (ws : List Jvm.Cond) (n0 : Nat) (h0 : Heap) (O : Old Z n0 h0) (i_COMPACT_STRINGS : Int32) (w_instance : Addr) (w_A : Addr) (W : OwW Z i_COMPACT_STRINGS w_instance w_A) (a b : Addr) (k : ClassId) (Es : Exa Z h0 a "java/lang/String") (Fc : Fld Z h0 a "java/lang/String" "coder" "B" (.int (0 : Int32))) (Fv : Fld Z h0 a "java/lang/String" "value" "[B" (.ref b)) (Va : Arv Z h0 b k .byte (1 : Int32) [(.int (13 : Int32))] (.int 0)) :
    OwCon l (⟨"java/lang/String", "coder", "()B"⟩ : MethodName) jdk_42_method_152_code 1 (some .byte) ws ({ frames := 0, cells := 0, slots := 0, locals := 0 } : Room) #[(.ref a)] Z h0 (OwQ (some (.int (0 : Int32))) h0 n0) := by
  refine MetFree.of_bodySF (plainFor_of_name owpn16) hisR ?_
  intro p e s m args below meth c s₁ Bd hml0 hP hK
  obtain ⟨rfl, hZ, hh⟩ := hP
  have hx := Bd.exec
  have hby := Bd.bytes
  have hml : c.maxLocals = 1 := hml0
  have hown : s.vm.findClass "java/lang/String" = some m.cls := findClass_of_methodNamed Bd.named
  have hnm := (name_of_methodNamed Bd.named Bd.method).1
  have X0 : Stand p l e ({ frames := 0, cells := 0, slots := 0, locals := 0 } : Room) s m #[(.ref a)] below meth c s₁ [] 0 0 := Stand.of_body Bd
  have e0 : s₁.heap = h0 := by rw [← hh, Bd.state]; rfl
  have N0 := Fr.nil n0
  have WW := W
  obtain ⟨nz_i_COMPACT_STRINGS, E_w_instance, E_w_A, S_String_COMPACT_STRINGS, S_CharacterDataLatin1_instance, S_CharacterDataLatin1_A, Ta, -⟩ := WW
  have ef : entryFrame m #[(.ref a)] 1 = mkF m 0 #[.val (.ref a)] [] := by first | (simp [entryFrame, mkF, argsToLocals, Value.category]; done) | rfl
  have pre0 : ∀ t, Steps p.tables e below (s₁.setTop (mkF m 0 #[.val (.ref a)] [])) t → Steps p.tables e below (s₁.setTop (entryFrame m #[(.ref a)] 1)) t := fun t k => castTop ef k
  obtain ⟨T1, X1, e1, st1⟩ := getS2 X0 hx hZ hown (host := "") (Or.inl (hw _ (List.mem_of_getElem? (i := 64) rfl))) Via.refl e0 (S_String_COMPACT_STRINGS.ext O.2) (g := (mkF m 0 #[.val (.ref a)] [])) rfl (hb hby d16_0)
  obtain ⟨T2, X2, e2, st2⟩ := getF X1 hx hZ hown (host := "") (Or.inl (hw _ (List.mem_of_getElem? (i := 65) rfl))) Via.refl e1 Fc (g := (mkF m 7 #[.val (.ref a)] [(.ref a)])) rfl rfl (hb hby d16_7)
  obtain ⟨fs, hr, hrun, hended, hW, hsame⟩ := X2.leave (v := some (.int (0 : Int32))) (fun h => by rw [Bd.returns] at h; cases h)
  refine ⟨_, _, pre0 _ ?_, hrun, hended, _, _, rfl, ?_, ⟨_, rfl⟩, hW, hsame.mono (by decide) (by decide)⟩
  · show Steps p.tables e below (s₁.setTop (mkF m 0 #[.val (.ref a)] [])) _
    refine st1 _ ?_
    show Steps p.tables e below (T1.setTop (mkF m 3 #[.val (.ref a)] [(.int i_COMPACT_STRINGS)])) _
    refine XS.ifNo X1.here hx rfl (hb hby d16_3) rfl ((if0 _ _).trans (feq nz_i_COMPACT_STRINGS).1) ?_
    show Steps p.tables e below (T1.setTop (mkF m 6 #[.val (.ref a)] [])) _
    refine XS.aloadN X1.here hx rfl (hb hby d16_6) rfl rfl ?_
    show Steps p.tables e below (T1.setTop (mkF m 7 #[.val (.ref a)] [(.ref a)])) _
    refine st2 _ ?_
    show Steps p.tables e below (T2.setTop (mkF m 10 #[.val (.ref a)] [(.int (0 : Int32))])) _
    refine XS.goto X2.here hx rfl (pc0 := 10) (pc' := 14) rfl (hb hby d16_10) (by decide) (by decide) ?_
    show Steps p.tables e below (T2.setTop (mkF m 14 #[.val (.ref a)] [(.int (0 : Int32))])) _
    exact retN X2 hx (t := .byte) Bd.returns (by simp) (hb hby d16_14) hr
  · have eF : (T2.setFrames fs).heap = h0 := e2
    exact ⟨rfl, N0, eF⟩
set_option maxRecDepth 65536 in
set_option maxHeartbeats 40000000 in
theorem rmToS_13 (l : Launch) (Z : State) (a0 : Array Value) (hw : ∀ d ∈ tables_1, d.before a0 Z = true) (ws : List Jvm.Cond) (n0 : Nat) (h0 : Heap) (O : Old Z n0 h0) (i_COMPACT_STRINGS : Int32) (w_instance : Addr) (w_A : Addr) (W : OwW Z i_COMPACT_STRINGS w_instance w_A) (a : Addr) :
    OwCon l (⟨"java/lang/String", "toString", "()Ljava/lang/String;"⟩ : MethodName) jdk_42_method_126_code 1 (some (.object "java/lang/String")) ws ({ frames := 0, cells := 0, slots := 0, locals := 0 } : Room) #[(.ref a)] Z h0 (OwQ (some (.ref a)) h0 n0) := by
  refine MetFree.of_bodySF (plainFor_of_name owpn18) hisR ?_
  intro p e s m args below meth c s₁ Bd hml0 hP hK
  obtain ⟨rfl, hZ, hh⟩ := hP
  have hx := Bd.exec
  have hby := Bd.bytes
  have hml : c.maxLocals = 1 := hml0
  have hown : s.vm.findClass "java/lang/String" = some m.cls := findClass_of_methodNamed Bd.named
  have hnm := (name_of_methodNamed Bd.named Bd.method).1
  have X0 : Stand p l e ({ frames := 0, cells := 0, slots := 0, locals := 0 } : Room) s m #[(.ref a)] below meth c s₁ [] 0 0 := Stand.of_body Bd
  have e0 : s₁.heap = h0 := by rw [← hh, Bd.state]; rfl
  have N0 := Fr.nil n0
  have WW := W
  obtain ⟨nz_i_COMPACT_STRINGS, E_w_instance, E_w_A, S_String_COMPACT_STRINGS, S_CharacterDataLatin1_instance, S_CharacterDataLatin1_A, Ta, -⟩ := WW
  have ef : entryFrame m #[(.ref a)] 1 = mkF m 0 #[.val (.ref a)] [] := by first | (simp [entryFrame, mkF, argsToLocals, Value.category]; done) | rfl
  have pre0 : ∀ t, Steps p.tables e below (s₁.setTop (mkF m 0 #[.val (.ref a)] [])) t → Steps p.tables e below (s₁.setTop (entryFrame m #[(.ref a)] 1)) t := fun t k => castTop ef k
  obtain ⟨fs, hr, hrun, hended, hW, hsame⟩ := X0.leave (v := some (.ref a)) (fun h => by rw [Bd.returns] at h; cases h)
  refine ⟨_, _, pre0 _ ?_, hrun, hended, _, _, rfl, ?_, ⟨_, rfl⟩, hW, hsame.mono (by decide) (by decide)⟩
  · show Steps p.tables e below (s₁.setTop (mkF m 0 #[.val (.ref a)] [])) _
    refine XS.aloadN X0.here hx rfl (hb hby d18_0) rfl rfl ?_
    show Steps p.tables e below (s₁.setTop (mkF m 1 #[.val (.ref a)] [(.ref a)])) _
    exact retOut X0 hx Bd.returns rfl (Or.inr (Or.inr (Or.inr (Or.inr ⟨rfl, rfl, rfl⟩)))) (hb hby d18_1) hr
  · have eF : (s₁.setFrames fs).heap = h0 := e0
    exact ⟨rfl, N0, eF⟩
set_option maxRecDepth 65536 in
set_option maxHeartbeats 40000000 in
theorem rmGetC (l : Launch) (Z : State) (a0 : Array Value) (hw : ∀ d ∈ tables_1, d.before a0 Z = true) (ws : List Jvm.Cond) (n0 : Nat) (h0 : Heap) (O : Old Z n0 h0) (i_COMPACT_STRINGS : Int32) (w_instance : Addr) (w_A : Addr) (W : OwW Z i_COMPACT_STRINGS w_instance w_A) (b : Addr) (k : ClassId) (Va : Arv Z h0 b k .byte (4 : Int32) [(.int (53 : Int32)), (.int (46 : Int32)), (.int (48 : Int32)), (.int (51 : Int32))] (.int 0)) :
    OwCon l (⟨"java/lang/StringLatin1", "getChar", "([BI)C"⟩ : MethodName) jdk_43_method_44_code 2 (some .char) ws ({ frames := 0, cells := 0, slots := 0, locals := 0 } : Room) #[(.ref b), (.int (0 : Int32))] Z h0 (OwQ (some (.int (53 : Int32))) h0 n0) := by
  refine MetFree.of_bodySF (plainFor_of_name owpn12) hisR ?_
  intro p e s m args below meth c s₁ Bd hml0 hP hK
  obtain ⟨rfl, hZ, hh⟩ := hP
  have hx := Bd.exec
  have hby := Bd.bytes
  have hml : c.maxLocals = 2 := hml0
  have hown : s.vm.findClass "java/lang/StringLatin1" = some m.cls := findClass_of_methodNamed Bd.named
  have hnm := (name_of_methodNamed Bd.named Bd.method).1
  have X0 : Stand p l e ({ frames := 0, cells := 0, slots := 0, locals := 0 } : Room) s m #[(.ref b), (.int (0 : Int32))] below meth c s₁ [] 0 0 := Stand.of_body Bd
  have e0 : s₁.heap = h0 := by rw [← hh, Bd.state]; rfl
  have N0 := Fr.nil n0
  have WW := W
  obtain ⟨nz_i_COMPACT_STRINGS, E_w_instance, E_w_A, S_String_COMPACT_STRINGS, S_CharacterDataLatin1_instance, S_CharacterDataLatin1_A, Ta, -⟩ := WW
  have ef : entryFrame m #[(.ref b), (.int (0 : Int32))] 2 = mkF m 0 #[.val (.ref b), .val (.int (0 : Int32))] [] := by first | (simp [entryFrame, mkF, argsToLocals, Value.category]; done) | rfl
  have pre0 : ∀ t, Steps p.tables e below (s₁.setTop (mkF m 0 #[.val (.ref b), .val (.int (0 : Int32))] [])) t → Steps p.tables e below (s₁.setTop (entryFrame m #[(.ref b), (.int (0 : Int32))] 2)) t := fun t k => castTop ef k
  obtain ⟨cl1, Ar1, q1, Sz1, Nn1, Hs1, -⟩ := id Va
  have hin1 : ¬ ((0 : Int32) < 0 ∨ cl1.slots.size ≤ ((0 : Int32)).toNatClampNeg) := inb_of Sz1 ⟨by decide, by decide⟩
  have hat1 : cl1.slots[((0 : Int32)).toNatClampNeg]? = some (.int (53 : Int32)) := Has.at Hs1 hin1 rfl
  obtain ⟨fs, hr, hrun, hended, hW, hsame⟩ := X0.leave (v := some (.int (53 : Int32))) (fun h => by rw [Bd.returns] at h; cases h)
  refine ⟨_, _, pre0 _ ?_, hrun, hended, _, _, rfl, ?_, ⟨_, rfl⟩, hW, hsame.mono (by decide) (by decide)⟩
  · show Steps p.tables e below (s₁.setTop (mkF m 0 #[.val (.ref b), .val (.int (0 : Int32))] [])) _
    refine XS.aloadN X0.here hx rfl (hb hby d12_0) rfl rfl ?_
    show Steps p.tables e below (s₁.setTop (mkF m 1 #[.val (.ref b), .val (.int (0 : Int32))] [(.ref b)])) _
    refine XS.iloadN X0.here hx rfl (hb hby d12_1) rfl ?_
    show Steps p.tables e below (s₁.setTop (mkF m 2 #[.val (.ref b), .val (.int (0 : Int32))] [(.int (0 : Int32)), (.ref b)])) _
    refine X0.baloadBytes hx (j := (0 : Int32)) (v := (.int (53 : Int32))) (by rw [e0]; exact Ar1.1) (State.isArrayOf_alike hZ.alike Ar1.2.1) Ar1.2.2 hin1 hat1 (g := (mkF m 2 #[.val (.ref b), .val (.int (0 : Int32))] [(.int (0 : Int32)), (.ref b)])) rfl rfl (hb hby d12_2) _ ?_
    show Steps p.tables e below (s₁.setTop (mkF m 3 #[.val (.ref b), .val (.int (0 : Int32))] [(.int (53 : Int32))])) _
    refine XS.sipush X0.here hx rfl (hb hby d12_3) ?_
    show Steps p.tables e below (s₁.setTop (mkF m 6 #[.val (.ref b), .val (.int (0 : Int32))] [(.int (255 : Int32)), (.int (53 : Int32))])) _
    refine XS.iand X0.here hx rfl (hb hby d12_6) rfl ?_
    show Steps p.tables e below (s₁.setTop (mkF m 7 #[.val (.ref b), .val (.int (0 : Int32))] [(.int (53 : Int32))])) _
    refine XS.i2c X0.here hx rfl (hb hby d12_7) rfl ?_
    show Steps p.tables e below (s₁.setTop (mkF m 8 #[.val (.ref b), .val (.int (0 : Int32))] [(.int (53 : Int32))])) _
    exact retN X0 hx (t := .char) Bd.returns (by simp) (hb hby d12_8) hr
  · have eF : (s₁.setFrames fs).heap = h0 := e0
    exact ⟨rfl, N0, eF⟩
set_option maxRecDepth 65536 in
set_option maxHeartbeats 40000000 in
theorem rmProp (l : Launch) (Z : State) (a0 : Array Value) (hw : ∀ d ∈ tables_1, d.before a0 Z = true) (ws : List Jvm.Cond) (n0 : Nat) (h0 : Heap) (O : Old Z n0 h0) (i_COMPACT_STRINGS : Int32) (w_instance : Addr) (w_A : Addr) (W : OwW Z i_COMPACT_STRINGS w_instance w_A) (a : Addr) :
    OwCon l (⟨"java/lang/CharacterDataLatin1", "getProperties", "(I)I"⟩ : MethodName) jdk_116_method_1_code 4 (some .int) ws ({ frames := 0, cells := 0, slots := 0, locals := 0 } : Room) #[(.ref a), (.int (53 : Int32))] Z h0 (OwQ (some (.int (402667017 : Int32))) h0 n0) := by
  refine MetFree.of_bodySF (plainFor_of_name owpn14) hisR ?_
  intro p e s m args below meth c s₁ Bd hml0 hP hK
  obtain ⟨rfl, hZ, hh⟩ := hP
  have hx := Bd.exec
  have hby := Bd.bytes
  have hml : c.maxLocals = 4 := hml0
  have hown : s.vm.findClass "java/lang/CharacterDataLatin1" = some m.cls := findClass_of_methodNamed Bd.named
  have hnm := (name_of_methodNamed Bd.named Bd.method).1
  have X0 : Stand p l e ({ frames := 0, cells := 0, slots := 0, locals := 0 } : Room) s m #[(.ref a), (.int (53 : Int32))] below meth c s₁ [] 0 0 := Stand.of_body Bd
  have e0 : s₁.heap = h0 := by rw [← hh, Bd.state]; rfl
  have N0 := Fr.nil n0
  have WW := W
  obtain ⟨nz_i_COMPACT_STRINGS, E_w_instance, E_w_A, S_String_COMPACT_STRINGS, S_CharacterDataLatin1_instance, S_CharacterDataLatin1_A, Ta, -⟩ := WW
  have ef : entryFrame m #[(.ref a), (.int (53 : Int32))] 4 = mkF m 0 #[.val (.ref a), .val (.int (53 : Int32)), .unset, .unset] [] := by first | (simp [entryFrame, mkF, argsToLocals, Value.category]; done) | rfl
  have pre0 : ∀ t, Steps p.tables e below (s₁.setTop (mkF m 0 #[.val (.ref a), .val (.int (53 : Int32)), .unset, .unset] [])) t → Steps p.tables e below (s₁.setTop (entryFrame m #[(.ref a), (.int (53 : Int32))] 4)) t := fun t k => castTop ef k
  obtain ⟨T1, X1, e1, st1⟩ := getS2 X0 hx hZ hown (host := "") (Or.inl (hw _ (List.mem_of_getElem? (i := 86) rfl))) Via.refl e0 (S_CharacterDataLatin1_A.ext O.2) (g := (mkF m 3 #[.val (.ref a), .val (.int (53 : Int32)), .val (.int (53 : Int32)), .unset] [])) rfl (hb hby d14_3)
  obtain ⟨clT, ArT0, SzT, hatT⟩ := id Ta
  have ArT := ArT0.ext O.2
  have hinT : ¬ ((53 : Int32) < 0 ∨ clT.slots.size ≤ ((53 : Int32)).toNatClampNeg) := by rw [SzT]; decide
  obtain ⟨fs, hr, hrun, hended, hW, hsame⟩ := X1.leave (v := some (.int (402667017 : Int32))) (fun h => by rw [Bd.returns] at h; cases h)
  refine ⟨_, _, pre0 _ ?_, hrun, hended, _, _, rfl, ?_, ⟨_, rfl⟩, hW, hsame.mono (by decide) (by decide)⟩
  · show Steps p.tables e below (s₁.setTop (mkF m 0 #[.val (.ref a), .val (.int (53 : Int32)), .unset, .unset] [])) _
    refine XS.iloadN X0.here hx rfl (hb hby d14_0) rfl ?_
    show Steps p.tables e below (s₁.setTop (mkF m 1 #[.val (.ref a), .val (.int (53 : Int32)), .unset, .unset] [(.int (53 : Int32))])) _
    refine XS.i2c X0.here hx rfl (hb hby d14_1) rfl ?_
    show Steps p.tables e below (s₁.setTop (mkF m 2 #[.val (.ref a), .val (.int (53 : Int32)), .unset, .unset] [(.int (53 : Int32))])) _
    refine XS.istoreN X0.here hx rfl (hb hby d14_2) rfl (l' := #[.val (.ref a), .val (.int (53 : Int32)), .val (.int (53 : Int32)), .unset]) rfl ?_
    show Steps p.tables e below (s₁.setTop (mkF m 3 #[.val (.ref a), .val (.int (53 : Int32)), .val (.int (53 : Int32)), .unset] [])) _
    refine st1 _ ?_
    show Steps p.tables e below (T1.setTop (mkF m 6 #[.val (.ref a), .val (.int (53 : Int32)), .val (.int (53 : Int32)), .unset] [(.ref w_A)])) _
    refine XS.iloadN X1.here hx rfl (hb hby d14_6) rfl ?_
    show Steps p.tables e below (T1.setTop (mkF m 7 #[.val (.ref a), .val (.int (53 : Int32)), .val (.int (53 : Int32)), .unset] [(.int (53 : Int32)), (.ref w_A)])) _
    refine X1.iaload hx (j := (53 : Int32)) (v := (.int (402667017 : Int32))) (by rw [e1]; exact ArT.1) (State.isArrayOf_alike hZ.alike ArT.2.1) ArT.2.2 hinT hatT (g := (mkF m 7 #[.val (.ref a), .val (.int (53 : Int32)), .val (.int (53 : Int32)), .unset] [(.int (53 : Int32)), (.ref w_A)])) rfl rfl (hb hby d14_7) _ ?_
    show Steps p.tables e below (T1.setTop (mkF m 8 #[.val (.ref a), .val (.int (53 : Int32)), .val (.int (53 : Int32)), .unset] [(.int (402667017 : Int32))])) _
    refine XS.istoreN X1.here hx rfl (hb hby d14_8) rfl (l' := #[.val (.ref a), .val (.int (53 : Int32)), .val (.int (53 : Int32)), .val (.int (402667017 : Int32))]) rfl ?_
    show Steps p.tables e below (T1.setTop (mkF m 9 #[.val (.ref a), .val (.int (53 : Int32)), .val (.int (53 : Int32)), .val (.int (402667017 : Int32))] [])) _
    refine XS.iloadN X1.here hx rfl (hb hby d14_9) rfl ?_
    show Steps p.tables e below (T1.setTop (mkF m 10 #[.val (.ref a), .val (.int (53 : Int32)), .val (.int (53 : Int32)), .val (.int (402667017 : Int32))] [(.int (402667017 : Int32))])) _
    exact retI X1 hx Bd.returns (hb hby d14_10) hr
  · have eF : (T1.setFrames fs).heap = h0 := e1
    exact ⟨rfl, N0, eF⟩
set_option maxRecDepth 65536 in
set_option maxHeartbeats 40000000 in
theorem rmWs (l : Launch) (Z : State) (a0 : Array Value) (hw : ∀ d ∈ tables_1, d.before a0 Z = true) (ws : List Jvm.Cond) (n0 : Nat) (h0 : Heap) (O : Old Z n0 h0) (i_COMPACT_STRINGS : Int32) (w_instance : Addr) (w_A : Addr) (W : OwW Z i_COMPACT_STRINGS w_instance w_A) (a : Addr) (Ea : Exa Z h0 a "java/lang/CharacterDataLatin1") :
    OwCon l (⟨"java/lang/CharacterDataLatin1", "isWhitespace", "(I)Z"⟩ : MethodName) jdk_116_method_26_code 3 (some .boolean) ws ({ frames := 1, cells := 0, slots := 0, locals := 15 } : Room) #[(.ref a), (.int (53 : Int32))] Z h0 (OwQ (some (.int (0 : Int32))) h0 n0) := by
  refine MetFree.of_bodySF (plainFor_of_name owpn13) hisR ?_
  intro p e s m args below meth c s₁ Bd hml0 hP hK
  obtain ⟨rfl, hZ, hh⟩ := hP
  have hx := Bd.exec
  have hby := Bd.bytes
  have hml : c.maxLocals = 3 := hml0
  have hown : s.vm.findClass "java/lang/CharacterDataLatin1" = some m.cls := findClass_of_methodNamed Bd.named
  have hnm := (name_of_methodNamed Bd.named Bd.method).1
  have X0 : Stand p l e ({ frames := 1, cells := 0, slots := 0, locals := 15 } : Room) s m #[(.ref a), (.int (53 : Int32))] below meth c s₁ [] 0 0 := Stand.of_body Bd
  have e0 : s₁.heap = h0 := by rw [← hh, Bd.state]; rfl
  have N0 := Fr.nil n0
  have WW := W
  obtain ⟨nz_i_COMPACT_STRINGS, E_w_instance, E_w_A, S_String_COMPACT_STRINGS, S_CharacterDataLatin1_instance, S_CharacterDataLatin1_A, Ta, -⟩ := WW
  have ef : entryFrame m #[(.ref a), (.int (53 : Int32))] 3 = mkF m 0 #[.val (.ref a), .val (.int (53 : Int32)), .unset] [] := by first | (simp [entryFrame, mkF, argsToLocals, Value.category]; done) | rfl
  have pre0 : ∀ t, Steps p.tables e below (s₁.setTop (mkF m 0 #[.val (.ref a), .val (.int (53 : Int32)), .unset] [])) t → Steps p.tables e below (s₁.setTop (entryFrame m #[(.ref a), (.int (53 : Int32))] 3)) t := fun t k => castTop ef k
  obtain ⟨cq1, kq1, q1a, q1b, q1c⟩ := isOf hZ e0 Ea
  obtain ⟨_, _, ⟨T1, L1, k1, n1⟩, -, X1, ⟨Lc1, hQ1, l1, y1, z1⟩, st1⟩ := X0.virtualBack hx (y := (⟨"java/lang/CharacterDataLatin1", "getProperties", "(I)I"⟩ : MethodName)) (z := (⟨"java/lang/CharacterDataLatin1", "getProperties", "(I)I"⟩ : MethodName)) hown (mvT hZ (hw _ (List.mem_of_getElem? (i := 81) rfl))) (mvT hZ (hw _ (List.mem_of_getElem? (i := 82) rfl))) (notFace_of_selects (args := #[]) (mvT hZ (hw _ (List.mem_of_getElem? (i := 84) rfl)))) (mvT hZ (hw _ (List.mem_of_getElem? (i := 84) rfl))) (mvT hZ (hw _ (List.mem_of_getElem? (i := 83) rfl))) (by decide) (backOf (W := 0) (rmProp l Z a0 hw [] n0 h0 O i_COMPACT_STRINGS w_instance w_A W a) hZ (hw _ (List.mem_of_getElem? (i := 85) rfl)) (hw _ (List.mem_of_getElem? (i := 75) rfl)) (by decide) (by decide)) q1a q1c (g := (mkF m 2 #[.val (.ref a), .val (.int (53 : Int32)), .unset] [(.int (53 : Int32)), (.ref a)])) rfl (by rw [hml]; rfl) (Steps.refl _) (argsL := [(.int (53 : Int32))]) (rest := []) (lenOf owpd2 rfl) rfl (by show 2 * 0 + _ ≤ _; exact Nat.le_of_eq rfl) (hb hby d13_2) (fun _ _ => ⟨rfl, e0, (by decide : 0 + 0 ≤ _), (by decide : 0 + 0 ≤ _)⟩)
  dsimp only [Pt.U, Pt.locs, Pt.cells, Pt.slots] at X1 l1 y1 z1 st1 hQ1
  subst l1 y1 z1
  obtain ⟨rfl, Nq1, e1⟩ := hQ1
  have N1 := Fr.app N0 Nq1
  obtain ⟨fs, hr, hrun, hended, hW, hsame⟩ := X1.leave (v := some (.int (0 : Int32))) (fun h => by rw [Bd.returns] at h; cases h)
  refine ⟨_, _, pre0 _ ?_, hrun, hended, _, _, rfl, ?_, ⟨_, rfl⟩, hW, hsame.mono (by decide) (by decide)⟩
  · show Steps p.tables e below (s₁.setTop (mkF m 0 #[.val (.ref a), .val (.int (53 : Int32)), .unset] [])) _
    refine XS.aloadN X0.here hx rfl (hb hby d13_0) rfl rfl ?_
    show Steps p.tables e below (s₁.setTop (mkF m 1 #[.val (.ref a), .val (.int (53 : Int32)), .unset] [(.ref a)])) _
    refine XS.iloadN X0.here hx rfl (hb hby d13_1) rfl ?_
    show Steps p.tables e below (s₁.setTop (mkF m 2 #[.val (.ref a), .val (.int (53 : Int32)), .unset] [(.int (53 : Int32)), (.ref a)])) _
    refine st1.trans ?_
    show Steps p.tables e below (T1.setTop (mkF m 5 #[.val (.ref a), .val (.int (53 : Int32)), .unset] [(.int (402667017 : Int32))])) _
    refine XS.istoreN X1.here hx rfl (hb hby d13_5) rfl (l' := #[.val (.ref a), .val (.int (53 : Int32)), .val (.int (402667017 : Int32))]) rfl ?_
    show Steps p.tables e below (T1.setTop (mkF m 6 #[.val (.ref a), .val (.int (53 : Int32)), .val (.int (402667017 : Int32))] [])) _
    refine XS.iloadN X1.here hx rfl (hb hby d13_6) rfl ?_
    show Steps p.tables e below (T1.setTop (mkF m 7 #[.val (.ref a), .val (.int (53 : Int32)), .val (.int (402667017 : Int32))] [(.int (402667017 : Int32))])) _
    refine XS.sipush X1.here hx rfl (hb hby d13_7) ?_
    show Steps p.tables e below (T1.setTop (mkF m 10 #[.val (.ref a), .val (.int (53 : Int32)), .val (.int (402667017 : Int32))] [(.int (28672 : Int32)), (.int (402667017 : Int32))])) _
    refine XS.iand X1.here hx rfl (hb hby d13_10) rfl ?_
    show Steps p.tables e below (T1.setTop (mkF m 11 #[.val (.ref a), .val (.int (53 : Int32)), .val (.int (402667017 : Int32))] [(.int (12288 : Int32))])) _
    refine XS.sipush X1.here hx rfl (hb hby d13_11) ?_
    show Steps p.tables e below (T1.setTop (mkF m 14 #[.val (.ref a), .val (.int (53 : Int32)), .val (.int (402667017 : Int32))] [(.int (16384 : Int32)), (.int (12288 : Int32))])) _
    refine XS.icmpYes X1.here hx rfl (pc0 := 14) (pc' := 21) rfl (hb hby d13_14) rfl (feq (by decide : ¬ ((12288 : Int32) = (16384 : Int32)))).2 (by decide) (by decide) ?_
    show Steps p.tables e below (T1.setTop (mkF m 21 #[.val (.ref a), .val (.int (53 : Int32)), .val (.int (402667017 : Int32))] [])) _
    refine XS.iconst X1.here hx rfl (hb hby d13_21) ?_
    show Steps p.tables e below (T1.setTop (mkF m 22 #[.val (.ref a), .val (.int (53 : Int32)), .val (.int (402667017 : Int32))] [(.int (0 : Int32))])) _
    exact retN X1 hx (t := .boolean) Bd.returns (by simp) (hb hby d13_22) hr
  · have eF : (T1.setFrames fs).heap = h0 := e1
    exact ⟨rfl, N1, eF⟩
set_option maxRecDepth 65536 in
set_option maxHeartbeats 40000000 in
theorem rmNw1 (l : Launch) (Z : State) (a0 : Array Value) (hw : ∀ d ∈ tables_1, d.before a0 Z = true) (ws : List Jvm.Cond) (n0 : Nat) (h0 : Heap) (O : Old Z n0 h0) (i_COMPACT_STRINGS : Int32) (w_instance : Addr) (w_A : Addr) (W : OwW Z i_COMPACT_STRINGS w_instance w_A) (b : Addr) (k : ClassId) (Va : Arv Z h0 b k .byte (4 : Int32) [(.int (53 : Int32)), (.int (46 : Int32)), (.int (48 : Int32)), (.int (51 : Int32))] (.int 0)) :
    OwCon l (⟨"java/lang/StringLatin1", "indexOfNonWhitespace", "([B)I"⟩ : MethodName) jdk_43_method_37_code 4 (some .int) ws ({ frames := 2, cells := 0, slots := 0, locals := 29 } : Room) #[(.ref b)] Z h0 (OwQ (some (.int (0 : Int32))) h0 n0) := by
  refine MetFree.of_bodySF (plainFor_of_name owpn11) hisR ?_
  intro p e s m args below meth c s₁ Bd hml0 hP hK
  obtain ⟨rfl, hZ, hh⟩ := hP
  have hx := Bd.exec
  have hby := Bd.bytes
  have hml : c.maxLocals = 4 := hml0
  have hown : s.vm.findClass "java/lang/StringLatin1" = some m.cls := findClass_of_methodNamed Bd.named
  have hnm := (name_of_methodNamed Bd.named Bd.method).1
  have X0 : Stand p l e ({ frames := 2, cells := 0, slots := 0, locals := 29 } : Room) s m #[(.ref b)] below meth c s₁ [] 0 0 := Stand.of_body Bd
  have e0 : s₁.heap = h0 := by rw [← hh, Bd.state]; rfl
  have N0 := Fr.nil n0
  have WW := W
  obtain ⟨nz_i_COMPACT_STRINGS, E_w_instance, E_w_A, S_String_COMPACT_STRINGS, S_CharacterDataLatin1_instance, S_CharacterDataLatin1_A, Ta, -⟩ := WW
  have ef : entryFrame m #[(.ref b)] 4 = mkF m 0 #[.val (.ref b), .unset, .unset, .unset] [] := by first | (simp [entryFrame, mkF, argsToLocals, Value.category]; done) | rfl
  have pre0 : ∀ t, Steps p.tables e below (s₁.setTop (mkF m 0 #[.val (.ref b), .unset, .unset, .unset] [])) t → Steps p.tables e below (s₁.setTop (entryFrame m #[(.ref b)] 4)) t := fun t k => castTop ef k
  obtain ⟨cl1, Ar1, q1, Sz1, Nn1, Hs1, -⟩ := id Va
  obtain ⟨_, _, ⟨T2, L2, k2, n2⟩, -, X2, ⟨Lc2, hQ2, l2, y2, z2⟩, st2⟩ := Jvm.LawKit.callS X0 hx (y := (⟨"java/lang/StringLatin1", "getChar", "([BI)C"⟩ : MethodName)) hown (mvT hZ (hw _ (List.mem_of_getElem? (i := 71) rfl))) (mvT hZ (hw _ (List.mem_of_getElem? (i := 72) rfl))) (mvT hZ (hw _ (List.mem_of_getElem? (i := 69) rfl))) (mvT hZ (hw _ (List.mem_of_getElem? (i := 73) rfl))) (by decide) (backOf (W := 0) (rmGetC l Z a0 hw [] n0 h0 O i_COMPACT_STRINGS w_instance w_A W b k Va) hZ (hw _ (List.mem_of_getElem? (i := 73) rfl)) (hw _ (List.mem_of_getElem? (i := 69) rfl)) (by decide) (by decide)) (g := (mkF m 12 #[.val (.ref b), .val (.int (4 : Int32)), .val (.int (0 : Int32)), .unset] [(.int (0 : Int32)), (.ref b)])) rfl (by rw [hml]; rfl) (argsL := [(.ref b), (.int (0 : Int32))]) (rest := []) (lenOf owpd3 rfl) rfl (by show 2 * 0 + _ ≤ _; exact Nat.le_of_eq rfl) (hb hby d11_12) (fun _ _ => ⟨rfl, e0, (by decide : 0 + 0 ≤ _), (by decide : 0 + 0 ≤ _)⟩)
  dsimp only [Pt.U, Pt.locs, Pt.cells, Pt.slots] at X2 l2 y2 z2 st2 hQ2
  subst l2 y2 z2
  obtain ⟨rfl, Nq2, e2⟩ := hQ2
  have N2 := Fr.app N0 Nq2
  obtain ⟨T3, X3, e3, st3⟩ := getS2 X2 hx hZ hown (host := "") (Or.inl (hw _ (List.mem_of_getElem? (i := 74) rfl))) Via.refl e2 (S_CharacterDataLatin1_instance.ext O.2) (g := (mkF m 28 #[.val (.ref b), .val (.int (4 : Int32)), .val (.int (0 : Int32)), .val (.int (53 : Int32))] [])) rfl (hb hby d11_28)
  obtain ⟨cq4, kq4, q4a, q4b, q4c⟩ := isOf hZ e3 (E_w_instance.ext O.2)
  obtain ⟨_, _, ⟨T4, L4, k4, n4⟩, -, X4, ⟨Lc4, hQ4, l4, y4, z4⟩, st4⟩ := X3.virtualBack hx (y := (⟨"java/lang/CharacterDataLatin1", "isWhitespace", "(I)Z"⟩ : MethodName)) (z := (⟨"java/lang/CharacterDataLatin1", "isWhitespace", "(I)Z"⟩ : MethodName)) hown (mvT hZ (hw _ (List.mem_of_getElem? (i := 76) rfl))) (mvT hZ (hw _ (List.mem_of_getElem? (i := 77) rfl))) (notFace_of_selects (args := #[]) (mvT hZ (hw _ (List.mem_of_getElem? (i := 79) rfl)))) (mvT hZ (hw _ (List.mem_of_getElem? (i := 79) rfl))) (mvT hZ (hw _ (List.mem_of_getElem? (i := 78) rfl))) (by decide) (backOf (W := 0) (rmWs l Z a0 hw [] n0 h0 O i_COMPACT_STRINGS w_instance w_A W w_instance (E_w_instance.ext O.2)) hZ (hw _ (List.mem_of_getElem? (i := 80) rfl)) (hw _ (List.mem_of_getElem? (i := 75) rfl)) (by decide) (by decide)) q4a q4c (g := (mkF m 32 #[.val (.ref b), .val (.int (4 : Int32)), .val (.int (0 : Int32)), .val (.int (53 : Int32))] [(.int (53 : Int32)), (.ref w_instance)])) rfl (by rw [hml]; rfl) (Steps.refl _) (argsL := [(.int (53 : Int32))]) (rest := []) (lenOf owpd4 rfl) rfl (by show 2 * 0 + _ ≤ _; exact Nat.le_of_eq rfl) (hb hby d11_32) (fun _ _ => ⟨rfl, e3, (by decide : 0 + 0 ≤ _), (by decide : 0 + 0 ≤ _)⟩)
  dsimp only [Pt.U, Pt.locs, Pt.cells, Pt.slots] at X4 l4 y4 z4 st4 hQ4
  subst l4 y4 z4
  obtain ⟨rfl, Nq4, e4⟩ := hQ4
  have N4 := Fr.app N2 Nq4
  obtain ⟨fs, hr, hrun, hended, hW, hsame⟩ := X4.leave (v := some (.int (0 : Int32))) (fun h => by rw [Bd.returns] at h; cases h)
  refine ⟨_, _, pre0 _ ?_, hrun, hended, _, _, rfl, ?_, ⟨_, rfl⟩, hW, hsame.mono (by decide) (by decide)⟩
  · show Steps p.tables e below (s₁.setTop (mkF m 0 #[.val (.ref b), .unset, .unset, .unset] [])) _
    refine XS.aloadN X0.here hx rfl (hb hby d11_0) rfl rfl ?_
    show Steps p.tables e below (s₁.setTop (mkF m 1 #[.val (.ref b), .unset, .unset, .unset] [(.ref b)])) _
    refine X0.arraylength hx (by rw [e0]; exact Ar1.1) (State.isArrayOf_alike hZ.alike Ar1.2.1) (g := (mkF m 1 #[.val (.ref b), .unset, .unset, .unset] [(.ref b)])) rfl rfl (hb hby d11_1) _ ?_
    rw [len_of Sz1 Nn1]
    show Steps p.tables e below (s₁.setTop (mkF m 2 #[.val (.ref b), .unset, .unset, .unset] [(.int (4 : Int32))])) _
    refine XS.istoreN X0.here hx rfl (hb hby d11_2) rfl (l' := #[.val (.ref b), .val (.int (4 : Int32)), .unset, .unset]) rfl ?_
    show Steps p.tables e below (s₁.setTop (mkF m 3 #[.val (.ref b), .val (.int (4 : Int32)), .unset, .unset] [])) _
    refine XS.iconst X0.here hx rfl (hb hby d11_3) ?_
    show Steps p.tables e below (s₁.setTop (mkF m 4 #[.val (.ref b), .val (.int (4 : Int32)), .unset, .unset] [(.int (0 : Int32))])) _
    refine XS.istoreN X0.here hx rfl (hb hby d11_4) rfl (l' := #[.val (.ref b), .val (.int (4 : Int32)), .val (.int (0 : Int32)), .unset]) rfl ?_
    show Steps p.tables e below (s₁.setTop (mkF m 5 #[.val (.ref b), .val (.int (4 : Int32)), .val (.int (0 : Int32)), .unset] [])) _
    refine XS.iloadN X0.here hx rfl (hb hby d11_5) rfl ?_
    show Steps p.tables e below (s₁.setTop (mkF m 6 #[.val (.ref b), .val (.int (4 : Int32)), .val (.int (0 : Int32)), .unset] [(.int (0 : Int32))])) _
    refine XS.iloadN X0.here hx rfl (hb hby d11_6) rfl ?_
    show Steps p.tables e below (s₁.setTop (mkF m 7 #[.val (.ref b), .val (.int (4 : Int32)), .val (.int (0 : Int32)), .unset] [(.int (4 : Int32)), (.int (0 : Int32))])) _
    refine XS.icmpNo X0.here hx rfl (hb hby d11_7) rfl (tlt (by decide : (0 : Int32) < (4 : Int32))).2.1 ?_
    show Steps p.tables e below (s₁.setTop (mkF m 10 #[.val (.ref b), .val (.int (4 : Int32)), .val (.int (0 : Int32)), .unset] [])) _
    refine XS.aloadN X0.here hx rfl (hb hby d11_10) rfl rfl ?_
    show Steps p.tables e below (s₁.setTop (mkF m 11 #[.val (.ref b), .val (.int (4 : Int32)), .val (.int (0 : Int32)), .unset] [(.ref b)])) _
    refine XS.iloadN X0.here hx rfl (hb hby d11_11) rfl ?_
    show Steps p.tables e below (s₁.setTop (mkF m 12 #[.val (.ref b), .val (.int (4 : Int32)), .val (.int (0 : Int32)), .unset] [(.int (0 : Int32)), (.ref b)])) _
    refine st2 _ ?_
    show Steps p.tables e below (T2.setTop (mkF m 15 #[.val (.ref b), .val (.int (4 : Int32)), .val (.int (0 : Int32)), .unset] [(.int (53 : Int32))])) _
    refine XS.istoreN X2.here hx rfl (hb hby d11_15) rfl (l' := #[.val (.ref b), .val (.int (4 : Int32)), .val (.int (0 : Int32)), .val (.int (53 : Int32))]) rfl ?_
    show Steps p.tables e below (T2.setTop (mkF m 16 #[.val (.ref b), .val (.int (4 : Int32)), .val (.int (0 : Int32)), .val (.int (53 : Int32))] [])) _
    refine XS.iloadN X2.here hx rfl (hb hby d11_16) rfl ?_
    show Steps p.tables e below (T2.setTop (mkF m 17 #[.val (.ref b), .val (.int (4 : Int32)), .val (.int (0 : Int32)), .val (.int (53 : Int32))] [(.int (53 : Int32))])) _
    refine XS.bipush X2.here hx rfl (hb hby d11_17) ?_
    show Steps p.tables e below (T2.setTop (mkF m 19 #[.val (.ref b), .val (.int (4 : Int32)), .val (.int (0 : Int32)), .val (.int (53 : Int32))] [(.int (32 : Int32)), (.int (53 : Int32))])) _
    refine XS.icmpNo X2.here hx rfl (hb hby d11_19) rfl (feq (by decide : ¬ ((53 : Int32) = (32 : Int32)))).1 ?_
    show Steps p.tables e below (T2.setTop (mkF m 22 #[.val (.ref b), .val (.int (4 : Int32)), .val (.int (0 : Int32)), .val (.int (53 : Int32))] [])) _
    refine XS.iloadN X2.here hx rfl (hb hby d11_22) rfl ?_
    show Steps p.tables e below (T2.setTop (mkF m 23 #[.val (.ref b), .val (.int (4 : Int32)), .val (.int (0 : Int32)), .val (.int (53 : Int32))] [(.int (53 : Int32))])) _
    refine XS.bipush X2.here hx rfl (hb hby d11_23) ?_
    show Steps p.tables e below (T2.setTop (mkF m 25 #[.val (.ref b), .val (.int (4 : Int32)), .val (.int (0 : Int32)), .val (.int (53 : Int32))] [(.int (9 : Int32)), (.int (53 : Int32))])) _
    refine XS.icmpNo X2.here hx rfl (hb hby d11_25) rfl (feq (by decide : ¬ ((53 : Int32) = (9 : Int32)))).1 ?_
    show Steps p.tables e below (T2.setTop (mkF m 28 #[.val (.ref b), .val (.int (4 : Int32)), .val (.int (0 : Int32)), .val (.int (53 : Int32))] [])) _
    refine st3 _ ?_
    show Steps p.tables e below (T3.setTop (mkF m 31 #[.val (.ref b), .val (.int (4 : Int32)), .val (.int (0 : Int32)), .val (.int (53 : Int32))] [(.ref w_instance)])) _
    refine XS.iloadN X3.here hx rfl (hb hby d11_31) rfl ?_
    show Steps p.tables e below (T3.setTop (mkF m 32 #[.val (.ref b), .val (.int (4 : Int32)), .val (.int (0 : Int32)), .val (.int (53 : Int32))] [(.int (53 : Int32)), (.ref w_instance)])) _
    refine st4.trans ?_
    show Steps p.tables e below (T4.setTop (mkF m 35 #[.val (.ref b), .val (.int (4 : Int32)), .val (.int (0 : Int32)), .val (.int (53 : Int32))] [(.int (0 : Int32))])) _
    refine XS.ifNo X4.here hx rfl (hb hby d11_35) rfl ((if0 _ _).trans (teq (by decide : (0 : Int32) = (0 : Int32))).2) ?_
    show Steps p.tables e below (T4.setTop (mkF m 38 #[.val (.ref b), .val (.int (4 : Int32)), .val (.int (0 : Int32)), .val (.int (53 : Int32))] [])) _
    refine XS.goto X4.here hx rfl (pc0 := 38) (pc' := 47) rfl (hb hby d11_38) (by decide) (by decide) ?_
    show Steps p.tables e below (T4.setTop (mkF m 47 #[.val (.ref b), .val (.int (4 : Int32)), .val (.int (0 : Int32)), .val (.int (53 : Int32))] [])) _
    refine XS.iloadN X4.here hx rfl (hb hby d11_47) rfl ?_
    show Steps p.tables e below (T4.setTop (mkF m 48 #[.val (.ref b), .val (.int (4 : Int32)), .val (.int (0 : Int32)), .val (.int (53 : Int32))] [(.int (0 : Int32))])) _
    exact retI X4 hx Bd.returns (hb hby d11_48) hr
  · have eF : (T4.setFrames fs).heap = h0 := e4
    exact ⟨rfl, N4, eF⟩
set_option maxRecDepth 65536 in
set_option maxHeartbeats 40000000 in
theorem rmNw (l : Launch) (Z : State) (a0 : Array Value) (hw : ∀ d ∈ tables_1, d.before a0 Z = true) (ws : List Jvm.Cond) (n0 : Nat) (h0 : Heap) (O : Old Z n0 h0) (i_COMPACT_STRINGS : Int32) (w_instance : Addr) (w_A : Addr) (W : OwW Z i_COMPACT_STRINGS w_instance w_A) (a b : Addr) (k : ClassId) (Es : Exa Z h0 a "java/lang/String") (Fc : Fld Z h0 a "java/lang/String" "coder" "B" (.int (0 : Int32))) (Fv : Fld Z h0 a "java/lang/String" "value" "[B" (.ref b)) (Va : Arv Z h0 b k .byte (4 : Int32) [(.int (53 : Int32)), (.int (46 : Int32)), (.int (48 : Int32)), (.int (51 : Int32))] (.int 0)) :
    OwCon l (⟨"java/lang/String", "indexOfNonWhitespace", "()I"⟩ : MethodName) jdk_42_method_120_code 1 (some .int) ws ({ frames := 3, cells := 0, slots := 0, locals := 44 } : Room) #[(.ref a)] Z h0 (OwQ (some (.int (0 : Int32))) h0 n0) := by
  refine MetFree.of_bodySF (plainFor_of_name owpn9) hisR ?_
  intro p e s m args below meth c s₁ Bd hml0 hP hK
  obtain ⟨rfl, hZ, hh⟩ := hP
  have hx := Bd.exec
  have hby := Bd.bytes
  have hml : c.maxLocals = 1 := hml0
  have hown : s.vm.findClass "java/lang/String" = some m.cls := findClass_of_methodNamed Bd.named
  have hnm := (name_of_methodNamed Bd.named Bd.method).1
  have X0 : Stand p l e ({ frames := 3, cells := 0, slots := 0, locals := 44 } : Room) s m #[(.ref a)] below meth c s₁ [] 0 0 := Stand.of_body Bd
  have e0 : s₁.heap = h0 := by rw [← hh, Bd.state]; rfl
  have N0 := Fr.nil n0
  have WW := W
  obtain ⟨nz_i_COMPACT_STRINGS, E_w_instance, E_w_A, S_String_COMPACT_STRINGS, S_CharacterDataLatin1_instance, S_CharacterDataLatin1_A, Ta, -⟩ := WW
  have ef : entryFrame m #[(.ref a)] 1 = mkF m 0 #[.val (.ref a)] [] := by first | (simp [entryFrame, mkF, argsToLocals, Value.category]; done) | rfl
  have pre0 : ∀ t, Steps p.tables e below (s₁.setTop (mkF m 0 #[.val (.ref a)] [])) t → Steps p.tables e below (s₁.setTop (entryFrame m #[(.ref a)] 1)) t := fun t k => castTop ef k
  obtain ⟨cq1, kq1, q1a, q1b, q1c⟩ := isOf hZ e0 Es
  obtain ⟨_, _, ⟨T1, L1, k1, n1⟩, -, X1, ⟨Lc1, hQ1, l1, y1, z1⟩, st1⟩ := X0.virtualBack hx (y := (⟨"java/lang/String", "isLatin1", "()Z"⟩ : MethodName)) (z := (⟨"java/lang/String", "isLatin1", "()Z"⟩ : MethodName)) hown (mvT hZ (hw _ (List.mem_of_getElem? (i := 59) rfl))) (mvT hZ (hw _ (List.mem_of_getElem? (i := 60) rfl))) (notFace_of_selects (args := #[]) (mvT hZ (hw _ (List.mem_of_getElem? (i := 62) rfl)))) (mvT hZ (hw _ (List.mem_of_getElem? (i := 62) rfl))) (mvT hZ (hw _ (List.mem_of_getElem? (i := 61) rfl))) (by decide) (backOf (W := 0) (rmLat_t l Z a0 hw [] n0 h0 O i_COMPACT_STRINGS w_instance w_A W a b k Es Fc Fv Va) hZ (hw _ (List.mem_of_getElem? (i := 63) rfl)) (hw _ (List.mem_of_getElem? (i := 28) rfl)) (by decide) (by decide)) q1a q1c (g := (mkF m 1 #[.val (.ref a)] [(.ref a)])) rfl (by rw [hml]; rfl) (Steps.refl _) (argsL := []) (rest := []) (lenOf owpd5 rfl) rfl (by show 2 * 0 + _ ≤ _; exact Nat.le_of_eq rfl) (hb hby d9_1) (fun _ _ => ⟨rfl, e0, (by decide : 0 + 0 ≤ _), (by decide : 0 + 0 ≤ _)⟩)
  dsimp only [Pt.U, Pt.locs, Pt.cells, Pt.slots] at X1 l1 y1 z1 st1 hQ1
  subst l1 y1 z1
  obtain ⟨rfl, Nq1, e1⟩ := hQ1
  have N1 := Fr.app N0 Nq1
  obtain ⟨T2, X2, e2, st2⟩ := getF X1 hx hZ hown (host := "") (Or.inl (hw _ (List.mem_of_getElem? (i := 66) rfl))) Via.refl e1 Fv (g := (mkF m 8 #[.val (.ref a)] [(.ref a)])) rfl rfl (hb hby d9_8)
  obtain ⟨_, _, ⟨T3, L3, k3, n3⟩, -, X3, ⟨Lc3, hQ3, l3, y3, z3⟩, st3⟩ := Jvm.LawKit.callS X2 hx (y := (⟨"java/lang/StringLatin1", "indexOfNonWhitespace", "([B)I"⟩ : MethodName)) hown (mvT hZ (hw _ (List.mem_of_getElem? (i := 67) rfl))) (mvT hZ (hw _ (List.mem_of_getElem? (i := 68) rfl))) (mvT hZ (hw _ (List.mem_of_getElem? (i := 69) rfl))) (mvT hZ (hw _ (List.mem_of_getElem? (i := 70) rfl))) (by decide) (backOf (W := 0) (rmNw1 l Z a0 hw [] n0 h0 O i_COMPACT_STRINGS w_instance w_A W b k Va) hZ (hw _ (List.mem_of_getElem? (i := 70) rfl)) (hw _ (List.mem_of_getElem? (i := 69) rfl)) (by decide) (by decide)) (g := (mkF m 11 #[.val (.ref a)] [(.ref b)])) rfl (by rw [hml]; rfl) (argsL := [(.ref b)]) (rest := []) (lenOf owpd6 rfl) rfl (by show 2 * 0 + _ ≤ _; exact Nat.le_of_eq rfl) (hb hby d9_11) (fun _ _ => ⟨rfl, e2, (by decide : 0 + 0 ≤ _), (by decide : 0 + 0 ≤ _)⟩)
  dsimp only [Pt.U, Pt.locs, Pt.cells, Pt.slots] at X3 l3 y3 z3 st3 hQ3
  subst l3 y3 z3
  obtain ⟨rfl, Nq3, e3⟩ := hQ3
  have N3 := Fr.app N1 Nq3
  obtain ⟨fs, hr, hrun, hended, hW, hsame⟩ := X3.leave (v := some (.int (0 : Int32))) (fun h => by rw [Bd.returns] at h; cases h)
  refine ⟨_, _, pre0 _ ?_, hrun, hended, _, _, rfl, ?_, ⟨_, rfl⟩, hW, hsame.mono (by decide) (by decide)⟩
  · show Steps p.tables e below (s₁.setTop (mkF m 0 #[.val (.ref a)] [])) _
    refine XS.aloadN X0.here hx rfl (hb hby d9_0) rfl rfl ?_
    show Steps p.tables e below (s₁.setTop (mkF m 1 #[.val (.ref a)] [(.ref a)])) _
    refine st1.trans ?_
    show Steps p.tables e below (T1.setTop (mkF m 4 #[.val (.ref a)] [(.int (1 : Int32))])) _
    refine XS.ifNo X1.here hx rfl (hb hby d9_4) rfl ((if0 _ _).trans (feq (by decide : ¬ ((1 : Int32) = (0 : Int32)))).1) ?_
    show Steps p.tables e below (T1.setTop (mkF m 7 #[.val (.ref a)] [])) _
    refine XS.aloadN X1.here hx rfl (hb hby d9_7) rfl rfl ?_
    show Steps p.tables e below (T1.setTop (mkF m 8 #[.val (.ref a)] [(.ref a)])) _
    refine st2 _ ?_
    show Steps p.tables e below (T2.setTop (mkF m 11 #[.val (.ref a)] [(.ref b)])) _
    refine st3 _ ?_
    show Steps p.tables e below (T3.setTop (mkF m 14 #[.val (.ref a)] [(.int (0 : Int32))])) _
    refine XS.goto X3.here hx rfl (pc0 := 14) (pc' := 24) rfl (hb hby d9_14) (by decide) (by decide) ?_
    show Steps p.tables e below (T3.setTop (mkF m 24 #[.val (.ref a)] [(.int (0 : Int32))])) _
    exact retI X3 hx Bd.returns (hb hby d9_24) hr
  · have eF : (T3.setFrames fs).heap = h0 := e3
    exact ⟨rfl, N3, eF⟩
set_option maxRecDepth 65536 in
set_option maxHeartbeats 40000000 in
theorem rmBlank (l : Launch) (Z : State) (a0 : Array Value) (hw : ∀ d ∈ tables_1, d.before a0 Z = true) (ws : List Jvm.Cond) (n0 : Nat) (h0 : Heap) (O : Old Z n0 h0) (i_COMPACT_STRINGS : Int32) (w_instance : Addr) (w_A : Addr) (W : OwW Z i_COMPACT_STRINGS w_instance w_A) (a b : Addr) (k : ClassId) (Es : Exa Z h0 a "java/lang/String") (Fc : Fld Z h0 a "java/lang/String" "coder" "B" (.int (0 : Int32))) (Fv : Fld Z h0 a "java/lang/String" "value" "[B" (.ref b)) (Va : Arv Z h0 b k .byte (4 : Int32) [(.int (53 : Int32)), (.int (46 : Int32)), (.int (48 : Int32)), (.int (51 : Int32))] (.int 0)) :
    OwCon l (⟨"java/lang/String", "isBlank", "()Z"⟩ : MethodName) jdk_42_method_117_code 1 (some .boolean) ws ({ frames := 4, cells := 0, slots := 0, locals := 56 } : Room) #[(.ref a)] Z h0 (OwQ (some (.int (0 : Int32))) h0 n0) := by
  refine MetFree.of_bodySF (plainFor_of_name owpn8) hisR ?_
  intro p e s m args below meth c s₁ Bd hml0 hP hK
  obtain ⟨rfl, hZ, hh⟩ := hP
  have hx := Bd.exec
  have hby := Bd.bytes
  have hml : c.maxLocals = 1 := hml0
  have hown : s.vm.findClass "java/lang/String" = some m.cls := findClass_of_methodNamed Bd.named
  have hnm := (name_of_methodNamed Bd.named Bd.method).1
  have X0 : Stand p l e ({ frames := 4, cells := 0, slots := 0, locals := 56 } : Room) s m #[(.ref a)] below meth c s₁ [] 0 0 := Stand.of_body Bd
  have e0 : s₁.heap = h0 := by rw [← hh, Bd.state]; rfl
  have N0 := Fr.nil n0
  have WW := W
  obtain ⟨nz_i_COMPACT_STRINGS, E_w_instance, E_w_A, S_String_COMPACT_STRINGS, S_CharacterDataLatin1_instance, S_CharacterDataLatin1_A, Ta, -⟩ := WW
  have ef : entryFrame m #[(.ref a)] 1 = mkF m 0 #[.val (.ref a)] [] := by first | (simp [entryFrame, mkF, argsToLocals, Value.category]; done) | rfl
  have pre0 : ∀ t, Steps p.tables e below (s₁.setTop (mkF m 0 #[.val (.ref a)] [])) t → Steps p.tables e below (s₁.setTop (entryFrame m #[(.ref a)] 1)) t := fun t k => castTop ef k
  obtain ⟨cq1, q1, q1'⟩ := Es.cell
  obtain ⟨_, _, ⟨T1, L1, k1, n1⟩, -, X1, ⟨Lc1, hQ1, l1, y1, z1⟩, st1⟩ := X0.privateBack hx (y := (⟨"java/lang/String", "indexOfNonWhitespace", "()I"⟩ : MethodName)) hown (mvT hZ (hw _ (List.mem_of_getElem? (i := 54) rfl))) (mvT hZ (hw _ (List.mem_of_getElem? (i := 55) rfl))) (mvT hZ (hw _ (List.mem_of_getElem? (i := 57) rfl))) (Cond.privateMethod_at (mvP hZ (hw _ (List.mem_of_getElem? (i := 56) rfl)) (args := #[]))) (mvT hZ (hw _ (List.mem_of_getElem? (i := 58) rfl))) (by decide) (backOf (W := 0) (rmNw l Z a0 hw [] n0 h0 O i_COMPACT_STRINGS w_instance w_A W a b k Es Fc Fv Va) hZ (hw _ (List.mem_of_getElem? (i := 58) rfl)) (hw _ (List.mem_of_getElem? (i := 28) rfl)) (by decide) (by decide)) (g := (mkF m 1 #[.val (.ref a)] [(.ref a)])) rfl (by rw [hml]; rfl) (Steps.refl _) (a := a) (by rw [e0]; exact q1) q1' (argsL := []) (rest := []) (lenOf owpd7 rfl) rfl (by show 2 * 0 + _ ≤ _; exact Nat.le_of_eq rfl) (hb hby d8_1) (fun _ _ => ⟨rfl, e0, (by decide : 0 + 0 ≤ _), (by decide : 0 + 0 ≤ _)⟩)
  dsimp only [Pt.U, Pt.locs, Pt.cells, Pt.slots] at X1 l1 y1 z1 st1 hQ1
  subst l1 y1 z1
  obtain ⟨rfl, Nq1, e1⟩ := hQ1
  have N1 := Fr.app N0 Nq1
  obtain ⟨cq2, kq2, q2a, q2b, q2c⟩ := isOf hZ e1 Es
  obtain ⟨_, _, ⟨T2, L2, k2, n2⟩, -, X2, ⟨Lc2, hQ2, l2, y2, z2⟩, st2⟩ := X1.virtualBack hx (y := (⟨"java/lang/String", "length", "()I"⟩ : MethodName)) (z := (⟨"java/lang/String", "length", "()I"⟩ : MethodName)) hown (mvT hZ (hw _ (List.mem_of_getElem? (i := 87) rfl))) (mvT hZ (hw _ (List.mem_of_getElem? (i := 88) rfl))) (notFace_of_selects (args := #[]) (mvT hZ (hw _ (List.mem_of_getElem? (i := 90) rfl)))) (mvT hZ (hw _ (List.mem_of_getElem? (i := 90) rfl))) (mvT hZ (hw _ (List.mem_of_getElem? (i := 89) rfl))) (by decide) (backOf (W := 1) (rmLen_t l Z a0 hw [] n0 h0 O i_COMPACT_STRINGS w_instance w_A W a b k Es Fc Fv Va) hZ (hw _ (List.mem_of_getElem? (i := 91) rfl)) (hw _ (List.mem_of_getElem? (i := 28) rfl)) (by decide) (by decide)) q2a q2c (g := (mkF m 5 #[.val (.ref a)] [(.ref a), (.int (0 : Int32))])) rfl (by rw [hml]; rfl) (Steps.refl _) (argsL := []) (rest := [(.int (0 : Int32))]) (lenOf owpd7 rfl) rfl (by show 2 * 0 + _ ≤ _; exact Nat.le_of_eq rfl) (hb hby d8_5) (fun _ _ => ⟨rfl, e1, (by decide : 0 + 0 ≤ _), (by decide : 0 + 0 ≤ _)⟩)
  dsimp only [Pt.U, Pt.locs, Pt.cells, Pt.slots] at X2 l2 y2 z2 st2 hQ2
  subst l2 y2 z2
  obtain ⟨rfl, Nq2, e2⟩ := hQ2
  have N2 := Fr.app N1 Nq2
  obtain ⟨fs, hr, hrun, hended, hW, hsame⟩ := X2.leave (v := some (.int (0 : Int32))) (fun h => by rw [Bd.returns] at h; cases h)
  refine ⟨_, _, pre0 _ ?_, hrun, hended, _, _, rfl, ?_, ⟨_, rfl⟩, hW, hsame.mono (by decide) (by decide)⟩
  · show Steps p.tables e below (s₁.setTop (mkF m 0 #[.val (.ref a)] [])) _
    refine XS.aloadN X0.here hx rfl (hb hby d8_0) rfl rfl ?_
    show Steps p.tables e below (s₁.setTop (mkF m 1 #[.val (.ref a)] [(.ref a)])) _
    refine st1.trans ?_
    show Steps p.tables e below (T1.setTop (mkF m 4 #[.val (.ref a)] [(.int (0 : Int32))])) _
    refine XS.aloadN X1.here hx rfl (hb hby d8_4) rfl rfl ?_
    show Steps p.tables e below (T1.setTop (mkF m 5 #[.val (.ref a)] [(.ref a), (.int (0 : Int32))])) _
    refine st2.trans ?_
    show Steps p.tables e below (T2.setTop (mkF m 8 #[.val (.ref a)] [(.int (4 : Int32)), (.int (0 : Int32))])) _
    refine XS.icmpYes X2.here hx rfl (pc0 := 8) (pc' := 15) rfl (hb hby d8_8) rfl (feq (by decide : ¬ ((0 : Int32) = (4 : Int32)))).2 (by decide) (by decide) ?_
    show Steps p.tables e below (T2.setTop (mkF m 15 #[.val (.ref a)] [])) _
    refine XS.iconst X2.here hx rfl (hb hby d8_15) ?_
    show Steps p.tables e below (T2.setTop (mkF m 16 #[.val (.ref a)] [(.int (0 : Int32))])) _
    exact retN X2 hx (t := .boolean) Bd.returns (by simp) (hb hby d8_16) hr
  · have eF : (T2.setFrames fs).heap = h0 := e2
    exact ⟨rfl, N2, eF⟩
set_option maxRecDepth 65536 in
set_option maxHeartbeats 40000000 in
theorem rmIx5_9 (l : Launch) (Z : State) (a0 : Array Value) (hw : ∀ d ∈ tables_1, d.before a0 Z = true) (ws : List Jvm.Cond) (n0 : Nat) (h0 : Heap) (O : Old Z n0 h0) (i_COMPACT_STRINGS : Int32) (w_instance : Addr) (w_A : Addr) (W : OwW Z i_COMPACT_STRINGS w_instance w_A) (b : Addr) (k : ClassId) (y : Addr) (ky : ClassId) (Va : Arv Z h0 b k .byte (4 : Int32) [(.int (53 : Int32)), (.int (46 : Int32)), (.int (48 : Int32)), (.int (51 : Int32))] (.int 0)) (Vay : Arv Z h0 y ky .byte (1 : Int32) [(.int (9 : Int32))] (.int 0)) :
    OwCon l (⟨"java/lang/StringLatin1", "indexOf", "([BI[BII)I"⟩ : MethodName) jdk_43_method_25_code 11 (some .int) ws ({ frames := 0, cells := 0, slots := 0, locals := 0 } : Room) #[(.ref b), (.int (4 : Int32)), (.ref y), (.int (1 : Int32)), (.int (0 : Int32))] Z h0 (OwQ (some (.int (-1 : Int32))) h0 n0) := by
  refine MetFree.of_bodySF (plainFor_of_name owpn21) hisR ?_
  intro p e s m args below meth c s₁ Bd hml0 hP hK
  obtain ⟨rfl, hZ, hh⟩ := hP
  have hx := Bd.exec
  have hby := Bd.bytes
  have hml : c.maxLocals = 11 := hml0
  have hown : s.vm.findClass "java/lang/StringLatin1" = some m.cls := findClass_of_methodNamed Bd.named
  have hnm := (name_of_methodNamed Bd.named Bd.method).1
  have X0 : Stand p l e ({ frames := 0, cells := 0, slots := 0, locals := 0 } : Room) s m #[(.ref b), (.int (4 : Int32)), (.ref y), (.int (1 : Int32)), (.int (0 : Int32))] below meth c s₁ [] 0 0 := Stand.of_body Bd
  have e0 : s₁.heap = h0 := by rw [← hh, Bd.state]; rfl
  have N0 := Fr.nil n0
  have WW := W
  obtain ⟨nz_i_COMPACT_STRINGS, E_w_instance, E_w_A, S_String_COMPACT_STRINGS, S_CharacterDataLatin1_instance, S_CharacterDataLatin1_A, Ta, -⟩ := WW
  have ef : entryFrame m #[(.ref b), (.int (4 : Int32)), (.ref y), (.int (1 : Int32)), (.int (0 : Int32))] 11 = mkF m 0 #[.val (.ref b), .val (.int (4 : Int32)), .val (.ref y), .val (.int (1 : Int32)), .val (.int (0 : Int32)), .unset, .unset, .unset, .unset, .unset, .unset] [] := by first | (simp [entryFrame, mkF, argsToLocals, Value.category]; done) | rfl
  have pre0 : ∀ t, Steps p.tables e below (s₁.setTop (mkF m 0 #[.val (.ref b), .val (.int (4 : Int32)), .val (.ref y), .val (.int (1 : Int32)), .val (.int (0 : Int32)), .unset, .unset, .unset, .unset, .unset, .unset] [])) t → Steps p.tables e below (s₁.setTop (entryFrame m #[(.ref b), (.int (4 : Int32)), (.ref y), (.int (1 : Int32)), (.int (0 : Int32))] 11)) t := fun t k => castTop ef k
  obtain ⟨cl1, Ar1, q1, Sz1, Nn1, Hs1, -⟩ := id Vay
  have hin1 : ¬ ((0 : Int32) < 0 ∨ cl1.slots.size ≤ ((0 : Int32)).toNatClampNeg) := inb_of Sz1 ⟨by decide, by decide⟩
  have hat1 : cl1.slots[((0 : Int32)).toNatClampNeg]? = some (.int (9 : Int32)) := Has.at Hs1 hin1 rfl
  obtain ⟨cl2, Ar2, q2, Sz2, Nn2, Hs2, -⟩ := id Va
  have hin2 : ¬ ((0 : Int32) < 0 ∨ cl2.slots.size ≤ ((0 : Int32)).toNatClampNeg) := inb_of Sz2 ⟨by decide, by decide⟩
  have hat2 : cl2.slots[((0 : Int32)).toNatClampNeg]? = some (.int (53 : Int32)) := Has.at Hs2 hin2 rfl
  obtain ⟨cl3, Ar3, q3, Sz3, Nn3, Hs3, -⟩ := id Va
  have hin3 : ¬ ((1 : Int32) < 0 ∨ cl3.slots.size ≤ ((1 : Int32)).toNatClampNeg) := inb_of Sz3 ⟨by decide, by decide⟩
  have hat3 : cl3.slots[((1 : Int32)).toNatClampNeg]? = some (.int (46 : Int32)) := Has.at Hs3 hin3 rfl
  obtain ⟨cl4, Ar4, q4, Sz4, Nn4, Hs4, -⟩ := id Va
  have hin4 : ¬ ((2 : Int32) < 0 ∨ cl4.slots.size ≤ ((2 : Int32)).toNatClampNeg) := inb_of Sz4 ⟨by decide, by decide⟩
  have hat4 : cl4.slots[((2 : Int32)).toNatClampNeg]? = some (.int (48 : Int32)) := Has.at Hs4 hin4 rfl
  obtain ⟨cl5, Ar5, q5, Sz5, Nn5, Hs5, -⟩ := id Va
  have hin5 : ¬ ((3 : Int32) < 0 ∨ cl5.slots.size ≤ ((3 : Int32)).toNatClampNeg) := inb_of Sz5 ⟨by decide, by decide⟩
  have hat5 : cl5.slots[((3 : Int32)).toNatClampNeg]? = some (.int (51 : Int32)) := Has.at Hs5 hin5 rfl
  obtain ⟨fs, hr, hrun, hended, hW, hsame⟩ := X0.leave (v := some (.int (-1 : Int32))) (fun h => by rw [Bd.returns] at h; cases h)
  refine ⟨_, _, pre0 _ ?_, hrun, hended, _, _, rfl, ?_, ⟨_, rfl⟩, hW, hsame.mono (by decide) (by decide)⟩
  · show Steps p.tables e below (s₁.setTop (mkF m 0 #[.val (.ref b), .val (.int (4 : Int32)), .val (.ref y), .val (.int (1 : Int32)), .val (.int (0 : Int32)), .unset, .unset, .unset, .unset, .unset, .unset] [])) _
    refine XS.aloadN X0.here hx rfl (hb hby d21_0) rfl rfl ?_
    show Steps p.tables e below (s₁.setTop (mkF m 1 #[.val (.ref b), .val (.int (4 : Int32)), .val (.ref y), .val (.int (1 : Int32)), .val (.int (0 : Int32)), .unset, .unset, .unset, .unset, .unset, .unset] [(.ref y)])) _
    refine XS.iconst X0.here hx rfl (hb hby d21_1) ?_
    show Steps p.tables e below (s₁.setTop (mkF m 2 #[.val (.ref b), .val (.int (4 : Int32)), .val (.ref y), .val (.int (1 : Int32)), .val (.int (0 : Int32)), .unset, .unset, .unset, .unset, .unset, .unset] [(.int (0 : Int32)), (.ref y)])) _
    refine X0.baloadBytes hx (j := (0 : Int32)) (v := (.int (9 : Int32))) (by rw [e0]; exact Ar1.1) (State.isArrayOf_alike hZ.alike Ar1.2.1) Ar1.2.2 hin1 hat1 (g := (mkF m 2 #[.val (.ref b), .val (.int (4 : Int32)), .val (.ref y), .val (.int (1 : Int32)), .val (.int (0 : Int32)), .unset, .unset, .unset, .unset, .unset, .unset] [(.int (0 : Int32)), (.ref y)])) rfl rfl (hb hby d21_2) _ ?_
    show Steps p.tables e below (s₁.setTop (mkF m 3 #[.val (.ref b), .val (.int (4 : Int32)), .val (.ref y), .val (.int (1 : Int32)), .val (.int (0 : Int32)), .unset, .unset, .unset, .unset, .unset, .unset] [(.int (9 : Int32))])) _
    refine XS.istore X0.here hx rfl (hb hby d21_3) rfl (l' := #[.val (.ref b), .val (.int (4 : Int32)), .val (.ref y), .val (.int (1 : Int32)), .val (.int (0 : Int32)), .val (.int (9 : Int32)), .unset, .unset, .unset, .unset, .unset]) rfl ?_
    show Steps p.tables e below (s₁.setTop (mkF m 5 #[.val (.ref b), .val (.int (4 : Int32)), .val (.ref y), .val (.int (1 : Int32)), .val (.int (0 : Int32)), .val (.int (9 : Int32)), .unset, .unset, .unset, .unset, .unset] [])) _
    refine XS.iloadN X0.here hx rfl (hb hby d21_5) rfl ?_
    show Steps p.tables e below (s₁.setTop (mkF m 6 #[.val (.ref b), .val (.int (4 : Int32)), .val (.ref y), .val (.int (1 : Int32)), .val (.int (0 : Int32)), .val (.int (9 : Int32)), .unset, .unset, .unset, .unset, .unset] [(.int (4 : Int32))])) _
    refine XS.iloadN X0.here hx rfl (hb hby d21_6) rfl ?_
    show Steps p.tables e below (s₁.setTop (mkF m 7 #[.val (.ref b), .val (.int (4 : Int32)), .val (.ref y), .val (.int (1 : Int32)), .val (.int (0 : Int32)), .val (.int (9 : Int32)), .unset, .unset, .unset, .unset, .unset] [(.int (1 : Int32)), (.int (4 : Int32))])) _
    refine XS.isub X0.here hx rfl (hb hby d21_7) rfl ?_
    show Steps p.tables e below (s₁.setTop (mkF m 8 #[.val (.ref b), .val (.int (4 : Int32)), .val (.ref y), .val (.int (1 : Int32)), .val (.int (0 : Int32)), .val (.int (9 : Int32)), .unset, .unset, .unset, .unset, .unset] [(.int (3 : Int32))])) _
    refine XS.istore X0.here hx rfl (hb hby d21_8) rfl (l' := #[.val (.ref b), .val (.int (4 : Int32)), .val (.ref y), .val (.int (1 : Int32)), .val (.int (0 : Int32)), .val (.int (9 : Int32)), .val (.int (3 : Int32)), .unset, .unset, .unset, .unset]) rfl ?_
    show Steps p.tables e below (s₁.setTop (mkF m 10 #[.val (.ref b), .val (.int (4 : Int32)), .val (.ref y), .val (.int (1 : Int32)), .val (.int (0 : Int32)), .val (.int (9 : Int32)), .val (.int (3 : Int32)), .unset, .unset, .unset, .unset] [])) _
    refine XS.iload X0.here hx rfl (hb hby d21_10) rfl ?_
    show Steps p.tables e below (s₁.setTop (mkF m 12 #[.val (.ref b), .val (.int (4 : Int32)), .val (.ref y), .val (.int (1 : Int32)), .val (.int (0 : Int32)), .val (.int (9 : Int32)), .val (.int (3 : Int32)), .unset, .unset, .unset, .unset] [(.int (0 : Int32))])) _
    refine XS.istore X0.here hx rfl (hb hby d21_12) rfl (l' := #[.val (.ref b), .val (.int (4 : Int32)), .val (.ref y), .val (.int (1 : Int32)), .val (.int (0 : Int32)), .val (.int (9 : Int32)), .val (.int (3 : Int32)), .val (.int (0 : Int32)), .unset, .unset, .unset]) rfl ?_
    show Steps p.tables e below (s₁.setTop (mkF m 14 #[.val (.ref b), .val (.int (4 : Int32)), .val (.ref y), .val (.int (1 : Int32)), .val (.int (0 : Int32)), .val (.int (9 : Int32)), .val (.int (3 : Int32)), .val (.int (0 : Int32)), .unset, .unset, .unset] [])) _
    refine XS.iload X0.here hx rfl (hb hby d21_14) rfl ?_
    show Steps p.tables e below (s₁.setTop (mkF m 16 #[.val (.ref b), .val (.int (4 : Int32)), .val (.ref y), .val (.int (1 : Int32)), .val (.int (0 : Int32)), .val (.int (9 : Int32)), .val (.int (3 : Int32)), .val (.int (0 : Int32)), .unset, .unset, .unset] [(.int (0 : Int32))])) _
    refine XS.iload X0.here hx rfl (hb hby d21_16) rfl ?_
    show Steps p.tables e below (s₁.setTop (mkF m 18 #[.val (.ref b), .val (.int (4 : Int32)), .val (.ref y), .val (.int (1 : Int32)), .val (.int (0 : Int32)), .val (.int (9 : Int32)), .val (.int (3 : Int32)), .val (.int (0 : Int32)), .unset, .unset, .unset] [(.int (3 : Int32)), (.int (0 : Int32))])) _
    refine XS.icmpNo X0.here hx rfl (hb hby d21_18) rfl (flt (by decide : ¬ ((3 : Int32) < (0 : Int32)))).2.2.1 ?_
    show Steps p.tables e below (s₁.setTop (mkF m 21 #[.val (.ref b), .val (.int (4 : Int32)), .val (.ref y), .val (.int (1 : Int32)), .val (.int (0 : Int32)), .val (.int (9 : Int32)), .val (.int (3 : Int32)), .val (.int (0 : Int32)), .unset, .unset, .unset] [])) _
    refine XS.aloadN X0.here hx rfl (hb hby d21_21) rfl rfl ?_
    show Steps p.tables e below (s₁.setTop (mkF m 22 #[.val (.ref b), .val (.int (4 : Int32)), .val (.ref y), .val (.int (1 : Int32)), .val (.int (0 : Int32)), .val (.int (9 : Int32)), .val (.int (3 : Int32)), .val (.int (0 : Int32)), .unset, .unset, .unset] [(.ref b)])) _
    refine XS.iload X0.here hx rfl (hb hby d21_22) rfl ?_
    show Steps p.tables e below (s₁.setTop (mkF m 24 #[.val (.ref b), .val (.int (4 : Int32)), .val (.ref y), .val (.int (1 : Int32)), .val (.int (0 : Int32)), .val (.int (9 : Int32)), .val (.int (3 : Int32)), .val (.int (0 : Int32)), .unset, .unset, .unset] [(.int (0 : Int32)), (.ref b)])) _
    refine X0.baloadBytes hx (j := (0 : Int32)) (v := (.int (53 : Int32))) (by rw [e0]; exact Ar2.1) (State.isArrayOf_alike hZ.alike Ar2.2.1) Ar2.2.2 hin2 hat2 (g := (mkF m 24 #[.val (.ref b), .val (.int (4 : Int32)), .val (.ref y), .val (.int (1 : Int32)), .val (.int (0 : Int32)), .val (.int (9 : Int32)), .val (.int (3 : Int32)), .val (.int (0 : Int32)), .unset, .unset, .unset] [(.int (0 : Int32)), (.ref b)])) rfl rfl (hb hby d21_24) _ ?_
    show Steps p.tables e below (s₁.setTop (mkF m 25 #[.val (.ref b), .val (.int (4 : Int32)), .val (.ref y), .val (.int (1 : Int32)), .val (.int (0 : Int32)), .val (.int (9 : Int32)), .val (.int (3 : Int32)), .val (.int (0 : Int32)), .unset, .unset, .unset] [(.int (53 : Int32))])) _
    refine XS.iload X0.here hx rfl (hb hby d21_25) rfl ?_
    show Steps p.tables e below (s₁.setTop (mkF m 27 #[.val (.ref b), .val (.int (4 : Int32)), .val (.ref y), .val (.int (1 : Int32)), .val (.int (0 : Int32)), .val (.int (9 : Int32)), .val (.int (3 : Int32)), .val (.int (0 : Int32)), .unset, .unset, .unset] [(.int (9 : Int32)), (.int (53 : Int32))])) _
    refine XS.icmpNo X0.here hx rfl (hb hby d21_27) rfl (feq (by decide : ¬ ((53 : Int32) = (9 : Int32)))).1 ?_
    show Steps p.tables e below (s₁.setTop (mkF m 30 #[.val (.ref b), .val (.int (4 : Int32)), .val (.ref y), .val (.int (1 : Int32)), .val (.int (0 : Int32)), .val (.int (9 : Int32)), .val (.int (3 : Int32)), .val (.int (0 : Int32)), .unset, .unset, .unset] [])) _
    refine XS.iinc X0.here hx rfl (hb hby d21_30) rfl (l' := #[.val (.ref b), .val (.int (4 : Int32)), .val (.ref y), .val (.int (1 : Int32)), .val (.int (0 : Int32)), .val (.int (9 : Int32)), .val (.int (3 : Int32)), .val (.int (1 : Int32)), .unset, .unset, .unset]) rfl ?_
    show Steps p.tables e below (s₁.setTop (mkF m 33 #[.val (.ref b), .val (.int (4 : Int32)), .val (.ref y), .val (.int (1 : Int32)), .val (.int (0 : Int32)), .val (.int (9 : Int32)), .val (.int (3 : Int32)), .val (.int (1 : Int32)), .unset, .unset, .unset] [])) _
    refine XS.iload X0.here hx rfl (hb hby d21_33) rfl ?_
    show Steps p.tables e below (s₁.setTop (mkF m 35 #[.val (.ref b), .val (.int (4 : Int32)), .val (.ref y), .val (.int (1 : Int32)), .val (.int (0 : Int32)), .val (.int (9 : Int32)), .val (.int (3 : Int32)), .val (.int (1 : Int32)), .unset, .unset, .unset] [(.int (1 : Int32))])) _
    refine XS.iload X0.here hx rfl (hb hby d21_35) rfl ?_
    show Steps p.tables e below (s₁.setTop (mkF m 37 #[.val (.ref b), .val (.int (4 : Int32)), .val (.ref y), .val (.int (1 : Int32)), .val (.int (0 : Int32)), .val (.int (9 : Int32)), .val (.int (3 : Int32)), .val (.int (1 : Int32)), .unset, .unset, .unset] [(.int (3 : Int32)), (.int (1 : Int32))])) _
    refine XS.icmpNo X0.here hx rfl (hb hby d21_37) rfl (flt (by decide : ¬ ((3 : Int32) < (1 : Int32)))).2.2.1 ?_
    show Steps p.tables e below (s₁.setTop (mkF m 40 #[.val (.ref b), .val (.int (4 : Int32)), .val (.ref y), .val (.int (1 : Int32)), .val (.int (0 : Int32)), .val (.int (9 : Int32)), .val (.int (3 : Int32)), .val (.int (1 : Int32)), .unset, .unset, .unset] [])) _
    refine XS.aloadN X0.here hx rfl (hb hby d21_40) rfl rfl ?_
    show Steps p.tables e below (s₁.setTop (mkF m 41 #[.val (.ref b), .val (.int (4 : Int32)), .val (.ref y), .val (.int (1 : Int32)), .val (.int (0 : Int32)), .val (.int (9 : Int32)), .val (.int (3 : Int32)), .val (.int (1 : Int32)), .unset, .unset, .unset] [(.ref b)])) _
    refine XS.iload X0.here hx rfl (hb hby d21_41) rfl ?_
    show Steps p.tables e below (s₁.setTop (mkF m 43 #[.val (.ref b), .val (.int (4 : Int32)), .val (.ref y), .val (.int (1 : Int32)), .val (.int (0 : Int32)), .val (.int (9 : Int32)), .val (.int (3 : Int32)), .val (.int (1 : Int32)), .unset, .unset, .unset] [(.int (1 : Int32)), (.ref b)])) _
    refine X0.baloadBytes hx (j := (1 : Int32)) (v := (.int (46 : Int32))) (by rw [e0]; exact Ar3.1) (State.isArrayOf_alike hZ.alike Ar3.2.1) Ar3.2.2 hin3 hat3 (g := (mkF m 43 #[.val (.ref b), .val (.int (4 : Int32)), .val (.ref y), .val (.int (1 : Int32)), .val (.int (0 : Int32)), .val (.int (9 : Int32)), .val (.int (3 : Int32)), .val (.int (1 : Int32)), .unset, .unset, .unset] [(.int (1 : Int32)), (.ref b)])) rfl rfl (hb hby d21_43) _ ?_
    show Steps p.tables e below (s₁.setTop (mkF m 44 #[.val (.ref b), .val (.int (4 : Int32)), .val (.ref y), .val (.int (1 : Int32)), .val (.int (0 : Int32)), .val (.int (9 : Int32)), .val (.int (3 : Int32)), .val (.int (1 : Int32)), .unset, .unset, .unset] [(.int (46 : Int32))])) _
    refine XS.iload X0.here hx rfl (hb hby d21_44) rfl ?_
    show Steps p.tables e below (s₁.setTop (mkF m 46 #[.val (.ref b), .val (.int (4 : Int32)), .val (.ref y), .val (.int (1 : Int32)), .val (.int (0 : Int32)), .val (.int (9 : Int32)), .val (.int (3 : Int32)), .val (.int (1 : Int32)), .unset, .unset, .unset] [(.int (9 : Int32)), (.int (46 : Int32))])) _
    refine XS.icmpNo X0.here hx rfl (hb hby d21_46) rfl (feq (by decide : ¬ ((46 : Int32) = (9 : Int32)))).1 ?_
    show Steps p.tables e below (s₁.setTop (mkF m 49 #[.val (.ref b), .val (.int (4 : Int32)), .val (.ref y), .val (.int (1 : Int32)), .val (.int (0 : Int32)), .val (.int (9 : Int32)), .val (.int (3 : Int32)), .val (.int (1 : Int32)), .unset, .unset, .unset] [])) _
    refine XS.goto X0.here hx rfl (pc0 := 49) (pc' := 30) rfl (hb hby d21_49) (by decide) (by decide) ?_
    show Steps p.tables e below (s₁.setTop (mkF m 30 #[.val (.ref b), .val (.int (4 : Int32)), .val (.ref y), .val (.int (1 : Int32)), .val (.int (0 : Int32)), .val (.int (9 : Int32)), .val (.int (3 : Int32)), .val (.int (1 : Int32)), .unset, .unset, .unset] [])) _
    refine XS.iinc X0.here hx rfl (hb hby d21_30) rfl (l' := #[.val (.ref b), .val (.int (4 : Int32)), .val (.ref y), .val (.int (1 : Int32)), .val (.int (0 : Int32)), .val (.int (9 : Int32)), .val (.int (3 : Int32)), .val (.int (2 : Int32)), .unset, .unset, .unset]) rfl ?_
    show Steps p.tables e below (s₁.setTop (mkF m 33 #[.val (.ref b), .val (.int (4 : Int32)), .val (.ref y), .val (.int (1 : Int32)), .val (.int (0 : Int32)), .val (.int (9 : Int32)), .val (.int (3 : Int32)), .val (.int (2 : Int32)), .unset, .unset, .unset] [])) _
    refine XS.iload X0.here hx rfl (hb hby d21_33) rfl ?_
    show Steps p.tables e below (s₁.setTop (mkF m 35 #[.val (.ref b), .val (.int (4 : Int32)), .val (.ref y), .val (.int (1 : Int32)), .val (.int (0 : Int32)), .val (.int (9 : Int32)), .val (.int (3 : Int32)), .val (.int (2 : Int32)), .unset, .unset, .unset] [(.int (2 : Int32))])) _
    refine XS.iload X0.here hx rfl (hb hby d21_35) rfl ?_
    show Steps p.tables e below (s₁.setTop (mkF m 37 #[.val (.ref b), .val (.int (4 : Int32)), .val (.ref y), .val (.int (1 : Int32)), .val (.int (0 : Int32)), .val (.int (9 : Int32)), .val (.int (3 : Int32)), .val (.int (2 : Int32)), .unset, .unset, .unset] [(.int (3 : Int32)), (.int (2 : Int32))])) _
    refine XS.icmpNo X0.here hx rfl (hb hby d21_37) rfl (flt (by decide : ¬ ((3 : Int32) < (2 : Int32)))).2.2.1 ?_
    show Steps p.tables e below (s₁.setTop (mkF m 40 #[.val (.ref b), .val (.int (4 : Int32)), .val (.ref y), .val (.int (1 : Int32)), .val (.int (0 : Int32)), .val (.int (9 : Int32)), .val (.int (3 : Int32)), .val (.int (2 : Int32)), .unset, .unset, .unset] [])) _
    refine XS.aloadN X0.here hx rfl (hb hby d21_40) rfl rfl ?_
    show Steps p.tables e below (s₁.setTop (mkF m 41 #[.val (.ref b), .val (.int (4 : Int32)), .val (.ref y), .val (.int (1 : Int32)), .val (.int (0 : Int32)), .val (.int (9 : Int32)), .val (.int (3 : Int32)), .val (.int (2 : Int32)), .unset, .unset, .unset] [(.ref b)])) _
    refine XS.iload X0.here hx rfl (hb hby d21_41) rfl ?_
    show Steps p.tables e below (s₁.setTop (mkF m 43 #[.val (.ref b), .val (.int (4 : Int32)), .val (.ref y), .val (.int (1 : Int32)), .val (.int (0 : Int32)), .val (.int (9 : Int32)), .val (.int (3 : Int32)), .val (.int (2 : Int32)), .unset, .unset, .unset] [(.int (2 : Int32)), (.ref b)])) _
    refine X0.baloadBytes hx (j := (2 : Int32)) (v := (.int (48 : Int32))) (by rw [e0]; exact Ar4.1) (State.isArrayOf_alike hZ.alike Ar4.2.1) Ar4.2.2 hin4 hat4 (g := (mkF m 43 #[.val (.ref b), .val (.int (4 : Int32)), .val (.ref y), .val (.int (1 : Int32)), .val (.int (0 : Int32)), .val (.int (9 : Int32)), .val (.int (3 : Int32)), .val (.int (2 : Int32)), .unset, .unset, .unset] [(.int (2 : Int32)), (.ref b)])) rfl rfl (hb hby d21_43) _ ?_
    show Steps p.tables e below (s₁.setTop (mkF m 44 #[.val (.ref b), .val (.int (4 : Int32)), .val (.ref y), .val (.int (1 : Int32)), .val (.int (0 : Int32)), .val (.int (9 : Int32)), .val (.int (3 : Int32)), .val (.int (2 : Int32)), .unset, .unset, .unset] [(.int (48 : Int32))])) _
    refine XS.iload X0.here hx rfl (hb hby d21_44) rfl ?_
    show Steps p.tables e below (s₁.setTop (mkF m 46 #[.val (.ref b), .val (.int (4 : Int32)), .val (.ref y), .val (.int (1 : Int32)), .val (.int (0 : Int32)), .val (.int (9 : Int32)), .val (.int (3 : Int32)), .val (.int (2 : Int32)), .unset, .unset, .unset] [(.int (9 : Int32)), (.int (48 : Int32))])) _
    refine XS.icmpNo X0.here hx rfl (hb hby d21_46) rfl (feq (by decide : ¬ ((48 : Int32) = (9 : Int32)))).1 ?_
    show Steps p.tables e below (s₁.setTop (mkF m 49 #[.val (.ref b), .val (.int (4 : Int32)), .val (.ref y), .val (.int (1 : Int32)), .val (.int (0 : Int32)), .val (.int (9 : Int32)), .val (.int (3 : Int32)), .val (.int (2 : Int32)), .unset, .unset, .unset] [])) _
    refine XS.goto X0.here hx rfl (pc0 := 49) (pc' := 30) rfl (hb hby d21_49) (by decide) (by decide) ?_
    show Steps p.tables e below (s₁.setTop (mkF m 30 #[.val (.ref b), .val (.int (4 : Int32)), .val (.ref y), .val (.int (1 : Int32)), .val (.int (0 : Int32)), .val (.int (9 : Int32)), .val (.int (3 : Int32)), .val (.int (2 : Int32)), .unset, .unset, .unset] [])) _
    refine XS.iinc X0.here hx rfl (hb hby d21_30) rfl (l' := #[.val (.ref b), .val (.int (4 : Int32)), .val (.ref y), .val (.int (1 : Int32)), .val (.int (0 : Int32)), .val (.int (9 : Int32)), .val (.int (3 : Int32)), .val (.int (3 : Int32)), .unset, .unset, .unset]) rfl ?_
    show Steps p.tables e below (s₁.setTop (mkF m 33 #[.val (.ref b), .val (.int (4 : Int32)), .val (.ref y), .val (.int (1 : Int32)), .val (.int (0 : Int32)), .val (.int (9 : Int32)), .val (.int (3 : Int32)), .val (.int (3 : Int32)), .unset, .unset, .unset] [])) _
    refine XS.iload X0.here hx rfl (hb hby d21_33) rfl ?_
    show Steps p.tables e below (s₁.setTop (mkF m 35 #[.val (.ref b), .val (.int (4 : Int32)), .val (.ref y), .val (.int (1 : Int32)), .val (.int (0 : Int32)), .val (.int (9 : Int32)), .val (.int (3 : Int32)), .val (.int (3 : Int32)), .unset, .unset, .unset] [(.int (3 : Int32))])) _
    refine XS.iload X0.here hx rfl (hb hby d21_35) rfl ?_
    show Steps p.tables e below (s₁.setTop (mkF m 37 #[.val (.ref b), .val (.int (4 : Int32)), .val (.ref y), .val (.int (1 : Int32)), .val (.int (0 : Int32)), .val (.int (9 : Int32)), .val (.int (3 : Int32)), .val (.int (3 : Int32)), .unset, .unset, .unset] [(.int (3 : Int32)), (.int (3 : Int32))])) _
    refine XS.icmpNo X0.here hx rfl (hb hby d21_37) rfl (flt (by decide : ¬ ((3 : Int32) < (3 : Int32)))).2.2.1 ?_
    show Steps p.tables e below (s₁.setTop (mkF m 40 #[.val (.ref b), .val (.int (4 : Int32)), .val (.ref y), .val (.int (1 : Int32)), .val (.int (0 : Int32)), .val (.int (9 : Int32)), .val (.int (3 : Int32)), .val (.int (3 : Int32)), .unset, .unset, .unset] [])) _
    refine XS.aloadN X0.here hx rfl (hb hby d21_40) rfl rfl ?_
    show Steps p.tables e below (s₁.setTop (mkF m 41 #[.val (.ref b), .val (.int (4 : Int32)), .val (.ref y), .val (.int (1 : Int32)), .val (.int (0 : Int32)), .val (.int (9 : Int32)), .val (.int (3 : Int32)), .val (.int (3 : Int32)), .unset, .unset, .unset] [(.ref b)])) _
    refine XS.iload X0.here hx rfl (hb hby d21_41) rfl ?_
    show Steps p.tables e below (s₁.setTop (mkF m 43 #[.val (.ref b), .val (.int (4 : Int32)), .val (.ref y), .val (.int (1 : Int32)), .val (.int (0 : Int32)), .val (.int (9 : Int32)), .val (.int (3 : Int32)), .val (.int (3 : Int32)), .unset, .unset, .unset] [(.int (3 : Int32)), (.ref b)])) _
    refine X0.baloadBytes hx (j := (3 : Int32)) (v := (.int (51 : Int32))) (by rw [e0]; exact Ar5.1) (State.isArrayOf_alike hZ.alike Ar5.2.1) Ar5.2.2 hin5 hat5 (g := (mkF m 43 #[.val (.ref b), .val (.int (4 : Int32)), .val (.ref y), .val (.int (1 : Int32)), .val (.int (0 : Int32)), .val (.int (9 : Int32)), .val (.int (3 : Int32)), .val (.int (3 : Int32)), .unset, .unset, .unset] [(.int (3 : Int32)), (.ref b)])) rfl rfl (hb hby d21_43) _ ?_
    show Steps p.tables e below (s₁.setTop (mkF m 44 #[.val (.ref b), .val (.int (4 : Int32)), .val (.ref y), .val (.int (1 : Int32)), .val (.int (0 : Int32)), .val (.int (9 : Int32)), .val (.int (3 : Int32)), .val (.int (3 : Int32)), .unset, .unset, .unset] [(.int (51 : Int32))])) _
    refine XS.iload X0.here hx rfl (hb hby d21_44) rfl ?_
    show Steps p.tables e below (s₁.setTop (mkF m 46 #[.val (.ref b), .val (.int (4 : Int32)), .val (.ref y), .val (.int (1 : Int32)), .val (.int (0 : Int32)), .val (.int (9 : Int32)), .val (.int (3 : Int32)), .val (.int (3 : Int32)), .unset, .unset, .unset] [(.int (9 : Int32)), (.int (51 : Int32))])) _
    refine XS.icmpNo X0.here hx rfl (hb hby d21_46) rfl (feq (by decide : ¬ ((51 : Int32) = (9 : Int32)))).1 ?_
    show Steps p.tables e below (s₁.setTop (mkF m 49 #[.val (.ref b), .val (.int (4 : Int32)), .val (.ref y), .val (.int (1 : Int32)), .val (.int (0 : Int32)), .val (.int (9 : Int32)), .val (.int (3 : Int32)), .val (.int (3 : Int32)), .unset, .unset, .unset] [])) _
    refine XS.goto X0.here hx rfl (pc0 := 49) (pc' := 30) rfl (hb hby d21_49) (by decide) (by decide) ?_
    show Steps p.tables e below (s₁.setTop (mkF m 30 #[.val (.ref b), .val (.int (4 : Int32)), .val (.ref y), .val (.int (1 : Int32)), .val (.int (0 : Int32)), .val (.int (9 : Int32)), .val (.int (3 : Int32)), .val (.int (3 : Int32)), .unset, .unset, .unset] [])) _
    refine XS.iinc X0.here hx rfl (hb hby d21_30) rfl (l' := #[.val (.ref b), .val (.int (4 : Int32)), .val (.ref y), .val (.int (1 : Int32)), .val (.int (0 : Int32)), .val (.int (9 : Int32)), .val (.int (3 : Int32)), .val (.int (4 : Int32)), .unset, .unset, .unset]) rfl ?_
    show Steps p.tables e below (s₁.setTop (mkF m 33 #[.val (.ref b), .val (.int (4 : Int32)), .val (.ref y), .val (.int (1 : Int32)), .val (.int (0 : Int32)), .val (.int (9 : Int32)), .val (.int (3 : Int32)), .val (.int (4 : Int32)), .unset, .unset, .unset] [])) _
    refine XS.iload X0.here hx rfl (hb hby d21_33) rfl ?_
    show Steps p.tables e below (s₁.setTop (mkF m 35 #[.val (.ref b), .val (.int (4 : Int32)), .val (.ref y), .val (.int (1 : Int32)), .val (.int (0 : Int32)), .val (.int (9 : Int32)), .val (.int (3 : Int32)), .val (.int (4 : Int32)), .unset, .unset, .unset] [(.int (4 : Int32))])) _
    refine XS.iload X0.here hx rfl (hb hby d21_35) rfl ?_
    show Steps p.tables e below (s₁.setTop (mkF m 37 #[.val (.ref b), .val (.int (4 : Int32)), .val (.ref y), .val (.int (1 : Int32)), .val (.int (0 : Int32)), .val (.int (9 : Int32)), .val (.int (3 : Int32)), .val (.int (4 : Int32)), .unset, .unset, .unset] [(.int (3 : Int32)), (.int (4 : Int32))])) _
    refine XS.icmpYes X0.here hx rfl (pc0 := 37) (pc' := 52) rfl (hb hby d21_37) rfl (tlt (by decide : (3 : Int32) < (4 : Int32))).2.2.1 (by decide) (by decide) ?_
    show Steps p.tables e below (s₁.setTop (mkF m 52 #[.val (.ref b), .val (.int (4 : Int32)), .val (.ref y), .val (.int (1 : Int32)), .val (.int (0 : Int32)), .val (.int (9 : Int32)), .val (.int (3 : Int32)), .val (.int (4 : Int32)), .unset, .unset, .unset] [])) _
    refine XS.iload X0.here hx rfl (hb hby d21_52) rfl ?_
    show Steps p.tables e below (s₁.setTop (mkF m 54 #[.val (.ref b), .val (.int (4 : Int32)), .val (.ref y), .val (.int (1 : Int32)), .val (.int (0 : Int32)), .val (.int (9 : Int32)), .val (.int (3 : Int32)), .val (.int (4 : Int32)), .unset, .unset, .unset] [(.int (4 : Int32))])) _
    refine XS.iload X0.here hx rfl (hb hby d21_54) rfl ?_
    show Steps p.tables e below (s₁.setTop (mkF m 56 #[.val (.ref b), .val (.int (4 : Int32)), .val (.ref y), .val (.int (1 : Int32)), .val (.int (0 : Int32)), .val (.int (9 : Int32)), .val (.int (3 : Int32)), .val (.int (4 : Int32)), .unset, .unset, .unset] [(.int (3 : Int32)), (.int (4 : Int32))])) _
    refine XS.icmpYes X0.here hx rfl (pc0 := 56) (pc' := 113) rfl (hb hby d21_56) rfl (tlt (by decide : (3 : Int32) < (4 : Int32))).2.2.1 (by decide) (by decide) ?_
    show Steps p.tables e below (s₁.setTop (mkF m 113 #[.val (.ref b), .val (.int (4 : Int32)), .val (.ref y), .val (.int (1 : Int32)), .val (.int (0 : Int32)), .val (.int (9 : Int32)), .val (.int (3 : Int32)), .val (.int (4 : Int32)), .unset, .unset, .unset] [])) _
    refine XS.iinc X0.here hx rfl (hb hby d21_113) rfl (l' := #[.val (.ref b), .val (.int (4 : Int32)), .val (.ref y), .val (.int (1 : Int32)), .val (.int (0 : Int32)), .val (.int (9 : Int32)), .val (.int (3 : Int32)), .val (.int (5 : Int32)), .unset, .unset, .unset]) rfl ?_
    show Steps p.tables e below (s₁.setTop (mkF m 116 #[.val (.ref b), .val (.int (4 : Int32)), .val (.ref y), .val (.int (1 : Int32)), .val (.int (0 : Int32)), .val (.int (9 : Int32)), .val (.int (3 : Int32)), .val (.int (5 : Int32)), .unset, .unset, .unset] [])) _
    refine XS.goto X0.here hx rfl (pc0 := 116) (pc' := 14) rfl (hb hby d21_116) (by decide) (by decide) ?_
    show Steps p.tables e below (s₁.setTop (mkF m 14 #[.val (.ref b), .val (.int (4 : Int32)), .val (.ref y), .val (.int (1 : Int32)), .val (.int (0 : Int32)), .val (.int (9 : Int32)), .val (.int (3 : Int32)), .val (.int (5 : Int32)), .unset, .unset, .unset] [])) _
    refine XS.iload X0.here hx rfl (hb hby d21_14) rfl ?_
    show Steps p.tables e below (s₁.setTop (mkF m 16 #[.val (.ref b), .val (.int (4 : Int32)), .val (.ref y), .val (.int (1 : Int32)), .val (.int (0 : Int32)), .val (.int (9 : Int32)), .val (.int (3 : Int32)), .val (.int (5 : Int32)), .unset, .unset, .unset] [(.int (5 : Int32))])) _
    refine XS.iload X0.here hx rfl (hb hby d21_16) rfl ?_
    show Steps p.tables e below (s₁.setTop (mkF m 18 #[.val (.ref b), .val (.int (4 : Int32)), .val (.ref y), .val (.int (1 : Int32)), .val (.int (0 : Int32)), .val (.int (9 : Int32)), .val (.int (3 : Int32)), .val (.int (5 : Int32)), .unset, .unset, .unset] [(.int (3 : Int32)), (.int (5 : Int32))])) _
    refine XS.icmpYes X0.here hx rfl (pc0 := 18) (pc' := 119) rfl (hb hby d21_18) rfl (tlt (by decide : (3 : Int32) < (5 : Int32))).2.2.1 (by decide) (by decide) ?_
    show Steps p.tables e below (s₁.setTop (mkF m 119 #[.val (.ref b), .val (.int (4 : Int32)), .val (.ref y), .val (.int (1 : Int32)), .val (.int (0 : Int32)), .val (.int (9 : Int32)), .val (.int (3 : Int32)), .val (.int (5 : Int32)), .unset, .unset, .unset] [])) _
    refine XS.iconst X0.here hx rfl (hb hby d21_119) ?_
    show Steps p.tables e below (s₁.setTop (mkF m 120 #[.val (.ref b), .val (.int (4 : Int32)), .val (.ref y), .val (.int (1 : Int32)), .val (.int (0 : Int32)), .val (.int (9 : Int32)), .val (.int (3 : Int32)), .val (.int (5 : Int32)), .unset, .unset, .unset] [(.int (-1 : Int32))])) _
    exact retI X0 hx Bd.returns (hb hby d21_120) hr
  · have eF : (s₁.setFrames fs).heap = h0 := e0
    exact ⟨rfl, N0, eF⟩
set_option maxRecDepth 65536 in
set_option maxHeartbeats 40000000 in
theorem rmIx2_9 (l : Launch) (Z : State) (a0 : Array Value) (hw : ∀ d ∈ tables_1, d.before a0 Z = true) (ws : List Jvm.Cond) (n0 : Nat) (h0 : Heap) (O : Old Z n0 h0) (i_COMPACT_STRINGS : Int32) (w_instance : Addr) (w_A : Addr) (W : OwW Z i_COMPACT_STRINGS w_instance w_A) (b : Addr) (k : ClassId) (y : Addr) (ky : ClassId) (Va : Arv Z h0 b k .byte (4 : Int32) [(.int (53 : Int32)), (.int (46 : Int32)), (.int (48 : Int32)), (.int (51 : Int32))] (.int 0)) (Vay : Arv Z h0 y ky .byte (1 : Int32) [(.int (9 : Int32))] (.int 0)) :
    OwCon l (⟨"java/lang/StringLatin1", "indexOf", "([B[B)I"⟩ : MethodName) jdk_43_method_24_code 2 (some .int) ws ({ frames := 1, cells := 0, slots := 0, locals := 22 } : Room) #[(.ref b), (.ref y)] Z h0 (OwQ (some (.int (-1 : Int32))) h0 n0) := by
  refine MetFree.of_bodySF (plainFor_of_name owpn20) hisR ?_
  intro p e s m args below meth c s₁ Bd hml0 hP hK
  obtain ⟨rfl, hZ, hh⟩ := hP
  have hx := Bd.exec
  have hby := Bd.bytes
  have hml : c.maxLocals = 2 := hml0
  have hown : s.vm.findClass "java/lang/StringLatin1" = some m.cls := findClass_of_methodNamed Bd.named
  have hnm := (name_of_methodNamed Bd.named Bd.method).1
  have X0 : Stand p l e ({ frames := 1, cells := 0, slots := 0, locals := 22 } : Room) s m #[(.ref b), (.ref y)] below meth c s₁ [] 0 0 := Stand.of_body Bd
  have e0 : s₁.heap = h0 := by rw [← hh, Bd.state]; rfl
  have N0 := Fr.nil n0
  have WW := W
  obtain ⟨nz_i_COMPACT_STRINGS, E_w_instance, E_w_A, S_String_COMPACT_STRINGS, S_CharacterDataLatin1_instance, S_CharacterDataLatin1_A, Ta, -⟩ := WW
  have ef : entryFrame m #[(.ref b), (.ref y)] 2 = mkF m 0 #[.val (.ref b), .val (.ref y)] [] := by first | (simp [entryFrame, mkF, argsToLocals, Value.category]; done) | rfl
  have pre0 : ∀ t, Steps p.tables e below (s₁.setTop (mkF m 0 #[.val (.ref b), .val (.ref y)] [])) t → Steps p.tables e below (s₁.setTop (entryFrame m #[(.ref b), (.ref y)] 2)) t := fun t k => castTop ef k
  obtain ⟨cl1, Ar1, q1, Sz1, Nn1, Hs1, -⟩ := id Vay
  obtain ⟨cl2, Ar2, q2, Sz2, Nn2, Hs2, -⟩ := id Va
  obtain ⟨cl3, Ar3, q3, Sz3, Nn3, Hs3, -⟩ := id Va
  obtain ⟨cl4, Ar4, q4, Sz4, Nn4, Hs4, -⟩ := id Vay
  obtain ⟨_, _, ⟨T5, L5, k5, n5⟩, -, X5, ⟨Lc5, hQ5, l5, y5, z5⟩, st5⟩ := Jvm.LawKit.callS X0 hx (y := (⟨"java/lang/StringLatin1", "indexOf", "([BI[BII)I"⟩ : MethodName)) hown (mvT hZ (hw _ (List.mem_of_getElem? (i := 120) rfl))) (mvT hZ (hw _ (List.mem_of_getElem? (i := 121) rfl))) (mvT hZ (hw _ (List.mem_of_getElem? (i := 69) rfl))) (mvT hZ (hw _ (List.mem_of_getElem? (i := 122) rfl))) (by decide) (backOf (W := 0) (rmIx5_9 l Z a0 hw [] n0 h0 O i_COMPACT_STRINGS w_instance w_A W b k y ky Va Vay) hZ (hw _ (List.mem_of_getElem? (i := 122) rfl)) (hw _ (List.mem_of_getElem? (i := 69) rfl)) (by decide) (by decide)) (g := (mkF m 21 #[.val (.ref b), .val (.ref y)] [(.int (0 : Int32)), (.int (1 : Int32)), (.ref y), (.int (4 : Int32)), (.ref b)])) rfl (by rw [hml]; rfl) (argsL := [(.ref b), (.int (4 : Int32)), (.ref y), (.int (1 : Int32)), (.int (0 : Int32))]) (rest := []) (lenOf owpd8 rfl) rfl (by show 2 * 0 + _ ≤ _; exact Nat.le_of_eq rfl) (hb hby d20_21) (fun _ _ => ⟨rfl, e0, (by decide : 0 + 0 ≤ _), (by decide : 0 + 0 ≤ _)⟩)
  dsimp only [Pt.U, Pt.locs, Pt.cells, Pt.slots] at X5 l5 y5 z5 st5 hQ5
  subst l5 y5 z5
  obtain ⟨rfl, Nq5, e5⟩ := hQ5
  have N5 := Fr.app N0 Nq5
  obtain ⟨fs, hr, hrun, hended, hW, hsame⟩ := X5.leave (v := some (.int (-1 : Int32))) (fun h => by rw [Bd.returns] at h; cases h)
  refine ⟨_, _, pre0 _ ?_, hrun, hended, _, _, rfl, ?_, ⟨_, rfl⟩, hW, hsame.mono (by decide) (by decide)⟩
  · show Steps p.tables e below (s₁.setTop (mkF m 0 #[.val (.ref b), .val (.ref y)] [])) _
    refine XS.aloadN X0.here hx rfl (hb hby d20_0) rfl rfl ?_
    show Steps p.tables e below (s₁.setTop (mkF m 1 #[.val (.ref b), .val (.ref y)] [(.ref y)])) _
    refine X0.arraylength hx (by rw [e0]; exact Ar1.1) (State.isArrayOf_alike hZ.alike Ar1.2.1) (g := (mkF m 1 #[.val (.ref b), .val (.ref y)] [(.ref y)])) rfl rfl (hb hby d20_1) _ ?_
    rw [len_of Sz1 Nn1]
    show Steps p.tables e below (s₁.setTop (mkF m 2 #[.val (.ref b), .val (.ref y)] [(.int (1 : Int32))])) _
    refine XS.ifYes X0.here hx rfl (pc0 := 2) (pc' := 7) rfl (hb hby d20_2) rfl ((if0 _ _).trans (feq (by decide : ¬ ((1 : Int32) = (0 : Int32)))).2) (by decide) (by decide) ?_
    show Steps p.tables e below (s₁.setTop (mkF m 7 #[.val (.ref b), .val (.ref y)] [])) _
    refine XS.aloadN X0.here hx rfl (hb hby d20_7) rfl rfl ?_
    show Steps p.tables e below (s₁.setTop (mkF m 8 #[.val (.ref b), .val (.ref y)] [(.ref b)])) _
    refine X0.arraylength hx (by rw [e0]; exact Ar2.1) (State.isArrayOf_alike hZ.alike Ar2.2.1) (g := (mkF m 8 #[.val (.ref b), .val (.ref y)] [(.ref b)])) rfl rfl (hb hby d20_8) _ ?_
    rw [len_of Sz2 Nn2]
    show Steps p.tables e below (s₁.setTop (mkF m 9 #[.val (.ref b), .val (.ref y)] [(.int (4 : Int32))])) _
    refine XS.ifYes X0.here hx rfl (pc0 := 9) (pc' := 14) rfl (hb hby d20_9) rfl ((if0 _ _).trans (feq (by decide : ¬ ((4 : Int32) = (0 : Int32)))).2) (by decide) (by decide) ?_
    show Steps p.tables e below (s₁.setTop (mkF m 14 #[.val (.ref b), .val (.ref y)] [])) _
    refine XS.aloadN X0.here hx rfl (hb hby d20_14) rfl rfl ?_
    show Steps p.tables e below (s₁.setTop (mkF m 15 #[.val (.ref b), .val (.ref y)] [(.ref b)])) _
    refine XS.aloadN X0.here hx rfl (hb hby d20_15) rfl rfl ?_
    show Steps p.tables e below (s₁.setTop (mkF m 16 #[.val (.ref b), .val (.ref y)] [(.ref b), (.ref b)])) _
    refine X0.arraylength hx (by rw [e0]; exact Ar3.1) (State.isArrayOf_alike hZ.alike Ar3.2.1) (g := (mkF m 16 #[.val (.ref b), .val (.ref y)] [(.ref b), (.ref b)])) rfl rfl (hb hby d20_16) _ ?_
    rw [len_of Sz3 Nn3]
    show Steps p.tables e below (s₁.setTop (mkF m 17 #[.val (.ref b), .val (.ref y)] [(.int (4 : Int32)), (.ref b)])) _
    refine XS.aloadN X0.here hx rfl (hb hby d20_17) rfl rfl ?_
    show Steps p.tables e below (s₁.setTop (mkF m 18 #[.val (.ref b), .val (.ref y)] [(.ref y), (.int (4 : Int32)), (.ref b)])) _
    refine XS.aloadN X0.here hx rfl (hb hby d20_18) rfl rfl ?_
    show Steps p.tables e below (s₁.setTop (mkF m 19 #[.val (.ref b), .val (.ref y)] [(.ref y), (.ref y), (.int (4 : Int32)), (.ref b)])) _
    refine X0.arraylength hx (by rw [e0]; exact Ar4.1) (State.isArrayOf_alike hZ.alike Ar4.2.1) (g := (mkF m 19 #[.val (.ref b), .val (.ref y)] [(.ref y), (.ref y), (.int (4 : Int32)), (.ref b)])) rfl rfl (hb hby d20_19) _ ?_
    rw [len_of Sz4 Nn4]
    show Steps p.tables e below (s₁.setTop (mkF m 20 #[.val (.ref b), .val (.ref y)] [(.int (1 : Int32)), (.ref y), (.int (4 : Int32)), (.ref b)])) _
    refine XS.iconst X0.here hx rfl (hb hby d20_20) ?_
    show Steps p.tables e below (s₁.setTop (mkF m 21 #[.val (.ref b), .val (.ref y)] [(.int (0 : Int32)), (.int (1 : Int32)), (.ref y), (.int (4 : Int32)), (.ref b)])) _
    refine st5 _ ?_
    show Steps p.tables e below (T5.setTop (mkF m 24 #[.val (.ref b), .val (.ref y)] [(.int (-1 : Int32))])) _
    exact retI X5 hx Bd.returns (hb hby d20_24) hr
  · have eF : (T5.setFrames fs).heap = h0 := e5
    exact ⟨rfl, N5, eF⟩
set_option maxRecDepth 65536 in
set_option maxHeartbeats 40000000 in
theorem rmIx_9 (l : Launch) (Z : State) (a0 : Array Value) (hw : ∀ d ∈ tables_1, d.before a0 Z = true) (ws : List Jvm.Cond) (n0 : Nat) (h0 : Heap) (O : Old Z n0 h0) (i_COMPACT_STRINGS : Int32) (w_instance : Addr) (w_A : Addr) (W : OwW Z i_COMPACT_STRINGS w_instance w_A) (a b : Addr) (k : ClassId) (x y : Addr) (ky : ClassId) (Es : Exa Z h0 a "java/lang/String") (Fc : Fld Z h0 a "java/lang/String" "coder" "B" (.int (0 : Int32))) (Fv : Fld Z h0 a "java/lang/String" "value" "[B" (.ref b)) (Va : Arv Z h0 b k .byte (4 : Int32) [(.int (53 : Int32)), (.int (46 : Int32)), (.int (48 : Int32)), (.int (51 : Int32))] (.int 0)) (Esy : Exa Z h0 x "java/lang/String") (Fcy : Fld Z h0 x "java/lang/String" "coder" "B" (.int (0 : Int32))) (Fvy : Fld Z h0 x "java/lang/String" "value" "[B" (.ref y)) (Vay : Arv Z h0 y ky .byte (1 : Int32) [(.int (9 : Int32))] (.int 0)) :
    OwCon l (⟨"java/lang/String", "indexOf", "(Ljava/lang/String;)I"⟩ : MethodName) jdk_42_method_84_code 3 (some .int) ws ({ frames := 2, cells := 0, slots := 0, locals := 35 } : Room) #[(.ref a), (.ref x)] Z h0 (OwQ (some (.int (-1 : Int32))) h0 n0) := by
  refine MetFree.of_bodySF (plainFor_of_name owpn19) hisR ?_
  intro p e s m args below meth c s₁ Bd hml0 hP hK
  obtain ⟨rfl, hZ, hh⟩ := hP
  have hx := Bd.exec
  have hby := Bd.bytes
  have hml : c.maxLocals = 3 := hml0
  have hown : s.vm.findClass "java/lang/String" = some m.cls := findClass_of_methodNamed Bd.named
  have hnm := (name_of_methodNamed Bd.named Bd.method).1
  have X0 : Stand p l e ({ frames := 2, cells := 0, slots := 0, locals := 35 } : Room) s m #[(.ref a), (.ref x)] below meth c s₁ [] 0 0 := Stand.of_body Bd
  have e0 : s₁.heap = h0 := by rw [← hh, Bd.state]; rfl
  have N0 := Fr.nil n0
  have WW := W
  obtain ⟨nz_i_COMPACT_STRINGS, E_w_instance, E_w_A, S_String_COMPACT_STRINGS, S_CharacterDataLatin1_instance, S_CharacterDataLatin1_A, Ta, -⟩ := WW
  have ef : entryFrame m #[(.ref a), (.ref x)] 3 = mkF m 0 #[.val (.ref a), .val (.ref x), .unset] [] := by first | (simp [entryFrame, mkF, argsToLocals, Value.category]; done) | rfl
  have pre0 : ∀ t, Steps p.tables e below (s₁.setTop (mkF m 0 #[.val (.ref a), .val (.ref x), .unset] [])) t → Steps p.tables e below (s₁.setTop (entryFrame m #[(.ref a), (.ref x)] 3)) t := fun t k => castTop ef k
  obtain ⟨cq1, kq1, q1a, q1b, q1c⟩ := isOf hZ e0 Es
  obtain ⟨_, _, ⟨T1, L1, k1, n1⟩, -, X1, ⟨Lc1, hQ1, l1, y1, z1⟩, st1⟩ := X0.virtualBack hx (y := (⟨"java/lang/String", "coder", "()B"⟩ : MethodName)) (z := (⟨"java/lang/String", "coder", "()B"⟩ : MethodName)) hown (mvT hZ (hw _ (List.mem_of_getElem? (i := 92) rfl))) (mvT hZ (hw _ (List.mem_of_getElem? (i := 93) rfl))) (notFace_of_selects (args := #[]) (mvT hZ (hw _ (List.mem_of_getElem? (i := 95) rfl)))) (mvT hZ (hw _ (List.mem_of_getElem? (i := 95) rfl))) (mvT hZ (hw _ (List.mem_of_getElem? (i := 94) rfl))) (by decide) (backOf (W := 0) (rmCoder_t l Z a0 hw [] n0 h0 O i_COMPACT_STRINGS w_instance w_A W a b k Es Fc Fv Va) hZ (hw _ (List.mem_of_getElem? (i := 96) rfl)) (hw _ (List.mem_of_getElem? (i := 28) rfl)) (by decide) (by decide)) q1a q1c (g := (mkF m 1 #[.val (.ref a), .val (.ref x), .unset] [(.ref a)])) rfl (by rw [hml]; rfl) (Steps.refl _) (argsL := []) (rest := []) (lenOf owpd1 rfl) rfl (by show 2 * 0 + _ ≤ _; exact Nat.le_of_eq rfl) (hb hby d19_1) (fun _ _ => ⟨rfl, e0, (by decide : 0 + 0 ≤ _), (by decide : 0 + 0 ≤ _)⟩)
  dsimp only [Pt.U, Pt.locs, Pt.cells, Pt.slots] at X1 l1 y1 z1 st1 hQ1
  subst l1 y1 z1
  obtain ⟨rfl, Nq1, e1⟩ := hQ1
  have N1 := Fr.app N0 Nq1
  obtain ⟨cq2, kq2, q2a, q2b, q2c⟩ := isOf hZ e1 Esy
  obtain ⟨_, _, ⟨T2, L2, k2, n2⟩, -, X2, ⟨Lc2, hQ2, l2, y2, z2⟩, st2⟩ := X1.virtualBack hx (y := (⟨"java/lang/String", "coder", "()B"⟩ : MethodName)) (z := (⟨"java/lang/String", "coder", "()B"⟩ : MethodName)) hown (mvT hZ (hw _ (List.mem_of_getElem? (i := 92) rfl))) (mvT hZ (hw _ (List.mem_of_getElem? (i := 93) rfl))) (notFace_of_selects (args := #[]) (mvT hZ (hw _ (List.mem_of_getElem? (i := 95) rfl)))) (mvT hZ (hw _ (List.mem_of_getElem? (i := 95) rfl))) (mvT hZ (hw _ (List.mem_of_getElem? (i := 94) rfl))) (by decide) (backOf (W := 1) (rmCoder_9 l Z a0 hw [] n0 h0 O i_COMPACT_STRINGS w_instance w_A W x y ky Esy Fcy Fvy Vay) hZ (hw _ (List.mem_of_getElem? (i := 96) rfl)) (hw _ (List.mem_of_getElem? (i := 28) rfl)) (by decide) (by decide)) q2a q2c (g := (mkF m 7 #[.val (.ref a), .val (.ref x), .val (.int (0 : Int32))] [(.ref x), (.int (0 : Int32))])) rfl (by rw [hml]; rfl) (Steps.refl _) (argsL := []) (rest := [(.int (0 : Int32))]) (lenOf owpd1 rfl) rfl (by show 2 * 0 + _ ≤ _; exact Nat.le_of_eq rfl) (hb hby d19_7) (fun _ _ => ⟨rfl, e1, (by decide : 0 + 0 ≤ _), (by decide : 0 + 0 ≤ _)⟩)
  dsimp only [Pt.U, Pt.locs, Pt.cells, Pt.slots] at X2 l2 y2 z2 st2 hQ2
  subst l2 y2 z2
  obtain ⟨rfl, Nq2, e2⟩ := hQ2
  have N2 := Fr.app N1 Nq2
  obtain ⟨cq3, kq3, q3a, q3b, q3c⟩ := isOf hZ e2 Es
  obtain ⟨_, _, ⟨T3, L3, k3, n3⟩, -, X3, ⟨Lc3, hQ3, l3, y3, z3⟩, st3⟩ := X2.virtualBack hx (y := (⟨"java/lang/String", "isLatin1", "()Z"⟩ : MethodName)) (z := (⟨"java/lang/String", "isLatin1", "()Z"⟩ : MethodName)) hown (mvT hZ (hw _ (List.mem_of_getElem? (i := 59) rfl))) (mvT hZ (hw _ (List.mem_of_getElem? (i := 60) rfl))) (notFace_of_selects (args := #[]) (mvT hZ (hw _ (List.mem_of_getElem? (i := 62) rfl)))) (mvT hZ (hw _ (List.mem_of_getElem? (i := 62) rfl))) (mvT hZ (hw _ (List.mem_of_getElem? (i := 61) rfl))) (by decide) (backOf (W := 0) (rmLat_t l Z a0 hw [] n0 h0 O i_COMPACT_STRINGS w_instance w_A W a b k Es Fc Fv Va) hZ (hw _ (List.mem_of_getElem? (i := 63) rfl)) (hw _ (List.mem_of_getElem? (i := 28) rfl)) (by decide) (by decide)) q3a q3c (g := (mkF m 14 #[.val (.ref a), .val (.ref x), .val (.int (0 : Int32))] [(.ref a)])) rfl (by rw [hml]; rfl) (Steps.refl _) (argsL := []) (rest := []) (lenOf owpd5 rfl) rfl (by show 2 * 0 + _ ≤ _; exact Nat.le_of_eq rfl) (hb hby d19_14) (fun _ _ => ⟨rfl, e2, (by decide : 0 + 0 ≤ _), (by decide : 0 + 0 ≤ _)⟩)
  dsimp only [Pt.U, Pt.locs, Pt.cells, Pt.slots] at X3 l3 y3 z3 st3 hQ3
  subst l3 y3 z3
  obtain ⟨rfl, Nq3, e3⟩ := hQ3
  have N3 := Fr.app N2 Nq3
  obtain ⟨T4, X4, e4, st4⟩ := getF X3 hx hZ hown (host := "") (Or.inl (hw _ (List.mem_of_getElem? (i := 66) rfl))) Via.refl e3 Fv (g := (mkF m 21 #[.val (.ref a), .val (.ref x), .val (.int (0 : Int32))] [(.ref a)])) rfl rfl (hb hby d19_21)
  obtain ⟨T5, X5, e5, st5⟩ := getF X4 hx hZ hown (host := "") (Or.inl (hw _ (List.mem_of_getElem? (i := 66) rfl))) Via.refl e4 Fvy (g := (mkF m 25 #[.val (.ref a), .val (.ref x), .val (.int (0 : Int32))] [(.ref x), (.ref b)])) rfl rfl (hb hby d19_25)
  obtain ⟨_, _, ⟨T6, L6, k6, n6⟩, -, X6, ⟨Lc6, hQ6, l6, y6, z6⟩, st6⟩ := Jvm.LawKit.callS X5 hx (y := (⟨"java/lang/StringLatin1", "indexOf", "([B[B)I"⟩ : MethodName)) hown (mvT hZ (hw _ (List.mem_of_getElem? (i := 117) rfl))) (mvT hZ (hw _ (List.mem_of_getElem? (i := 118) rfl))) (mvT hZ (hw _ (List.mem_of_getElem? (i := 69) rfl))) (mvT hZ (hw _ (List.mem_of_getElem? (i := 119) rfl))) (by decide) (backOf (W := 0) (rmIx2_9 l Z a0 hw [] n0 h0 O i_COMPACT_STRINGS w_instance w_A W b k y ky Va Vay) hZ (hw _ (List.mem_of_getElem? (i := 119) rfl)) (hw _ (List.mem_of_getElem? (i := 69) rfl)) (by decide) (by decide)) (g := (mkF m 28 #[.val (.ref a), .val (.ref x), .val (.int (0 : Int32))] [(.ref y), (.ref b)])) rfl (by rw [hml]; rfl) (argsL := [(.ref b), (.ref y)]) (rest := []) (lenOf owpd9 rfl) rfl (by show 2 * 0 + _ ≤ _; exact Nat.le_of_eq rfl) (hb hby d19_28) (fun _ _ => ⟨rfl, e5, (by decide : 0 + 0 ≤ _), (by decide : 0 + 0 ≤ _)⟩)
  dsimp only [Pt.U, Pt.locs, Pt.cells, Pt.slots] at X6 l6 y6 z6 st6 hQ6
  subst l6 y6 z6
  obtain ⟨rfl, Nq6, e6⟩ := hQ6
  have N6 := Fr.app N3 Nq6
  obtain ⟨fs, hr, hrun, hended, hW, hsame⟩ := X6.leave (v := some (.int (-1 : Int32))) (fun h => by rw [Bd.returns] at h; cases h)
  refine ⟨_, _, pre0 _ ?_, hrun, hended, _, _, rfl, ?_, ⟨_, rfl⟩, hW, hsame.mono (by decide) (by decide)⟩
  · show Steps p.tables e below (s₁.setTop (mkF m 0 #[.val (.ref a), .val (.ref x), .unset] [])) _
    refine XS.aloadN X0.here hx rfl (hb hby d19_0) rfl rfl ?_
    show Steps p.tables e below (s₁.setTop (mkF m 1 #[.val (.ref a), .val (.ref x), .unset] [(.ref a)])) _
    refine st1.trans ?_
    show Steps p.tables e below (T1.setTop (mkF m 4 #[.val (.ref a), .val (.ref x), .unset] [(.int (0 : Int32))])) _
    refine XS.istoreN X1.here hx rfl (hb hby d19_4) rfl (l' := #[.val (.ref a), .val (.ref x), .val (.int (0 : Int32))]) rfl ?_
    show Steps p.tables e below (T1.setTop (mkF m 5 #[.val (.ref a), .val (.ref x), .val (.int (0 : Int32))] [])) _
    refine XS.iloadN X1.here hx rfl (hb hby d19_5) rfl ?_
    show Steps p.tables e below (T1.setTop (mkF m 6 #[.val (.ref a), .val (.ref x), .val (.int (0 : Int32))] [(.int (0 : Int32))])) _
    refine XS.aloadN X1.here hx rfl (hb hby d19_6) rfl rfl ?_
    show Steps p.tables e below (T1.setTop (mkF m 7 #[.val (.ref a), .val (.ref x), .val (.int (0 : Int32))] [(.ref x), (.int (0 : Int32))])) _
    refine st2.trans ?_
    show Steps p.tables e below (T2.setTop (mkF m 10 #[.val (.ref a), .val (.ref x), .val (.int (0 : Int32))] [(.int (0 : Int32)), (.int (0 : Int32))])) _
    refine XS.icmpNo X2.here hx rfl (hb hby d19_10) rfl (teq (by decide : (0 : Int32) = (0 : Int32))).2 ?_
    show Steps p.tables e below (T2.setTop (mkF m 13 #[.val (.ref a), .val (.ref x), .val (.int (0 : Int32))] [])) _
    refine XS.aloadN X2.here hx rfl (hb hby d19_13) rfl rfl ?_
    show Steps p.tables e below (T2.setTop (mkF m 14 #[.val (.ref a), .val (.ref x), .val (.int (0 : Int32))] [(.ref a)])) _
    refine st3.trans ?_
    show Steps p.tables e below (T3.setTop (mkF m 17 #[.val (.ref a), .val (.ref x), .val (.int (0 : Int32))] [(.int (1 : Int32))])) _
    refine XS.ifNo X3.here hx rfl (hb hby d19_17) rfl ((if0 _ _).trans (feq (by decide : ¬ ((1 : Int32) = (0 : Int32)))).1) ?_
    show Steps p.tables e below (T3.setTop (mkF m 20 #[.val (.ref a), .val (.ref x), .val (.int (0 : Int32))] [])) _
    refine XS.aloadN X3.here hx rfl (hb hby d19_20) rfl rfl ?_
    show Steps p.tables e below (T3.setTop (mkF m 21 #[.val (.ref a), .val (.ref x), .val (.int (0 : Int32))] [(.ref a)])) _
    refine st4 _ ?_
    show Steps p.tables e below (T4.setTop (mkF m 24 #[.val (.ref a), .val (.ref x), .val (.int (0 : Int32))] [(.ref b)])) _
    refine XS.aloadN X4.here hx rfl (hb hby d19_24) rfl rfl ?_
    show Steps p.tables e below (T4.setTop (mkF m 25 #[.val (.ref a), .val (.ref x), .val (.int (0 : Int32))] [(.ref x), (.ref b)])) _
    refine st5 _ ?_
    show Steps p.tables e below (T5.setTop (mkF m 28 #[.val (.ref a), .val (.ref x), .val (.int (0 : Int32))] [(.ref y), (.ref b)])) _
    refine st6 _ ?_
    show Steps p.tables e below (T6.setTop (mkF m 31 #[.val (.ref a), .val (.ref x), .val (.int (0 : Int32))] [(.int (-1 : Int32))])) _
    refine XS.goto X6.here hx rfl (pc0 := 31) (pc' := 45) rfl (hb hby d19_31) (by decide) (by decide) ?_
    show Steps p.tables e below (T6.setTop (mkF m 45 #[.val (.ref a), .val (.ref x), .val (.int (0 : Int32))] [(.int (-1 : Int32))])) _
    exact retI X6 hx Bd.returns (hb hby d19_45) hr
  · have eF : (T6.setFrames fs).heap = h0 := e6
    exact ⟨rfl, N6, eF⟩
set_option maxRecDepth 65536 in
set_option maxHeartbeats 40000000 in
theorem rmCon_9 (l : Launch) (Z : State) (a0 : Array Value) (hw : ∀ d ∈ tables_1, d.before a0 Z = true) (ws : List Jvm.Cond) (n0 : Nat) (h0 : Heap) (O : Old Z n0 h0) (i_COMPACT_STRINGS : Int32) (w_instance : Addr) (w_A : Addr) (W : OwW Z i_COMPACT_STRINGS w_instance w_A) (a b : Addr) (k : ClassId) (x y : Addr) (ky : ClassId) (Es : Exa Z h0 a "java/lang/String") (Fc : Fld Z h0 a "java/lang/String" "coder" "B" (.int (0 : Int32))) (Fv : Fld Z h0 a "java/lang/String" "value" "[B" (.ref b)) (Va : Arv Z h0 b k .byte (4 : Int32) [(.int (53 : Int32)), (.int (46 : Int32)), (.int (48 : Int32)), (.int (51 : Int32))] (.int 0)) (Esy : Exa Z h0 x "java/lang/String") (Fcy : Fld Z h0 x "java/lang/String" "coder" "B" (.int (0 : Int32))) (Fvy : Fld Z h0 x "java/lang/String" "value" "[B" (.ref y)) (Vay : Arv Z h0 y ky .byte (1 : Int32) [(.int (9 : Int32))] (.int 0)) :
    OwCon l (⟨"java/lang/String", "contains", "(Ljava/lang/CharSequence;)Z"⟩ : MethodName) jdk_42_method_97_code 2 (some .boolean) ws ({ frames := 3, cells := 0, slots := 0, locals := 49 } : Room) #[(.ref a), (.ref x)] Z h0 (OwQ (some (.int (0 : Int32))) h0 n0) := by
  refine MetFree.of_bodySF (plainFor_of_name owpn17) hisR ?_
  intro p e s m args below meth c s₁ Bd hml0 hP hK
  obtain ⟨rfl, hZ, hh⟩ := hP
  have hx := Bd.exec
  have hby := Bd.bytes
  have hml : c.maxLocals = 2 := hml0
  have hown : s.vm.findClass "java/lang/String" = some m.cls := findClass_of_methodNamed Bd.named
  have hnm := (name_of_methodNamed Bd.named Bd.method).1
  have X0 : Stand p l e ({ frames := 3, cells := 0, slots := 0, locals := 49 } : Room) s m #[(.ref a), (.ref x)] below meth c s₁ [] 0 0 := Stand.of_body Bd
  have e0 : s₁.heap = h0 := by rw [← hh, Bd.state]; rfl
  have N0 := Fr.nil n0
  have WW := W
  obtain ⟨nz_i_COMPACT_STRINGS, E_w_instance, E_w_A, S_String_COMPACT_STRINGS, S_CharacterDataLatin1_instance, S_CharacterDataLatin1_A, Ta, -⟩ := WW
  have ef : entryFrame m #[(.ref a), (.ref x)] 2 = mkF m 0 #[.val (.ref a), .val (.ref x)] [] := by first | (simp [entryFrame, mkF, argsToLocals, Value.category]; done) | rfl
  have pre0 : ∀ t, Steps p.tables e below (s₁.setTop (mkF m 0 #[.val (.ref a), .val (.ref x)] [])) t → Steps p.tables e below (s₁.setTop (entryFrame m #[(.ref a), (.ref x)] 2)) t := fun t k => castTop ef k
  obtain ⟨cq1, kq1, q1a, q1b, q1c⟩ := isOf hZ e0 Esy
  obtain ⟨_, _, ⟨T1, L1, k1, n1⟩, -, X1, ⟨Lc1, hQ1, l1, y1, z1⟩, st1⟩ := X0.interfaceBack hx (xi := (⟨"java/lang/CharSequence", "toString", "()Ljava/lang/String;"⟩ : MethodName)) (y := (⟨"java/lang/String", "toString", "()Ljava/lang/String;"⟩ : MethodName)) hown (mvT hZ (hw _ (List.mem_of_getElem? (i := 103) rfl))) (mvT hZ (hw _ (List.mem_of_getElem? (i := 104) rfl))) (mvT hZ (hw _ (List.mem_of_getElem? (i := 105) rfl))) (mvT hZ (hw _ (List.mem_of_getElem? (i := 106) rfl))) (mvT hZ (hw _ (List.mem_of_getElem? (i := 107) rfl))) (mvT hZ (hw _ (List.mem_of_getElem? (i := 108) rfl))) (mvT hZ (hw _ (List.mem_of_getElem? (i := 109) rfl))) (mvT hZ (hw _ (List.mem_of_getElem? (i := 110) rfl))) (by decide) (backOf (W := 1) (rmToS_9 l Z a0 hw [] n0 h0 O i_COMPACT_STRINGS w_instance w_A W x) hZ (hw _ (List.mem_of_getElem? (i := 111) rfl)) (hw _ (List.mem_of_getElem? (i := 28) rfl)) (by decide) (by decide)) q1a q1b q1c (g := (mkF m 2 #[.val (.ref a), .val (.ref x)] [(.ref x), (.ref a)])) rfl (by rw [hml]; rfl) (Steps.refl _) (argsL := []) (rest := [(.ref a)]) (lenOf owpd10 rfl) rfl (by show 2 * 0 + _ ≤ _; exact Nat.le_of_eq rfl) (hb hby d17_2) (fun _ _ => ⟨rfl, e0, (by decide : 0 + 0 ≤ _), (by decide : 0 + 0 ≤ _)⟩)
  dsimp only [Pt.U, Pt.locs, Pt.cells, Pt.slots] at X1 l1 y1 z1 st1 hQ1
  subst l1 y1 z1
  obtain ⟨rfl, Nq1, e1⟩ := hQ1
  have N1 := Fr.app N0 Nq1
  obtain ⟨cq2, kq2, q2a, q2b, q2c⟩ := isOf hZ e1 Es
  obtain ⟨_, _, ⟨T2, L2, k2, n2⟩, -, X2, ⟨Lc2, hQ2, l2, y2, z2⟩, st2⟩ := X1.virtualBack hx (y := (⟨"java/lang/String", "indexOf", "(Ljava/lang/String;)I"⟩ : MethodName)) (z := (⟨"java/lang/String", "indexOf", "(Ljava/lang/String;)I"⟩ : MethodName)) hown (mvT hZ (hw _ (List.mem_of_getElem? (i := 112) rfl))) (mvT hZ (hw _ (List.mem_of_getElem? (i := 113) rfl))) (notFace_of_selects (args := #[]) (mvT hZ (hw _ (List.mem_of_getElem? (i := 115) rfl)))) (mvT hZ (hw _ (List.mem_of_getElem? (i := 115) rfl))) (mvT hZ (hw _ (List.mem_of_getElem? (i := 114) rfl))) (by decide) (backOf (W := 0) (rmIx_9 l Z a0 hw [] n0 h0 O i_COMPACT_STRINGS w_instance w_A W a b k x y ky Es Fc Fv Va Esy Fcy Fvy Vay) hZ (hw _ (List.mem_of_getElem? (i := 116) rfl)) (hw _ (List.mem_of_getElem? (i := 28) rfl)) (by decide) (by decide)) q2a q2c (g := (mkF m 7 #[.val (.ref a), .val (.ref x)] [(.ref x), (.ref a)])) rfl (by rw [hml]; rfl) (Steps.refl _) (argsL := [(.ref x)]) (rest := []) (lenOf owpd11 rfl) rfl (by show 2 * 0 + _ ≤ _; exact Nat.le_of_eq rfl) (hb hby d17_7) (fun _ _ => ⟨rfl, e1, (by decide : 0 + 0 ≤ _), (by decide : 0 + 0 ≤ _)⟩)
  dsimp only [Pt.U, Pt.locs, Pt.cells, Pt.slots] at X2 l2 y2 z2 st2 hQ2
  subst l2 y2 z2
  obtain ⟨rfl, Nq2, e2⟩ := hQ2
  have N2 := Fr.app N1 Nq2
  obtain ⟨fs, hr, hrun, hended, hW, hsame⟩ := X2.leave (v := some (.int (0 : Int32))) (fun h => by rw [Bd.returns] at h; cases h)
  refine ⟨_, _, pre0 _ ?_, hrun, hended, _, _, rfl, ?_, ⟨_, rfl⟩, hW, hsame.mono (by decide) (by decide)⟩
  · show Steps p.tables e below (s₁.setTop (mkF m 0 #[.val (.ref a), .val (.ref x)] [])) _
    refine XS.aloadN X0.here hx rfl (hb hby d17_0) rfl rfl ?_
    show Steps p.tables e below (s₁.setTop (mkF m 1 #[.val (.ref a), .val (.ref x)] [(.ref a)])) _
    refine XS.aloadN X0.here hx rfl (hb hby d17_1) rfl rfl ?_
    show Steps p.tables e below (s₁.setTop (mkF m 2 #[.val (.ref a), .val (.ref x)] [(.ref x), (.ref a)])) _
    refine st1.trans ?_
    show Steps p.tables e below (T1.setTop (mkF m 7 #[.val (.ref a), .val (.ref x)] [(.ref x), (.ref a)])) _
    refine st2.trans ?_
    show Steps p.tables e below (T2.setTop (mkF m 10 #[.val (.ref a), .val (.ref x)] [(.int (-1 : Int32))])) _
    refine XS.ifYes X2.here hx rfl (pc0 := 10) (pc' := 17) rfl (hb hby d17_10) rfl ((if0 _ _).trans (tlt (by decide : (-1 : Int32) < (0 : Int32))).1) (by decide) (by decide) ?_
    show Steps p.tables e below (T2.setTop (mkF m 17 #[.val (.ref a), .val (.ref x)] [])) _
    refine XS.iconst X2.here hx rfl (hb hby d17_17) ?_
    show Steps p.tables e below (T2.setTop (mkF m 18 #[.val (.ref a), .val (.ref x)] [(.int (0 : Int32))])) _
    exact retN X2 hx (t := .boolean) Bd.returns (by simp) (hb hby d17_18) hr
  · have eF : (T2.setFrames fs).heap = h0 := e2
    exact ⟨rfl, N2, eF⟩
set_option maxRecDepth 65536 in
set_option maxHeartbeats 40000000 in
theorem rmIx5_10 (l : Launch) (Z : State) (a0 : Array Value) (hw : ∀ d ∈ tables_1, d.before a0 Z = true) (ws : List Jvm.Cond) (n0 : Nat) (h0 : Heap) (O : Old Z n0 h0) (i_COMPACT_STRINGS : Int32) (w_instance : Addr) (w_A : Addr) (W : OwW Z i_COMPACT_STRINGS w_instance w_A) (b : Addr) (k : ClassId) (y : Addr) (ky : ClassId) (Va : Arv Z h0 b k .byte (4 : Int32) [(.int (53 : Int32)), (.int (46 : Int32)), (.int (48 : Int32)), (.int (51 : Int32))] (.int 0)) (Vay : Arv Z h0 y ky .byte (1 : Int32) [(.int (10 : Int32))] (.int 0)) :
    OwCon l (⟨"java/lang/StringLatin1", "indexOf", "([BI[BII)I"⟩ : MethodName) jdk_43_method_25_code 11 (some .int) ws ({ frames := 0, cells := 0, slots := 0, locals := 0 } : Room) #[(.ref b), (.int (4 : Int32)), (.ref y), (.int (1 : Int32)), (.int (0 : Int32))] Z h0 (OwQ (some (.int (-1 : Int32))) h0 n0) := by
  refine MetFree.of_bodySF (plainFor_of_name owpn21) hisR ?_
  intro p e s m args below meth c s₁ Bd hml0 hP hK
  obtain ⟨rfl, hZ, hh⟩ := hP
  have hx := Bd.exec
  have hby := Bd.bytes
  have hml : c.maxLocals = 11 := hml0
  have hown : s.vm.findClass "java/lang/StringLatin1" = some m.cls := findClass_of_methodNamed Bd.named
  have hnm := (name_of_methodNamed Bd.named Bd.method).1
  have X0 : Stand p l e ({ frames := 0, cells := 0, slots := 0, locals := 0 } : Room) s m #[(.ref b), (.int (4 : Int32)), (.ref y), (.int (1 : Int32)), (.int (0 : Int32))] below meth c s₁ [] 0 0 := Stand.of_body Bd
  have e0 : s₁.heap = h0 := by rw [← hh, Bd.state]; rfl
  have N0 := Fr.nil n0
  have WW := W
  obtain ⟨nz_i_COMPACT_STRINGS, E_w_instance, E_w_A, S_String_COMPACT_STRINGS, S_CharacterDataLatin1_instance, S_CharacterDataLatin1_A, Ta, -⟩ := WW
  have ef : entryFrame m #[(.ref b), (.int (4 : Int32)), (.ref y), (.int (1 : Int32)), (.int (0 : Int32))] 11 = mkF m 0 #[.val (.ref b), .val (.int (4 : Int32)), .val (.ref y), .val (.int (1 : Int32)), .val (.int (0 : Int32)), .unset, .unset, .unset, .unset, .unset, .unset] [] := by first | (simp [entryFrame, mkF, argsToLocals, Value.category]; done) | rfl
  have pre0 : ∀ t, Steps p.tables e below (s₁.setTop (mkF m 0 #[.val (.ref b), .val (.int (4 : Int32)), .val (.ref y), .val (.int (1 : Int32)), .val (.int (0 : Int32)), .unset, .unset, .unset, .unset, .unset, .unset] [])) t → Steps p.tables e below (s₁.setTop (entryFrame m #[(.ref b), (.int (4 : Int32)), (.ref y), (.int (1 : Int32)), (.int (0 : Int32))] 11)) t := fun t k => castTop ef k
  obtain ⟨cl1, Ar1, q1, Sz1, Nn1, Hs1, -⟩ := id Vay
  have hin1 : ¬ ((0 : Int32) < 0 ∨ cl1.slots.size ≤ ((0 : Int32)).toNatClampNeg) := inb_of Sz1 ⟨by decide, by decide⟩
  have hat1 : cl1.slots[((0 : Int32)).toNatClampNeg]? = some (.int (10 : Int32)) := Has.at Hs1 hin1 rfl
  obtain ⟨cl2, Ar2, q2, Sz2, Nn2, Hs2, -⟩ := id Va
  have hin2 : ¬ ((0 : Int32) < 0 ∨ cl2.slots.size ≤ ((0 : Int32)).toNatClampNeg) := inb_of Sz2 ⟨by decide, by decide⟩
  have hat2 : cl2.slots[((0 : Int32)).toNatClampNeg]? = some (.int (53 : Int32)) := Has.at Hs2 hin2 rfl
  obtain ⟨cl3, Ar3, q3, Sz3, Nn3, Hs3, -⟩ := id Va
  have hin3 : ¬ ((1 : Int32) < 0 ∨ cl3.slots.size ≤ ((1 : Int32)).toNatClampNeg) := inb_of Sz3 ⟨by decide, by decide⟩
  have hat3 : cl3.slots[((1 : Int32)).toNatClampNeg]? = some (.int (46 : Int32)) := Has.at Hs3 hin3 rfl
  obtain ⟨cl4, Ar4, q4, Sz4, Nn4, Hs4, -⟩ := id Va
  have hin4 : ¬ ((2 : Int32) < 0 ∨ cl4.slots.size ≤ ((2 : Int32)).toNatClampNeg) := inb_of Sz4 ⟨by decide, by decide⟩
  have hat4 : cl4.slots[((2 : Int32)).toNatClampNeg]? = some (.int (48 : Int32)) := Has.at Hs4 hin4 rfl
  obtain ⟨cl5, Ar5, q5, Sz5, Nn5, Hs5, -⟩ := id Va
  have hin5 : ¬ ((3 : Int32) < 0 ∨ cl5.slots.size ≤ ((3 : Int32)).toNatClampNeg) := inb_of Sz5 ⟨by decide, by decide⟩
  have hat5 : cl5.slots[((3 : Int32)).toNatClampNeg]? = some (.int (51 : Int32)) := Has.at Hs5 hin5 rfl
  obtain ⟨fs, hr, hrun, hended, hW, hsame⟩ := X0.leave (v := some (.int (-1 : Int32))) (fun h => by rw [Bd.returns] at h; cases h)
  refine ⟨_, _, pre0 _ ?_, hrun, hended, _, _, rfl, ?_, ⟨_, rfl⟩, hW, hsame.mono (by decide) (by decide)⟩
  · show Steps p.tables e below (s₁.setTop (mkF m 0 #[.val (.ref b), .val (.int (4 : Int32)), .val (.ref y), .val (.int (1 : Int32)), .val (.int (0 : Int32)), .unset, .unset, .unset, .unset, .unset, .unset] [])) _
    refine XS.aloadN X0.here hx rfl (hb hby d21_0) rfl rfl ?_
    show Steps p.tables e below (s₁.setTop (mkF m 1 #[.val (.ref b), .val (.int (4 : Int32)), .val (.ref y), .val (.int (1 : Int32)), .val (.int (0 : Int32)), .unset, .unset, .unset, .unset, .unset, .unset] [(.ref y)])) _
    refine XS.iconst X0.here hx rfl (hb hby d21_1) ?_
    show Steps p.tables e below (s₁.setTop (mkF m 2 #[.val (.ref b), .val (.int (4 : Int32)), .val (.ref y), .val (.int (1 : Int32)), .val (.int (0 : Int32)), .unset, .unset, .unset, .unset, .unset, .unset] [(.int (0 : Int32)), (.ref y)])) _
    refine X0.baloadBytes hx (j := (0 : Int32)) (v := (.int (10 : Int32))) (by rw [e0]; exact Ar1.1) (State.isArrayOf_alike hZ.alike Ar1.2.1) Ar1.2.2 hin1 hat1 (g := (mkF m 2 #[.val (.ref b), .val (.int (4 : Int32)), .val (.ref y), .val (.int (1 : Int32)), .val (.int (0 : Int32)), .unset, .unset, .unset, .unset, .unset, .unset] [(.int (0 : Int32)), (.ref y)])) rfl rfl (hb hby d21_2) _ ?_
    show Steps p.tables e below (s₁.setTop (mkF m 3 #[.val (.ref b), .val (.int (4 : Int32)), .val (.ref y), .val (.int (1 : Int32)), .val (.int (0 : Int32)), .unset, .unset, .unset, .unset, .unset, .unset] [(.int (10 : Int32))])) _
    refine XS.istore X0.here hx rfl (hb hby d21_3) rfl (l' := #[.val (.ref b), .val (.int (4 : Int32)), .val (.ref y), .val (.int (1 : Int32)), .val (.int (0 : Int32)), .val (.int (10 : Int32)), .unset, .unset, .unset, .unset, .unset]) rfl ?_
    show Steps p.tables e below (s₁.setTop (mkF m 5 #[.val (.ref b), .val (.int (4 : Int32)), .val (.ref y), .val (.int (1 : Int32)), .val (.int (0 : Int32)), .val (.int (10 : Int32)), .unset, .unset, .unset, .unset, .unset] [])) _
    refine XS.iloadN X0.here hx rfl (hb hby d21_5) rfl ?_
    show Steps p.tables e below (s₁.setTop (mkF m 6 #[.val (.ref b), .val (.int (4 : Int32)), .val (.ref y), .val (.int (1 : Int32)), .val (.int (0 : Int32)), .val (.int (10 : Int32)), .unset, .unset, .unset, .unset, .unset] [(.int (4 : Int32))])) _
    refine XS.iloadN X0.here hx rfl (hb hby d21_6) rfl ?_
    show Steps p.tables e below (s₁.setTop (mkF m 7 #[.val (.ref b), .val (.int (4 : Int32)), .val (.ref y), .val (.int (1 : Int32)), .val (.int (0 : Int32)), .val (.int (10 : Int32)), .unset, .unset, .unset, .unset, .unset] [(.int (1 : Int32)), (.int (4 : Int32))])) _
    refine XS.isub X0.here hx rfl (hb hby d21_7) rfl ?_
    show Steps p.tables e below (s₁.setTop (mkF m 8 #[.val (.ref b), .val (.int (4 : Int32)), .val (.ref y), .val (.int (1 : Int32)), .val (.int (0 : Int32)), .val (.int (10 : Int32)), .unset, .unset, .unset, .unset, .unset] [(.int (3 : Int32))])) _
    refine XS.istore X0.here hx rfl (hb hby d21_8) rfl (l' := #[.val (.ref b), .val (.int (4 : Int32)), .val (.ref y), .val (.int (1 : Int32)), .val (.int (0 : Int32)), .val (.int (10 : Int32)), .val (.int (3 : Int32)), .unset, .unset, .unset, .unset]) rfl ?_
    show Steps p.tables e below (s₁.setTop (mkF m 10 #[.val (.ref b), .val (.int (4 : Int32)), .val (.ref y), .val (.int (1 : Int32)), .val (.int (0 : Int32)), .val (.int (10 : Int32)), .val (.int (3 : Int32)), .unset, .unset, .unset, .unset] [])) _
    refine XS.iload X0.here hx rfl (hb hby d21_10) rfl ?_
    show Steps p.tables e below (s₁.setTop (mkF m 12 #[.val (.ref b), .val (.int (4 : Int32)), .val (.ref y), .val (.int (1 : Int32)), .val (.int (0 : Int32)), .val (.int (10 : Int32)), .val (.int (3 : Int32)), .unset, .unset, .unset, .unset] [(.int (0 : Int32))])) _
    refine XS.istore X0.here hx rfl (hb hby d21_12) rfl (l' := #[.val (.ref b), .val (.int (4 : Int32)), .val (.ref y), .val (.int (1 : Int32)), .val (.int (0 : Int32)), .val (.int (10 : Int32)), .val (.int (3 : Int32)), .val (.int (0 : Int32)), .unset, .unset, .unset]) rfl ?_
    show Steps p.tables e below (s₁.setTop (mkF m 14 #[.val (.ref b), .val (.int (4 : Int32)), .val (.ref y), .val (.int (1 : Int32)), .val (.int (0 : Int32)), .val (.int (10 : Int32)), .val (.int (3 : Int32)), .val (.int (0 : Int32)), .unset, .unset, .unset] [])) _
    refine XS.iload X0.here hx rfl (hb hby d21_14) rfl ?_
    show Steps p.tables e below (s₁.setTop (mkF m 16 #[.val (.ref b), .val (.int (4 : Int32)), .val (.ref y), .val (.int (1 : Int32)), .val (.int (0 : Int32)), .val (.int (10 : Int32)), .val (.int (3 : Int32)), .val (.int (0 : Int32)), .unset, .unset, .unset] [(.int (0 : Int32))])) _
    refine XS.iload X0.here hx rfl (hb hby d21_16) rfl ?_
    show Steps p.tables e below (s₁.setTop (mkF m 18 #[.val (.ref b), .val (.int (4 : Int32)), .val (.ref y), .val (.int (1 : Int32)), .val (.int (0 : Int32)), .val (.int (10 : Int32)), .val (.int (3 : Int32)), .val (.int (0 : Int32)), .unset, .unset, .unset] [(.int (3 : Int32)), (.int (0 : Int32))])) _
    refine XS.icmpNo X0.here hx rfl (hb hby d21_18) rfl (flt (by decide : ¬ ((3 : Int32) < (0 : Int32)))).2.2.1 ?_
    show Steps p.tables e below (s₁.setTop (mkF m 21 #[.val (.ref b), .val (.int (4 : Int32)), .val (.ref y), .val (.int (1 : Int32)), .val (.int (0 : Int32)), .val (.int (10 : Int32)), .val (.int (3 : Int32)), .val (.int (0 : Int32)), .unset, .unset, .unset] [])) _
    refine XS.aloadN X0.here hx rfl (hb hby d21_21) rfl rfl ?_
    show Steps p.tables e below (s₁.setTop (mkF m 22 #[.val (.ref b), .val (.int (4 : Int32)), .val (.ref y), .val (.int (1 : Int32)), .val (.int (0 : Int32)), .val (.int (10 : Int32)), .val (.int (3 : Int32)), .val (.int (0 : Int32)), .unset, .unset, .unset] [(.ref b)])) _
    refine XS.iload X0.here hx rfl (hb hby d21_22) rfl ?_
    show Steps p.tables e below (s₁.setTop (mkF m 24 #[.val (.ref b), .val (.int (4 : Int32)), .val (.ref y), .val (.int (1 : Int32)), .val (.int (0 : Int32)), .val (.int (10 : Int32)), .val (.int (3 : Int32)), .val (.int (0 : Int32)), .unset, .unset, .unset] [(.int (0 : Int32)), (.ref b)])) _
    refine X0.baloadBytes hx (j := (0 : Int32)) (v := (.int (53 : Int32))) (by rw [e0]; exact Ar2.1) (State.isArrayOf_alike hZ.alike Ar2.2.1) Ar2.2.2 hin2 hat2 (g := (mkF m 24 #[.val (.ref b), .val (.int (4 : Int32)), .val (.ref y), .val (.int (1 : Int32)), .val (.int (0 : Int32)), .val (.int (10 : Int32)), .val (.int (3 : Int32)), .val (.int (0 : Int32)), .unset, .unset, .unset] [(.int (0 : Int32)), (.ref b)])) rfl rfl (hb hby d21_24) _ ?_
    show Steps p.tables e below (s₁.setTop (mkF m 25 #[.val (.ref b), .val (.int (4 : Int32)), .val (.ref y), .val (.int (1 : Int32)), .val (.int (0 : Int32)), .val (.int (10 : Int32)), .val (.int (3 : Int32)), .val (.int (0 : Int32)), .unset, .unset, .unset] [(.int (53 : Int32))])) _
    refine XS.iload X0.here hx rfl (hb hby d21_25) rfl ?_
    show Steps p.tables e below (s₁.setTop (mkF m 27 #[.val (.ref b), .val (.int (4 : Int32)), .val (.ref y), .val (.int (1 : Int32)), .val (.int (0 : Int32)), .val (.int (10 : Int32)), .val (.int (3 : Int32)), .val (.int (0 : Int32)), .unset, .unset, .unset] [(.int (10 : Int32)), (.int (53 : Int32))])) _
    refine XS.icmpNo X0.here hx rfl (hb hby d21_27) rfl (feq (by decide : ¬ ((53 : Int32) = (10 : Int32)))).1 ?_
    show Steps p.tables e below (s₁.setTop (mkF m 30 #[.val (.ref b), .val (.int (4 : Int32)), .val (.ref y), .val (.int (1 : Int32)), .val (.int (0 : Int32)), .val (.int (10 : Int32)), .val (.int (3 : Int32)), .val (.int (0 : Int32)), .unset, .unset, .unset] [])) _
    refine XS.iinc X0.here hx rfl (hb hby d21_30) rfl (l' := #[.val (.ref b), .val (.int (4 : Int32)), .val (.ref y), .val (.int (1 : Int32)), .val (.int (0 : Int32)), .val (.int (10 : Int32)), .val (.int (3 : Int32)), .val (.int (1 : Int32)), .unset, .unset, .unset]) rfl ?_
    show Steps p.tables e below (s₁.setTop (mkF m 33 #[.val (.ref b), .val (.int (4 : Int32)), .val (.ref y), .val (.int (1 : Int32)), .val (.int (0 : Int32)), .val (.int (10 : Int32)), .val (.int (3 : Int32)), .val (.int (1 : Int32)), .unset, .unset, .unset] [])) _
    refine XS.iload X0.here hx rfl (hb hby d21_33) rfl ?_
    show Steps p.tables e below (s₁.setTop (mkF m 35 #[.val (.ref b), .val (.int (4 : Int32)), .val (.ref y), .val (.int (1 : Int32)), .val (.int (0 : Int32)), .val (.int (10 : Int32)), .val (.int (3 : Int32)), .val (.int (1 : Int32)), .unset, .unset, .unset] [(.int (1 : Int32))])) _
    refine XS.iload X0.here hx rfl (hb hby d21_35) rfl ?_
    show Steps p.tables e below (s₁.setTop (mkF m 37 #[.val (.ref b), .val (.int (4 : Int32)), .val (.ref y), .val (.int (1 : Int32)), .val (.int (0 : Int32)), .val (.int (10 : Int32)), .val (.int (3 : Int32)), .val (.int (1 : Int32)), .unset, .unset, .unset] [(.int (3 : Int32)), (.int (1 : Int32))])) _
    refine XS.icmpNo X0.here hx rfl (hb hby d21_37) rfl (flt (by decide : ¬ ((3 : Int32) < (1 : Int32)))).2.2.1 ?_
    show Steps p.tables e below (s₁.setTop (mkF m 40 #[.val (.ref b), .val (.int (4 : Int32)), .val (.ref y), .val (.int (1 : Int32)), .val (.int (0 : Int32)), .val (.int (10 : Int32)), .val (.int (3 : Int32)), .val (.int (1 : Int32)), .unset, .unset, .unset] [])) _
    refine XS.aloadN X0.here hx rfl (hb hby d21_40) rfl rfl ?_
    show Steps p.tables e below (s₁.setTop (mkF m 41 #[.val (.ref b), .val (.int (4 : Int32)), .val (.ref y), .val (.int (1 : Int32)), .val (.int (0 : Int32)), .val (.int (10 : Int32)), .val (.int (3 : Int32)), .val (.int (1 : Int32)), .unset, .unset, .unset] [(.ref b)])) _
    refine XS.iload X0.here hx rfl (hb hby d21_41) rfl ?_
    show Steps p.tables e below (s₁.setTop (mkF m 43 #[.val (.ref b), .val (.int (4 : Int32)), .val (.ref y), .val (.int (1 : Int32)), .val (.int (0 : Int32)), .val (.int (10 : Int32)), .val (.int (3 : Int32)), .val (.int (1 : Int32)), .unset, .unset, .unset] [(.int (1 : Int32)), (.ref b)])) _
    refine X0.baloadBytes hx (j := (1 : Int32)) (v := (.int (46 : Int32))) (by rw [e0]; exact Ar3.1) (State.isArrayOf_alike hZ.alike Ar3.2.1) Ar3.2.2 hin3 hat3 (g := (mkF m 43 #[.val (.ref b), .val (.int (4 : Int32)), .val (.ref y), .val (.int (1 : Int32)), .val (.int (0 : Int32)), .val (.int (10 : Int32)), .val (.int (3 : Int32)), .val (.int (1 : Int32)), .unset, .unset, .unset] [(.int (1 : Int32)), (.ref b)])) rfl rfl (hb hby d21_43) _ ?_
    show Steps p.tables e below (s₁.setTop (mkF m 44 #[.val (.ref b), .val (.int (4 : Int32)), .val (.ref y), .val (.int (1 : Int32)), .val (.int (0 : Int32)), .val (.int (10 : Int32)), .val (.int (3 : Int32)), .val (.int (1 : Int32)), .unset, .unset, .unset] [(.int (46 : Int32))])) _
    refine XS.iload X0.here hx rfl (hb hby d21_44) rfl ?_
    show Steps p.tables e below (s₁.setTop (mkF m 46 #[.val (.ref b), .val (.int (4 : Int32)), .val (.ref y), .val (.int (1 : Int32)), .val (.int (0 : Int32)), .val (.int (10 : Int32)), .val (.int (3 : Int32)), .val (.int (1 : Int32)), .unset, .unset, .unset] [(.int (10 : Int32)), (.int (46 : Int32))])) _
    refine XS.icmpNo X0.here hx rfl (hb hby d21_46) rfl (feq (by decide : ¬ ((46 : Int32) = (10 : Int32)))).1 ?_
    show Steps p.tables e below (s₁.setTop (mkF m 49 #[.val (.ref b), .val (.int (4 : Int32)), .val (.ref y), .val (.int (1 : Int32)), .val (.int (0 : Int32)), .val (.int (10 : Int32)), .val (.int (3 : Int32)), .val (.int (1 : Int32)), .unset, .unset, .unset] [])) _
    refine XS.goto X0.here hx rfl (pc0 := 49) (pc' := 30) rfl (hb hby d21_49) (by decide) (by decide) ?_
    show Steps p.tables e below (s₁.setTop (mkF m 30 #[.val (.ref b), .val (.int (4 : Int32)), .val (.ref y), .val (.int (1 : Int32)), .val (.int (0 : Int32)), .val (.int (10 : Int32)), .val (.int (3 : Int32)), .val (.int (1 : Int32)), .unset, .unset, .unset] [])) _
    refine XS.iinc X0.here hx rfl (hb hby d21_30) rfl (l' := #[.val (.ref b), .val (.int (4 : Int32)), .val (.ref y), .val (.int (1 : Int32)), .val (.int (0 : Int32)), .val (.int (10 : Int32)), .val (.int (3 : Int32)), .val (.int (2 : Int32)), .unset, .unset, .unset]) rfl ?_
    show Steps p.tables e below (s₁.setTop (mkF m 33 #[.val (.ref b), .val (.int (4 : Int32)), .val (.ref y), .val (.int (1 : Int32)), .val (.int (0 : Int32)), .val (.int (10 : Int32)), .val (.int (3 : Int32)), .val (.int (2 : Int32)), .unset, .unset, .unset] [])) _
    refine XS.iload X0.here hx rfl (hb hby d21_33) rfl ?_
    show Steps p.tables e below (s₁.setTop (mkF m 35 #[.val (.ref b), .val (.int (4 : Int32)), .val (.ref y), .val (.int (1 : Int32)), .val (.int (0 : Int32)), .val (.int (10 : Int32)), .val (.int (3 : Int32)), .val (.int (2 : Int32)), .unset, .unset, .unset] [(.int (2 : Int32))])) _
    refine XS.iload X0.here hx rfl (hb hby d21_35) rfl ?_
    show Steps p.tables e below (s₁.setTop (mkF m 37 #[.val (.ref b), .val (.int (4 : Int32)), .val (.ref y), .val (.int (1 : Int32)), .val (.int (0 : Int32)), .val (.int (10 : Int32)), .val (.int (3 : Int32)), .val (.int (2 : Int32)), .unset, .unset, .unset] [(.int (3 : Int32)), (.int (2 : Int32))])) _
    refine XS.icmpNo X0.here hx rfl (hb hby d21_37) rfl (flt (by decide : ¬ ((3 : Int32) < (2 : Int32)))).2.2.1 ?_
    show Steps p.tables e below (s₁.setTop (mkF m 40 #[.val (.ref b), .val (.int (4 : Int32)), .val (.ref y), .val (.int (1 : Int32)), .val (.int (0 : Int32)), .val (.int (10 : Int32)), .val (.int (3 : Int32)), .val (.int (2 : Int32)), .unset, .unset, .unset] [])) _
    refine XS.aloadN X0.here hx rfl (hb hby d21_40) rfl rfl ?_
    show Steps p.tables e below (s₁.setTop (mkF m 41 #[.val (.ref b), .val (.int (4 : Int32)), .val (.ref y), .val (.int (1 : Int32)), .val (.int (0 : Int32)), .val (.int (10 : Int32)), .val (.int (3 : Int32)), .val (.int (2 : Int32)), .unset, .unset, .unset] [(.ref b)])) _
    refine XS.iload X0.here hx rfl (hb hby d21_41) rfl ?_
    show Steps p.tables e below (s₁.setTop (mkF m 43 #[.val (.ref b), .val (.int (4 : Int32)), .val (.ref y), .val (.int (1 : Int32)), .val (.int (0 : Int32)), .val (.int (10 : Int32)), .val (.int (3 : Int32)), .val (.int (2 : Int32)), .unset, .unset, .unset] [(.int (2 : Int32)), (.ref b)])) _
    refine X0.baloadBytes hx (j := (2 : Int32)) (v := (.int (48 : Int32))) (by rw [e0]; exact Ar4.1) (State.isArrayOf_alike hZ.alike Ar4.2.1) Ar4.2.2 hin4 hat4 (g := (mkF m 43 #[.val (.ref b), .val (.int (4 : Int32)), .val (.ref y), .val (.int (1 : Int32)), .val (.int (0 : Int32)), .val (.int (10 : Int32)), .val (.int (3 : Int32)), .val (.int (2 : Int32)), .unset, .unset, .unset] [(.int (2 : Int32)), (.ref b)])) rfl rfl (hb hby d21_43) _ ?_
    show Steps p.tables e below (s₁.setTop (mkF m 44 #[.val (.ref b), .val (.int (4 : Int32)), .val (.ref y), .val (.int (1 : Int32)), .val (.int (0 : Int32)), .val (.int (10 : Int32)), .val (.int (3 : Int32)), .val (.int (2 : Int32)), .unset, .unset, .unset] [(.int (48 : Int32))])) _
    refine XS.iload X0.here hx rfl (hb hby d21_44) rfl ?_
    show Steps p.tables e below (s₁.setTop (mkF m 46 #[.val (.ref b), .val (.int (4 : Int32)), .val (.ref y), .val (.int (1 : Int32)), .val (.int (0 : Int32)), .val (.int (10 : Int32)), .val (.int (3 : Int32)), .val (.int (2 : Int32)), .unset, .unset, .unset] [(.int (10 : Int32)), (.int (48 : Int32))])) _
    refine XS.icmpNo X0.here hx rfl (hb hby d21_46) rfl (feq (by decide : ¬ ((48 : Int32) = (10 : Int32)))).1 ?_
    show Steps p.tables e below (s₁.setTop (mkF m 49 #[.val (.ref b), .val (.int (4 : Int32)), .val (.ref y), .val (.int (1 : Int32)), .val (.int (0 : Int32)), .val (.int (10 : Int32)), .val (.int (3 : Int32)), .val (.int (2 : Int32)), .unset, .unset, .unset] [])) _
    refine XS.goto X0.here hx rfl (pc0 := 49) (pc' := 30) rfl (hb hby d21_49) (by decide) (by decide) ?_
    show Steps p.tables e below (s₁.setTop (mkF m 30 #[.val (.ref b), .val (.int (4 : Int32)), .val (.ref y), .val (.int (1 : Int32)), .val (.int (0 : Int32)), .val (.int (10 : Int32)), .val (.int (3 : Int32)), .val (.int (2 : Int32)), .unset, .unset, .unset] [])) _
    refine XS.iinc X0.here hx rfl (hb hby d21_30) rfl (l' := #[.val (.ref b), .val (.int (4 : Int32)), .val (.ref y), .val (.int (1 : Int32)), .val (.int (0 : Int32)), .val (.int (10 : Int32)), .val (.int (3 : Int32)), .val (.int (3 : Int32)), .unset, .unset, .unset]) rfl ?_
    show Steps p.tables e below (s₁.setTop (mkF m 33 #[.val (.ref b), .val (.int (4 : Int32)), .val (.ref y), .val (.int (1 : Int32)), .val (.int (0 : Int32)), .val (.int (10 : Int32)), .val (.int (3 : Int32)), .val (.int (3 : Int32)), .unset, .unset, .unset] [])) _
    refine XS.iload X0.here hx rfl (hb hby d21_33) rfl ?_
    show Steps p.tables e below (s₁.setTop (mkF m 35 #[.val (.ref b), .val (.int (4 : Int32)), .val (.ref y), .val (.int (1 : Int32)), .val (.int (0 : Int32)), .val (.int (10 : Int32)), .val (.int (3 : Int32)), .val (.int (3 : Int32)), .unset, .unset, .unset] [(.int (3 : Int32))])) _
    refine XS.iload X0.here hx rfl (hb hby d21_35) rfl ?_
    show Steps p.tables e below (s₁.setTop (mkF m 37 #[.val (.ref b), .val (.int (4 : Int32)), .val (.ref y), .val (.int (1 : Int32)), .val (.int (0 : Int32)), .val (.int (10 : Int32)), .val (.int (3 : Int32)), .val (.int (3 : Int32)), .unset, .unset, .unset] [(.int (3 : Int32)), (.int (3 : Int32))])) _
    refine XS.icmpNo X0.here hx rfl (hb hby d21_37) rfl (flt (by decide : ¬ ((3 : Int32) < (3 : Int32)))).2.2.1 ?_
    show Steps p.tables e below (s₁.setTop (mkF m 40 #[.val (.ref b), .val (.int (4 : Int32)), .val (.ref y), .val (.int (1 : Int32)), .val (.int (0 : Int32)), .val (.int (10 : Int32)), .val (.int (3 : Int32)), .val (.int (3 : Int32)), .unset, .unset, .unset] [])) _
    refine XS.aloadN X0.here hx rfl (hb hby d21_40) rfl rfl ?_
    show Steps p.tables e below (s₁.setTop (mkF m 41 #[.val (.ref b), .val (.int (4 : Int32)), .val (.ref y), .val (.int (1 : Int32)), .val (.int (0 : Int32)), .val (.int (10 : Int32)), .val (.int (3 : Int32)), .val (.int (3 : Int32)), .unset, .unset, .unset] [(.ref b)])) _
    refine XS.iload X0.here hx rfl (hb hby d21_41) rfl ?_
    show Steps p.tables e below (s₁.setTop (mkF m 43 #[.val (.ref b), .val (.int (4 : Int32)), .val (.ref y), .val (.int (1 : Int32)), .val (.int (0 : Int32)), .val (.int (10 : Int32)), .val (.int (3 : Int32)), .val (.int (3 : Int32)), .unset, .unset, .unset] [(.int (3 : Int32)), (.ref b)])) _
    refine X0.baloadBytes hx (j := (3 : Int32)) (v := (.int (51 : Int32))) (by rw [e0]; exact Ar5.1) (State.isArrayOf_alike hZ.alike Ar5.2.1) Ar5.2.2 hin5 hat5 (g := (mkF m 43 #[.val (.ref b), .val (.int (4 : Int32)), .val (.ref y), .val (.int (1 : Int32)), .val (.int (0 : Int32)), .val (.int (10 : Int32)), .val (.int (3 : Int32)), .val (.int (3 : Int32)), .unset, .unset, .unset] [(.int (3 : Int32)), (.ref b)])) rfl rfl (hb hby d21_43) _ ?_
    show Steps p.tables e below (s₁.setTop (mkF m 44 #[.val (.ref b), .val (.int (4 : Int32)), .val (.ref y), .val (.int (1 : Int32)), .val (.int (0 : Int32)), .val (.int (10 : Int32)), .val (.int (3 : Int32)), .val (.int (3 : Int32)), .unset, .unset, .unset] [(.int (51 : Int32))])) _
    refine XS.iload X0.here hx rfl (hb hby d21_44) rfl ?_
    show Steps p.tables e below (s₁.setTop (mkF m 46 #[.val (.ref b), .val (.int (4 : Int32)), .val (.ref y), .val (.int (1 : Int32)), .val (.int (0 : Int32)), .val (.int (10 : Int32)), .val (.int (3 : Int32)), .val (.int (3 : Int32)), .unset, .unset, .unset] [(.int (10 : Int32)), (.int (51 : Int32))])) _
    refine XS.icmpNo X0.here hx rfl (hb hby d21_46) rfl (feq (by decide : ¬ ((51 : Int32) = (10 : Int32)))).1 ?_
    show Steps p.tables e below (s₁.setTop (mkF m 49 #[.val (.ref b), .val (.int (4 : Int32)), .val (.ref y), .val (.int (1 : Int32)), .val (.int (0 : Int32)), .val (.int (10 : Int32)), .val (.int (3 : Int32)), .val (.int (3 : Int32)), .unset, .unset, .unset] [])) _
    refine XS.goto X0.here hx rfl (pc0 := 49) (pc' := 30) rfl (hb hby d21_49) (by decide) (by decide) ?_
    show Steps p.tables e below (s₁.setTop (mkF m 30 #[.val (.ref b), .val (.int (4 : Int32)), .val (.ref y), .val (.int (1 : Int32)), .val (.int (0 : Int32)), .val (.int (10 : Int32)), .val (.int (3 : Int32)), .val (.int (3 : Int32)), .unset, .unset, .unset] [])) _
    refine XS.iinc X0.here hx rfl (hb hby d21_30) rfl (l' := #[.val (.ref b), .val (.int (4 : Int32)), .val (.ref y), .val (.int (1 : Int32)), .val (.int (0 : Int32)), .val (.int (10 : Int32)), .val (.int (3 : Int32)), .val (.int (4 : Int32)), .unset, .unset, .unset]) rfl ?_
    show Steps p.tables e below (s₁.setTop (mkF m 33 #[.val (.ref b), .val (.int (4 : Int32)), .val (.ref y), .val (.int (1 : Int32)), .val (.int (0 : Int32)), .val (.int (10 : Int32)), .val (.int (3 : Int32)), .val (.int (4 : Int32)), .unset, .unset, .unset] [])) _
    refine XS.iload X0.here hx rfl (hb hby d21_33) rfl ?_
    show Steps p.tables e below (s₁.setTop (mkF m 35 #[.val (.ref b), .val (.int (4 : Int32)), .val (.ref y), .val (.int (1 : Int32)), .val (.int (0 : Int32)), .val (.int (10 : Int32)), .val (.int (3 : Int32)), .val (.int (4 : Int32)), .unset, .unset, .unset] [(.int (4 : Int32))])) _
    refine XS.iload X0.here hx rfl (hb hby d21_35) rfl ?_
    show Steps p.tables e below (s₁.setTop (mkF m 37 #[.val (.ref b), .val (.int (4 : Int32)), .val (.ref y), .val (.int (1 : Int32)), .val (.int (0 : Int32)), .val (.int (10 : Int32)), .val (.int (3 : Int32)), .val (.int (4 : Int32)), .unset, .unset, .unset] [(.int (3 : Int32)), (.int (4 : Int32))])) _
    refine XS.icmpYes X0.here hx rfl (pc0 := 37) (pc' := 52) rfl (hb hby d21_37) rfl (tlt (by decide : (3 : Int32) < (4 : Int32))).2.2.1 (by decide) (by decide) ?_
    show Steps p.tables e below (s₁.setTop (mkF m 52 #[.val (.ref b), .val (.int (4 : Int32)), .val (.ref y), .val (.int (1 : Int32)), .val (.int (0 : Int32)), .val (.int (10 : Int32)), .val (.int (3 : Int32)), .val (.int (4 : Int32)), .unset, .unset, .unset] [])) _
    refine XS.iload X0.here hx rfl (hb hby d21_52) rfl ?_
    show Steps p.tables e below (s₁.setTop (mkF m 54 #[.val (.ref b), .val (.int (4 : Int32)), .val (.ref y), .val (.int (1 : Int32)), .val (.int (0 : Int32)), .val (.int (10 : Int32)), .val (.int (3 : Int32)), .val (.int (4 : Int32)), .unset, .unset, .unset] [(.int (4 : Int32))])) _
    refine XS.iload X0.here hx rfl (hb hby d21_54) rfl ?_
    show Steps p.tables e below (s₁.setTop (mkF m 56 #[.val (.ref b), .val (.int (4 : Int32)), .val (.ref y), .val (.int (1 : Int32)), .val (.int (0 : Int32)), .val (.int (10 : Int32)), .val (.int (3 : Int32)), .val (.int (4 : Int32)), .unset, .unset, .unset] [(.int (3 : Int32)), (.int (4 : Int32))])) _
    refine XS.icmpYes X0.here hx rfl (pc0 := 56) (pc' := 113) rfl (hb hby d21_56) rfl (tlt (by decide : (3 : Int32) < (4 : Int32))).2.2.1 (by decide) (by decide) ?_
    show Steps p.tables e below (s₁.setTop (mkF m 113 #[.val (.ref b), .val (.int (4 : Int32)), .val (.ref y), .val (.int (1 : Int32)), .val (.int (0 : Int32)), .val (.int (10 : Int32)), .val (.int (3 : Int32)), .val (.int (4 : Int32)), .unset, .unset, .unset] [])) _
    refine XS.iinc X0.here hx rfl (hb hby d21_113) rfl (l' := #[.val (.ref b), .val (.int (4 : Int32)), .val (.ref y), .val (.int (1 : Int32)), .val (.int (0 : Int32)), .val (.int (10 : Int32)), .val (.int (3 : Int32)), .val (.int (5 : Int32)), .unset, .unset, .unset]) rfl ?_
    show Steps p.tables e below (s₁.setTop (mkF m 116 #[.val (.ref b), .val (.int (4 : Int32)), .val (.ref y), .val (.int (1 : Int32)), .val (.int (0 : Int32)), .val (.int (10 : Int32)), .val (.int (3 : Int32)), .val (.int (5 : Int32)), .unset, .unset, .unset] [])) _
    refine XS.goto X0.here hx rfl (pc0 := 116) (pc' := 14) rfl (hb hby d21_116) (by decide) (by decide) ?_
    show Steps p.tables e below (s₁.setTop (mkF m 14 #[.val (.ref b), .val (.int (4 : Int32)), .val (.ref y), .val (.int (1 : Int32)), .val (.int (0 : Int32)), .val (.int (10 : Int32)), .val (.int (3 : Int32)), .val (.int (5 : Int32)), .unset, .unset, .unset] [])) _
    refine XS.iload X0.here hx rfl (hb hby d21_14) rfl ?_
    show Steps p.tables e below (s₁.setTop (mkF m 16 #[.val (.ref b), .val (.int (4 : Int32)), .val (.ref y), .val (.int (1 : Int32)), .val (.int (0 : Int32)), .val (.int (10 : Int32)), .val (.int (3 : Int32)), .val (.int (5 : Int32)), .unset, .unset, .unset] [(.int (5 : Int32))])) _
    refine XS.iload X0.here hx rfl (hb hby d21_16) rfl ?_
    show Steps p.tables e below (s₁.setTop (mkF m 18 #[.val (.ref b), .val (.int (4 : Int32)), .val (.ref y), .val (.int (1 : Int32)), .val (.int (0 : Int32)), .val (.int (10 : Int32)), .val (.int (3 : Int32)), .val (.int (5 : Int32)), .unset, .unset, .unset] [(.int (3 : Int32)), (.int (5 : Int32))])) _
    refine XS.icmpYes X0.here hx rfl (pc0 := 18) (pc' := 119) rfl (hb hby d21_18) rfl (tlt (by decide : (3 : Int32) < (5 : Int32))).2.2.1 (by decide) (by decide) ?_
    show Steps p.tables e below (s₁.setTop (mkF m 119 #[.val (.ref b), .val (.int (4 : Int32)), .val (.ref y), .val (.int (1 : Int32)), .val (.int (0 : Int32)), .val (.int (10 : Int32)), .val (.int (3 : Int32)), .val (.int (5 : Int32)), .unset, .unset, .unset] [])) _
    refine XS.iconst X0.here hx rfl (hb hby d21_119) ?_
    show Steps p.tables e below (s₁.setTop (mkF m 120 #[.val (.ref b), .val (.int (4 : Int32)), .val (.ref y), .val (.int (1 : Int32)), .val (.int (0 : Int32)), .val (.int (10 : Int32)), .val (.int (3 : Int32)), .val (.int (5 : Int32)), .unset, .unset, .unset] [(.int (-1 : Int32))])) _
    exact retI X0 hx Bd.returns (hb hby d21_120) hr
  · have eF : (s₁.setFrames fs).heap = h0 := e0
    exact ⟨rfl, N0, eF⟩
set_option maxRecDepth 65536 in
set_option maxHeartbeats 40000000 in
theorem rmIx2_10 (l : Launch) (Z : State) (a0 : Array Value) (hw : ∀ d ∈ tables_1, d.before a0 Z = true) (ws : List Jvm.Cond) (n0 : Nat) (h0 : Heap) (O : Old Z n0 h0) (i_COMPACT_STRINGS : Int32) (w_instance : Addr) (w_A : Addr) (W : OwW Z i_COMPACT_STRINGS w_instance w_A) (b : Addr) (k : ClassId) (y : Addr) (ky : ClassId) (Va : Arv Z h0 b k .byte (4 : Int32) [(.int (53 : Int32)), (.int (46 : Int32)), (.int (48 : Int32)), (.int (51 : Int32))] (.int 0)) (Vay : Arv Z h0 y ky .byte (1 : Int32) [(.int (10 : Int32))] (.int 0)) :
    OwCon l (⟨"java/lang/StringLatin1", "indexOf", "([B[B)I"⟩ : MethodName) jdk_43_method_24_code 2 (some .int) ws ({ frames := 1, cells := 0, slots := 0, locals := 22 } : Room) #[(.ref b), (.ref y)] Z h0 (OwQ (some (.int (-1 : Int32))) h0 n0) := by
  refine MetFree.of_bodySF (plainFor_of_name owpn20) hisR ?_
  intro p e s m args below meth c s₁ Bd hml0 hP hK
  obtain ⟨rfl, hZ, hh⟩ := hP
  have hx := Bd.exec
  have hby := Bd.bytes
  have hml : c.maxLocals = 2 := hml0
  have hown : s.vm.findClass "java/lang/StringLatin1" = some m.cls := findClass_of_methodNamed Bd.named
  have hnm := (name_of_methodNamed Bd.named Bd.method).1
  have X0 : Stand p l e ({ frames := 1, cells := 0, slots := 0, locals := 22 } : Room) s m #[(.ref b), (.ref y)] below meth c s₁ [] 0 0 := Stand.of_body Bd
  have e0 : s₁.heap = h0 := by rw [← hh, Bd.state]; rfl
  have N0 := Fr.nil n0
  have WW := W
  obtain ⟨nz_i_COMPACT_STRINGS, E_w_instance, E_w_A, S_String_COMPACT_STRINGS, S_CharacterDataLatin1_instance, S_CharacterDataLatin1_A, Ta, -⟩ := WW
  have ef : entryFrame m #[(.ref b), (.ref y)] 2 = mkF m 0 #[.val (.ref b), .val (.ref y)] [] := by first | (simp [entryFrame, mkF, argsToLocals, Value.category]; done) | rfl
  have pre0 : ∀ t, Steps p.tables e below (s₁.setTop (mkF m 0 #[.val (.ref b), .val (.ref y)] [])) t → Steps p.tables e below (s₁.setTop (entryFrame m #[(.ref b), (.ref y)] 2)) t := fun t k => castTop ef k
  obtain ⟨cl1, Ar1, q1, Sz1, Nn1, Hs1, -⟩ := id Vay
  obtain ⟨cl2, Ar2, q2, Sz2, Nn2, Hs2, -⟩ := id Va
  obtain ⟨cl3, Ar3, q3, Sz3, Nn3, Hs3, -⟩ := id Va
  obtain ⟨cl4, Ar4, q4, Sz4, Nn4, Hs4, -⟩ := id Vay
  obtain ⟨_, _, ⟨T5, L5, k5, n5⟩, -, X5, ⟨Lc5, hQ5, l5, y5, z5⟩, st5⟩ := Jvm.LawKit.callS X0 hx (y := (⟨"java/lang/StringLatin1", "indexOf", "([BI[BII)I"⟩ : MethodName)) hown (mvT hZ (hw _ (List.mem_of_getElem? (i := 120) rfl))) (mvT hZ (hw _ (List.mem_of_getElem? (i := 121) rfl))) (mvT hZ (hw _ (List.mem_of_getElem? (i := 69) rfl))) (mvT hZ (hw _ (List.mem_of_getElem? (i := 122) rfl))) (by decide) (backOf (W := 0) (rmIx5_10 l Z a0 hw [] n0 h0 O i_COMPACT_STRINGS w_instance w_A W b k y ky Va Vay) hZ (hw _ (List.mem_of_getElem? (i := 122) rfl)) (hw _ (List.mem_of_getElem? (i := 69) rfl)) (by decide) (by decide)) (g := (mkF m 21 #[.val (.ref b), .val (.ref y)] [(.int (0 : Int32)), (.int (1 : Int32)), (.ref y), (.int (4 : Int32)), (.ref b)])) rfl (by rw [hml]; rfl) (argsL := [(.ref b), (.int (4 : Int32)), (.ref y), (.int (1 : Int32)), (.int (0 : Int32))]) (rest := []) (lenOf owpd8 rfl) rfl (by show 2 * 0 + _ ≤ _; exact Nat.le_of_eq rfl) (hb hby d20_21) (fun _ _ => ⟨rfl, e0, (by decide : 0 + 0 ≤ _), (by decide : 0 + 0 ≤ _)⟩)
  dsimp only [Pt.U, Pt.locs, Pt.cells, Pt.slots] at X5 l5 y5 z5 st5 hQ5
  subst l5 y5 z5
  obtain ⟨rfl, Nq5, e5⟩ := hQ5
  have N5 := Fr.app N0 Nq5
  obtain ⟨fs, hr, hrun, hended, hW, hsame⟩ := X5.leave (v := some (.int (-1 : Int32))) (fun h => by rw [Bd.returns] at h; cases h)
  refine ⟨_, _, pre0 _ ?_, hrun, hended, _, _, rfl, ?_, ⟨_, rfl⟩, hW, hsame.mono (by decide) (by decide)⟩
  · show Steps p.tables e below (s₁.setTop (mkF m 0 #[.val (.ref b), .val (.ref y)] [])) _
    refine XS.aloadN X0.here hx rfl (hb hby d20_0) rfl rfl ?_
    show Steps p.tables e below (s₁.setTop (mkF m 1 #[.val (.ref b), .val (.ref y)] [(.ref y)])) _
    refine X0.arraylength hx (by rw [e0]; exact Ar1.1) (State.isArrayOf_alike hZ.alike Ar1.2.1) (g := (mkF m 1 #[.val (.ref b), .val (.ref y)] [(.ref y)])) rfl rfl (hb hby d20_1) _ ?_
    rw [len_of Sz1 Nn1]
    show Steps p.tables e below (s₁.setTop (mkF m 2 #[.val (.ref b), .val (.ref y)] [(.int (1 : Int32))])) _
    refine XS.ifYes X0.here hx rfl (pc0 := 2) (pc' := 7) rfl (hb hby d20_2) rfl ((if0 _ _).trans (feq (by decide : ¬ ((1 : Int32) = (0 : Int32)))).2) (by decide) (by decide) ?_
    show Steps p.tables e below (s₁.setTop (mkF m 7 #[.val (.ref b), .val (.ref y)] [])) _
    refine XS.aloadN X0.here hx rfl (hb hby d20_7) rfl rfl ?_
    show Steps p.tables e below (s₁.setTop (mkF m 8 #[.val (.ref b), .val (.ref y)] [(.ref b)])) _
    refine X0.arraylength hx (by rw [e0]; exact Ar2.1) (State.isArrayOf_alike hZ.alike Ar2.2.1) (g := (mkF m 8 #[.val (.ref b), .val (.ref y)] [(.ref b)])) rfl rfl (hb hby d20_8) _ ?_
    rw [len_of Sz2 Nn2]
    show Steps p.tables e below (s₁.setTop (mkF m 9 #[.val (.ref b), .val (.ref y)] [(.int (4 : Int32))])) _
    refine XS.ifYes X0.here hx rfl (pc0 := 9) (pc' := 14) rfl (hb hby d20_9) rfl ((if0 _ _).trans (feq (by decide : ¬ ((4 : Int32) = (0 : Int32)))).2) (by decide) (by decide) ?_
    show Steps p.tables e below (s₁.setTop (mkF m 14 #[.val (.ref b), .val (.ref y)] [])) _
    refine XS.aloadN X0.here hx rfl (hb hby d20_14) rfl rfl ?_
    show Steps p.tables e below (s₁.setTop (mkF m 15 #[.val (.ref b), .val (.ref y)] [(.ref b)])) _
    refine XS.aloadN X0.here hx rfl (hb hby d20_15) rfl rfl ?_
    show Steps p.tables e below (s₁.setTop (mkF m 16 #[.val (.ref b), .val (.ref y)] [(.ref b), (.ref b)])) _
    refine X0.arraylength hx (by rw [e0]; exact Ar3.1) (State.isArrayOf_alike hZ.alike Ar3.2.1) (g := (mkF m 16 #[.val (.ref b), .val (.ref y)] [(.ref b), (.ref b)])) rfl rfl (hb hby d20_16) _ ?_
    rw [len_of Sz3 Nn3]
    show Steps p.tables e below (s₁.setTop (mkF m 17 #[.val (.ref b), .val (.ref y)] [(.int (4 : Int32)), (.ref b)])) _
    refine XS.aloadN X0.here hx rfl (hb hby d20_17) rfl rfl ?_
    show Steps p.tables e below (s₁.setTop (mkF m 18 #[.val (.ref b), .val (.ref y)] [(.ref y), (.int (4 : Int32)), (.ref b)])) _
    refine XS.aloadN X0.here hx rfl (hb hby d20_18) rfl rfl ?_
    show Steps p.tables e below (s₁.setTop (mkF m 19 #[.val (.ref b), .val (.ref y)] [(.ref y), (.ref y), (.int (4 : Int32)), (.ref b)])) _
    refine X0.arraylength hx (by rw [e0]; exact Ar4.1) (State.isArrayOf_alike hZ.alike Ar4.2.1) (g := (mkF m 19 #[.val (.ref b), .val (.ref y)] [(.ref y), (.ref y), (.int (4 : Int32)), (.ref b)])) rfl rfl (hb hby d20_19) _ ?_
    rw [len_of Sz4 Nn4]
    show Steps p.tables e below (s₁.setTop (mkF m 20 #[.val (.ref b), .val (.ref y)] [(.int (1 : Int32)), (.ref y), (.int (4 : Int32)), (.ref b)])) _
    refine XS.iconst X0.here hx rfl (hb hby d20_20) ?_
    show Steps p.tables e below (s₁.setTop (mkF m 21 #[.val (.ref b), .val (.ref y)] [(.int (0 : Int32)), (.int (1 : Int32)), (.ref y), (.int (4 : Int32)), (.ref b)])) _
    refine st5 _ ?_
    show Steps p.tables e below (T5.setTop (mkF m 24 #[.val (.ref b), .val (.ref y)] [(.int (-1 : Int32))])) _
    exact retI X5 hx Bd.returns (hb hby d20_24) hr
  · have eF : (T5.setFrames fs).heap = h0 := e5
    exact ⟨rfl, N5, eF⟩
set_option maxRecDepth 65536 in
set_option maxHeartbeats 40000000 in
theorem rmIx_10 (l : Launch) (Z : State) (a0 : Array Value) (hw : ∀ d ∈ tables_1, d.before a0 Z = true) (ws : List Jvm.Cond) (n0 : Nat) (h0 : Heap) (O : Old Z n0 h0) (i_COMPACT_STRINGS : Int32) (w_instance : Addr) (w_A : Addr) (W : OwW Z i_COMPACT_STRINGS w_instance w_A) (a b : Addr) (k : ClassId) (x y : Addr) (ky : ClassId) (Es : Exa Z h0 a "java/lang/String") (Fc : Fld Z h0 a "java/lang/String" "coder" "B" (.int (0 : Int32))) (Fv : Fld Z h0 a "java/lang/String" "value" "[B" (.ref b)) (Va : Arv Z h0 b k .byte (4 : Int32) [(.int (53 : Int32)), (.int (46 : Int32)), (.int (48 : Int32)), (.int (51 : Int32))] (.int 0)) (Esy : Exa Z h0 x "java/lang/String") (Fcy : Fld Z h0 x "java/lang/String" "coder" "B" (.int (0 : Int32))) (Fvy : Fld Z h0 x "java/lang/String" "value" "[B" (.ref y)) (Vay : Arv Z h0 y ky .byte (1 : Int32) [(.int (10 : Int32))] (.int 0)) :
    OwCon l (⟨"java/lang/String", "indexOf", "(Ljava/lang/String;)I"⟩ : MethodName) jdk_42_method_84_code 3 (some .int) ws ({ frames := 2, cells := 0, slots := 0, locals := 35 } : Room) #[(.ref a), (.ref x)] Z h0 (OwQ (some (.int (-1 : Int32))) h0 n0) := by
  refine MetFree.of_bodySF (plainFor_of_name owpn19) hisR ?_
  intro p e s m args below meth c s₁ Bd hml0 hP hK
  obtain ⟨rfl, hZ, hh⟩ := hP
  have hx := Bd.exec
  have hby := Bd.bytes
  have hml : c.maxLocals = 3 := hml0
  have hown : s.vm.findClass "java/lang/String" = some m.cls := findClass_of_methodNamed Bd.named
  have hnm := (name_of_methodNamed Bd.named Bd.method).1
  have X0 : Stand p l e ({ frames := 2, cells := 0, slots := 0, locals := 35 } : Room) s m #[(.ref a), (.ref x)] below meth c s₁ [] 0 0 := Stand.of_body Bd
  have e0 : s₁.heap = h0 := by rw [← hh, Bd.state]; rfl
  have N0 := Fr.nil n0
  have WW := W
  obtain ⟨nz_i_COMPACT_STRINGS, E_w_instance, E_w_A, S_String_COMPACT_STRINGS, S_CharacterDataLatin1_instance, S_CharacterDataLatin1_A, Ta, -⟩ := WW
  have ef : entryFrame m #[(.ref a), (.ref x)] 3 = mkF m 0 #[.val (.ref a), .val (.ref x), .unset] [] := by first | (simp [entryFrame, mkF, argsToLocals, Value.category]; done) | rfl
  have pre0 : ∀ t, Steps p.tables e below (s₁.setTop (mkF m 0 #[.val (.ref a), .val (.ref x), .unset] [])) t → Steps p.tables e below (s₁.setTop (entryFrame m #[(.ref a), (.ref x)] 3)) t := fun t k => castTop ef k
  obtain ⟨cq1, kq1, q1a, q1b, q1c⟩ := isOf hZ e0 Es
  obtain ⟨_, _, ⟨T1, L1, k1, n1⟩, -, X1, ⟨Lc1, hQ1, l1, y1, z1⟩, st1⟩ := X0.virtualBack hx (y := (⟨"java/lang/String", "coder", "()B"⟩ : MethodName)) (z := (⟨"java/lang/String", "coder", "()B"⟩ : MethodName)) hown (mvT hZ (hw _ (List.mem_of_getElem? (i := 92) rfl))) (mvT hZ (hw _ (List.mem_of_getElem? (i := 93) rfl))) (notFace_of_selects (args := #[]) (mvT hZ (hw _ (List.mem_of_getElem? (i := 95) rfl)))) (mvT hZ (hw _ (List.mem_of_getElem? (i := 95) rfl))) (mvT hZ (hw _ (List.mem_of_getElem? (i := 94) rfl))) (by decide) (backOf (W := 0) (rmCoder_t l Z a0 hw [] n0 h0 O i_COMPACT_STRINGS w_instance w_A W a b k Es Fc Fv Va) hZ (hw _ (List.mem_of_getElem? (i := 96) rfl)) (hw _ (List.mem_of_getElem? (i := 28) rfl)) (by decide) (by decide)) q1a q1c (g := (mkF m 1 #[.val (.ref a), .val (.ref x), .unset] [(.ref a)])) rfl (by rw [hml]; rfl) (Steps.refl _) (argsL := []) (rest := []) (lenOf owpd1 rfl) rfl (by show 2 * 0 + _ ≤ _; exact Nat.le_of_eq rfl) (hb hby d19_1) (fun _ _ => ⟨rfl, e0, (by decide : 0 + 0 ≤ _), (by decide : 0 + 0 ≤ _)⟩)
  dsimp only [Pt.U, Pt.locs, Pt.cells, Pt.slots] at X1 l1 y1 z1 st1 hQ1
  subst l1 y1 z1
  obtain ⟨rfl, Nq1, e1⟩ := hQ1
  have N1 := Fr.app N0 Nq1
  obtain ⟨cq2, kq2, q2a, q2b, q2c⟩ := isOf hZ e1 Esy
  obtain ⟨_, _, ⟨T2, L2, k2, n2⟩, -, X2, ⟨Lc2, hQ2, l2, y2, z2⟩, st2⟩ := X1.virtualBack hx (y := (⟨"java/lang/String", "coder", "()B"⟩ : MethodName)) (z := (⟨"java/lang/String", "coder", "()B"⟩ : MethodName)) hown (mvT hZ (hw _ (List.mem_of_getElem? (i := 92) rfl))) (mvT hZ (hw _ (List.mem_of_getElem? (i := 93) rfl))) (notFace_of_selects (args := #[]) (mvT hZ (hw _ (List.mem_of_getElem? (i := 95) rfl)))) (mvT hZ (hw _ (List.mem_of_getElem? (i := 95) rfl))) (mvT hZ (hw _ (List.mem_of_getElem? (i := 94) rfl))) (by decide) (backOf (W := 1) (rmCoder_10 l Z a0 hw [] n0 h0 O i_COMPACT_STRINGS w_instance w_A W x y ky Esy Fcy Fvy Vay) hZ (hw _ (List.mem_of_getElem? (i := 96) rfl)) (hw _ (List.mem_of_getElem? (i := 28) rfl)) (by decide) (by decide)) q2a q2c (g := (mkF m 7 #[.val (.ref a), .val (.ref x), .val (.int (0 : Int32))] [(.ref x), (.int (0 : Int32))])) rfl (by rw [hml]; rfl) (Steps.refl _) (argsL := []) (rest := [(.int (0 : Int32))]) (lenOf owpd1 rfl) rfl (by show 2 * 0 + _ ≤ _; exact Nat.le_of_eq rfl) (hb hby d19_7) (fun _ _ => ⟨rfl, e1, (by decide : 0 + 0 ≤ _), (by decide : 0 + 0 ≤ _)⟩)
  dsimp only [Pt.U, Pt.locs, Pt.cells, Pt.slots] at X2 l2 y2 z2 st2 hQ2
  subst l2 y2 z2
  obtain ⟨rfl, Nq2, e2⟩ := hQ2
  have N2 := Fr.app N1 Nq2
  obtain ⟨cq3, kq3, q3a, q3b, q3c⟩ := isOf hZ e2 Es
  obtain ⟨_, _, ⟨T3, L3, k3, n3⟩, -, X3, ⟨Lc3, hQ3, l3, y3, z3⟩, st3⟩ := X2.virtualBack hx (y := (⟨"java/lang/String", "isLatin1", "()Z"⟩ : MethodName)) (z := (⟨"java/lang/String", "isLatin1", "()Z"⟩ : MethodName)) hown (mvT hZ (hw _ (List.mem_of_getElem? (i := 59) rfl))) (mvT hZ (hw _ (List.mem_of_getElem? (i := 60) rfl))) (notFace_of_selects (args := #[]) (mvT hZ (hw _ (List.mem_of_getElem? (i := 62) rfl)))) (mvT hZ (hw _ (List.mem_of_getElem? (i := 62) rfl))) (mvT hZ (hw _ (List.mem_of_getElem? (i := 61) rfl))) (by decide) (backOf (W := 0) (rmLat_t l Z a0 hw [] n0 h0 O i_COMPACT_STRINGS w_instance w_A W a b k Es Fc Fv Va) hZ (hw _ (List.mem_of_getElem? (i := 63) rfl)) (hw _ (List.mem_of_getElem? (i := 28) rfl)) (by decide) (by decide)) q3a q3c (g := (mkF m 14 #[.val (.ref a), .val (.ref x), .val (.int (0 : Int32))] [(.ref a)])) rfl (by rw [hml]; rfl) (Steps.refl _) (argsL := []) (rest := []) (lenOf owpd5 rfl) rfl (by show 2 * 0 + _ ≤ _; exact Nat.le_of_eq rfl) (hb hby d19_14) (fun _ _ => ⟨rfl, e2, (by decide : 0 + 0 ≤ _), (by decide : 0 + 0 ≤ _)⟩)
  dsimp only [Pt.U, Pt.locs, Pt.cells, Pt.slots] at X3 l3 y3 z3 st3 hQ3
  subst l3 y3 z3
  obtain ⟨rfl, Nq3, e3⟩ := hQ3
  have N3 := Fr.app N2 Nq3
  obtain ⟨T4, X4, e4, st4⟩ := getF X3 hx hZ hown (host := "") (Or.inl (hw _ (List.mem_of_getElem? (i := 66) rfl))) Via.refl e3 Fv (g := (mkF m 21 #[.val (.ref a), .val (.ref x), .val (.int (0 : Int32))] [(.ref a)])) rfl rfl (hb hby d19_21)
  obtain ⟨T5, X5, e5, st5⟩ := getF X4 hx hZ hown (host := "") (Or.inl (hw _ (List.mem_of_getElem? (i := 66) rfl))) Via.refl e4 Fvy (g := (mkF m 25 #[.val (.ref a), .val (.ref x), .val (.int (0 : Int32))] [(.ref x), (.ref b)])) rfl rfl (hb hby d19_25)
  obtain ⟨_, _, ⟨T6, L6, k6, n6⟩, -, X6, ⟨Lc6, hQ6, l6, y6, z6⟩, st6⟩ := Jvm.LawKit.callS X5 hx (y := (⟨"java/lang/StringLatin1", "indexOf", "([B[B)I"⟩ : MethodName)) hown (mvT hZ (hw _ (List.mem_of_getElem? (i := 117) rfl))) (mvT hZ (hw _ (List.mem_of_getElem? (i := 118) rfl))) (mvT hZ (hw _ (List.mem_of_getElem? (i := 69) rfl))) (mvT hZ (hw _ (List.mem_of_getElem? (i := 119) rfl))) (by decide) (backOf (W := 0) (rmIx2_10 l Z a0 hw [] n0 h0 O i_COMPACT_STRINGS w_instance w_A W b k y ky Va Vay) hZ (hw _ (List.mem_of_getElem? (i := 119) rfl)) (hw _ (List.mem_of_getElem? (i := 69) rfl)) (by decide) (by decide)) (g := (mkF m 28 #[.val (.ref a), .val (.ref x), .val (.int (0 : Int32))] [(.ref y), (.ref b)])) rfl (by rw [hml]; rfl) (argsL := [(.ref b), (.ref y)]) (rest := []) (lenOf owpd9 rfl) rfl (by show 2 * 0 + _ ≤ _; exact Nat.le_of_eq rfl) (hb hby d19_28) (fun _ _ => ⟨rfl, e5, (by decide : 0 + 0 ≤ _), (by decide : 0 + 0 ≤ _)⟩)
  dsimp only [Pt.U, Pt.locs, Pt.cells, Pt.slots] at X6 l6 y6 z6 st6 hQ6
  subst l6 y6 z6
  obtain ⟨rfl, Nq6, e6⟩ := hQ6
  have N6 := Fr.app N3 Nq6
  obtain ⟨fs, hr, hrun, hended, hW, hsame⟩ := X6.leave (v := some (.int (-1 : Int32))) (fun h => by rw [Bd.returns] at h; cases h)
  refine ⟨_, _, pre0 _ ?_, hrun, hended, _, _, rfl, ?_, ⟨_, rfl⟩, hW, hsame.mono (by decide) (by decide)⟩
  · show Steps p.tables e below (s₁.setTop (mkF m 0 #[.val (.ref a), .val (.ref x), .unset] [])) _
    refine XS.aloadN X0.here hx rfl (hb hby d19_0) rfl rfl ?_
    show Steps p.tables e below (s₁.setTop (mkF m 1 #[.val (.ref a), .val (.ref x), .unset] [(.ref a)])) _
    refine st1.trans ?_
    show Steps p.tables e below (T1.setTop (mkF m 4 #[.val (.ref a), .val (.ref x), .unset] [(.int (0 : Int32))])) _
    refine XS.istoreN X1.here hx rfl (hb hby d19_4) rfl (l' := #[.val (.ref a), .val (.ref x), .val (.int (0 : Int32))]) rfl ?_
    show Steps p.tables e below (T1.setTop (mkF m 5 #[.val (.ref a), .val (.ref x), .val (.int (0 : Int32))] [])) _
    refine XS.iloadN X1.here hx rfl (hb hby d19_5) rfl ?_
    show Steps p.tables e below (T1.setTop (mkF m 6 #[.val (.ref a), .val (.ref x), .val (.int (0 : Int32))] [(.int (0 : Int32))])) _
    refine XS.aloadN X1.here hx rfl (hb hby d19_6) rfl rfl ?_
    show Steps p.tables e below (T1.setTop (mkF m 7 #[.val (.ref a), .val (.ref x), .val (.int (0 : Int32))] [(.ref x), (.int (0 : Int32))])) _
    refine st2.trans ?_
    show Steps p.tables e below (T2.setTop (mkF m 10 #[.val (.ref a), .val (.ref x), .val (.int (0 : Int32))] [(.int (0 : Int32)), (.int (0 : Int32))])) _
    refine XS.icmpNo X2.here hx rfl (hb hby d19_10) rfl (teq (by decide : (0 : Int32) = (0 : Int32))).2 ?_
    show Steps p.tables e below (T2.setTop (mkF m 13 #[.val (.ref a), .val (.ref x), .val (.int (0 : Int32))] [])) _
    refine XS.aloadN X2.here hx rfl (hb hby d19_13) rfl rfl ?_
    show Steps p.tables e below (T2.setTop (mkF m 14 #[.val (.ref a), .val (.ref x), .val (.int (0 : Int32))] [(.ref a)])) _
    refine st3.trans ?_
    show Steps p.tables e below (T3.setTop (mkF m 17 #[.val (.ref a), .val (.ref x), .val (.int (0 : Int32))] [(.int (1 : Int32))])) _
    refine XS.ifNo X3.here hx rfl (hb hby d19_17) rfl ((if0 _ _).trans (feq (by decide : ¬ ((1 : Int32) = (0 : Int32)))).1) ?_
    show Steps p.tables e below (T3.setTop (mkF m 20 #[.val (.ref a), .val (.ref x), .val (.int (0 : Int32))] [])) _
    refine XS.aloadN X3.here hx rfl (hb hby d19_20) rfl rfl ?_
    show Steps p.tables e below (T3.setTop (mkF m 21 #[.val (.ref a), .val (.ref x), .val (.int (0 : Int32))] [(.ref a)])) _
    refine st4 _ ?_
    show Steps p.tables e below (T4.setTop (mkF m 24 #[.val (.ref a), .val (.ref x), .val (.int (0 : Int32))] [(.ref b)])) _
    refine XS.aloadN X4.here hx rfl (hb hby d19_24) rfl rfl ?_
    show Steps p.tables e below (T4.setTop (mkF m 25 #[.val (.ref a), .val (.ref x), .val (.int (0 : Int32))] [(.ref x), (.ref b)])) _
    refine st5 _ ?_
    show Steps p.tables e below (T5.setTop (mkF m 28 #[.val (.ref a), .val (.ref x), .val (.int (0 : Int32))] [(.ref y), (.ref b)])) _
    refine st6 _ ?_
    show Steps p.tables e below (T6.setTop (mkF m 31 #[.val (.ref a), .val (.ref x), .val (.int (0 : Int32))] [(.int (-1 : Int32))])) _
    refine XS.goto X6.here hx rfl (pc0 := 31) (pc' := 45) rfl (hb hby d19_31) (by decide) (by decide) ?_
    show Steps p.tables e below (T6.setTop (mkF m 45 #[.val (.ref a), .val (.ref x), .val (.int (0 : Int32))] [(.int (-1 : Int32))])) _
    exact retI X6 hx Bd.returns (hb hby d19_45) hr
  · have eF : (T6.setFrames fs).heap = h0 := e6
    exact ⟨rfl, N6, eF⟩
set_option maxRecDepth 65536 in
set_option maxHeartbeats 40000000 in
theorem rmCon_10 (l : Launch) (Z : State) (a0 : Array Value) (hw : ∀ d ∈ tables_1, d.before a0 Z = true) (ws : List Jvm.Cond) (n0 : Nat) (h0 : Heap) (O : Old Z n0 h0) (i_COMPACT_STRINGS : Int32) (w_instance : Addr) (w_A : Addr) (W : OwW Z i_COMPACT_STRINGS w_instance w_A) (a b : Addr) (k : ClassId) (x y : Addr) (ky : ClassId) (Es : Exa Z h0 a "java/lang/String") (Fc : Fld Z h0 a "java/lang/String" "coder" "B" (.int (0 : Int32))) (Fv : Fld Z h0 a "java/lang/String" "value" "[B" (.ref b)) (Va : Arv Z h0 b k .byte (4 : Int32) [(.int (53 : Int32)), (.int (46 : Int32)), (.int (48 : Int32)), (.int (51 : Int32))] (.int 0)) (Esy : Exa Z h0 x "java/lang/String") (Fcy : Fld Z h0 x "java/lang/String" "coder" "B" (.int (0 : Int32))) (Fvy : Fld Z h0 x "java/lang/String" "value" "[B" (.ref y)) (Vay : Arv Z h0 y ky .byte (1 : Int32) [(.int (10 : Int32))] (.int 0)) :
    OwCon l (⟨"java/lang/String", "contains", "(Ljava/lang/CharSequence;)Z"⟩ : MethodName) jdk_42_method_97_code 2 (some .boolean) ws ({ frames := 3, cells := 0, slots := 0, locals := 49 } : Room) #[(.ref a), (.ref x)] Z h0 (OwQ (some (.int (0 : Int32))) h0 n0) := by
  refine MetFree.of_bodySF (plainFor_of_name owpn17) hisR ?_
  intro p e s m args below meth c s₁ Bd hml0 hP hK
  obtain ⟨rfl, hZ, hh⟩ := hP
  have hx := Bd.exec
  have hby := Bd.bytes
  have hml : c.maxLocals = 2 := hml0
  have hown : s.vm.findClass "java/lang/String" = some m.cls := findClass_of_methodNamed Bd.named
  have hnm := (name_of_methodNamed Bd.named Bd.method).1
  have X0 : Stand p l e ({ frames := 3, cells := 0, slots := 0, locals := 49 } : Room) s m #[(.ref a), (.ref x)] below meth c s₁ [] 0 0 := Stand.of_body Bd
  have e0 : s₁.heap = h0 := by rw [← hh, Bd.state]; rfl
  have N0 := Fr.nil n0
  have WW := W
  obtain ⟨nz_i_COMPACT_STRINGS, E_w_instance, E_w_A, S_String_COMPACT_STRINGS, S_CharacterDataLatin1_instance, S_CharacterDataLatin1_A, Ta, -⟩ := WW
  have ef : entryFrame m #[(.ref a), (.ref x)] 2 = mkF m 0 #[.val (.ref a), .val (.ref x)] [] := by first | (simp [entryFrame, mkF, argsToLocals, Value.category]; done) | rfl
  have pre0 : ∀ t, Steps p.tables e below (s₁.setTop (mkF m 0 #[.val (.ref a), .val (.ref x)] [])) t → Steps p.tables e below (s₁.setTop (entryFrame m #[(.ref a), (.ref x)] 2)) t := fun t k => castTop ef k
  obtain ⟨cq1, kq1, q1a, q1b, q1c⟩ := isOf hZ e0 Esy
  obtain ⟨_, _, ⟨T1, L1, k1, n1⟩, -, X1, ⟨Lc1, hQ1, l1, y1, z1⟩, st1⟩ := X0.interfaceBack hx (xi := (⟨"java/lang/CharSequence", "toString", "()Ljava/lang/String;"⟩ : MethodName)) (y := (⟨"java/lang/String", "toString", "()Ljava/lang/String;"⟩ : MethodName)) hown (mvT hZ (hw _ (List.mem_of_getElem? (i := 103) rfl))) (mvT hZ (hw _ (List.mem_of_getElem? (i := 104) rfl))) (mvT hZ (hw _ (List.mem_of_getElem? (i := 105) rfl))) (mvT hZ (hw _ (List.mem_of_getElem? (i := 106) rfl))) (mvT hZ (hw _ (List.mem_of_getElem? (i := 107) rfl))) (mvT hZ (hw _ (List.mem_of_getElem? (i := 108) rfl))) (mvT hZ (hw _ (List.mem_of_getElem? (i := 109) rfl))) (mvT hZ (hw _ (List.mem_of_getElem? (i := 110) rfl))) (by decide) (backOf (W := 1) (rmToS_10 l Z a0 hw [] n0 h0 O i_COMPACT_STRINGS w_instance w_A W x) hZ (hw _ (List.mem_of_getElem? (i := 111) rfl)) (hw _ (List.mem_of_getElem? (i := 28) rfl)) (by decide) (by decide)) q1a q1b q1c (g := (mkF m 2 #[.val (.ref a), .val (.ref x)] [(.ref x), (.ref a)])) rfl (by rw [hml]; rfl) (Steps.refl _) (argsL := []) (rest := [(.ref a)]) (lenOf owpd10 rfl) rfl (by show 2 * 0 + _ ≤ _; exact Nat.le_of_eq rfl) (hb hby d17_2) (fun _ _ => ⟨rfl, e0, (by decide : 0 + 0 ≤ _), (by decide : 0 + 0 ≤ _)⟩)
  dsimp only [Pt.U, Pt.locs, Pt.cells, Pt.slots] at X1 l1 y1 z1 st1 hQ1
  subst l1 y1 z1
  obtain ⟨rfl, Nq1, e1⟩ := hQ1
  have N1 := Fr.app N0 Nq1
  obtain ⟨cq2, kq2, q2a, q2b, q2c⟩ := isOf hZ e1 Es
  obtain ⟨_, _, ⟨T2, L2, k2, n2⟩, -, X2, ⟨Lc2, hQ2, l2, y2, z2⟩, st2⟩ := X1.virtualBack hx (y := (⟨"java/lang/String", "indexOf", "(Ljava/lang/String;)I"⟩ : MethodName)) (z := (⟨"java/lang/String", "indexOf", "(Ljava/lang/String;)I"⟩ : MethodName)) hown (mvT hZ (hw _ (List.mem_of_getElem? (i := 112) rfl))) (mvT hZ (hw _ (List.mem_of_getElem? (i := 113) rfl))) (notFace_of_selects (args := #[]) (mvT hZ (hw _ (List.mem_of_getElem? (i := 115) rfl)))) (mvT hZ (hw _ (List.mem_of_getElem? (i := 115) rfl))) (mvT hZ (hw _ (List.mem_of_getElem? (i := 114) rfl))) (by decide) (backOf (W := 0) (rmIx_10 l Z a0 hw [] n0 h0 O i_COMPACT_STRINGS w_instance w_A W a b k x y ky Es Fc Fv Va Esy Fcy Fvy Vay) hZ (hw _ (List.mem_of_getElem? (i := 116) rfl)) (hw _ (List.mem_of_getElem? (i := 28) rfl)) (by decide) (by decide)) q2a q2c (g := (mkF m 7 #[.val (.ref a), .val (.ref x)] [(.ref x), (.ref a)])) rfl (by rw [hml]; rfl) (Steps.refl _) (argsL := [(.ref x)]) (rest := []) (lenOf owpd11 rfl) rfl (by show 2 * 0 + _ ≤ _; exact Nat.le_of_eq rfl) (hb hby d17_7) (fun _ _ => ⟨rfl, e1, (by decide : 0 + 0 ≤ _), (by decide : 0 + 0 ≤ _)⟩)
  dsimp only [Pt.U, Pt.locs, Pt.cells, Pt.slots] at X2 l2 y2 z2 st2 hQ2
  subst l2 y2 z2
  obtain ⟨rfl, Nq2, e2⟩ := hQ2
  have N2 := Fr.app N1 Nq2
  obtain ⟨fs, hr, hrun, hended, hW, hsame⟩ := X2.leave (v := some (.int (0 : Int32))) (fun h => by rw [Bd.returns] at h; cases h)
  refine ⟨_, _, pre0 _ ?_, hrun, hended, _, _, rfl, ?_, ⟨_, rfl⟩, hW, hsame.mono (by decide) (by decide)⟩
  · show Steps p.tables e below (s₁.setTop (mkF m 0 #[.val (.ref a), .val (.ref x)] [])) _
    refine XS.aloadN X0.here hx rfl (hb hby d17_0) rfl rfl ?_
    show Steps p.tables e below (s₁.setTop (mkF m 1 #[.val (.ref a), .val (.ref x)] [(.ref a)])) _
    refine XS.aloadN X0.here hx rfl (hb hby d17_1) rfl rfl ?_
    show Steps p.tables e below (s₁.setTop (mkF m 2 #[.val (.ref a), .val (.ref x)] [(.ref x), (.ref a)])) _
    refine st1.trans ?_
    show Steps p.tables e below (T1.setTop (mkF m 7 #[.val (.ref a), .val (.ref x)] [(.ref x), (.ref a)])) _
    refine st2.trans ?_
    show Steps p.tables e below (T2.setTop (mkF m 10 #[.val (.ref a), .val (.ref x)] [(.int (-1 : Int32))])) _
    refine XS.ifYes X2.here hx rfl (pc0 := 10) (pc' := 17) rfl (hb hby d17_10) rfl ((if0 _ _).trans (tlt (by decide : (-1 : Int32) < (0 : Int32))).1) (by decide) (by decide) ?_
    show Steps p.tables e below (T2.setTop (mkF m 17 #[.val (.ref a), .val (.ref x)] [])) _
    refine XS.iconst X2.here hx rfl (hb hby d17_17) ?_
    show Steps p.tables e below (T2.setTop (mkF m 18 #[.val (.ref a), .val (.ref x)] [(.int (0 : Int32))])) _
    exact retN X2 hx (t := .boolean) Bd.returns (by simp) (hb hby d17_18) hr
  · have eF : (T2.setFrames fs).heap = h0 := e2
    exact ⟨rfl, N2, eF⟩
set_option maxRecDepth 65536 in
set_option maxHeartbeats 40000000 in
theorem rmIx5_13 (l : Launch) (Z : State) (a0 : Array Value) (hw : ∀ d ∈ tables_1, d.before a0 Z = true) (ws : List Jvm.Cond) (n0 : Nat) (h0 : Heap) (O : Old Z n0 h0) (i_COMPACT_STRINGS : Int32) (w_instance : Addr) (w_A : Addr) (W : OwW Z i_COMPACT_STRINGS w_instance w_A) (b : Addr) (k : ClassId) (y : Addr) (ky : ClassId) (Va : Arv Z h0 b k .byte (4 : Int32) [(.int (53 : Int32)), (.int (46 : Int32)), (.int (48 : Int32)), (.int (51 : Int32))] (.int 0)) (Vay : Arv Z h0 y ky .byte (1 : Int32) [(.int (13 : Int32))] (.int 0)) :
    OwCon l (⟨"java/lang/StringLatin1", "indexOf", "([BI[BII)I"⟩ : MethodName) jdk_43_method_25_code 11 (some .int) ws ({ frames := 0, cells := 0, slots := 0, locals := 0 } : Room) #[(.ref b), (.int (4 : Int32)), (.ref y), (.int (1 : Int32)), (.int (0 : Int32))] Z h0 (OwQ (some (.int (-1 : Int32))) h0 n0) := by
  refine MetFree.of_bodySF (plainFor_of_name owpn21) hisR ?_
  intro p e s m args below meth c s₁ Bd hml0 hP hK
  obtain ⟨rfl, hZ, hh⟩ := hP
  have hx := Bd.exec
  have hby := Bd.bytes
  have hml : c.maxLocals = 11 := hml0
  have hown : s.vm.findClass "java/lang/StringLatin1" = some m.cls := findClass_of_methodNamed Bd.named
  have hnm := (name_of_methodNamed Bd.named Bd.method).1
  have X0 : Stand p l e ({ frames := 0, cells := 0, slots := 0, locals := 0 } : Room) s m #[(.ref b), (.int (4 : Int32)), (.ref y), (.int (1 : Int32)), (.int (0 : Int32))] below meth c s₁ [] 0 0 := Stand.of_body Bd
  have e0 : s₁.heap = h0 := by rw [← hh, Bd.state]; rfl
  have N0 := Fr.nil n0
  have WW := W
  obtain ⟨nz_i_COMPACT_STRINGS, E_w_instance, E_w_A, S_String_COMPACT_STRINGS, S_CharacterDataLatin1_instance, S_CharacterDataLatin1_A, Ta, -⟩ := WW
  have ef : entryFrame m #[(.ref b), (.int (4 : Int32)), (.ref y), (.int (1 : Int32)), (.int (0 : Int32))] 11 = mkF m 0 #[.val (.ref b), .val (.int (4 : Int32)), .val (.ref y), .val (.int (1 : Int32)), .val (.int (0 : Int32)), .unset, .unset, .unset, .unset, .unset, .unset] [] := by first | (simp [entryFrame, mkF, argsToLocals, Value.category]; done) | rfl
  have pre0 : ∀ t, Steps p.tables e below (s₁.setTop (mkF m 0 #[.val (.ref b), .val (.int (4 : Int32)), .val (.ref y), .val (.int (1 : Int32)), .val (.int (0 : Int32)), .unset, .unset, .unset, .unset, .unset, .unset] [])) t → Steps p.tables e below (s₁.setTop (entryFrame m #[(.ref b), (.int (4 : Int32)), (.ref y), (.int (1 : Int32)), (.int (0 : Int32))] 11)) t := fun t k => castTop ef k
  obtain ⟨cl1, Ar1, q1, Sz1, Nn1, Hs1, -⟩ := id Vay
  have hin1 : ¬ ((0 : Int32) < 0 ∨ cl1.slots.size ≤ ((0 : Int32)).toNatClampNeg) := inb_of Sz1 ⟨by decide, by decide⟩
  have hat1 : cl1.slots[((0 : Int32)).toNatClampNeg]? = some (.int (13 : Int32)) := Has.at Hs1 hin1 rfl
  obtain ⟨cl2, Ar2, q2, Sz2, Nn2, Hs2, -⟩ := id Va
  have hin2 : ¬ ((0 : Int32) < 0 ∨ cl2.slots.size ≤ ((0 : Int32)).toNatClampNeg) := inb_of Sz2 ⟨by decide, by decide⟩
  have hat2 : cl2.slots[((0 : Int32)).toNatClampNeg]? = some (.int (53 : Int32)) := Has.at Hs2 hin2 rfl
  obtain ⟨cl3, Ar3, q3, Sz3, Nn3, Hs3, -⟩ := id Va
  have hin3 : ¬ ((1 : Int32) < 0 ∨ cl3.slots.size ≤ ((1 : Int32)).toNatClampNeg) := inb_of Sz3 ⟨by decide, by decide⟩
  have hat3 : cl3.slots[((1 : Int32)).toNatClampNeg]? = some (.int (46 : Int32)) := Has.at Hs3 hin3 rfl
  obtain ⟨cl4, Ar4, q4, Sz4, Nn4, Hs4, -⟩ := id Va
  have hin4 : ¬ ((2 : Int32) < 0 ∨ cl4.slots.size ≤ ((2 : Int32)).toNatClampNeg) := inb_of Sz4 ⟨by decide, by decide⟩
  have hat4 : cl4.slots[((2 : Int32)).toNatClampNeg]? = some (.int (48 : Int32)) := Has.at Hs4 hin4 rfl
  obtain ⟨cl5, Ar5, q5, Sz5, Nn5, Hs5, -⟩ := id Va
  have hin5 : ¬ ((3 : Int32) < 0 ∨ cl5.slots.size ≤ ((3 : Int32)).toNatClampNeg) := inb_of Sz5 ⟨by decide, by decide⟩
  have hat5 : cl5.slots[((3 : Int32)).toNatClampNeg]? = some (.int (51 : Int32)) := Has.at Hs5 hin5 rfl
  obtain ⟨fs, hr, hrun, hended, hW, hsame⟩ := X0.leave (v := some (.int (-1 : Int32))) (fun h => by rw [Bd.returns] at h; cases h)
  refine ⟨_, _, pre0 _ ?_, hrun, hended, _, _, rfl, ?_, ⟨_, rfl⟩, hW, hsame.mono (by decide) (by decide)⟩
  · show Steps p.tables e below (s₁.setTop (mkF m 0 #[.val (.ref b), .val (.int (4 : Int32)), .val (.ref y), .val (.int (1 : Int32)), .val (.int (0 : Int32)), .unset, .unset, .unset, .unset, .unset, .unset] [])) _
    refine XS.aloadN X0.here hx rfl (hb hby d21_0) rfl rfl ?_
    show Steps p.tables e below (s₁.setTop (mkF m 1 #[.val (.ref b), .val (.int (4 : Int32)), .val (.ref y), .val (.int (1 : Int32)), .val (.int (0 : Int32)), .unset, .unset, .unset, .unset, .unset, .unset] [(.ref y)])) _
    refine XS.iconst X0.here hx rfl (hb hby d21_1) ?_
    show Steps p.tables e below (s₁.setTop (mkF m 2 #[.val (.ref b), .val (.int (4 : Int32)), .val (.ref y), .val (.int (1 : Int32)), .val (.int (0 : Int32)), .unset, .unset, .unset, .unset, .unset, .unset] [(.int (0 : Int32)), (.ref y)])) _
    refine X0.baloadBytes hx (j := (0 : Int32)) (v := (.int (13 : Int32))) (by rw [e0]; exact Ar1.1) (State.isArrayOf_alike hZ.alike Ar1.2.1) Ar1.2.2 hin1 hat1 (g := (mkF m 2 #[.val (.ref b), .val (.int (4 : Int32)), .val (.ref y), .val (.int (1 : Int32)), .val (.int (0 : Int32)), .unset, .unset, .unset, .unset, .unset, .unset] [(.int (0 : Int32)), (.ref y)])) rfl rfl (hb hby d21_2) _ ?_
    show Steps p.tables e below (s₁.setTop (mkF m 3 #[.val (.ref b), .val (.int (4 : Int32)), .val (.ref y), .val (.int (1 : Int32)), .val (.int (0 : Int32)), .unset, .unset, .unset, .unset, .unset, .unset] [(.int (13 : Int32))])) _
    refine XS.istore X0.here hx rfl (hb hby d21_3) rfl (l' := #[.val (.ref b), .val (.int (4 : Int32)), .val (.ref y), .val (.int (1 : Int32)), .val (.int (0 : Int32)), .val (.int (13 : Int32)), .unset, .unset, .unset, .unset, .unset]) rfl ?_
    show Steps p.tables e below (s₁.setTop (mkF m 5 #[.val (.ref b), .val (.int (4 : Int32)), .val (.ref y), .val (.int (1 : Int32)), .val (.int (0 : Int32)), .val (.int (13 : Int32)), .unset, .unset, .unset, .unset, .unset] [])) _
    refine XS.iloadN X0.here hx rfl (hb hby d21_5) rfl ?_
    show Steps p.tables e below (s₁.setTop (mkF m 6 #[.val (.ref b), .val (.int (4 : Int32)), .val (.ref y), .val (.int (1 : Int32)), .val (.int (0 : Int32)), .val (.int (13 : Int32)), .unset, .unset, .unset, .unset, .unset] [(.int (4 : Int32))])) _
    refine XS.iloadN X0.here hx rfl (hb hby d21_6) rfl ?_
    show Steps p.tables e below (s₁.setTop (mkF m 7 #[.val (.ref b), .val (.int (4 : Int32)), .val (.ref y), .val (.int (1 : Int32)), .val (.int (0 : Int32)), .val (.int (13 : Int32)), .unset, .unset, .unset, .unset, .unset] [(.int (1 : Int32)), (.int (4 : Int32))])) _
    refine XS.isub X0.here hx rfl (hb hby d21_7) rfl ?_
    show Steps p.tables e below (s₁.setTop (mkF m 8 #[.val (.ref b), .val (.int (4 : Int32)), .val (.ref y), .val (.int (1 : Int32)), .val (.int (0 : Int32)), .val (.int (13 : Int32)), .unset, .unset, .unset, .unset, .unset] [(.int (3 : Int32))])) _
    refine XS.istore X0.here hx rfl (hb hby d21_8) rfl (l' := #[.val (.ref b), .val (.int (4 : Int32)), .val (.ref y), .val (.int (1 : Int32)), .val (.int (0 : Int32)), .val (.int (13 : Int32)), .val (.int (3 : Int32)), .unset, .unset, .unset, .unset]) rfl ?_
    show Steps p.tables e below (s₁.setTop (mkF m 10 #[.val (.ref b), .val (.int (4 : Int32)), .val (.ref y), .val (.int (1 : Int32)), .val (.int (0 : Int32)), .val (.int (13 : Int32)), .val (.int (3 : Int32)), .unset, .unset, .unset, .unset] [])) _
    refine XS.iload X0.here hx rfl (hb hby d21_10) rfl ?_
    show Steps p.tables e below (s₁.setTop (mkF m 12 #[.val (.ref b), .val (.int (4 : Int32)), .val (.ref y), .val (.int (1 : Int32)), .val (.int (0 : Int32)), .val (.int (13 : Int32)), .val (.int (3 : Int32)), .unset, .unset, .unset, .unset] [(.int (0 : Int32))])) _
    refine XS.istore X0.here hx rfl (hb hby d21_12) rfl (l' := #[.val (.ref b), .val (.int (4 : Int32)), .val (.ref y), .val (.int (1 : Int32)), .val (.int (0 : Int32)), .val (.int (13 : Int32)), .val (.int (3 : Int32)), .val (.int (0 : Int32)), .unset, .unset, .unset]) rfl ?_
    show Steps p.tables e below (s₁.setTop (mkF m 14 #[.val (.ref b), .val (.int (4 : Int32)), .val (.ref y), .val (.int (1 : Int32)), .val (.int (0 : Int32)), .val (.int (13 : Int32)), .val (.int (3 : Int32)), .val (.int (0 : Int32)), .unset, .unset, .unset] [])) _
    refine XS.iload X0.here hx rfl (hb hby d21_14) rfl ?_
    show Steps p.tables e below (s₁.setTop (mkF m 16 #[.val (.ref b), .val (.int (4 : Int32)), .val (.ref y), .val (.int (1 : Int32)), .val (.int (0 : Int32)), .val (.int (13 : Int32)), .val (.int (3 : Int32)), .val (.int (0 : Int32)), .unset, .unset, .unset] [(.int (0 : Int32))])) _
    refine XS.iload X0.here hx rfl (hb hby d21_16) rfl ?_
    show Steps p.tables e below (s₁.setTop (mkF m 18 #[.val (.ref b), .val (.int (4 : Int32)), .val (.ref y), .val (.int (1 : Int32)), .val (.int (0 : Int32)), .val (.int (13 : Int32)), .val (.int (3 : Int32)), .val (.int (0 : Int32)), .unset, .unset, .unset] [(.int (3 : Int32)), (.int (0 : Int32))])) _
    refine XS.icmpNo X0.here hx rfl (hb hby d21_18) rfl (flt (by decide : ¬ ((3 : Int32) < (0 : Int32)))).2.2.1 ?_
    show Steps p.tables e below (s₁.setTop (mkF m 21 #[.val (.ref b), .val (.int (4 : Int32)), .val (.ref y), .val (.int (1 : Int32)), .val (.int (0 : Int32)), .val (.int (13 : Int32)), .val (.int (3 : Int32)), .val (.int (0 : Int32)), .unset, .unset, .unset] [])) _
    refine XS.aloadN X0.here hx rfl (hb hby d21_21) rfl rfl ?_
    show Steps p.tables e below (s₁.setTop (mkF m 22 #[.val (.ref b), .val (.int (4 : Int32)), .val (.ref y), .val (.int (1 : Int32)), .val (.int (0 : Int32)), .val (.int (13 : Int32)), .val (.int (3 : Int32)), .val (.int (0 : Int32)), .unset, .unset, .unset] [(.ref b)])) _
    refine XS.iload X0.here hx rfl (hb hby d21_22) rfl ?_
    show Steps p.tables e below (s₁.setTop (mkF m 24 #[.val (.ref b), .val (.int (4 : Int32)), .val (.ref y), .val (.int (1 : Int32)), .val (.int (0 : Int32)), .val (.int (13 : Int32)), .val (.int (3 : Int32)), .val (.int (0 : Int32)), .unset, .unset, .unset] [(.int (0 : Int32)), (.ref b)])) _
    refine X0.baloadBytes hx (j := (0 : Int32)) (v := (.int (53 : Int32))) (by rw [e0]; exact Ar2.1) (State.isArrayOf_alike hZ.alike Ar2.2.1) Ar2.2.2 hin2 hat2 (g := (mkF m 24 #[.val (.ref b), .val (.int (4 : Int32)), .val (.ref y), .val (.int (1 : Int32)), .val (.int (0 : Int32)), .val (.int (13 : Int32)), .val (.int (3 : Int32)), .val (.int (0 : Int32)), .unset, .unset, .unset] [(.int (0 : Int32)), (.ref b)])) rfl rfl (hb hby d21_24) _ ?_
    show Steps p.tables e below (s₁.setTop (mkF m 25 #[.val (.ref b), .val (.int (4 : Int32)), .val (.ref y), .val (.int (1 : Int32)), .val (.int (0 : Int32)), .val (.int (13 : Int32)), .val (.int (3 : Int32)), .val (.int (0 : Int32)), .unset, .unset, .unset] [(.int (53 : Int32))])) _
    refine XS.iload X0.here hx rfl (hb hby d21_25) rfl ?_
    show Steps p.tables e below (s₁.setTop (mkF m 27 #[.val (.ref b), .val (.int (4 : Int32)), .val (.ref y), .val (.int (1 : Int32)), .val (.int (0 : Int32)), .val (.int (13 : Int32)), .val (.int (3 : Int32)), .val (.int (0 : Int32)), .unset, .unset, .unset] [(.int (13 : Int32)), (.int (53 : Int32))])) _
    refine XS.icmpNo X0.here hx rfl (hb hby d21_27) rfl (feq (by decide : ¬ ((53 : Int32) = (13 : Int32)))).1 ?_
    show Steps p.tables e below (s₁.setTop (mkF m 30 #[.val (.ref b), .val (.int (4 : Int32)), .val (.ref y), .val (.int (1 : Int32)), .val (.int (0 : Int32)), .val (.int (13 : Int32)), .val (.int (3 : Int32)), .val (.int (0 : Int32)), .unset, .unset, .unset] [])) _
    refine XS.iinc X0.here hx rfl (hb hby d21_30) rfl (l' := #[.val (.ref b), .val (.int (4 : Int32)), .val (.ref y), .val (.int (1 : Int32)), .val (.int (0 : Int32)), .val (.int (13 : Int32)), .val (.int (3 : Int32)), .val (.int (1 : Int32)), .unset, .unset, .unset]) rfl ?_
    show Steps p.tables e below (s₁.setTop (mkF m 33 #[.val (.ref b), .val (.int (4 : Int32)), .val (.ref y), .val (.int (1 : Int32)), .val (.int (0 : Int32)), .val (.int (13 : Int32)), .val (.int (3 : Int32)), .val (.int (1 : Int32)), .unset, .unset, .unset] [])) _
    refine XS.iload X0.here hx rfl (hb hby d21_33) rfl ?_
    show Steps p.tables e below (s₁.setTop (mkF m 35 #[.val (.ref b), .val (.int (4 : Int32)), .val (.ref y), .val (.int (1 : Int32)), .val (.int (0 : Int32)), .val (.int (13 : Int32)), .val (.int (3 : Int32)), .val (.int (1 : Int32)), .unset, .unset, .unset] [(.int (1 : Int32))])) _
    refine XS.iload X0.here hx rfl (hb hby d21_35) rfl ?_
    show Steps p.tables e below (s₁.setTop (mkF m 37 #[.val (.ref b), .val (.int (4 : Int32)), .val (.ref y), .val (.int (1 : Int32)), .val (.int (0 : Int32)), .val (.int (13 : Int32)), .val (.int (3 : Int32)), .val (.int (1 : Int32)), .unset, .unset, .unset] [(.int (3 : Int32)), (.int (1 : Int32))])) _
    refine XS.icmpNo X0.here hx rfl (hb hby d21_37) rfl (flt (by decide : ¬ ((3 : Int32) < (1 : Int32)))).2.2.1 ?_
    show Steps p.tables e below (s₁.setTop (mkF m 40 #[.val (.ref b), .val (.int (4 : Int32)), .val (.ref y), .val (.int (1 : Int32)), .val (.int (0 : Int32)), .val (.int (13 : Int32)), .val (.int (3 : Int32)), .val (.int (1 : Int32)), .unset, .unset, .unset] [])) _
    refine XS.aloadN X0.here hx rfl (hb hby d21_40) rfl rfl ?_
    show Steps p.tables e below (s₁.setTop (mkF m 41 #[.val (.ref b), .val (.int (4 : Int32)), .val (.ref y), .val (.int (1 : Int32)), .val (.int (0 : Int32)), .val (.int (13 : Int32)), .val (.int (3 : Int32)), .val (.int (1 : Int32)), .unset, .unset, .unset] [(.ref b)])) _
    refine XS.iload X0.here hx rfl (hb hby d21_41) rfl ?_
    show Steps p.tables e below (s₁.setTop (mkF m 43 #[.val (.ref b), .val (.int (4 : Int32)), .val (.ref y), .val (.int (1 : Int32)), .val (.int (0 : Int32)), .val (.int (13 : Int32)), .val (.int (3 : Int32)), .val (.int (1 : Int32)), .unset, .unset, .unset] [(.int (1 : Int32)), (.ref b)])) _
    refine X0.baloadBytes hx (j := (1 : Int32)) (v := (.int (46 : Int32))) (by rw [e0]; exact Ar3.1) (State.isArrayOf_alike hZ.alike Ar3.2.1) Ar3.2.2 hin3 hat3 (g := (mkF m 43 #[.val (.ref b), .val (.int (4 : Int32)), .val (.ref y), .val (.int (1 : Int32)), .val (.int (0 : Int32)), .val (.int (13 : Int32)), .val (.int (3 : Int32)), .val (.int (1 : Int32)), .unset, .unset, .unset] [(.int (1 : Int32)), (.ref b)])) rfl rfl (hb hby d21_43) _ ?_
    show Steps p.tables e below (s₁.setTop (mkF m 44 #[.val (.ref b), .val (.int (4 : Int32)), .val (.ref y), .val (.int (1 : Int32)), .val (.int (0 : Int32)), .val (.int (13 : Int32)), .val (.int (3 : Int32)), .val (.int (1 : Int32)), .unset, .unset, .unset] [(.int (46 : Int32))])) _
    refine XS.iload X0.here hx rfl (hb hby d21_44) rfl ?_
    show Steps p.tables e below (s₁.setTop (mkF m 46 #[.val (.ref b), .val (.int (4 : Int32)), .val (.ref y), .val (.int (1 : Int32)), .val (.int (0 : Int32)), .val (.int (13 : Int32)), .val (.int (3 : Int32)), .val (.int (1 : Int32)), .unset, .unset, .unset] [(.int (13 : Int32)), (.int (46 : Int32))])) _
    refine XS.icmpNo X0.here hx rfl (hb hby d21_46) rfl (feq (by decide : ¬ ((46 : Int32) = (13 : Int32)))).1 ?_
    show Steps p.tables e below (s₁.setTop (mkF m 49 #[.val (.ref b), .val (.int (4 : Int32)), .val (.ref y), .val (.int (1 : Int32)), .val (.int (0 : Int32)), .val (.int (13 : Int32)), .val (.int (3 : Int32)), .val (.int (1 : Int32)), .unset, .unset, .unset] [])) _
    refine XS.goto X0.here hx rfl (pc0 := 49) (pc' := 30) rfl (hb hby d21_49) (by decide) (by decide) ?_
    show Steps p.tables e below (s₁.setTop (mkF m 30 #[.val (.ref b), .val (.int (4 : Int32)), .val (.ref y), .val (.int (1 : Int32)), .val (.int (0 : Int32)), .val (.int (13 : Int32)), .val (.int (3 : Int32)), .val (.int (1 : Int32)), .unset, .unset, .unset] [])) _
    refine XS.iinc X0.here hx rfl (hb hby d21_30) rfl (l' := #[.val (.ref b), .val (.int (4 : Int32)), .val (.ref y), .val (.int (1 : Int32)), .val (.int (0 : Int32)), .val (.int (13 : Int32)), .val (.int (3 : Int32)), .val (.int (2 : Int32)), .unset, .unset, .unset]) rfl ?_
    show Steps p.tables e below (s₁.setTop (mkF m 33 #[.val (.ref b), .val (.int (4 : Int32)), .val (.ref y), .val (.int (1 : Int32)), .val (.int (0 : Int32)), .val (.int (13 : Int32)), .val (.int (3 : Int32)), .val (.int (2 : Int32)), .unset, .unset, .unset] [])) _
    refine XS.iload X0.here hx rfl (hb hby d21_33) rfl ?_
    show Steps p.tables e below (s₁.setTop (mkF m 35 #[.val (.ref b), .val (.int (4 : Int32)), .val (.ref y), .val (.int (1 : Int32)), .val (.int (0 : Int32)), .val (.int (13 : Int32)), .val (.int (3 : Int32)), .val (.int (2 : Int32)), .unset, .unset, .unset] [(.int (2 : Int32))])) _
    refine XS.iload X0.here hx rfl (hb hby d21_35) rfl ?_
    show Steps p.tables e below (s₁.setTop (mkF m 37 #[.val (.ref b), .val (.int (4 : Int32)), .val (.ref y), .val (.int (1 : Int32)), .val (.int (0 : Int32)), .val (.int (13 : Int32)), .val (.int (3 : Int32)), .val (.int (2 : Int32)), .unset, .unset, .unset] [(.int (3 : Int32)), (.int (2 : Int32))])) _
    refine XS.icmpNo X0.here hx rfl (hb hby d21_37) rfl (flt (by decide : ¬ ((3 : Int32) < (2 : Int32)))).2.2.1 ?_
    show Steps p.tables e below (s₁.setTop (mkF m 40 #[.val (.ref b), .val (.int (4 : Int32)), .val (.ref y), .val (.int (1 : Int32)), .val (.int (0 : Int32)), .val (.int (13 : Int32)), .val (.int (3 : Int32)), .val (.int (2 : Int32)), .unset, .unset, .unset] [])) _
    refine XS.aloadN X0.here hx rfl (hb hby d21_40) rfl rfl ?_
    show Steps p.tables e below (s₁.setTop (mkF m 41 #[.val (.ref b), .val (.int (4 : Int32)), .val (.ref y), .val (.int (1 : Int32)), .val (.int (0 : Int32)), .val (.int (13 : Int32)), .val (.int (3 : Int32)), .val (.int (2 : Int32)), .unset, .unset, .unset] [(.ref b)])) _
    refine XS.iload X0.here hx rfl (hb hby d21_41) rfl ?_
    show Steps p.tables e below (s₁.setTop (mkF m 43 #[.val (.ref b), .val (.int (4 : Int32)), .val (.ref y), .val (.int (1 : Int32)), .val (.int (0 : Int32)), .val (.int (13 : Int32)), .val (.int (3 : Int32)), .val (.int (2 : Int32)), .unset, .unset, .unset] [(.int (2 : Int32)), (.ref b)])) _
    refine X0.baloadBytes hx (j := (2 : Int32)) (v := (.int (48 : Int32))) (by rw [e0]; exact Ar4.1) (State.isArrayOf_alike hZ.alike Ar4.2.1) Ar4.2.2 hin4 hat4 (g := (mkF m 43 #[.val (.ref b), .val (.int (4 : Int32)), .val (.ref y), .val (.int (1 : Int32)), .val (.int (0 : Int32)), .val (.int (13 : Int32)), .val (.int (3 : Int32)), .val (.int (2 : Int32)), .unset, .unset, .unset] [(.int (2 : Int32)), (.ref b)])) rfl rfl (hb hby d21_43) _ ?_
    show Steps p.tables e below (s₁.setTop (mkF m 44 #[.val (.ref b), .val (.int (4 : Int32)), .val (.ref y), .val (.int (1 : Int32)), .val (.int (0 : Int32)), .val (.int (13 : Int32)), .val (.int (3 : Int32)), .val (.int (2 : Int32)), .unset, .unset, .unset] [(.int (48 : Int32))])) _
    refine XS.iload X0.here hx rfl (hb hby d21_44) rfl ?_
    show Steps p.tables e below (s₁.setTop (mkF m 46 #[.val (.ref b), .val (.int (4 : Int32)), .val (.ref y), .val (.int (1 : Int32)), .val (.int (0 : Int32)), .val (.int (13 : Int32)), .val (.int (3 : Int32)), .val (.int (2 : Int32)), .unset, .unset, .unset] [(.int (13 : Int32)), (.int (48 : Int32))])) _
    refine XS.icmpNo X0.here hx rfl (hb hby d21_46) rfl (feq (by decide : ¬ ((48 : Int32) = (13 : Int32)))).1 ?_
    show Steps p.tables e below (s₁.setTop (mkF m 49 #[.val (.ref b), .val (.int (4 : Int32)), .val (.ref y), .val (.int (1 : Int32)), .val (.int (0 : Int32)), .val (.int (13 : Int32)), .val (.int (3 : Int32)), .val (.int (2 : Int32)), .unset, .unset, .unset] [])) _
    refine XS.goto X0.here hx rfl (pc0 := 49) (pc' := 30) rfl (hb hby d21_49) (by decide) (by decide) ?_
    show Steps p.tables e below (s₁.setTop (mkF m 30 #[.val (.ref b), .val (.int (4 : Int32)), .val (.ref y), .val (.int (1 : Int32)), .val (.int (0 : Int32)), .val (.int (13 : Int32)), .val (.int (3 : Int32)), .val (.int (2 : Int32)), .unset, .unset, .unset] [])) _
    refine XS.iinc X0.here hx rfl (hb hby d21_30) rfl (l' := #[.val (.ref b), .val (.int (4 : Int32)), .val (.ref y), .val (.int (1 : Int32)), .val (.int (0 : Int32)), .val (.int (13 : Int32)), .val (.int (3 : Int32)), .val (.int (3 : Int32)), .unset, .unset, .unset]) rfl ?_
    show Steps p.tables e below (s₁.setTop (mkF m 33 #[.val (.ref b), .val (.int (4 : Int32)), .val (.ref y), .val (.int (1 : Int32)), .val (.int (0 : Int32)), .val (.int (13 : Int32)), .val (.int (3 : Int32)), .val (.int (3 : Int32)), .unset, .unset, .unset] [])) _
    refine XS.iload X0.here hx rfl (hb hby d21_33) rfl ?_
    show Steps p.tables e below (s₁.setTop (mkF m 35 #[.val (.ref b), .val (.int (4 : Int32)), .val (.ref y), .val (.int (1 : Int32)), .val (.int (0 : Int32)), .val (.int (13 : Int32)), .val (.int (3 : Int32)), .val (.int (3 : Int32)), .unset, .unset, .unset] [(.int (3 : Int32))])) _
    refine XS.iload X0.here hx rfl (hb hby d21_35) rfl ?_
    show Steps p.tables e below (s₁.setTop (mkF m 37 #[.val (.ref b), .val (.int (4 : Int32)), .val (.ref y), .val (.int (1 : Int32)), .val (.int (0 : Int32)), .val (.int (13 : Int32)), .val (.int (3 : Int32)), .val (.int (3 : Int32)), .unset, .unset, .unset] [(.int (3 : Int32)), (.int (3 : Int32))])) _
    refine XS.icmpNo X0.here hx rfl (hb hby d21_37) rfl (flt (by decide : ¬ ((3 : Int32) < (3 : Int32)))).2.2.1 ?_
    show Steps p.tables e below (s₁.setTop (mkF m 40 #[.val (.ref b), .val (.int (4 : Int32)), .val (.ref y), .val (.int (1 : Int32)), .val (.int (0 : Int32)), .val (.int (13 : Int32)), .val (.int (3 : Int32)), .val (.int (3 : Int32)), .unset, .unset, .unset] [])) _
    refine XS.aloadN X0.here hx rfl (hb hby d21_40) rfl rfl ?_
    show Steps p.tables e below (s₁.setTop (mkF m 41 #[.val (.ref b), .val (.int (4 : Int32)), .val (.ref y), .val (.int (1 : Int32)), .val (.int (0 : Int32)), .val (.int (13 : Int32)), .val (.int (3 : Int32)), .val (.int (3 : Int32)), .unset, .unset, .unset] [(.ref b)])) _
    refine XS.iload X0.here hx rfl (hb hby d21_41) rfl ?_
    show Steps p.tables e below (s₁.setTop (mkF m 43 #[.val (.ref b), .val (.int (4 : Int32)), .val (.ref y), .val (.int (1 : Int32)), .val (.int (0 : Int32)), .val (.int (13 : Int32)), .val (.int (3 : Int32)), .val (.int (3 : Int32)), .unset, .unset, .unset] [(.int (3 : Int32)), (.ref b)])) _
    refine X0.baloadBytes hx (j := (3 : Int32)) (v := (.int (51 : Int32))) (by rw [e0]; exact Ar5.1) (State.isArrayOf_alike hZ.alike Ar5.2.1) Ar5.2.2 hin5 hat5 (g := (mkF m 43 #[.val (.ref b), .val (.int (4 : Int32)), .val (.ref y), .val (.int (1 : Int32)), .val (.int (0 : Int32)), .val (.int (13 : Int32)), .val (.int (3 : Int32)), .val (.int (3 : Int32)), .unset, .unset, .unset] [(.int (3 : Int32)), (.ref b)])) rfl rfl (hb hby d21_43) _ ?_
    show Steps p.tables e below (s₁.setTop (mkF m 44 #[.val (.ref b), .val (.int (4 : Int32)), .val (.ref y), .val (.int (1 : Int32)), .val (.int (0 : Int32)), .val (.int (13 : Int32)), .val (.int (3 : Int32)), .val (.int (3 : Int32)), .unset, .unset, .unset] [(.int (51 : Int32))])) _
    refine XS.iload X0.here hx rfl (hb hby d21_44) rfl ?_
    show Steps p.tables e below (s₁.setTop (mkF m 46 #[.val (.ref b), .val (.int (4 : Int32)), .val (.ref y), .val (.int (1 : Int32)), .val (.int (0 : Int32)), .val (.int (13 : Int32)), .val (.int (3 : Int32)), .val (.int (3 : Int32)), .unset, .unset, .unset] [(.int (13 : Int32)), (.int (51 : Int32))])) _
    refine XS.icmpNo X0.here hx rfl (hb hby d21_46) rfl (feq (by decide : ¬ ((51 : Int32) = (13 : Int32)))).1 ?_
    show Steps p.tables e below (s₁.setTop (mkF m 49 #[.val (.ref b), .val (.int (4 : Int32)), .val (.ref y), .val (.int (1 : Int32)), .val (.int (0 : Int32)), .val (.int (13 : Int32)), .val (.int (3 : Int32)), .val (.int (3 : Int32)), .unset, .unset, .unset] [])) _
    refine XS.goto X0.here hx rfl (pc0 := 49) (pc' := 30) rfl (hb hby d21_49) (by decide) (by decide) ?_
    show Steps p.tables e below (s₁.setTop (mkF m 30 #[.val (.ref b), .val (.int (4 : Int32)), .val (.ref y), .val (.int (1 : Int32)), .val (.int (0 : Int32)), .val (.int (13 : Int32)), .val (.int (3 : Int32)), .val (.int (3 : Int32)), .unset, .unset, .unset] [])) _
    refine XS.iinc X0.here hx rfl (hb hby d21_30) rfl (l' := #[.val (.ref b), .val (.int (4 : Int32)), .val (.ref y), .val (.int (1 : Int32)), .val (.int (0 : Int32)), .val (.int (13 : Int32)), .val (.int (3 : Int32)), .val (.int (4 : Int32)), .unset, .unset, .unset]) rfl ?_
    show Steps p.tables e below (s₁.setTop (mkF m 33 #[.val (.ref b), .val (.int (4 : Int32)), .val (.ref y), .val (.int (1 : Int32)), .val (.int (0 : Int32)), .val (.int (13 : Int32)), .val (.int (3 : Int32)), .val (.int (4 : Int32)), .unset, .unset, .unset] [])) _
    refine XS.iload X0.here hx rfl (hb hby d21_33) rfl ?_
    show Steps p.tables e below (s₁.setTop (mkF m 35 #[.val (.ref b), .val (.int (4 : Int32)), .val (.ref y), .val (.int (1 : Int32)), .val (.int (0 : Int32)), .val (.int (13 : Int32)), .val (.int (3 : Int32)), .val (.int (4 : Int32)), .unset, .unset, .unset] [(.int (4 : Int32))])) _
    refine XS.iload X0.here hx rfl (hb hby d21_35) rfl ?_
    show Steps p.tables e below (s₁.setTop (mkF m 37 #[.val (.ref b), .val (.int (4 : Int32)), .val (.ref y), .val (.int (1 : Int32)), .val (.int (0 : Int32)), .val (.int (13 : Int32)), .val (.int (3 : Int32)), .val (.int (4 : Int32)), .unset, .unset, .unset] [(.int (3 : Int32)), (.int (4 : Int32))])) _
    refine XS.icmpYes X0.here hx rfl (pc0 := 37) (pc' := 52) rfl (hb hby d21_37) rfl (tlt (by decide : (3 : Int32) < (4 : Int32))).2.2.1 (by decide) (by decide) ?_
    show Steps p.tables e below (s₁.setTop (mkF m 52 #[.val (.ref b), .val (.int (4 : Int32)), .val (.ref y), .val (.int (1 : Int32)), .val (.int (0 : Int32)), .val (.int (13 : Int32)), .val (.int (3 : Int32)), .val (.int (4 : Int32)), .unset, .unset, .unset] [])) _
    refine XS.iload X0.here hx rfl (hb hby d21_52) rfl ?_
    show Steps p.tables e below (s₁.setTop (mkF m 54 #[.val (.ref b), .val (.int (4 : Int32)), .val (.ref y), .val (.int (1 : Int32)), .val (.int (0 : Int32)), .val (.int (13 : Int32)), .val (.int (3 : Int32)), .val (.int (4 : Int32)), .unset, .unset, .unset] [(.int (4 : Int32))])) _
    refine XS.iload X0.here hx rfl (hb hby d21_54) rfl ?_
    show Steps p.tables e below (s₁.setTop (mkF m 56 #[.val (.ref b), .val (.int (4 : Int32)), .val (.ref y), .val (.int (1 : Int32)), .val (.int (0 : Int32)), .val (.int (13 : Int32)), .val (.int (3 : Int32)), .val (.int (4 : Int32)), .unset, .unset, .unset] [(.int (3 : Int32)), (.int (4 : Int32))])) _
    refine XS.icmpYes X0.here hx rfl (pc0 := 56) (pc' := 113) rfl (hb hby d21_56) rfl (tlt (by decide : (3 : Int32) < (4 : Int32))).2.2.1 (by decide) (by decide) ?_
    show Steps p.tables e below (s₁.setTop (mkF m 113 #[.val (.ref b), .val (.int (4 : Int32)), .val (.ref y), .val (.int (1 : Int32)), .val (.int (0 : Int32)), .val (.int (13 : Int32)), .val (.int (3 : Int32)), .val (.int (4 : Int32)), .unset, .unset, .unset] [])) _
    refine XS.iinc X0.here hx rfl (hb hby d21_113) rfl (l' := #[.val (.ref b), .val (.int (4 : Int32)), .val (.ref y), .val (.int (1 : Int32)), .val (.int (0 : Int32)), .val (.int (13 : Int32)), .val (.int (3 : Int32)), .val (.int (5 : Int32)), .unset, .unset, .unset]) rfl ?_
    show Steps p.tables e below (s₁.setTop (mkF m 116 #[.val (.ref b), .val (.int (4 : Int32)), .val (.ref y), .val (.int (1 : Int32)), .val (.int (0 : Int32)), .val (.int (13 : Int32)), .val (.int (3 : Int32)), .val (.int (5 : Int32)), .unset, .unset, .unset] [])) _
    refine XS.goto X0.here hx rfl (pc0 := 116) (pc' := 14) rfl (hb hby d21_116) (by decide) (by decide) ?_
    show Steps p.tables e below (s₁.setTop (mkF m 14 #[.val (.ref b), .val (.int (4 : Int32)), .val (.ref y), .val (.int (1 : Int32)), .val (.int (0 : Int32)), .val (.int (13 : Int32)), .val (.int (3 : Int32)), .val (.int (5 : Int32)), .unset, .unset, .unset] [])) _
    refine XS.iload X0.here hx rfl (hb hby d21_14) rfl ?_
    show Steps p.tables e below (s₁.setTop (mkF m 16 #[.val (.ref b), .val (.int (4 : Int32)), .val (.ref y), .val (.int (1 : Int32)), .val (.int (0 : Int32)), .val (.int (13 : Int32)), .val (.int (3 : Int32)), .val (.int (5 : Int32)), .unset, .unset, .unset] [(.int (5 : Int32))])) _
    refine XS.iload X0.here hx rfl (hb hby d21_16) rfl ?_
    show Steps p.tables e below (s₁.setTop (mkF m 18 #[.val (.ref b), .val (.int (4 : Int32)), .val (.ref y), .val (.int (1 : Int32)), .val (.int (0 : Int32)), .val (.int (13 : Int32)), .val (.int (3 : Int32)), .val (.int (5 : Int32)), .unset, .unset, .unset] [(.int (3 : Int32)), (.int (5 : Int32))])) _
    refine XS.icmpYes X0.here hx rfl (pc0 := 18) (pc' := 119) rfl (hb hby d21_18) rfl (tlt (by decide : (3 : Int32) < (5 : Int32))).2.2.1 (by decide) (by decide) ?_
    show Steps p.tables e below (s₁.setTop (mkF m 119 #[.val (.ref b), .val (.int (4 : Int32)), .val (.ref y), .val (.int (1 : Int32)), .val (.int (0 : Int32)), .val (.int (13 : Int32)), .val (.int (3 : Int32)), .val (.int (5 : Int32)), .unset, .unset, .unset] [])) _
    refine XS.iconst X0.here hx rfl (hb hby d21_119) ?_
    show Steps p.tables e below (s₁.setTop (mkF m 120 #[.val (.ref b), .val (.int (4 : Int32)), .val (.ref y), .val (.int (1 : Int32)), .val (.int (0 : Int32)), .val (.int (13 : Int32)), .val (.int (3 : Int32)), .val (.int (5 : Int32)), .unset, .unset, .unset] [(.int (-1 : Int32))])) _
    exact retI X0 hx Bd.returns (hb hby d21_120) hr
  · have eF : (s₁.setFrames fs).heap = h0 := e0
    exact ⟨rfl, N0, eF⟩
set_option maxRecDepth 65536 in
set_option maxHeartbeats 40000000 in
theorem rmIx2_13 (l : Launch) (Z : State) (a0 : Array Value) (hw : ∀ d ∈ tables_1, d.before a0 Z = true) (ws : List Jvm.Cond) (n0 : Nat) (h0 : Heap) (O : Old Z n0 h0) (i_COMPACT_STRINGS : Int32) (w_instance : Addr) (w_A : Addr) (W : OwW Z i_COMPACT_STRINGS w_instance w_A) (b : Addr) (k : ClassId) (y : Addr) (ky : ClassId) (Va : Arv Z h0 b k .byte (4 : Int32) [(.int (53 : Int32)), (.int (46 : Int32)), (.int (48 : Int32)), (.int (51 : Int32))] (.int 0)) (Vay : Arv Z h0 y ky .byte (1 : Int32) [(.int (13 : Int32))] (.int 0)) :
    OwCon l (⟨"java/lang/StringLatin1", "indexOf", "([B[B)I"⟩ : MethodName) jdk_43_method_24_code 2 (some .int) ws ({ frames := 1, cells := 0, slots := 0, locals := 22 } : Room) #[(.ref b), (.ref y)] Z h0 (OwQ (some (.int (-1 : Int32))) h0 n0) := by
  refine MetFree.of_bodySF (plainFor_of_name owpn20) hisR ?_
  intro p e s m args below meth c s₁ Bd hml0 hP hK
  obtain ⟨rfl, hZ, hh⟩ := hP
  have hx := Bd.exec
  have hby := Bd.bytes
  have hml : c.maxLocals = 2 := hml0
  have hown : s.vm.findClass "java/lang/StringLatin1" = some m.cls := findClass_of_methodNamed Bd.named
  have hnm := (name_of_methodNamed Bd.named Bd.method).1
  have X0 : Stand p l e ({ frames := 1, cells := 0, slots := 0, locals := 22 } : Room) s m #[(.ref b), (.ref y)] below meth c s₁ [] 0 0 := Stand.of_body Bd
  have e0 : s₁.heap = h0 := by rw [← hh, Bd.state]; rfl
  have N0 := Fr.nil n0
  have WW := W
  obtain ⟨nz_i_COMPACT_STRINGS, E_w_instance, E_w_A, S_String_COMPACT_STRINGS, S_CharacterDataLatin1_instance, S_CharacterDataLatin1_A, Ta, -⟩ := WW
  have ef : entryFrame m #[(.ref b), (.ref y)] 2 = mkF m 0 #[.val (.ref b), .val (.ref y)] [] := by first | (simp [entryFrame, mkF, argsToLocals, Value.category]; done) | rfl
  have pre0 : ∀ t, Steps p.tables e below (s₁.setTop (mkF m 0 #[.val (.ref b), .val (.ref y)] [])) t → Steps p.tables e below (s₁.setTop (entryFrame m #[(.ref b), (.ref y)] 2)) t := fun t k => castTop ef k
  obtain ⟨cl1, Ar1, q1, Sz1, Nn1, Hs1, -⟩ := id Vay
  obtain ⟨cl2, Ar2, q2, Sz2, Nn2, Hs2, -⟩ := id Va
  obtain ⟨cl3, Ar3, q3, Sz3, Nn3, Hs3, -⟩ := id Va
  obtain ⟨cl4, Ar4, q4, Sz4, Nn4, Hs4, -⟩ := id Vay
  obtain ⟨_, _, ⟨T5, L5, k5, n5⟩, -, X5, ⟨Lc5, hQ5, l5, y5, z5⟩, st5⟩ := Jvm.LawKit.callS X0 hx (y := (⟨"java/lang/StringLatin1", "indexOf", "([BI[BII)I"⟩ : MethodName)) hown (mvT hZ (hw _ (List.mem_of_getElem? (i := 120) rfl))) (mvT hZ (hw _ (List.mem_of_getElem? (i := 121) rfl))) (mvT hZ (hw _ (List.mem_of_getElem? (i := 69) rfl))) (mvT hZ (hw _ (List.mem_of_getElem? (i := 122) rfl))) (by decide) (backOf (W := 0) (rmIx5_13 l Z a0 hw [] n0 h0 O i_COMPACT_STRINGS w_instance w_A W b k y ky Va Vay) hZ (hw _ (List.mem_of_getElem? (i := 122) rfl)) (hw _ (List.mem_of_getElem? (i := 69) rfl)) (by decide) (by decide)) (g := (mkF m 21 #[.val (.ref b), .val (.ref y)] [(.int (0 : Int32)), (.int (1 : Int32)), (.ref y), (.int (4 : Int32)), (.ref b)])) rfl (by rw [hml]; rfl) (argsL := [(.ref b), (.int (4 : Int32)), (.ref y), (.int (1 : Int32)), (.int (0 : Int32))]) (rest := []) (lenOf owpd8 rfl) rfl (by show 2 * 0 + _ ≤ _; exact Nat.le_of_eq rfl) (hb hby d20_21) (fun _ _ => ⟨rfl, e0, (by decide : 0 + 0 ≤ _), (by decide : 0 + 0 ≤ _)⟩)
  dsimp only [Pt.U, Pt.locs, Pt.cells, Pt.slots] at X5 l5 y5 z5 st5 hQ5
  subst l5 y5 z5
  obtain ⟨rfl, Nq5, e5⟩ := hQ5
  have N5 := Fr.app N0 Nq5
  obtain ⟨fs, hr, hrun, hended, hW, hsame⟩ := X5.leave (v := some (.int (-1 : Int32))) (fun h => by rw [Bd.returns] at h; cases h)
  refine ⟨_, _, pre0 _ ?_, hrun, hended, _, _, rfl, ?_, ⟨_, rfl⟩, hW, hsame.mono (by decide) (by decide)⟩
  · show Steps p.tables e below (s₁.setTop (mkF m 0 #[.val (.ref b), .val (.ref y)] [])) _
    refine XS.aloadN X0.here hx rfl (hb hby d20_0) rfl rfl ?_
    show Steps p.tables e below (s₁.setTop (mkF m 1 #[.val (.ref b), .val (.ref y)] [(.ref y)])) _
    refine X0.arraylength hx (by rw [e0]; exact Ar1.1) (State.isArrayOf_alike hZ.alike Ar1.2.1) (g := (mkF m 1 #[.val (.ref b), .val (.ref y)] [(.ref y)])) rfl rfl (hb hby d20_1) _ ?_
    rw [len_of Sz1 Nn1]
    show Steps p.tables e below (s₁.setTop (mkF m 2 #[.val (.ref b), .val (.ref y)] [(.int (1 : Int32))])) _
    refine XS.ifYes X0.here hx rfl (pc0 := 2) (pc' := 7) rfl (hb hby d20_2) rfl ((if0 _ _).trans (feq (by decide : ¬ ((1 : Int32) = (0 : Int32)))).2) (by decide) (by decide) ?_
    show Steps p.tables e below (s₁.setTop (mkF m 7 #[.val (.ref b), .val (.ref y)] [])) _
    refine XS.aloadN X0.here hx rfl (hb hby d20_7) rfl rfl ?_
    show Steps p.tables e below (s₁.setTop (mkF m 8 #[.val (.ref b), .val (.ref y)] [(.ref b)])) _
    refine X0.arraylength hx (by rw [e0]; exact Ar2.1) (State.isArrayOf_alike hZ.alike Ar2.2.1) (g := (mkF m 8 #[.val (.ref b), .val (.ref y)] [(.ref b)])) rfl rfl (hb hby d20_8) _ ?_
    rw [len_of Sz2 Nn2]
    show Steps p.tables e below (s₁.setTop (mkF m 9 #[.val (.ref b), .val (.ref y)] [(.int (4 : Int32))])) _
    refine XS.ifYes X0.here hx rfl (pc0 := 9) (pc' := 14) rfl (hb hby d20_9) rfl ((if0 _ _).trans (feq (by decide : ¬ ((4 : Int32) = (0 : Int32)))).2) (by decide) (by decide) ?_
    show Steps p.tables e below (s₁.setTop (mkF m 14 #[.val (.ref b), .val (.ref y)] [])) _
    refine XS.aloadN X0.here hx rfl (hb hby d20_14) rfl rfl ?_
    show Steps p.tables e below (s₁.setTop (mkF m 15 #[.val (.ref b), .val (.ref y)] [(.ref b)])) _
    refine XS.aloadN X0.here hx rfl (hb hby d20_15) rfl rfl ?_
    show Steps p.tables e below (s₁.setTop (mkF m 16 #[.val (.ref b), .val (.ref y)] [(.ref b), (.ref b)])) _
    refine X0.arraylength hx (by rw [e0]; exact Ar3.1) (State.isArrayOf_alike hZ.alike Ar3.2.1) (g := (mkF m 16 #[.val (.ref b), .val (.ref y)] [(.ref b), (.ref b)])) rfl rfl (hb hby d20_16) _ ?_
    rw [len_of Sz3 Nn3]
    show Steps p.tables e below (s₁.setTop (mkF m 17 #[.val (.ref b), .val (.ref y)] [(.int (4 : Int32)), (.ref b)])) _
    refine XS.aloadN X0.here hx rfl (hb hby d20_17) rfl rfl ?_
    show Steps p.tables e below (s₁.setTop (mkF m 18 #[.val (.ref b), .val (.ref y)] [(.ref y), (.int (4 : Int32)), (.ref b)])) _
    refine XS.aloadN X0.here hx rfl (hb hby d20_18) rfl rfl ?_
    show Steps p.tables e below (s₁.setTop (mkF m 19 #[.val (.ref b), .val (.ref y)] [(.ref y), (.ref y), (.int (4 : Int32)), (.ref b)])) _
    refine X0.arraylength hx (by rw [e0]; exact Ar4.1) (State.isArrayOf_alike hZ.alike Ar4.2.1) (g := (mkF m 19 #[.val (.ref b), .val (.ref y)] [(.ref y), (.ref y), (.int (4 : Int32)), (.ref b)])) rfl rfl (hb hby d20_19) _ ?_
    rw [len_of Sz4 Nn4]
    show Steps p.tables e below (s₁.setTop (mkF m 20 #[.val (.ref b), .val (.ref y)] [(.int (1 : Int32)), (.ref y), (.int (4 : Int32)), (.ref b)])) _
    refine XS.iconst X0.here hx rfl (hb hby d20_20) ?_
    show Steps p.tables e below (s₁.setTop (mkF m 21 #[.val (.ref b), .val (.ref y)] [(.int (0 : Int32)), (.int (1 : Int32)), (.ref y), (.int (4 : Int32)), (.ref b)])) _
    refine st5 _ ?_
    show Steps p.tables e below (T5.setTop (mkF m 24 #[.val (.ref b), .val (.ref y)] [(.int (-1 : Int32))])) _
    exact retI X5 hx Bd.returns (hb hby d20_24) hr
  · have eF : (T5.setFrames fs).heap = h0 := e5
    exact ⟨rfl, N5, eF⟩
set_option maxRecDepth 65536 in
set_option maxHeartbeats 40000000 in
theorem rmIx_13 (l : Launch) (Z : State) (a0 : Array Value) (hw : ∀ d ∈ tables_1, d.before a0 Z = true) (ws : List Jvm.Cond) (n0 : Nat) (h0 : Heap) (O : Old Z n0 h0) (i_COMPACT_STRINGS : Int32) (w_instance : Addr) (w_A : Addr) (W : OwW Z i_COMPACT_STRINGS w_instance w_A) (a b : Addr) (k : ClassId) (x y : Addr) (ky : ClassId) (Es : Exa Z h0 a "java/lang/String") (Fc : Fld Z h0 a "java/lang/String" "coder" "B" (.int (0 : Int32))) (Fv : Fld Z h0 a "java/lang/String" "value" "[B" (.ref b)) (Va : Arv Z h0 b k .byte (4 : Int32) [(.int (53 : Int32)), (.int (46 : Int32)), (.int (48 : Int32)), (.int (51 : Int32))] (.int 0)) (Esy : Exa Z h0 x "java/lang/String") (Fcy : Fld Z h0 x "java/lang/String" "coder" "B" (.int (0 : Int32))) (Fvy : Fld Z h0 x "java/lang/String" "value" "[B" (.ref y)) (Vay : Arv Z h0 y ky .byte (1 : Int32) [(.int (13 : Int32))] (.int 0)) :
    OwCon l (⟨"java/lang/String", "indexOf", "(Ljava/lang/String;)I"⟩ : MethodName) jdk_42_method_84_code 3 (some .int) ws ({ frames := 2, cells := 0, slots := 0, locals := 35 } : Room) #[(.ref a), (.ref x)] Z h0 (OwQ (some (.int (-1 : Int32))) h0 n0) := by
  refine MetFree.of_bodySF (plainFor_of_name owpn19) hisR ?_
  intro p e s m args below meth c s₁ Bd hml0 hP hK
  obtain ⟨rfl, hZ, hh⟩ := hP
  have hx := Bd.exec
  have hby := Bd.bytes
  have hml : c.maxLocals = 3 := hml0
  have hown : s.vm.findClass "java/lang/String" = some m.cls := findClass_of_methodNamed Bd.named
  have hnm := (name_of_methodNamed Bd.named Bd.method).1
  have X0 : Stand p l e ({ frames := 2, cells := 0, slots := 0, locals := 35 } : Room) s m #[(.ref a), (.ref x)] below meth c s₁ [] 0 0 := Stand.of_body Bd
  have e0 : s₁.heap = h0 := by rw [← hh, Bd.state]; rfl
  have N0 := Fr.nil n0
  have WW := W
  obtain ⟨nz_i_COMPACT_STRINGS, E_w_instance, E_w_A, S_String_COMPACT_STRINGS, S_CharacterDataLatin1_instance, S_CharacterDataLatin1_A, Ta, -⟩ := WW
  have ef : entryFrame m #[(.ref a), (.ref x)] 3 = mkF m 0 #[.val (.ref a), .val (.ref x), .unset] [] := by first | (simp [entryFrame, mkF, argsToLocals, Value.category]; done) | rfl
  have pre0 : ∀ t, Steps p.tables e below (s₁.setTop (mkF m 0 #[.val (.ref a), .val (.ref x), .unset] [])) t → Steps p.tables e below (s₁.setTop (entryFrame m #[(.ref a), (.ref x)] 3)) t := fun t k => castTop ef k
  obtain ⟨cq1, kq1, q1a, q1b, q1c⟩ := isOf hZ e0 Es
  obtain ⟨_, _, ⟨T1, L1, k1, n1⟩, -, X1, ⟨Lc1, hQ1, l1, y1, z1⟩, st1⟩ := X0.virtualBack hx (y := (⟨"java/lang/String", "coder", "()B"⟩ : MethodName)) (z := (⟨"java/lang/String", "coder", "()B"⟩ : MethodName)) hown (mvT hZ (hw _ (List.mem_of_getElem? (i := 92) rfl))) (mvT hZ (hw _ (List.mem_of_getElem? (i := 93) rfl))) (notFace_of_selects (args := #[]) (mvT hZ (hw _ (List.mem_of_getElem? (i := 95) rfl)))) (mvT hZ (hw _ (List.mem_of_getElem? (i := 95) rfl))) (mvT hZ (hw _ (List.mem_of_getElem? (i := 94) rfl))) (by decide) (backOf (W := 0) (rmCoder_t l Z a0 hw [] n0 h0 O i_COMPACT_STRINGS w_instance w_A W a b k Es Fc Fv Va) hZ (hw _ (List.mem_of_getElem? (i := 96) rfl)) (hw _ (List.mem_of_getElem? (i := 28) rfl)) (by decide) (by decide)) q1a q1c (g := (mkF m 1 #[.val (.ref a), .val (.ref x), .unset] [(.ref a)])) rfl (by rw [hml]; rfl) (Steps.refl _) (argsL := []) (rest := []) (lenOf owpd1 rfl) rfl (by show 2 * 0 + _ ≤ _; exact Nat.le_of_eq rfl) (hb hby d19_1) (fun _ _ => ⟨rfl, e0, (by decide : 0 + 0 ≤ _), (by decide : 0 + 0 ≤ _)⟩)
  dsimp only [Pt.U, Pt.locs, Pt.cells, Pt.slots] at X1 l1 y1 z1 st1 hQ1
  subst l1 y1 z1
  obtain ⟨rfl, Nq1, e1⟩ := hQ1
  have N1 := Fr.app N0 Nq1
  obtain ⟨cq2, kq2, q2a, q2b, q2c⟩ := isOf hZ e1 Esy
  obtain ⟨_, _, ⟨T2, L2, k2, n2⟩, -, X2, ⟨Lc2, hQ2, l2, y2, z2⟩, st2⟩ := X1.virtualBack hx (y := (⟨"java/lang/String", "coder", "()B"⟩ : MethodName)) (z := (⟨"java/lang/String", "coder", "()B"⟩ : MethodName)) hown (mvT hZ (hw _ (List.mem_of_getElem? (i := 92) rfl))) (mvT hZ (hw _ (List.mem_of_getElem? (i := 93) rfl))) (notFace_of_selects (args := #[]) (mvT hZ (hw _ (List.mem_of_getElem? (i := 95) rfl)))) (mvT hZ (hw _ (List.mem_of_getElem? (i := 95) rfl))) (mvT hZ (hw _ (List.mem_of_getElem? (i := 94) rfl))) (by decide) (backOf (W := 1) (rmCoder_13 l Z a0 hw [] n0 h0 O i_COMPACT_STRINGS w_instance w_A W x y ky Esy Fcy Fvy Vay) hZ (hw _ (List.mem_of_getElem? (i := 96) rfl)) (hw _ (List.mem_of_getElem? (i := 28) rfl)) (by decide) (by decide)) q2a q2c (g := (mkF m 7 #[.val (.ref a), .val (.ref x), .val (.int (0 : Int32))] [(.ref x), (.int (0 : Int32))])) rfl (by rw [hml]; rfl) (Steps.refl _) (argsL := []) (rest := [(.int (0 : Int32))]) (lenOf owpd1 rfl) rfl (by show 2 * 0 + _ ≤ _; exact Nat.le_of_eq rfl) (hb hby d19_7) (fun _ _ => ⟨rfl, e1, (by decide : 0 + 0 ≤ _), (by decide : 0 + 0 ≤ _)⟩)
  dsimp only [Pt.U, Pt.locs, Pt.cells, Pt.slots] at X2 l2 y2 z2 st2 hQ2
  subst l2 y2 z2
  obtain ⟨rfl, Nq2, e2⟩ := hQ2
  have N2 := Fr.app N1 Nq2
  obtain ⟨cq3, kq3, q3a, q3b, q3c⟩ := isOf hZ e2 Es
  obtain ⟨_, _, ⟨T3, L3, k3, n3⟩, -, X3, ⟨Lc3, hQ3, l3, y3, z3⟩, st3⟩ := X2.virtualBack hx (y := (⟨"java/lang/String", "isLatin1", "()Z"⟩ : MethodName)) (z := (⟨"java/lang/String", "isLatin1", "()Z"⟩ : MethodName)) hown (mvT hZ (hw _ (List.mem_of_getElem? (i := 59) rfl))) (mvT hZ (hw _ (List.mem_of_getElem? (i := 60) rfl))) (notFace_of_selects (args := #[]) (mvT hZ (hw _ (List.mem_of_getElem? (i := 62) rfl)))) (mvT hZ (hw _ (List.mem_of_getElem? (i := 62) rfl))) (mvT hZ (hw _ (List.mem_of_getElem? (i := 61) rfl))) (by decide) (backOf (W := 0) (rmLat_t l Z a0 hw [] n0 h0 O i_COMPACT_STRINGS w_instance w_A W a b k Es Fc Fv Va) hZ (hw _ (List.mem_of_getElem? (i := 63) rfl)) (hw _ (List.mem_of_getElem? (i := 28) rfl)) (by decide) (by decide)) q3a q3c (g := (mkF m 14 #[.val (.ref a), .val (.ref x), .val (.int (0 : Int32))] [(.ref a)])) rfl (by rw [hml]; rfl) (Steps.refl _) (argsL := []) (rest := []) (lenOf owpd5 rfl) rfl (by show 2 * 0 + _ ≤ _; exact Nat.le_of_eq rfl) (hb hby d19_14) (fun _ _ => ⟨rfl, e2, (by decide : 0 + 0 ≤ _), (by decide : 0 + 0 ≤ _)⟩)
  dsimp only [Pt.U, Pt.locs, Pt.cells, Pt.slots] at X3 l3 y3 z3 st3 hQ3
  subst l3 y3 z3
  obtain ⟨rfl, Nq3, e3⟩ := hQ3
  have N3 := Fr.app N2 Nq3
  obtain ⟨T4, X4, e4, st4⟩ := getF X3 hx hZ hown (host := "") (Or.inl (hw _ (List.mem_of_getElem? (i := 66) rfl))) Via.refl e3 Fv (g := (mkF m 21 #[.val (.ref a), .val (.ref x), .val (.int (0 : Int32))] [(.ref a)])) rfl rfl (hb hby d19_21)
  obtain ⟨T5, X5, e5, st5⟩ := getF X4 hx hZ hown (host := "") (Or.inl (hw _ (List.mem_of_getElem? (i := 66) rfl))) Via.refl e4 Fvy (g := (mkF m 25 #[.val (.ref a), .val (.ref x), .val (.int (0 : Int32))] [(.ref x), (.ref b)])) rfl rfl (hb hby d19_25)
  obtain ⟨_, _, ⟨T6, L6, k6, n6⟩, -, X6, ⟨Lc6, hQ6, l6, y6, z6⟩, st6⟩ := Jvm.LawKit.callS X5 hx (y := (⟨"java/lang/StringLatin1", "indexOf", "([B[B)I"⟩ : MethodName)) hown (mvT hZ (hw _ (List.mem_of_getElem? (i := 117) rfl))) (mvT hZ (hw _ (List.mem_of_getElem? (i := 118) rfl))) (mvT hZ (hw _ (List.mem_of_getElem? (i := 69) rfl))) (mvT hZ (hw _ (List.mem_of_getElem? (i := 119) rfl))) (by decide) (backOf (W := 0) (rmIx2_13 l Z a0 hw [] n0 h0 O i_COMPACT_STRINGS w_instance w_A W b k y ky Va Vay) hZ (hw _ (List.mem_of_getElem? (i := 119) rfl)) (hw _ (List.mem_of_getElem? (i := 69) rfl)) (by decide) (by decide)) (g := (mkF m 28 #[.val (.ref a), .val (.ref x), .val (.int (0 : Int32))] [(.ref y), (.ref b)])) rfl (by rw [hml]; rfl) (argsL := [(.ref b), (.ref y)]) (rest := []) (lenOf owpd9 rfl) rfl (by show 2 * 0 + _ ≤ _; exact Nat.le_of_eq rfl) (hb hby d19_28) (fun _ _ => ⟨rfl, e5, (by decide : 0 + 0 ≤ _), (by decide : 0 + 0 ≤ _)⟩)
  dsimp only [Pt.U, Pt.locs, Pt.cells, Pt.slots] at X6 l6 y6 z6 st6 hQ6
  subst l6 y6 z6
  obtain ⟨rfl, Nq6, e6⟩ := hQ6
  have N6 := Fr.app N3 Nq6
  obtain ⟨fs, hr, hrun, hended, hW, hsame⟩ := X6.leave (v := some (.int (-1 : Int32))) (fun h => by rw [Bd.returns] at h; cases h)
  refine ⟨_, _, pre0 _ ?_, hrun, hended, _, _, rfl, ?_, ⟨_, rfl⟩, hW, hsame.mono (by decide) (by decide)⟩
  · show Steps p.tables e below (s₁.setTop (mkF m 0 #[.val (.ref a), .val (.ref x), .unset] [])) _
    refine XS.aloadN X0.here hx rfl (hb hby d19_0) rfl rfl ?_
    show Steps p.tables e below (s₁.setTop (mkF m 1 #[.val (.ref a), .val (.ref x), .unset] [(.ref a)])) _
    refine st1.trans ?_
    show Steps p.tables e below (T1.setTop (mkF m 4 #[.val (.ref a), .val (.ref x), .unset] [(.int (0 : Int32))])) _
    refine XS.istoreN X1.here hx rfl (hb hby d19_4) rfl (l' := #[.val (.ref a), .val (.ref x), .val (.int (0 : Int32))]) rfl ?_
    show Steps p.tables e below (T1.setTop (mkF m 5 #[.val (.ref a), .val (.ref x), .val (.int (0 : Int32))] [])) _
    refine XS.iloadN X1.here hx rfl (hb hby d19_5) rfl ?_
    show Steps p.tables e below (T1.setTop (mkF m 6 #[.val (.ref a), .val (.ref x), .val (.int (0 : Int32))] [(.int (0 : Int32))])) _
    refine XS.aloadN X1.here hx rfl (hb hby d19_6) rfl rfl ?_
    show Steps p.tables e below (T1.setTop (mkF m 7 #[.val (.ref a), .val (.ref x), .val (.int (0 : Int32))] [(.ref x), (.int (0 : Int32))])) _
    refine st2.trans ?_
    show Steps p.tables e below (T2.setTop (mkF m 10 #[.val (.ref a), .val (.ref x), .val (.int (0 : Int32))] [(.int (0 : Int32)), (.int (0 : Int32))])) _
    refine XS.icmpNo X2.here hx rfl (hb hby d19_10) rfl (teq (by decide : (0 : Int32) = (0 : Int32))).2 ?_
    show Steps p.tables e below (T2.setTop (mkF m 13 #[.val (.ref a), .val (.ref x), .val (.int (0 : Int32))] [])) _
    refine XS.aloadN X2.here hx rfl (hb hby d19_13) rfl rfl ?_
    show Steps p.tables e below (T2.setTop (mkF m 14 #[.val (.ref a), .val (.ref x), .val (.int (0 : Int32))] [(.ref a)])) _
    refine st3.trans ?_
    show Steps p.tables e below (T3.setTop (mkF m 17 #[.val (.ref a), .val (.ref x), .val (.int (0 : Int32))] [(.int (1 : Int32))])) _
    refine XS.ifNo X3.here hx rfl (hb hby d19_17) rfl ((if0 _ _).trans (feq (by decide : ¬ ((1 : Int32) = (0 : Int32)))).1) ?_
    show Steps p.tables e below (T3.setTop (mkF m 20 #[.val (.ref a), .val (.ref x), .val (.int (0 : Int32))] [])) _
    refine XS.aloadN X3.here hx rfl (hb hby d19_20) rfl rfl ?_
    show Steps p.tables e below (T3.setTop (mkF m 21 #[.val (.ref a), .val (.ref x), .val (.int (0 : Int32))] [(.ref a)])) _
    refine st4 _ ?_
    show Steps p.tables e below (T4.setTop (mkF m 24 #[.val (.ref a), .val (.ref x), .val (.int (0 : Int32))] [(.ref b)])) _
    refine XS.aloadN X4.here hx rfl (hb hby d19_24) rfl rfl ?_
    show Steps p.tables e below (T4.setTop (mkF m 25 #[.val (.ref a), .val (.ref x), .val (.int (0 : Int32))] [(.ref x), (.ref b)])) _
    refine st5 _ ?_
    show Steps p.tables e below (T5.setTop (mkF m 28 #[.val (.ref a), .val (.ref x), .val (.int (0 : Int32))] [(.ref y), (.ref b)])) _
    refine st6 _ ?_
    show Steps p.tables e below (T6.setTop (mkF m 31 #[.val (.ref a), .val (.ref x), .val (.int (0 : Int32))] [(.int (-1 : Int32))])) _
    refine XS.goto X6.here hx rfl (pc0 := 31) (pc' := 45) rfl (hb hby d19_31) (by decide) (by decide) ?_
    show Steps p.tables e below (T6.setTop (mkF m 45 #[.val (.ref a), .val (.ref x), .val (.int (0 : Int32))] [(.int (-1 : Int32))])) _
    exact retI X6 hx Bd.returns (hb hby d19_45) hr
  · have eF : (T6.setFrames fs).heap = h0 := e6
    exact ⟨rfl, N6, eF⟩
set_option maxRecDepth 65536 in
set_option maxHeartbeats 40000000 in
theorem rmCon_13 (l : Launch) (Z : State) (a0 : Array Value) (hw : ∀ d ∈ tables_1, d.before a0 Z = true) (ws : List Jvm.Cond) (n0 : Nat) (h0 : Heap) (O : Old Z n0 h0) (i_COMPACT_STRINGS : Int32) (w_instance : Addr) (w_A : Addr) (W : OwW Z i_COMPACT_STRINGS w_instance w_A) (a b : Addr) (k : ClassId) (x y : Addr) (ky : ClassId) (Es : Exa Z h0 a "java/lang/String") (Fc : Fld Z h0 a "java/lang/String" "coder" "B" (.int (0 : Int32))) (Fv : Fld Z h0 a "java/lang/String" "value" "[B" (.ref b)) (Va : Arv Z h0 b k .byte (4 : Int32) [(.int (53 : Int32)), (.int (46 : Int32)), (.int (48 : Int32)), (.int (51 : Int32))] (.int 0)) (Esy : Exa Z h0 x "java/lang/String") (Fcy : Fld Z h0 x "java/lang/String" "coder" "B" (.int (0 : Int32))) (Fvy : Fld Z h0 x "java/lang/String" "value" "[B" (.ref y)) (Vay : Arv Z h0 y ky .byte (1 : Int32) [(.int (13 : Int32))] (.int 0)) :
    OwCon l (⟨"java/lang/String", "contains", "(Ljava/lang/CharSequence;)Z"⟩ : MethodName) jdk_42_method_97_code 2 (some .boolean) ws ({ frames := 3, cells := 0, slots := 0, locals := 49 } : Room) #[(.ref a), (.ref x)] Z h0 (OwQ (some (.int (0 : Int32))) h0 n0) := by
  refine MetFree.of_bodySF (plainFor_of_name owpn17) hisR ?_
  intro p e s m args below meth c s₁ Bd hml0 hP hK
  obtain ⟨rfl, hZ, hh⟩ := hP
  have hx := Bd.exec
  have hby := Bd.bytes
  have hml : c.maxLocals = 2 := hml0
  have hown : s.vm.findClass "java/lang/String" = some m.cls := findClass_of_methodNamed Bd.named
  have hnm := (name_of_methodNamed Bd.named Bd.method).1
  have X0 : Stand p l e ({ frames := 3, cells := 0, slots := 0, locals := 49 } : Room) s m #[(.ref a), (.ref x)] below meth c s₁ [] 0 0 := Stand.of_body Bd
  have e0 : s₁.heap = h0 := by rw [← hh, Bd.state]; rfl
  have N0 := Fr.nil n0
  have WW := W
  obtain ⟨nz_i_COMPACT_STRINGS, E_w_instance, E_w_A, S_String_COMPACT_STRINGS, S_CharacterDataLatin1_instance, S_CharacterDataLatin1_A, Ta, -⟩ := WW
  have ef : entryFrame m #[(.ref a), (.ref x)] 2 = mkF m 0 #[.val (.ref a), .val (.ref x)] [] := by first | (simp [entryFrame, mkF, argsToLocals, Value.category]; done) | rfl
  have pre0 : ∀ t, Steps p.tables e below (s₁.setTop (mkF m 0 #[.val (.ref a), .val (.ref x)] [])) t → Steps p.tables e below (s₁.setTop (entryFrame m #[(.ref a), (.ref x)] 2)) t := fun t k => castTop ef k
  obtain ⟨cq1, kq1, q1a, q1b, q1c⟩ := isOf hZ e0 Esy
  obtain ⟨_, _, ⟨T1, L1, k1, n1⟩, -, X1, ⟨Lc1, hQ1, l1, y1, z1⟩, st1⟩ := X0.interfaceBack hx (xi := (⟨"java/lang/CharSequence", "toString", "()Ljava/lang/String;"⟩ : MethodName)) (y := (⟨"java/lang/String", "toString", "()Ljava/lang/String;"⟩ : MethodName)) hown (mvT hZ (hw _ (List.mem_of_getElem? (i := 103) rfl))) (mvT hZ (hw _ (List.mem_of_getElem? (i := 104) rfl))) (mvT hZ (hw _ (List.mem_of_getElem? (i := 105) rfl))) (mvT hZ (hw _ (List.mem_of_getElem? (i := 106) rfl))) (mvT hZ (hw _ (List.mem_of_getElem? (i := 107) rfl))) (mvT hZ (hw _ (List.mem_of_getElem? (i := 108) rfl))) (mvT hZ (hw _ (List.mem_of_getElem? (i := 109) rfl))) (mvT hZ (hw _ (List.mem_of_getElem? (i := 110) rfl))) (by decide) (backOf (W := 1) (rmToS_13 l Z a0 hw [] n0 h0 O i_COMPACT_STRINGS w_instance w_A W x) hZ (hw _ (List.mem_of_getElem? (i := 111) rfl)) (hw _ (List.mem_of_getElem? (i := 28) rfl)) (by decide) (by decide)) q1a q1b q1c (g := (mkF m 2 #[.val (.ref a), .val (.ref x)] [(.ref x), (.ref a)])) rfl (by rw [hml]; rfl) (Steps.refl _) (argsL := []) (rest := [(.ref a)]) (lenOf owpd10 rfl) rfl (by show 2 * 0 + _ ≤ _; exact Nat.le_of_eq rfl) (hb hby d17_2) (fun _ _ => ⟨rfl, e0, (by decide : 0 + 0 ≤ _), (by decide : 0 + 0 ≤ _)⟩)
  dsimp only [Pt.U, Pt.locs, Pt.cells, Pt.slots] at X1 l1 y1 z1 st1 hQ1
  subst l1 y1 z1
  obtain ⟨rfl, Nq1, e1⟩ := hQ1
  have N1 := Fr.app N0 Nq1
  obtain ⟨cq2, kq2, q2a, q2b, q2c⟩ := isOf hZ e1 Es
  obtain ⟨_, _, ⟨T2, L2, k2, n2⟩, -, X2, ⟨Lc2, hQ2, l2, y2, z2⟩, st2⟩ := X1.virtualBack hx (y := (⟨"java/lang/String", "indexOf", "(Ljava/lang/String;)I"⟩ : MethodName)) (z := (⟨"java/lang/String", "indexOf", "(Ljava/lang/String;)I"⟩ : MethodName)) hown (mvT hZ (hw _ (List.mem_of_getElem? (i := 112) rfl))) (mvT hZ (hw _ (List.mem_of_getElem? (i := 113) rfl))) (notFace_of_selects (args := #[]) (mvT hZ (hw _ (List.mem_of_getElem? (i := 115) rfl)))) (mvT hZ (hw _ (List.mem_of_getElem? (i := 115) rfl))) (mvT hZ (hw _ (List.mem_of_getElem? (i := 114) rfl))) (by decide) (backOf (W := 0) (rmIx_13 l Z a0 hw [] n0 h0 O i_COMPACT_STRINGS w_instance w_A W a b k x y ky Es Fc Fv Va Esy Fcy Fvy Vay) hZ (hw _ (List.mem_of_getElem? (i := 116) rfl)) (hw _ (List.mem_of_getElem? (i := 28) rfl)) (by decide) (by decide)) q2a q2c (g := (mkF m 7 #[.val (.ref a), .val (.ref x)] [(.ref x), (.ref a)])) rfl (by rw [hml]; rfl) (Steps.refl _) (argsL := [(.ref x)]) (rest := []) (lenOf owpd11 rfl) rfl (by show 2 * 0 + _ ≤ _; exact Nat.le_of_eq rfl) (hb hby d17_7) (fun _ _ => ⟨rfl, e1, (by decide : 0 + 0 ≤ _), (by decide : 0 + 0 ≤ _)⟩)
  dsimp only [Pt.U, Pt.locs, Pt.cells, Pt.slots] at X2 l2 y2 z2 st2 hQ2
  subst l2 y2 z2
  obtain ⟨rfl, Nq2, e2⟩ := hQ2
  have N2 := Fr.app N1 Nq2
  obtain ⟨fs, hr, hrun, hended, hW, hsame⟩ := X2.leave (v := some (.int (0 : Int32))) (fun h => by rw [Bd.returns] at h; cases h)
  refine ⟨_, _, pre0 _ ?_, hrun, hended, _, _, rfl, ?_, ⟨_, rfl⟩, hW, hsame.mono (by decide) (by decide)⟩
  · show Steps p.tables e below (s₁.setTop (mkF m 0 #[.val (.ref a), .val (.ref x)] [])) _
    refine XS.aloadN X0.here hx rfl (hb hby d17_0) rfl rfl ?_
    show Steps p.tables e below (s₁.setTop (mkF m 1 #[.val (.ref a), .val (.ref x)] [(.ref a)])) _
    refine XS.aloadN X0.here hx rfl (hb hby d17_1) rfl rfl ?_
    show Steps p.tables e below (s₁.setTop (mkF m 2 #[.val (.ref a), .val (.ref x)] [(.ref x), (.ref a)])) _
    refine st1.trans ?_
    show Steps p.tables e below (T1.setTop (mkF m 7 #[.val (.ref a), .val (.ref x)] [(.ref x), (.ref a)])) _
    refine st2.trans ?_
    show Steps p.tables e below (T2.setTop (mkF m 10 #[.val (.ref a), .val (.ref x)] [(.int (-1 : Int32))])) _
    refine XS.ifYes X2.here hx rfl (pc0 := 10) (pc' := 17) rfl (hb hby d17_10) rfl ((if0 _ _).trans (tlt (by decide : (-1 : Int32) < (0 : Int32))).1) (by decide) (by decide) ?_
    show Steps p.tables e below (T2.setTop (mkF m 17 #[.val (.ref a), .val (.ref x)] [])) _
    refine XS.iconst X2.here hx rfl (hb hby d17_17) ?_
    show Steps p.tables e below (T2.setTop (mkF m 18 #[.val (.ref a), .val (.ref x)] [(.int (0 : Int32))])) _
    exact retN X2 hx (t := .boolean) Bd.returns (by simp) (hb hby d17_18) hr
  · have eF : (T2.setFrames fs).heap = h0 := e2
    exact ⟨rfl, N2, eF⟩
set_option maxRecDepth 65536 in
set_option maxHeartbeats 40000000 in
theorem rmSec (l : Launch) (Z : State) (a0 : Array Value) (hw : ∀ d ∈ tables_1, d.before a0 Z = true) (ws : List Jvm.Cond) (n0 : Nat) (h0 : Heap) (O : Old Z n0 h0) (i_COMPACT_STRINGS : Int32) (w_instance : Addr) (w_A : Addr) (W : OwW Z i_COMPACT_STRINGS w_instance w_A) (a b : Addr) (k : ClassId) (Es : Exa Z h0 a "java/lang/String") (Fc : Fld Z h0 a "java/lang/String" "coder" "B" (.int (0 : Int32))) (Fv : Fld Z h0 a "java/lang/String" "value" "[B" (.ref b)) (Va : Arv Z h0 b k .byte (4 : Int32) [(.int (53 : Int32)), (.int (46 : Int32)), (.int (48 : Int32)), (.int (51 : Int32))] (.int 0)) :
    OwConH l (⟨"com/example/vestwright/vestwright/plan/Plan", "requireSection", "(Ljava/lang/String;)V"⟩ : MethodName) prog_27_method_9_code 1 none ws ({ frames := 5, cells := 8, slots := 56, locals := 68 } : Room) #[(.ref a)] Z h0 consts_1 (OwP (fun v h => v = none ∧ Old Z n0 h ∧ Keep h0 h []) n0) := by
  refine MetFree.of_bodySF (plainFor_of_name owpn6) hisR ?_
  intro p e s m args below meth c s₁ Bd hml0 hP hK
  obtain ⟨rfl, hZ, hh, hC0⟩ := hP
  have hx := Bd.exec
  have hby := Bd.bytes
  have hml : c.maxLocals = 1 := hml0
  have hown : s.vm.findClass "com/example/vestwright/vestwright/plan/Plan" = some m.cls := findClass_of_methodNamed Bd.named
  have hnm := (name_of_methodNamed Bd.named Bd.method).1
  have X0 : Stand p l e ({ frames := 5, cells := 8, slots := 56, locals := 68 } : Room) s m #[(.ref a)] below meth c s₁ [] 0 0 := Stand.of_body Bd
  have e0 : s₁.heap = h0 := by rw [← hh, Bd.state]; rfl
  have N0 := Fr.nil n0
  have WW := W
  obtain ⟨nz_i_COMPACT_STRINGS, E_w_instance, E_w_A, S_String_COMPACT_STRINGS, S_CharacterDataLatin1_instance, S_CharacterDataLatin1_A, Ta, -⟩ := WW
  have ef : entryFrame m #[(.ref a)] 1 = mkF m 0 #[.val (.ref a)] [] := by first | (simp [entryFrame, mkF, argsToLocals, Value.category]; done) | rfl
  have pre0 : ∀ t, Steps p.tables e below (s₁.setTop (mkF m 0 #[.val (.ref a)] [])) t → Steps p.tables e below (s₁.setTop (entryFrame m #[(.ref a)] 1)) t := fun t k => castTop ef k
  have Y0 : Stand p l e ({ frames := 5, cells := 8, slots := 56, locals := 68 } : Room) (s.setVm s.vm) m #[(.ref a)] below meth c s₁ [] 0 0 := X0
  have hS0 : s.Since s.vm s.heap.size := (State.WarmedH.refl s).since _
  have hk0 : s.heap.size ≤ h0.size := Nat.le_of_eq (by rw [← hh])
  have wS : ∀ a ∈ Bundle.stringAtoms, a.before a0 Z = true := fun a ha => hw a (own_strin a ha)
  have cr0 := CHr.refl hC0
  have hEL := own_EW hw
  obtain ⟨a1, T1, h1, k1, X1, e1, E1, hS1, hk1, hZ1, hown1, ct1, Lt1, st1⟩ := own_ldcwO Y0 hx hZ hown (hw _ (List.mem_of_getElem? (i := 43) rfl)) wS e0 hS0 hk0 hEL hC0 (g := (mkF m 1 #[.val (.ref a)] [(.ref a)])) rfl (hb hby d6_1) (n := 28) (by decide) (by decide) (by decide) (by decide)
  obtain ⟨bb1, kk1, Es1, Fc1, Fv1, Va1⟩ := own_ldcwC hZ1 (hw _ (List.mem_of_getElem? (i := 43) rfl)) (by decide : ("com/example/vestwright/vestwright/plan/Plan", 282) ∈ consts_1) ct1.1 Lt1 (vs := [(.int (115 : Int32)), (.int (101 : Int32)), (.int (99 : Int32)), (.int (116 : Int32)), (.int (105 : Int32)), (.int (111 : Int32)), (.int (110 : Int32))]) (z := (7 : Int32)) ⟨by decide, by decide⟩ (by decide) rfl
  have hC1 := ct1.1
  have cr1 := cr0.trans ct1
  have O1 := O.ext E1
  have Kp1 : Keep h0 h1 [] := (Keep.refl h0 []).ext E1
  obtain ⟨_, _, ⟨T2, L2, k2, n2⟩, -, X2, ⟨Lc2, hQ2, l2, y2, z2⟩, st2⟩ := Jvm.LawKit.callS X1 hx (y := (⟨"com/example/vestwright/vestwright/plan/Plan", "require", "(Ljava/lang/Object;Ljava/lang/String;)Ljava/lang/Object;"⟩ : MethodName)) hown1 (mvT hZ1 (hw _ (List.mem_of_getElem? (i := 44) rfl))) (mvT hZ1 (hw _ (List.mem_of_getElem? (i := 45) rfl))) (mvT hZ1 (hw _ (List.mem_of_getElem? (i := 41) rfl))) (mvT hZ1 (hw _ (List.mem_of_getElem? (i := 46) rfl))) (by decide) (backOf (W := 0) (rmReq l Z a0 hw [] n0 h1 O1 i_COMPACT_STRINGS w_instance w_A W a a1) hZ1 (hw _ (List.mem_of_getElem? (i := 46) rfl)) (hw _ (List.mem_of_getElem? (i := 41) rfl)) (by decide) (by decide)) (g := (mkF m 4 #[.val (.ref a)] [(.ref a1), (.ref a)])) rfl (by rw [hml]; rfl) (argsL := [(.ref a), (.ref a1)]) (rest := []) (lenOf owpd12 rfl) rfl (by show 2 * 0 + _ ≤ _; exact Nat.le_of_eq rfl) (hb hby d6_4) (fun _ _ => ⟨rfl, e1, (by decide : 2 + 0 ≤ _), (by decide : 32 + 0 ≤ _)⟩)
  dsimp only [Pt.U, Pt.locs, Pt.cells, Pt.slots] at X2 l2 y2 z2 st2 hQ2
  subst l2 y2 z2
  obtain ⟨rfl, Nq2, e2⟩ := hQ2
  have N2 := Fr.app N0 Nq2
  have fa3 := (Es.ext E1)
  obtain ⟨T4, X4, e4, st4⟩ := castY X2 hx hZ1 hown1 (hw _ (List.mem_of_getElem? (i := 47) rfl)) e2 (Ins.self fa3) (g := (mkF m 7 #[.val (.ref a)] [(.ref a)])) rfl rfl (hb hby d6_7)
  have fa5 := (Fc.ext E1)
  have fa6 := (Fv.ext E1)
  have fa7 := (Va.ext E1)
  obtain ⟨cq8, kq8, q8a, q8b, q8c⟩ := isOf hZ1 e4 fa3
  obtain ⟨_, _, ⟨T8, L8, k8, n8⟩, -, X8, ⟨Lc8, hQ8, l8, y8, z8⟩, st8⟩ := X4.virtualBack hx (y := (⟨"java/lang/String", "isBlank", "()Z"⟩ : MethodName)) (z := (⟨"java/lang/String", "isBlank", "()Z"⟩ : MethodName)) hown1 (mvT hZ1 (hw _ (List.mem_of_getElem? (i := 49) rfl))) (mvT hZ1 (hw _ (List.mem_of_getElem? (i := 50) rfl))) (notFace_of_selects (args := #[]) (mvT hZ1 (hw _ (List.mem_of_getElem? (i := 52) rfl)))) (mvT hZ1 (hw _ (List.mem_of_getElem? (i := 52) rfl))) (mvT hZ1 (hw _ (List.mem_of_getElem? (i := 51) rfl))) (by decide) (backOf (W := 0) (rmBlank l Z a0 hw [] n0 h1 O1 i_COMPACT_STRINGS w_instance w_A W a b k fa3 fa5 fa6 fa7) hZ1 (hw _ (List.mem_of_getElem? (i := 53) rfl)) (hw _ (List.mem_of_getElem? (i := 28) rfl)) (by decide) (by decide)) q8a q8c (g := (mkF m 10 #[.val (.ref a)] [(.ref a)])) rfl (by rw [hml]; rfl) (Steps.refl _) (argsL := []) (rest := []) (lenOf owpd5 rfl) rfl (by show 2 * 0 + _ ≤ _; exact Nat.le_of_eq rfl) (hb hby d6_10) (fun _ _ => ⟨rfl, e4, (by decide : 2 + 0 ≤ _), (by decide : 32 + 0 ≤ _)⟩)
  dsimp only [Pt.U, Pt.locs, Pt.cells, Pt.slots] at X8 l8 y8 z8 st8 hQ8
  subst l8 y8 z8
  obtain ⟨rfl, Nq8, e8⟩ := hQ8
  have N8 := Fr.app N2 Nq8
  obtain ⟨a9, T9, h9, k9, X9, e9, E9, hS9, hk9, hZ9, hown9, ct9, Lt9, st9⟩ := own_ldcwO X8 hx hZ1 hown1 (hw _ (List.mem_of_getElem? (i := 97) rfl)) wS e8 hS1 hk1 hEL hC1 (g := (mkF m 28 #[.val (.ref a)] [(.ref a)])) rfl (hb hby d6_28) (n := 4) (by decide) (by decide) (by decide) (by decide)
  obtain ⟨bb9, kk9, Es9, Fc9, Fv9, Va9⟩ := own_ldcwC hZ9 (hw _ (List.mem_of_getElem? (i := 97) rfl)) (by decide : ("com/example/vestwright/vestwright/plan/Plan", 290) ∈ consts_1) ct9.1 Lt9 (vs := [(.int (9 : Int32))]) (z := (1 : Int32)) ⟨by decide, by decide⟩ (by decide) rfl
  have hC9 := ct9.1
  have cr9 := cr1.trans ct9
  have O9 := O1.ext E9
  have Kp9 : Keep h0 h9 [] := Kp1.ext E9
  have fa10 := (fa3.ext E9)
  have fa11 := (fa5.ext E9)
  have fa12 := (fa6.ext E9)
  have fa13 := (fa7.ext E9)
  obtain ⟨cq14, kq14, q14a, q14b, q14c⟩ := isOf hZ9 e9 fa10
  obtain ⟨_, _, ⟨T14, L14, k14, n14⟩, -, X14, ⟨Lc14, hQ14, l14, y14, z14⟩, st14⟩ := X9.virtualBack hx (y := (⟨"java/lang/String", "contains", "(Ljava/lang/CharSequence;)Z"⟩ : MethodName)) (z := (⟨"java/lang/String", "contains", "(Ljava/lang/CharSequence;)Z"⟩ : MethodName)) hown9 (mvT hZ9 (hw _ (List.mem_of_getElem? (i := 98) rfl))) (mvT hZ9 (hw _ (List.mem_of_getElem? (i := 99) rfl))) (notFace_of_selects (args := #[]) (mvT hZ9 (hw _ (List.mem_of_getElem? (i := 101) rfl)))) (mvT hZ9 (hw _ (List.mem_of_getElem? (i := 101) rfl))) (mvT hZ9 (hw _ (List.mem_of_getElem? (i := 100) rfl))) (by decide) (backOf (W := 0) (rmCon_9 l Z a0 hw [] n0 h9 O9 i_COMPACT_STRINGS w_instance w_A W a b k a9 bb9 kk9 fa10 fa11 fa12 fa13 Es9 Fc9 Fv9 Va9) hZ9 (hw _ (List.mem_of_getElem? (i := 102) rfl)) (hw _ (List.mem_of_getElem? (i := 28) rfl)) (by decide) (by decide)) q14a q14c (g := (mkF m 31 #[.val (.ref a)] [(.ref a9), (.ref a)])) rfl (by rw [hml]; rfl) (Steps.refl _) (argsL := [(.ref a9)]) (rest := []) (lenOf owpd13 rfl) rfl (by show 2 * 0 + _ ≤ _; exact Nat.le_of_eq rfl) (hb hby d6_31) (fun _ _ => ⟨rfl, e9, (by decide : 4 + 0 ≤ _), (by decide : 40 + 0 ≤ _)⟩)
  dsimp only [Pt.U, Pt.locs, Pt.cells, Pt.slots] at X14 l14 y14 z14 st14 hQ14
  subst l14 y14 z14
  obtain ⟨rfl, Nq14, e14⟩ := hQ14
  have N14 := Fr.app N8 Nq14
  obtain ⟨a15, T15, h15, k15, X15, e15, E15, hS15, hk15, hZ15, hown15, ct15, Lt15, st15⟩ := own_ldcwO X14 hx hZ9 hown9 (hw _ (List.mem_of_getElem? (i := 123) rfl)) wS e14 hS9 hk9 hEL hC9 (g := (mkF m 38 #[.val (.ref a)] [(.ref a)])) rfl (hb hby d6_38) (n := 4) (by decide) (by decide) (by decide) (by decide)
  obtain ⟨bb15, kk15, Es15, Fc15, Fv15, Va15⟩ := own_ldcwC hZ15 (hw _ (List.mem_of_getElem? (i := 123) rfl)) (by decide : ("com/example/vestwright/vestwright/plan/Plan", 295) ∈ consts_1) ct15.1 Lt15 (vs := [(.int (10 : Int32))]) (z := (1 : Int32)) ⟨by decide, by decide⟩ (by decide) rfl
  have hC15 := ct15.1
  have cr15 := cr9.trans ct15
  have O15 := O9.ext E15
  have Kp15 : Keep h0 h15 [] := Kp9.ext E15
  have fa16 := (fa10.ext E15)
  have fa17 := (fa11.ext E15)
  have fa18 := (fa12.ext E15)
  have fa19 := (fa13.ext E15)
  obtain ⟨cq20, kq20, q20a, q20b, q20c⟩ := isOf hZ15 e15 fa16
  obtain ⟨_, _, ⟨T20, L20, k20, n20⟩, -, X20, ⟨Lc20, hQ20, l20, y20, z20⟩, st20⟩ := X15.virtualBack hx (y := (⟨"java/lang/String", "contains", "(Ljava/lang/CharSequence;)Z"⟩ : MethodName)) (z := (⟨"java/lang/String", "contains", "(Ljava/lang/CharSequence;)Z"⟩ : MethodName)) hown15 (mvT hZ15 (hw _ (List.mem_of_getElem? (i := 98) rfl))) (mvT hZ15 (hw _ (List.mem_of_getElem? (i := 99) rfl))) (notFace_of_selects (args := #[]) (mvT hZ15 (hw _ (List.mem_of_getElem? (i := 101) rfl)))) (mvT hZ15 (hw _ (List.mem_of_getElem? (i := 101) rfl))) (mvT hZ15 (hw _ (List.mem_of_getElem? (i := 100) rfl))) (by decide) (backOf (W := 0) (rmCon_10 l Z a0 hw [] n0 h15 O15 i_COMPACT_STRINGS w_instance w_A W a b k a15 bb15 kk15 fa16 fa17 fa18 fa19 Es15 Fc15 Fv15 Va15) hZ15 (hw _ (List.mem_of_getElem? (i := 102) rfl)) (hw _ (List.mem_of_getElem? (i := 28) rfl)) (by decide) (by decide)) q20a q20c (g := (mkF m 41 #[.val (.ref a)] [(.ref a15), (.ref a)])) rfl (by rw [hml]; rfl) (Steps.refl _) (argsL := [(.ref a15)]) (rest := []) (lenOf owpd13 rfl) rfl (by show 2 * 0 + _ ≤ _; exact Nat.le_of_eq rfl) (hb hby d6_41) (fun _ _ => ⟨rfl, e15, (by decide : 6 + 0 ≤ _), (by decide : 48 + 0 ≤ _)⟩)
  dsimp only [Pt.U, Pt.locs, Pt.cells, Pt.slots] at X20 l20 y20 z20 st20 hQ20
  subst l20 y20 z20
  obtain ⟨rfl, Nq20, e20⟩ := hQ20
  have N20 := Fr.app N14 Nq20
  obtain ⟨a21, T21, h21, k21, X21, e21, E21, hS21, hk21, hZ21, hown21, ct21, Lt21, st21⟩ := own_ldcwO X20 hx hZ15 hown15 (hw _ (List.mem_of_getElem? (i := 124) rfl)) wS e20 hS15 hk15 hEL hC15 (g := (mkF m 48 #[.val (.ref a)] [(.ref a)])) rfl (hb hby d6_48) (n := 4) (by decide) (by decide) (by decide) (by decide)
  obtain ⟨bb21, kk21, Es21, Fc21, Fv21, Va21⟩ := own_ldcwC hZ21 (hw _ (List.mem_of_getElem? (i := 124) rfl)) (by decide : ("com/example/vestwright/vestwright/plan/Plan", 297) ∈ consts_1) ct21.1 Lt21 (vs := [(.int (13 : Int32))]) (z := (1 : Int32)) ⟨by decide, by decide⟩ (by decide) rfl
  have hC21 := ct21.1
  have cr21 := cr15.trans ct21
  have O21 := O15.ext E21
  have Kp21 : Keep h0 h21 [] := Kp15.ext E21
  have fa22 := (fa16.ext E21)
  have fa23 := (fa17.ext E21)
  have fa24 := (fa18.ext E21)
  have fa25 := (fa19.ext E21)
  obtain ⟨cq26, kq26, q26a, q26b, q26c⟩ := isOf hZ21 e21 fa22
  obtain ⟨_, _, ⟨T26, L26, k26, n26⟩, -, X26, ⟨Lc26, hQ26, l26, y26, z26⟩, st26⟩ := X21.virtualBack hx (y := (⟨"java/lang/String", "contains", "(Ljava/lang/CharSequence;)Z"⟩ : MethodName)) (z := (⟨"java/lang/String", "contains", "(Ljava/lang/CharSequence;)Z"⟩ : MethodName)) hown21 (mvT hZ21 (hw _ (List.mem_of_getElem? (i := 98) rfl))) (mvT hZ21 (hw _ (List.mem_of_getElem? (i := 99) rfl))) (notFace_of_selects (args := #[]) (mvT hZ21 (hw _ (List.mem_of_getElem? (i := 101) rfl)))) (mvT hZ21 (hw _ (List.mem_of_getElem? (i := 101) rfl))) (mvT hZ21 (hw _ (List.mem_of_getElem? (i := 100) rfl))) (by decide) (backOf (W := 0) (rmCon_13 l Z a0 hw [] n0 h21 O21 i_COMPACT_STRINGS w_instance w_A W a b k a21 bb21 kk21 fa22 fa23 fa24 fa25 Es21 Fc21 Fv21 Va21) hZ21 (hw _ (List.mem_of_getElem? (i := 102) rfl)) (hw _ (List.mem_of_getElem? (i := 28) rfl)) (by decide) (by decide)) q26a q26c (g := (mkF m 51 #[.val (.ref a)] [(.ref a21), (.ref a)])) rfl (by rw [hml]; rfl) (Steps.refl _) (argsL := [(.ref a21)]) (rest := []) (lenOf owpd13 rfl) rfl (by show 2 * 0 + _ ≤ _; exact Nat.le_of_eq rfl) (hb hby d6_51) (fun _ _ => ⟨rfl, e21, (by decide : 8 + 0 ≤ _), (by decide : 56 + 0 ≤ _)⟩)
  dsimp only [Pt.U, Pt.locs, Pt.cells, Pt.slots] at X26 l26 y26 z26 st26 hQ26
  subst l26 y26 z26
  obtain ⟨rfl, Nq26, e26⟩ := hQ26
  have N26 := Fr.app N20 Nq26
  obtain ⟨fs, hr, hrun, hended, hend⟩ := X26.leaveW hS21 (by rw [e26]; exact hk21) (v := none) (fun _ => rfl)
  refine ⟨_, _, pre0 _ ?_, hrun, hended, _, _, rfl, ?_, ?_, hend.1, hend.2.1, hend.2.2.1, hend.2.2.2.mono (by decide) (by decide)⟩
  · show Steps p.tables e below (s₁.setTop (mkF m 0 #[.val (.ref a)] [])) _
    refine XS.aloadN Y0.here hx rfl (hb hby d6_0) rfl rfl ?_
    show Steps p.tables e below (s₁.setTop (mkF m 1 #[.val (.ref a)] [(.ref a)])) _
    refine st1 _ ?_
    show Steps p.tables e below (T1.setTop (mkF m 4 #[.val (.ref a)] [(.ref a1), (.ref a)])) _
    refine st2 _ ?_
    show Steps p.tables e below (T2.setTop (mkF m 7 #[.val (.ref a)] [(.ref a)])) _
    refine st4 _ ?_
    show Steps p.tables e below (T4.setTop (mkF m 10 #[.val (.ref a)] [(.ref a)])) _
    refine st8.trans ?_
    show Steps p.tables e below (T8.setTop (mkF m 13 #[.val (.ref a)] [(.int (0 : Int32))])) _
    refine XS.ifYes X8.here hx rfl (pc0 := 13) (pc' := 27) rfl (hb hby d6_13) rfl ((if0 _ _).trans (teq (by decide : (0 : Int32) = (0 : Int32))).1) (by decide) (by decide) ?_
    show Steps p.tables e below (T8.setTop (mkF m 27 #[.val (.ref a)] [])) _
    refine XS.aloadN X8.here hx rfl (hb hby d6_27) rfl rfl ?_
    show Steps p.tables e below (T8.setTop (mkF m 28 #[.val (.ref a)] [(.ref a)])) _
    refine st9 _ ?_
    show Steps p.tables e below (T9.setTop (mkF m 31 #[.val (.ref a)] [(.ref a9), (.ref a)])) _
    refine st14.trans ?_
    show Steps p.tables e below (T14.setTop (mkF m 34 #[.val (.ref a)] [(.int (0 : Int32))])) _
    refine XS.ifNo X14.here hx rfl (hb hby d6_34) rfl ((if0 _ _).trans (teq (by decide : (0 : Int32) = (0 : Int32))).2) ?_
    show Steps p.tables e below (T14.setTop (mkF m 37 #[.val (.ref a)] [])) _
    refine XS.aloadN X14.here hx rfl (hb hby d6_37) rfl rfl ?_
    show Steps p.tables e below (T14.setTop (mkF m 38 #[.val (.ref a)] [(.ref a)])) _
    refine st15 _ ?_
    show Steps p.tables e below (T15.setTop (mkF m 41 #[.val (.ref a)] [(.ref a15), (.ref a)])) _
    refine st20.trans ?_
    show Steps p.tables e below (T20.setTop (mkF m 44 #[.val (.ref a)] [(.int (0 : Int32))])) _
    refine XS.ifNo X20.here hx rfl (hb hby d6_44) rfl ((if0 _ _).trans (teq (by decide : (0 : Int32) = (0 : Int32))).2) ?_
    show Steps p.tables e below (T20.setTop (mkF m 47 #[.val (.ref a)] [])) _
    refine XS.aloadN X20.here hx rfl (hb hby d6_47) rfl rfl ?_
    show Steps p.tables e below (T20.setTop (mkF m 48 #[.val (.ref a)] [(.ref a)])) _
    refine st21 _ ?_
    show Steps p.tables e below (T21.setTop (mkF m 51 #[.val (.ref a)] [(.ref a21), (.ref a)])) _
    refine st26.trans ?_
    show Steps p.tables e below (T26.setTop (mkF m 54 #[.val (.ref a)] [(.int (0 : Int32))])) _
    refine XS.ifYes X26.here hx rfl (pc0 := 54) (pc' := 68) rfl (hb hby d6_54) rfl ((if0 _ _).trans (teq (by decide : (0 : Int32) = (0 : Int32))).1) (by decide) (by decide) ?_
    show Steps p.tables e below (T26.setTop (mkF m 68 #[.val (.ref a)] [])) _
    exact X26.returnOut hx Bd.returns (hb hby d6_68) hr
  · have eF : (T26.setFrames fs).heap = h21 := e26
    exact ⟨N26, rfl, by rw [eF]; exact ⟨O21, Kp21⟩⟩
  · have eF : (T26.setFrames fs).heap = h21 := e26
    have crF := cr21.trans (CHv.at X26 hZ21 hEL hC21)
    rw [hh, eF]
    exact crF
set_option maxRecDepth 65536 in
set_option maxHeartbeats 40000000 in
theorem rmPer (l : Launch) (Z : State) (a0 : Array Value) (hw : ∀ d ∈ tables_1, d.before a0 Z = true) (ws : List Jvm.Cond) (n0 : Nat) (h0 : Heap) (O : Old Z n0 h0) (i_COMPACT_STRINGS : Int32) (w_instance : Addr) (w_A : Addr) (W : OwW Z i_COMPACT_STRINGS w_instance w_A) (o : Addr) (a b : Addr) (k : ClassId) (r : Addr) (Eo : Exa Z h0 o "com/example/vestwright/vestwright/plan/Plan$EarlyReduction$PerMonth") (F0 : Fld Z h0 o "com/example/vestwright/vestwright/plan/Plan$EarlyReduction$PerMonth" "section" "Ljava/lang/String;" .null) (F1 : Fld Z h0 o "com/example/vestwright/vestwright/plan/Plan$EarlyReduction$PerMonth" "ratePerMonth" "Lcom/example/vestwright/vestwright/plan/Plan$Fraction;" .null) (go : n0 ≤ o) (Es : Exa Z h0 a "java/lang/String") (Fc : Fld Z h0 a "java/lang/String" "coder" "B" (.int (0 : Int32))) (Fv : Fld Z h0 a "java/lang/String" "value" "[B" (.ref b)) (Va : Arv Z h0 b k .byte (4 : Int32) [(.int (53 : Int32)), (.int (46 : Int32)), (.int (48 : Int32)), (.int (51 : Int32))] (.int 0)) :
    OwConH l (⟨"com/example/vestwright/vestwright/plan/Plan$EarlyReduction$PerMonth", "<init>", "(Ljava/lang/String;Lcom/example/vestwright/vestwright/plan/Plan$Fraction;)V"⟩ : MethodName) prog_44_method_1_code 3 none ws ({ frames := 6, cells := 10, slots := 116, locals := 80 } : Room) #[(.ref o), (.ref a), (.ref r)] Z h0 consts_1 (OwP (fun v h => v = none ∧ Old Z n0 h ∧ Keep h0 h [o] ∧ Exa Z h o "com/example/vestwright/vestwright/plan/Plan$EarlyReduction$PerMonth" ∧ Fld Z h o "com/example/vestwright/vestwright/plan/Plan$EarlyReduction$PerMonth" "ratePerMonth" "Lcom/example/vestwright/vestwright/plan/Plan$Fraction;" (.ref r)) n0) := by
  refine MetFree.of_bodySF (plainFor_of_name owpn5) hisR ?_
  intro p e s m args below meth c s₁ Bd hml0 hP hK
  obtain ⟨rfl, hZ, hh, hC0⟩ := hP
  have hx := Bd.exec
  have hby := Bd.bytes
  have hml : c.maxLocals = 3 := hml0
  have hown : s.vm.findClass "com/example/vestwright/vestwright/plan/Plan$EarlyReduction$PerMonth" = some m.cls := findClass_of_methodNamed Bd.named
  have hnm := (name_of_methodNamed Bd.named Bd.method).1
  have X0 : Stand p l e ({ frames := 6, cells := 10, slots := 116, locals := 80 } : Room) s m #[(.ref o), (.ref a), (.ref r)] below meth c s₁ [] 0 0 := Stand.of_body Bd
  have e0 : s₁.heap = h0 := by rw [← hh, Bd.state]; rfl
  have N0 := Fr.nil n0
  have WW := W
  obtain ⟨nz_i_COMPACT_STRINGS, E_w_instance, E_w_A, S_String_COMPACT_STRINGS, S_CharacterDataLatin1_instance, S_CharacterDataLatin1_A, Ta, -⟩ := WW
  have ef : entryFrame m #[(.ref o), (.ref a), (.ref r)] 3 = mkF m 0 #[.val (.ref o), .val (.ref a), .val (.ref r)] [] := by first | (simp [entryFrame, mkF, argsToLocals, Value.category]; done) | rfl
  have pre0 : ∀ t, Steps p.tables e below (s₁.setTop (mkF m 0 #[.val (.ref o), .val (.ref a), .val (.ref r)] [])) t → Steps p.tables e below (s₁.setTop (entryFrame m #[(.ref o), (.ref a), (.ref r)] 3)) t := fun t k => castTop ef k
  have Y0 : Stand p l e ({ frames := 6, cells := 10, slots := 116, locals := 80 } : Room) (s.setVm s.vm) m #[(.ref o), (.ref a), (.ref r)] below meth c s₁ [] 0 0 := X0
  have hS0 : s.Since s.vm s.heap.size := (State.WarmedH.refl s).since _
  have hk0 : s.heap.size ≤ h0.size := Nat.le_of_eq (by rw [← hh])
  have wS : ∀ a ∈ Bundle.stringAtoms, a.before a0 Z = true := fun a ha => hw a (own_strin a ha)
  have cr0 := CHr.refl hC0
  have hEL := own_EW hw
  obtain ⟨_, _, ⟨T1, L1, k1, n1⟩, -, X1, ⟨Lc1, hQ1, l1, y1, z1⟩, st1⟩ := Y0.specialBack hx (y := (⟨"java/lang/Record", "<init>", "()V"⟩ : MethodName)) rfl hown (mvT hZ (hw _ (List.mem_of_getElem? (i := 38) rfl))) (mvT hZ (hw _ (List.mem_of_getElem? (i := 13) rfl))) (mvT hZ (hw _ (List.mem_of_getElem? (i := 16) rfl))) (by decide) (backOf (W := 0) (rmRec l Z a0 hw [] n0 h0 O i_COMPACT_STRINGS w_instance w_A W o) hZ (hw _ (List.mem_of_getElem? (i := 16) rfl)) (hw _ (List.mem_of_getElem? (i := 15) rfl)) (by decide) (by decide)) (g := (mkF m 1 #[.val (.ref o), .val (.ref a), .val (.ref r)] [(.ref o)])) rfl (by rw [hml]; rfl) (Steps.refl _) (a := o) (argsL := []) (rest := []) (lenOf owpd0 rfl) rfl (by show 2 * 0 + _ ≤ _; exact Nat.le_of_eq rfl) (hb hby d5_1) (fun _ _ => ⟨rfl, e0, (by decide : 0 + 0 ≤ _), (by decide : 0 + 0 ≤ _)⟩)
  dsimp only [Pt.U, Pt.locs, Pt.cells, Pt.slots] at X1 l1 y1 z1 st1 hQ1
  subst l1 y1 z1
  obtain ⟨rfl, Nq1, e1⟩ := hQ1
  have N1 := Fr.app N0 Nq1
  obtain ⟨_, _, ⟨T2, L2, k2, n2⟩, -, Xw2, hSw2, hgr2, ⟨Lc2, hQ2, l2, y2, z2, ct2⟩, st2⟩ := callSNS X1 hx (y := (⟨"com/example/vestwright/vestwright/plan/Plan", "requireSection", "(Ljava/lang/String;)V"⟩ : MethodName)) hown (Cond.methodLinkNest_wide hZ (hw _ (List.mem_of_getElem? (i := 39) rfl)) :) (mvT hZ (hw _ (List.mem_of_getElem? (i := 40) rfl))) (mvT hZ (hw _ (List.mem_of_getElem? (i := 41) rfl))) (mvT hZ (hw _ (List.mem_of_getElem? (i := 42) rfl))) (by decide) (backOfSH (W := 0) (rmSec l Z a0 hw [] n0 h0 O i_COMPACT_STRINGS w_instance w_A W a b k Es Fc Fv Va) hZ (hw _ (List.mem_of_getElem? (i := 42) rfl)) (hw _ (List.mem_of_getElem? (i := 41) rfl)) (by decide) (by decide) hEL hC0) (g := (mkF m 5 #[.val (.ref o), .val (.ref a), .val (.ref r)] [(.ref a)])) rfl (by rw [hml]; rfl) (argsL := [(.ref a)]) (rest := []) (lenOf owpd14 rfl) rfl (by show 2 * 0 + _ ≤ _; exact Nat.le_of_eq rfl) (hb hby d5_5) (fun _ _ => ⟨rfl, e1, (by decide : 0 + 8 ≤ _), (by decide : 0 + 56 ≤ _)⟩)
  dsimp only [Pt.U, Pt.locs, Pt.cells, Pt.slots] at Xw2 hSw2 hgr2 ct2 l2 y2 z2 st2 hQ2
  subst l2 y2 z2
  obtain ⟨X2, hS2, hZ2, hown2⟩ := rebS hS0 (by rw [e1]; exact hk0) Xw2 hSw2 hgr2 hZ hown
  have hk2 := Nat.le_refl T2.heap.size
  have hC2 := ct2.1
  have cr2 := cr0.trans ct2
  obtain ⟨Nq2, hP2⟩ := hQ2
  have N2 := Fr.app N1 Nq2
  have ee2 : T2.heap = T2.heap := rfl
  obtain ⟨rfl, O2, Kc2⟩ := hP2
  have Kp2 : Keep h0 T2.heap [o] := (Keep.refl h0 [o]).trans Kc2 (all0 (P := fun x => x ∈ [o] ∨ h0.size ≤ x))
  obtain ⟨a3, T3, h3, k3, bb3, kk3, X3, e3, E3, hS3, hk3, hZ3, hown3, Es3, Fc3, Fv3, Va3, -, -, ct3, -, -, st3⟩ := ldcCH X2 hx hZ2 hown2 (hw _ (List.mem_of_getElem? (i := 125) rfl)) wS ee2 hS2 hk2 hEL (by decide : ("com/example/vestwright/vestwright/plan/Plan$EarlyReduction$PerMonth", 13) ∈ consts_1) hC2 (vs := [(.int (114 : Int32)), (.int (97 : Int32)), (.int (116 : Int32)), (.int (101 : Int32)), (.int (95 : Int32)), (.int (112 : Int32)), (.int (101 : Int32)), (.int (114 : Int32)), (.int (95 : Int32)), (.int (109 : Int32)), (.int (111 : Int32)), (.int (110 : Int32)), (.int (116 : Int32)), (.int (104 : Int32))]) (z := (14 : Int32)) ⟨by decide, by decide⟩ (by decide) rfl (g := (mkF m 9 #[.val (.ref o), .val (.ref a), .val (.ref r)] [(.ref r)])) rfl (hb hby d5_9) (n := 56) (by decide) (by decide) (by decide) (by decide)
  have hC3 := ct3.1
  have cr3 := cr2.trans ct3
  have O3 := O2.ext E3
  have Kp3 : Keep h0 h3 [o] := Kp2.ext E3
  obtain ⟨_, _, ⟨T4, L4, k4, n4⟩, -, X4, ⟨Lc4, hQ4, l4, y4, z4⟩, st4⟩ := callSN X3 hx (y := (⟨"com/example/vestwright/vestwright/plan/Plan", "require", "(Ljava/lang/Object;Ljava/lang/String;)Ljava/lang/Object;"⟩ : MethodName)) hown3 (Cond.methodLinkNest_wide hZ3 (hw _ (List.mem_of_getElem? (i := 126) rfl)) :) (mvT hZ3 (hw _ (List.mem_of_getElem? (i := 45) rfl))) (mvT hZ3 (hw _ (List.mem_of_getElem? (i := 41) rfl))) (mvT hZ3 (hw _ (List.mem_of_getElem? (i := 46) rfl))) (by decide) (backOf (W := 0) (rmReq l Z a0 hw [] n0 h3 O3 i_COMPACT_STRINGS w_instance w_A W r a3) hZ3 (hw _ (List.mem_of_getElem? (i := 46) rfl)) (hw _ (List.mem_of_getElem? (i := 41) rfl)) (by decide) (by decide)) (g := (mkF m 11 #[.val (.ref o), .val (.ref a), .val (.ref r)] [(.ref a3), (.ref r)])) rfl (by rw [hml]; rfl) (argsL := [(.ref r), (.ref a3)]) (rest := []) (lenOf owpd12 rfl) rfl (by show 2 * 0 + _ ≤ _; exact Nat.le_of_eq rfl) (hb hby d5_11) (fun _ _ => ⟨rfl, e3, (by decide : 10 + 0 ≤ _), (by decide : 116 + 0 ≤ _)⟩)
  dsimp only [Pt.U, Pt.locs, Pt.cells, Pt.slots] at X4 l4 y4 z4 st4 hQ4
  subst l4 y4 z4
  obtain ⟨rfl, Nq4, e4⟩ := hQ4
  have N4 := Fr.app N2 Nq4
  have fa5 := ((F0.keep Kc2 nin0).ext E3)
  have fa6 := ((Eo.keep Kc2).ext E3)
  obtain ⟨T7, h7, X7, e7, W7, st7⟩ := putF X4 hx hZ3 hown3 (host := "") (Or.inl (hw _ (List.mem_of_getElem? (i := 127) rfl))) Via.refl e4 fa5 fa6 (Or.inr ⟨(hw _ (List.mem_of_getElem? (i := 128) rfl)), rfl, hnm⟩) (hw _ (List.mem_of_getElem? (i := 25) rfl)) (ty := (.object "java/lang/String")) (by decide) rfl rfl (g := (mkF m 17 #[.val (.ref o), .val (.ref a), .val (.ref r)] [(.ref a), (.ref o)])) rfl rfl (hb hby d5_17)
  have Fw7 := fa5.same W7
  have N7 := Fr.snoc X7 N4 go
  have O7 := O3.wr W7 go
  have hkk7 := Nat.le_trans hk3 (Nat.le_of_eq W7.size.symm)
  have ct7 := CHr.wr W7 (Safe.exa (EL := consts_1) hZ3.alike fa6 (by decide) (by decide)) hC3
  have hC7 := ct7.1
  have cr7 := cr3.trans ct7
  have Kp7 : Keep h0 h7 [o] := Kp3.wr W7 (Or.inl (List.mem_of_getElem? (i := 0) rfl))
  have fa8 := (((F1.keep Kc2 nin0).ext E3).other W7 (Or.inr (slot_ne (Or.inr (hw _ (List.mem_of_getElem? (i := 130) rfl))) (Or.inr (hw _ (List.mem_of_getElem? (i := 128) rfl))) (by decide) (t := (.object "com/example/vestwright/vestwright/plan/Plan$Fraction")) (t' := (.object "java/lang/String")) (by decide) (by decide))))
  have fa9 := (fa6.wr W7)
  obtain ⟨T10, h10, X10, e10, W10, st10⟩ := putF X7 hx hZ3 hown3 (host := "") (Or.inl (hw _ (List.mem_of_getElem? (i := 129) rfl))) Via.refl e7 fa8 fa9 (Or.inr ⟨(hw _ (List.mem_of_getElem? (i := 130) rfl)), rfl, hnm⟩) (hw _ (List.mem_of_getElem? (i := 25) rfl)) (ty := (.object "com/example/vestwright/vestwright/plan/Plan$Fraction")) (by decide) rfl rfl (g := (mkF m 22 #[.val (.ref o), .val (.ref a), .val (.ref r)] [(.ref r), (.ref o)])) rfl rfl (hb hby d5_22)
  have Fw10 := fa8.same W10
  have N10 := Fr.snoc X10 N7 go
  have O10 := O7.wr W10 go
  have hkk10 := Nat.le_trans hkk7 (Nat.le_of_eq W10.size.symm)
  have ct10 := CHr.wr W10 (Safe.exa (EL := consts_1) hZ3.alike fa9 (by decide) (by decide)) hC7
  have hC10 := ct10.1
  have cr10 := cr7.trans ct10
  have Kp10 : Keep h0 h10 [o] := Kp7.wr W10 (Or.inl (List.mem_of_getElem? (i := 0) rfl))
  have fa11 := (Fw7.other W10 (Or.inr (slot_ne (Or.inr (hw _ (List.mem_of_getElem? (i := 128) rfl))) (Or.inr (hw _ (List.mem_of_getElem? (i := 130) rfl))) (by decide) (t := (.object "java/lang/String")) (t' := (.object "com/example/vestwright/vestwright/plan/Plan$Fraction")) (by decide) (by decide))))
  have fa12 := (fa9.wr W10)
  obtain ⟨fs, hr, hrun, hended, hend⟩ := X10.leaveW hS3 (by rw [e10]; exact hkk10) (v := none) (fun _ => rfl)
  refine ⟨_, _, pre0 _ ?_, hrun, hended, _, _, rfl, ?_, ?_, hend.1, hend.2.1, hend.2.2.1, hend.2.2.2.mono (by decide) (by decide)⟩
  · show Steps p.tables e below (s₁.setTop (mkF m 0 #[.val (.ref o), .val (.ref a), .val (.ref r)] [])) _
    refine XS.aloadN Y0.here hx rfl (hb hby d5_0) rfl rfl ?_
    show Steps p.tables e below (s₁.setTop (mkF m 1 #[.val (.ref o), .val (.ref a), .val (.ref r)] [(.ref o)])) _
    refine st1.trans ?_
    show Steps p.tables e below (T1.setTop (mkF m 4 #[.val (.ref o), .val (.ref a), .val (.ref r)] [])) _
    refine XS.aloadN X1.here hx rfl (hb hby d5_4) rfl rfl ?_
    show Steps p.tables e below (T1.setTop (mkF m 5 #[.val (.ref o), .val (.ref a), .val (.ref r)] [(.ref a)])) _
    refine st2.trans ?_
    show Steps p.tables e below (T2.setTop (mkF m 8 #[.val (.ref o), .val (.ref a), .val (.ref r)] [])) _
    refine XS.aloadN X2.here hx rfl (hb hby d5_8) rfl rfl ?_
    show Steps p.tables e below (T2.setTop (mkF m 9 #[.val (.ref o), .val (.ref a), .val (.ref r)] [(.ref r)])) _
    refine st3 _ ?_
    show Steps p.tables e below (T3.setTop (mkF m 11 #[.val (.ref o), .val (.ref a), .val (.ref r)] [(.ref a3), (.ref r)])) _
    refine st4.trans ?_
    show Steps p.tables e below (T4.setTop (mkF m 14 #[.val (.ref o), .val (.ref a), .val (.ref r)] [(.ref r)])) _
    refine XS.pop X4.here hx rfl (hb hby d5_14) rfl rfl ?_
    show Steps p.tables e below (T4.setTop (mkF m 15 #[.val (.ref o), .val (.ref a), .val (.ref r)] [])) _
    refine XS.aloadN X4.here hx rfl (hb hby d5_15) rfl rfl ?_
    show Steps p.tables e below (T4.setTop (mkF m 16 #[.val (.ref o), .val (.ref a), .val (.ref r)] [(.ref o)])) _
    refine XS.aloadN X4.here hx rfl (hb hby d5_16) rfl rfl ?_
    show Steps p.tables e below (T4.setTop (mkF m 17 #[.val (.ref o), .val (.ref a), .val (.ref r)] [(.ref a), (.ref o)])) _
    refine st7 _ ?_
    show Steps p.tables e below (T7.setTop (mkF m 20 #[.val (.ref o), .val (.ref a), .val (.ref r)] [])) _
    refine XS.aloadN X7.here hx rfl (hb hby d5_20) rfl rfl ?_
    show Steps p.tables e below (T7.setTop (mkF m 21 #[.val (.ref o), .val (.ref a), .val (.ref r)] [(.ref o)])) _
    refine XS.aloadN X7.here hx rfl (hb hby d5_21) rfl rfl ?_
    show Steps p.tables e below (T7.setTop (mkF m 22 #[.val (.ref o), .val (.ref a), .val (.ref r)] [(.ref r), (.ref o)])) _
    refine st10 _ ?_
    show Steps p.tables e below (T10.setTop (mkF m 25 #[.val (.ref o), .val (.ref a), .val (.ref r)] [])) _
    exact X10.returnOut hx Bd.returns (hb hby d5_25) hr
  · have eF : (T10.setFrames fs).heap = h10 := e10
    exact ⟨N10, rfl, by rw [eF]; exact ⟨O10, Kp10, fa12, Fw10⟩⟩
  · have eF : (T10.setFrames fs).heap = h10 := e10
    have crF := cr10.trans (CHv.at X10 hZ3 hEL hC10)
    rw [hh, eF]
    exact crF
set_option maxRecDepth 65536 in
set_option maxHeartbeats 40000000 in
theorem rmG_numerator (l : Launch) (Z : State) (a0 : Array Value) (hw : ∀ d ∈ tables_1, d.before a0 Z = true) (ws : List Jvm.Cond) (n0 : Nat) (h0 : Heap) (O : Old Z n0 h0) (i_COMPACT_STRINGS : Int32) (w_instance : Addr) (w_A : Addr) (W : OwW Z i_COMPACT_STRINGS w_instance w_A) (a : Addr) (v : Int64) (Fa : Fld Z h0 a "com/example/vestwright/vestwright/plan/Plan$Fraction" "numerator" "J" (.long v)) :
    OwCon l (⟨"com/example/vestwright/vestwright/plan/Plan$Fraction", "numerator", "()J"⟩ : MethodName) prog_49_method_5_code 1 (some .long) ws ({ frames := 0, cells := 0, slots := 0, locals := 0 } : Room) #[(.ref a)] Z h0 (OwQ (some (.long v)) h0 n0) := by
  refine MetFree.of_bodySF (plainFor_of_name owpn23) hisR ?_
  intro p e s m args below meth c s₁ Bd hml0 hP hK
  obtain ⟨rfl, hZ, hh⟩ := hP
  have hx := Bd.exec
  have hby := Bd.bytes
  have hml : c.maxLocals = 1 := hml0
  have hown : s.vm.findClass "com/example/vestwright/vestwright/plan/Plan$Fraction" = some m.cls := findClass_of_methodNamed Bd.named
  have hnm := (name_of_methodNamed Bd.named Bd.method).1
  have X0 : Stand p l e ({ frames := 0, cells := 0, slots := 0, locals := 0 } : Room) s m #[(.ref a)] below meth c s₁ [] 0 0 := Stand.of_body Bd
  have e0 : s₁.heap = h0 := by rw [← hh, Bd.state]; rfl
  have N0 := Fr.nil n0
  have WW := W
  obtain ⟨nz_i_COMPACT_STRINGS, E_w_instance, E_w_A, S_String_COMPACT_STRINGS, S_CharacterDataLatin1_instance, S_CharacterDataLatin1_A, Ta, -⟩ := WW
  have ef : entryFrame m #[(.ref a)] 1 = mkF m 0 #[.val (.ref a)] [] := by first | (simp [entryFrame, mkF, argsToLocals, Value.category]; done) | rfl
  have pre0 : ∀ t, Steps p.tables e below (s₁.setTop (mkF m 0 #[.val (.ref a)] [])) t → Steps p.tables e below (s₁.setTop (entryFrame m #[(.ref a)] 1)) t := fun t k => castTop ef k
  obtain ⟨T1, X1, e1, st1⟩ := getF X0 hx hZ hown (host := "") (Or.inl (hw _ (List.mem_of_getElem? (i := 20) rfl))) Via.refl e0 Fa (g := (mkF m 1 #[.val (.ref a)] [(.ref a)])) rfl rfl (hb hby d23_1)
  obtain ⟨fs, hr, hrun, hended, hW, hsame⟩ := X1.leave (v := some (.long v)) (fun h => by rw [Bd.returns] at h; cases h)
  refine ⟨_, _, pre0 _ ?_, hrun, hended, _, _, rfl, ?_, ⟨_, rfl⟩, hW, hsame.mono (by decide) (by decide)⟩
  · show Steps p.tables e below (s₁.setTop (mkF m 0 #[.val (.ref a)] [])) _
    refine XS.aloadN X0.here hx rfl (hb hby d23_0) rfl rfl ?_
    show Steps p.tables e below (s₁.setTop (mkF m 1 #[.val (.ref a)] [(.ref a)])) _
    refine st1 _ ?_
    show Steps p.tables e below (T1.setTop (mkF m 4 #[.val (.ref a)] [(.long v)])) _
    exact retOut X1 hx Bd.returns rfl (Or.inr (Or.inl ⟨rfl, rfl, _, rfl⟩)) (hb hby d23_4) hr
  · have eF : (T1.setFrames fs).heap = h0 := e1
    exact ⟨rfl, N0, eF⟩
set_option maxRecDepth 65536 in
set_option maxHeartbeats 40000000 in
theorem rmG_denominator (l : Launch) (Z : State) (a0 : Array Value) (hw : ∀ d ∈ tables_1, d.before a0 Z = true) (ws : List Jvm.Cond) (n0 : Nat) (h0 : Heap) (O : Old Z n0 h0) (i_COMPACT_STRINGS : Int32) (w_instance : Addr) (w_A : Addr) (W : OwW Z i_COMPACT_STRINGS w_instance w_A) (a : Addr) (v : Int64) (Fa : Fld Z h0 a "com/example/vestwright/vestwright/plan/Plan$Fraction" "denominator" "J" (.long v)) :
    OwCon l (⟨"com/example/vestwright/vestwright/plan/Plan$Fraction", "denominator", "()J"⟩ : MethodName) prog_49_method_6_code 1 (some .long) ws ({ frames := 0, cells := 0, slots := 0, locals := 0 } : Room) #[(.ref a)] Z h0 (OwQ (some (.long v)) h0 n0) := by
  refine MetFree.of_bodySF (plainFor_of_name owpn24) hisR ?_
  intro p e s m args below meth c s₁ Bd hml0 hP hK
  obtain ⟨rfl, hZ, hh⟩ := hP
  have hx := Bd.exec
  have hby := Bd.bytes
  have hml : c.maxLocals = 1 := hml0
  have hown : s.vm.findClass "com/example/vestwright/vestwright/plan/Plan$Fraction" = some m.cls := findClass_of_methodNamed Bd.named
  have hnm := (name_of_methodNamed Bd.named Bd.method).1
  have X0 : Stand p l e ({ frames := 0, cells := 0, slots := 0, locals := 0 } : Room) s m #[(.ref a)] below meth c s₁ [] 0 0 := Stand.of_body Bd
  have e0 : s₁.heap = h0 := by rw [← hh, Bd.state]; rfl
  have N0 := Fr.nil n0
  have WW := W
  obtain ⟨nz_i_COMPACT_STRINGS, E_w_instance, E_w_A, S_String_COMPACT_STRINGS, S_CharacterDataLatin1_instance, S_CharacterDataLatin1_A, Ta, -⟩ := WW
  have ef : entryFrame m #[(.ref a)] 1 = mkF m 0 #[.val (.ref a)] [] := by first | (simp [entryFrame, mkF, argsToLocals, Value.category]; done) | rfl
  have pre0 : ∀ t, Steps p.tables e below (s₁.setTop (mkF m 0 #[.val (.ref a)] [])) t → Steps p.tables e below (s₁.setTop (entryFrame m #[(.ref a)] 1)) t := fun t k => castTop ef k
  obtain ⟨T1, X1, e1, st1⟩ := getF X0 hx hZ hown (host := "") (Or.inl (hw _ (List.mem_of_getElem? (i := 22) rfl))) Via.refl e0 Fa (g := (mkF m 1 #[.val (.ref a)] [(.ref a)])) rfl rfl (hb hby d24_1)
  obtain ⟨fs, hr, hrun, hended, hW, hsame⟩ := X1.leave (v := some (.long v)) (fun h => by rw [Bd.returns] at h; cases h)
  refine ⟨_, _, pre0 _ ?_, hrun, hended, _, _, rfl, ?_, ⟨_, rfl⟩, hW, hsame.mono (by decide) (by decide)⟩
  · show Steps p.tables e below (s₁.setTop (mkF m 0 #[.val (.ref a)] [])) _
    refine XS.aloadN X0.here hx rfl (hb hby d24_0) rfl rfl ?_
    show Steps p.tables e below (s₁.setTop (mkF m 1 #[.val (.ref a)] [(.ref a)])) _
    refine st1 _ ?_
    show Steps p.tables e below (T1.setTop (mkF m 4 #[.val (.ref a)] [(.long v)])) _
    exact retOut X1 hx Bd.returns rfl (Or.inr (Or.inl ⟨rfl, rfl, _, rfl⟩)) (hb hby d24_4) hr
  · have eF : (T1.setFrames fs).heap = h0 := e1
    exact ⟨rfl, N0, eF⟩
set_option maxRecDepth 65536 in
set_option maxHeartbeats 40000000 in
theorem rmReach (l : Launch) (Z : State) (a0 : Array Value) (hw : ∀ d ∈ tables_1, d.before a0 Z = true) (ws : List Jvm.Cond) (n0 : Nat) (h0 : Heap) (O : Old Z n0 h0) (i_COMPACT_STRINGS : Int32) (w_instance : Addr) (w_A : Addr) (W : OwW Z i_COMPACT_STRINGS w_instance w_A) (o r : Addr) (pm : Int32) (n1 d1 : Int64) (Fr_ : Fld Z h0 o "com/example/vestwright/vestwright/plan/Plan$EarlyReduction$PerMonth" "ratePerMonth" "Lcom/example/vestwright/vestwright/plan/Plan$Fraction;" (.ref r)) (Er : Exa Z h0 r "com/example/vestwright/vestwright/plan/Plan$Fraction") (Fn : Fld Z h0 r "com/example/vestwright/vestwright/plan/Plan$Fraction" "numerator" "J" (.long n1)) (Fd : Fld Z h0 r "com/example/vestwright/vestwright/plan/Plan$Fraction" "denominator" "J" (.long d1)) :
    OwCon l (⟨"com/example/vestwright/vestwright/plan/Plan$EarlyReduction$PerMonth", "reachesMonthsEarly", "(I)Z"⟩ : MethodName) prog_44_method_2_code 2 (some .boolean) ws ({ frames := 1, cells := 0, slots := 0, locals := 14 } : Room) #[(.ref o), (.int pm)] Z h0 (OwQ (some (.int (if d1 < (n1 * (pm.toInt64)) then (0 : Int32) else (1 : Int32)))) h0 n0) := by
  refine MetFree.of_bodySF (plainFor_of_name owpn22) hisR ?_
  intro p e s m args below meth c s₁ Bd hml0 hP hK
  obtain ⟨rfl, hZ, hh⟩ := hP
  have hx := Bd.exec
  have hby := Bd.bytes
  have hml : c.maxLocals = 2 := hml0
  have hown : s.vm.findClass "com/example/vestwright/vestwright/plan/Plan$EarlyReduction$PerMonth" = some m.cls := findClass_of_methodNamed Bd.named
  have hnm := (name_of_methodNamed Bd.named Bd.method).1
  have X0 : Stand p l e ({ frames := 1, cells := 0, slots := 0, locals := 14 } : Room) s m #[(.ref o), (.int pm)] below meth c s₁ [] 0 0 := Stand.of_body Bd
  have e0 : s₁.heap = h0 := by rw [← hh, Bd.state]; rfl
  have N0 := Fr.nil n0
  have WW := W
  obtain ⟨nz_i_COMPACT_STRINGS, E_w_instance, E_w_A, S_String_COMPACT_STRINGS, S_CharacterDataLatin1_instance, S_CharacterDataLatin1_A, Ta, -⟩ := WW
  have ef : entryFrame m #[(.ref o), (.int pm)] 2 = mkF m 0 #[.val (.ref o), .val (.int pm)] [] := by first | (simp [entryFrame, mkF, argsToLocals, Value.category]; done) | rfl
  have pre0 : ∀ t, Steps p.tables e below (s₁.setTop (mkF m 0 #[.val (.ref o), .val (.int pm)] [])) t → Steps p.tables e below (s₁.setTop (entryFrame m #[(.ref o), (.int pm)] 2)) t := fun t k => castTop ef k
  obtain ⟨T1, X1, e1, st1⟩ := getF X0 hx hZ hown (host := "") (Or.inl (hw _ (List.mem_of_getElem? (i := 129) rfl))) Via.refl e0 Fr_ (g := (mkF m 1 #[.val (.ref o), .val (.int pm)] [(.ref o)])) rfl rfl (hb hby d22_1)
  obtain ⟨cq2, kq2, q2a, q2b, q2c⟩ := isOf hZ e1 Er
  obtain ⟨_, _, ⟨T2, L2, k2, n2⟩, -, X2, ⟨Lc2, hQ2, l2, y2, z2⟩, st2⟩ := X1.virtualBack hx (y := (⟨"com/example/vestwright/vestwright/plan/Plan$Fraction", "numerator", "()J"⟩ : MethodName)) (z := (⟨"com/example/vestwright/vestwright/plan/Plan$Fraction", "numerator", "()J"⟩ : MethodName)) hown (mvT hZ (hw _ (List.mem_of_getElem? (i := 136) rfl))) (mvT hZ (hw _ (List.mem_of_getElem? (i := 137) rfl))) (notFace_of_selects (args := #[]) (mvT hZ (hw _ (List.mem_of_getElem? (i := 139) rfl)))) (mvT hZ (hw _ (List.mem_of_getElem? (i := 139) rfl))) (mvT hZ (hw _ (List.mem_of_getElem? (i := 138) rfl))) (by decide) (backOf (W := 0) (rmG_numerator l Z a0 hw [] n0 h0 O i_COMPACT_STRINGS w_instance w_A W r n1 Fn) hZ (hw _ (List.mem_of_getElem? (i := 140) rfl)) (hw _ (List.mem_of_getElem? (i := 8) rfl)) (by decide) (by decide)) q2a q2c (g := (mkF m 4 #[.val (.ref o), .val (.int pm)] [(.ref r)])) rfl (by rw [hml]; rfl) (Steps.refl _) (argsL := []) (rest := []) (lenOf owpd15 rfl) rfl (by show 2 * 0 + _ ≤ _; exact Nat.le_of_eq rfl) (hb hby d22_4) (fun _ _ => ⟨rfl, e1, (by decide : 0 + 0 ≤ _), (by decide : 0 + 0 ≤ _)⟩)
  dsimp only [Pt.U, Pt.locs, Pt.cells, Pt.slots] at X2 l2 y2 z2 st2 hQ2
  subst l2 y2 z2
  obtain ⟨rfl, Nq2, e2⟩ := hQ2
  have N2 := Fr.app N0 Nq2
  obtain ⟨T3, X3, e3, st3⟩ := getF X2 hx hZ hown (host := "") (Or.inl (hw _ (List.mem_of_getElem? (i := 129) rfl))) Via.refl e2 Fr_ (g := (mkF m 11 #[.val (.ref o), .val (.int pm)] [(.ref o), (.long (n1 * (pm.toInt64)))])) rfl rfl (hb hby d22_11)
  obtain ⟨cq4, kq4, q4a, q4b, q4c⟩ := isOf hZ e3 Er
  obtain ⟨_, _, ⟨T4, L4, k4, n4⟩, -, X4, ⟨Lc4, hQ4, l4, y4, z4⟩, st4⟩ := X3.virtualBack hx (y := (⟨"com/example/vestwright/vestwright/plan/Plan$Fraction", "denominator", "()J"⟩ : MethodName)) (z := (⟨"com/example/vestwright/vestwright/plan/Plan$Fraction", "denominator", "()J"⟩ : MethodName)) hown (mvT hZ (hw _ (List.mem_of_getElem? (i := 141) rfl))) (mvT hZ (hw _ (List.mem_of_getElem? (i := 142) rfl))) (notFace_of_selects (args := #[]) (mvT hZ (hw _ (List.mem_of_getElem? (i := 144) rfl)))) (mvT hZ (hw _ (List.mem_of_getElem? (i := 144) rfl))) (mvT hZ (hw _ (List.mem_of_getElem? (i := 143) rfl))) (by decide) (backOf (W := 2) (rmG_denominator l Z a0 hw [] n0 h0 O i_COMPACT_STRINGS w_instance w_A W r d1 Fd) hZ (hw _ (List.mem_of_getElem? (i := 145) rfl)) (hw _ (List.mem_of_getElem? (i := 8) rfl)) (by decide) (by decide)) q4a q4c (g := (mkF m 14 #[.val (.ref o), .val (.int pm)] [(.ref r), (.long (n1 * (pm.toInt64)))])) rfl (by rw [hml]; rfl) (Steps.refl _) (argsL := []) (rest := [(.long (n1 * (pm.toInt64)))]) (lenOf owpd15 rfl) rfl (by show 2 * 0 + _ ≤ _; exact Nat.le_of_eq rfl) (hb hby d22_14) (fun _ _ => ⟨rfl, e3, (by decide : 0 + 0 ≤ _), (by decide : 0 + 0 ≤ _)⟩)
  dsimp only [Pt.U, Pt.locs, Pt.cells, Pt.slots] at X4 l4 y4 z4 st4 hQ4
  subst l4 y4 z4
  obtain ⟨rfl, Nq4, e4⟩ := hQ4
  have N4 := Fr.app N2 Nq4
  have sg5 : ∀ target, Steps p.tables e below (T4.setTop (mkF m 26 #[.val (.ref o), .val (.int pm)] [(.int (if d1 < (n1 * (pm.toInt64)) then (0 : Int32) else (1 : Int32)))])) target → Steps p.tables e below (T4.setTop (mkF m 18 #[.val (.ref o), .val (.int pm)] [(.int (lcmpW (n1 * (pm.toInt64)) d1))])) target := by
    intro target kt
    by_cases hd5_0 : d1 < (n1 * (pm.toInt64))
    · show Steps p.tables e below (T4.setTop (mkF m 18 #[.val (.ref o), .val (.int pm)] [(.int (lcmpW (n1 * (pm.toInt64)) d1))])) _
      refine XS.ifYes X4.here hx rfl (pc0 := 18) (pc' := 25) rfl (hb hby d22_18) rfl ((if0 _ _).trans (tlt ((lw_gt (n1 * (pm.toInt64)) d1).mpr hd5_0)).2.2.1) (by decide) (by decide) ?_
      show Steps p.tables e below (T4.setTop (mkF m 25 #[.val (.ref o), .val (.int pm)] [])) _
      refine XS.iconst X4.here hx rfl (hb hby d22_25) ?_
      show Steps p.tables e below (T4.setTop (mkF m 26 #[.val (.ref o), .val (.int pm)] [(.int (0 : Int32))])) _
      exact (by simpa only [if_pos hd5_0] using kt)
    · show Steps p.tables e below (T4.setTop (mkF m 18 #[.val (.ref o), .val (.int pm)] [(.int (lcmpW (n1 * (pm.toInt64)) d1))])) _
      refine XS.ifNo X4.here hx rfl (hb hby d22_18) rfl ((if0 _ _).trans (flt (mt (lw_gt (n1 * (pm.toInt64)) d1).mp hd5_0)).2.2.1) ?_
      show Steps p.tables e below (T4.setTop (mkF m 21 #[.val (.ref o), .val (.int pm)] [])) _
      refine XS.iconst X4.here hx rfl (hb hby d22_21) ?_
      show Steps p.tables e below (T4.setTop (mkF m 22 #[.val (.ref o), .val (.int pm)] [(.int (1 : Int32))])) _
      refine XS.goto X4.here hx rfl (pc0 := 22) (pc' := 26) rfl (hb hby d22_22) (by decide) (by decide) ?_
      show Steps p.tables e below (T4.setTop (mkF m 26 #[.val (.ref o), .val (.int pm)] [(.int (1 : Int32))])) _
      exact (by simpa only [if_neg hd5_0] using kt)
  obtain ⟨fs, hr, hrun, hended, hW, hsame⟩ := X4.leave (v := some (.int (if d1 < (n1 * (pm.toInt64)) then (0 : Int32) else (1 : Int32)))) (fun h => by rw [Bd.returns] at h; cases h)
  refine ⟨_, _, pre0 _ ?_, hrun, hended, _, _, rfl, ?_, ⟨_, rfl⟩, hW, hsame.mono (by decide) (by decide)⟩
  · show Steps p.tables e below (s₁.setTop (mkF m 0 #[.val (.ref o), .val (.int pm)] [])) _
    refine XS.aloadN X0.here hx rfl (hb hby d22_0) rfl rfl ?_
    show Steps p.tables e below (s₁.setTop (mkF m 1 #[.val (.ref o), .val (.int pm)] [(.ref o)])) _
    refine st1 _ ?_
    show Steps p.tables e below (T1.setTop (mkF m 4 #[.val (.ref o), .val (.int pm)] [(.ref r)])) _
    refine st2.trans ?_
    show Steps p.tables e below (T2.setTop (mkF m 7 #[.val (.ref o), .val (.int pm)] [(.long n1)])) _
    refine XS.iloadN X2.here hx rfl (hb hby d22_7) rfl ?_
    show Steps p.tables e below (T2.setTop (mkF m 8 #[.val (.ref o), .val (.int pm)] [(.int pm), (.long n1)])) _
    refine XS.i2l X2.here hx rfl (hb hby d22_8) rfl ?_
    show Steps p.tables e below (T2.setTop (mkF m 9 #[.val (.ref o), .val (.int pm)] [(.long (pm.toInt64)), (.long n1)])) _
    refine XS.lmul X2.here hx rfl (hb hby d22_9) rfl ?_
    show Steps p.tables e below (T2.setTop (mkF m 10 #[.val (.ref o), .val (.int pm)] [(.long (n1 * (pm.toInt64)))])) _
    refine XS.aloadN X2.here hx rfl (hb hby d22_10) rfl rfl ?_
    show Steps p.tables e below (T2.setTop (mkF m 11 #[.val (.ref o), .val (.int pm)] [(.ref o), (.long (n1 * (pm.toInt64)))])) _
    refine st3 _ ?_
    show Steps p.tables e below (T3.setTop (mkF m 14 #[.val (.ref o), .val (.int pm)] [(.ref r), (.long (n1 * (pm.toInt64)))])) _
    refine st4.trans ?_
    show Steps p.tables e below (T4.setTop (mkF m 17 #[.val (.ref o), .val (.int pm)] [(.long d1), (.long (n1 * (pm.toInt64)))])) _
    refine XS.lcmp X4.here hx rfl (hb hby d22_17) rfl ?_
    show Steps p.tables e below (T4.setTop (mkF m 18 #[.val (.ref o), .val (.int pm)] [(.int (lcmpW (n1 * (pm.toInt64)) d1))])) _
    refine sg5 _ ?_
    show Steps p.tables e below (T4.setTop (mkF m 26 #[.val (.ref o), .val (.int pm)] [(.int (if d1 < (n1 * (pm.toInt64)) then (0 : Int32) else (1 : Int32)))])) _
    exact own_retB X4 hx (t := .boolean) Bd.returns (by simp) (hb hby d22_26) (by (repeat' split) <;> rfl) hr
  · have eF : (T4.setFrames fs).heap = h0 := e4
    exact ⟨rfl, N4, eF⟩
set_option maxRecDepth 65536 in
set_option maxHeartbeats 40000000 in
theorem rmExp_z (l : Launch) (Z : State) (a0 : Array Value) (hw : ∀ d ∈ tables_1, d.before a0 Z = true) (ws : List Jvm.Cond) (n0 : Nat) (h0 : Heap) (O : Old Z n0 h0) (i_COMPACT_STRINGS : Int32) (w_instance : Addr) (w_A : Addr) (W : OwW Z i_COMPACT_STRINGS w_instance w_A) (n1 d1 : Int64) (pm : Int32) (h1 : ¬ (0 : Int32) < pm) :
    OwCon l (⟨"com/example/vestwright/vestwright/plan/PlanReachesMonthsEarlyPinLaw", "expected", "(JJI)Z"⟩ : MethodName) method_3_code 7 (some .boolean) ws ({ frames := 0, cells := 0, slots := 0, locals := 0 } : Room) #[(.long n1), (.long d1), (.int pm)] Z h0 (OwQ (some (.int (1 : Int32))) h0 n0) := by
  refine MetFree.of_bodySF (plainFor_of_name owpn25) hisR ?_
  intro p e s m args below meth c s₁ Bd hml0 hP hK
  obtain ⟨rfl, hZ, hh⟩ := hP
  have hx := Bd.exec
  have hby := Bd.bytes
  have hml : c.maxLocals = 7 := hml0
  have hown : s.vm.findClass "com/example/vestwright/vestwright/plan/PlanReachesMonthsEarlyPinLaw" = some m.cls := findClass_of_methodNamed Bd.named
  have hnm := (name_of_methodNamed Bd.named Bd.method).1
  have X0 : Stand p l e ({ frames := 0, cells := 0, slots := 0, locals := 0 } : Room) s m #[(.long n1), (.long d1), (.int pm)] below meth c s₁ [] 0 0 := Stand.of_body Bd
  have e0 : s₁.heap = h0 := by rw [← hh, Bd.state]; rfl
  have N0 := Fr.nil n0
  have WW := W
  obtain ⟨nz_i_COMPACT_STRINGS, E_w_instance, E_w_A, S_String_COMPACT_STRINGS, S_CharacterDataLatin1_instance, S_CharacterDataLatin1_A, Ta, -⟩ := WW
  have ef : entryFrame m #[(.long n1), (.long d1), (.int pm)] 7 = mkF m 0 #[.val (.long n1), .second, .val (.long d1), .second, .val (.int pm), .unset, .unset] [] := by first | (simp [entryFrame, mkF, argsToLocals, Value.category]; done) | rfl
  have pre0 : ∀ t, Steps p.tables e below (s₁.setTop (mkF m 0 #[.val (.long n1), .second, .val (.long d1), .second, .val (.int pm), .unset, .unset] [])) t → Steps p.tables e below (s₁.setTop (entryFrame m #[(.long n1), (.long d1), (.int pm)] 7)) t := fun t k => castTop ef k
  obtain ⟨fs, hr, hrun, hended, hW, hsame⟩ := X0.leave (v := some (.int (1 : Int32))) (fun h => by rw [Bd.returns] at h; cases h)
  refine ⟨_, _, pre0 _ ?_, hrun, hended, _, _, rfl, ?_, ⟨_, rfl⟩, hW, hsame.mono (by decide) (by decide)⟩
  · show Steps p.tables e below (s₁.setTop (mkF m 0 #[.val (.long n1), .second, .val (.long d1), .second, .val (.int pm), .unset, .unset] [])) _
    refine XS.iload X0.here hx rfl (hb hby d25_0) rfl ?_
    show Steps p.tables e below (s₁.setTop (mkF m 2 #[.val (.long n1), .second, .val (.long d1), .second, .val (.int pm), .unset, .unset] [(.int pm)])) _
    refine XS.ifNo X0.here hx rfl (hb hby d25_2) rfl ((if0 _ _).trans (flt h1).2.2.1) ?_
    show Steps p.tables e below (s₁.setTop (mkF m 5 #[.val (.long n1), .second, .val (.long d1), .second, .val (.int pm), .unset, .unset] [])) _
    refine XS.iconst X0.here hx rfl (hb hby d25_5) ?_
    show Steps p.tables e below (s₁.setTop (mkF m 6 #[.val (.long n1), .second, .val (.long d1), .second, .val (.int pm), .unset, .unset] [(.int (1 : Int32))])) _
    exact retN X0 hx (t := .boolean) Bd.returns (by simp) (hb hby d25_6) hr
  · have eF : (s₁.setFrames fs).heap = h0 := e0
    exact ⟨rfl, N0, eF⟩
set_option maxRecDepth 65536 in
set_option maxHeartbeats 40000000 in
theorem rmExp_g (l : Launch) (Z : State) (a0 : Array Value) (hw : ∀ d ∈ tables_1, d.before a0 Z = true) (ws : List Jvm.Cond) (n0 : Nat) (h0 : Heap) (O : Old Z n0 h0) (i_COMPACT_STRINGS : Int32) (w_instance : Addr) (w_A : Addr) (W : OwW Z i_COMPACT_STRINGS w_instance w_A) (n1 d1 : Int64) (pm : Int32) (h1 : (0 : Int32) < pm) :
    OwCon l (⟨"com/example/vestwright/vestwright/plan/PlanReachesMonthsEarlyPinLaw", "expected", "(JJI)Z"⟩ : MethodName) method_3_code 7 (some .boolean) ws ({ frames := 0, cells := 0, slots := 0, locals := 0 } : Room) #[(.long n1), (.long d1), (.int pm)] Z h0 (OwQ (some (.int (if (d1 / (pm.toInt64)) < n1 then (0 : Int32) else (1 : Int32)))) h0 n0) := by
  refine MetFree.of_bodySF (plainFor_of_name owpn25) hisR ?_
  intro p e s m args below meth c s₁ Bd hml0 hP hK
  obtain ⟨rfl, hZ, hh⟩ := hP
  have hx := Bd.exec
  have hby := Bd.bytes
  have hml : c.maxLocals = 7 := hml0
  have hown : s.vm.findClass "com/example/vestwright/vestwright/plan/PlanReachesMonthsEarlyPinLaw" = some m.cls := findClass_of_methodNamed Bd.named
  have hnm := (name_of_methodNamed Bd.named Bd.method).1
  have X0 : Stand p l e ({ frames := 0, cells := 0, slots := 0, locals := 0 } : Room) s m #[(.long n1), (.long d1), (.int pm)] below meth c s₁ [] 0 0 := Stand.of_body Bd
  have e0 : s₁.heap = h0 := by rw [← hh, Bd.state]; rfl
  have N0 := Fr.nil n0
  have WW := W
  obtain ⟨nz_i_COMPACT_STRINGS, E_w_instance, E_w_A, S_String_COMPACT_STRINGS, S_CharacterDataLatin1_instance, S_CharacterDataLatin1_A, Ta, -⟩ := WW
  have ef : entryFrame m #[(.long n1), (.long d1), (.int pm)] 7 = mkF m 0 #[.val (.long n1), .second, .val (.long d1), .second, .val (.int pm), .unset, .unset] [] := by first | (simp [entryFrame, mkF, argsToLocals, Value.category]; done) | rfl
  have pre0 : ∀ t, Steps p.tables e below (s₁.setTop (mkF m 0 #[.val (.long n1), .second, .val (.long d1), .second, .val (.int pm), .unset, .unset] [])) t → Steps p.tables e below (s₁.setTop (entryFrame m #[(.long n1), (.long d1), (.int pm)] 7)) t := fun t k => castTop ef k
  have sg1 : ∀ target, Steps p.tables e below (s₁.setTop (mkF m 26 #[.val (.long n1), .second, .val (.long d1), .second, .val (.int pm), .val (.long (pm.toInt64)), .second] [(.int (if (d1 / (pm.toInt64)) < n1 then (0 : Int32) else (1 : Int32)))])) target → Steps p.tables e below (s₁.setTop (mkF m 18 #[.val (.long n1), .second, .val (.long d1), .second, .val (.int pm), .val (.long (pm.toInt64)), .second] [(.int (lcmpW n1 (d1 / (pm.toInt64))))])) target := by
    intro target kt
    by_cases hd1_0 : (d1 / (pm.toInt64)) < n1
    · show Steps p.tables e below (s₁.setTop (mkF m 18 #[.val (.long n1), .second, .val (.long d1), .second, .val (.int pm), .val (.long (pm.toInt64)), .second] [(.int (lcmpW n1 (d1 / (pm.toInt64))))])) _
      refine XS.ifYes X0.here hx rfl (pc0 := 18) (pc' := 25) rfl (hb hby d25_18) rfl ((if0 _ _).trans (tlt ((lw_gt n1 (d1 / (pm.toInt64))).mpr hd1_0)).2.2.1) (by decide) (by decide) ?_
      show Steps p.tables e below (s₁.setTop (mkF m 25 #[.val (.long n1), .second, .val (.long d1), .second, .val (.int pm), .val (.long (pm.toInt64)), .second] [])) _
      refine XS.iconst X0.here hx rfl (hb hby d25_25) ?_
      show Steps p.tables e below (s₁.setTop (mkF m 26 #[.val (.long n1), .second, .val (.long d1), .second, .val (.int pm), .val (.long (pm.toInt64)), .second] [(.int (0 : Int32))])) _
      exact (by simpa only [if_pos hd1_0] using kt)
    · show Steps p.tables e below (s₁.setTop (mkF m 18 #[.val (.long n1), .second, .val (.long d1), .second, .val (.int pm), .val (.long (pm.toInt64)), .second] [(.int (lcmpW n1 (d1 / (pm.toInt64))))])) _
      refine XS.ifNo X0.here hx rfl (hb hby d25_18) rfl ((if0 _ _).trans (flt (mt (lw_gt n1 (d1 / (pm.toInt64))).mp hd1_0)).2.2.1) ?_
      show Steps p.tables e below (s₁.setTop (mkF m 21 #[.val (.long n1), .second, .val (.long d1), .second, .val (.int pm), .val (.long (pm.toInt64)), .second] [])) _
      refine XS.iconst X0.here hx rfl (hb hby d25_21) ?_
      show Steps p.tables e below (s₁.setTop (mkF m 22 #[.val (.long n1), .second, .val (.long d1), .second, .val (.int pm), .val (.long (pm.toInt64)), .second] [(.int (1 : Int32))])) _
      refine XS.goto X0.here hx rfl (pc0 := 22) (pc' := 26) rfl (hb hby d25_22) (by decide) (by decide) ?_
      show Steps p.tables e below (s₁.setTop (mkF m 26 #[.val (.long n1), .second, .val (.long d1), .second, .val (.int pm), .val (.long (pm.toInt64)), .second] [(.int (1 : Int32))])) _
      exact (by simpa only [if_neg hd1_0] using kt)
  obtain ⟨fs, hr, hrun, hended, hW, hsame⟩ := X0.leave (v := some (.int (if (d1 / (pm.toInt64)) < n1 then (0 : Int32) else (1 : Int32)))) (fun h => by rw [Bd.returns] at h; cases h)
  refine ⟨_, _, pre0 _ ?_, hrun, hended, _, _, rfl, ?_, ⟨_, rfl⟩, hW, hsame.mono (by decide) (by decide)⟩
  · show Steps p.tables e below (s₁.setTop (mkF m 0 #[.val (.long n1), .second, .val (.long d1), .second, .val (.int pm), .unset, .unset] [])) _
    refine XS.iload X0.here hx rfl (hb hby d25_0) rfl ?_
    show Steps p.tables e below (s₁.setTop (mkF m 2 #[.val (.long n1), .second, .val (.long d1), .second, .val (.int pm), .unset, .unset] [(.int pm)])) _
    refine XS.ifYes X0.here hx rfl (pc0 := 2) (pc' := 7) rfl (hb hby d25_2) rfl ((if0 _ _).trans (tlt h1).2.2.1) (by decide) (by decide) ?_
    show Steps p.tables e below (s₁.setTop (mkF m 7 #[.val (.long n1), .second, .val (.long d1), .second, .val (.int pm), .unset, .unset] [])) _
    refine XS.iload X0.here hx rfl (hb hby d25_7) rfl ?_
    show Steps p.tables e below (s₁.setTop (mkF m 9 #[.val (.long n1), .second, .val (.long d1), .second, .val (.int pm), .unset, .unset] [(.int pm)])) _
    refine XS.i2l X0.here hx rfl (hb hby d25_9) rfl ?_
    show Steps p.tables e below (s₁.setTop (mkF m 10 #[.val (.long n1), .second, .val (.long d1), .second, .val (.int pm), .unset, .unset] [(.long (pm.toInt64))])) _
    refine XS.lstore X0.here hx rfl (hb hby d25_10) rfl (l' := #[.val (.long n1), .second, .val (.long d1), .second, .val (.int pm), .val (.long (pm.toInt64)), .second]) rfl ?_
    show Steps p.tables e below (s₁.setTop (mkF m 12 #[.val (.long n1), .second, .val (.long d1), .second, .val (.int pm), .val (.long (pm.toInt64)), .second] [])) _
    refine XS.lloadN X0.here hx rfl (hb hby d25_12) rfl ?_
    show Steps p.tables e below (s₁.setTop (mkF m 13 #[.val (.long n1), .second, .val (.long d1), .second, .val (.int pm), .val (.long (pm.toInt64)), .second] [(.long n1)])) _
    refine XS.lloadN X0.here hx rfl (hb hby d25_13) rfl ?_
    show Steps p.tables e below (s₁.setTop (mkF m 14 #[.val (.long n1), .second, .val (.long d1), .second, .val (.int pm), .val (.long (pm.toInt64)), .second] [(.long d1), (.long n1)])) _
    refine XS.lload X0.here hx rfl (hb hby d25_14) rfl ?_
    show Steps p.tables e below (s₁.setTop (mkF m 16 #[.val (.long n1), .second, .val (.long d1), .second, .val (.int pm), .val (.long (pm.toInt64)), .second] [(.long (pm.toInt64)), (.long d1), (.long n1)])) _
    refine XS.ldiv X0.here hx rfl (hb hby d25_16) rfl (own_nz pm h1) ?_
    show Steps p.tables e below (s₁.setTop (mkF m 17 #[.val (.long n1), .second, .val (.long d1), .second, .val (.int pm), .val (.long (pm.toInt64)), .second] [(.long (d1 / (pm.toInt64))), (.long n1)])) _
    refine XS.lcmp X0.here hx rfl (hb hby d25_17) rfl ?_
    show Steps p.tables e below (s₁.setTop (mkF m 18 #[.val (.long n1), .second, .val (.long d1), .second, .val (.int pm), .val (.long (pm.toInt64)), .second] [(.int (lcmpW n1 (d1 / (pm.toInt64))))])) _
    refine sg1 _ ?_
    show Steps p.tables e below (s₁.setTop (mkF m 26 #[.val (.long n1), .second, .val (.long d1), .second, .val (.int pm), .val (.long (pm.toInt64)), .second] [(.int (if (d1 / (pm.toInt64)) < n1 then (0 : Int32) else (1 : Int32)))])) _
    exact own_retB X0 hx (t := .boolean) Bd.returns (by simp) (hb hby d25_26) (by (repeat' split) <;> rfl) hr
  · have eF : (s₁.setFrames fs).heap = h0 := e0
    exact ⟨rfl, N0, eF⟩
theorem rmExp (l : Launch) (Z : State) (a0 : Array Value) (hw : ∀ d ∈ tables_1, d.before a0 Z = true) (ws : List Jvm.Cond) (n0 : Nat) (h0 : Heap) (O : Old Z n0 h0) (i_COMPACT_STRINGS : Int32) (w_instance : Addr) (w_A : Addr) (W : OwW Z i_COMPACT_STRINGS w_instance w_A) (n1 d1 : Int64) (pm : Int32) :
    OwCon l (⟨"com/example/vestwright/vestwright/plan/PlanReachesMonthsEarlyPinLaw", "expected", "(JJI)Z"⟩ : MethodName) method_3_code 7 (some .boolean) ws ({ frames := 0, cells := 0, slots := 0, locals := 0 } : Room) #[(.long n1), (.long d1), (.int pm)] Z h0 (OwQ (some (.int (if (0 : Int32) < pm then (if (d1 / (pm.toInt64)) < n1 then (0 : Int32) else (1 : Int32)) else (1 : Int32)))) h0 n0) := by
  by_cases h1 : (0 : Int32) < pm
  · rw [if_pos h1]; exact rmExp_g l Z a0 hw ws n0 h0 O i_COMPACT_STRINGS w_instance w_A W n1 d1 pm h1
  · rw [if_neg h1]; exact rmExp_z l Z a0 hw ws n0 h0 O i_COMPACT_STRINGS w_instance w_A W n1 d1 pm h1
set_option maxRecDepth 65536 in
set_option maxHeartbeats 40000000 in
theorem rm0 (l : Launch) (Z : State) (a0 : Array Value) (hw : ∀ d ∈ tables_1, d.before a0 Z = true) (ws : List Jvm.Cond) (n0 : Nat) (h0 : Heap) (O : Old Z n0 h0) (i_COMPACT_STRINGS : Int32) (w_instance : Addr) (w_A : Addr) (W : OwW Z i_COMPACT_STRINGS w_instance w_A) (q0 : Int64) (q1 : Int64) (p2 : Int32) (nn dd : Int64) (hnn : (q0 &&& (2147483647 : Int64)) = nn) (hdd : (if (1 : Int64) < (q1 &&& (9223372036854775807 : Int64)) then (q1 &&& (9223372036854775807 : Int64)) else (1 : Int64)) = dd) (hn0 : ¬ nn < (0 : Int64)) (hn1 : ¬ (2147483647 : Int64) < nn) (hd0 : ¬ dd < (1 : Int64)) :
    OwConH l x code maxLocals ret ws room_1 #[(.long q0), (.long q1), (.int p2)] Z h0 consts_1 (OwP (fun v _ => v = some (.int 1)) n0) := by
  refine MetFree.of_bodySF (plainFor_of_name owpn0) hisR ?_
  intro p e s m args below meth c s₁ Bd hml0 hP hK
  obtain ⟨rfl, hZ, hh, hC0⟩ := hP
  have hx := Bd.exec
  have hby := Bd.bytes
  have hml : c.maxLocals = 12 := hml0
  have hown : s.vm.findClass "com/example/vestwright/vestwright/plan/PlanReachesMonthsEarlyPinLaw" = some m.cls := findClass_of_methodNamed Bd.named
  have hnm := (name_of_methodNamed Bd.named Bd.method).1
  have X0 : Stand p l e room_1 s m #[(.long q0), (.long q1), (.int p2)] below meth c s₁ [] 0 0 := Stand.of_body Bd
  have e0 : s₁.heap = h0 := by rw [← hh, Bd.state]; rfl
  have N0 := Fr.nil n0
  have WW := W
  obtain ⟨nz_i_COMPACT_STRINGS, E_w_instance, E_w_A, S_String_COMPACT_STRINGS, S_CharacterDataLatin1_instance, S_CharacterDataLatin1_A, Ta, -⟩ := WW
  have ef : entryFrame m #[(.long q0), (.long q1), (.int p2)] maxLocals = mkF m 0 #[.val (.long q0), .second, .val (.long q1), .second, .val (.int p2), .unset, .unset, .unset, .unset, .unset, .unset, .unset] [] := by first | (simp [entryFrame, mkF, argsToLocals, Value.category, maxLocals]; done) | rfl
  have pre0 : ∀ t, Steps p.tables e below (s₁.setTop (mkF m 0 #[.val (.long q0), .second, .val (.long q1), .second, .val (.int p2), .unset, .unset, .unset, .unset, .unset, .unset, .unset] [])) t → Steps p.tables e below (s₁.setTop (entryFrame m #[(.long q0), (.long q1), (.int p2)] maxLocals)) t := fun t k => castTop ef k
  have Y0 : Stand p l e room_1 (s.setVm s.vm) m #[(.long q0), (.long q1), (.int p2)] below meth c s₁ [] 0 0 := X0
  have hS0 : s.Since s.vm s.heap.size := (State.WarmedH.refl s).since _
  have hk0 : s.heap.size ≤ h0.size := Nat.le_of_eq (by rw [← hh])
  have wS : ∀ a ∈ Bundle.stringAtoms, a.before a0 Z = true := fun a ha => hw a (own_strin a ha)
  have cr0 := CHr.refl hC0
  have hEL := own_EW hw
  obtain ⟨_, _, ⟨T1, L1, k1, n1⟩, -, X1, ⟨Lc1, hQ1, l1, y1, z1⟩, st1⟩ := Jvm.LawKit.callS Y0 hx (y := (⟨"java/lang/Math", "max", "(JJ)J"⟩ : MethodName)) hown (mvT hZ (hw _ (List.mem_of_getElem? (i := 2) rfl))) (mvT hZ (hw _ (List.mem_of_getElem? (i := 3) rfl))) (mvT hZ (hw _ (List.mem_of_getElem? (i := 4) rfl))) (mvT hZ (hw _ (List.mem_of_getElem? (i := 5) rfl))) (by decide) (backOf (W := 0) (rmMax l Z a0 hw [] n0 h0 O i_COMPACT_STRINGS w_instance w_A W (1 : Int64) (q1 &&& (9223372036854775807 : Int64))) hZ (hw _ (List.mem_of_getElem? (i := 5) rfl)) (hw _ (List.mem_of_getElem? (i := 4) rfl)) (by decide) (by decide)) (g := (mkF m 13 #[.val (.long q0), .second, .val (.long q1), .second, .val (.int p2), .val (.long nn), .second, .unset, .unset, .unset, .unset, .unset] [(.long (q1 &&& (9223372036854775807 : Int64))), (.long (1 : Int64))])) rfl (by rw [hml]; rfl) (argsL := [(.long (1 : Int64)), (.long (q1 &&& (9223372036854775807 : Int64)))]) (rest := []) (lenOf owpd16 rfl) rfl (by show 2 * 0 + _ ≤ _; exact Nat.le_of_eq rfl) (hb hby at_13) (fun _ _ => ⟨rfl, e0, (by decide : 0 + 0 ≤ _), (by decide : 0 + 0 ≤ _)⟩)
  dsimp only [Pt.U, Pt.locs, Pt.cells, Pt.slots] at X1 l1 y1 z1 st1 hQ1
  subst l1 y1 z1
  obtain ⟨rfl, Nq1, e1⟩ := hQ1
  have N1 := Fr.app N0 Nq1
  obtain ⟨T2, h2, X2, e2, E2, A2, D2, -, st2⟩ := newO X1 hx hZ hown (hw _ (List.mem_of_getElem? (i := 6) rfl)) (hw _ (List.mem_of_getElem? (i := 7) rfl)) (hw _ (List.mem_of_getElem? (i := 8) rfl)) e1 (g := (mkF m 18 #[.val (.long q0), .second, .val (.long q1), .second, .val (.int p2), .val (.long nn), .second, .val (.long dd), .second, .unset, .unset, .unset] [])) rfl (hb hby at_18) (by decide) (by decide)
  obtain ⟨b2, g2⟩ : ∃ z, z = h0.size := ⟨_, rfl⟩
  rw [← g2] at A2 D2 st2
  have gx2 : n0 ≤ b2 := Nat.le_trans (Nat.le_trans (Nat.le_of_eq O.1.symm) O.2.1) (Nat.le_of_eq g2.symm)
  have O2 := O.ext E2
  have Fn2_numerator : Fld Z h2 b2 "com/example/vestwright/vestwright/plan/Plan$Fraction" "numerator" "J" (.long (0 : Int64)) := D2 (Or.inr (hw _ (List.mem_of_getElem? (i := 21) rfl))) (ty := .long) (by decide)
  have Fn2_denominator : Fld Z h2 b2 "com/example/vestwright/vestwright/plan/Plan$Fraction" "denominator" "J" (.long (0 : Int64)) := D2 (Or.inr (hw _ (List.mem_of_getElem? (i := 23) rfl))) (ty := .long) (by decide)
  have hkk2 := Nat.le_trans hk0 E2.1
  have ct2 := CHr.ext E2 hC0
  have hC2 := ct2.1
  have cr2 := cr0.trans ct2
  obtain ⟨_, _, ⟨T3, L3, k3, n3⟩, -, X3, ⟨Lc3, hQ3, l3, y3, z3⟩, st3⟩ := X2.specialBack hx (y := (⟨"com/example/vestwright/vestwright/plan/Plan$Fraction", "<init>", "(JJ)V"⟩ : MethodName)) rfl hown (mvT hZ (hw _ (List.mem_of_getElem? (i := 9) rfl))) (mvT hZ (hw _ (List.mem_of_getElem? (i := 10) rfl))) (mvT hZ (hw _ (List.mem_of_getElem? (i := 11) rfl))) (by decide) (backOf (W := 1) (rmFrac l Z a0 hw [] n0 h2 O2 i_COMPACT_STRINGS w_instance w_A W b2 nn dd A2 Fn2_numerator Fn2_denominator gx2 hn0 hd0) hZ (hw _ (List.mem_of_getElem? (i := 11) rfl)) (hw _ (List.mem_of_getElem? (i := 8) rfl)) (by decide) (by decide)) (g := (mkF m 26 #[.val (.long q0), .second, .val (.long q1), .second, .val (.int p2), .val (.long nn), .second, .val (.long dd), .second, .unset, .unset, .unset] [(.long dd), (.long nn), (.ref b2), (.ref b2)])) rfl (by rw [hml]; rfl) (Steps.refl _) (a := b2) (argsL := [(.long nn), (.long dd)]) (rest := [(.ref b2)]) (lenOf owpd17 rfl) rfl (by show 2 * 0 + _ ≤ _; exact Nat.le_of_eq rfl) (hb hby at_26) (fun _ _ => ⟨rfl, e2, (by decide : 1 + 0 ≤ _), (by decide : 2 + 0 ≤ _)⟩)
  dsimp only [Pt.U, Pt.locs, Pt.cells, Pt.slots] at X3 l3 y3 z3 st3 hQ3
  subst l3 y3 z3
  obtain ⟨Nq3, hP3⟩ := hQ3
  have N3 := Fr.app N1 Nq3
  have ee3 : T3.heap = T3.heap := rfl
  obtain ⟨rfl, O3, Kc3, Ec3, F0c3, F1c3⟩ := hP3
  have ct3 := CHr.keep Kc3 (sfS (Safe.exa (EL := consts_1) hZ.alike A2 (by decide) (by decide)) sf0) hC2
  have hC3 := ct3.1
  have cr3 := cr2.trans ct3
  have hkk3 := Nat.le_trans hkk2 Kc3.1
  obtain ⟨T4, h4, X4, e4, E4, A4, D4, -, st4⟩ := newO X3 hx hZ hown (hw _ (List.mem_of_getElem? (i := 24) rfl)) (hw _ (List.mem_of_getElem? (i := 25) rfl)) (hw _ (List.mem_of_getElem? (i := 26) rfl)) ee3 (g := (mkF m 31 #[.val (.long q0), .second, .val (.long q1), .second, .val (.int p2), .val (.long nn), .second, .val (.long dd), .second, .val (.ref b2), .unset, .unset] [])) rfl (hb hby at_31) (by decide) (by decide)
  obtain ⟨b4, g4⟩ : ∃ z, z = T3.heap.size := ⟨_, rfl⟩
  rw [← g4] at A4 D4 st4
  have gx4 : n0 ≤ b4 := Nat.le_trans (Nat.le_trans (Nat.le_of_eq O3.1.symm) O3.2.1) (Nat.le_of_eq g4.symm)
  have ne_b2_4 : b2 ≠ b4 := Nat.ne_of_lt (Nat.lt_of_lt_of_le Ec3.lt (Nat.le_of_eq g4.symm))
  have O4 := O3.ext E4
  have Fn4_section : Fld Z h4 b4 "com/example/vestwright/vestwright/plan/Plan$EarlyReduction$PerMonth" "section" "Ljava/lang/String;" .null := D4 (Or.inr (hw _ (List.mem_of_getElem? (i := 128) rfl))) (ty := (.object "java/lang/String")) (by decide)
  have Fn4_ratePerMonth : Fld Z h4 b4 "com/example/vestwright/vestwright/plan/Plan$EarlyReduction$PerMonth" "ratePerMonth" "Lcom/example/vestwright/vestwright/plan/Plan$Fraction;" .null := D4 (Or.inr (hw _ (List.mem_of_getElem? (i := 130) rfl))) (ty := (.object "com/example/vestwright/vestwright/plan/Plan$Fraction")) (by decide)
  have hkk4 := Nat.le_trans hkk3 E4.1
  have ct4 := CHr.ext E4 hC3
  have hC4 := ct4.1
  have cr4 := cr3.trans ct4
  obtain ⟨a5, T5, h5, k5, bb5, kk5, X5, e5, E5, hS5, hk5, hZ5, hown5, Es5, Fc5, Fv5, Va5, -, -, ct5, -, -, st5⟩ := ldcCH X4 hx hZ hown (hw _ (List.mem_of_getElem? (i := 27) rfl)) wS e4 hS0 hkk4 hEL (by decide : ("com/example/vestwright/vestwright/plan/PlanReachesMonthsEarlyPinLaw", 26) ∈ consts_1) hC4 (vs := [(.int (53 : Int32)), (.int (46 : Int32)), (.int (48 : Int32)), (.int (51 : Int32))]) (z := (4 : Int32)) ⟨by decide, by decide⟩ (by decide) rfl (g := (mkF m 35 #[.val (.long q0), .second, .val (.long q1), .second, .val (.int p2), .val (.long nn), .second, .val (.long dd), .second, .val (.ref b2), .unset, .unset] [(.ref b4), (.ref b4)])) rfl (hb hby at_35) (n := 16) (by decide) (by decide) (by decide) (by decide)
  have hC5 := ct5.1
  have cr5 := cr4.trans ct5
  have O5 := O4.ext E5
  have fa6 := (A4.ext E5)
  have fa7 := (Fn4_section.ext E5)
  have fa8 := (Fn4_ratePerMonth.ext E5)
  obtain ⟨_, _, ⟨T9, L9, k9, n9⟩, -, Xw9, hSw9, hgr9, ⟨Lc9, hQ9, l9, y9, z9, ct9⟩, st9⟩ := X5.specialBackS hx (y := (⟨"com/example/vestwright/vestwright/plan/Plan$EarlyReduction$PerMonth", "<init>", "(Ljava/lang/String;Lcom/example/vestwright/vestwright/plan/Plan$Fraction;)V"⟩ : MethodName)) rfl hown5 (mvT hZ5 (hw _ (List.mem_of_getElem? (i := 35) rfl))) (mvT hZ5 (hw _ (List.mem_of_getElem? (i := 36) rfl))) (mvT hZ5 (hw _ (List.mem_of_getElem? (i := 37) rfl))) (by decide) (backOfSH (W := 1) (rmPer l Z a0 hw [] n0 h5 O5 i_COMPACT_STRINGS w_instance w_A W b4 a5 bb5 kk5 b2 fa6 fa7 fa8 gx4 Es5 Fc5 Fv5 Va5) hZ5 (hw _ (List.mem_of_getElem? (i := 37) rfl)) (hw _ (List.mem_of_getElem? (i := 26) rfl)) (by decide) (by decide) hEL hC5) (g := (mkF m 39 #[.val (.long q0), .second, .val (.long q1), .second, .val (.int p2), .val (.long nn), .second, .val (.long dd), .second, .val (.ref b2), .unset, .unset] [(.ref b2), (.ref a5), (.ref b4), (.ref b4)])) rfl (by rw [hml]; rfl) (Steps.refl _) (a := b4) (argsL := [(.ref a5), (.ref b2)]) (rest := [(.ref b4)]) (lenOf owpd18 rfl) rfl (by show 2 * 0 + _ ≤ _; exact Nat.le_of_eq rfl) (hb hby at_39) (fun _ _ => ⟨rfl, e5, (by decide : 4 + 10 ≤ _), (by decide : 24 + 116 ≤ _)⟩)
  dsimp only [Pt.U, Pt.locs, Pt.cells, Pt.slots] at Xw9 hSw9 hgr9 ct9 l9 y9 z9 st9 hQ9
  subst l9 y9 z9
  obtain ⟨X9, hS9, hZ9, hown9⟩ := rebS hS5 (by rw [e5]; exact hk5) Xw9 hSw9 hgr9 hZ5 hown5
  have hk9 := Nat.le_refl T9.heap.size
  have hC9 := ct9.1
  have cr9 := cr5.trans ct9
  obtain ⟨Nq9, hP9⟩ := hQ9
  have N9 := Fr.app N3 Nq9
  have ee9 : T9.heap = T9.heap := rfl
  obtain ⟨rfl, O9, Kc9, Ec9, Fp9⟩ := hP9
  have fa10 := (((Ec3.ext E4).ext E5).keep Kc9)
  have fa11 := (((F0c3.ext E4).ext E5).keep Kc9 (ninS ne_b2_4 nin0))
  have fa12 := (((F1c3.ext E4).ext E5).keep Kc9 (ninS ne_b2_4 nin0))
  obtain ⟨cq13, kq13, q13a, q13b, q13c⟩ := isOf hZ9 ee9 Ec9
  obtain ⟨_, _, ⟨T13, L13, k13, n13⟩, -, X13, ⟨Lc13, hQ13, l13, y13, z13⟩, st13⟩ := X9.virtualBack hx (y := (⟨"com/example/vestwright/vestwright/plan/Plan$EarlyReduction$PerMonth", "reachesMonthsEarly", "(I)Z"⟩ : MethodName)) (z := (⟨"com/example/vestwright/vestwright/plan/Plan$EarlyReduction$PerMonth", "reachesMonthsEarly", "(I)Z"⟩ : MethodName)) hown9 (mvT hZ9 (hw _ (List.mem_of_getElem? (i := 131) rfl))) (mvT hZ9 (hw _ (List.mem_of_getElem? (i := 132) rfl))) (notFace_of_selects (args := #[]) (mvT hZ9 (hw _ (List.mem_of_getElem? (i := 134) rfl)))) (mvT hZ9 (hw _ (List.mem_of_getElem? (i := 134) rfl))) (mvT hZ9 (hw _ (List.mem_of_getElem? (i := 133) rfl))) (by decide) (backOf (W := 0) (rmReach l Z a0 hw [] n0 T9.heap O9 i_COMPACT_STRINGS w_instance w_A W b4 b2 p2 nn dd Fp9 fa10 fa11 fa12) hZ9 (hw _ (List.mem_of_getElem? (i := 135) rfl)) (hw _ (List.mem_of_getElem? (i := 26) rfl)) (by decide) (by decide)) q13a q13c (g := (mkF m 48 #[.val (.long q0), .second, .val (.long q1), .second, .val (.int p2), .val (.long nn), .second, .val (.long dd), .second, .val (.ref b2), .val (.ref b4), .unset] [(.int p2), (.ref b4)])) rfl (by rw [hml]; rfl) (Steps.refl _) (argsL := [(.int p2)]) (rest := []) (lenOf owpd4 rfl) rfl (by show 2 * 0 + _ ≤ _; exact Nat.le_of_eq rfl) (hb hby at_48) (fun _ _ => ⟨rfl, ee9, (by decide : 14 + 0 ≤ _), (by decide : 140 + 0 ≤ _)⟩)
  dsimp only [Pt.U, Pt.locs, Pt.cells, Pt.slots] at X13 l13 y13 z13 st13 hQ13
  subst l13 y13 z13
  obtain ⟨rfl, Nq13, e13⟩ := hQ13
  have N13 := Fr.app N9 Nq13
  obtain ⟨_, _, ⟨T14, L14, k14, n14⟩, -, X14, ⟨Lc14, hQ14, l14, y14, z14⟩, st14⟩ := Jvm.LawKit.callS X13 hx (y := (⟨"com/example/vestwright/vestwright/plan/PlanReachesMonthsEarlyPinLaw", "expected", "(JJI)Z"⟩ : MethodName)) hown9 (mvT hZ9 (hw _ (List.mem_of_getElem? (i := 146) rfl))) (mvT hZ9 (hw _ (List.mem_of_getElem? (i := 147) rfl))) (mvT hZ9 (hw _ (List.mem_of_getElem? (i := 148) rfl))) (mvT hZ9 (hw _ (List.mem_of_getElem? (i := 149) rfl))) (by decide) (backOf (W := 1) (rmExp l Z a0 hw [] n0 T9.heap O9 i_COMPACT_STRINGS w_instance w_A W nn dd p2) hZ9 (hw _ (List.mem_of_getElem? (i := 149) rfl)) (hw _ (List.mem_of_getElem? (i := 148) rfl)) (by decide) (by decide)) (g := (mkF m 61 #[.val (.long q0), .second, .val (.long q1), .second, .val (.int p2), .val (.long nn), .second, .val (.long dd), .second, .val (.ref b2), .val (.ref b4), .val (.int (if dd < (nn * (p2.toInt64)) then (0 : Int32) else (1 : Int32)))] [(.int p2), (.long dd), (.long nn), (.int (if dd < (nn * (p2.toInt64)) then (0 : Int32) else (1 : Int32)))])) rfl (by rw [hml]; rfl) (argsL := [(.long nn), (.long dd), (.int p2)]) (rest := [(.int (if dd < (nn * (p2.toInt64)) then (0 : Int32) else (1 : Int32)))]) (lenOf owpd19 rfl) rfl (by show 2 * 0 + _ ≤ _; exact Nat.le_of_eq rfl) (hb hby at_61) (fun _ _ => ⟨rfl, e13, (by decide : 14 + 0 ≤ _), (by decide : 140 + 0 ≤ _)⟩)
  dsimp only [Pt.U, Pt.locs, Pt.cells, Pt.slots] at X14 l14 y14 z14 st14 hQ14
  subst l14 y14 z14
  obtain ⟨rfl, Nq14, e14⟩ := hQ14
  have N14 := Fr.app N13 Nq14
  obtain ⟨fs, hr, hrun, hended, hend⟩ := X14.leaveW hS9 (by rw [e14]; exact hk9) (v := some (.int (1 : Int32))) (fun h => by rw [Bd.returns] at h; cases h)
  refine ⟨_, _, pre0 _ ?_, hrun, hended, _, _, rfl, ?_, ?_, hend.1, hend.2.1, hend.2.2.1, hend.2.2.2.mono (by decide) (by decide)⟩
  · show Steps p.tables e below (s₁.setTop (mkF m 0 #[.val (.long q0), .second, .val (.long q1), .second, .val (.int p2), .unset, .unset, .unset, .unset, .unset, .unset, .unset] [])) _
    refine XS.lloadN Y0.here hx rfl (hb hby at_0) rfl ?_
    show Steps p.tables e below (s₁.setTop (mkF m 1 #[.val (.long q0), .second, .val (.long q1), .second, .val (.int p2), .unset, .unset, .unset, .unset, .unset, .unset, .unset] [(.long q0)])) _
    refine Y0.ldc2Long hx hown (mvT hZ (hw _ (List.mem_of_getElem? (i := 0) rfl))) (g := (mkF m 1 #[.val (.long q0), .second, .val (.long q1), .second, .val (.int p2), .unset, .unset, .unset, .unset, .unset, .unset, .unset] [(.long q0)])) rfl (hb hby at_1) _ ?_
    show Steps p.tables e below (s₁.setTop (mkF m 4 #[.val (.long q0), .second, .val (.long q1), .second, .val (.int p2), .unset, .unset, .unset, .unset, .unset, .unset, .unset] [(.long (2147483647 : Int64)), (.long q0)])) _
    refine XS.land Y0.here hx rfl (hb hby at_4) rfl ?_
    show Steps p.tables e below (s₁.setTop (mkF m 5 #[.val (.long q0), .second, .val (.long q1), .second, .val (.int p2), .unset, .unset, .unset, .unset, .unset, .unset, .unset] [(.long (q0 &&& (2147483647 : Int64)))])) _
    rw [hnn]
    show Steps p.tables e below (s₁.setTop (mkF m 5 #[.val (.long q0), .second, .val (.long q1), .second, .val (.int p2), .unset, .unset, .unset, .unset, .unset, .unset, .unset] [(.long nn)])) _
    refine XS.lstore Y0.here hx rfl (hb hby at_5) rfl (l' := #[.val (.long q0), .second, .val (.long q1), .second, .val (.int p2), .val (.long nn), .second, .unset, .unset, .unset, .unset, .unset]) rfl ?_
    show Steps p.tables e below (s₁.setTop (mkF m 7 #[.val (.long q0), .second, .val (.long q1), .second, .val (.int p2), .val (.long nn), .second, .unset, .unset, .unset, .unset, .unset] [])) _
    refine XS.lconst Y0.here hx rfl (hb hby at_7) ?_
    show Steps p.tables e below (s₁.setTop (mkF m 8 #[.val (.long q0), .second, .val (.long q1), .second, .val (.int p2), .val (.long nn), .second, .unset, .unset, .unset, .unset, .unset] [(.long (1 : Int64))])) _
    refine XS.lloadN Y0.here hx rfl (hb hby at_8) rfl ?_
    show Steps p.tables e below (s₁.setTop (mkF m 9 #[.val (.long q0), .second, .val (.long q1), .second, .val (.int p2), .val (.long nn), .second, .unset, .unset, .unset, .unset, .unset] [(.long q1), (.long (1 : Int64))])) _
    refine Y0.ldc2Long hx hown (mvT hZ (hw _ (List.mem_of_getElem? (i := 1) rfl))) (g := (mkF m 9 #[.val (.long q0), .second, .val (.long q1), .second, .val (.int p2), .val (.long nn), .second, .unset, .unset, .unset, .unset, .unset] [(.long q1), (.long (1 : Int64))])) rfl (hb hby at_9) _ ?_
    show Steps p.tables e below (s₁.setTop (mkF m 12 #[.val (.long q0), .second, .val (.long q1), .second, .val (.int p2), .val (.long nn), .second, .unset, .unset, .unset, .unset, .unset] [(.long (9223372036854775807 : Int64)), (.long q1), (.long (1 : Int64))])) _
    refine XS.land Y0.here hx rfl (hb hby at_12) rfl ?_
    show Steps p.tables e below (s₁.setTop (mkF m 13 #[.val (.long q0), .second, .val (.long q1), .second, .val (.int p2), .val (.long nn), .second, .unset, .unset, .unset, .unset, .unset] [(.long (q1 &&& (9223372036854775807 : Int64))), (.long (1 : Int64))])) _
    refine st1 _ ?_
    show Steps p.tables e below (T1.setTop (mkF m 16 #[.val (.long q0), .second, .val (.long q1), .second, .val (.int p2), .val (.long nn), .second, .unset, .unset, .unset, .unset, .unset] [(.long (if (1 : Int64) < (q1 &&& (9223372036854775807 : Int64)) then (q1 &&& (9223372036854775807 : Int64)) else (1 : Int64)))])) _
    rw [hdd]
    show Steps p.tables e below (T1.setTop (mkF m 16 #[.val (.long q0), .second, .val (.long q1), .second, .val (.int p2), .val (.long nn), .second, .unset, .unset, .unset, .unset, .unset] [(.long dd)])) _
    refine XS.lstore X1.here hx rfl (hb hby at_16) rfl (l' := #[.val (.long q0), .second, .val (.long q1), .second, .val (.int p2), .val (.long nn), .second, .val (.long dd), .second, .unset, .unset, .unset]) rfl ?_
    show Steps p.tables e below (T1.setTop (mkF m 18 #[.val (.long q0), .second, .val (.long q1), .second, .val (.int p2), .val (.long nn), .second, .val (.long dd), .second, .unset, .unset, .unset] [])) _
    refine st2 _ ?_
    show Steps p.tables e below (T2.setTop (mkF m 21 #[.val (.long q0), .second, .val (.long q1), .second, .val (.int p2), .val (.long nn), .second, .val (.long dd), .second, .unset, .unset, .unset] [(.ref b2)])) _
    refine XS.dup X2.here hx rfl (hb hby at_21) rfl rfl ?_
    show Steps p.tables e below (T2.setTop (mkF m 22 #[.val (.long q0), .second, .val (.long q1), .second, .val (.int p2), .val (.long nn), .second, .val (.long dd), .second, .unset, .unset, .unset] [(.ref b2), (.ref b2)])) _
    refine XS.lload X2.here hx rfl (hb hby at_22) rfl ?_
    show Steps p.tables e below (T2.setTop (mkF m 24 #[.val (.long q0), .second, .val (.long q1), .second, .val (.int p2), .val (.long nn), .second, .val (.long dd), .second, .unset, .unset, .unset] [(.long nn), (.ref b2), (.ref b2)])) _
    refine XS.lload X2.here hx rfl (hb hby at_24) rfl ?_
    show Steps p.tables e below (T2.setTop (mkF m 26 #[.val (.long q0), .second, .val (.long q1), .second, .val (.int p2), .val (.long nn), .second, .val (.long dd), .second, .unset, .unset, .unset] [(.long dd), (.long nn), (.ref b2), (.ref b2)])) _
    refine st3.trans ?_
    show Steps p.tables e below (T3.setTop (mkF m 29 #[.val (.long q0), .second, .val (.long q1), .second, .val (.int p2), .val (.long nn), .second, .val (.long dd), .second, .unset, .unset, .unset] [(.ref b2)])) _
    refine XS.astore X3.here hx rfl (hb hby at_29) rfl rfl (l' := #[.val (.long q0), .second, .val (.long q1), .second, .val (.int p2), .val (.long nn), .second, .val (.long dd), .second, .val (.ref b2), .unset, .unset]) rfl ?_
    show Steps p.tables e below (T3.setTop (mkF m 31 #[.val (.long q0), .second, .val (.long q1), .second, .val (.int p2), .val (.long nn), .second, .val (.long dd), .second, .val (.ref b2), .unset, .unset] [])) _
    refine st4 _ ?_
    show Steps p.tables e below (T4.setTop (mkF m 34 #[.val (.long q0), .second, .val (.long q1), .second, .val (.int p2), .val (.long nn), .second, .val (.long dd), .second, .val (.ref b2), .unset, .unset] [(.ref b4)])) _
    refine XS.dup X4.here hx rfl (hb hby at_34) rfl rfl ?_
    show Steps p.tables e below (T4.setTop (mkF m 35 #[.val (.long q0), .second, .val (.long q1), .second, .val (.int p2), .val (.long nn), .second, .val (.long dd), .second, .val (.ref b2), .unset, .unset] [(.ref b4), (.ref b4)])) _
    refine st5 _ ?_
    show Steps p.tables e below (T5.setTop (mkF m 37 #[.val (.long q0), .second, .val (.long q1), .second, .val (.int p2), .val (.long nn), .second, .val (.long dd), .second, .val (.ref b2), .unset, .unset] [(.ref a5), (.ref b4), (.ref b4)])) _
    refine XS.aload X5.here hx rfl (hb hby at_37) rfl rfl ?_
    show Steps p.tables e below (T5.setTop (mkF m 39 #[.val (.long q0), .second, .val (.long q1), .second, .val (.int p2), .val (.long nn), .second, .val (.long dd), .second, .val (.ref b2), .unset, .unset] [(.ref b2), (.ref a5), (.ref b4), (.ref b4)])) _
    refine st9.trans ?_
    show Steps p.tables e below (T9.setTop (mkF m 42 #[.val (.long q0), .second, .val (.long q1), .second, .val (.int p2), .val (.long nn), .second, .val (.long dd), .second, .val (.ref b2), .unset, .unset] [(.ref b4)])) _
    refine XS.astore X9.here hx rfl (hb hby at_42) rfl rfl (l' := #[.val (.long q0), .second, .val (.long q1), .second, .val (.int p2), .val (.long nn), .second, .val (.long dd), .second, .val (.ref b2), .val (.ref b4), .unset]) rfl ?_
    show Steps p.tables e below (T9.setTop (mkF m 44 #[.val (.long q0), .second, .val (.long q1), .second, .val (.int p2), .val (.long nn), .second, .val (.long dd), .second, .val (.ref b2), .val (.ref b4), .unset] [])) _
    refine XS.aload X9.here hx rfl (hb hby at_44) rfl rfl ?_
    show Steps p.tables e below (T9.setTop (mkF m 46 #[.val (.long q0), .second, .val (.long q1), .second, .val (.int p2), .val (.long nn), .second, .val (.long dd), .second, .val (.ref b2), .val (.ref b4), .unset] [(.ref b4)])) _
    refine XS.iload X9.here hx rfl (hb hby at_46) rfl ?_
    show Steps p.tables e below (T9.setTop (mkF m 48 #[.val (.long q0), .second, .val (.long q1), .second, .val (.int p2), .val (.long nn), .second, .val (.long dd), .second, .val (.ref b2), .val (.ref b4), .unset] [(.int p2), (.ref b4)])) _
    refine st13.trans ?_
    show Steps p.tables e below (T13.setTop (mkF m 51 #[.val (.long q0), .second, .val (.long q1), .second, .val (.int p2), .val (.long nn), .second, .val (.long dd), .second, .val (.ref b2), .val (.ref b4), .unset] [(.int (if dd < (nn * (p2.toInt64)) then (0 : Int32) else (1 : Int32)))])) _
    refine XS.istore X13.here hx rfl (hb hby at_51) rfl (l' := #[.val (.long q0), .second, .val (.long q1), .second, .val (.int p2), .val (.long nn), .second, .val (.long dd), .second, .val (.ref b2), .val (.ref b4), .val (.int (if dd < (nn * (p2.toInt64)) then (0 : Int32) else (1 : Int32)))]) rfl ?_
    show Steps p.tables e below (T13.setTop (mkF m 53 #[.val (.long q0), .second, .val (.long q1), .second, .val (.int p2), .val (.long nn), .second, .val (.long dd), .second, .val (.ref b2), .val (.ref b4), .val (.int (if dd < (nn * (p2.toInt64)) then (0 : Int32) else (1 : Int32)))] [])) _
    refine XS.iload X13.here hx rfl (hb hby at_53) rfl ?_
    show Steps p.tables e below (T13.setTop (mkF m 55 #[.val (.long q0), .second, .val (.long q1), .second, .val (.int p2), .val (.long nn), .second, .val (.long dd), .second, .val (.ref b2), .val (.ref b4), .val (.int (if dd < (nn * (p2.toInt64)) then (0 : Int32) else (1 : Int32)))] [(.int (if dd < (nn * (p2.toInt64)) then (0 : Int32) else (1 : Int32)))])) _
    refine XS.lload X13.here hx rfl (hb hby at_55) rfl ?_
    show Steps p.tables e below (T13.setTop (mkF m 57 #[.val (.long q0), .second, .val (.long q1), .second, .val (.int p2), .val (.long nn), .second, .val (.long dd), .second, .val (.ref b2), .val (.ref b4), .val (.int (if dd < (nn * (p2.toInt64)) then (0 : Int32) else (1 : Int32)))] [(.long nn), (.int (if dd < (nn * (p2.toInt64)) then (0 : Int32) else (1 : Int32)))])) _
    refine XS.lload X13.here hx rfl (hb hby at_57) rfl ?_
    show Steps p.tables e below (T13.setTop (mkF m 59 #[.val (.long q0), .second, .val (.long q1), .second, .val (.int p2), .val (.long nn), .second, .val (.long dd), .second, .val (.ref b2), .val (.ref b4), .val (.int (if dd < (nn * (p2.toInt64)) then (0 : Int32) else (1 : Int32)))] [(.long dd), (.long nn), (.int (if dd < (nn * (p2.toInt64)) then (0 : Int32) else (1 : Int32)))])) _
    refine XS.iload X13.here hx rfl (hb hby at_59) rfl ?_
    show Steps p.tables e below (T13.setTop (mkF m 61 #[.val (.long q0), .second, .val (.long q1), .second, .val (.int p2), .val (.long nn), .second, .val (.long dd), .second, .val (.ref b2), .val (.ref b4), .val (.int (if dd < (nn * (p2.toInt64)) then (0 : Int32) else (1 : Int32)))] [(.int p2), (.long dd), (.long nn), (.int (if dd < (nn * (p2.toInt64)) then (0 : Int32) else (1 : Int32)))])) _
    refine st14 _ ?_
    show Steps p.tables e below (T14.setTop (mkF m 64 #[.val (.long q0), .second, .val (.long q1), .second, .val (.int p2), .val (.long nn), .second, .val (.long dd), .second, .val (.ref b2), .val (.ref b4), .val (.int (if dd < (nn * (p2.toInt64)) then (0 : Int32) else (1 : Int32)))] [(.int (if (0 : Int32) < p2 then (if (dd / (p2.toInt64)) < nn then (0 : Int32) else (1 : Int32)) else (1 : Int32))), (.int (if dd < (nn * (p2.toInt64)) then (0 : Int32) else (1 : Int32)))])) _
    refine XS.icmpNo X14.here hx rfl (hb hby at_64) rfl (teq (own_fin nn dd p2 hn0 hn1 hd0)).2 ?_
    show Steps p.tables e below (T14.setTop (mkF m 67 #[.val (.long q0), .second, .val (.long q1), .second, .val (.int p2), .val (.long nn), .second, .val (.long dd), .second, .val (.ref b2), .val (.ref b4), .val (.int (if dd < (nn * (p2.toInt64)) then (0 : Int32) else (1 : Int32)))] [])) _
    refine XS.iconst X14.here hx rfl (hb hby at_67) ?_
    show Steps p.tables e below (T14.setTop (mkF m 68 #[.val (.long q0), .second, .val (.long q1), .second, .val (.int p2), .val (.long nn), .second, .val (.long dd), .second, .val (.ref b2), .val (.ref b4), .val (.int (if dd < (nn * (p2.toInt64)) then (0 : Int32) else (1 : Int32)))] [(.int (1 : Int32))])) _
    refine XS.goto X14.here hx rfl (pc0 := 68) (pc' := 72) rfl (hb hby at_68) (by decide) (by decide) ?_
    show Steps p.tables e below (T14.setTop (mkF m 72 #[.val (.long q0), .second, .val (.long q1), .second, .val (.int p2), .val (.long nn), .second, .val (.long dd), .second, .val (.ref b2), .val (.ref b4), .val (.int (if dd < (nn * (p2.toInt64)) then (0 : Int32) else (1 : Int32)))] [(.int (1 : Int32))])) _
    exact retN X14 hx (t := .boolean) Bd.returns (by simp) (hb hby at_72) hr
  · have eF : (T14.setFrames fs).heap = T9.heap := e14
    exact ⟨N14, rfl⟩
  · have eF : (T14.setFrames fs).heap = T9.heap := e14
    have crF := cr9.trans (CHv.at X14 hZ9 hEL hC9)
    rw [hh, eF]
    exact crF
set_option maxRecDepth 65536 in
set_option maxHeartbeats 40000000 in
theorem comes_1 {Post : Tables → Env → Array Value → State → Outcome → State → Prop} (hpost : ∀ tb e args s v u, (limb_1_1.after args s (.returned v) u = true ∧ limb_1_2.after args s (.returned v) u = true ∧ True) → ReturnedEndW s (.returned v) u (Jvm.fieldLocs frame_1_writes args s ++ Jvm.arrayLocs frame_1_arrays args s ++ Jvm.staticLocs frame_1_statics s) 24 6272 → Post tb e args s (.returned v) u) :
    ArmFor flags0 classFile x code maxLocals ret World_1 tables_1 room_1 Calls_1 rest_1 Pre_1 Post := by
  intro l hfl _ _ p e ha hc hk s m args below hf hA hF happ hP
  obtain ⟨hcalls, hrest, hpre⟩ := hP
  obtain ⟨-, -, -, hnamed, -, -, -, hat⟩ := (Spec.applies_iff hf).mp happ
  obtain ⟨hg, hn⟩ := and_e (Cond.before_iff.mp (show (Jvm.Cond.and given_1 narrow_1).before args s = true from hpre))
  obtain ⟨ga1, gb1⟩ := and_e hg
  obtain ⟨ga2, gb2⟩ := and_e gb1
  obtain ⟨ga3, gb3⟩ := and_e gb2
  obtain ⟨w0, w1, w2, rfl⟩ : ∃ w0 w1 w2 : Value, args = #[w0, w1, w2] := by
    have hs : args.size = 3 := by simpa [Cond.value, given_1] using ga1
    obtain ⟨L⟩ := args
    match L, hs with
    | [w0, w1, w2], _ => exact ⟨w0, w1, w2, rfl⟩
  have hw := fun d (hd : d ∈ tables_1) => atoms_spec (ws := Jvm.Cond.code x code maxLocals ret :: tables_1) hat d (List.mem_cons_of_mem _ hd)
  have hfit : Fit s := fun {y c} hc i hi => by
    obtain ⟨ha, rfl⟩ := Array.getElem?_eq_some_iff.mp hc
    have q := List.all_eq_true.mp ((Array.all_eq_true_iff_forall_mem.mp hF) _ (Array.getElem_mem ha)) i (List.mem_range.mpr hi)
    simpa [Array.getElem?_eq_getElem hi] using q
  obtain ⟨i0, ei0⟩ := isL_v ga2
  obtain rfl : w0 = (.long i0) := Option.some.inj ei0
  obtain ⟨i1, ei1⟩ := isL_v ga3
  obtain rfl : w1 = (.long i1) := Option.some.inj ei1
  obtain ⟨i2, ei2⟩ := is_v gb3
  obtain rfl : w2 = (.int i2) := Option.some.inj ei2
  obtain ⟨hsets, hown0⟩ := atoms_of _ (rest_1_c_eq ▸ (show rest_1_c.before _ s = true from hrest))
  obtain ⟨i_COMPACT_STRINGS, ev_i_COMPACT_STRINGS⟩ := is_v (Cond.before_iff.mp (hsets _ (List.mem_of_getElem? (i := 1) rfl)))
  have nz_i_COMPACT_STRINGS : ¬ i_COMPACT_STRINGS = (0 : Int32) := own_neI (Cond.before_iff.mp (hsets _ (List.mem_of_getElem? (i := 2) rfl))) ev_i_COMPACT_STRINGS
  obtain ⟨w_instance, ev_w_instance⟩ := exa_v (Cond.before_iff.mp (hsets _ (List.mem_of_getElem? (i := 11) rfl)))
  have E_w_instance : Exa s s.heap w_instance "java/lang/CharacterDataLatin1" := Exa.start ev_w_instance (Cond.before_iff.mp (hsets _ (List.mem_of_getElem? (i := 11) rfl)))
  obtain ⟨w_A, ev_w_A⟩ := arr_v (Cond.before_iff.mp (hsets _ (List.mem_of_getElem? (i := 14) rfl)))
  obtain ⟨cl_w_A, A_w_A⟩ := Arr.start ev_w_A (Cond.before_iff.mp (hsets _ (List.mem_of_getElem? (i := 14) rfl)))
  have E_w_A : Exa s s.heap w_A "[I" := Exa.start ev_w_A (Cond.before_iff.mp (hsets _ (List.mem_of_getElem? (i := 15) rfl)))
  have ev1 := own_eqI (Cond.before_iff.mp (hsets _ (List.mem_of_getElem? (i := 16) rfl)))
  have ev2 := own_eqI (Cond.before_iff.mp (hsets _ (List.mem_of_getElem? (i := 70) rfl)))
  have S_String_COMPACT_STRINGS : Sta s s.heap "java/lang/String" "COMPACT_STRINGS" "Z" (.int i_COMPACT_STRINGS) := Sta.start ev_i_COMPACT_STRINGS (Or.inl (Cond.before_iff.mpr (Cond.before_iff.mp (hsets _ (List.mem_of_getElem? (i := 0) rfl)))))
  have S_CharacterDataLatin1_instance : Sta s s.heap "java/lang/CharacterDataLatin1" "instance" "Ljava/lang/CharacterDataLatin1;" (.ref w_instance) := Sta.start ev_w_instance (Or.inl (Cond.before_iff.mpr (Cond.before_iff.mp (hsets _ (List.mem_of_getElem? (i := 10) rfl)))))
  have S_CharacterDataLatin1_A : Sta s s.heap "java/lang/CharacterDataLatin1" "A" "[I" (.ref w_A) := Sta.start ev_w_A (Or.inl (Cond.before_iff.mpr (Cond.before_iff.mp (hsets _ (List.mem_of_getElem? (i := 13) rfl)))))
  have Lq_A := own_len ev_w_A A_w_A ev1
  have Ta : owTab s w_A := ⟨cl_w_A, A_w_A, by have q := len_toInt Lq_A.1; rw [Lq_A.2] at q; have q' : (256 : Int) = cl_w_A.slots.size := q; omega, own_el ev_w_A A_w_A ev2⟩
  have W : OwW s i_COMPACT_STRINGS w_instance w_A := ⟨nz_i_COMPACT_STRINGS, E_w_instance, E_w_A, S_String_COMPACT_STRINGS, S_CharacterDataLatin1_instance, S_CharacterDataLatin1_A, Ta, trivial⟩
  have fin : OwConH l x code maxLocals ret tables_1 room_1 #[(.long i0), (.long i1), (.int i2)] s s.heap consts_1 (OwP (fun v _ => v = some (.int 1)) s.heap.size) := by
    exact rm0 l s _ hw tables_1 s.heap.size s.heap (Old.start s) i_COMPACT_STRINGS w_instance w_A W i0 i1 i2 _ _ rfl rfl (own_n0 i0) (own_n1 i0) (own_d0 _)
  obtain ⟨n, o, h1, h2, h3, _, L, rfl, ⟨N, rfl⟩, -, hq⟩ := fin p e ha hc hk s m _ below hf ((Spec.applies_iff_loose hf).mp happ).1 ⟨rfl, State.Warmed39.refl s, rfl, CHv.start (own_EW hw) (fun p hp => hcalls.1 p hp) (hsets _ (List.mem_of_getElem? (i := 2) rfl)) (hw _ (List.mem_of_getElem? (i := 30) rfl)) (hw _ (List.mem_of_getElem? (i := 29) rfl))⟩ trivial
  refine ⟨n, _, h1, h2, h3, hpost _ _ _ _ _ _ ⟨Cond.after_iff.mpr rfl, Cond.after_iff.mpr (eq_i res_at (Term.int_eval (1)) rfl), trivial⟩ ⟨hq.1, hq.2.1, hq.2.2.1, (hq.2.2.2.sift fun y hy => Or.inr (N y hy)).mono (by decide) (by decide)⟩⟩
theorem main_1_1 : Claimed_1_1 := comes_1 fun _ _ _ _ _ _ h hF => ⟨h.1, hF⟩
theorem main_1_2 : Claimed_1_2 := comes_1 fun _ _ _ _ _ _ h hF => ⟨h.2.1, hF⟩
end Jvm.Pilot.@@N@@
namespace Jvm.Pilot.@@N@@
open Jvm Jvm.ClassFile Sem Op Lib Jvm.Free Jvm.Stand Jvm.Pilot.@@N@@.Jvm.D
/-! MADE BY PROGRAM (witnessworld.py) out of the Statement's table words and the real class files: 24 classes; the members and pool entries that the words name. The judged class is class 1, her method 1. -/
namespace start1
open Jvm.ClassFile
def u (s : String) : CpInfo := .utf8 (stringToUtf16 s)
/-- a pool by its gaps: so many unusable entries, then the entry; so many at the end -/
def gap : Nat → List CpInfo → List CpInfo
  | 0, r => r
  | n + 1, r => .unusable :: gap n r
def poolList (es : List (Nat × CpInfo)) (last : Nat) : List CpInfo := es.foldr (fun e r => gap e.1 (e.2 :: r)) (gap last [])
def pool (es : List (Nat × CpInfo)) (last : Nat) : Array CpInfo := ⟨poolList es last⟩
def fileOf (pool : Array CpInfo) (this : Nat) (attrs : Array Attribute := #[]) (ms : Array MethodInfo := #[]) (fl : Nat := 33) (sup : Nat := 0) (ifs : Array Nat := #[]) (fds : Array FieldInfo := #[]) : ClassFile where
  minorVersion := 0
  majorVersion := 65
  constantPool := pool
  accessFlags := fl
  thisClass := this
  superClass := sup
  interfaces := ifs
  fields := fds
  methods := ms
  attributes := attrs
def plain (name : String) (sup : Option ClassId) : Class where
  name := name
  kind := .ordinary
  loader := none
  accessFlags := 33
  super := sup
  interfaces := #[]
  cf := none
  fields := #[]
  methods := #[]
  instanceTypes := #[]
  staticTypes := #[]
  resolved := #[]
  callSites := []
  init := .initialized
  statics := none
  mirror := none

def pool0 : Array CpInfo := pool [(5, u "<init>"), (0, u "()V"), (1, .class_ 10), (1, u "java/lang/Object")] 113

def k0c0 : Code := { maxStack := 0, maxLocals := 1, code := object_method_1_code, exceptionTable := #[], attributes := #[] }
def k0m0 : Method := { name := "<init>", desc := "()V", sig := { parameters := [], returnType := none }, accessFlags := 1, code := some k0c0 }
/-- java/lang/Object -/
def k0 : Class := { plain "java/lang/Object" none with
  accessFlags := 33
  interfaces := #[]
  cf := some (fileOf pool0 8 #[] #[{ accessFlags := 1, nameIndex := 5, descriptorIndex := 6, attributes := #[] }] 33 0 #[] #[])
  fields := #[]
  methods := #[k0m0]
  instanceTypes := #[]
  staticTypes := #[]
  resolved := Array.replicate 124 none
  statics := none }

def pool1 : Array CpInfo := pool [(2, .class_ 4), (1, u "java/lang/Object"), (0, u "<init>"), (0, u "()V"), (0, .long 2147483647), (3, .long 9223372036854775807), (1, .methodref 14 15), (0, .class_ 16), (0, .nameAndType 17 18), (0, u "java/lang/Math"), (0, u "max"), (0, u "(JJ)J"), (0, .class_ 20), (0, u "com/example/vestwright/vestwright/plan/Plan$Fraction"), (0, .methodref 19 22), (0, .nameAndType 5 23), (0, u "(JJ)V"), (0, .class_ 25), (0, u "com/example/vestwright/vestwright/plan/Plan$EarlyReduction$PerMonth"), (0, .string 27), (0, u "5.03"), (0, .methodref 24 29), (0, .nameAndType 5 30), (0, u "(Ljava/lang/String;Lcom/example/vestwright/vestwright/plan/Plan$Fraction;)V"), (0, .methodref 24 32), (0, .nameAndType 33 34), (0, u "reachesMonthsEarly"), (0, u "(I)Z"), (0, .methodref 36 37), (0, .class_ 38), (0, .nameAndType 39 40), (0, u "com/example/vestwright/vestwright/plan/PlanReachesMonthsEarlyPinLaw"), (0, u "expected"), (0, u "(JJI)Z"), (2, u "law")] 11

def k1m0 : Method := { name := "<init>", desc := "()V", sig := { parameters := [], returnType := none }, accessFlags := 1, code := none }
def k1c1 : Code := { maxStack := 6, maxLocals := 12, code := code, exceptionTable := #[], attributes := #[] }
def k1m1 : Method := { name := "law", desc := "(JJI)Z", sig := { parameters := [.long, .long, .int], returnType := some .boolean }, accessFlags := 9, code := some k1c1 }
def k1c2 : Code := { maxStack := 6, maxLocals := 7, code := method_3_code, exceptionTable := #[], attributes := #[] }
def k1m2 : Method := { name := "expected", desc := "(JJI)Z", sig := { parameters := [.long, .long, .int], returnType := some .boolean }, accessFlags := 10, code := some k1c2 }
/-- com/example/vestwright/vestwright/plan/PlanReachesMonthsEarlyPinLaw -/
def k1 : Class := { plain "com/example/vestwright/vestwright/plan/PlanReachesMonthsEarlyPinLaw" (some 0) with
  accessFlags := 49
  interfaces := #[]
  cf := some (fileOf pool1 36 #[] #[{ accessFlags := 1, nameIndex := 5, descriptorIndex := 6, attributes := #[] }, { accessFlags := 9, nameIndex := 43, descriptorIndex := 40, attributes := #[] }, { accessFlags := 10, nameIndex := 39, descriptorIndex := 40, attributes := #[] }] 49 2 #[] #[])
  fields := #[]
  methods := #[k1m0, k1m1, k1m2]
  instanceTypes := #[]
  staticTypes := #[]
  resolved := Array.replicate 55 none
  statics := none }

def pool2 : Array CpInfo := pool [(1, .class_ 2), (0, u "java/lang/Math"), (1, .class_ 6), (1, u "java/lang/Object"), (0, u "<init>"), (0, u "()V"), (89, .class_ 100), (1, u "java/lang/Math$RandomNumberGeneratorHolder"), (20, u "(JJ)J"), (50, u "negativeZeroFloatBits"), (0, u "J"), (2, u "negativeZeroDoubleBits"), (21, u "max"), (46, u "$assertionsDisabled"), (0, u "Z"), (91, u "twoToTheDoubleScaleDown"), (0, u "D"), (4, u "twoToTheDoubleScaleUp"), (9, u "E"), (3, u "PI"), (2, u "TAU"), (2, u "DEGREES_TO_RADIANS"), (0, u "RADIANS_TO_DEGREES")] 94

def k2m0 : Method := { name := "<init>", desc := "()V", sig := { parameters := [], returnType := none }, accessFlags := 2, code := none }
def k2c1 : Code := { maxStack := 4, maxLocals := 4, code := jdk_29_method_66_code, exceptionTable := #[], attributes := #[] }
def k2m1 : Method := { name := "max", desc := "(JJ)J", sig := { parameters := [.long, .long], returnType := some .long }, accessFlags := 9, code := some k2c1 }
/-- java/lang/Math -/
def k2 : Class := { plain "java/lang/Math" (some 0) with
  accessFlags := 49
  interfaces := #[]
  cf := some (fileOf pool2 1 #[.nestMembers #[98]] #[{ accessFlags := 2, nameIndex := 7, descriptorIndex := 8, attributes := #[] }, { accessFlags := 9, nameIndex := 198, descriptorIndex := 121, attributes := #[] }] 49 4 #[] #[{ accessFlags := 25, nameIndex := 354, descriptorIndex := 339, attributes := #[] }, { accessFlags := 25, nameIndex := 358, descriptorIndex := 339, attributes := #[] }, { accessFlags := 25, nameIndex := 361, descriptorIndex := 339, attributes := #[] }, { accessFlags := 26, nameIndex := 364, descriptorIndex := 339, attributes := #[] }, { accessFlags := 26, nameIndex := 365, descriptorIndex := 339, attributes := #[] }, { accessFlags := 26, nameIndex := 172, descriptorIndex := 173, attributes := #[] }, { accessFlags := 26, nameIndex := 176, descriptorIndex := 173, attributes := #[] }, { accessFlags := 8, nameIndex := 344, descriptorIndex := 339, attributes := #[] }, { accessFlags := 8, nameIndex := 338, descriptorIndex := 339, attributes := #[] }, { accessFlags := 4120, nameIndex := 245, descriptorIndex := 246, attributes := #[] }])
  fields := #[{ name := "E", type := .double, accessFlags := 25, slot := 0, constantValue := 0 }, { name := "PI", type := .double, accessFlags := 25, slot := 1, constantValue := 0 }, { name := "TAU", type := .double, accessFlags := 25, slot := 2, constantValue := 0 }, { name := "DEGREES_TO_RADIANS", type := .double, accessFlags := 26, slot := 3, constantValue := 0 }, { name := "RADIANS_TO_DEGREES", type := .double, accessFlags := 26, slot := 4, constantValue := 0 }, { name := "negativeZeroFloatBits", type := .long, accessFlags := 26, slot := 5, constantValue := 0 }, { name := "negativeZeroDoubleBits", type := .long, accessFlags := 26, slot := 6, constantValue := 0 }, { name := "twoToTheDoubleScaleUp", type := .double, accessFlags := 8, slot := 7, constantValue := 0 }, { name := "twoToTheDoubleScaleDown", type := .double, accessFlags := 8, slot := 8, constantValue := 0 }, { name := "$assertionsDisabled", type := .boolean, accessFlags := 4120, slot := 9, constantValue := 0 }]
  methods := #[k2m0, k2m1]
  instanceTypes := #[]
  staticTypes := #[.double, .double, .double, .double, .double, .long, .long, .double, .double, .boolean]
  resolved := Array.replicate 460 none
  statics := none }

def pool3 : Array CpInfo := pool [(1, .methodref 2 3), (0, .class_ 4), (0, .nameAndType 5 6), (0, u "java/lang/Object"), (0, u "<init>"), (0, u "()V"), (0, .class_ 8), (0, u "java/lang/Record")] 13

def k3c0 : Code := { maxStack := 1, maxLocals := 1, code := jdk_30_method_1_code, exceptionTable := #[], attributes := #[] }
def k3m0 : Method := { name := "<init>", desc := "()V", sig := { parameters := [], returnType := none }, accessFlags := 4, code := some k3c0 }
/-- java/lang/Record -/
def k3 : Class := { plain "java/lang/Record" (some 0) with
  accessFlags := 1057
  interfaces := #[]
  cf := some (fileOf pool3 7 #[] #[{ accessFlags := 4, nameIndex := 5, descriptorIndex := 6, attributes := #[] }] 1057 2 #[] #[])
  fields := #[]
  methods := #[k3m0]
  instanceTypes := #[]
  staticTypes := #[]
  resolved := Array.replicate 22 none
  statics := none }

def pool4 : Array CpInfo := pool [(1, .methodref 2 3), (0, .class_ 4), (0, .nameAndType 5 6), (0, u "java/lang/Record"), (0, u "<init>"), (0, u "()V"), (9, .fieldref 17 18), (0, .class_ 19), (0, .nameAndType 20 21), (0, u "com/example/vestwright/vestwright/plan/Plan$Fraction"), (0, u "numerator"), (0, u "J"), (0, .fieldref 17 23), (0, .nameAndType 24 21), (0, u "denominator"), (12, u "(JJ)V"), (7, u "()J"), (3, .class_ 50), (0, u "com/example/vestwright/vestwright/plan/Plan")] 28

def k4c0 : Code := { maxStack := 6, maxLocals := 5, code := prog_49_method_1_code, exceptionTable := #[], attributes := #[] }
def k4m0 : Method := { name := "<init>", desc := "(JJ)V", sig := { parameters := [.long, .long], returnType := none }, accessFlags := 1, code := some k4c0 }
def k4c1 : Code := { maxStack := 2, maxLocals := 1, code := prog_49_method_5_code, exceptionTable := #[], attributes := #[] }
def k4m1 : Method := { name := "numerator", desc := "()J", sig := { parameters := [], returnType := some .long }, accessFlags := 1, code := some k4c1 }
def k4c2 : Code := { maxStack := 2, maxLocals := 1, code := prog_49_method_6_code, exceptionTable := #[], attributes := #[] }
def k4m2 : Method := { name := "denominator", desc := "()J", sig := { parameters := [], returnType := some .long }, accessFlags := 1, code := some k4c2 }
/-- com/example/vestwright/vestwright/plan/Plan$Fraction -/
def k4 : Class := { plain "com/example/vestwright/vestwright/plan/Plan$Fraction" (some 3) with
  accessFlags := 49
  interfaces := #[]
  cf := some (fileOf pool4 17 #[.nestHost 49] #[{ accessFlags := 1, nameIndex := 5, descriptorIndex := 37, attributes := #[] }, { accessFlags := 1, nameIndex := 20, descriptorIndex := 45, attributes := #[] }, { accessFlags := 1, nameIndex := 24, descriptorIndex := 45, attributes := #[] }] 49 2 #[] #[{ accessFlags := 18, nameIndex := 20, descriptorIndex := 21, attributes := #[] }, { accessFlags := 18, nameIndex := 24, descriptorIndex := 21, attributes := #[] }])
  fields := #[{ name := "numerator", type := .long, accessFlags := 18, slot := 0, constantValue := 0 }, { name := "denominator", type := .long, accessFlags := 18, slot := 1, constantValue := 0 }]
  methods := #[k4m0, k4m1, k4m2]
  instanceTypes := #[.long, .long]
  staticTypes := #[]
  resolved := Array.replicate 79 none
  statics := none }

def pool5 : Array CpInfo := pool [(1, .class_ 2), (0, u "com/example/vestwright/vestwright/plan/Plan$EarlyReduction"), (0, .class_ 4), (0, u "java/lang/Object"), (7, .class_ 13), (0, u "com/example/vestwright/vestwright/plan/Plan")] 9

/-- com/example/vestwright/vestwright/plan/Plan$EarlyReduction -/
def k5 : Class := { plain "com/example/vestwright/vestwright/plan/Plan$EarlyReduction" (some 0) with
  accessFlags := 1537
  interfaces := #[]
  cf := some (fileOf pool5 1 #[.nestHost 12] #[] 1537 3 #[] #[])
  fields := #[]
  methods := #[]
  instanceTypes := #[]
  staticTypes := #[]
  resolved := Array.replicate 23 none
  statics := none }

def pool6 : Array CpInfo := pool [(1, .methodref 2 3), (0, .class_ 4), (0, .nameAndType 5 6), (0, u "java/lang/Record"), (0, u "<init>"), (0, u "()V"), (0, .methodref 8 9), (0, .class_ 10), (0, .nameAndType 11 12), (0, u "com/example/vestwright/vestwright/plan/Plan"), (0, u "requireSection"), (0, u "(Ljava/lang/String;)V"), (0, .string 14), (0, u "rate_per_month"), (0, .methodref 8 16), (0, .nameAndType 17 18), (0, u "require"), (0, u "(Ljava/lang/Object;Ljava/lang/String;)Ljava/lang/Object;"), (0, .fieldref 20 21), (0, .class_ 22), (0, .nameAndType 23 24), (0, u "com/example/vestwright/vestwright/plan/Plan$EarlyReduction$PerMonth"), (0, u "section"), (0, u "Ljava/lang/String;"), (0, .fieldref 20 26), (0, .nameAndType 27 28), (0, u "ratePerMonth"), (0, u "Lcom/example/vestwright/vestwright/plan/Plan$Fraction;"), (0, .methodref 30 31), (0, .class_ 32), (0, .nameAndType 33 34), (0, u "com/example/vestwright/vestwright/plan/Plan$Fraction"), (0, u "numerator"), (0, u "()J"), (0, .methodref 30 36), (0, .nameAndType 37 34), (0, u "denominator"), (12, .class_ 51), (0, u "com/example/vestwright/vestwright/plan/Plan$EarlyReduction"), (0, u "(Ljava/lang/String;Lcom/example/vestwright/vestwright/plan/Plan$Fraction;)V"), (3, u "reachesMonthsEarly"), (0, u "(I)Z")] 30

def k6c0 : Code := { maxStack := 2, maxLocals := 3, code := prog_44_method_1_code, exceptionTable := #[], attributes := #[] }
def k6m0 : Method := { name := "<init>", desc := "(Ljava/lang/String;Lcom/example/vestwright/vestwright/plan/Plan$Fraction;)V", sig := { parameters := [(.object "java/lang/String"), (.object "com/example/vestwright/vestwright/plan/Plan$Fraction")], returnType := none }, accessFlags := 1, code := some k6c0 }
def k6c1 : Code := { maxStack := 4, maxLocals := 2, code := prog_44_method_2_code, exceptionTable := #[], attributes := #[] }
def k6m1 : Method := { name := "reachesMonthsEarly", desc := "(I)Z", sig := { parameters := [.int], returnType := some .boolean }, accessFlags := 1, code := some k6c1 }
/-- com/example/vestwright/vestwright/plan/Plan$EarlyReduction$PerMonth -/
def k6 : Class := { plain "com/example/vestwright/vestwright/plan/Plan$EarlyReduction$PerMonth" (some 3) with
  accessFlags := 49
  interfaces := #[5]
  cf := some (fileOf pool6 20 #[.nestHost 8] #[{ accessFlags := 1, nameIndex := 5, descriptorIndex := 52, attributes := #[] }, { accessFlags := 1, nameIndex := 56, descriptorIndex := 57, attributes := #[] }] 49 2 #[50] #[{ accessFlags := 18, nameIndex := 23, descriptorIndex := 24, attributes := #[] }, { accessFlags := 18, nameIndex := 27, descriptorIndex := 28, attributes := #[] }])
  fields := #[{ name := "section", type := (.object "java/lang/String"), accessFlags := 18, slot := 0, constantValue := 0 }, { name := "ratePerMonth", type := (.object "com/example/vestwright/vestwright/plan/Plan$Fraction"), accessFlags := 18, slot := 1, constantValue := 0 }]
  methods := #[k6m0, k6m1]
  instanceTypes := #[(.object "java/lang/String"), (.object "com/example/vestwright/vestwright/plan/Plan$Fraction")]
  staticTypes := #[]
  resolved := Array.replicate 88 none
  statics := none }

def pool7 : Array CpInfo := pool [(1, .class_ 2), (0, u "java/io/Serializable"), (0, .class_ 4), (0, u "java/lang/Object")] 2

/-- java/io/Serializable -/
def k7 : Class := { plain "java/io/Serializable" (some 0) with
  accessFlags := 1537
  interfaces := #[]
  cf := some (fileOf pool7 1 #[] #[] 1537 3 #[] #[])
  fields := #[]
  methods := #[]
  instanceTypes := #[]
  staticTypes := #[]
  resolved := Array.replicate 7 none
  statics := none }

def pool8 : Array CpInfo := pool [(1, .class_ 2), (0, u "java/lang/Comparable"), (0, .class_ 4), (0, u "java/lang/Object")] 7

/-- java/lang/Comparable -/
def k8 : Class := { plain "java/lang/Comparable" (some 0) with
  accessFlags := 1537
  interfaces := #[]
  cf := some (fileOf pool8 1 #[] #[] 1537 3 #[] #[])
  fields := #[]
  methods := #[]
  instanceTypes := #[]
  staticTypes := #[]
  resolved := Array.replicate 12 none
  statics := none }

def pool9 : Array CpInfo := pool [(2, .class_ 4), (1, u "java/lang/CharSequence"), (42, .class_ 48), (0, u "java/lang/CharSequence$1CodePointIterator"), (10, .class_ 60), (0, u "java/lang/CharSequence$1CharIterator"), (5, .class_ 67), (0, u "java/lang/Object"), (10, u "toString"), (0, u "()Ljava/lang/String;")] 51

def k9m0 : Method := { name := "toString", desc := "()Ljava/lang/String;", sig := { parameters := [], returnType := some (.object "java/lang/String") }, accessFlags := 1025, code := none }
/-- java/lang/CharSequence -/
def k9 : Class := { plain "java/lang/CharSequence" (some 0) with
  accessFlags := 1537
  interfaces := #[]
  cf := some (fileOf pool9 2 #[.nestMembers #[47, 59]] #[{ accessFlags := 1025, nameIndex := 78, descriptorIndex := 79, attributes := #[] }] 1537 66 #[] #[])
  fields := #[]
  methods := #[k9m0]
  instanceTypes := #[]
  staticTypes := #[]
  resolved := Array.replicate 131 none
  statics := none }

def pool10 : Array CpInfo := pool [(1, .class_ 2), (0, u "java/lang/constant/Constable"), (0, .class_ 4), (0, u "java/lang/Object")] 6

/-- java/lang/constant/Constable -/
def k10 : Class := { plain "java/lang/constant/Constable" (some 0) with
  accessFlags := 1537
  interfaces := #[]
  cf := some (fileOf pool10 1 #[] #[] 1537 3 #[] #[])
  fields := #[]
  methods := #[]
  instanceTypes := #[]
  staticTypes := #[]
  resolved := Array.replicate 11 none
  statics := none }

def pool11 : Array CpInfo := pool [(1, .class_ 2), (0, u "java/lang/constant/ConstantDesc"), (0, .class_ 4), (0, u "java/lang/Object")] 32

/-- java/lang/constant/ConstantDesc -/
def k11 : Class := { plain "java/lang/constant/ConstantDesc" (some 0) with
  accessFlags := 1537
  interfaces := #[]
  cf := some (fileOf pool11 1 #[] #[] 1537 3 #[] #[])
  fields := #[]
  methods := #[]
  instanceTypes := #[]
  staticTypes := #[]
  resolved := Array.replicate 37 none
  statics := none }

def pool12 : Array CpInfo := pool [(2, .class_ 4), (1, u "java/lang/Object"), (0, u "<init>"), (0, u "()V"), (2, .fieldref 10 11), (0, .class_ 12), (0, .nameAndType 13 14), (0, u "java/lang/String"), (0, u "value"), (0, u "[B"), (0, .fieldref 10 16), (0, .nameAndType 17 18), (0, u "coder"), (0, u "B"), (2, u "hash"), (0, u "I"), (2, u "hashIsZero"), (0, u "Z"), (11, .fieldref 10 39), (0, .nameAndType 40 26), (0, u "COMPACT_STRINGS"), (66, .class_ 109), (1, u "java/lang/StringLatin1"), (32, u "()Z"), (191, u "()I"), (0, .methodref 10 336), (0, .nameAndType 17 337), (0, u "()B"), (124, .nameAndType 463 464), (0, u "toString"), (0, u "()Ljava/lang/String;"), (27, .methodref 10 493), (0, .nameAndType 494 142), (0, u "isLatin1"), (10, .methodref 10 506), (0, .nameAndType 507 334), (0, u "length"), (40, u "(Ljava/lang/CharSequence;)Z"), (26, .class_ 576), (0, u "java/lang/CharSequence"), (12, u "([B[B)I"), (9, u "CASE_INSENSITIVE_ORDER"), (0, u "Ljava/util/Comparator;"), (30, u "([B)I"), (3, u "indexOf"), (11, .methodref 107 648), (0, .nameAndType 635 589), (61, .interfaceMethodref 575 462), (0, .methodref 10 712), (0, .nameAndType 635 713), (0, u "(Ljava/lang/String;)I"), (162, .methodref 10 877), (0, .nameAndType 878 334), (0, u "indexOfNonWhitespace"), (45, .methodref 107 925), (0, .nameAndType 878 631), (26, u "isBlank"), (148, u "serialPersistentFields"), (0, u "[Ljava/io/ObjectStreamField;"), (0, .class_ 1104), (0, u "java/lang/String$CaseInsensitiveComparator"), (1, .class_ 1107), (0, u "java/io/Serializable"), (0, .class_ 1109), (0, u "java/lang/Comparable"), (0, .class_ 1111), (0, u "java/lang/constant/Constable"), (0, .class_ 1113), (0, u "java/lang/constant/ConstantDesc"), (2, u "serialVersionUID"), (0, u "J"), (3, u "REPL"), (0, u "C"), (2, u "LATIN1"), (1, u "UTF16"), (163, u "contains")] 159

def k12m0 : Method := { name := "<init>", desc := "()V", sig := { parameters := [], returnType := none }, accessFlags := 1, code := none }
def k12c1 : Code := { maxStack := 2, maxLocals := 1, code := jdk_42_method_54_code, exceptionTable := #[], attributes := #[] }
def k12m1 : Method := { name := "length", desc := "()I", sig := { parameters := [], returnType := some .int }, accessFlags := 1, code := some k12c1 }
def k12c2 : Code := { maxStack := 2, maxLocals := 3, code := jdk_42_method_84_code, exceptionTable := #[], attributes := #[] }
def k12m2 : Method := { name := "indexOf", desc := "(Ljava/lang/String;)I", sig := { parameters := [(.object "java/lang/String")], returnType := some .int }, accessFlags := 1, code := some k12c2 }
def k12c3 : Code := { maxStack := 2, maxLocals := 2, code := jdk_42_method_97_code, exceptionTable := #[], attributes := #[] }
def k12m3 : Method := { name := "contains", desc := "(Ljava/lang/CharSequence;)Z", sig := { parameters := [(.object "java/lang/CharSequence")], returnType := some .boolean }, accessFlags := 1, code := some k12c3 }
def k12c4 : Code := { maxStack := 2, maxLocals := 1, code := jdk_42_method_117_code, exceptionTable := #[], attributes := #[] }
def k12m4 : Method := { name := "isBlank", desc := "()Z", sig := { parameters := [], returnType := some .boolean }, accessFlags := 1, code := some k12c4 }
def k12c5 : Code := { maxStack := 1, maxLocals := 1, code := jdk_42_method_120_code, exceptionTable := #[], attributes := #[] }
def k12m5 : Method := { name := "indexOfNonWhitespace", desc := "()I", sig := { parameters := [], returnType := some .int }, accessFlags := 2, code := some k12c5 }
def k12c6 : Code := { maxStack := 1, maxLocals := 1, code := jdk_42_method_126_code, exceptionTable := #[], attributes := #[] }
def k12m6 : Method := { name := "toString", desc := "()Ljava/lang/String;", sig := { parameters := [], returnType := some (.object "java/lang/String") }, accessFlags := 1, code := some k12c6 }
def k12c7 : Code := { maxStack := 1, maxLocals := 1, code := jdk_42_method_152_code, exceptionTable := #[], attributes := #[] }
def k12m7 : Method := { name := "coder", desc := "()B", sig := { parameters := [], returnType := some .byte }, accessFlags := 0, code := some k12c7 }
def k12c8 : Code := { maxStack := 1, maxLocals := 1, code := jdk_42_method_154_code, exceptionTable := #[], attributes := #[] }
def k12m8 : Method := { name := "isLatin1", desc := "()Z", sig := { parameters := [], returnType := some .boolean }, accessFlags := 0, code := some k12c8 }
/-- java/lang/String -/
def k12 : Class := { plain "java/lang/String" (some 0) with
  accessFlags := 49
  interfaces := #[7, 8, 9, 10, 11]
  cf := some (fileOf pool12 10 #[.nestMembers #[1103]] #[{ accessFlags := 1, nameIndex := 5, descriptorIndex := 6, attributes := #[] }, { accessFlags := 1, nameIndex := 507, descriptorIndex := 334, attributes := #[] }, { accessFlags := 1, nameIndex := 635, descriptorIndex := 713, attributes := #[] }, { accessFlags := 1, nameIndex := 1291, descriptorIndex := 548, attributes := #[] }, { accessFlags := 1, nameIndex := 952, descriptorIndex := 142, attributes := #[] }, { accessFlags := 2, nameIndex := 878, descriptorIndex := 334, attributes := #[] }, { accessFlags := 1, nameIndex := 463, descriptorIndex := 464, attributes := #[] }, { accessFlags := 0, nameIndex := 17, descriptorIndex := 337, attributes := #[] }, { accessFlags := 0, nameIndex := 494, descriptorIndex := 142, attributes := #[] }] 49 2 #[1106, 1108, 575, 1110, 1112] #[{ accessFlags := 18, nameIndex := 13, descriptorIndex := 14, attributes := #[] }, { accessFlags := 18, nameIndex := 17, descriptorIndex := 18, attributes := #[] }, { accessFlags := 2, nameIndex := 21, descriptorIndex := 22, attributes := #[] }, { accessFlags := 2, nameIndex := 25, descriptorIndex := 26, attributes := #[] }, { accessFlags := 26, nameIndex := 1116, descriptorIndex := 1117, attributes := #[] }, { accessFlags := 24, nameIndex := 40, descriptorIndex := 26, attributes := #[] }, { accessFlags := 26, nameIndex := 1101, descriptorIndex := 1102, attributes := #[] }, { accessFlags := 26, nameIndex := 1121, descriptorIndex := 1122, attributes := #[] }, { accessFlags := 25, nameIndex := 599, descriptorIndex := 600, attributes := #[] }, { accessFlags := 24, nameIndex := 1125, descriptorIndex := 18, attributes := #[] }, { accessFlags := 24, nameIndex := 1127, descriptorIndex := 18, attributes := #[] }])
  fields := #[{ name := "value", type := (.array .byte), accessFlags := 18, slot := 0, constantValue := 0 }, { name := "coder", type := .byte, accessFlags := 18, slot := 1, constantValue := 0 }, { name := "hash", type := .int, accessFlags := 2, slot := 2, constantValue := 0 }, { name := "hashIsZero", type := .boolean, accessFlags := 2, slot := 3, constantValue := 0 }, { name := "serialVersionUID", type := .long, accessFlags := 26, slot := 0, constantValue := 0 }, { name := "COMPACT_STRINGS", type := .boolean, accessFlags := 24, slot := 1, constantValue := 0 }, { name := "serialPersistentFields", type := (.array (.object "java/io/ObjectStreamField")), accessFlags := 26, slot := 2, constantValue := 0 }, { name := "REPL", type := .char, accessFlags := 26, slot := 3, constantValue := 0 }, { name := "CASE_INSENSITIVE_ORDER", type := (.object "java/util/Comparator"), accessFlags := 25, slot := 4, constantValue := 0 }, { name := "LATIN1", type := .byte, accessFlags := 24, slot := 5, constantValue := 0 }, { name := "UTF16", type := .byte, accessFlags := 24, slot := 6, constantValue := 0 }]
  methods := #[k12m0, k12m1, k12m2, k12m3, k12m4, k12m5, k12m6, k12m7, k12m8]
  instanceTypes := #[(.array .byte), .byte, .int, .boolean]
  staticTypes := #[.long, .boolean, (.array (.object "java/io/ObjectStreamField")), .char, (.object "java/util/Comparator"), .byte, .byte]
  resolved := Array.replicate 1451 none
  statics := some 0 }

def pool13 : Array CpInfo := pool [(2, .class_ 4), (1, u "java/lang/Record"), (4, .methodref 10 11), (0, .class_ 12), (0, .nameAndType 13 14), (0, u "com/example/vestwright/vestwright/plan/Plan"), (0, u "require"), (0, u "(Ljava/lang/Object;Ljava/lang/String;)Ljava/lang/Object;"), (9, u "vesting"), (0, .class_ 26), (0, u "com/example/vestwright/vestwright/plan/Plan$AccruedPension$RateOfFinalAverageCompensation"), (6, u "(Ljava/lang/String;)V"), (9, .class_ 45), (1, u "com/example/vestwright/vestwright/plan/Plan$NormalRetirementAge"), (24, u "freeze"), (0, u "Lcom/example/vestwright/vestwright/plan/Plan$Freeze;"), (2, u "benefitService"), (0, u "Lcom/example/vestwright/vestwright/plan/Plan$BenefitService;"), (2, u "finalAverageCompensation"), (0, u "Lcom/example/vestwright/vestwright/plan/Plan$FinalAverageCompensation;"), (2, u "compensationLimit"), (0, u "Lcom/example/vestwright/vestwright/plan/Plan$CompensationLimit;"), (2, u "accruedPension"), (0, u "Lcom/example/vestwright/vestwright/plan/Plan$AccruedPension;"), (2, u "minimumPension"), (0, u "Lcom/example/vestwright/vestwright/plan/Plan$MinimumPension;"), (2, u "normalRetirementAge"), (0, u "Lcom/example/vestwright/vestwright/plan/Plan$NormalRetirementAge;"), (2, u "normalRetirementDate"), (0, u "Lcom/example/vestwright/vestwright/plan/Plan$NormalRetirementDate;"), (2, u "vestingService"), (0, u "Lcom/example/vestwright/vestwright/plan/Plan$VestingService;"), (2, u "Lcom/example/vestwright/vestwright/plan/Plan$Vesting;"), (2, u "breakInService"), (0, u "Lcom/example/vestwright/vestwright/plan/Plan$BreakInService;"), (2, u "benefitServiceBeforeBreaks"), (0, u "Lcom/example/vestwright/vestwright/plan/Plan$BenefitServiceBeforeBreaks;"), (2, u "earlyRetirementDate"), (0, u "Lcom/example/vestwright/vestwright/plan/Plan$EarlyRetirementDate;"), (2, u "earlyRetirement"), (0, u "Lcom/example/vestwright/vestwright/plan/Plan$EarlyRetirement;"), (2, u "deferredVested"), (0, u "Lcom/example/vestwright/vestwright/plan/Plan$DeferredVested;"), (2, u "earlyReduction"), (0, u "Lcom/example/vestwright/vestwright/plan/Plan$EarlyReduction;"), (2, u "actuarialEquivalence"), (0, u "Lcom/example/vestwright/vestwright/plan/Plan$ActuarialEquivalence;"), (2, u "optionalForms"), (0, u "Lcom/example/vestwright/vestwright/plan/Plan$OptionalForms;"), (2, u "automaticForm"), (0, u "Lcom/example/vestwright/vestwright/plan/Plan$AutomaticForm;"), (2, u "singleSum"), (0, u "Lcom/example/vestwright/vestwright/plan/Plan$SingleSum;"), (2, u "cashOut"), (0, u "Lcom/example/vestwright/vestwright/plan/Plan$CashOut;"), (7, .class_ 160), (1, u "com/example/vestwright/vestwright/plan/Plan$OptionalForms"), (3, .class_ 166), (1, u "com/example/vestwright/vestwright/plan/Plan$AutomaticForm"), (21, u "contains"), (4, .class_ 195), (1, u "java/lang/String"), (15, .class_ 212), (0, u "com/example/vestwright/vestwright/plan/Plan$EarlyRetirementDate"), (7, .class_ 222), (1, u "com/example/vestwright/vestwright/plan/Plan$EarlyRetirement"), (3, .class_ 228), (1, u "com/example/vestwright/vestwright/plan/Plan$AgePlusService"), (4, .class_ 235), (1, u "com/example/vestwright/vestwright/plan/Plan$DeferredVested"), (10, .class_ 248), (1, u "com/example/vestwright/vestwright/plan/Plan$EarlyReduction"), (8, .class_ 258), (0, u "com/example/vestwright/vestwright/plan/Plan$VestingService$HoursCounting"), (11, .class_ 272), (1, u "com/example/vestwright/vestwright/plan/Plan$BreakInService"), (9, .string 283), (0, u "section"), (0, .methodref 193 285), (0, .nameAndType 286 287), (0, u "isBlank"), (0, u "()Z"), (2, .string 291), (0, u "\t"), (0, .methodref 193 293), (0, .nameAndType 188 294), (0, u "(Ljava/lang/CharSequence;)Z"), (0, .string 296), (0, u "\n"), (0, .string 298), (0, u "\r"), (24, u "MONTHS_PER_YEAR"), (0, u "I"), (6, .class_ 332), (0, u "com/example/vestwright/vestwright/plan/Plan$Freeze"), (0, .class_ 334), (0, u "com/example/vestwright/vestwright/plan/Plan$BenefitService"), (0, .class_ 336), (0, u "com/example/vestwright/vestwright/plan/Plan$FinalAverageCompensation"), (0, .class_ 338), (0, u "com/example/vestwright/vestwright/plan/Plan$CompensationLimit"), (0, .class_ 340), (0, u "com/example/vestwright/vestwright/plan/Plan$AccruedPension"), (0, .class_ 342), (0, u "com/example/vestwright/vestwright/plan/Plan$MinimumPension"), (0, .class_ 344), (0, u "com/example/vestwright/vestwright/plan/Plan$NormalRetirementDate"), (0, .class_ 346), (0, u "com/example/vestwright/vestwright/plan/Plan$VestingService"), (0, .class_ 348), (0, u "com/example/vestwright/vestwright/plan/Plan$Vesting"), (0, .class_ 350), (0, u "com/example/vestwright/vestwright/plan/Plan$BenefitServiceBeforeBreaks"), (0, .class_ 352), (0, u "com/example/vestwright/vestwright/plan/Plan$ActuarialEquivalence"), (0, .class_ 354), (0, u "com/example/vestwright/vestwright/plan/Plan$SingleSum"), (0, .class_ 356), (0, u "com/example/vestwright/vestwright/plan/Plan$CashOut"), (4, u "requireSection"), (32, .class_ 395), (0, u "com/example/vestwright/vestwright/plan/Plan$SingleSumBasis"), (0, .class_ 397), (0, u "com/example/vestwright/vestwright/plan/Plan$JointAndSurvivor"), (0, .class_ 399), (0, u "com/example/vestwright/vestwright/plan/Plan$CertainAndLife"), (0, .class_ 401), (0, u "com/example/vestwright/vestwright/plan/Plan$ServiceBeforeBreaks"), (0, .class_ 403), (0, u "com/example/vestwright/vestwright/plan/Plan$VestingService$ElapsedTime"), (0, .class_ 405), (0, u "com/example/vestwright/vestwright/plan/Plan$Fraction"), (0, .class_ 407), (0, u "com/example/vestwright/vestwright/plan/Plan$EarlyReduction$Table"), (0, .class_ 409), (0, u "com/example/vestwright/vestwright/plan/Plan$EarlyReduction$PerMonth"), (0, .class_ 411), (0, u "com/example/vestwright/vestwright/plan/Plan$MinimumPension$Band"), (0, .class_ 413), (0, u "com/example/vestwright/vestwright/plan/Plan$AccruedPension$FlatDollar"), (0, .class_ 415), (0, u "com/example/vestwright/vestwright/plan/Plan$BenefitService$CompletedMonths"), (0, .class_ 417), (0, u "com/example/vestwright/vestwright/plan/Plan$BenefitService$CalendarMonths"), (0, .class_ 419), (0, u "com/example/vestwright/vestwright/plan/Plan$ServiceStart")] 95

def k13c0 : Code := { maxStack := 3, maxLocals := 2, code := prog_27_method_8_code, exceptionTable := #[], attributes := #[] }
def k13m0 : Method := { name := "require", desc := "(Ljava/lang/Object;Ljava/lang/String;)Ljava/lang/Object;", sig := { parameters := [(.object "java/lang/Object"), (.object "java/lang/String")], returnType := some (.object "java/lang/Object") }, accessFlags := 10, code := some k13c0 }
def k13c1 : Code := { maxStack := 3, maxLocals := 1, code := prog_27_method_9_code, exceptionTable := #[], attributes := #[] }
def k13m1 : Method := { name := "requireSection", desc := "(Ljava/lang/String;)V", sig := { parameters := [(.object "java/lang/String")], returnType := none }, accessFlags := 10, code := some k13c1 }
/-- com/example/vestwright/vestwright/plan/Plan -/
def k13 : Class := { plain "com/example/vestwright/vestwright/plan/Plan" (some 3) with
  accessFlags := 49
  interfaces := #[]
  cf := some (fileOf pool13 10 #[.nestMembers #[355, 353, 394, 164, 396, 398, 158, 351, 347, 349, 270, 400, 345, 402, 257, 404, 246, 406, 408, 233, 226, 220, 211, 343, 43, 341, 410, 339, 412, 25, 337, 335, 333, 414, 416, 331, 418]] #[{ accessFlags := 10, nameIndex := 13, descriptorIndex := 14, attributes := #[] }, { accessFlags := 10, nameIndex := 361, descriptorIndex := 33, attributes := #[] }] 49 2 #[] #[{ accessFlags := 18, nameIndex := 70, descriptorIndex := 71, attributes := #[] }, { accessFlags := 18, nameIndex := 74, descriptorIndex := 75, attributes := #[] }, { accessFlags := 18, nameIndex := 78, descriptorIndex := 79, attributes := #[] }, { accessFlags := 18, nameIndex := 82, descriptorIndex := 83, attributes := #[] }, { accessFlags := 18, nameIndex := 86, descriptorIndex := 87, attributes := #[] }, { accessFlags := 18, nameIndex := 90, descriptorIndex := 91, attributes := #[] }, { accessFlags := 18, nameIndex := 94, descriptorIndex := 95, attributes := #[] }, { accessFlags := 18, nameIndex := 98, descriptorIndex := 99, attributes := #[] }, { accessFlags := 18, nameIndex := 102, descriptorIndex := 103, attributes := #[] }, { accessFlags := 18, nameIndex := 24, descriptorIndex := 106, attributes := #[] }, { accessFlags := 18, nameIndex := 109, descriptorIndex := 110, attributes := #[] }, { accessFlags := 18, nameIndex := 113, descriptorIndex := 114, attributes := #[] }, { accessFlags := 18, nameIndex := 117, descriptorIndex := 118, attributes := #[] }, { accessFlags := 18, nameIndex := 121, descriptorIndex := 122, attributes := #[] }, { accessFlags := 18, nameIndex := 125, descriptorIndex := 126, attributes := #[] }, { accessFlags := 18, nameIndex := 129, descriptorIndex := 130, attributes := #[] }, { accessFlags := 18, nameIndex := 133, descriptorIndex := 134, attributes := #[] }, { accessFlags := 18, nameIndex := 137, descriptorIndex := 138, attributes := #[] }, { accessFlags := 18, nameIndex := 141, descriptorIndex := 142, attributes := #[] }, { accessFlags := 18, nameIndex := 145, descriptorIndex := 146, attributes := #[] }, { accessFlags := 18, nameIndex := 149, descriptorIndex := 150, attributes := #[] }, { accessFlags := 26, nameIndex := 323, descriptorIndex := 324, attributes := #[] }])
  fields := #[{ name := "freeze", type := (.object "com/example/vestwright/vestwright/plan/Plan$Freeze"), accessFlags := 18, slot := 0, constantValue := 0 }, { name := "benefitService", type := (.object "com/example/vestwright/vestwright/plan/Plan$BenefitService"), accessFlags := 18, slot := 1, constantValue := 0 }, { name := "finalAverageCompensation", type := (.object "com/example/vestwright/vestwright/plan/Plan$FinalAverageCompensation"), accessFlags := 18, slot := 2, constantValue := 0 }, { name := "compensationLimit", type := (.object "com/example/vestwright/vestwright/plan/Plan$CompensationLimit"), accessFlags := 18, slot := 3, constantValue := 0 }, { name := "accruedPension", type := (.object "com/example/vestwright/vestwright/plan/Plan$AccruedPension"), accessFlags := 18, slot := 4, constantValue := 0 }, { name := "minimumPension", type := (.object "com/example/vestwright/vestwright/plan/Plan$MinimumPension"), accessFlags := 18, slot := 5, constantValue := 0 }, { name := "normalRetirementAge", type := (.object "com/example/vestwright/vestwright/plan/Plan$NormalRetirementAge"), accessFlags := 18, slot := 6, constantValue := 0 }, { name := "normalRetirementDate", type := (.object "com/example/vestwright/vestwright/plan/Plan$NormalRetirementDate"), accessFlags := 18, slot := 7, constantValue := 0 }, { name := "vestingService", type := (.object "com/example/vestwright/vestwright/plan/Plan$VestingService"), accessFlags := 18, slot := 8, constantValue := 0 }, { name := "vesting", type := (.object "com/example/vestwright/vestwright/plan/Plan$Vesting"), accessFlags := 18, slot := 9, constantValue := 0 }, { name := "breakInService", type := (.object "com/example/vestwright/vestwright/plan/Plan$BreakInService"), accessFlags := 18, slot := 10, constantValue := 0 }, { name := "benefitServiceBeforeBreaks", type := (.object "com/example/vestwright/vestwright/plan/Plan$BenefitServiceBeforeBreaks"), accessFlags := 18, slot := 11, constantValue := 0 }, { name := "earlyRetirementDate", type := (.object "com/example/vestwright/vestwright/plan/Plan$EarlyRetirementDate"), accessFlags := 18, slot := 12, constantValue := 0 }, { name := "earlyRetirement", type := (.object "com/example/vestwright/vestwright/plan/Plan$EarlyRetirement"), accessFlags := 18, slot := 13, constantValue := 0 }, { name := "deferredVested", type := (.object "com/example/vestwright/vestwright/plan/Plan$DeferredVested"), accessFlags := 18, slot := 14, constantValue := 0 }, { name := "earlyReduction", type := (.object "com/example/vestwright/vestwright/plan/Plan$EarlyReduction"), accessFlags := 18, slot := 15, constantValue := 0 }, { name := "actuarialEquivalence", type := (.object "com/example/vestwright/vestwright/plan/Plan$ActuarialEquivalence"), accessFlags := 18, slot := 16, constantValue := 0 }, { name := "optionalForms", type := (.object "com/example/vestwright/vestwright/plan/Plan$OptionalForms"), accessFlags := 18, slot := 17, constantValue := 0 }, { name := "automaticForm", type := (.object "com/example/vestwright/vestwright/plan/Plan$AutomaticForm"), accessFlags := 18, slot := 18, constantValue := 0 }, { name := "singleSum", type := (.object "com/example/vestwright/vestwright/plan/Plan$SingleSum"), accessFlags := 18, slot := 19, constantValue := 0 }, { name := "cashOut", type := (.object "com/example/vestwright/vestwright/plan/Plan$CashOut"), accessFlags := 18, slot := 20, constantValue := 0 }, { name := "MONTHS_PER_YEAR", type := .int, accessFlags := 26, slot := 0, constantValue := 0 }]
  methods := #[k13m0, k13m1]
  instanceTypes := #[(.object "com/example/vestwright/vestwright/plan/Plan$Freeze"), (.object "com/example/vestwright/vestwright/plan/Plan$BenefitService"), (.object "com/example/vestwright/vestwright/plan/Plan$FinalAverageCompensation"), (.object "com/example/vestwright/vestwright/plan/Plan$CompensationLimit"), (.object "com/example/vestwright/vestwright/plan/Plan$AccruedPension"), (.object "com/example/vestwright/vestwright/plan/Plan$MinimumPension"), (.object "com/example/vestwright/vestwright/plan/Plan$NormalRetirementAge"), (.object "com/example/vestwright/vestwright/plan/Plan$NormalRetirementDate"), (.object "com/example/vestwright/vestwright/plan/Plan$VestingService"), (.object "com/example/vestwright/vestwright/plan/Plan$Vesting"), (.object "com/example/vestwright/vestwright/plan/Plan$BreakInService"), (.object "com/example/vestwright/vestwright/plan/Plan$BenefitServiceBeforeBreaks"), (.object "com/example/vestwright/vestwright/plan/Plan$EarlyRetirementDate"), (.object "com/example/vestwright/vestwright/plan/Plan$EarlyRetirement"), (.object "com/example/vestwright/vestwright/plan/Plan$DeferredVested"), (.object "com/example/vestwright/vestwright/plan/Plan$EarlyReduction"), (.object "com/example/vestwright/vestwright/plan/Plan$ActuarialEquivalence"), (.object "com/example/vestwright/vestwright/plan/Plan$OptionalForms"), (.object "com/example/vestwright/vestwright/plan/Plan$AutomaticForm"), (.object "com/example/vestwright/vestwright/plan/Plan$SingleSum"), (.object "com/example/vestwright/vestwright/plan/Plan$CashOut")]
  staticTypes := #[.int]
  resolved := Array.replicate 515 none
  statics := none }

def pool14 : Array CpInfo := pool [(4, .class_ 6), (1, u "java/lang/Object"), (0, u "<init>"), (0, u "()V"), (5, .class_ 16), (1, u "java/lang/StringLatin1"), (33, .methodref 14 51), (0, .nameAndType 52 53), (0, u "getChar"), (0, u "([BI)C"), (3, u "([B)I"), (8, .fieldref 67 68), (0, .class_ 69), (0, .nameAndType 70 71), (0, u "java/lang/CharacterDataLatin1"), (0, u "instance"), (0, u "Ljava/lang/CharacterDataLatin1;"), (19, u "(I)Z"), (7, .methodref 14 100), (0, .nameAndType 101 102), (0, u "indexOf"), (0, u "([BI[BII)I"), (18, u "$assertionsDisabled"), (0, u "Z"), (88, .methodref 67 212), (0, .nameAndType 213 91), (0, u "isWhitespace"), (2, u "indexOfNonWhitespace"), (4, .class_ 223), (1, u "java/lang/StringLatin1$LinesSpliterator"), (63, u "([B[B)I"), (102, .class_ 391), (0, u "java/lang/StringLatin1$CharsSpliterator")] 3

def k14m0 : Method := { name := "<init>", desc := "()V", sig := { parameters := [], returnType := none }, accessFlags := 0, code := none }
def k14c1 : Code := { maxStack := 5, maxLocals := 2, code := jdk_43_method_24_code, exceptionTable := #[], attributes := #[] }
def k14m1 : Method := { name := "indexOf", desc := "([B[B)I", sig := { parameters := [(.array .byte), (.array .byte)], returnType := some .int }, accessFlags := 9, code := some k14c1 }
def k14c2 : Code := { maxStack := 3, maxLocals := 11, code := jdk_43_method_25_code, exceptionTable := #[], attributes := #[] }
def k14m2 : Method := { name := "indexOf", desc := "([BI[BII)I", sig := { parameters := [(.array .byte), .int, (.array .byte), .int, .int], returnType := some .int }, accessFlags := 9, code := some k14c2 }
def k14c3 : Code := { maxStack := 2, maxLocals := 4, code := jdk_43_method_37_code, exceptionTable := #[], attributes := #[] }
def k14m3 : Method := { name := "indexOfNonWhitespace", desc := "([B)I", sig := { parameters := [(.array .byte)], returnType := some .int }, accessFlags := 9, code := some k14c3 }
def k14c4 : Code := { maxStack := 2, maxLocals := 2, code := jdk_43_method_44_code, exceptionTable := #[], attributes := #[] }
def k14m4 : Method := { name := "getChar", desc := "([BI)C", sig := { parameters := [(.array .byte), .int], returnType := some .char }, accessFlags := 9, code := some k14c4 }
/-- java/lang/StringLatin1 -/
def k14 : Class := { plain "java/lang/StringLatin1" (some 0) with
  accessFlags := 48
  interfaces := #[]
  cf := some (fileOf pool14 14 #[.nestMembers #[390, 221]] #[{ accessFlags := 0, nameIndex := 7, descriptorIndex := 8, attributes := #[] }, { accessFlags := 9, nameIndex := 101, descriptorIndex := 287, attributes := #[] }, { accessFlags := 9, nameIndex := 101, descriptorIndex := 102, attributes := #[] }, { accessFlags := 9, nameIndex := 216, descriptorIndex := 57, attributes := #[] }, { accessFlags := 9, nameIndex := 52, descriptorIndex := 53, attributes := #[] }] 48 4 #[] #[{ accessFlags := 4120, nameIndex := 121, descriptorIndex := 122, attributes := #[] }])
  fields := #[{ name := "$assertionsDisabled", type := .boolean, accessFlags := 4120, slot := 0, constantValue := 0 }]
  methods := #[k14m0, k14m1, k14m2, k14m3, k14m4]
  instanceTypes := #[]
  staticTypes := #[.boolean]
  resolved := Array.replicate 395 none
  statics := none }

def pool15 : Array CpInfo := pool [(2, .class_ 4), (1, u "java/lang/Object"), (0, u "<init>"), (0, u "()V"), (1, .class_ 10), (1, u "java/lang/CharacterData")] 75

def k15m0 : Method := { name := "<init>", desc := "()V", sig := { parameters := [], returnType := none }, accessFlags := 0, code := none }
/-- java/lang/CharacterData -/
def k15 : Class := { plain "java/lang/CharacterData" (some 0) with
  accessFlags := 1056
  interfaces := #[]
  cf := some (fileOf pool15 8 #[] #[{ accessFlags := 0, nameIndex := 5, descriptorIndex := 6, attributes := #[] }] 1056 2 #[] #[])
  fields := #[]
  methods := #[k15m0]
  instanceTypes := #[]
  staticTypes := #[]
  resolved := Array.replicate 86 none
  statics := none }

def pool16 : Array CpInfo := pool [(1, .fieldref 2 3), (0, .class_ 4), (0, .nameAndType 5 6), (0, u "java/lang/CharacterDataLatin1"), (0, u "A"), (0, u "[I"), (2, u "B"), (0, u "[C"), (3, u "(I)I"), (0, .methodref 2 16), (0, .nameAndType 17 14), (0, u "getProperties"), (3, u "(I)Z"), (5, u "DIGITS"), (0, u "[B"), (8, u "sharpsMap"), (1, .class_ 41), (1, u "java/lang/CharacterData"), (0, u "<init>"), (0, u "()V"), (3, u "instance"), (0, u "Ljava/lang/CharacterDataLatin1;"), (78, u "isWhitespace")] 13

def k16c0 : Code := { maxStack := 2, maxLocals := 4, code := jdk_116_method_1_code, exceptionTable := #[], attributes := #[] }
def k16m0 : Method := { name := "getProperties", desc := "(I)I", sig := { parameters := [.int], returnType := some .int }, accessFlags := 0, code := some k16c0 }
def k16c1 : Code := { maxStack := 2, maxLocals := 3, code := jdk_116_method_26_code, exceptionTable := #[], attributes := #[] }
def k16m1 : Method := { name := "isWhitespace", desc := "(I)Z", sig := { parameters := [.int], returnType := some .boolean }, accessFlags := 0, code := some k16c1 }
def k16m2 : Method := { name := "<init>", desc := "()V", sig := { parameters := [], returnType := none }, accessFlags := 2, code := none }
/-- java/lang/CharacterDataLatin1 -/
def k16 : Class := { plain "java/lang/CharacterDataLatin1" (some 15) with
  accessFlags := 32
  interfaces := #[]
  cf := some (fileOf pool16 2 #[] #[{ accessFlags := 0, nameIndex := 17, descriptorIndex := 14, attributes := #[] }, { accessFlags := 0, nameIndex := 127, descriptorIndex := 21, attributes := #[] }, { accessFlags := 2, nameIndex := 42, descriptorIndex := 43, attributes := #[] }] 32 39 #[] #[{ accessFlags := 26, nameIndex := 27, descriptorIndex := 28, attributes := #[] }, { accessFlags := 8, nameIndex := 37, descriptorIndex := 10, attributes := #[] }, { accessFlags := 24, nameIndex := 47, descriptorIndex := 48, attributes := #[] }, { accessFlags := 24, nameIndex := 5, descriptorIndex := 6, attributes := #[] }, { accessFlags := 24, nameIndex := 9, descriptorIndex := 10, attributes := #[] }])
  fields := #[{ name := "DIGITS", type := (.array .byte), accessFlags := 26, slot := 0, constantValue := 0 }, { name := "sharpsMap", type := (.array .char), accessFlags := 8, slot := 1, constantValue := 0 }, { name := "instance", type := (.object "java/lang/CharacterDataLatin1"), accessFlags := 24, slot := 2, constantValue := 0 }, { name := "A", type := (.array .int), accessFlags := 24, slot := 3, constantValue := 0 }, { name := "B", type := (.array .char), accessFlags := 24, slot := 4, constantValue := 0 }]
  methods := #[k16m0, k16m1, k16m2]
  instanceTypes := #[]
  staticTypes := #[(.array .byte), (.array .char), (.object "java/lang/CharacterDataLatin1"), (.array .int), (.array .char)]
  resolved := Array.replicate 141 none
  statics := some 1 }

def pool17 : Array CpInfo := pool [(9, u "<init>"), (6, .class_ 18), (1, u "java/lang/Object"), (0, u "()V"), (1, .class_ 23), (1, u "jdk/internal/util/ArraysSupport"), (0, u "LOG2_ARRAY_LONG_INDEX_SCALE"), (0, u "I"), (2, u "U"), (0, u "Ljdk/internal/misc/Unsafe;"), (8, u "BIG_ENDIAN"), (0, u "Z"), (8, u "LOG2_BYTE_BIT_SIZE"), (4, u "LOG2_ARRAY_INT_INDEX_SCALE"), (54, u "JLA"), (0, u "Ljdk/internal/access/JavaLangAccess;"), (11, u "LOG2_ARRAY_BOOLEAN_INDEX_SCALE"), (9, u "LOG2_ARRAY_BYTE_INDEX_SCALE"), (5, u "LOG2_ARRAY_CHAR_INDEX_SCALE"), (5, u "LOG2_ARRAY_SHORT_INDEX_SCALE"), (18, u "LOG2_ARRAY_FLOAT_INDEX_SCALE"), (24, u "LOG2_ARRAY_DOUBLE_INDEX_SCALE"), (89, u "T_BOOLEAN"), (2, u "T_CHAR"), (1, u "T_FLOAT"), (1, u "T_DOUBLE"), (1, u "T_BYTE"), (1, u "T_SHORT"), (1, u "T_INT"), (1, u "T_LONG"), (1, u "SOFT_MAX_ARRAY_LENGTH")] 83

def k17m0 : Method := { name := "<init>", desc := "()V", sig := { parameters := [], returnType := none }, accessFlags := 2, code := none }
/-- jdk/internal/util/ArraysSupport -/
def k17 : Class := { plain "jdk/internal/util/ArraysSupport" (some 0) with
  accessFlags := 33
  interfaces := #[]
  cf := some (fileOf pool17 21 #[] #[{ accessFlags := 2, nameIndex := 9, descriptorIndex := 19, attributes := #[] }] 33 16 #[] #[{ accessFlags := 24, nameIndex := 28, descriptorIndex := 29, attributes := #[] }, { accessFlags := 26, nameIndex := 38, descriptorIndex := 39, attributes := #[] }, { accessFlags := 25, nameIndex := 121, descriptorIndex := 25, attributes := #[] }, { accessFlags := 25, nameIndex := 131, descriptorIndex := 25, attributes := #[] }, { accessFlags := 25, nameIndex := 137, descriptorIndex := 25, attributes := #[] }, { accessFlags := 25, nameIndex := 143, descriptorIndex := 25, attributes := #[] }, { accessFlags := 25, nameIndex := 53, descriptorIndex := 25, attributes := #[] }, { accessFlags := 25, nameIndex := 24, descriptorIndex := 25, attributes := #[] }, { accessFlags := 25, nameIndex := 162, descriptorIndex := 25, attributes := #[] }, { accessFlags := 25, nameIndex := 187, descriptorIndex := 25, attributes := #[] }, { accessFlags := 26, nameIndex := 48, descriptorIndex := 25, attributes := #[] }, { accessFlags := 25, nameIndex := 277, descriptorIndex := 25, attributes := #[] }, { accessFlags := 25, nameIndex := 280, descriptorIndex := 25, attributes := #[] }, { accessFlags := 25, nameIndex := 282, descriptorIndex := 25, attributes := #[] }, { accessFlags := 25, nameIndex := 284, descriptorIndex := 25, attributes := #[] }, { accessFlags := 25, nameIndex := 286, descriptorIndex := 25, attributes := #[] }, { accessFlags := 25, nameIndex := 288, descriptorIndex := 25, attributes := #[] }, { accessFlags := 25, nameIndex := 290, descriptorIndex := 25, attributes := #[] }, { accessFlags := 25, nameIndex := 292, descriptorIndex := 25, attributes := #[] }, { accessFlags := 26, nameIndex := 108, descriptorIndex := 109, attributes := #[] }, { accessFlags := 25, nameIndex := 294, descriptorIndex := 25, attributes := #[] }])
  fields := #[{ name := "U", type := (.object "jdk/internal/misc/Unsafe"), accessFlags := 24, slot := 0, constantValue := 0 }, { name := "BIG_ENDIAN", type := .boolean, accessFlags := 26, slot := 1, constantValue := 0 }, { name := "LOG2_ARRAY_BOOLEAN_INDEX_SCALE", type := .int, accessFlags := 25, slot := 2, constantValue := 0 }, { name := "LOG2_ARRAY_BYTE_INDEX_SCALE", type := .int, accessFlags := 25, slot := 3, constantValue := 0 }, { name := "LOG2_ARRAY_CHAR_INDEX_SCALE", type := .int, accessFlags := 25, slot := 4, constantValue := 0 }, { name := "LOG2_ARRAY_SHORT_INDEX_SCALE", type := .int, accessFlags := 25, slot := 5, constantValue := 0 }, { name := "LOG2_ARRAY_INT_INDEX_SCALE", type := .int, accessFlags := 25, slot := 6, constantValue := 0 }, { name := "LOG2_ARRAY_LONG_INDEX_SCALE", type := .int, accessFlags := 25, slot := 7, constantValue := 0 }, { name := "LOG2_ARRAY_FLOAT_INDEX_SCALE", type := .int, accessFlags := 25, slot := 8, constantValue := 0 }, { name := "LOG2_ARRAY_DOUBLE_INDEX_SCALE", type := .int, accessFlags := 25, slot := 9, constantValue := 0 }, { name := "LOG2_BYTE_BIT_SIZE", type := .int, accessFlags := 26, slot := 10, constantValue := 0 }, { name := "T_BOOLEAN", type := .int, accessFlags := 25, slot := 11, constantValue := 0 }, { name := "T_CHAR", type := .int, accessFlags := 25, slot := 12, constantValue := 0 }, { name := "T_FLOAT", type := .int, accessFlags := 25, slot := 13, constantValue := 0 }, { name := "T_DOUBLE", type := .int, accessFlags := 25, slot := 14, constantValue := 0 }, { name := "T_BYTE", type := .int, accessFlags := 25, slot := 15, constantValue := 0 }, { name := "T_SHORT", type := .int, accessFlags := 25, slot := 16, constantValue := 0 }, { name := "T_INT", type := .int, accessFlags := 25, slot := 17, constantValue := 0 }, { name := "T_LONG", type := .int, accessFlags := 25, slot := 18, constantValue := 0 }, { name := "JLA", type := (.object "jdk/internal/access/JavaLangAccess"), accessFlags := 26, slot := 19, constantValue := 0 }, { name := "SOFT_MAX_ARRAY_LENGTH", type := .int, accessFlags := 25, slot := 20, constantValue := 0 }]
  methods := #[k17m0]
  instanceTypes := #[]
  staticTypes := #[(.object "jdk/internal/misc/Unsafe"), .boolean, .int, .int, .int, .int, .int, .int, .int, .int, .int, .int, .int, .int, .int, .int, .int, .int, .int, (.object "jdk/internal/access/JavaLangAccess"), .int]
  resolved := Array.replicate 378 none
  statics := some 2 }

def pool18 : Array CpInfo := pool [(2, .class_ 4), (1, u "java/lang/Object"), (0, u "<init>"), (0, u "()V"), (17, .class_ 26), (1, u "jdk/internal/util/Preconditions"), (28, .class_ 56), (0, u "jdk/internal/util/Preconditions$4"), (57, .class_ 115), (0, u "jdk/internal/util/Preconditions$1"), (7, u "SIOOBE_FORMATTER"), (0, u "Ljava/util/function/BiFunction;"), (0, .class_ 126), (0, u "jdk/internal/util/Preconditions$2"), (3, u "AIOOBE_FORMATTER"), (0, .class_ 132), (0, u "jdk/internal/util/Preconditions$3"), (3, u "IOOBE_FORMATTER")] 57

def k18m0 : Method := { name := "<init>", desc := "()V", sig := { parameters := [], returnType := none }, accessFlags := 1, code := none }
/-- jdk/internal/util/Preconditions -/
def k18 : Class := { plain "jdk/internal/util/Preconditions" (some 0) with
  accessFlags := 33
  interfaces := #[]
  cf := some (fileOf pool18 24 #[.nestMembers #[55, 131, 125, 114]] #[{ accessFlags := 1, nameIndex := 5, descriptorIndex := 6, attributes := #[] }] 33 2 #[] #[{ accessFlags := 25, nameIndex := 123, descriptorIndex := 124, attributes := #[] }, { accessFlags := 25, nameIndex := 130, descriptorIndex := 124, attributes := #[] }, { accessFlags := 25, nameIndex := 136, descriptorIndex := 124, attributes := #[] }])
  fields := #[{ name := "SIOOBE_FORMATTER", type := (.object "java/util/function/BiFunction"), accessFlags := 25, slot := 0, constantValue := 0 }, { name := "AIOOBE_FORMATTER", type := (.object "java/util/function/BiFunction"), accessFlags := 25, slot := 1, constantValue := 0 }, { name := "IOOBE_FORMATTER", type := (.object "java/util/function/BiFunction"), accessFlags := 25, slot := 2, constantValue := 0 }]
  methods := #[k18m0]
  instanceTypes := #[]
  staticTypes := #[(.object "java/util/function/BiFunction"), (.object "java/util/function/BiFunction"), (.object "java/util/function/BiFunction")]
  resolved := Array.replicate 194 none
  statics := some 3 }

def pool19 : Array CpInfo := pool [(1, u "java/lang/Cloneable"), (0, .class_ 1), (0, u "java/lang/Object"), (0, .class_ 3)] 3

/-- java/lang/Cloneable -/
def k19 : Class := { plain "java/lang/Cloneable" (some 0) with
  accessFlags := 1537
  interfaces := #[]
  cf := some (fileOf pool19 2 #[] #[] 1537 4 #[] #[])
  fields := #[]
  methods := #[]
  instanceTypes := #[]
  staticTypes := #[]
  resolved := Array.replicate 8 none
  statics := none }

/-- the primitive byte -/
def k20 : Class := { plain "byte" none with kind := .primitive 'B', accessFlags := 0x411 }
/-- [B -/
def k21 : Class := { plain "[B" (some 0) with kind := .array 20 .byte, interfaces := #[19, 7], accessFlags := 1041 }

/-- the primitive int -/
def k22 : Class := { plain "int" none with kind := .primitive 'I', accessFlags := 0x411 }
/-- [I -/
def k23 : Class := { plain "[I" (some 0) with kind := .array 22 .int, interfaces := #[19, 7], accessFlags := 1041 }

def heap : Heap := #[{ cls := 12, slots := #[.long 0, .int 1, .null, .int 0, .null, .int 0, .int 0], vm := .statics 12 },
  { cls := 16, slots := #[.null, .null, .ref 4, .ref 5, .null], vm := .statics 16 },
  { cls := 17, slots := #[.null, .int 0, .int 0, .int 0, .int 0, .int 0, .int 0, .int 0, .int 0, .int 0, .int 0, .int 0, .int 0, .int 0, .int 0, .int 0, .int 0, .int 0, .int 0, .null, .int 0], vm := .statics 17 },
  { cls := 18, slots := #[.null, .null, .null], vm := .statics 18 },
  { cls := 16, slots := #[], vm := .none },
  { cls := 23, slots := #[.int 1207963663, .int 1207963663, .int 1207963663, .int 1207963663, .int 1207963663, .int 1207963663, .int 1207963663, .int 1207963663, .int 1207963663, .int 1476411407, .int 1342193679, .int 1476411407, .int 1610629135, .int 1342193679, .int 1207963663, .int 1207963663, .int 1207963663, .int 1207963663, .int 1207963663, .int 1207963663, .int 1207963663, .int 1207963663, .int 1207963663, .int 1207963663, .int 1207963663, .int 1207963663, .int 1207963663, .int 1207963663, .int 1342193679, .int 1342193679, .int 1342193679, .int 1476411407, .int 1610629132, .int 1744830488, .int 1744830488, .int 671088664, .int 671113242, .int 671088664, .int 1744830488, .int 1744830488, .int (-402653163), .int (-402653162), .int 1744830488, .int 536870937, .int 939524120, .int 536870932, .int 939524120, .int 939524120, .int 402667017, .int 402667017, .int 402667017, .int 402667017, .int 402667017, .int 402667017, .int 402667017, .int 402667017, .int 402667017, .int 402667017, .int 939524120, .int 1744830488, .int (-402653159), .int 1744830489, .int (-402653159), .int 1744830488, .int 1744830488, .int 8552417, .int 8552417, .int 8552417, .int 8552417, .int 8552417, .int 8552417, .int 8552417, .int 8552417, .int 8552417, .int 8552417, .int 8552417, .int 8552417, .int 8552417, .int 8552417, .int 8552417, .int 8552417, .int 8552417, .int 8552417, .int 8552417, .int 8552417, .int 8552417, .int 8552417, .int 8552417, .int 8552417, .int 8552417, .int 8552417, .int (-402653163), .int 1744830488, .int (-402653162), .int 1744830491, .int 1744850967, .int 1744830491, .int 8486882, .int 8486882, .int 8486882, .int 8486882, .int 8486882, .int 8486882, .int 8486882, .int 8486882, .int 8486882, .int 8486882, .int 8486882, .int 8486882, .int 8486882, .int 8486882, .int 8486882, .int 8486882, .int 8486882, .int 8486882, .int 8486882, .int 8486882, .int 8486882, .int 8486882, .int 8486882, .int 8486882, .int 8486882, .int 8486882, .int (-402653163), .int 1744830489, .int (-402653162), .int 1744830489, .int 1207963663, .int 1207963663, .int 1207963663, .int 1207963663, .int 1207963663, .int 1207963663, .int 1342181391, .int 1207963663, .int 1207963663, .int 1207963663, .int 1207963663, .int 1207963663, .int 1207963663, .int 1207963663, .int 1207963663, .int 1207963663, .int 1207963663, .int 1207963663, .int 1207963663, .int 1207963663, .int 1207963663, .int 1207963663, .int 1207963663, .int 1207963663, .int 1207963663, .int 1207963663, .int 1207963663, .int 1207963663, .int 1207963663, .int 1207963663, .int 1207963663, .int 1207963663, .int 1207963663, .int 939524108, .int 1744830488, .int 671113242, .int 671113242, .int 671113242, .int 671113242, .int 1744830492, .int 1744830488, .int 1744830491, .int 1744830492, .int 28677, .int (-402653155), .int 1744830489, .int 1207963664, .int 1744830492, .int 1744830491, .int 671088668, .int 671088665, .int 402654731, .int 402654731, .int 1744830491, .int 134049794, .int 1744830488, .int 1744830488, .int 1744830491, .int 402654475, .int 28677, .int (-402653154), .int 1744832523, .int 1744832523, .int 1744832523, .int 1744830488, .int 8548353, .int 8548353, .int 8548353, .int 8548353, .int 8548353, .int 8548353, .int 8548353, .int 8548353, .int 8548353, .int 8548353, .int 8548353, .int 8548353, .int 8548353, .int 8548353, .int 8548353, .int 8548353, .int 8548353, .int 8548353, .int 8548353, .int 8548353, .int 8548353, .int 8548353, .int 8548353, .int 1744830489, .int 8548353, .int 8548353, .int 8548353, .int 8548353, .int 8548353, .int 8548353, .int 8548353, .int 134049794, .int 8482818, .int 8482818, .int 8482818, .int 8482818, .int 8482818, .int 8482818, .int 8482818, .int 8482818, .int 8482818, .int 8482818, .int 8482818, .int 8482818, .int 8482818, .int 8482818, .int 8482818, .int 8482818, .int 8482818, .int 8482818, .int 8482818, .int 8482818, .int 8482818, .int 8482818, .int 8482818, .int 1744830489, .int 8482818, .int 8482818, .int 8482818, .int 8482818, .int 8482818, .int 8482818, .int 8482818, .int 102592514], vm := .none }]
def classes : Array Class := #[k0, k1, k2, k3, k4, k5, k6, k7, k8, k9, k10, k11, k12, k13, k14, k15, k16, k17, k18, k19, k20, k21, k22, k23]
def interned : List (Array UInt16 × Addr) := []
def slotsUsed : Nat := 292
def theMethod : MethodId := ⟨1, 1⟩
def args0 : Array Value := #[.long 3, .long 5, .int 2]
def aboutOver (below : List Frame) : State where
  vm := { classes := classes, interned := interned.toArray }
  heap := heap
  slotsUsed := slotsUsed
  threads := #[{ frames := .invoking theMethod args0 :: below }]
def below0 : List Frame := [.native { method := ⟨0, 0⟩, args := #[] }]
def about1 : State := aboutOver below0
def p0 : Program := .bare "" "" ""
def e0 : Env := launch0.env 0 0 0
theorem w_frames : about1.frames = Frame.invoking theMethod args0 :: below0 := rfl
set_option maxRecDepth 65536 in
theorem w_args : argsFit about1.vm theMethod args0 = true := by decide +kernel
set_option maxRecDepth 65536 in
theorem w_heap : heapFits about1 = true := by decide +kernel
set_option maxRecDepth 65536 in
theorem w_runnable : about1.curStatus? = some .runnable := by decide +kernel
set_option maxRecDepth 65536 in
theorem w_alone : about1.alone = true := by decide +kernel
set_option maxRecDepth 65536 in
theorem w_named : about1.methodNamed? x = some theMethod := by decide +kernel
set_option maxRecDepth 65536 in
theorem w_hears : about1.hears theMethod below0 = true := by decide +kernel
set_option maxRecDepth 65536 in
theorem w_ripe : about1.ripe theMethod args0 below0 = true := by decide +kernel
theorem w_running : about1.status = .running := rfl
set_option maxRecDepth 65536 in
theorem w_room : about1.hasRoom e0.platform room_1 = true :=
  launch0.hasRoom_least _ room_1 (by decide +kernel) (by decide +kernel) (by decide +kernel) (by decide +kernel) (by decide +kernel) (by decide +kernel)
theorem allAtoms_all (ts : List Jvm.Cond) (a : Array Jvm.Value) (st : Jvm.State) : (allAtoms ts).before a st = ts.all (fun c => c.before a st) := by
  induction ts with
  | nil => rfl
  | cons c t ih =>
    show (Jvm.Cond.and c (allAtoms t)).before a st = _
    rw [Jvm.Cond.before_and, ih, List.all_cons]
def words1 : List Jvm.Cond := Jvm.Cond.code x code maxLocals ret :: tables_1
/-- a 'code' word, met by the world's own term for the bytes: nothing is compared byte by byte -/
theorem code_word {y : MethodName} {bytes : ByteArray} {mx : Nat} {rt : Option FieldType} {a : Array Value} {s : State} {m : MethodId} {meth : Method} {c : Code} (h1 : s.methodNamed? y = some m) (h2 : s.vm.method? m = some meth) (h3 : meth.code = some c) (h4 : c.code = bytes)
    (h5 : (c.maxLocals == mx && c.exceptionTable.isEmpty && decide (c.maxStack ≤ mostOperands) && decide (meth.sig.returnType = rt) && !meth.locks && decide (parseMethodDescriptor y.desc = some meth.sig)) = true) : (Jvm.Cond.code y bytes mx rt).before a s = true := by
  simp only [Bool.and_eq_true, beq_iff_eq, Bool.not_eq_true', decide_eq_true_eq] at h5
  obtain ⟨⟨⟨⟨⟨g1, g2⟩, g3⟩, g4⟩, g5⟩, g6⟩ := h5
  simp [Cond.before, Cond.holds, Cond.value, h1, h2, h3, h4, g1, g2, g3, g4, g5, g6]
def isCode : Jvm.Cond → Bool
  | .code _ _ _ _ => true
  | _ => false
theorem all_split {L : List Jvm.Cond} {P : Jvm.Cond → Bool} (h1 : L.all (fun c => isCode c || P c) = true) (h2 : ∀ c ∈ L.filter isCode, P c = true) : L.all P = true := by
  refine List.all_eq_true.mpr fun c hc => ?_
  have h := List.all_eq_true.mp h1 c hc
  rcases Bool.eq_false_or_eq_true (isCode c) with hi | hi
  · exact h2 c (List.mem_filter.mpr ⟨hc, hi⟩)
  · simpa [hi] using h
set_option maxRecDepth 65536 in
theorem w_c0 : (Jvm.Cond.code x code maxLocals ret).before args0 about1 = true := code_word (m := ⟨1, 1⟩) (meth := k1m1) (c := k1c1) (by decide +kernel) rfl rfl rfl (by decide +kernel)
set_option maxRecDepth 65536 in
theorem w_c1 : (Jvm.Cond.code ({ cls := "java/lang/Math", name := "max", desc := "(JJ)J" } : Jvm.MethodName) jdk_29_method_66_code (4 : Nat) (Option.some Jvm.ClassFile.FieldType.long)).before args0 about1 = true := code_word (m := ⟨2, 1⟩) (meth := k2m1) (c := k2c1) (by decide +kernel) rfl rfl rfl (by decide +kernel)
set_option maxRecDepth 65536 in
theorem w_c2 : (Jvm.Cond.code ({ cls := "com/example/vestwright/vestwright/plan/Plan$Fraction", name := "<init>", desc := "(JJ)V" } : Jvm.MethodName) prog_49_method_1_code (5 : Nat) (Option.none : Option Jvm.ClassFile.FieldType)).before args0 about1 = true := code_word (m := ⟨4, 0⟩) (meth := k4m0) (c := k4c0) (by decide +kernel) rfl rfl rfl (by decide +kernel)
set_option maxRecDepth 65536 in
theorem w_c3 : (Jvm.Cond.code ({ cls := "java/lang/Record", name := "<init>", desc := "()V" } : Jvm.MethodName) jdk_30_method_1_code (1 : Nat) (Option.none : Option Jvm.ClassFile.FieldType)).before args0 about1 = true := code_word (m := ⟨3, 0⟩) (meth := k3m0) (c := k3c0) (by decide +kernel) rfl rfl rfl (by decide +kernel)
set_option maxRecDepth 65536 in
theorem w_c4 : (Jvm.Cond.code ({ cls := "java/lang/Object", name := "<init>", desc := "()V" } : Jvm.MethodName) object_method_1_code (1 : Nat) (Option.none : Option Jvm.ClassFile.FieldType)).before args0 about1 = true := code_word (m := ⟨0, 0⟩) (meth := k0m0) (c := k0c0) (by decide +kernel) rfl rfl rfl (by decide +kernel)
set_option maxRecDepth 65536 in
theorem w_c5 : (Jvm.Cond.code ({ cls := "com/example/vestwright/vestwright/plan/Plan$EarlyReduction$PerMonth", name := "<init>", desc := "(Ljava/lang/String;Lcom/example/vestwright/vestwright/plan/Plan$Fraction;)V" } : Jvm.MethodName) prog_44_method_1_code (3 : Nat) (Option.none : Option Jvm.ClassFile.FieldType)).before args0 about1 = true := code_word (m := ⟨6, 0⟩) (meth := k6m0) (c := k6c0) (by decide +kernel) rfl rfl rfl (by decide +kernel)
set_option maxRecDepth 65536 in
theorem w_c6 : (Jvm.Cond.code ({ cls := "com/example/vestwright/vestwright/plan/Plan", name := "requireSection", desc := "(Ljava/lang/String;)V" } : Jvm.MethodName) prog_27_method_9_code (1 : Nat) (Option.none : Option Jvm.ClassFile.FieldType)).before args0 about1 = true := code_word (m := ⟨13, 1⟩) (meth := k13m1) (c := k13c1) (by decide +kernel) rfl rfl rfl (by decide +kernel)
set_option maxRecDepth 65536 in
theorem w_c7 : (Jvm.Cond.code ({ cls := "com/example/vestwright/vestwright/plan/Plan", name := "require", desc := "(Ljava/lang/Object;Ljava/lang/String;)Ljava/lang/Object;" } : Jvm.MethodName) prog_27_method_8_code (2 : Nat) (Option.some (Jvm.ClassFile.FieldType.object "java/lang/Object"))).before args0 about1 = true := code_word (m := ⟨13, 0⟩) (meth := k13m0) (c := k13c0) (by decide +kernel) rfl rfl rfl (by decide +kernel)
set_option maxRecDepth 65536 in
theorem w_c8 : (Jvm.Cond.code ({ cls := "java/lang/String", name := "isBlank", desc := "()Z" } : Jvm.MethodName) jdk_42_method_117_code (1 : Nat) (Option.some Jvm.ClassFile.FieldType.boolean)).before args0 about1 = true := code_word (m := ⟨12, 4⟩) (meth := k12m4) (c := k12c4) (by decide +kernel) rfl rfl rfl (by decide +kernel)
set_option maxRecDepth 65536 in
theorem w_c9 : (Jvm.Cond.code ({ cls := "java/lang/String", name := "indexOfNonWhitespace", desc := "()I" } : Jvm.MethodName) jdk_42_method_120_code (1 : Nat) (Option.some Jvm.ClassFile.FieldType.int)).before args0 about1 = true := code_word (m := ⟨12, 5⟩) (meth := k12m5) (c := k12c5) (by decide +kernel) rfl rfl rfl (by decide +kernel)
set_option maxRecDepth 65536 in
theorem w_c10 : (Jvm.Cond.code ({ cls := "java/lang/String", name := "isLatin1", desc := "()Z" } : Jvm.MethodName) jdk_42_method_154_code (1 : Nat) (Option.some Jvm.ClassFile.FieldType.boolean)).before args0 about1 = true := code_word (m := ⟨12, 8⟩) (meth := k12m8) (c := k12c8) (by decide +kernel) rfl rfl rfl (by decide +kernel)
set_option maxRecDepth 65536 in
theorem w_c11 : (Jvm.Cond.code ({ cls := "java/lang/StringLatin1", name := "indexOfNonWhitespace", desc := "([B)I" } : Jvm.MethodName) jdk_43_method_37_code (4 : Nat) (Option.some Jvm.ClassFile.FieldType.int)).before args0 about1 = true := code_word (m := ⟨14, 3⟩) (meth := k14m3) (c := k14c3) (by decide +kernel) rfl rfl rfl (by decide +kernel)
set_option maxRecDepth 65536 in
theorem w_c12 : (Jvm.Cond.code ({ cls := "java/lang/StringLatin1", name := "getChar", desc := "([BI)C" } : Jvm.MethodName) jdk_43_method_44_code (2 : Nat) (Option.some Jvm.ClassFile.FieldType.char)).before args0 about1 = true := code_word (m := ⟨14, 4⟩) (meth := k14m4) (c := k14c4) (by decide +kernel) rfl rfl rfl (by decide +kernel)
set_option maxRecDepth 65536 in
theorem w_c13 : (Jvm.Cond.code ({ cls := "java/lang/CharacterDataLatin1", name := "isWhitespace", desc := "(I)Z" } : Jvm.MethodName) jdk_116_method_26_code (3 : Nat) (Option.some Jvm.ClassFile.FieldType.boolean)).before args0 about1 = true := code_word (m := ⟨16, 1⟩) (meth := k16m1) (c := k16c1) (by decide +kernel) rfl rfl rfl (by decide +kernel)
set_option maxRecDepth 65536 in
theorem w_c14 : (Jvm.Cond.code ({ cls := "java/lang/CharacterDataLatin1", name := "getProperties", desc := "(I)I" } : Jvm.MethodName) jdk_116_method_1_code (4 : Nat) (Option.some Jvm.ClassFile.FieldType.int)).before args0 about1 = true := code_word (m := ⟨16, 0⟩) (meth := k16m0) (c := k16c0) (by decide +kernel) rfl rfl rfl (by decide +kernel)
set_option maxRecDepth 65536 in
theorem w_c15 : (Jvm.Cond.code ({ cls := "java/lang/String", name := "length", desc := "()I" } : Jvm.MethodName) jdk_42_method_54_code (1 : Nat) (Option.some Jvm.ClassFile.FieldType.int)).before args0 about1 = true := code_word (m := ⟨12, 1⟩) (meth := k12m1) (c := k12c1) (by decide +kernel) rfl rfl rfl (by decide +kernel)
set_option maxRecDepth 65536 in
theorem w_c16 : (Jvm.Cond.code ({ cls := "java/lang/String", name := "coder", desc := "()B" } : Jvm.MethodName) jdk_42_method_152_code (1 : Nat) (Option.some Jvm.ClassFile.FieldType.byte)).before args0 about1 = true := code_word (m := ⟨12, 7⟩) (meth := k12m7) (c := k12c7) (by decide +kernel) rfl rfl rfl (by decide +kernel)
set_option maxRecDepth 65536 in
theorem w_c17 : (Jvm.Cond.code ({ cls := "java/lang/String", name := "contains", desc := "(Ljava/lang/CharSequence;)Z" } : Jvm.MethodName) jdk_42_method_97_code (2 : Nat) (Option.some Jvm.ClassFile.FieldType.boolean)).before args0 about1 = true := code_word (m := ⟨12, 3⟩) (meth := k12m3) (c := k12c3) (by decide +kernel) rfl rfl rfl (by decide +kernel)
set_option maxRecDepth 65536 in
theorem w_c18 : (Jvm.Cond.code ({ cls := "java/lang/String", name := "toString", desc := "()Ljava/lang/String;" } : Jvm.MethodName) jdk_42_method_126_code (1 : Nat) (Option.some (Jvm.ClassFile.FieldType.object "java/lang/String"))).before args0 about1 = true := code_word (m := ⟨12, 6⟩) (meth := k12m6) (c := k12c6) (by decide +kernel) rfl rfl rfl (by decide +kernel)
set_option maxRecDepth 65536 in
theorem w_c19 : (Jvm.Cond.code ({ cls := "java/lang/String", name := "indexOf", desc := "(Ljava/lang/String;)I" } : Jvm.MethodName) jdk_42_method_84_code (3 : Nat) (Option.some Jvm.ClassFile.FieldType.int)).before args0 about1 = true := code_word (m := ⟨12, 2⟩) (meth := k12m2) (c := k12c2) (by decide +kernel) rfl rfl rfl (by decide +kernel)
set_option maxRecDepth 65536 in
theorem w_c20 : (Jvm.Cond.code ({ cls := "java/lang/StringLatin1", name := "indexOf", desc := "([B[B)I" } : Jvm.MethodName) jdk_43_method_24_code (2 : Nat) (Option.some Jvm.ClassFile.FieldType.int)).before args0 about1 = true := code_word (m := ⟨14, 1⟩) (meth := k14m1) (c := k14c1) (by decide +kernel) rfl rfl rfl (by decide +kernel)
set_option maxRecDepth 65536 in
theorem w_c21 : (Jvm.Cond.code ({ cls := "java/lang/StringLatin1", name := "indexOf", desc := "([BI[BII)I" } : Jvm.MethodName) jdk_43_method_25_code (11 : Nat) (Option.some Jvm.ClassFile.FieldType.int)).before args0 about1 = true := code_word (m := ⟨14, 2⟩) (meth := k14m2) (c := k14c2) (by decide +kernel) rfl rfl rfl (by decide +kernel)
set_option maxRecDepth 65536 in
theorem w_c22 : (Jvm.Cond.code ({ cls := "com/example/vestwright/vestwright/plan/Plan$EarlyReduction$PerMonth", name := "reachesMonthsEarly", desc := "(I)Z" } : Jvm.MethodName) prog_44_method_2_code (2 : Nat) (Option.some Jvm.ClassFile.FieldType.boolean)).before args0 about1 = true := code_word (m := ⟨6, 1⟩) (meth := k6m1) (c := k6c1) (by decide +kernel) rfl rfl rfl (by decide +kernel)
set_option maxRecDepth 65536 in
theorem w_c23 : (Jvm.Cond.code ({ cls := "com/example/vestwright/vestwright/plan/Plan$Fraction", name := "numerator", desc := "()J" } : Jvm.MethodName) prog_49_method_5_code (1 : Nat) (Option.some Jvm.ClassFile.FieldType.long)).before args0 about1 = true := code_word (m := ⟨4, 1⟩) (meth := k4m1) (c := k4c1) (by decide +kernel) rfl rfl rfl (by decide +kernel)
set_option maxRecDepth 65536 in
theorem w_c24 : (Jvm.Cond.code ({ cls := "com/example/vestwright/vestwright/plan/Plan$Fraction", name := "denominator", desc := "()J" } : Jvm.MethodName) prog_49_method_6_code (1 : Nat) (Option.some Jvm.ClassFile.FieldType.long)).before args0 about1 = true := code_word (m := ⟨4, 2⟩) (meth := k4m2) (c := k4c2) (by decide +kernel) rfl rfl rfl (by decide +kernel)
set_option maxRecDepth 65536 in
theorem w_c25 : (Jvm.Cond.code ({ cls := "com/example/vestwright/vestwright/plan/PlanReachesMonthsEarlyPinLaw", name := "expected", desc := "(JJI)Z" } : Jvm.MethodName) method_3_code (7 : Nat) (Option.some Jvm.ClassFile.FieldType.boolean)).before args0 about1 = true := code_word (m := ⟨1, 2⟩) (meth := k1m2) (c := k1c2) (by decide +kernel) rfl rfl rfl (by decide +kernel)
def codes1 : List Jvm.Cond := [Jvm.Cond.code x code maxLocals ret, Jvm.Cond.code ({ cls := "java/lang/Math", name := "max", desc := "(JJ)J" } : Jvm.MethodName) jdk_29_method_66_code (4 : Nat) (Option.some Jvm.ClassFile.FieldType.long), Jvm.Cond.code ({ cls := "com/example/vestwright/vestwright/plan/Plan$Fraction", name := "<init>", desc := "(JJ)V" } : Jvm.MethodName) prog_49_method_1_code (5 : Nat) (Option.none : Option Jvm.ClassFile.FieldType), Jvm.Cond.code ({ cls := "java/lang/Record", name := "<init>", desc := "()V" } : Jvm.MethodName) jdk_30_method_1_code (1 : Nat) (Option.none : Option Jvm.ClassFile.FieldType), Jvm.Cond.code ({ cls := "java/lang/Object", name := "<init>", desc := "()V" } : Jvm.MethodName) object_method_1_code (1 : Nat) (Option.none : Option Jvm.ClassFile.FieldType), Jvm.Cond.code ({ cls := "com/example/vestwright/vestwright/plan/Plan$EarlyReduction$PerMonth", name := "<init>", desc := "(Ljava/lang/String;Lcom/example/vestwright/vestwright/plan/Plan$Fraction;)V" } : Jvm.MethodName) prog_44_method_1_code (3 : Nat) (Option.none : Option Jvm.ClassFile.FieldType), Jvm.Cond.code ({ cls := "com/example/vestwright/vestwright/plan/Plan", name := "requireSection", desc := "(Ljava/lang/String;)V" } : Jvm.MethodName) prog_27_method_9_code (1 : Nat) (Option.none : Option Jvm.ClassFile.FieldType), Jvm.Cond.code ({ cls := "com/example/vestwright/vestwright/plan/Plan", name := "require", desc := "(Ljava/lang/Object;Ljava/lang/String;)Ljava/lang/Object;" } : Jvm.MethodName) prog_27_method_8_code (2 : Nat) (Option.some (Jvm.ClassFile.FieldType.object "java/lang/Object")), Jvm.Cond.code ({ cls := "java/lang/String", name := "isBlank", desc := "()Z" } : Jvm.MethodName) jdk_42_method_117_code (1 : Nat) (Option.some Jvm.ClassFile.FieldType.boolean), Jvm.Cond.code ({ cls := "java/lang/String", name := "indexOfNonWhitespace", desc := "()I" } : Jvm.MethodName) jdk_42_method_120_code (1 : Nat) (Option.some Jvm.ClassFile.FieldType.int), Jvm.Cond.code ({ cls := "java/lang/String", name := "isLatin1", desc := "()Z" } : Jvm.MethodName) jdk_42_method_154_code (1 : Nat) (Option.some Jvm.ClassFile.FieldType.boolean), Jvm.Cond.code ({ cls := "java/lang/StringLatin1", name := "indexOfNonWhitespace", desc := "([B)I" } : Jvm.MethodName) jdk_43_method_37_code (4 : Nat) (Option.some Jvm.ClassFile.FieldType.int), Jvm.Cond.code ({ cls := "java/lang/StringLatin1", name := "getChar", desc := "([BI)C" } : Jvm.MethodName) jdk_43_method_44_code (2 : Nat) (Option.some Jvm.ClassFile.FieldType.char), Jvm.Cond.code ({ cls := "java/lang/CharacterDataLatin1", name := "isWhitespace", desc := "(I)Z" } : Jvm.MethodName) jdk_116_method_26_code (3 : Nat) (Option.some Jvm.ClassFile.FieldType.boolean), Jvm.Cond.code ({ cls := "java/lang/CharacterDataLatin1", name := "getProperties", desc := "(I)I" } : Jvm.MethodName) jdk_116_method_1_code (4 : Nat) (Option.some Jvm.ClassFile.FieldType.int), Jvm.Cond.code ({ cls := "java/lang/String", name := "length", desc := "()I" } : Jvm.MethodName) jdk_42_method_54_code (1 : Nat) (Option.some Jvm.ClassFile.FieldType.int), Jvm.Cond.code ({ cls := "java/lang/String", name := "coder", desc := "()B" } : Jvm.MethodName) jdk_42_method_152_code (1 : Nat) (Option.some Jvm.ClassFile.FieldType.byte), Jvm.Cond.code ({ cls := "java/lang/String", name := "contains", desc := "(Ljava/lang/CharSequence;)Z" } : Jvm.MethodName) jdk_42_method_97_code (2 : Nat) (Option.some Jvm.ClassFile.FieldType.boolean), Jvm.Cond.code ({ cls := "java/lang/String", name := "toString", desc := "()Ljava/lang/String;" } : Jvm.MethodName) jdk_42_method_126_code (1 : Nat) (Option.some (Jvm.ClassFile.FieldType.object "java/lang/String")), Jvm.Cond.code ({ cls := "java/lang/String", name := "indexOf", desc := "(Ljava/lang/String;)I" } : Jvm.MethodName) jdk_42_method_84_code (3 : Nat) (Option.some Jvm.ClassFile.FieldType.int), Jvm.Cond.code ({ cls := "java/lang/StringLatin1", name := "indexOf", desc := "([B[B)I" } : Jvm.MethodName) jdk_43_method_24_code (2 : Nat) (Option.some Jvm.ClassFile.FieldType.int), Jvm.Cond.code ({ cls := "java/lang/StringLatin1", name := "indexOf", desc := "([BI[BII)I" } : Jvm.MethodName) jdk_43_method_25_code (11 : Nat) (Option.some Jvm.ClassFile.FieldType.int), Jvm.Cond.code ({ cls := "com/example/vestwright/vestwright/plan/Plan$EarlyReduction$PerMonth", name := "reachesMonthsEarly", desc := "(I)Z" } : Jvm.MethodName) prog_44_method_2_code (2 : Nat) (Option.some Jvm.ClassFile.FieldType.boolean), Jvm.Cond.code ({ cls := "com/example/vestwright/vestwright/plan/Plan$Fraction", name := "numerator", desc := "()J" } : Jvm.MethodName) prog_49_method_5_code (1 : Nat) (Option.some Jvm.ClassFile.FieldType.long), Jvm.Cond.code ({ cls := "com/example/vestwright/vestwright/plan/Plan$Fraction", name := "denominator", desc := "()J" } : Jvm.MethodName) prog_49_method_6_code (1 : Nat) (Option.some Jvm.ClassFile.FieldType.long), Jvm.Cond.code ({ cls := "com/example/vestwright/vestwright/plan/PlanReachesMonthsEarlyPinLaw", name := "expected", desc := "(JJI)Z" } : Jvm.MethodName) method_3_code (7 : Nat) (Option.some Jvm.ClassFile.FieldType.boolean)]
set_option maxRecDepth 65536 in
theorem codes_eq : words1.filter isCode = codes1 := rfl
theorem w_codes : ∀ c ∈ words1.filter isCode, c.before args0 about1 = true := by
  rw [codes_eq]
  intro c hc
  simp only [codes1, List.mem_cons, List.not_mem_nil, or_false] at hc
  rcases hc with rfl | rfl | rfl | rfl | rfl | rfl | rfl | rfl | rfl | rfl | rfl | rfl | rfl | rfl | rfl | rfl | rfl | rfl | rfl | rfl | rfl | rfl | rfl | rfl | rfl | rfl
  · exact w_c0
  · exact w_c1
  · exact w_c2
  · exact w_c3
  · exact w_c4
  · exact w_c5
  · exact w_c6
  · exact w_c7
  · exact w_c8
  · exact w_c9
  · exact w_c10
  · exact w_c11
  · exact w_c12
  · exact w_c13
  · exact w_c14
  · exact w_c15
  · exact w_c16
  · exact w_c17
  · exact w_c18
  · exact w_c19
  · exact w_c20
  · exact w_c21
  · exact w_c22
  · exact w_c23
  · exact w_c24
  · exact w_c25
set_option maxRecDepth 65536 in
theorem w_t1 : (words1.take 24).all (fun c => isCode c || c.before args0 about1) = true := by decide +kernel
set_option maxRecDepth 65536 in
theorem w_t2 : ((words1.drop 24).take 24).all (fun c => isCode c || c.before args0 about1) = true := by decide +kernel
set_option maxRecDepth 65536 in
theorem w_t3 : (((words1.drop 24).drop 24).take 24).all (fun c => isCode c || c.before args0 about1) = true := by decide +kernel
set_option maxRecDepth 65536 in
theorem w_t4 : ((((words1.drop 24).drop 24).drop 24).take 24).all (fun c => isCode c || c.before args0 about1) = true := by decide +kernel
set_option maxRecDepth 65536 in
theorem w_t5 : (((((words1.drop 24).drop 24).drop 24).drop 24).take 24).all (fun c => isCode c || c.before args0 about1) = true := by decide +kernel
set_option maxRecDepth 65536 in
theorem w_t6 : ((((((words1.drop 24).drop 24).drop 24).drop 24).drop 24).take 24).all (fun c => isCode c || c.before args0 about1) = true := by decide +kernel
set_option maxRecDepth 65536 in
theorem w_t7 : ((((((words1.drop 24).drop 24).drop 24).drop 24).drop 24).drop 24).all (fun c => isCode c || c.before args0 about1) = true := by decide +kernel
theorem w_tables : (allAtoms (Jvm.Cond.code x code maxLocals ret :: tables_1)).before args0 about1 = true := by
  rw [allAtoms_all]
  show words1.all (fun c => c.before args0 about1) = true
  refine all_split ?_ w_codes
  rw [← List.take_append_drop 24 words1, List.all_append, w_t1, ← List.take_append_drop 24 (words1.drop 24), List.all_append, w_t2, ← List.take_append_drop 24 ((words1.drop 24).drop 24), List.all_append, w_t3, ← List.take_append_drop 24 (((words1.drop 24).drop 24).drop 24), List.all_append, w_t4, ← List.take_append_drop 24 ((((words1.drop 24).drop 24).drop 24).drop 24), List.all_append, w_t5, ← List.take_append_drop 24 (((((words1.drop 24).drop 24).drop 24).drop 24).drop 24), List.all_append, w_t6, w_t7]
  rfl
set_option maxRecDepth 65536 in
theorem w_rest : rest_1_c.before args0 about1 = true := by decide +kernel
set_option maxRecDepth 65536 in
theorem w_case : (Jvm.Cond.and given_1 narrow_1).before args0 about1 = true := by decide +kernel
set_option maxRecDepth 65536 in
theorem w_consts : constsHeld consts_1 about1 := Jvm.Lit.constsHeldB_iff.mp (by decide +kernel)
theorem w_applies : (headSpec (Jvm.Cond.code x code maxLocals ret :: tables_1) room_1).applies x e0.platform about1 = true :=
  (Spec.applies_iff w_frames).mpr ⟨w_running, w_runnable, w_alone, w_named, w_hears, w_ripe, w_room, w_tables⟩
theorem atStart : AtStart classFile x code maxLocals ret World_1 tables_1 room_1 Calls_1 rest_1 Pre_1 launch0 p0 e0 about1 theMethod args0 below0 :=
  ⟨lists_1, trivial, launch0.admits_env _ _ _, launch0.least_env, fairChoices_fair.cas, fairChoices_fair.clock, w_frames, w_args, w_heap, w_applies, ⟨w_consts, trivial⟩, w_rest, w_case⟩
end start1
theorem witness_1 : WitnessClaimed_1 := ⟨start1.p0, start1.e0, start1.about1, start1.theMethod, start1.args0, start1.below0, start1.atStart⟩
end Jvm.Pilot.@@N@@
