import JvmDerived
import JvmDerived.Pilot.@@N@@Statement
import JvmDerived.Pilot.@@N@@Code
set_option linter.unusedVariables false
set_option linter.unusedSimpArgs false
namespace Jvm.RoadKit
open Sem ClassFile Op Lib Jvm.Stand Jvm.Free Jvm.LawKit
section New
variable {p : Program} {l : Launch} {e : Env} {R : Room} {s : State} {m : MethodId} {args : Array Value} {below : List Frame} {meth : Method} {c : Code} {T : State} {locs : List Loc} {cells slots : Nat}
theorem retI (X : Stand p l e R s m args below meth c T locs cells slots) (hx : p.tables.exec = Jvm.exec) {pc : Nat} {Ls : Array Slot} {z : Int32} {rest : List Value} (hret : meth.sig.returnType = some .int) (hd : decode c.code pc = .ok (.ireturn, 1)) {fs : List Frame}
    (hl : ∀ (f : JFrame) (acts : List Action), f.method = m → f.locked = none → f.entered = [] → (doReturn e (T.setTop f) acts (some (.int z))).1 = T.setFrames fs) : Steps p.tables e below (T.setTop (mkF m pc Ls (.int z :: rest))) (T.setFrames fs) := by
  have hm' : T.vm.method? m = some meth := X.method'
  have hn : narrow .int (.int z) = .int z := rfl
  show Steps p.tables e below (T.setTop { method := m, pc := pc, locals := Ls, stack := _ :: rest, locked := none }) _
  jvm_step X.here [X.here.top, hx, hd, hm', hret, hn]
  first | (intro acts; rw [hl _ acts rfl rfl rfl]) | rw [hl _ _ rfl rfl rfl]
  exact Steps.refl _
end New
end Jvm.RoadKit
namespace Jvm.Pilot.@@N@@
open Jvm Jvm.ClassFile Sem Op Lib Jvm.Free Jvm.Stand Jvm.LawKit Jvm.RoadKit Bundle Jvm.Pilot.@@N@@.Jvm.D
/-- a body's contract: from these arguments and this heap it returns, and Q says what it leaves -/
abbrev OwCon (l : Launch) (y : MethodName) (bytes : ByteArray) (ml : Nat) (ret : Option FieldType) (ws : List Jvm.Cond) (rm : Room) (as : Array Value) (Z : State) (h0 : Heap) (Q : Option Value → Heap → List Loc → Prop) : Prop :=
  MetFree l y (head1 (Jvm.Cond.code y bytes ml ret :: ws) rm) (fun a U => a = as ∧ Z.Warmed39 U.vm ∧ U.heap = h0) (fun _ _ _ _ _ => True) (fun _ U o U' => ∃ v L, o = .returned v ∧ Q v U'.heap L ∧ FrameEnd U o U' L rm.cells rm.slots)
/-- .. it may load literals that nobody loaded before -/
abbrev OwConW (l : Launch) (y : MethodName) (bytes : ByteArray) (ml : Nat) (ret : Option FieldType) (ws : List Jvm.Cond) (rm : Room) (as : Array Value) (Z : State) (h0 : Heap) (Q : Option Value → Heap → List Loc → Prop) : Prop :=
  MetFree l y (head1 (Jvm.Cond.code y bytes ml ret :: ws) rm) (fun a U => a = as ∧ Z.Warmed39 U.vm ∧ U.heap = h0) (fun _ _ _ _ _ => True) (fun _ U o U' => ∃ v L, o = .returned v ∧ Q v U'.heap L ∧ ReturnedEndW U o U' L rm.cells rm.slots)
/-- it returns val and leaves the heap as it was -/
def OwQ (val : Option Value) (h0 : Heap) (n0 : Nat) (v : Option Value) (h : Heap) (L : List Loc) : Prop := v = val ∧ Fr n0 L ∧ h = h0
/-- it writes nothing old, and P holds of what it returns and leaves -/
def OwP (P : Option Value → Heap → Prop) (n0 : Nat) (v : Option Value) (h : Heap) (L : List Loc) : Prop := Fr n0 L ∧ P v h
theorem own_eqI {args : Array Value} {s : State} {t : Term} {k : Int32} (h : (Jvm.Cond.eq t (.int k)).value args s none s [] = some true) : t.eval args s none [] s = some (.int k) := by
  obtain ⟨x, y, h1, h2, -, q⟩ := cmp_v (Or.inl h)
  cases h2
  obtain ⟨z, rfl⟩ := q
  rw [h1]; simp [Cond.value, h1, Term.eval] at h; rw [h]
theorem own_eqJ {args : Array Value} {s : State} {t : Term} {k : Int64} (h : (Jvm.Cond.eq t (.long k)).value args s none s [] = some true) : t.eval args s none [] s = some (.long k) := by
  obtain ⟨x, y, h1, h2, -, q⟩ := cmp_v (Or.inl h)
  cases h2
  obtain ⟨z, rfl⟩ := q
  rw [h1]; simp [Cond.value, h1, Term.eval] at h; rw [h]
theorem own_eqR {args : Array Value} {s : State} {t t' : Term} {a : Addr} (h : (Jvm.Cond.eq t t').value args s none s [] = some true) (e : t'.eval args s none [] s = some (.ref a)) : t.eval args s none [] s = some (.ref a) := by
  obtain ⟨x, y, h1, h2, q, -⟩ := cmp_v (Or.inl h)
  cases e.symm.trans h2
  cases x with
  | null => simp [Cond.value, h1, h2] at h
  | ref b => simp [Cond.value, h1, h2] at h; rw [h1, h]
  | _ => simp [Kin, Value.isRef] at q
theorem own_cat {v : Value} (h : v.isRef = true) : v.category = 1 := by rcases ref_cases h with rfl | ⟨a, rfl⟩ <;> rfl
theorem own_len {args : Array Value} {s : State} {t : Term} {a : Addr} {cl : Cell} {ty : FieldType} {n : Int32} (e : t.eval args s none [] s = some (.ref a)) (A : Arr s s.heap a cl ty) (h : (Term.length t).eval args s none [] s = some (.int n)) : cl.slots.size < 2 ^ 31 ∧ cl.slots.size.toInt32 = n := by
  have q := Arr.fin (Vm.Alike.refl _) A
  simpa [Term.eval, e, q] using h
theorem own_el {args : Array Value} {s : State} {t : Term} {a : Addr} {cl : Cell} {ty : FieldType} {j : Int32} {v : Value} (e : t.eval args s none [] s = some (.ref a)) (A : Arr s s.heap a cl ty) (h : (Term.elem t (.int j)).eval args s none [] s = some v) : cl.slots[j.toNatClampNeg]? = some v := (elem_in h e rfl A.1).2
theorem own_fld {args : Array Value} {s : State} {t : Term} {a : Addr} {C n d : String} {v : Value} (e : t.eval args s none [] s = some (.ref a)) (h : (Term.field t C n d).eval args s none [] s = some v) : Fld s s.heap a C n d v := Fld.start ((fld_at e).symm.trans h)
theorem own_i4 (x : Int32) : (x &&& (3 : Int32)) = 0 ∨ (x &&& (3 : Int32)) = 1 ∨ (x &&& (3 : Int32)) = 2 ∨ (x &&& (3 : Int32)) = 3 := by
  have h1 := c_mask x (3 : Int32) 2 (by decide) (by decide)
  generalize (x &&& (3 : Int32)) = y at h1 ⊢
  simp only [← Int32.toInt_inj]
  show y.toInt = 0 ∨ y.toInt = 1 ∨ y.toInt = 2 ∨ y.toInt = 3
  omega

theorem d1_0 : decode method_2_code 0 = .ok (.iload_n 0, 1) := by decide +kernel
theorem d1_1 : decode method_2_code 1 = .ok (.ifCond .ne 6, 3) := by decide +kernel
theorem d1_4 : decode method_2_code 4 = .ok (.bipush 36, 2) := by decide +kernel
theorem d1_6 : decode method_2_code 6 = .ok (.ireturn, 1) := by decide +kernel
theorem d1_7 : decode method_2_code 7 = .ok (.iload_n 0, 1) := by decide +kernel
theorem d1_8 : decode method_2_code 8 = .ok (.iconst 1, 1) := by decide +kernel
theorem d1_9 : decode method_2_code 9 = .ok (.if_icmp .ne 6, 3) := by decide +kernel
theorem d1_12 : decode method_2_code 12 = .ok (.bipush 43, 2) := by decide +kernel
theorem d1_14 : decode method_2_code 14 = .ok (.ireturn, 1) := by decide +kernel
theorem d1_15 : decode method_2_code 15 = .ok (.iload_n 0, 1) := by decide +kernel
theorem d1_16 : decode method_2_code 16 = .ok (.iconst 2, 1) := by decide +kernel
theorem d1_17 : decode method_2_code 17 = .ok (.if_icmp .ne 6, 3) := by decide +kernel
theorem d1_20 : decode method_2_code 20 = .ok (.bipush 35, 2) := by decide +kernel
theorem d1_22 : decode method_2_code 22 = .ok (.ireturn, 1) := by decide +kernel
theorem d1_23 : decode method_2_code 23 = .ok (.bipush 34, 2) := by decide +kernel
theorem d1_25 : decode method_2_code 25 = .ok (.ireturn, 1) := by decide +kernel
theorem owpn1 : plainName "com/example/pathfix/pathfix/core/KindOfMarkPinLaw" = true := by first | (simp [plainName, overriddenIn]; done) | decide +kernel
theorem d2_0 : decode method_3_code 0 = .ok (.iload_n 0, 1) := by decide +kernel
theorem d2_1 : decode method_3_code 1 = .ok (.bipush 36, 2) := by decide +kernel
theorem d2_3 : decode method_3_code 3 = .ok (.if_icmp .ne 7, 3) := by decide +kernel
theorem d2_6 : decode method_3_code 6 = .ok (.getstatic 7, 3) := by decide +kernel
theorem d2_9 : decode method_3_code 9 = .ok (.areturn, 1) := by decide +kernel
theorem d2_10 : decode method_3_code 10 = .ok (.iload_n 0, 1) := by decide +kernel
theorem d2_11 : decode method_3_code 11 = .ok (.bipush 43, 2) := by decide +kernel
theorem d2_13 : decode method_3_code 13 = .ok (.if_icmp .ne 7, 3) := by decide +kernel
theorem d2_16 : decode method_3_code 16 = .ok (.getstatic 13, 3) := by decide +kernel
theorem d2_19 : decode method_3_code 19 = .ok (.areturn, 1) := by decide +kernel
theorem d2_20 : decode method_3_code 20 = .ok (.iload_n 0, 1) := by decide +kernel
theorem d2_21 : decode method_3_code 21 = .ok (.bipush 35, 2) := by decide +kernel
theorem d2_23 : decode method_3_code 23 = .ok (.if_icmp .ne 7, 3) := by decide +kernel
theorem d2_26 : decode method_3_code 26 = .ok (.getstatic 16, 3) := by decide +kernel
theorem d2_29 : decode method_3_code 29 = .ok (.areturn, 1) := by decide +kernel
theorem d2_30 : decode method_3_code 30 = .ok (.iload_n 0, 1) := by decide +kernel
theorem d2_31 : decode method_3_code 31 = .ok (.bipush 34, 2) := by decide +kernel
theorem d2_33 : decode method_3_code 33 = .ok (.if_icmp .ne 7, 3) := by decide +kernel
theorem d2_36 : decode method_3_code 36 = .ok (.getstatic 19, 3) := by decide +kernel
theorem d2_39 : decode method_3_code 39 = .ok (.areturn, 1) := by decide +kernel
theorem d2_40 : decode method_3_code 40 = .ok (.aconst_null, 1) := by decide +kernel
theorem d2_41 : decode method_3_code 41 = .ok (.areturn, 1) := by decide +kernel
theorem owpn2 : plainName "com/example/pathfix/pathfix/core/KindOfMarkPinLaw" = true := by first | (simp [plainName, overriddenIn]; done) | decide +kernel
theorem d3_0 : decode prog_12_method_5_code 0 = .ok (.invokestatic 39, 3) := by decide +kernel
theorem d3_3 : decode prog_12_method_5_code 3 = .ok (.astore_n 1, 1) := by decide +kernel
theorem d3_4 : decode prog_12_method_5_code 4 = .ok (.aload_n 1, 1) := by decide +kernel
theorem d3_5 : decode prog_12_method_5_code 5 = .ok (.arraylength, 1) := by decide +kernel
theorem d3_6 : decode prog_12_method_5_code 6 = .ok (.istore_n 2, 1) := by decide +kernel
theorem d3_7 : decode prog_12_method_5_code 7 = .ok (.iconst 0, 1) := by decide +kernel
theorem d3_8 : decode prog_12_method_5_code 8 = .ok (.istore_n 3, 1) := by decide +kernel
theorem d3_9 : decode prog_12_method_5_code 9 = .ok (.iload_n 3, 1) := by decide +kernel
theorem d3_10 : decode prog_12_method_5_code 10 = .ok (.iload_n 2, 1) := by decide +kernel
theorem d3_11 : decode prog_12_method_5_code 11 = .ok (.if_icmp .ge 26, 3) := by decide +kernel
theorem d3_14 : decode prog_12_method_5_code 14 = .ok (.aload_n 1, 1) := by decide +kernel
theorem d3_15 : decode prog_12_method_5_code 15 = .ok (.iload_n 3, 1) := by decide +kernel
theorem d3_16 : decode prog_12_method_5_code 16 = .ok (.aaload, 1) := by decide +kernel
theorem d3_17 : decode prog_12_method_5_code 17 = .ok (.astore 4, 2) := by decide +kernel
theorem d3_19 : decode prog_12_method_5_code 19 = .ok (.aload 4, 2) := by decide +kernel
theorem d3_21 : decode prog_12_method_5_code 21 = .ok (.getfield 35, 3) := by decide +kernel
theorem d3_24 : decode prog_12_method_5_code 24 = .ok (.iload_n 0, 1) := by decide +kernel
theorem d3_25 : decode prog_12_method_5_code 25 = .ok (.if_icmp .ne 6, 3) := by decide +kernel
theorem d3_28 : decode prog_12_method_5_code 28 = .ok (.aload 4, 2) := by decide +kernel
theorem d3_30 : decode prog_12_method_5_code 30 = .ok (.areturn, 1) := by decide +kernel
theorem d3_31 : decode prog_12_method_5_code 31 = .ok (.iinc 3 1, 3) := by decide +kernel
theorem d3_34 : decode prog_12_method_5_code 34 = .ok (.goto (-25), 3) := by decide +kernel
theorem d3_37 : decode prog_12_method_5_code 37 = .ok (.aconst_null, 1) := by decide +kernel
theorem d3_38 : decode prog_12_method_5_code 38 = .ok (.areturn, 1) := by decide +kernel
theorem owpn3 : plainName "com/example/pathfix/pathfix/core/Kind" = true := by first | (simp [plainName, overriddenIn]; done) | decide +kernel
theorem d4_0 : decode prog_12_method_1_code 0 = .ok (.getstatic 16, 3) := by decide +kernel
theorem d4_3 : decode prog_12_method_1_code 3 = .ok (.invokevirtual 20, 3) := by decide +kernel
theorem d4_6 : decode prog_12_method_1_code 6 = .ok (.checkcast 21, 3) := by decide +kernel
theorem d4_9 : decode prog_12_method_1_code 9 = .ok (.areturn, 1) := by decide +kernel
theorem owpn4 : plainName "com/example/pathfix/pathfix/core/Kind" = true := by first | (simp [plainName, overriddenIn]; done) | decide +kernel
theorem d5_0 : decode prog_12_method_4_code 0 = .ok (.aload_n 0, 1) := by decide +kernel
theorem d5_1 : decode prog_12_method_4_code 1 = .ok (.getfield 35, 3) := by decide +kernel
theorem d5_4 : decode prog_12_method_4_code 4 = .ok (.ireturn, 1) := by decide +kernel
theorem owpn5 : plainName "com/example/pathfix/pathfix/core/Kind" = true := by first | (simp [plainName, overriddenIn]; done) | decide +kernel
theorem owpn0 : plainName "com/example/pathfix/pathfix/core/KindOfMarkPinLaw" = true := by first | (simp [plainName, overriddenIn]; done) | decide +kernel
theorem owpd0 : parseMethodDescriptor "()[Lcom/example/pathfix/pathfix/core/Kind;" = some ⟨[], some (.array (.object "com/example/pathfix/pathfix/core/Kind"))⟩ := by decide +kernel
theorem owpd1 : parseMethodDescriptor "(C)Lcom/example/pathfix/pathfix/core/Kind;" = some ⟨[.char], some (.object "com/example/pathfix/pathfix/core/Kind")⟩ := by decide +kernel
theorem owpd2 : parseMethodDescriptor "()C" = some ⟨[], some .char⟩ := by decide +kernel
theorem owpd3 : parseMethodDescriptor "(I)C" = some ⟨[.int], some .char⟩ := by decide +kernel
def OwW (Z : State) (w_PROPERTY : Addr) (w__VALUES : Addr) (w_RESOURCE : Addr) (w_CLASS : Addr) (w_LITERAL : Addr) (k_w__VALUES : ClassId) : Prop := (Exa Z Z.heap w_PROPERTY "com/example/pathfix/pathfix/core/Kind") ∧ (Exa Z Z.heap w__VALUES "[Lcom/example/pathfix/pathfix/core/Kind;") ∧ (Exa Z Z.heap w_RESOURCE "com/example/pathfix/pathfix/core/Kind") ∧ (Exa Z Z.heap w_CLASS "com/example/pathfix/pathfix/core/Kind") ∧ (Exa Z Z.heap w_LITERAL "com/example/pathfix/pathfix/core/Kind") ∧ (Sta Z Z.heap "com/example/pathfix/pathfix/core/Kind" "PROPERTY" "Lcom/example/pathfix/pathfix/core/Kind;" (.ref w_PROPERTY)) ∧ (Sta Z Z.heap "com/example/pathfix/pathfix/core/Kind" "$VALUES" "[Lcom/example/pathfix/pathfix/core/Kind;" (.ref w__VALUES)) ∧ (Sta Z Z.heap "com/example/pathfix/pathfix/core/Kind" "RESOURCE" "Lcom/example/pathfix/pathfix/core/Kind;" (.ref w_RESOURCE)) ∧ (Sta Z Z.heap "com/example/pathfix/pathfix/core/Kind" "CLASS" "Lcom/example/pathfix/pathfix/core/Kind;" (.ref w_CLASS)) ∧ (Sta Z Z.heap "com/example/pathfix/pathfix/core/Kind" "LITERAL" "Lcom/example/pathfix/pathfix/core/Kind;" (.ref w_LITERAL)) ∧ (Fld Z Z.heap w_RESOURCE "com/example/pathfix/pathfix/core/Kind" "mark" "C" (.int (36 : Int32))) ∧ (Fld Z Z.heap w_PROPERTY "com/example/pathfix/pathfix/core/Kind" "mark" "C" (.int (43 : Int32))) ∧ (Fld Z Z.heap w_CLASS "com/example/pathfix/pathfix/core/Kind" "mark" "C" (.int (35 : Int32))) ∧ (Fld Z Z.heap w_LITERAL "com/example/pathfix/pathfix/core/Kind" "mark" "C" (.int (34 : Int32))) ∧ (Arv Z Z.heap w__VALUES k_w__VALUES (.object "com/example/pathfix/pathfix/core/Kind") (4 : Int32) [(.ref w_RESOURCE), (.ref w_PROPERTY), (.ref w_CLASS), (.ref w_LITERAL)] .null) ∧ True
set_option maxRecDepth 65536 in
set_option maxHeartbeats 40000000 in
theorem rm4 (l : Launch) (Z : State) (a0 : Array Value) (hw : ∀ d ∈ tables_1, d.before a0 Z = true) (ws : List Jvm.Cond) (n0 : Nat) (h0 : Heap) (O : Old Z n0 h0) (w_PROPERTY : Addr) (w__VALUES : Addr) (w_RESOURCE : Addr) (w_CLASS : Addr) (w_LITERAL : Addr) (k_w__VALUES : ClassId) (W : OwW Z w_PROPERTY w__VALUES w_RESOURCE w_CLASS w_LITERAL k_w__VALUES)  :
    OwCon l (⟨"com/example/pathfix/pathfix/core/Kind", "values", "()[Lcom/example/pathfix/pathfix/core/Kind;"⟩ : MethodName) prog_12_method_1_code 0 (some (.array (.object "com/example/pathfix/pathfix/core/Kind"))) ws ({ frames := 1, cells := 1, slots := 4, locals := 14 } : Room) #[] Z h0 (OwP (fun v h => ∃ (a : Addr) (k : ClassId), v = some (.ref a) ∧ n0 ≤ a ∧ Old Z n0 h ∧ Arh Z h a k (.object "com/example/pathfix/pathfix/core/Kind") (4 : Int32) [] [(.ref w_RESOURCE), (.ref w_PROPERTY), (.ref w_CLASS), (.ref w_LITERAL)] .null) n0) := by
  refine MetFree.of_bodySF (plainFor_of_name owpn4) hisR ?_
  intro p e s m args below meth c s₁ Bd hml0 hP hK
  obtain ⟨rfl, hZ, hh⟩ := hP
  have hx := Bd.exec
  have hby := Bd.bytes
  have hml : c.maxLocals = 0 := hml0
  have hown : s.vm.findClass "com/example/pathfix/pathfix/core/Kind" = some m.cls := findClass_of_methodNamed Bd.named
  have hnm := (name_of_methodNamed Bd.named Bd.method).1
  have X0 : Stand p l e ({ frames := 1, cells := 1, slots := 4, locals := 14 } : Room) s m #[] below meth c s₁ [] 0 0 := Stand.of_body Bd
  have e0 : s₁.heap = h0 := by rw [← hh, Bd.state]; rfl
  have N0 := Fr.nil n0
  have WW := W
  obtain ⟨E_w_PROPERTY, E_w__VALUES, E_w_RESOURCE, E_w_CLASS, E_w_LITERAL, S_Kind_PROPERTY, S_Kind__VALUES, S_Kind_RESOURCE, S_Kind_CLASS, S_Kind_LITERAL, F_w_RESOURCE_mark, F_w_PROPERTY_mark, F_w_CLASS_mark, F_w_LITERAL_mark, V_w__VALUES, -⟩ := WW
  have ef : entryFrame m #[] 0 = mkF m 0 #[] [] := by first | rfl | (simp [entryFrame, mkF, argsToLocals, Value.category]; done)
  have pre0 : ∀ t, Steps p.tables e below (s₁.setTop (mkF m 0 #[] [])) t → Steps p.tables e below (s₁.setTop (entryFrame m #[] 0)) t := fun t k => castTop ef k
  obtain ⟨T1, X1, e1, st1⟩ := getS2 X0 hx hZ hown (host := "") (Or.inl (hw _ (List.mem_of_getElem? (i := 16) rfl))) Via.refl e0 (S_Kind__VALUES.ext O.2) (g := (mkF m 0 #[] [])) rfl (hb hby d4_0)
  obtain ⟨T2, h2, X2, e2, E2, Vh2, A2, st2⟩ := cloneH X1 hx hZ hown (hw _ (List.mem_of_getElem? (i := 18) rfl)) (hw _ (List.mem_of_getElem? (i := 19) rfl)) (hw _ (List.mem_of_getElem? (i := 23) rfl)) (hw _ (List.mem_of_getElem? (i := 21) rfl)) (hw _ (List.mem_of_getElem? (i := 22) rfl)) (hw _ (List.mem_of_getElem? (i := 24) rfl)) e1 (Arv.arh (V_w__VALUES.ext O.2)) (E_w__VALUES.ext O.2) (g := (mkF m 3 #[] [(.ref w__VALUES)])) rfl (by rw [hml]; rfl) rfl (hb hby d4_3) (by decide) (W := 0) (cap := 4) (by show 2 * 0 + _ ≤ _; exact Nat.le_of_eq rfl) (by decide) (by decide) (by decide) (by decide)
  obtain ⟨b2, g2⟩ : ∃ z, z = h0.size := ⟨_, rfl⟩
  rw [← g2] at A2 Vh2 st2
  have gx2 : n0 ≤ b2 := Nat.le_trans (Nat.le_trans (Nat.le_of_eq O.1.symm) O.2.1) (Nat.le_of_eq g2.symm)
  have O2 := O.ext E2
  obtain ⟨T3, X3, e3, st3⟩ := castY X2 hx hZ hown (hw _ (List.mem_of_getElem? (i := 29) rfl)) e2 (Ins.self A2) (g := (mkF m 6 #[] [(.ref b2)])) rfl rfl (hb hby d4_6)
  obtain ⟨fs, hr, hrun, hended, hW, hsame⟩ := X3.leave (v := some (.ref b2)) (fun h => by rw [Bd.returns] at h; cases h)
  refine ⟨_, _, pre0 _ ?_, hrun, hended, _, _, rfl, ?_, ⟨_, rfl⟩, hW, hsame.mono (by decide) (by decide)⟩
  · show Steps p.tables e below (s₁.setTop (mkF m 0 #[] [])) _
    refine st1 _ ?_
    show Steps p.tables e below (T1.setTop (mkF m 3 #[] [(.ref w__VALUES)])) _
    refine st2 _ ?_
    show Steps p.tables e below (T2.setTop (mkF m 6 #[] [(.ref b2)])) _
    refine st3 _ ?_
    show Steps p.tables e below (T3.setTop (mkF m 9 #[] [(.ref b2)])) _
    exact retOut X3 hx Bd.returns rfl (Or.inr (Or.inr (Or.inr (Or.inr ⟨rfl, rfl, rfl⟩)))) (hb hby d4_9) hr
  · have eF : (T3.setFrames fs).heap = h2 := e3
    exact ⟨N0, b2, _, rfl, gx2, by rw [eF]; exact O2, by rw [eF]; exact Vh2⟩
set_option maxRecDepth 65536 in
set_option maxHeartbeats 40000000 in
theorem rm2_36 (l : Launch) (Z : State) (a0 : Array Value) (hw : ∀ d ∈ tables_1, d.before a0 Z = true) (ws : List Jvm.Cond) (n0 : Nat) (h0 : Heap) (O : Old Z n0 h0) (w_PROPERTY : Addr) (w__VALUES : Addr) (w_RESOURCE : Addr) (w_CLASS : Addr) (w_LITERAL : Addr) (k_w__VALUES : ClassId) (W : OwW Z w_PROPERTY w__VALUES w_RESOURCE w_CLASS w_LITERAL k_w__VALUES)  :
    OwCon l (⟨"com/example/pathfix/pathfix/core/KindOfMarkPinLaw", "reference", "(C)Lcom/example/pathfix/pathfix/core/Kind;"⟩ : MethodName) method_3_code 1 (some (.object "com/example/pathfix/pathfix/core/Kind")) ws ({ frames := 0, cells := 0, slots := 0, locals := 0 } : Room) #[(.int (36 : Int32))] Z h0 (OwQ (some (.ref w_RESOURCE)) h0 n0) := by
  refine MetFree.of_bodySF (plainFor_of_name owpn2) hisR ?_
  intro p e s m args below meth c s₁ Bd hml0 hP hK
  obtain ⟨rfl, hZ, hh⟩ := hP
  have hx := Bd.exec
  have hby := Bd.bytes
  have hml : c.maxLocals = 1 := hml0
  have hown : s.vm.findClass "com/example/pathfix/pathfix/core/KindOfMarkPinLaw" = some m.cls := findClass_of_methodNamed Bd.named
  have hnm := (name_of_methodNamed Bd.named Bd.method).1
  have X0 : Stand p l e ({ frames := 0, cells := 0, slots := 0, locals := 0 } : Room) s m #[(.int (36 : Int32))] below meth c s₁ [] 0 0 := Stand.of_body Bd
  have e0 : s₁.heap = h0 := by rw [← hh, Bd.state]; rfl
  have N0 := Fr.nil n0
  have WW := W
  obtain ⟨E_w_PROPERTY, E_w__VALUES, E_w_RESOURCE, E_w_CLASS, E_w_LITERAL, S_Kind_PROPERTY, S_Kind__VALUES, S_Kind_RESOURCE, S_Kind_CLASS, S_Kind_LITERAL, F_w_RESOURCE_mark, F_w_PROPERTY_mark, F_w_CLASS_mark, F_w_LITERAL_mark, V_w__VALUES, -⟩ := WW
  have ef : entryFrame m #[(.int (36 : Int32))] 1 = mkF m 0 #[.val (.int (36 : Int32))] [] := by first | rfl | (simp [entryFrame, mkF, argsToLocals, Value.category]; done)
  have pre0 : ∀ t, Steps p.tables e below (s₁.setTop (mkF m 0 #[.val (.int (36 : Int32))] [])) t → Steps p.tables e below (s₁.setTop (entryFrame m #[(.int (36 : Int32))] 1)) t := fun t k => castTop ef k
  obtain ⟨T1, X1, e1, st1⟩ := getS2 X0 hx hZ hown (host := "") (Or.inl (hw _ (List.mem_of_getElem? (i := 38) rfl))) Via.refl e0 (S_Kind_RESOURCE.ext O.2) (g := (mkF m 6 #[.val (.int (36 : Int32))] [])) rfl (hb hby d2_6)
  obtain ⟨fs, hr, hrun, hended, hW, hsame⟩ := X1.leave (v := some (.ref w_RESOURCE)) (fun h => by rw [Bd.returns] at h; cases h)
  refine ⟨_, _, pre0 _ ?_, hrun, hended, _, _, rfl, ?_, ⟨_, rfl⟩, hW, hsame.mono (by decide) (by decide)⟩
  · show Steps p.tables e below (s₁.setTop (mkF m 0 #[.val (.int (36 : Int32))] [])) _
    refine XS.iloadN X0.here hx rfl (hb hby d2_0) rfl ?_
    show Steps p.tables e below (s₁.setTop (mkF m 1 #[.val (.int (36 : Int32))] [(.int (36 : Int32))])) _
    refine XS.bipush X0.here hx rfl (hb hby d2_1) ?_
    show Steps p.tables e below (s₁.setTop (mkF m 3 #[.val (.int (36 : Int32))] [(.int (36 : Int32)), (.int (36 : Int32))])) _
    refine XS.icmpNo X0.here hx rfl (hb hby d2_3) rfl (teq (by decide : (36 : Int32) = (36 : Int32))).2 ?_
    show Steps p.tables e below (s₁.setTop (mkF m 6 #[.val (.int (36 : Int32))] [])) _
    refine st1 _ ?_
    show Steps p.tables e below (T1.setTop (mkF m 9 #[.val (.int (36 : Int32))] [(.ref w_RESOURCE)])) _
    exact retOut X1 hx Bd.returns rfl (Or.inr (Or.inr (Or.inr (Or.inr ⟨rfl, rfl, rfl⟩)))) (hb hby d2_9) hr
  · have eF : (T1.setFrames fs).heap = h0 := e1
    exact ⟨rfl, N0, eF⟩
set_option maxRecDepth 65536 in
set_option maxHeartbeats 40000000 in
theorem rm3_36 (l : Launch) (Z : State) (a0 : Array Value) (hw : ∀ d ∈ tables_1, d.before a0 Z = true) (ws : List Jvm.Cond) (n0 : Nat) (h0 : Heap) (O : Old Z n0 h0) (w_PROPERTY : Addr) (w__VALUES : Addr) (w_RESOURCE : Addr) (w_CLASS : Addr) (w_LITERAL : Addr) (k_w__VALUES : ClassId) (W : OwW Z w_PROPERTY w__VALUES w_RESOURCE w_CLASS w_LITERAL k_w__VALUES)  :
    OwCon l (⟨"com/example/pathfix/pathfix/core/Kind", "ofMark", "(C)Lcom/example/pathfix/pathfix/core/Kind;"⟩ : MethodName) prog_12_method_5_code 5 (some (.object "com/example/pathfix/pathfix/core/Kind")) ws ({ frames := 2, cells := 1, slots := 4, locals := 25 } : Room) #[(.int (36 : Int32))] Z h0 (OwP (fun v h => v = some (.ref w_RESOURCE) ∧ Old Z n0 h) n0) := by
  refine MetFree.of_bodySF (plainFor_of_name owpn3) hisR ?_
  intro p e s m args below meth c s₁ Bd hml0 hP hK
  obtain ⟨rfl, hZ, hh⟩ := hP
  have hx := Bd.exec
  have hby := Bd.bytes
  have hml : c.maxLocals = 5 := hml0
  have hown : s.vm.findClass "com/example/pathfix/pathfix/core/Kind" = some m.cls := findClass_of_methodNamed Bd.named
  have hnm := (name_of_methodNamed Bd.named Bd.method).1
  have X0 : Stand p l e ({ frames := 2, cells := 1, slots := 4, locals := 25 } : Room) s m #[(.int (36 : Int32))] below meth c s₁ [] 0 0 := Stand.of_body Bd
  have e0 : s₁.heap = h0 := by rw [← hh, Bd.state]; rfl
  have N0 := Fr.nil n0
  have WW := W
  obtain ⟨E_w_PROPERTY, E_w__VALUES, E_w_RESOURCE, E_w_CLASS, E_w_LITERAL, S_Kind_PROPERTY, S_Kind__VALUES, S_Kind_RESOURCE, S_Kind_CLASS, S_Kind_LITERAL, F_w_RESOURCE_mark, F_w_PROPERTY_mark, F_w_CLASS_mark, F_w_LITERAL_mark, V_w__VALUES, -⟩ := WW
  have ef : entryFrame m #[(.int (36 : Int32))] 5 = mkF m 0 #[.val (.int (36 : Int32)), .unset, .unset, .unset, .unset] [] := by first | rfl | (simp [entryFrame, mkF, argsToLocals, Value.category]; done)
  have pre0 : ∀ t, Steps p.tables e below (s₁.setTop (mkF m 0 #[.val (.int (36 : Int32)), .unset, .unset, .unset, .unset] [])) t → Steps p.tables e below (s₁.setTop (entryFrame m #[(.int (36 : Int32))] 5)) t := fun t k => castTop ef k
  obtain ⟨_, _, ⟨T1, L1, k1, n1⟩, -, X1, ⟨Lc1, hQ1, l1, y1, z1⟩, st1⟩ := Jvm.LawKit.callS X0 hx (y := (⟨"com/example/pathfix/pathfix/core/Kind", "values", "()[Lcom/example/pathfix/pathfix/core/Kind;"⟩ : MethodName)) hown (mvT hZ (hw _ (List.mem_of_getElem? (i := 13) rfl))) (mvT hZ (hw _ (List.mem_of_getElem? (i := 14) rfl))) (mvT hZ (hw _ (List.mem_of_getElem? (i := 8) rfl))) (mvT hZ (hw _ (List.mem_of_getElem? (i := 15) rfl))) (by decide) (backOf (W := 0) (rm4 l Z a0 hw [] n0 h0 O w_PROPERTY w__VALUES w_RESOURCE w_CLASS w_LITERAL k_w__VALUES W  ) hZ (hw _ (List.mem_of_getElem? (i := 15) rfl)) (hw _ (List.mem_of_getElem? (i := 8) rfl)) (by decide) (by decide)) (g := (mkF m 0 #[.val (.int (36 : Int32)), .unset, .unset, .unset, .unset] [])) rfl (by rw [hml]; rfl) (argsL := []) (rest := []) (lenOf owpd0 rfl) rfl (by show 2 * 0 + _ ≤ _; exact Nat.le_of_eq rfl) (hb hby d3_0) (fun _ _ => ⟨rfl, e0, (by decide : 0 + 1 ≤ _), (by decide : 0 + 4 ≤ _)⟩)
  dsimp only [Pt.U, Pt.locs, Pt.cells, Pt.slots] at X1 l1 y1 z1 st1 hQ1
  subst l1 y1 z1
  obtain ⟨Nq1, hP1⟩ := hQ1
  have N1 := Fr.app N0 Nq1
  have ee1 : T1.heap = T1.heap := rfl
  obtain ⟨b1, kb1, rfl, gb1, O1, Vb1⟩ := hP1
  obtain ⟨cl2, Ar2, q2, Sz2, Nn2, Hs2, -⟩ := id Vb1
  obtain ⟨cl3, Ar3, q3, Sz3, Nn3, Hs3, -⟩ := id Vb1
  have hin3 : ¬ ((0 : Int32) < 0 ∨ cl3.slots.size ≤ ((0 : Int32)).toNatClampNeg) := inb_of Sz3 ⟨by decide, by decide⟩
  have hat3 : cl3.slots[((0 : Int32)).toNatClampNeg]? = some (.ref w_RESOURCE) := atH Hs3 hin3 rfl
  obtain ⟨T4, X4, e4, st4⟩ := getF X1 hx hZ hown (host := "") (Or.inl (hw _ (List.mem_of_getElem? (i := 31) rfl))) Via.refl ee1 (F_w_RESOURCE_mark.ext O1.2) (g := (mkF m 21 #[.val (.int (36 : Int32)), .val (.ref b1), .val (.int (4 : Int32)), .val (.int (0 : Int32)), .val (.ref w_RESOURCE)] [(.ref w_RESOURCE)])) rfl rfl (hb hby d3_21)
  obtain ⟨fs, hr, hrun, hended, hW, hsame⟩ := X4.leave (v := some (.ref w_RESOURCE)) (fun h => by rw [Bd.returns] at h; cases h)
  refine ⟨_, _, pre0 _ ?_, hrun, hended, _, _, rfl, ?_, ⟨_, rfl⟩, hW, hsame.mono (by decide) (by decide)⟩
  · show Steps p.tables e below (s₁.setTop (mkF m 0 #[.val (.int (36 : Int32)), .unset, .unset, .unset, .unset] [])) _
    refine st1 _ ?_
    show Steps p.tables e below (T1.setTop (mkF m 3 #[.val (.int (36 : Int32)), .unset, .unset, .unset, .unset] [(.ref b1)])) _
    refine XS.astoreN X1.here hx rfl (hb hby d3_3) rfl rfl (l' := #[.val (.int (36 : Int32)), .val (.ref b1), .unset, .unset, .unset]) rfl ?_
    show Steps p.tables e below (T1.setTop (mkF m 4 #[.val (.int (36 : Int32)), .val (.ref b1), .unset, .unset, .unset] [])) _
    refine XS.aloadN X1.here hx rfl (hb hby d3_4) rfl rfl ?_
    show Steps p.tables e below (T1.setTop (mkF m 5 #[.val (.int (36 : Int32)), .val (.ref b1), .unset, .unset, .unset] [(.ref b1)])) _
    refine X1.arraylength hx (by rw [ee1]; exact Ar2.1) (State.isArrayOf_alike hZ.alike Ar2.2.1) (g := (mkF m 5 #[.val (.int (36 : Int32)), .val (.ref b1), .unset, .unset, .unset] [(.ref b1)])) rfl rfl (hb hby d3_5) _ ?_
    rw [len_of Sz2 Nn2]
    show Steps p.tables e below (T1.setTop (mkF m 6 #[.val (.int (36 : Int32)), .val (.ref b1), .unset, .unset, .unset] [(.int (4 : Int32))])) _
    refine XS.istoreN X1.here hx rfl (hb hby d3_6) rfl (l' := #[.val (.int (36 : Int32)), .val (.ref b1), .val (.int (4 : Int32)), .unset, .unset]) rfl ?_
    show Steps p.tables e below (T1.setTop (mkF m 7 #[.val (.int (36 : Int32)), .val (.ref b1), .val (.int (4 : Int32)), .unset, .unset] [])) _
    refine XS.iconst X1.here hx rfl (hb hby d3_7) ?_
    show Steps p.tables e below (T1.setTop (mkF m 8 #[.val (.int (36 : Int32)), .val (.ref b1), .val (.int (4 : Int32)), .unset, .unset] [(.int (0 : Int32))])) _
    refine XS.istoreN X1.here hx rfl (hb hby d3_8) rfl (l' := #[.val (.int (36 : Int32)), .val (.ref b1), .val (.int (4 : Int32)), .val (.int (0 : Int32)), .unset]) rfl ?_
    show Steps p.tables e below (T1.setTop (mkF m 9 #[.val (.int (36 : Int32)), .val (.ref b1), .val (.int (4 : Int32)), .val (.int (0 : Int32)), .unset] [])) _
    refine XS.iloadN X1.here hx rfl (hb hby d3_9) rfl ?_
    show Steps p.tables e below (T1.setTop (mkF m 10 #[.val (.int (36 : Int32)), .val (.ref b1), .val (.int (4 : Int32)), .val (.int (0 : Int32)), .unset] [(.int (0 : Int32))])) _
    refine XS.iloadN X1.here hx rfl (hb hby d3_10) rfl ?_
    show Steps p.tables e below (T1.setTop (mkF m 11 #[.val (.int (36 : Int32)), .val (.ref b1), .val (.int (4 : Int32)), .val (.int (0 : Int32)), .unset] [(.int (4 : Int32)), (.int (0 : Int32))])) _
    refine XS.icmpNo X1.here hx rfl (hb hby d3_11) rfl (tlt (by decide : (0 : Int32) < (4 : Int32))).2.1 ?_
    show Steps p.tables e below (T1.setTop (mkF m 14 #[.val (.int (36 : Int32)), .val (.ref b1), .val (.int (4 : Int32)), .val (.int (0 : Int32)), .unset] [])) _
    refine XS.aloadN X1.here hx rfl (hb hby d3_14) rfl rfl ?_
    show Steps p.tables e below (T1.setTop (mkF m 15 #[.val (.int (36 : Int32)), .val (.ref b1), .val (.int (4 : Int32)), .val (.int (0 : Int32)), .unset] [(.ref b1)])) _
    refine XS.iloadN X1.here hx rfl (hb hby d3_15) rfl ?_
    show Steps p.tables e below (T1.setTop (mkF m 16 #[.val (.int (36 : Int32)), .val (.ref b1), .val (.int (4 : Int32)), .val (.int (0 : Int32)), .unset] [(.int (0 : Int32)), (.ref b1)])) _
    refine X1.aaload hx (j := (0 : Int32)) (v := (.ref w_RESOURCE)) (by rw [ee1]; exact Ar3.1) (State.isArrayOf_alike hZ.alike Ar3.2.1) rfl Ar3.2.2 hin3 hat3 (g := (mkF m 16 #[.val (.int (36 : Int32)), .val (.ref b1), .val (.int (4 : Int32)), .val (.int (0 : Int32)), .unset] [(.int (0 : Int32)), (.ref b1)])) rfl rfl (hb hby d3_16) _ ?_
    show Steps p.tables e below (T1.setTop (mkF m 17 #[.val (.int (36 : Int32)), .val (.ref b1), .val (.int (4 : Int32)), .val (.int (0 : Int32)), .unset] [(.ref w_RESOURCE)])) _
    refine XS.astore X1.here hx rfl (hb hby d3_17) rfl rfl (l' := #[.val (.int (36 : Int32)), .val (.ref b1), .val (.int (4 : Int32)), .val (.int (0 : Int32)), .val (.ref w_RESOURCE)]) rfl ?_
    show Steps p.tables e below (T1.setTop (mkF m 19 #[.val (.int (36 : Int32)), .val (.ref b1), .val (.int (4 : Int32)), .val (.int (0 : Int32)), .val (.ref w_RESOURCE)] [])) _
    refine XS.aload X1.here hx rfl (hb hby d3_19) rfl rfl ?_
    show Steps p.tables e below (T1.setTop (mkF m 21 #[.val (.int (36 : Int32)), .val (.ref b1), .val (.int (4 : Int32)), .val (.int (0 : Int32)), .val (.ref w_RESOURCE)] [(.ref w_RESOURCE)])) _
    refine st4 _ ?_
    show Steps p.tables e below (T4.setTop (mkF m 24 #[.val (.int (36 : Int32)), .val (.ref b1), .val (.int (4 : Int32)), .val (.int (0 : Int32)), .val (.ref w_RESOURCE)] [(.int (36 : Int32))])) _
    refine XS.iloadN X4.here hx rfl (hb hby d3_24) rfl ?_
    show Steps p.tables e below (T4.setTop (mkF m 25 #[.val (.int (36 : Int32)), .val (.ref b1), .val (.int (4 : Int32)), .val (.int (0 : Int32)), .val (.ref w_RESOURCE)] [(.int (36 : Int32)), (.int (36 : Int32))])) _
    refine XS.icmpNo X4.here hx rfl (hb hby d3_25) rfl (teq (by decide : (36 : Int32) = (36 : Int32))).2 ?_
    show Steps p.tables e below (T4.setTop (mkF m 28 #[.val (.int (36 : Int32)), .val (.ref b1), .val (.int (4 : Int32)), .val (.int (0 : Int32)), .val (.ref w_RESOURCE)] [])) _
    refine XS.aload X4.here hx rfl (hb hby d3_28) rfl rfl ?_
    show Steps p.tables e below (T4.setTop (mkF m 30 #[.val (.int (36 : Int32)), .val (.ref b1), .val (.int (4 : Int32)), .val (.int (0 : Int32)), .val (.ref w_RESOURCE)] [(.ref w_RESOURCE)])) _
    exact retOut X4 hx Bd.returns rfl (Or.inr (Or.inr (Or.inr (Or.inr ⟨rfl, rfl, rfl⟩)))) (hb hby d3_30) hr
  · have eF : (T4.setFrames fs).heap = T1.heap := e4
    exact ⟨N1, rfl, by rw [eF]; exact O1⟩
set_option maxRecDepth 65536 in
set_option maxHeartbeats 40000000 in
theorem rm5_36 (l : Launch) (Z : State) (a0 : Array Value) (hw : ∀ d ∈ tables_1, d.before a0 Z = true) (ws : List Jvm.Cond) (n0 : Nat) (h0 : Heap) (O : Old Z n0 h0) (w_PROPERTY : Addr) (w__VALUES : Addr) (w_RESOURCE : Addr) (w_CLASS : Addr) (w_LITERAL : Addr) (k_w__VALUES : ClassId) (W : OwW Z w_PROPERTY w__VALUES w_RESOURCE w_CLASS w_LITERAL k_w__VALUES)  :
    OwCon l (⟨"com/example/pathfix/pathfix/core/Kind", "mark", "()C"⟩ : MethodName) prog_12_method_4_code 1 (some .char) ws ({ frames := 0, cells := 0, slots := 0, locals := 0 } : Room) #[(.ref w_RESOURCE)] Z h0 (OwQ (some (.int (36 : Int32))) h0 n0) := by
  refine MetFree.of_bodySF (plainFor_of_name owpn5) hisR ?_
  intro p e s m args below meth c s₁ Bd hml0 hP hK
  obtain ⟨rfl, hZ, hh⟩ := hP
  have hx := Bd.exec
  have hby := Bd.bytes
  have hml : c.maxLocals = 1 := hml0
  have hown : s.vm.findClass "com/example/pathfix/pathfix/core/Kind" = some m.cls := findClass_of_methodNamed Bd.named
  have hnm := (name_of_methodNamed Bd.named Bd.method).1
  have X0 : Stand p l e ({ frames := 0, cells := 0, slots := 0, locals := 0 } : Room) s m #[(.ref w_RESOURCE)] below meth c s₁ [] 0 0 := Stand.of_body Bd
  have e0 : s₁.heap = h0 := by rw [← hh, Bd.state]; rfl
  have N0 := Fr.nil n0
  have WW := W
  obtain ⟨E_w_PROPERTY, E_w__VALUES, E_w_RESOURCE, E_w_CLASS, E_w_LITERAL, S_Kind_PROPERTY, S_Kind__VALUES, S_Kind_RESOURCE, S_Kind_CLASS, S_Kind_LITERAL, F_w_RESOURCE_mark, F_w_PROPERTY_mark, F_w_CLASS_mark, F_w_LITERAL_mark, V_w__VALUES, -⟩ := WW
  have ef : entryFrame m #[(.ref w_RESOURCE)] 1 = mkF m 0 #[.val (.ref w_RESOURCE)] [] := by first | rfl | (simp [entryFrame, mkF, argsToLocals, Value.category]; done)
  have pre0 : ∀ t, Steps p.tables e below (s₁.setTop (mkF m 0 #[.val (.ref w_RESOURCE)] [])) t → Steps p.tables e below (s₁.setTop (entryFrame m #[(.ref w_RESOURCE)] 1)) t := fun t k => castTop ef k
  obtain ⟨T1, X1, e1, st1⟩ := getF X0 hx hZ hown (host := "") (Or.inl (hw _ (List.mem_of_getElem? (i := 31) rfl))) Via.refl e0 (F_w_RESOURCE_mark.ext O.2) (g := (mkF m 1 #[.val (.ref w_RESOURCE)] [(.ref w_RESOURCE)])) rfl rfl (hb hby d5_1)
  obtain ⟨fs, hr, hrun, hended, hW, hsame⟩ := X1.leave (v := some (.int (36 : Int32))) (fun h => by rw [Bd.returns] at h; cases h)
  refine ⟨_, _, pre0 _ ?_, hrun, hended, _, _, rfl, ?_, ⟨_, rfl⟩, hW, hsame.mono (by decide) (by decide)⟩
  · show Steps p.tables e below (s₁.setTop (mkF m 0 #[.val (.ref w_RESOURCE)] [])) _
    refine XS.aloadN X0.here hx rfl (hb hby d5_0) rfl rfl ?_
    show Steps p.tables e below (s₁.setTop (mkF m 1 #[.val (.ref w_RESOURCE)] [(.ref w_RESOURCE)])) _
    refine st1 _ ?_
    show Steps p.tables e below (T1.setTop (mkF m 4 #[.val (.ref w_RESOURCE)] [(.int (36 : Int32))])) _
    exact retN X1 hx (t := .char) Bd.returns (by simp) (hb hby d5_4) hr
  · have eF : (T1.setFrames fs).heap = h0 := e1
    exact ⟨rfl, N0, eF⟩
set_option maxRecDepth 65536 in
set_option maxHeartbeats 40000000 in
theorem rm2_43 (l : Launch) (Z : State) (a0 : Array Value) (hw : ∀ d ∈ tables_1, d.before a0 Z = true) (ws : List Jvm.Cond) (n0 : Nat) (h0 : Heap) (O : Old Z n0 h0) (w_PROPERTY : Addr) (w__VALUES : Addr) (w_RESOURCE : Addr) (w_CLASS : Addr) (w_LITERAL : Addr) (k_w__VALUES : ClassId) (W : OwW Z w_PROPERTY w__VALUES w_RESOURCE w_CLASS w_LITERAL k_w__VALUES)  :
    OwCon l (⟨"com/example/pathfix/pathfix/core/KindOfMarkPinLaw", "reference", "(C)Lcom/example/pathfix/pathfix/core/Kind;"⟩ : MethodName) method_3_code 1 (some (.object "com/example/pathfix/pathfix/core/Kind")) ws ({ frames := 0, cells := 0, slots := 0, locals := 0 } : Room) #[(.int (43 : Int32))] Z h0 (OwQ (some (.ref w_PROPERTY)) h0 n0) := by
  refine MetFree.of_bodySF (plainFor_of_name owpn2) hisR ?_
  intro p e s m args below meth c s₁ Bd hml0 hP hK
  obtain ⟨rfl, hZ, hh⟩ := hP
  have hx := Bd.exec
  have hby := Bd.bytes
  have hml : c.maxLocals = 1 := hml0
  have hown : s.vm.findClass "com/example/pathfix/pathfix/core/KindOfMarkPinLaw" = some m.cls := findClass_of_methodNamed Bd.named
  have hnm := (name_of_methodNamed Bd.named Bd.method).1
  have X0 : Stand p l e ({ frames := 0, cells := 0, slots := 0, locals := 0 } : Room) s m #[(.int (43 : Int32))] below meth c s₁ [] 0 0 := Stand.of_body Bd
  have e0 : s₁.heap = h0 := by rw [← hh, Bd.state]; rfl
  have N0 := Fr.nil n0
  have WW := W
  obtain ⟨E_w_PROPERTY, E_w__VALUES, E_w_RESOURCE, E_w_CLASS, E_w_LITERAL, S_Kind_PROPERTY, S_Kind__VALUES, S_Kind_RESOURCE, S_Kind_CLASS, S_Kind_LITERAL, F_w_RESOURCE_mark, F_w_PROPERTY_mark, F_w_CLASS_mark, F_w_LITERAL_mark, V_w__VALUES, -⟩ := WW
  have ef : entryFrame m #[(.int (43 : Int32))] 1 = mkF m 0 #[.val (.int (43 : Int32))] [] := by first | rfl | (simp [entryFrame, mkF, argsToLocals, Value.category]; done)
  have pre0 : ∀ t, Steps p.tables e below (s₁.setTop (mkF m 0 #[.val (.int (43 : Int32))] [])) t → Steps p.tables e below (s₁.setTop (entryFrame m #[(.int (43 : Int32))] 1)) t := fun t k => castTop ef k
  obtain ⟨T1, X1, e1, st1⟩ := getS2 X0 hx hZ hown (host := "") (Or.inl (hw _ (List.mem_of_getElem? (i := 7) rfl))) Via.refl e0 (S_Kind_PROPERTY.ext O.2) (g := (mkF m 16 #[.val (.int (43 : Int32))] [])) rfl (hb hby d2_16)
  obtain ⟨fs, hr, hrun, hended, hW, hsame⟩ := X1.leave (v := some (.ref w_PROPERTY)) (fun h => by rw [Bd.returns] at h; cases h)
  refine ⟨_, _, pre0 _ ?_, hrun, hended, _, _, rfl, ?_, ⟨_, rfl⟩, hW, hsame.mono (by decide) (by decide)⟩
  · show Steps p.tables e below (s₁.setTop (mkF m 0 #[.val (.int (43 : Int32))] [])) _
    refine XS.iloadN X0.here hx rfl (hb hby d2_0) rfl ?_
    show Steps p.tables e below (s₁.setTop (mkF m 1 #[.val (.int (43 : Int32))] [(.int (43 : Int32))])) _
    refine XS.bipush X0.here hx rfl (hb hby d2_1) ?_
    show Steps p.tables e below (s₁.setTop (mkF m 3 #[.val (.int (43 : Int32))] [(.int (36 : Int32)), (.int (43 : Int32))])) _
    refine XS.icmpYes X0.here hx rfl (pc0 := 3) (pc' := 10) rfl (hb hby d2_3) rfl (feq (by decide : ¬ ((43 : Int32) = (36 : Int32)))).2 (by decide) (by decide) ?_
    show Steps p.tables e below (s₁.setTop (mkF m 10 #[.val (.int (43 : Int32))] [])) _
    refine XS.iloadN X0.here hx rfl (hb hby d2_10) rfl ?_
    show Steps p.tables e below (s₁.setTop (mkF m 11 #[.val (.int (43 : Int32))] [(.int (43 : Int32))])) _
    refine XS.bipush X0.here hx rfl (hb hby d2_11) ?_
    show Steps p.tables e below (s₁.setTop (mkF m 13 #[.val (.int (43 : Int32))] [(.int (43 : Int32)), (.int (43 : Int32))])) _
    refine XS.icmpNo X0.here hx rfl (hb hby d2_13) rfl (teq (by decide : (43 : Int32) = (43 : Int32))).2 ?_
    show Steps p.tables e below (s₁.setTop (mkF m 16 #[.val (.int (43 : Int32))] [])) _
    refine st1 _ ?_
    show Steps p.tables e below (T1.setTop (mkF m 19 #[.val (.int (43 : Int32))] [(.ref w_PROPERTY)])) _
    exact retOut X1 hx Bd.returns rfl (Or.inr (Or.inr (Or.inr (Or.inr ⟨rfl, rfl, rfl⟩)))) (hb hby d2_19) hr
  · have eF : (T1.setFrames fs).heap = h0 := e1
    exact ⟨rfl, N0, eF⟩
set_option maxRecDepth 65536 in
set_option maxHeartbeats 40000000 in
theorem rm3_43 (l : Launch) (Z : State) (a0 : Array Value) (hw : ∀ d ∈ tables_1, d.before a0 Z = true) (ws : List Jvm.Cond) (n0 : Nat) (h0 : Heap) (O : Old Z n0 h0) (w_PROPERTY : Addr) (w__VALUES : Addr) (w_RESOURCE : Addr) (w_CLASS : Addr) (w_LITERAL : Addr) (k_w__VALUES : ClassId) (W : OwW Z w_PROPERTY w__VALUES w_RESOURCE w_CLASS w_LITERAL k_w__VALUES)  :
    OwCon l (⟨"com/example/pathfix/pathfix/core/Kind", "ofMark", "(C)Lcom/example/pathfix/pathfix/core/Kind;"⟩ : MethodName) prog_12_method_5_code 5 (some (.object "com/example/pathfix/pathfix/core/Kind")) ws ({ frames := 2, cells := 1, slots := 4, locals := 25 } : Room) #[(.int (43 : Int32))] Z h0 (OwP (fun v h => v = some (.ref w_PROPERTY) ∧ Old Z n0 h) n0) := by
  refine MetFree.of_bodySF (plainFor_of_name owpn3) hisR ?_
  intro p e s m args below meth c s₁ Bd hml0 hP hK
  obtain ⟨rfl, hZ, hh⟩ := hP
  have hx := Bd.exec
  have hby := Bd.bytes
  have hml : c.maxLocals = 5 := hml0
  have hown : s.vm.findClass "com/example/pathfix/pathfix/core/Kind" = some m.cls := findClass_of_methodNamed Bd.named
  have hnm := (name_of_methodNamed Bd.named Bd.method).1
  have X0 : Stand p l e ({ frames := 2, cells := 1, slots := 4, locals := 25 } : Room) s m #[(.int (43 : Int32))] below meth c s₁ [] 0 0 := Stand.of_body Bd
  have e0 : s₁.heap = h0 := by rw [← hh, Bd.state]; rfl
  have N0 := Fr.nil n0
  have WW := W
  obtain ⟨E_w_PROPERTY, E_w__VALUES, E_w_RESOURCE, E_w_CLASS, E_w_LITERAL, S_Kind_PROPERTY, S_Kind__VALUES, S_Kind_RESOURCE, S_Kind_CLASS, S_Kind_LITERAL, F_w_RESOURCE_mark, F_w_PROPERTY_mark, F_w_CLASS_mark, F_w_LITERAL_mark, V_w__VALUES, -⟩ := WW
  have ef : entryFrame m #[(.int (43 : Int32))] 5 = mkF m 0 #[.val (.int (43 : Int32)), .unset, .unset, .unset, .unset] [] := by first | rfl | (simp [entryFrame, mkF, argsToLocals, Value.category]; done)
  have pre0 : ∀ t, Steps p.tables e below (s₁.setTop (mkF m 0 #[.val (.int (43 : Int32)), .unset, .unset, .unset, .unset] [])) t → Steps p.tables e below (s₁.setTop (entryFrame m #[(.int (43 : Int32))] 5)) t := fun t k => castTop ef k
  obtain ⟨_, _, ⟨T1, L1, k1, n1⟩, -, X1, ⟨Lc1, hQ1, l1, y1, z1⟩, st1⟩ := Jvm.LawKit.callS X0 hx (y := (⟨"com/example/pathfix/pathfix/core/Kind", "values", "()[Lcom/example/pathfix/pathfix/core/Kind;"⟩ : MethodName)) hown (mvT hZ (hw _ (List.mem_of_getElem? (i := 13) rfl))) (mvT hZ (hw _ (List.mem_of_getElem? (i := 14) rfl))) (mvT hZ (hw _ (List.mem_of_getElem? (i := 8) rfl))) (mvT hZ (hw _ (List.mem_of_getElem? (i := 15) rfl))) (by decide) (backOf (W := 0) (rm4 l Z a0 hw [] n0 h0 O w_PROPERTY w__VALUES w_RESOURCE w_CLASS w_LITERAL k_w__VALUES W  ) hZ (hw _ (List.mem_of_getElem? (i := 15) rfl)) (hw _ (List.mem_of_getElem? (i := 8) rfl)) (by decide) (by decide)) (g := (mkF m 0 #[.val (.int (43 : Int32)), .unset, .unset, .unset, .unset] [])) rfl (by rw [hml]; rfl) (argsL := []) (rest := []) (lenOf owpd0 rfl) rfl (by show 2 * 0 + _ ≤ _; exact Nat.le_of_eq rfl) (hb hby d3_0) (fun _ _ => ⟨rfl, e0, (by decide : 0 + 1 ≤ _), (by decide : 0 + 4 ≤ _)⟩)
  dsimp only [Pt.U, Pt.locs, Pt.cells, Pt.slots] at X1 l1 y1 z1 st1 hQ1
  subst l1 y1 z1
  obtain ⟨Nq1, hP1⟩ := hQ1
  have N1 := Fr.app N0 Nq1
  have ee1 : T1.heap = T1.heap := rfl
  obtain ⟨b1, kb1, rfl, gb1, O1, Vb1⟩ := hP1
  obtain ⟨cl2, Ar2, q2, Sz2, Nn2, Hs2, -⟩ := id Vb1
  obtain ⟨cl3, Ar3, q3, Sz3, Nn3, Hs3, -⟩ := id Vb1
  have hin3 : ¬ ((0 : Int32) < 0 ∨ cl3.slots.size ≤ ((0 : Int32)).toNatClampNeg) := inb_of Sz3 ⟨by decide, by decide⟩
  have hat3 : cl3.slots[((0 : Int32)).toNatClampNeg]? = some (.ref w_RESOURCE) := atH Hs3 hin3 rfl
  obtain ⟨T4, X4, e4, st4⟩ := getF X1 hx hZ hown (host := "") (Or.inl (hw _ (List.mem_of_getElem? (i := 31) rfl))) Via.refl ee1 (F_w_RESOURCE_mark.ext O1.2) (g := (mkF m 21 #[.val (.int (43 : Int32)), .val (.ref b1), .val (.int (4 : Int32)), .val (.int (0 : Int32)), .val (.ref w_RESOURCE)] [(.ref w_RESOURCE)])) rfl rfl (hb hby d3_21)
  obtain ⟨cl5, Ar5, q5, Sz5, Nn5, Hs5, -⟩ := id Vb1
  have hin5 : ¬ ((1 : Int32) < 0 ∨ cl5.slots.size ≤ ((1 : Int32)).toNatClampNeg) := inb_of Sz5 ⟨by decide, by decide⟩
  have hat5 : cl5.slots[((1 : Int32)).toNatClampNeg]? = some (.ref w_PROPERTY) := atH Hs5 hin5 rfl
  obtain ⟨T6, X6, e6, st6⟩ := getF X4 hx hZ hown (host := "") (Or.inl (hw _ (List.mem_of_getElem? (i := 31) rfl))) Via.refl e4 (F_w_PROPERTY_mark.ext O1.2) (g := (mkF m 21 #[.val (.int (43 : Int32)), .val (.ref b1), .val (.int (4 : Int32)), .val (.int (1 : Int32)), .val (.ref w_PROPERTY)] [(.ref w_PROPERTY)])) rfl rfl (hb hby d3_21)
  obtain ⟨fs, hr, hrun, hended, hW, hsame⟩ := X6.leave (v := some (.ref w_PROPERTY)) (fun h => by rw [Bd.returns] at h; cases h)
  refine ⟨_, _, pre0 _ ?_, hrun, hended, _, _, rfl, ?_, ⟨_, rfl⟩, hW, hsame.mono (by decide) (by decide)⟩
  · show Steps p.tables e below (s₁.setTop (mkF m 0 #[.val (.int (43 : Int32)), .unset, .unset, .unset, .unset] [])) _
    refine st1 _ ?_
    show Steps p.tables e below (T1.setTop (mkF m 3 #[.val (.int (43 : Int32)), .unset, .unset, .unset, .unset] [(.ref b1)])) _
    refine XS.astoreN X1.here hx rfl (hb hby d3_3) rfl rfl (l' := #[.val (.int (43 : Int32)), .val (.ref b1), .unset, .unset, .unset]) rfl ?_
    show Steps p.tables e below (T1.setTop (mkF m 4 #[.val (.int (43 : Int32)), .val (.ref b1), .unset, .unset, .unset] [])) _
    refine XS.aloadN X1.here hx rfl (hb hby d3_4) rfl rfl ?_
    show Steps p.tables e below (T1.setTop (mkF m 5 #[.val (.int (43 : Int32)), .val (.ref b1), .unset, .unset, .unset] [(.ref b1)])) _
    refine X1.arraylength hx (by rw [ee1]; exact Ar2.1) (State.isArrayOf_alike hZ.alike Ar2.2.1) (g := (mkF m 5 #[.val (.int (43 : Int32)), .val (.ref b1), .unset, .unset, .unset] [(.ref b1)])) rfl rfl (hb hby d3_5) _ ?_
    rw [len_of Sz2 Nn2]
    show Steps p.tables e below (T1.setTop (mkF m 6 #[.val (.int (43 : Int32)), .val (.ref b1), .unset, .unset, .unset] [(.int (4 : Int32))])) _
    refine XS.istoreN X1.here hx rfl (hb hby d3_6) rfl (l' := #[.val (.int (43 : Int32)), .val (.ref b1), .val (.int (4 : Int32)), .unset, .unset]) rfl ?_
    show Steps p.tables e below (T1.setTop (mkF m 7 #[.val (.int (43 : Int32)), .val (.ref b1), .val (.int (4 : Int32)), .unset, .unset] [])) _
    refine XS.iconst X1.here hx rfl (hb hby d3_7) ?_
    show Steps p.tables e below (T1.setTop (mkF m 8 #[.val (.int (43 : Int32)), .val (.ref b1), .val (.int (4 : Int32)), .unset, .unset] [(.int (0 : Int32))])) _
    refine XS.istoreN X1.here hx rfl (hb hby d3_8) rfl (l' := #[.val (.int (43 : Int32)), .val (.ref b1), .val (.int (4 : Int32)), .val (.int (0 : Int32)), .unset]) rfl ?_
    show Steps p.tables e below (T1.setTop (mkF m 9 #[.val (.int (43 : Int32)), .val (.ref b1), .val (.int (4 : Int32)), .val (.int (0 : Int32)), .unset] [])) _
    refine XS.iloadN X1.here hx rfl (hb hby d3_9) rfl ?_
    show Steps p.tables e below (T1.setTop (mkF m 10 #[.val (.int (43 : Int32)), .val (.ref b1), .val (.int (4 : Int32)), .val (.int (0 : Int32)), .unset] [(.int (0 : Int32))])) _
    refine XS.iloadN X1.here hx rfl (hb hby d3_10) rfl ?_
    show Steps p.tables e below (T1.setTop (mkF m 11 #[.val (.int (43 : Int32)), .val (.ref b1), .val (.int (4 : Int32)), .val (.int (0 : Int32)), .unset] [(.int (4 : Int32)), (.int (0 : Int32))])) _
    refine XS.icmpNo X1.here hx rfl (hb hby d3_11) rfl (tlt (by decide : (0 : Int32) < (4 : Int32))).2.1 ?_
    show Steps p.tables e below (T1.setTop (mkF m 14 #[.val (.int (43 : Int32)), .val (.ref b1), .val (.int (4 : Int32)), .val (.int (0 : Int32)), .unset] [])) _
    refine XS.aloadN X1.here hx rfl (hb hby d3_14) rfl rfl ?_
    show Steps p.tables e below (T1.setTop (mkF m 15 #[.val (.int (43 : Int32)), .val (.ref b1), .val (.int (4 : Int32)), .val (.int (0 : Int32)), .unset] [(.ref b1)])) _
    refine XS.iloadN X1.here hx rfl (hb hby d3_15) rfl ?_
    show Steps p.tables e below (T1.setTop (mkF m 16 #[.val (.int (43 : Int32)), .val (.ref b1), .val (.int (4 : Int32)), .val (.int (0 : Int32)), .unset] [(.int (0 : Int32)), (.ref b1)])) _
    refine X1.aaload hx (j := (0 : Int32)) (v := (.ref w_RESOURCE)) (by rw [ee1]; exact Ar3.1) (State.isArrayOf_alike hZ.alike Ar3.2.1) rfl Ar3.2.2 hin3 hat3 (g := (mkF m 16 #[.val (.int (43 : Int32)), .val (.ref b1), .val (.int (4 : Int32)), .val (.int (0 : Int32)), .unset] [(.int (0 : Int32)), (.ref b1)])) rfl rfl (hb hby d3_16) _ ?_
    show Steps p.tables e below (T1.setTop (mkF m 17 #[.val (.int (43 : Int32)), .val (.ref b1), .val (.int (4 : Int32)), .val (.int (0 : Int32)), .unset] [(.ref w_RESOURCE)])) _
    refine XS.astore X1.here hx rfl (hb hby d3_17) rfl rfl (l' := #[.val (.int (43 : Int32)), .val (.ref b1), .val (.int (4 : Int32)), .val (.int (0 : Int32)), .val (.ref w_RESOURCE)]) rfl ?_
    show Steps p.tables e below (T1.setTop (mkF m 19 #[.val (.int (43 : Int32)), .val (.ref b1), .val (.int (4 : Int32)), .val (.int (0 : Int32)), .val (.ref w_RESOURCE)] [])) _
    refine XS.aload X1.here hx rfl (hb hby d3_19) rfl rfl ?_
    show Steps p.tables e below (T1.setTop (mkF m 21 #[.val (.int (43 : Int32)), .val (.ref b1), .val (.int (4 : Int32)), .val (.int (0 : Int32)), .val (.ref w_RESOURCE)] [(.ref w_RESOURCE)])) _
    refine st4 _ ?_
    show Steps p.tables e below (T4.setTop (mkF m 24 #[.val (.int (43 : Int32)), .val (.ref b1), .val (.int (4 : Int32)), .val (.int (0 : Int32)), .val (.ref w_RESOURCE)] [(.int (36 : Int32))])) _
    refine XS.iloadN X4.here hx rfl (hb hby d3_24) rfl ?_
    show Steps p.tables e below (T4.setTop (mkF m 25 #[.val (.int (43 : Int32)), .val (.ref b1), .val (.int (4 : Int32)), .val (.int (0 : Int32)), .val (.ref w_RESOURCE)] [(.int (43 : Int32)), (.int (36 : Int32))])) _
    refine XS.icmpYes X4.here hx rfl (pc0 := 25) (pc' := 31) rfl (hb hby d3_25) rfl (feq (by decide : ¬ ((36 : Int32) = (43 : Int32)))).2 (by decide) (by decide) ?_
    show Steps p.tables e below (T4.setTop (mkF m 31 #[.val (.int (43 : Int32)), .val (.ref b1), .val (.int (4 : Int32)), .val (.int (0 : Int32)), .val (.ref w_RESOURCE)] [])) _
    refine XS.iinc X4.here hx rfl (hb hby d3_31) rfl (l' := #[.val (.int (43 : Int32)), .val (.ref b1), .val (.int (4 : Int32)), .val (.int (1 : Int32)), .val (.ref w_RESOURCE)]) rfl ?_
    show Steps p.tables e below (T4.setTop (mkF m 34 #[.val (.int (43 : Int32)), .val (.ref b1), .val (.int (4 : Int32)), .val (.int (1 : Int32)), .val (.ref w_RESOURCE)] [])) _
    refine XS.goto X4.here hx rfl (pc0 := 34) (pc' := 9) rfl (hb hby d3_34) (by decide) (by decide) ?_
    show Steps p.tables e below (T4.setTop (mkF m 9 #[.val (.int (43 : Int32)), .val (.ref b1), .val (.int (4 : Int32)), .val (.int (1 : Int32)), .val (.ref w_RESOURCE)] [])) _
    refine XS.iloadN X4.here hx rfl (hb hby d3_9) rfl ?_
    show Steps p.tables e below (T4.setTop (mkF m 10 #[.val (.int (43 : Int32)), .val (.ref b1), .val (.int (4 : Int32)), .val (.int (1 : Int32)), .val (.ref w_RESOURCE)] [(.int (1 : Int32))])) _
    refine XS.iloadN X4.here hx rfl (hb hby d3_10) rfl ?_
    show Steps p.tables e below (T4.setTop (mkF m 11 #[.val (.int (43 : Int32)), .val (.ref b1), .val (.int (4 : Int32)), .val (.int (1 : Int32)), .val (.ref w_RESOURCE)] [(.int (4 : Int32)), (.int (1 : Int32))])) _
    refine XS.icmpNo X4.here hx rfl (hb hby d3_11) rfl (tlt (by decide : (1 : Int32) < (4 : Int32))).2.1 ?_
    show Steps p.tables e below (T4.setTop (mkF m 14 #[.val (.int (43 : Int32)), .val (.ref b1), .val (.int (4 : Int32)), .val (.int (1 : Int32)), .val (.ref w_RESOURCE)] [])) _
    refine XS.aloadN X4.here hx rfl (hb hby d3_14) rfl rfl ?_
    show Steps p.tables e below (T4.setTop (mkF m 15 #[.val (.int (43 : Int32)), .val (.ref b1), .val (.int (4 : Int32)), .val (.int (1 : Int32)), .val (.ref w_RESOURCE)] [(.ref b1)])) _
    refine XS.iloadN X4.here hx rfl (hb hby d3_15) rfl ?_
    show Steps p.tables e below (T4.setTop (mkF m 16 #[.val (.int (43 : Int32)), .val (.ref b1), .val (.int (4 : Int32)), .val (.int (1 : Int32)), .val (.ref w_RESOURCE)] [(.int (1 : Int32)), (.ref b1)])) _
    refine X4.aaload hx (j := (1 : Int32)) (v := (.ref w_PROPERTY)) (by rw [e4]; exact Ar5.1) (State.isArrayOf_alike hZ.alike Ar5.2.1) rfl Ar5.2.2 hin5 hat5 (g := (mkF m 16 #[.val (.int (43 : Int32)), .val (.ref b1), .val (.int (4 : Int32)), .val (.int (1 : Int32)), .val (.ref w_RESOURCE)] [(.int (1 : Int32)), (.ref b1)])) rfl rfl (hb hby d3_16) _ ?_
    show Steps p.tables e below (T4.setTop (mkF m 17 #[.val (.int (43 : Int32)), .val (.ref b1), .val (.int (4 : Int32)), .val (.int (1 : Int32)), .val (.ref w_RESOURCE)] [(.ref w_PROPERTY)])) _
    refine XS.astore X4.here hx rfl (hb hby d3_17) rfl rfl (l' := #[.val (.int (43 : Int32)), .val (.ref b1), .val (.int (4 : Int32)), .val (.int (1 : Int32)), .val (.ref w_PROPERTY)]) rfl ?_
    show Steps p.tables e below (T4.setTop (mkF m 19 #[.val (.int (43 : Int32)), .val (.ref b1), .val (.int (4 : Int32)), .val (.int (1 : Int32)), .val (.ref w_PROPERTY)] [])) _
    refine XS.aload X4.here hx rfl (hb hby d3_19) rfl rfl ?_
    show Steps p.tables e below (T4.setTop (mkF m 21 #[.val (.int (43 : Int32)), .val (.ref b1), .val (.int (4 : Int32)), .val (.int (1 : Int32)), .val (.ref w_PROPERTY)] [(.ref w_PROPERTY)])) _
    refine st6 _ ?_
    show Steps p.tables e below (T6.setTop (mkF m 24 #[.val (.int (43 : Int32)), .val (.ref b1), .val (.int (4 : Int32)), .val (.int (1 : Int32)), .val (.ref w_PROPERTY)] [(.int (43 : Int32))])) _
    refine XS.iloadN X6.here hx rfl (hb hby d3_24) rfl ?_
    show Steps p.tables e below (T6.setTop (mkF m 25 #[.val (.int (43 : Int32)), .val (.ref b1), .val (.int (4 : Int32)), .val (.int (1 : Int32)), .val (.ref w_PROPERTY)] [(.int (43 : Int32)), (.int (43 : Int32))])) _
    refine XS.icmpNo X6.here hx rfl (hb hby d3_25) rfl (teq (by decide : (43 : Int32) = (43 : Int32))).2 ?_
    show Steps p.tables e below (T6.setTop (mkF m 28 #[.val (.int (43 : Int32)), .val (.ref b1), .val (.int (4 : Int32)), .val (.int (1 : Int32)), .val (.ref w_PROPERTY)] [])) _
    refine XS.aload X6.here hx rfl (hb hby d3_28) rfl rfl ?_
    show Steps p.tables e below (T6.setTop (mkF m 30 #[.val (.int (43 : Int32)), .val (.ref b1), .val (.int (4 : Int32)), .val (.int (1 : Int32)), .val (.ref w_PROPERTY)] [(.ref w_PROPERTY)])) _
    exact retOut X6 hx Bd.returns rfl (Or.inr (Or.inr (Or.inr (Or.inr ⟨rfl, rfl, rfl⟩)))) (hb hby d3_30) hr
  · have eF : (T6.setFrames fs).heap = T1.heap := e6
    exact ⟨N1, rfl, by rw [eF]; exact O1⟩
set_option maxRecDepth 65536 in
set_option maxHeartbeats 40000000 in
theorem rm5_43 (l : Launch) (Z : State) (a0 : Array Value) (hw : ∀ d ∈ tables_1, d.before a0 Z = true) (ws : List Jvm.Cond) (n0 : Nat) (h0 : Heap) (O : Old Z n0 h0) (w_PROPERTY : Addr) (w__VALUES : Addr) (w_RESOURCE : Addr) (w_CLASS : Addr) (w_LITERAL : Addr) (k_w__VALUES : ClassId) (W : OwW Z w_PROPERTY w__VALUES w_RESOURCE w_CLASS w_LITERAL k_w__VALUES)  :
    OwCon l (⟨"com/example/pathfix/pathfix/core/Kind", "mark", "()C"⟩ : MethodName) prog_12_method_4_code 1 (some .char) ws ({ frames := 0, cells := 0, slots := 0, locals := 0 } : Room) #[(.ref w_PROPERTY)] Z h0 (OwQ (some (.int (43 : Int32))) h0 n0) := by
  refine MetFree.of_bodySF (plainFor_of_name owpn5) hisR ?_
  intro p e s m args below meth c s₁ Bd hml0 hP hK
  obtain ⟨rfl, hZ, hh⟩ := hP
  have hx := Bd.exec
  have hby := Bd.bytes
  have hml : c.maxLocals = 1 := hml0
  have hown : s.vm.findClass "com/example/pathfix/pathfix/core/Kind" = some m.cls := findClass_of_methodNamed Bd.named
  have hnm := (name_of_methodNamed Bd.named Bd.method).1
  have X0 : Stand p l e ({ frames := 0, cells := 0, slots := 0, locals := 0 } : Room) s m #[(.ref w_PROPERTY)] below meth c s₁ [] 0 0 := Stand.of_body Bd
  have e0 : s₁.heap = h0 := by rw [← hh, Bd.state]; rfl
  have N0 := Fr.nil n0
  have WW := W
  obtain ⟨E_w_PROPERTY, E_w__VALUES, E_w_RESOURCE, E_w_CLASS, E_w_LITERAL, S_Kind_PROPERTY, S_Kind__VALUES, S_Kind_RESOURCE, S_Kind_CLASS, S_Kind_LITERAL, F_w_RESOURCE_mark, F_w_PROPERTY_mark, F_w_CLASS_mark, F_w_LITERAL_mark, V_w__VALUES, -⟩ := WW
  have ef : entryFrame m #[(.ref w_PROPERTY)] 1 = mkF m 0 #[.val (.ref w_PROPERTY)] [] := by first | rfl | (simp [entryFrame, mkF, argsToLocals, Value.category]; done)
  have pre0 : ∀ t, Steps p.tables e below (s₁.setTop (mkF m 0 #[.val (.ref w_PROPERTY)] [])) t → Steps p.tables e below (s₁.setTop (entryFrame m #[(.ref w_PROPERTY)] 1)) t := fun t k => castTop ef k
  obtain ⟨T1, X1, e1, st1⟩ := getF X0 hx hZ hown (host := "") (Or.inl (hw _ (List.mem_of_getElem? (i := 31) rfl))) Via.refl e0 (F_w_PROPERTY_mark.ext O.2) (g := (mkF m 1 #[.val (.ref w_PROPERTY)] [(.ref w_PROPERTY)])) rfl rfl (hb hby d5_1)
  obtain ⟨fs, hr, hrun, hended, hW, hsame⟩ := X1.leave (v := some (.int (43 : Int32))) (fun h => by rw [Bd.returns] at h; cases h)
  refine ⟨_, _, pre0 _ ?_, hrun, hended, _, _, rfl, ?_, ⟨_, rfl⟩, hW, hsame.mono (by decide) (by decide)⟩
  · show Steps p.tables e below (s₁.setTop (mkF m 0 #[.val (.ref w_PROPERTY)] [])) _
    refine XS.aloadN X0.here hx rfl (hb hby d5_0) rfl rfl ?_
    show Steps p.tables e below (s₁.setTop (mkF m 1 #[.val (.ref w_PROPERTY)] [(.ref w_PROPERTY)])) _
    refine st1 _ ?_
    show Steps p.tables e below (T1.setTop (mkF m 4 #[.val (.ref w_PROPERTY)] [(.int (43 : Int32))])) _
    exact retN X1 hx (t := .char) Bd.returns (by simp) (hb hby d5_4) hr
  · have eF : (T1.setFrames fs).heap = h0 := e1
    exact ⟨rfl, N0, eF⟩
set_option maxRecDepth 65536 in
set_option maxHeartbeats 40000000 in
theorem rm2_35 (l : Launch) (Z : State) (a0 : Array Value) (hw : ∀ d ∈ tables_1, d.before a0 Z = true) (ws : List Jvm.Cond) (n0 : Nat) (h0 : Heap) (O : Old Z n0 h0) (w_PROPERTY : Addr) (w__VALUES : Addr) (w_RESOURCE : Addr) (w_CLASS : Addr) (w_LITERAL : Addr) (k_w__VALUES : ClassId) (W : OwW Z w_PROPERTY w__VALUES w_RESOURCE w_CLASS w_LITERAL k_w__VALUES)  :
    OwCon l (⟨"com/example/pathfix/pathfix/core/KindOfMarkPinLaw", "reference", "(C)Lcom/example/pathfix/pathfix/core/Kind;"⟩ : MethodName) method_3_code 1 (some (.object "com/example/pathfix/pathfix/core/Kind")) ws ({ frames := 0, cells := 0, slots := 0, locals := 0 } : Room) #[(.int (35 : Int32))] Z h0 (OwQ (some (.ref w_CLASS)) h0 n0) := by
  refine MetFree.of_bodySF (plainFor_of_name owpn2) hisR ?_
  intro p e s m args below meth c s₁ Bd hml0 hP hK
  obtain ⟨rfl, hZ, hh⟩ := hP
  have hx := Bd.exec
  have hby := Bd.bytes
  have hml : c.maxLocals = 1 := hml0
  have hown : s.vm.findClass "com/example/pathfix/pathfix/core/KindOfMarkPinLaw" = some m.cls := findClass_of_methodNamed Bd.named
  have hnm := (name_of_methodNamed Bd.named Bd.method).1
  have X0 : Stand p l e ({ frames := 0, cells := 0, slots := 0, locals := 0 } : Room) s m #[(.int (35 : Int32))] below meth c s₁ [] 0 0 := Stand.of_body Bd
  have e0 : s₁.heap = h0 := by rw [← hh, Bd.state]; rfl
  have N0 := Fr.nil n0
  have WW := W
  obtain ⟨E_w_PROPERTY, E_w__VALUES, E_w_RESOURCE, E_w_CLASS, E_w_LITERAL, S_Kind_PROPERTY, S_Kind__VALUES, S_Kind_RESOURCE, S_Kind_CLASS, S_Kind_LITERAL, F_w_RESOURCE_mark, F_w_PROPERTY_mark, F_w_CLASS_mark, F_w_LITERAL_mark, V_w__VALUES, -⟩ := WW
  have ef : entryFrame m #[(.int (35 : Int32))] 1 = mkF m 0 #[.val (.int (35 : Int32))] [] := by first | rfl | (simp [entryFrame, mkF, argsToLocals, Value.category]; done)
  have pre0 : ∀ t, Steps p.tables e below (s₁.setTop (mkF m 0 #[.val (.int (35 : Int32))] [])) t → Steps p.tables e below (s₁.setTop (entryFrame m #[(.int (35 : Int32))] 1)) t := fun t k => castTop ef k
  obtain ⟨T1, X1, e1, st1⟩ := getS2 X0 hx hZ hown (host := "") (Or.inl (hw _ (List.mem_of_getElem? (i := 39) rfl))) Via.refl e0 (S_Kind_CLASS.ext O.2) (g := (mkF m 26 #[.val (.int (35 : Int32))] [])) rfl (hb hby d2_26)
  obtain ⟨fs, hr, hrun, hended, hW, hsame⟩ := X1.leave (v := some (.ref w_CLASS)) (fun h => by rw [Bd.returns] at h; cases h)
  refine ⟨_, _, pre0 _ ?_, hrun, hended, _, _, rfl, ?_, ⟨_, rfl⟩, hW, hsame.mono (by decide) (by decide)⟩
  · show Steps p.tables e below (s₁.setTop (mkF m 0 #[.val (.int (35 : Int32))] [])) _
    refine XS.iloadN X0.here hx rfl (hb hby d2_0) rfl ?_
    show Steps p.tables e below (s₁.setTop (mkF m 1 #[.val (.int (35 : Int32))] [(.int (35 : Int32))])) _
    refine XS.bipush X0.here hx rfl (hb hby d2_1) ?_
    show Steps p.tables e below (s₁.setTop (mkF m 3 #[.val (.int (35 : Int32))] [(.int (36 : Int32)), (.int (35 : Int32))])) _
    refine XS.icmpYes X0.here hx rfl (pc0 := 3) (pc' := 10) rfl (hb hby d2_3) rfl (feq (by decide : ¬ ((35 : Int32) = (36 : Int32)))).2 (by decide) (by decide) ?_
    show Steps p.tables e below (s₁.setTop (mkF m 10 #[.val (.int (35 : Int32))] [])) _
    refine XS.iloadN X0.here hx rfl (hb hby d2_10) rfl ?_
    show Steps p.tables e below (s₁.setTop (mkF m 11 #[.val (.int (35 : Int32))] [(.int (35 : Int32))])) _
    refine XS.bipush X0.here hx rfl (hb hby d2_11) ?_
    show Steps p.tables e below (s₁.setTop (mkF m 13 #[.val (.int (35 : Int32))] [(.int (43 : Int32)), (.int (35 : Int32))])) _
    refine XS.icmpYes X0.here hx rfl (pc0 := 13) (pc' := 20) rfl (hb hby d2_13) rfl (feq (by decide : ¬ ((35 : Int32) = (43 : Int32)))).2 (by decide) (by decide) ?_
    show Steps p.tables e below (s₁.setTop (mkF m 20 #[.val (.int (35 : Int32))] [])) _
    refine XS.iloadN X0.here hx rfl (hb hby d2_20) rfl ?_
    show Steps p.tables e below (s₁.setTop (mkF m 21 #[.val (.int (35 : Int32))] [(.int (35 : Int32))])) _
    refine XS.bipush X0.here hx rfl (hb hby d2_21) ?_
    show Steps p.tables e below (s₁.setTop (mkF m 23 #[.val (.int (35 : Int32))] [(.int (35 : Int32)), (.int (35 : Int32))])) _
    refine XS.icmpNo X0.here hx rfl (hb hby d2_23) rfl (teq (by decide : (35 : Int32) = (35 : Int32))).2 ?_
    show Steps p.tables e below (s₁.setTop (mkF m 26 #[.val (.int (35 : Int32))] [])) _
    refine st1 _ ?_
    show Steps p.tables e below (T1.setTop (mkF m 29 #[.val (.int (35 : Int32))] [(.ref w_CLASS)])) _
    exact retOut X1 hx Bd.returns rfl (Or.inr (Or.inr (Or.inr (Or.inr ⟨rfl, rfl, rfl⟩)))) (hb hby d2_29) hr
  · have eF : (T1.setFrames fs).heap = h0 := e1
    exact ⟨rfl, N0, eF⟩
set_option maxRecDepth 65536 in
set_option maxHeartbeats 40000000 in
theorem rm3_35 (l : Launch) (Z : State) (a0 : Array Value) (hw : ∀ d ∈ tables_1, d.before a0 Z = true) (ws : List Jvm.Cond) (n0 : Nat) (h0 : Heap) (O : Old Z n0 h0) (w_PROPERTY : Addr) (w__VALUES : Addr) (w_RESOURCE : Addr) (w_CLASS : Addr) (w_LITERAL : Addr) (k_w__VALUES : ClassId) (W : OwW Z w_PROPERTY w__VALUES w_RESOURCE w_CLASS w_LITERAL k_w__VALUES)  :
    OwCon l (⟨"com/example/pathfix/pathfix/core/Kind", "ofMark", "(C)Lcom/example/pathfix/pathfix/core/Kind;"⟩ : MethodName) prog_12_method_5_code 5 (some (.object "com/example/pathfix/pathfix/core/Kind")) ws ({ frames := 2, cells := 1, slots := 4, locals := 25 } : Room) #[(.int (35 : Int32))] Z h0 (OwP (fun v h => v = some (.ref w_CLASS) ∧ Old Z n0 h) n0) := by
  refine MetFree.of_bodySF (plainFor_of_name owpn3) hisR ?_
  intro p e s m args below meth c s₁ Bd hml0 hP hK
  obtain ⟨rfl, hZ, hh⟩ := hP
  have hx := Bd.exec
  have hby := Bd.bytes
  have hml : c.maxLocals = 5 := hml0
  have hown : s.vm.findClass "com/example/pathfix/pathfix/core/Kind" = some m.cls := findClass_of_methodNamed Bd.named
  have hnm := (name_of_methodNamed Bd.named Bd.method).1
  have X0 : Stand p l e ({ frames := 2, cells := 1, slots := 4, locals := 25 } : Room) s m #[(.int (35 : Int32))] below meth c s₁ [] 0 0 := Stand.of_body Bd
  have e0 : s₁.heap = h0 := by rw [← hh, Bd.state]; rfl
  have N0 := Fr.nil n0
  have WW := W
  obtain ⟨E_w_PROPERTY, E_w__VALUES, E_w_RESOURCE, E_w_CLASS, E_w_LITERAL, S_Kind_PROPERTY, S_Kind__VALUES, S_Kind_RESOURCE, S_Kind_CLASS, S_Kind_LITERAL, F_w_RESOURCE_mark, F_w_PROPERTY_mark, F_w_CLASS_mark, F_w_LITERAL_mark, V_w__VALUES, -⟩ := WW
  have ef : entryFrame m #[(.int (35 : Int32))] 5 = mkF m 0 #[.val (.int (35 : Int32)), .unset, .unset, .unset, .unset] [] := by first | rfl | (simp [entryFrame, mkF, argsToLocals, Value.category]; done)
  have pre0 : ∀ t, Steps p.tables e below (s₁.setTop (mkF m 0 #[.val (.int (35 : Int32)), .unset, .unset, .unset, .unset] [])) t → Steps p.tables e below (s₁.setTop (entryFrame m #[(.int (35 : Int32))] 5)) t := fun t k => castTop ef k
  obtain ⟨_, _, ⟨T1, L1, k1, n1⟩, -, X1, ⟨Lc1, hQ1, l1, y1, z1⟩, st1⟩ := Jvm.LawKit.callS X0 hx (y := (⟨"com/example/pathfix/pathfix/core/Kind", "values", "()[Lcom/example/pathfix/pathfix/core/Kind;"⟩ : MethodName)) hown (mvT hZ (hw _ (List.mem_of_getElem? (i := 13) rfl))) (mvT hZ (hw _ (List.mem_of_getElem? (i := 14) rfl))) (mvT hZ (hw _ (List.mem_of_getElem? (i := 8) rfl))) (mvT hZ (hw _ (List.mem_of_getElem? (i := 15) rfl))) (by decide) (backOf (W := 0) (rm4 l Z a0 hw [] n0 h0 O w_PROPERTY w__VALUES w_RESOURCE w_CLASS w_LITERAL k_w__VALUES W  ) hZ (hw _ (List.mem_of_getElem? (i := 15) rfl)) (hw _ (List.mem_of_getElem? (i := 8) rfl)) (by decide) (by decide)) (g := (mkF m 0 #[.val (.int (35 : Int32)), .unset, .unset, .unset, .unset] [])) rfl (by rw [hml]; rfl) (argsL := []) (rest := []) (lenOf owpd0 rfl) rfl (by show 2 * 0 + _ ≤ _; exact Nat.le_of_eq rfl) (hb hby d3_0) (fun _ _ => ⟨rfl, e0, (by decide : 0 + 1 ≤ _), (by decide : 0 + 4 ≤ _)⟩)
  dsimp only [Pt.U, Pt.locs, Pt.cells, Pt.slots] at X1 l1 y1 z1 st1 hQ1
  subst l1 y1 z1
  obtain ⟨Nq1, hP1⟩ := hQ1
  have N1 := Fr.app N0 Nq1
  have ee1 : T1.heap = T1.heap := rfl
  obtain ⟨b1, kb1, rfl, gb1, O1, Vb1⟩ := hP1
  obtain ⟨cl2, Ar2, q2, Sz2, Nn2, Hs2, -⟩ := id Vb1
  obtain ⟨cl3, Ar3, q3, Sz3, Nn3, Hs3, -⟩ := id Vb1
  have hin3 : ¬ ((0 : Int32) < 0 ∨ cl3.slots.size ≤ ((0 : Int32)).toNatClampNeg) := inb_of Sz3 ⟨by decide, by decide⟩
  have hat3 : cl3.slots[((0 : Int32)).toNatClampNeg]? = some (.ref w_RESOURCE) := atH Hs3 hin3 rfl
  obtain ⟨T4, X4, e4, st4⟩ := getF X1 hx hZ hown (host := "") (Or.inl (hw _ (List.mem_of_getElem? (i := 31) rfl))) Via.refl ee1 (F_w_RESOURCE_mark.ext O1.2) (g := (mkF m 21 #[.val (.int (35 : Int32)), .val (.ref b1), .val (.int (4 : Int32)), .val (.int (0 : Int32)), .val (.ref w_RESOURCE)] [(.ref w_RESOURCE)])) rfl rfl (hb hby d3_21)
  obtain ⟨cl5, Ar5, q5, Sz5, Nn5, Hs5, -⟩ := id Vb1
  have hin5 : ¬ ((1 : Int32) < 0 ∨ cl5.slots.size ≤ ((1 : Int32)).toNatClampNeg) := inb_of Sz5 ⟨by decide, by decide⟩
  have hat5 : cl5.slots[((1 : Int32)).toNatClampNeg]? = some (.ref w_PROPERTY) := atH Hs5 hin5 rfl
  obtain ⟨T6, X6, e6, st6⟩ := getF X4 hx hZ hown (host := "") (Or.inl (hw _ (List.mem_of_getElem? (i := 31) rfl))) Via.refl e4 (F_w_PROPERTY_mark.ext O1.2) (g := (mkF m 21 #[.val (.int (35 : Int32)), .val (.ref b1), .val (.int (4 : Int32)), .val (.int (1 : Int32)), .val (.ref w_PROPERTY)] [(.ref w_PROPERTY)])) rfl rfl (hb hby d3_21)
  obtain ⟨cl7, Ar7, q7, Sz7, Nn7, Hs7, -⟩ := id Vb1
  have hin7 : ¬ ((2 : Int32) < 0 ∨ cl7.slots.size ≤ ((2 : Int32)).toNatClampNeg) := inb_of Sz7 ⟨by decide, by decide⟩
  have hat7 : cl7.slots[((2 : Int32)).toNatClampNeg]? = some (.ref w_CLASS) := atH Hs7 hin7 rfl
  obtain ⟨T8, X8, e8, st8⟩ := getF X6 hx hZ hown (host := "") (Or.inl (hw _ (List.mem_of_getElem? (i := 31) rfl))) Via.refl e6 (F_w_CLASS_mark.ext O1.2) (g := (mkF m 21 #[.val (.int (35 : Int32)), .val (.ref b1), .val (.int (4 : Int32)), .val (.int (2 : Int32)), .val (.ref w_CLASS)] [(.ref w_CLASS)])) rfl rfl (hb hby d3_21)
  obtain ⟨fs, hr, hrun, hended, hW, hsame⟩ := X8.leave (v := some (.ref w_CLASS)) (fun h => by rw [Bd.returns] at h; cases h)
  refine ⟨_, _, pre0 _ ?_, hrun, hended, _, _, rfl, ?_, ⟨_, rfl⟩, hW, hsame.mono (by decide) (by decide)⟩
  · show Steps p.tables e below (s₁.setTop (mkF m 0 #[.val (.int (35 : Int32)), .unset, .unset, .unset, .unset] [])) _
    refine st1 _ ?_
    show Steps p.tables e below (T1.setTop (mkF m 3 #[.val (.int (35 : Int32)), .unset, .unset, .unset, .unset] [(.ref b1)])) _
    refine XS.astoreN X1.here hx rfl (hb hby d3_3) rfl rfl (l' := #[.val (.int (35 : Int32)), .val (.ref b1), .unset, .unset, .unset]) rfl ?_
    show Steps p.tables e below (T1.setTop (mkF m 4 #[.val (.int (35 : Int32)), .val (.ref b1), .unset, .unset, .unset] [])) _
    refine XS.aloadN X1.here hx rfl (hb hby d3_4) rfl rfl ?_
    show Steps p.tables e below (T1.setTop (mkF m 5 #[.val (.int (35 : Int32)), .val (.ref b1), .unset, .unset, .unset] [(.ref b1)])) _
    refine X1.arraylength hx (by rw [ee1]; exact Ar2.1) (State.isArrayOf_alike hZ.alike Ar2.2.1) (g := (mkF m 5 #[.val (.int (35 : Int32)), .val (.ref b1), .unset, .unset, .unset] [(.ref b1)])) rfl rfl (hb hby d3_5) _ ?_
    rw [len_of Sz2 Nn2]
    show Steps p.tables e below (T1.setTop (mkF m 6 #[.val (.int (35 : Int32)), .val (.ref b1), .unset, .unset, .unset] [(.int (4 : Int32))])) _
    refine XS.istoreN X1.here hx rfl (hb hby d3_6) rfl (l' := #[.val (.int (35 : Int32)), .val (.ref b1), .val (.int (4 : Int32)), .unset, .unset]) rfl ?_
    show Steps p.tables e below (T1.setTop (mkF m 7 #[.val (.int (35 : Int32)), .val (.ref b1), .val (.int (4 : Int32)), .unset, .unset] [])) _
    refine XS.iconst X1.here hx rfl (hb hby d3_7) ?_
    show Steps p.tables e below (T1.setTop (mkF m 8 #[.val (.int (35 : Int32)), .val (.ref b1), .val (.int (4 : Int32)), .unset, .unset] [(.int (0 : Int32))])) _
    refine XS.istoreN X1.here hx rfl (hb hby d3_8) rfl (l' := #[.val (.int (35 : Int32)), .val (.ref b1), .val (.int (4 : Int32)), .val (.int (0 : Int32)), .unset]) rfl ?_
    show Steps p.tables e below (T1.setTop (mkF m 9 #[.val (.int (35 : Int32)), .val (.ref b1), .val (.int (4 : Int32)), .val (.int (0 : Int32)), .unset] [])) _
    refine XS.iloadN X1.here hx rfl (hb hby d3_9) rfl ?_
    show Steps p.tables e below (T1.setTop (mkF m 10 #[.val (.int (35 : Int32)), .val (.ref b1), .val (.int (4 : Int32)), .val (.int (0 : Int32)), .unset] [(.int (0 : Int32))])) _
    refine XS.iloadN X1.here hx rfl (hb hby d3_10) rfl ?_
    show Steps p.tables e below (T1.setTop (mkF m 11 #[.val (.int (35 : Int32)), .val (.ref b1), .val (.int (4 : Int32)), .val (.int (0 : Int32)), .unset] [(.int (4 : Int32)), (.int (0 : Int32))])) _
    refine XS.icmpNo X1.here hx rfl (hb hby d3_11) rfl (tlt (by decide : (0 : Int32) < (4 : Int32))).2.1 ?_
    show Steps p.tables e below (T1.setTop (mkF m 14 #[.val (.int (35 : Int32)), .val (.ref b1), .val (.int (4 : Int32)), .val (.int (0 : Int32)), .unset] [])) _
    refine XS.aloadN X1.here hx rfl (hb hby d3_14) rfl rfl ?_
    show Steps p.tables e below (T1.setTop (mkF m 15 #[.val (.int (35 : Int32)), .val (.ref b1), .val (.int (4 : Int32)), .val (.int (0 : Int32)), .unset] [(.ref b1)])) _
    refine XS.iloadN X1.here hx rfl (hb hby d3_15) rfl ?_
    show Steps p.tables e below (T1.setTop (mkF m 16 #[.val (.int (35 : Int32)), .val (.ref b1), .val (.int (4 : Int32)), .val (.int (0 : Int32)), .unset] [(.int (0 : Int32)), (.ref b1)])) _
    refine X1.aaload hx (j := (0 : Int32)) (v := (.ref w_RESOURCE)) (by rw [ee1]; exact Ar3.1) (State.isArrayOf_alike hZ.alike Ar3.2.1) rfl Ar3.2.2 hin3 hat3 (g := (mkF m 16 #[.val (.int (35 : Int32)), .val (.ref b1), .val (.int (4 : Int32)), .val (.int (0 : Int32)), .unset] [(.int (0 : Int32)), (.ref b1)])) rfl rfl (hb hby d3_16) _ ?_
    show Steps p.tables e below (T1.setTop (mkF m 17 #[.val (.int (35 : Int32)), .val (.ref b1), .val (.int (4 : Int32)), .val (.int (0 : Int32)), .unset] [(.ref w_RESOURCE)])) _
    refine XS.astore X1.here hx rfl (hb hby d3_17) rfl rfl (l' := #[.val (.int (35 : Int32)), .val (.ref b1), .val (.int (4 : Int32)), .val (.int (0 : Int32)), .val (.ref w_RESOURCE)]) rfl ?_
    show Steps p.tables e below (T1.setTop (mkF m 19 #[.val (.int (35 : Int32)), .val (.ref b1), .val (.int (4 : Int32)), .val (.int (0 : Int32)), .val (.ref w_RESOURCE)] [])) _
    refine XS.aload X1.here hx rfl (hb hby d3_19) rfl rfl ?_
    show Steps p.tables e below (T1.setTop (mkF m 21 #[.val (.int (35 : Int32)), .val (.ref b1), .val (.int (4 : Int32)), .val (.int (0 : Int32)), .val (.ref w_RESOURCE)] [(.ref w_RESOURCE)])) _
    refine st4 _ ?_
    show Steps p.tables e below (T4.setTop (mkF m 24 #[.val (.int (35 : Int32)), .val (.ref b1), .val (.int (4 : Int32)), .val (.int (0 : Int32)), .val (.ref w_RESOURCE)] [(.int (36 : Int32))])) _
    refine XS.iloadN X4.here hx rfl (hb hby d3_24) rfl ?_
    show Steps p.tables e below (T4.setTop (mkF m 25 #[.val (.int (35 : Int32)), .val (.ref b1), .val (.int (4 : Int32)), .val (.int (0 : Int32)), .val (.ref w_RESOURCE)] [(.int (35 : Int32)), (.int (36 : Int32))])) _
    refine XS.icmpYes X4.here hx rfl (pc0 := 25) (pc' := 31) rfl (hb hby d3_25) rfl (feq (by decide : ¬ ((36 : Int32) = (35 : Int32)))).2 (by decide) (by decide) ?_
    show Steps p.tables e below (T4.setTop (mkF m 31 #[.val (.int (35 : Int32)), .val (.ref b1), .val (.int (4 : Int32)), .val (.int (0 : Int32)), .val (.ref w_RESOURCE)] [])) _
    refine XS.iinc X4.here hx rfl (hb hby d3_31) rfl (l' := #[.val (.int (35 : Int32)), .val (.ref b1), .val (.int (4 : Int32)), .val (.int (1 : Int32)), .val (.ref w_RESOURCE)]) rfl ?_
    show Steps p.tables e below (T4.setTop (mkF m 34 #[.val (.int (35 : Int32)), .val (.ref b1), .val (.int (4 : Int32)), .val (.int (1 : Int32)), .val (.ref w_RESOURCE)] [])) _
    refine XS.goto X4.here hx rfl (pc0 := 34) (pc' := 9) rfl (hb hby d3_34) (by decide) (by decide) ?_
    show Steps p.tables e below (T4.setTop (mkF m 9 #[.val (.int (35 : Int32)), .val (.ref b1), .val (.int (4 : Int32)), .val (.int (1 : Int32)), .val (.ref w_RESOURCE)] [])) _
    refine XS.iloadN X4.here hx rfl (hb hby d3_9) rfl ?_
    show Steps p.tables e below (T4.setTop (mkF m 10 #[.val (.int (35 : Int32)), .val (.ref b1), .val (.int (4 : Int32)), .val (.int (1 : Int32)), .val (.ref w_RESOURCE)] [(.int (1 : Int32))])) _
    refine XS.iloadN X4.here hx rfl (hb hby d3_10) rfl ?_
    show Steps p.tables e below (T4.setTop (mkF m 11 #[.val (.int (35 : Int32)), .val (.ref b1), .val (.int (4 : Int32)), .val (.int (1 : Int32)), .val (.ref w_RESOURCE)] [(.int (4 : Int32)), (.int (1 : Int32))])) _
    refine XS.icmpNo X4.here hx rfl (hb hby d3_11) rfl (tlt (by decide : (1 : Int32) < (4 : Int32))).2.1 ?_
    show Steps p.tables e below (T4.setTop (mkF m 14 #[.val (.int (35 : Int32)), .val (.ref b1), .val (.int (4 : Int32)), .val (.int (1 : Int32)), .val (.ref w_RESOURCE)] [])) _
    refine XS.aloadN X4.here hx rfl (hb hby d3_14) rfl rfl ?_
    show Steps p.tables e below (T4.setTop (mkF m 15 #[.val (.int (35 : Int32)), .val (.ref b1), .val (.int (4 : Int32)), .val (.int (1 : Int32)), .val (.ref w_RESOURCE)] [(.ref b1)])) _
    refine XS.iloadN X4.here hx rfl (hb hby d3_15) rfl ?_
    show Steps p.tables e below (T4.setTop (mkF m 16 #[.val (.int (35 : Int32)), .val (.ref b1), .val (.int (4 : Int32)), .val (.int (1 : Int32)), .val (.ref w_RESOURCE)] [(.int (1 : Int32)), (.ref b1)])) _
    refine X4.aaload hx (j := (1 : Int32)) (v := (.ref w_PROPERTY)) (by rw [e4]; exact Ar5.1) (State.isArrayOf_alike hZ.alike Ar5.2.1) rfl Ar5.2.2 hin5 hat5 (g := (mkF m 16 #[.val (.int (35 : Int32)), .val (.ref b1), .val (.int (4 : Int32)), .val (.int (1 : Int32)), .val (.ref w_RESOURCE)] [(.int (1 : Int32)), (.ref b1)])) rfl rfl (hb hby d3_16) _ ?_
    show Steps p.tables e below (T4.setTop (mkF m 17 #[.val (.int (35 : Int32)), .val (.ref b1), .val (.int (4 : Int32)), .val (.int (1 : Int32)), .val (.ref w_RESOURCE)] [(.ref w_PROPERTY)])) _
    refine XS.astore X4.here hx rfl (hb hby d3_17) rfl rfl (l' := #[.val (.int (35 : Int32)), .val (.ref b1), .val (.int (4 : Int32)), .val (.int (1 : Int32)), .val (.ref w_PROPERTY)]) rfl ?_
    show Steps p.tables e below (T4.setTop (mkF m 19 #[.val (.int (35 : Int32)), .val (.ref b1), .val (.int (4 : Int32)), .val (.int (1 : Int32)), .val (.ref w_PROPERTY)] [])) _
    refine XS.aload X4.here hx rfl (hb hby d3_19) rfl rfl ?_
    show Steps p.tables e below (T4.setTop (mkF m 21 #[.val (.int (35 : Int32)), .val (.ref b1), .val (.int (4 : Int32)), .val (.int (1 : Int32)), .val (.ref w_PROPERTY)] [(.ref w_PROPERTY)])) _
    refine st6 _ ?_
    show Steps p.tables e below (T6.setTop (mkF m 24 #[.val (.int (35 : Int32)), .val (.ref b1), .val (.int (4 : Int32)), .val (.int (1 : Int32)), .val (.ref w_PROPERTY)] [(.int (43 : Int32))])) _
    refine XS.iloadN X6.here hx rfl (hb hby d3_24) rfl ?_
    show Steps p.tables e below (T6.setTop (mkF m 25 #[.val (.int (35 : Int32)), .val (.ref b1), .val (.int (4 : Int32)), .val (.int (1 : Int32)), .val (.ref w_PROPERTY)] [(.int (35 : Int32)), (.int (43 : Int32))])) _
    refine XS.icmpYes X6.here hx rfl (pc0 := 25) (pc' := 31) rfl (hb hby d3_25) rfl (feq (by decide : ¬ ((43 : Int32) = (35 : Int32)))).2 (by decide) (by decide) ?_
    show Steps p.tables e below (T6.setTop (mkF m 31 #[.val (.int (35 : Int32)), .val (.ref b1), .val (.int (4 : Int32)), .val (.int (1 : Int32)), .val (.ref w_PROPERTY)] [])) _
    refine XS.iinc X6.here hx rfl (hb hby d3_31) rfl (l' := #[.val (.int (35 : Int32)), .val (.ref b1), .val (.int (4 : Int32)), .val (.int (2 : Int32)), .val (.ref w_PROPERTY)]) rfl ?_
    show Steps p.tables e below (T6.setTop (mkF m 34 #[.val (.int (35 : Int32)), .val (.ref b1), .val (.int (4 : Int32)), .val (.int (2 : Int32)), .val (.ref w_PROPERTY)] [])) _
    refine XS.goto X6.here hx rfl (pc0 := 34) (pc' := 9) rfl (hb hby d3_34) (by decide) (by decide) ?_
    show Steps p.tables e below (T6.setTop (mkF m 9 #[.val (.int (35 : Int32)), .val (.ref b1), .val (.int (4 : Int32)), .val (.int (2 : Int32)), .val (.ref w_PROPERTY)] [])) _
    refine XS.iloadN X6.here hx rfl (hb hby d3_9) rfl ?_
    show Steps p.tables e below (T6.setTop (mkF m 10 #[.val (.int (35 : Int32)), .val (.ref b1), .val (.int (4 : Int32)), .val (.int (2 : Int32)), .val (.ref w_PROPERTY)] [(.int (2 : Int32))])) _
    refine XS.iloadN X6.here hx rfl (hb hby d3_10) rfl ?_
    show Steps p.tables e below (T6.setTop (mkF m 11 #[.val (.int (35 : Int32)), .val (.ref b1), .val (.int (4 : Int32)), .val (.int (2 : Int32)), .val (.ref w_PROPERTY)] [(.int (4 : Int32)), (.int (2 : Int32))])) _
    refine XS.icmpNo X6.here hx rfl (hb hby d3_11) rfl (tlt (by decide : (2 : Int32) < (4 : Int32))).2.1 ?_
    show Steps p.tables e below (T6.setTop (mkF m 14 #[.val (.int (35 : Int32)), .val (.ref b1), .val (.int (4 : Int32)), .val (.int (2 : Int32)), .val (.ref w_PROPERTY)] [])) _
    refine XS.aloadN X6.here hx rfl (hb hby d3_14) rfl rfl ?_
    show Steps p.tables e below (T6.setTop (mkF m 15 #[.val (.int (35 : Int32)), .val (.ref b1), .val (.int (4 : Int32)), .val (.int (2 : Int32)), .val (.ref w_PROPERTY)] [(.ref b1)])) _
    refine XS.iloadN X6.here hx rfl (hb hby d3_15) rfl ?_
    show Steps p.tables e below (T6.setTop (mkF m 16 #[.val (.int (35 : Int32)), .val (.ref b1), .val (.int (4 : Int32)), .val (.int (2 : Int32)), .val (.ref w_PROPERTY)] [(.int (2 : Int32)), (.ref b1)])) _
    refine X6.aaload hx (j := (2 : Int32)) (v := (.ref w_CLASS)) (by rw [e6]; exact Ar7.1) (State.isArrayOf_alike hZ.alike Ar7.2.1) rfl Ar7.2.2 hin7 hat7 (g := (mkF m 16 #[.val (.int (35 : Int32)), .val (.ref b1), .val (.int (4 : Int32)), .val (.int (2 : Int32)), .val (.ref w_PROPERTY)] [(.int (2 : Int32)), (.ref b1)])) rfl rfl (hb hby d3_16) _ ?_
    show Steps p.tables e below (T6.setTop (mkF m 17 #[.val (.int (35 : Int32)), .val (.ref b1), .val (.int (4 : Int32)), .val (.int (2 : Int32)), .val (.ref w_PROPERTY)] [(.ref w_CLASS)])) _
    refine XS.astore X6.here hx rfl (hb hby d3_17) rfl rfl (l' := #[.val (.int (35 : Int32)), .val (.ref b1), .val (.int (4 : Int32)), .val (.int (2 : Int32)), .val (.ref w_CLASS)]) rfl ?_
    show Steps p.tables e below (T6.setTop (mkF m 19 #[.val (.int (35 : Int32)), .val (.ref b1), .val (.int (4 : Int32)), .val (.int (2 : Int32)), .val (.ref w_CLASS)] [])) _
    refine XS.aload X6.here hx rfl (hb hby d3_19) rfl rfl ?_
    show Steps p.tables e below (T6.setTop (mkF m 21 #[.val (.int (35 : Int32)), .val (.ref b1), .val (.int (4 : Int32)), .val (.int (2 : Int32)), .val (.ref w_CLASS)] [(.ref w_CLASS)])) _
    refine st8 _ ?_
    show Steps p.tables e below (T8.setTop (mkF m 24 #[.val (.int (35 : Int32)), .val (.ref b1), .val (.int (4 : Int32)), .val (.int (2 : Int32)), .val (.ref w_CLASS)] [(.int (35 : Int32))])) _
    refine XS.iloadN X8.here hx rfl (hb hby d3_24) rfl ?_
    show Steps p.tables e below (T8.setTop (mkF m 25 #[.val (.int (35 : Int32)), .val (.ref b1), .val (.int (4 : Int32)), .val (.int (2 : Int32)), .val (.ref w_CLASS)] [(.int (35 : Int32)), (.int (35 : Int32))])) _
    refine XS.icmpNo X8.here hx rfl (hb hby d3_25) rfl (teq (by decide : (35 : Int32) = (35 : Int32))).2 ?_
    show Steps p.tables e below (T8.setTop (mkF m 28 #[.val (.int (35 : Int32)), .val (.ref b1), .val (.int (4 : Int32)), .val (.int (2 : Int32)), .val (.ref w_CLASS)] [])) _
    refine XS.aload X8.here hx rfl (hb hby d3_28) rfl rfl ?_
    show Steps p.tables e below (T8.setTop (mkF m 30 #[.val (.int (35 : Int32)), .val (.ref b1), .val (.int (4 : Int32)), .val (.int (2 : Int32)), .val (.ref w_CLASS)] [(.ref w_CLASS)])) _
    exact retOut X8 hx Bd.returns rfl (Or.inr (Or.inr (Or.inr (Or.inr ⟨rfl, rfl, rfl⟩)))) (hb hby d3_30) hr
  · have eF : (T8.setFrames fs).heap = T1.heap := e8
    exact ⟨N1, rfl, by rw [eF]; exact O1⟩
set_option maxRecDepth 65536 in
set_option maxHeartbeats 40000000 in
theorem rm5_35 (l : Launch) (Z : State) (a0 : Array Value) (hw : ∀ d ∈ tables_1, d.before a0 Z = true) (ws : List Jvm.Cond) (n0 : Nat) (h0 : Heap) (O : Old Z n0 h0) (w_PROPERTY : Addr) (w__VALUES : Addr) (w_RESOURCE : Addr) (w_CLASS : Addr) (w_LITERAL : Addr) (k_w__VALUES : ClassId) (W : OwW Z w_PROPERTY w__VALUES w_RESOURCE w_CLASS w_LITERAL k_w__VALUES)  :
    OwCon l (⟨"com/example/pathfix/pathfix/core/Kind", "mark", "()C"⟩ : MethodName) prog_12_method_4_code 1 (some .char) ws ({ frames := 0, cells := 0, slots := 0, locals := 0 } : Room) #[(.ref w_CLASS)] Z h0 (OwQ (some (.int (35 : Int32))) h0 n0) := by
  refine MetFree.of_bodySF (plainFor_of_name owpn5) hisR ?_
  intro p e s m args below meth c s₁ Bd hml0 hP hK
  obtain ⟨rfl, hZ, hh⟩ := hP
  have hx := Bd.exec
  have hby := Bd.bytes
  have hml : c.maxLocals = 1 := hml0
  have hown : s.vm.findClass "com/example/pathfix/pathfix/core/Kind" = some m.cls := findClass_of_methodNamed Bd.named
  have hnm := (name_of_methodNamed Bd.named Bd.method).1
  have X0 : Stand p l e ({ frames := 0, cells := 0, slots := 0, locals := 0 } : Room) s m #[(.ref w_CLASS)] below meth c s₁ [] 0 0 := Stand.of_body Bd
  have e0 : s₁.heap = h0 := by rw [← hh, Bd.state]; rfl
  have N0 := Fr.nil n0
  have WW := W
  obtain ⟨E_w_PROPERTY, E_w__VALUES, E_w_RESOURCE, E_w_CLASS, E_w_LITERAL, S_Kind_PROPERTY, S_Kind__VALUES, S_Kind_RESOURCE, S_Kind_CLASS, S_Kind_LITERAL, F_w_RESOURCE_mark, F_w_PROPERTY_mark, F_w_CLASS_mark, F_w_LITERAL_mark, V_w__VALUES, -⟩ := WW
  have ef : entryFrame m #[(.ref w_CLASS)] 1 = mkF m 0 #[.val (.ref w_CLASS)] [] := by first | rfl | (simp [entryFrame, mkF, argsToLocals, Value.category]; done)
  have pre0 : ∀ t, Steps p.tables e below (s₁.setTop (mkF m 0 #[.val (.ref w_CLASS)] [])) t → Steps p.tables e below (s₁.setTop (entryFrame m #[(.ref w_CLASS)] 1)) t := fun t k => castTop ef k
  obtain ⟨T1, X1, e1, st1⟩ := getF X0 hx hZ hown (host := "") (Or.inl (hw _ (List.mem_of_getElem? (i := 31) rfl))) Via.refl e0 (F_w_CLASS_mark.ext O.2) (g := (mkF m 1 #[.val (.ref w_CLASS)] [(.ref w_CLASS)])) rfl rfl (hb hby d5_1)
  obtain ⟨fs, hr, hrun, hended, hW, hsame⟩ := X1.leave (v := some (.int (35 : Int32))) (fun h => by rw [Bd.returns] at h; cases h)
  refine ⟨_, _, pre0 _ ?_, hrun, hended, _, _, rfl, ?_, ⟨_, rfl⟩, hW, hsame.mono (by decide) (by decide)⟩
  · show Steps p.tables e below (s₁.setTop (mkF m 0 #[.val (.ref w_CLASS)] [])) _
    refine XS.aloadN X0.here hx rfl (hb hby d5_0) rfl rfl ?_
    show Steps p.tables e below (s₁.setTop (mkF m 1 #[.val (.ref w_CLASS)] [(.ref w_CLASS)])) _
    refine st1 _ ?_
    show Steps p.tables e below (T1.setTop (mkF m 4 #[.val (.ref w_CLASS)] [(.int (35 : Int32))])) _
    exact retN X1 hx (t := .char) Bd.returns (by simp) (hb hby d5_4) hr
  · have eF : (T1.setFrames fs).heap = h0 := e1
    exact ⟨rfl, N0, eF⟩
set_option maxRecDepth 65536 in
set_option maxHeartbeats 40000000 in
theorem rm2_34 (l : Launch) (Z : State) (a0 : Array Value) (hw : ∀ d ∈ tables_1, d.before a0 Z = true) (ws : List Jvm.Cond) (n0 : Nat) (h0 : Heap) (O : Old Z n0 h0) (w_PROPERTY : Addr) (w__VALUES : Addr) (w_RESOURCE : Addr) (w_CLASS : Addr) (w_LITERAL : Addr) (k_w__VALUES : ClassId) (W : OwW Z w_PROPERTY w__VALUES w_RESOURCE w_CLASS w_LITERAL k_w__VALUES)  :
    OwCon l (⟨"com/example/pathfix/pathfix/core/KindOfMarkPinLaw", "reference", "(C)Lcom/example/pathfix/pathfix/core/Kind;"⟩ : MethodName) method_3_code 1 (some (.object "com/example/pathfix/pathfix/core/Kind")) ws ({ frames := 0, cells := 0, slots := 0, locals := 0 } : Room) #[(.int (34 : Int32))] Z h0 (OwQ (some (.ref w_LITERAL)) h0 n0) := by
  refine MetFree.of_bodySF (plainFor_of_name owpn2) hisR ?_
  intro p e s m args below meth c s₁ Bd hml0 hP hK
  obtain ⟨rfl, hZ, hh⟩ := hP
  have hx := Bd.exec
  have hby := Bd.bytes
  have hml : c.maxLocals = 1 := hml0
  have hown : s.vm.findClass "com/example/pathfix/pathfix/core/KindOfMarkPinLaw" = some m.cls := findClass_of_methodNamed Bd.named
  have hnm := (name_of_methodNamed Bd.named Bd.method).1
  have X0 : Stand p l e ({ frames := 0, cells := 0, slots := 0, locals := 0 } : Room) s m #[(.int (34 : Int32))] below meth c s₁ [] 0 0 := Stand.of_body Bd
  have e0 : s₁.heap = h0 := by rw [← hh, Bd.state]; rfl
  have N0 := Fr.nil n0
  have WW := W
  obtain ⟨E_w_PROPERTY, E_w__VALUES, E_w_RESOURCE, E_w_CLASS, E_w_LITERAL, S_Kind_PROPERTY, S_Kind__VALUES, S_Kind_RESOURCE, S_Kind_CLASS, S_Kind_LITERAL, F_w_RESOURCE_mark, F_w_PROPERTY_mark, F_w_CLASS_mark, F_w_LITERAL_mark, V_w__VALUES, -⟩ := WW
  have ef : entryFrame m #[(.int (34 : Int32))] 1 = mkF m 0 #[.val (.int (34 : Int32))] [] := by first | rfl | (simp [entryFrame, mkF, argsToLocals, Value.category]; done)
  have pre0 : ∀ t, Steps p.tables e below (s₁.setTop (mkF m 0 #[.val (.int (34 : Int32))] [])) t → Steps p.tables e below (s₁.setTop (entryFrame m #[(.int (34 : Int32))] 1)) t := fun t k => castTop ef k
  obtain ⟨T1, X1, e1, st1⟩ := getS2 X0 hx hZ hown (host := "") (Or.inl (hw _ (List.mem_of_getElem? (i := 40) rfl))) Via.refl e0 (S_Kind_LITERAL.ext O.2) (g := (mkF m 36 #[.val (.int (34 : Int32))] [])) rfl (hb hby d2_36)
  obtain ⟨fs, hr, hrun, hended, hW, hsame⟩ := X1.leave (v := some (.ref w_LITERAL)) (fun h => by rw [Bd.returns] at h; cases h)
  refine ⟨_, _, pre0 _ ?_, hrun, hended, _, _, rfl, ?_, ⟨_, rfl⟩, hW, hsame.mono (by decide) (by decide)⟩
  · show Steps p.tables e below (s₁.setTop (mkF m 0 #[.val (.int (34 : Int32))] [])) _
    refine XS.iloadN X0.here hx rfl (hb hby d2_0) rfl ?_
    show Steps p.tables e below (s₁.setTop (mkF m 1 #[.val (.int (34 : Int32))] [(.int (34 : Int32))])) _
    refine XS.bipush X0.here hx rfl (hb hby d2_1) ?_
    show Steps p.tables e below (s₁.setTop (mkF m 3 #[.val (.int (34 : Int32))] [(.int (36 : Int32)), (.int (34 : Int32))])) _
    refine XS.icmpYes X0.here hx rfl (pc0 := 3) (pc' := 10) rfl (hb hby d2_3) rfl (feq (by decide : ¬ ((34 : Int32) = (36 : Int32)))).2 (by decide) (by decide) ?_
    show Steps p.tables e below (s₁.setTop (mkF m 10 #[.val (.int (34 : Int32))] [])) _
    refine XS.iloadN X0.here hx rfl (hb hby d2_10) rfl ?_
    show Steps p.tables e below (s₁.setTop (mkF m 11 #[.val (.int (34 : Int32))] [(.int (34 : Int32))])) _
    refine XS.bipush X0.here hx rfl (hb hby d2_11) ?_
    show Steps p.tables e below (s₁.setTop (mkF m 13 #[.val (.int (34 : Int32))] [(.int (43 : Int32)), (.int (34 : Int32))])) _
    refine XS.icmpYes X0.here hx rfl (pc0 := 13) (pc' := 20) rfl (hb hby d2_13) rfl (feq (by decide : ¬ ((34 : Int32) = (43 : Int32)))).2 (by decide) (by decide) ?_
    show Steps p.tables e below (s₁.setTop (mkF m 20 #[.val (.int (34 : Int32))] [])) _
    refine XS.iloadN X0.here hx rfl (hb hby d2_20) rfl ?_
    show Steps p.tables e below (s₁.setTop (mkF m 21 #[.val (.int (34 : Int32))] [(.int (34 : Int32))])) _
    refine XS.bipush X0.here hx rfl (hb hby d2_21) ?_
    show Steps p.tables e below (s₁.setTop (mkF m 23 #[.val (.int (34 : Int32))] [(.int (35 : Int32)), (.int (34 : Int32))])) _
    refine XS.icmpYes X0.here hx rfl (pc0 := 23) (pc' := 30) rfl (hb hby d2_23) rfl (feq (by decide : ¬ ((34 : Int32) = (35 : Int32)))).2 (by decide) (by decide) ?_
    show Steps p.tables e below (s₁.setTop (mkF m 30 #[.val (.int (34 : Int32))] [])) _
    refine XS.iloadN X0.here hx rfl (hb hby d2_30) rfl ?_
    show Steps p.tables e below (s₁.setTop (mkF m 31 #[.val (.int (34 : Int32))] [(.int (34 : Int32))])) _
    refine XS.bipush X0.here hx rfl (hb hby d2_31) ?_
    show Steps p.tables e below (s₁.setTop (mkF m 33 #[.val (.int (34 : Int32))] [(.int (34 : Int32)), (.int (34 : Int32))])) _
    refine XS.icmpNo X0.here hx rfl (hb hby d2_33) rfl (teq (by decide : (34 : Int32) = (34 : Int32))).2 ?_
    show Steps p.tables e below (s₁.setTop (mkF m 36 #[.val (.int (34 : Int32))] [])) _
    refine st1 _ ?_
    show Steps p.tables e below (T1.setTop (mkF m 39 #[.val (.int (34 : Int32))] [(.ref w_LITERAL)])) _
    exact retOut X1 hx Bd.returns rfl (Or.inr (Or.inr (Or.inr (Or.inr ⟨rfl, rfl, rfl⟩)))) (hb hby d2_39) hr
  · have eF : (T1.setFrames fs).heap = h0 := e1
    exact ⟨rfl, N0, eF⟩
set_option maxRecDepth 65536 in
set_option maxHeartbeats 40000000 in
theorem rm3_34 (l : Launch) (Z : State) (a0 : Array Value) (hw : ∀ d ∈ tables_1, d.before a0 Z = true) (ws : List Jvm.Cond) (n0 : Nat) (h0 : Heap) (O : Old Z n0 h0) (w_PROPERTY : Addr) (w__VALUES : Addr) (w_RESOURCE : Addr) (w_CLASS : Addr) (w_LITERAL : Addr) (k_w__VALUES : ClassId) (W : OwW Z w_PROPERTY w__VALUES w_RESOURCE w_CLASS w_LITERAL k_w__VALUES)  :
    OwCon l (⟨"com/example/pathfix/pathfix/core/Kind", "ofMark", "(C)Lcom/example/pathfix/pathfix/core/Kind;"⟩ : MethodName) prog_12_method_5_code 5 (some (.object "com/example/pathfix/pathfix/core/Kind")) ws ({ frames := 2, cells := 1, slots := 4, locals := 25 } : Room) #[(.int (34 : Int32))] Z h0 (OwP (fun v h => v = some (.ref w_LITERAL) ∧ Old Z n0 h) n0) := by
  refine MetFree.of_bodySF (plainFor_of_name owpn3) hisR ?_
  intro p e s m args below meth c s₁ Bd hml0 hP hK
  obtain ⟨rfl, hZ, hh⟩ := hP
  have hx := Bd.exec
  have hby := Bd.bytes
  have hml : c.maxLocals = 5 := hml0
  have hown : s.vm.findClass "com/example/pathfix/pathfix/core/Kind" = some m.cls := findClass_of_methodNamed Bd.named
  have hnm := (name_of_methodNamed Bd.named Bd.method).1
  have X0 : Stand p l e ({ frames := 2, cells := 1, slots := 4, locals := 25 } : Room) s m #[(.int (34 : Int32))] below meth c s₁ [] 0 0 := Stand.of_body Bd
  have e0 : s₁.heap = h0 := by rw [← hh, Bd.state]; rfl
  have N0 := Fr.nil n0
  have WW := W
  obtain ⟨E_w_PROPERTY, E_w__VALUES, E_w_RESOURCE, E_w_CLASS, E_w_LITERAL, S_Kind_PROPERTY, S_Kind__VALUES, S_Kind_RESOURCE, S_Kind_CLASS, S_Kind_LITERAL, F_w_RESOURCE_mark, F_w_PROPERTY_mark, F_w_CLASS_mark, F_w_LITERAL_mark, V_w__VALUES, -⟩ := WW
  have ef : entryFrame m #[(.int (34 : Int32))] 5 = mkF m 0 #[.val (.int (34 : Int32)), .unset, .unset, .unset, .unset] [] := by first | rfl | (simp [entryFrame, mkF, argsToLocals, Value.category]; done)
  have pre0 : ∀ t, Steps p.tables e below (s₁.setTop (mkF m 0 #[.val (.int (34 : Int32)), .unset, .unset, .unset, .unset] [])) t → Steps p.tables e below (s₁.setTop (entryFrame m #[(.int (34 : Int32))] 5)) t := fun t k => castTop ef k
  obtain ⟨_, _, ⟨T1, L1, k1, n1⟩, -, X1, ⟨Lc1, hQ1, l1, y1, z1⟩, st1⟩ := Jvm.LawKit.callS X0 hx (y := (⟨"com/example/pathfix/pathfix/core/Kind", "values", "()[Lcom/example/pathfix/pathfix/core/Kind;"⟩ : MethodName)) hown (mvT hZ (hw _ (List.mem_of_getElem? (i := 13) rfl))) (mvT hZ (hw _ (List.mem_of_getElem? (i := 14) rfl))) (mvT hZ (hw _ (List.mem_of_getElem? (i := 8) rfl))) (mvT hZ (hw _ (List.mem_of_getElem? (i := 15) rfl))) (by decide) (backOf (W := 0) (rm4 l Z a0 hw [] n0 h0 O w_PROPERTY w__VALUES w_RESOURCE w_CLASS w_LITERAL k_w__VALUES W  ) hZ (hw _ (List.mem_of_getElem? (i := 15) rfl)) (hw _ (List.mem_of_getElem? (i := 8) rfl)) (by decide) (by decide)) (g := (mkF m 0 #[.val (.int (34 : Int32)), .unset, .unset, .unset, .unset] [])) rfl (by rw [hml]; rfl) (argsL := []) (rest := []) (lenOf owpd0 rfl) rfl (by show 2 * 0 + _ ≤ _; exact Nat.le_of_eq rfl) (hb hby d3_0) (fun _ _ => ⟨rfl, e0, (by decide : 0 + 1 ≤ _), (by decide : 0 + 4 ≤ _)⟩)
  dsimp only [Pt.U, Pt.locs, Pt.cells, Pt.slots] at X1 l1 y1 z1 st1 hQ1
  subst l1 y1 z1
  obtain ⟨Nq1, hP1⟩ := hQ1
  have N1 := Fr.app N0 Nq1
  have ee1 : T1.heap = T1.heap := rfl
  obtain ⟨b1, kb1, rfl, gb1, O1, Vb1⟩ := hP1
  obtain ⟨cl2, Ar2, q2, Sz2, Nn2, Hs2, -⟩ := id Vb1
  obtain ⟨cl3, Ar3, q3, Sz3, Nn3, Hs3, -⟩ := id Vb1
  have hin3 : ¬ ((0 : Int32) < 0 ∨ cl3.slots.size ≤ ((0 : Int32)).toNatClampNeg) := inb_of Sz3 ⟨by decide, by decide⟩
  have hat3 : cl3.slots[((0 : Int32)).toNatClampNeg]? = some (.ref w_RESOURCE) := atH Hs3 hin3 rfl
  obtain ⟨T4, X4, e4, st4⟩ := getF X1 hx hZ hown (host := "") (Or.inl (hw _ (List.mem_of_getElem? (i := 31) rfl))) Via.refl ee1 (F_w_RESOURCE_mark.ext O1.2) (g := (mkF m 21 #[.val (.int (34 : Int32)), .val (.ref b1), .val (.int (4 : Int32)), .val (.int (0 : Int32)), .val (.ref w_RESOURCE)] [(.ref w_RESOURCE)])) rfl rfl (hb hby d3_21)
  obtain ⟨cl5, Ar5, q5, Sz5, Nn5, Hs5, -⟩ := id Vb1
  have hin5 : ¬ ((1 : Int32) < 0 ∨ cl5.slots.size ≤ ((1 : Int32)).toNatClampNeg) := inb_of Sz5 ⟨by decide, by decide⟩
  have hat5 : cl5.slots[((1 : Int32)).toNatClampNeg]? = some (.ref w_PROPERTY) := atH Hs5 hin5 rfl
  obtain ⟨T6, X6, e6, st6⟩ := getF X4 hx hZ hown (host := "") (Or.inl (hw _ (List.mem_of_getElem? (i := 31) rfl))) Via.refl e4 (F_w_PROPERTY_mark.ext O1.2) (g := (mkF m 21 #[.val (.int (34 : Int32)), .val (.ref b1), .val (.int (4 : Int32)), .val (.int (1 : Int32)), .val (.ref w_PROPERTY)] [(.ref w_PROPERTY)])) rfl rfl (hb hby d3_21)
  obtain ⟨cl7, Ar7, q7, Sz7, Nn7, Hs7, -⟩ := id Vb1
  have hin7 : ¬ ((2 : Int32) < 0 ∨ cl7.slots.size ≤ ((2 : Int32)).toNatClampNeg) := inb_of Sz7 ⟨by decide, by decide⟩
  have hat7 : cl7.slots[((2 : Int32)).toNatClampNeg]? = some (.ref w_CLASS) := atH Hs7 hin7 rfl
  obtain ⟨T8, X8, e8, st8⟩ := getF X6 hx hZ hown (host := "") (Or.inl (hw _ (List.mem_of_getElem? (i := 31) rfl))) Via.refl e6 (F_w_CLASS_mark.ext O1.2) (g := (mkF m 21 #[.val (.int (34 : Int32)), .val (.ref b1), .val (.int (4 : Int32)), .val (.int (2 : Int32)), .val (.ref w_CLASS)] [(.ref w_CLASS)])) rfl rfl (hb hby d3_21)
  obtain ⟨cl9, Ar9, q9, Sz9, Nn9, Hs9, -⟩ := id Vb1
  have hin9 : ¬ ((3 : Int32) < 0 ∨ cl9.slots.size ≤ ((3 : Int32)).toNatClampNeg) := inb_of Sz9 ⟨by decide, by decide⟩
  have hat9 : cl9.slots[((3 : Int32)).toNatClampNeg]? = some (.ref w_LITERAL) := atH Hs9 hin9 rfl
  obtain ⟨T10, X10, e10, st10⟩ := getF X8 hx hZ hown (host := "") (Or.inl (hw _ (List.mem_of_getElem? (i := 31) rfl))) Via.refl e8 (F_w_LITERAL_mark.ext O1.2) (g := (mkF m 21 #[.val (.int (34 : Int32)), .val (.ref b1), .val (.int (4 : Int32)), .val (.int (3 : Int32)), .val (.ref w_LITERAL)] [(.ref w_LITERAL)])) rfl rfl (hb hby d3_21)
  obtain ⟨fs, hr, hrun, hended, hW, hsame⟩ := X10.leave (v := some (.ref w_LITERAL)) (fun h => by rw [Bd.returns] at h; cases h)
  refine ⟨_, _, pre0 _ ?_, hrun, hended, _, _, rfl, ?_, ⟨_, rfl⟩, hW, hsame.mono (by decide) (by decide)⟩
  · show Steps p.tables e below (s₁.setTop (mkF m 0 #[.val (.int (34 : Int32)), .unset, .unset, .unset, .unset] [])) _
    refine st1 _ ?_
    show Steps p.tables e below (T1.setTop (mkF m 3 #[.val (.int (34 : Int32)), .unset, .unset, .unset, .unset] [(.ref b1)])) _
    refine XS.astoreN X1.here hx rfl (hb hby d3_3) rfl rfl (l' := #[.val (.int (34 : Int32)), .val (.ref b1), .unset, .unset, .unset]) rfl ?_
    show Steps p.tables e below (T1.setTop (mkF m 4 #[.val (.int (34 : Int32)), .val (.ref b1), .unset, .unset, .unset] [])) _
    refine XS.aloadN X1.here hx rfl (hb hby d3_4) rfl rfl ?_
    show Steps p.tables e below (T1.setTop (mkF m 5 #[.val (.int (34 : Int32)), .val (.ref b1), .unset, .unset, .unset] [(.ref b1)])) _
    refine X1.arraylength hx (by rw [ee1]; exact Ar2.1) (State.isArrayOf_alike hZ.alike Ar2.2.1) (g := (mkF m 5 #[.val (.int (34 : Int32)), .val (.ref b1), .unset, .unset, .unset] [(.ref b1)])) rfl rfl (hb hby d3_5) _ ?_
    rw [len_of Sz2 Nn2]
    show Steps p.tables e below (T1.setTop (mkF m 6 #[.val (.int (34 : Int32)), .val (.ref b1), .unset, .unset, .unset] [(.int (4 : Int32))])) _
    refine XS.istoreN X1.here hx rfl (hb hby d3_6) rfl (l' := #[.val (.int (34 : Int32)), .val (.ref b1), .val (.int (4 : Int32)), .unset, .unset]) rfl ?_
    show Steps p.tables e below (T1.setTop (mkF m 7 #[.val (.int (34 : Int32)), .val (.ref b1), .val (.int (4 : Int32)), .unset, .unset] [])) _
    refine XS.iconst X1.here hx rfl (hb hby d3_7) ?_
    show Steps p.tables e below (T1.setTop (mkF m 8 #[.val (.int (34 : Int32)), .val (.ref b1), .val (.int (4 : Int32)), .unset, .unset] [(.int (0 : Int32))])) _
    refine XS.istoreN X1.here hx rfl (hb hby d3_8) rfl (l' := #[.val (.int (34 : Int32)), .val (.ref b1), .val (.int (4 : Int32)), .val (.int (0 : Int32)), .unset]) rfl ?_
    show Steps p.tables e below (T1.setTop (mkF m 9 #[.val (.int (34 : Int32)), .val (.ref b1), .val (.int (4 : Int32)), .val (.int (0 : Int32)), .unset] [])) _
    refine XS.iloadN X1.here hx rfl (hb hby d3_9) rfl ?_
    show Steps p.tables e below (T1.setTop (mkF m 10 #[.val (.int (34 : Int32)), .val (.ref b1), .val (.int (4 : Int32)), .val (.int (0 : Int32)), .unset] [(.int (0 : Int32))])) _
    refine XS.iloadN X1.here hx rfl (hb hby d3_10) rfl ?_
    show Steps p.tables e below (T1.setTop (mkF m 11 #[.val (.int (34 : Int32)), .val (.ref b1), .val (.int (4 : Int32)), .val (.int (0 : Int32)), .unset] [(.int (4 : Int32)), (.int (0 : Int32))])) _
    refine XS.icmpNo X1.here hx rfl (hb hby d3_11) rfl (tlt (by decide : (0 : Int32) < (4 : Int32))).2.1 ?_
    show Steps p.tables e below (T1.setTop (mkF m 14 #[.val (.int (34 : Int32)), .val (.ref b1), .val (.int (4 : Int32)), .val (.int (0 : Int32)), .unset] [])) _
    refine XS.aloadN X1.here hx rfl (hb hby d3_14) rfl rfl ?_
    show Steps p.tables e below (T1.setTop (mkF m 15 #[.val (.int (34 : Int32)), .val (.ref b1), .val (.int (4 : Int32)), .val (.int (0 : Int32)), .unset] [(.ref b1)])) _
    refine XS.iloadN X1.here hx rfl (hb hby d3_15) rfl ?_
    show Steps p.tables e below (T1.setTop (mkF m 16 #[.val (.int (34 : Int32)), .val (.ref b1), .val (.int (4 : Int32)), .val (.int (0 : Int32)), .unset] [(.int (0 : Int32)), (.ref b1)])) _
    refine X1.aaload hx (j := (0 : Int32)) (v := (.ref w_RESOURCE)) (by rw [ee1]; exact Ar3.1) (State.isArrayOf_alike hZ.alike Ar3.2.1) rfl Ar3.2.2 hin3 hat3 (g := (mkF m 16 #[.val (.int (34 : Int32)), .val (.ref b1), .val (.int (4 : Int32)), .val (.int (0 : Int32)), .unset] [(.int (0 : Int32)), (.ref b1)])) rfl rfl (hb hby d3_16) _ ?_
    show Steps p.tables e below (T1.setTop (mkF m 17 #[.val (.int (34 : Int32)), .val (.ref b1), .val (.int (4 : Int32)), .val (.int (0 : Int32)), .unset] [(.ref w_RESOURCE)])) _
    refine XS.astore X1.here hx rfl (hb hby d3_17) rfl rfl (l' := #[.val (.int (34 : Int32)), .val (.ref b1), .val (.int (4 : Int32)), .val (.int (0 : Int32)), .val (.ref w_RESOURCE)]) rfl ?_
    show Steps p.tables e below (T1.setTop (mkF m 19 #[.val (.int (34 : Int32)), .val (.ref b1), .val (.int (4 : Int32)), .val (.int (0 : Int32)), .val (.ref w_RESOURCE)] [])) _
    refine XS.aload X1.here hx rfl (hb hby d3_19) rfl rfl ?_
    show Steps p.tables e below (T1.setTop (mkF m 21 #[.val (.int (34 : Int32)), .val (.ref b1), .val (.int (4 : Int32)), .val (.int (0 : Int32)), .val (.ref w_RESOURCE)] [(.ref w_RESOURCE)])) _
    refine st4 _ ?_
    show Steps p.tables e below (T4.setTop (mkF m 24 #[.val (.int (34 : Int32)), .val (.ref b1), .val (.int (4 : Int32)), .val (.int (0 : Int32)), .val (.ref w_RESOURCE)] [(.int (36 : Int32))])) _
    refine XS.iloadN X4.here hx rfl (hb hby d3_24) rfl ?_
    show Steps p.tables e below (T4.setTop (mkF m 25 #[.val (.int (34 : Int32)), .val (.ref b1), .val (.int (4 : Int32)), .val (.int (0 : Int32)), .val (.ref w_RESOURCE)] [(.int (34 : Int32)), (.int (36 : Int32))])) _
    refine XS.icmpYes X4.here hx rfl (pc0 := 25) (pc' := 31) rfl (hb hby d3_25) rfl (feq (by decide : ¬ ((36 : Int32) = (34 : Int32)))).2 (by decide) (by decide) ?_
    show Steps p.tables e below (T4.setTop (mkF m 31 #[.val (.int (34 : Int32)), .val (.ref b1), .val (.int (4 : Int32)), .val (.int (0 : Int32)), .val (.ref w_RESOURCE)] [])) _
    refine XS.iinc X4.here hx rfl (hb hby d3_31) rfl (l' := #[.val (.int (34 : Int32)), .val (.ref b1), .val (.int (4 : Int32)), .val (.int (1 : Int32)), .val (.ref w_RESOURCE)]) rfl ?_
    show Steps p.tables e below (T4.setTop (mkF m 34 #[.val (.int (34 : Int32)), .val (.ref b1), .val (.int (4 : Int32)), .val (.int (1 : Int32)), .val (.ref w_RESOURCE)] [])) _
    refine XS.goto X4.here hx rfl (pc0 := 34) (pc' := 9) rfl (hb hby d3_34) (by decide) (by decide) ?_
    show Steps p.tables e below (T4.setTop (mkF m 9 #[.val (.int (34 : Int32)), .val (.ref b1), .val (.int (4 : Int32)), .val (.int (1 : Int32)), .val (.ref w_RESOURCE)] [])) _
    refine XS.iloadN X4.here hx rfl (hb hby d3_9) rfl ?_
    show Steps p.tables e below (T4.setTop (mkF m 10 #[.val (.int (34 : Int32)), .val (.ref b1), .val (.int (4 : Int32)), .val (.int (1 : Int32)), .val (.ref w_RESOURCE)] [(.int (1 : Int32))])) _
    refine XS.iloadN X4.here hx rfl (hb hby d3_10) rfl ?_
    show Steps p.tables e below (T4.setTop (mkF m 11 #[.val (.int (34 : Int32)), .val (.ref b1), .val (.int (4 : Int32)), .val (.int (1 : Int32)), .val (.ref w_RESOURCE)] [(.int (4 : Int32)), (.int (1 : Int32))])) _
    refine XS.icmpNo X4.here hx rfl (hb hby d3_11) rfl (tlt (by decide : (1 : Int32) < (4 : Int32))).2.1 ?_
    show Steps p.tables e below (T4.setTop (mkF m 14 #[.val (.int (34 : Int32)), .val (.ref b1), .val (.int (4 : Int32)), .val (.int (1 : Int32)), .val (.ref w_RESOURCE)] [])) _
    refine XS.aloadN X4.here hx rfl (hb hby d3_14) rfl rfl ?_
    show Steps p.tables e below (T4.setTop (mkF m 15 #[.val (.int (34 : Int32)), .val (.ref b1), .val (.int (4 : Int32)), .val (.int (1 : Int32)), .val (.ref w_RESOURCE)] [(.ref b1)])) _
    refine XS.iloadN X4.here hx rfl (hb hby d3_15) rfl ?_
    show Steps p.tables e below (T4.setTop (mkF m 16 #[.val (.int (34 : Int32)), .val (.ref b1), .val (.int (4 : Int32)), .val (.int (1 : Int32)), .val (.ref w_RESOURCE)] [(.int (1 : Int32)), (.ref b1)])) _
    refine X4.aaload hx (j := (1 : Int32)) (v := (.ref w_PROPERTY)) (by rw [e4]; exact Ar5.1) (State.isArrayOf_alike hZ.alike Ar5.2.1) rfl Ar5.2.2 hin5 hat5 (g := (mkF m 16 #[.val (.int (34 : Int32)), .val (.ref b1), .val (.int (4 : Int32)), .val (.int (1 : Int32)), .val (.ref w_RESOURCE)] [(.int (1 : Int32)), (.ref b1)])) rfl rfl (hb hby d3_16) _ ?_
    show Steps p.tables e below (T4.setTop (mkF m 17 #[.val (.int (34 : Int32)), .val (.ref b1), .val (.int (4 : Int32)), .val (.int (1 : Int32)), .val (.ref w_RESOURCE)] [(.ref w_PROPERTY)])) _
    refine XS.astore X4.here hx rfl (hb hby d3_17) rfl rfl (l' := #[.val (.int (34 : Int32)), .val (.ref b1), .val (.int (4 : Int32)), .val (.int (1 : Int32)), .val (.ref w_PROPERTY)]) rfl ?_
    show Steps p.tables e below (T4.setTop (mkF m 19 #[.val (.int (34 : Int32)), .val (.ref b1), .val (.int (4 : Int32)), .val (.int (1 : Int32)), .val (.ref w_PROPERTY)] [])) _
    refine XS.aload X4.here hx rfl (hb hby d3_19) rfl rfl ?_
    show Steps p.tables e below (T4.setTop (mkF m 21 #[.val (.int (34 : Int32)), .val (.ref b1), .val (.int (4 : Int32)), .val (.int (1 : Int32)), .val (.ref w_PROPERTY)] [(.ref w_PROPERTY)])) _
    refine st6 _ ?_
    show Steps p.tables e below (T6.setTop (mkF m 24 #[.val (.int (34 : Int32)), .val (.ref b1), .val (.int (4 : Int32)), .val (.int (1 : Int32)), .val (.ref w_PROPERTY)] [(.int (43 : Int32))])) _
    refine XS.iloadN X6.here hx rfl (hb hby d3_24) rfl ?_
    show Steps p.tables e below (T6.setTop (mkF m 25 #[.val (.int (34 : Int32)), .val (.ref b1), .val (.int (4 : Int32)), .val (.int (1 : Int32)), .val (.ref w_PROPERTY)] [(.int (34 : Int32)), (.int (43 : Int32))])) _
    refine XS.icmpYes X6.here hx rfl (pc0 := 25) (pc' := 31) rfl (hb hby d3_25) rfl (feq (by decide : ¬ ((43 : Int32) = (34 : Int32)))).2 (by decide) (by decide) ?_
    show Steps p.tables e below (T6.setTop (mkF m 31 #[.val (.int (34 : Int32)), .val (.ref b1), .val (.int (4 : Int32)), .val (.int (1 : Int32)), .val (.ref w_PROPERTY)] [])) _
    refine XS.iinc X6.here hx rfl (hb hby d3_31) rfl (l' := #[.val (.int (34 : Int32)), .val (.ref b1), .val (.int (4 : Int32)), .val (.int (2 : Int32)), .val (.ref w_PROPERTY)]) rfl ?_
    show Steps p.tables e below (T6.setTop (mkF m 34 #[.val (.int (34 : Int32)), .val (.ref b1), .val (.int (4 : Int32)), .val (.int (2 : Int32)), .val (.ref w_PROPERTY)] [])) _
    refine XS.goto X6.here hx rfl (pc0 := 34) (pc' := 9) rfl (hb hby d3_34) (by decide) (by decide) ?_
    show Steps p.tables e below (T6.setTop (mkF m 9 #[.val (.int (34 : Int32)), .val (.ref b1), .val (.int (4 : Int32)), .val (.int (2 : Int32)), .val (.ref w_PROPERTY)] [])) _
    refine XS.iloadN X6.here hx rfl (hb hby d3_9) rfl ?_
    show Steps p.tables e below (T6.setTop (mkF m 10 #[.val (.int (34 : Int32)), .val (.ref b1), .val (.int (4 : Int32)), .val (.int (2 : Int32)), .val (.ref w_PROPERTY)] [(.int (2 : Int32))])) _
    refine XS.iloadN X6.here hx rfl (hb hby d3_10) rfl ?_
    show Steps p.tables e below (T6.setTop (mkF m 11 #[.val (.int (34 : Int32)), .val (.ref b1), .val (.int (4 : Int32)), .val (.int (2 : Int32)), .val (.ref w_PROPERTY)] [(.int (4 : Int32)), (.int (2 : Int32))])) _
    refine XS.icmpNo X6.here hx rfl (hb hby d3_11) rfl (tlt (by decide : (2 : Int32) < (4 : Int32))).2.1 ?_
    show Steps p.tables e below (T6.setTop (mkF m 14 #[.val (.int (34 : Int32)), .val (.ref b1), .val (.int (4 : Int32)), .val (.int (2 : Int32)), .val (.ref w_PROPERTY)] [])) _
    refine XS.aloadN X6.here hx rfl (hb hby d3_14) rfl rfl ?_
    show Steps p.tables e below (T6.setTop (mkF m 15 #[.val (.int (34 : Int32)), .val (.ref b1), .val (.int (4 : Int32)), .val (.int (2 : Int32)), .val (.ref w_PROPERTY)] [(.ref b1)])) _
    refine XS.iloadN X6.here hx rfl (hb hby d3_15) rfl ?_
    show Steps p.tables e below (T6.setTop (mkF m 16 #[.val (.int (34 : Int32)), .val (.ref b1), .val (.int (4 : Int32)), .val (.int (2 : Int32)), .val (.ref w_PROPERTY)] [(.int (2 : Int32)), (.ref b1)])) _
    refine X6.aaload hx (j := (2 : Int32)) (v := (.ref w_CLASS)) (by rw [e6]; exact Ar7.1) (State.isArrayOf_alike hZ.alike Ar7.2.1) rfl Ar7.2.2 hin7 hat7 (g := (mkF m 16 #[.val (.int (34 : Int32)), .val (.ref b1), .val (.int (4 : Int32)), .val (.int (2 : Int32)), .val (.ref w_PROPERTY)] [(.int (2 : Int32)), (.ref b1)])) rfl rfl (hb hby d3_16) _ ?_
    show Steps p.tables e below (T6.setTop (mkF m 17 #[.val (.int (34 : Int32)), .val (.ref b1), .val (.int (4 : Int32)), .val (.int (2 : Int32)), .val (.ref w_PROPERTY)] [(.ref w_CLASS)])) _
    refine XS.astore X6.here hx rfl (hb hby d3_17) rfl rfl (l' := #[.val (.int (34 : Int32)), .val (.ref b1), .val (.int (4 : Int32)), .val (.int (2 : Int32)), .val (.ref w_CLASS)]) rfl ?_
    show Steps p.tables e below (T6.setTop (mkF m 19 #[.val (.int (34 : Int32)), .val (.ref b1), .val (.int (4 : Int32)), .val (.int (2 : Int32)), .val (.ref w_CLASS)] [])) _
    refine XS.aload X6.here hx rfl (hb hby d3_19) rfl rfl ?_
    show Steps p.tables e below (T6.setTop (mkF m 21 #[.val (.int (34 : Int32)), .val (.ref b1), .val (.int (4 : Int32)), .val (.int (2 : Int32)), .val (.ref w_CLASS)] [(.ref w_CLASS)])) _
    refine st8 _ ?_
    show Steps p.tables e below (T8.setTop (mkF m 24 #[.val (.int (34 : Int32)), .val (.ref b1), .val (.int (4 : Int32)), .val (.int (2 : Int32)), .val (.ref w_CLASS)] [(.int (35 : Int32))])) _
    refine XS.iloadN X8.here hx rfl (hb hby d3_24) rfl ?_
    show Steps p.tables e below (T8.setTop (mkF m 25 #[.val (.int (34 : Int32)), .val (.ref b1), .val (.int (4 : Int32)), .val (.int (2 : Int32)), .val (.ref w_CLASS)] [(.int (34 : Int32)), (.int (35 : Int32))])) _
    refine XS.icmpYes X8.here hx rfl (pc0 := 25) (pc' := 31) rfl (hb hby d3_25) rfl (feq (by decide : ¬ ((35 : Int32) = (34 : Int32)))).2 (by decide) (by decide) ?_
    show Steps p.tables e below (T8.setTop (mkF m 31 #[.val (.int (34 : Int32)), .val (.ref b1), .val (.int (4 : Int32)), .val (.int (2 : Int32)), .val (.ref w_CLASS)] [])) _
    refine XS.iinc X8.here hx rfl (hb hby d3_31) rfl (l' := #[.val (.int (34 : Int32)), .val (.ref b1), .val (.int (4 : Int32)), .val (.int (3 : Int32)), .val (.ref w_CLASS)]) rfl ?_
    show Steps p.tables e below (T8.setTop (mkF m 34 #[.val (.int (34 : Int32)), .val (.ref b1), .val (.int (4 : Int32)), .val (.int (3 : Int32)), .val (.ref w_CLASS)] [])) _
    refine XS.goto X8.here hx rfl (pc0 := 34) (pc' := 9) rfl (hb hby d3_34) (by decide) (by decide) ?_
    show Steps p.tables e below (T8.setTop (mkF m 9 #[.val (.int (34 : Int32)), .val (.ref b1), .val (.int (4 : Int32)), .val (.int (3 : Int32)), .val (.ref w_CLASS)] [])) _
    refine XS.iloadN X8.here hx rfl (hb hby d3_9) rfl ?_
    show Steps p.tables e below (T8.setTop (mkF m 10 #[.val (.int (34 : Int32)), .val (.ref b1), .val (.int (4 : Int32)), .val (.int (3 : Int32)), .val (.ref w_CLASS)] [(.int (3 : Int32))])) _
    refine XS.iloadN X8.here hx rfl (hb hby d3_10) rfl ?_
    show Steps p.tables e below (T8.setTop (mkF m 11 #[.val (.int (34 : Int32)), .val (.ref b1), .val (.int (4 : Int32)), .val (.int (3 : Int32)), .val (.ref w_CLASS)] [(.int (4 : Int32)), (.int (3 : Int32))])) _
    refine XS.icmpNo X8.here hx rfl (hb hby d3_11) rfl (tlt (by decide : (3 : Int32) < (4 : Int32))).2.1 ?_
    show Steps p.tables e below (T8.setTop (mkF m 14 #[.val (.int (34 : Int32)), .val (.ref b1), .val (.int (4 : Int32)), .val (.int (3 : Int32)), .val (.ref w_CLASS)] [])) _
    refine XS.aloadN X8.here hx rfl (hb hby d3_14) rfl rfl ?_
    show Steps p.tables e below (T8.setTop (mkF m 15 #[.val (.int (34 : Int32)), .val (.ref b1), .val (.int (4 : Int32)), .val (.int (3 : Int32)), .val (.ref w_CLASS)] [(.ref b1)])) _
    refine XS.iloadN X8.here hx rfl (hb hby d3_15) rfl ?_
    show Steps p.tables e below (T8.setTop (mkF m 16 #[.val (.int (34 : Int32)), .val (.ref b1), .val (.int (4 : Int32)), .val (.int (3 : Int32)), .val (.ref w_CLASS)] [(.int (3 : Int32)), (.ref b1)])) _
    refine X8.aaload hx (j := (3 : Int32)) (v := (.ref w_LITERAL)) (by rw [e8]; exact Ar9.1) (State.isArrayOf_alike hZ.alike Ar9.2.1) rfl Ar9.2.2 hin9 hat9 (g := (mkF m 16 #[.val (.int (34 : Int32)), .val (.ref b1), .val (.int (4 : Int32)), .val (.int (3 : Int32)), .val (.ref w_CLASS)] [(.int (3 : Int32)), (.ref b1)])) rfl rfl (hb hby d3_16) _ ?_
    show Steps p.tables e below (T8.setTop (mkF m 17 #[.val (.int (34 : Int32)), .val (.ref b1), .val (.int (4 : Int32)), .val (.int (3 : Int32)), .val (.ref w_CLASS)] [(.ref w_LITERAL)])) _
    refine XS.astore X8.here hx rfl (hb hby d3_17) rfl rfl (l' := #[.val (.int (34 : Int32)), .val (.ref b1), .val (.int (4 : Int32)), .val (.int (3 : Int32)), .val (.ref w_LITERAL)]) rfl ?_
    show Steps p.tables e below (T8.setTop (mkF m 19 #[.val (.int (34 : Int32)), .val (.ref b1), .val (.int (4 : Int32)), .val (.int (3 : Int32)), .val (.ref w_LITERAL)] [])) _
    refine XS.aload X8.here hx rfl (hb hby d3_19) rfl rfl ?_
    show Steps p.tables e below (T8.setTop (mkF m 21 #[.val (.int (34 : Int32)), .val (.ref b1), .val (.int (4 : Int32)), .val (.int (3 : Int32)), .val (.ref w_LITERAL)] [(.ref w_LITERAL)])) _
    refine st10 _ ?_
    show Steps p.tables e below (T10.setTop (mkF m 24 #[.val (.int (34 : Int32)), .val (.ref b1), .val (.int (4 : Int32)), .val (.int (3 : Int32)), .val (.ref w_LITERAL)] [(.int (34 : Int32))])) _
    refine XS.iloadN X10.here hx rfl (hb hby d3_24) rfl ?_
    show Steps p.tables e below (T10.setTop (mkF m 25 #[.val (.int (34 : Int32)), .val (.ref b1), .val (.int (4 : Int32)), .val (.int (3 : Int32)), .val (.ref w_LITERAL)] [(.int (34 : Int32)), (.int (34 : Int32))])) _
    refine XS.icmpNo X10.here hx rfl (hb hby d3_25) rfl (teq (by decide : (34 : Int32) = (34 : Int32))).2 ?_
    show Steps p.tables e below (T10.setTop (mkF m 28 #[.val (.int (34 : Int32)), .val (.ref b1), .val (.int (4 : Int32)), .val (.int (3 : Int32)), .val (.ref w_LITERAL)] [])) _
    refine XS.aload X10.here hx rfl (hb hby d3_28) rfl rfl ?_
    show Steps p.tables e below (T10.setTop (mkF m 30 #[.val (.int (34 : Int32)), .val (.ref b1), .val (.int (4 : Int32)), .val (.int (3 : Int32)), .val (.ref w_LITERAL)] [(.ref w_LITERAL)])) _
    exact retOut X10 hx Bd.returns rfl (Or.inr (Or.inr (Or.inr (Or.inr ⟨rfl, rfl, rfl⟩)))) (hb hby d3_30) hr
  · have eF : (T10.setFrames fs).heap = T1.heap := e10
    exact ⟨N1, rfl, by rw [eF]; exact O1⟩
set_option maxRecDepth 65536 in
set_option maxHeartbeats 40000000 in
theorem rm5_34 (l : Launch) (Z : State) (a0 : Array Value) (hw : ∀ d ∈ tables_1, d.before a0 Z = true) (ws : List Jvm.Cond) (n0 : Nat) (h0 : Heap) (O : Old Z n0 h0) (w_PROPERTY : Addr) (w__VALUES : Addr) (w_RESOURCE : Addr) (w_CLASS : Addr) (w_LITERAL : Addr) (k_w__VALUES : ClassId) (W : OwW Z w_PROPERTY w__VALUES w_RESOURCE w_CLASS w_LITERAL k_w__VALUES)  :
    OwCon l (⟨"com/example/pathfix/pathfix/core/Kind", "mark", "()C"⟩ : MethodName) prog_12_method_4_code 1 (some .char) ws ({ frames := 0, cells := 0, slots := 0, locals := 0 } : Room) #[(.ref w_LITERAL)] Z h0 (OwQ (some (.int (34 : Int32))) h0 n0) := by
  refine MetFree.of_bodySF (plainFor_of_name owpn5) hisR ?_
  intro p e s m args below meth c s₁ Bd hml0 hP hK
  obtain ⟨rfl, hZ, hh⟩ := hP
  have hx := Bd.exec
  have hby := Bd.bytes
  have hml : c.maxLocals = 1 := hml0
  have hown : s.vm.findClass "com/example/pathfix/pathfix/core/Kind" = some m.cls := findClass_of_methodNamed Bd.named
  have hnm := (name_of_methodNamed Bd.named Bd.method).1
  have X0 : Stand p l e ({ frames := 0, cells := 0, slots := 0, locals := 0 } : Room) s m #[(.ref w_LITERAL)] below meth c s₁ [] 0 0 := Stand.of_body Bd
  have e0 : s₁.heap = h0 := by rw [← hh, Bd.state]; rfl
  have N0 := Fr.nil n0
  have WW := W
  obtain ⟨E_w_PROPERTY, E_w__VALUES, E_w_RESOURCE, E_w_CLASS, E_w_LITERAL, S_Kind_PROPERTY, S_Kind__VALUES, S_Kind_RESOURCE, S_Kind_CLASS, S_Kind_LITERAL, F_w_RESOURCE_mark, F_w_PROPERTY_mark, F_w_CLASS_mark, F_w_LITERAL_mark, V_w__VALUES, -⟩ := WW
  have ef : entryFrame m #[(.ref w_LITERAL)] 1 = mkF m 0 #[.val (.ref w_LITERAL)] [] := by first | rfl | (simp [entryFrame, mkF, argsToLocals, Value.category]; done)
  have pre0 : ∀ t, Steps p.tables e below (s₁.setTop (mkF m 0 #[.val (.ref w_LITERAL)] [])) t → Steps p.tables e below (s₁.setTop (entryFrame m #[(.ref w_LITERAL)] 1)) t := fun t k => castTop ef k
  obtain ⟨T1, X1, e1, st1⟩ := getF X0 hx hZ hown (host := "") (Or.inl (hw _ (List.mem_of_getElem? (i := 31) rfl))) Via.refl e0 (F_w_LITERAL_mark.ext O.2) (g := (mkF m 1 #[.val (.ref w_LITERAL)] [(.ref w_LITERAL)])) rfl rfl (hb hby d5_1)
  obtain ⟨fs, hr, hrun, hended, hW, hsame⟩ := X1.leave (v := some (.int (34 : Int32))) (fun h => by rw [Bd.returns] at h; cases h)
  refine ⟨_, _, pre0 _ ?_, hrun, hended, _, _, rfl, ?_, ⟨_, rfl⟩, hW, hsame.mono (by decide) (by decide)⟩
  · show Steps p.tables e below (s₁.setTop (mkF m 0 #[.val (.ref w_LITERAL)] [])) _
    refine XS.aloadN X0.here hx rfl (hb hby d5_0) rfl rfl ?_
    show Steps p.tables e below (s₁.setTop (mkF m 1 #[.val (.ref w_LITERAL)] [(.ref w_LITERAL)])) _
    refine st1 _ ?_
    show Steps p.tables e below (T1.setTop (mkF m 4 #[.val (.ref w_LITERAL)] [(.int (34 : Int32))])) _
    exact retN X1 hx (t := .char) Bd.returns (by simp) (hb hby d5_4) hr
  · have eF : (T1.setFrames fs).heap = h0 := e1
    exact ⟨rfl, N0, eF⟩
set_option maxRecDepth 65536 in
set_option maxHeartbeats 40000000 in
theorem rm2_o (l : Launch) (Z : State) (a0 : Array Value) (hw : ∀ d ∈ tables_1, d.before a0 Z = true) (ws : List Jvm.Cond) (n0 : Nat) (h0 : Heap) (O : Old Z n0 h0) (w_PROPERTY : Addr) (w__VALUES : Addr) (w_RESOURCE : Addr) (w_CLASS : Addr) (w_LITERAL : Addr) (k_w__VALUES : ClassId) (W : OwW Z w_PROPERTY w__VALUES w_RESOURCE w_CLASS w_LITERAL k_w__VALUES) (cx : Int32) (h36 : ¬ cx = (36 : Int32)) (h43 : ¬ cx = (43 : Int32)) (h35 : ¬ cx = (35 : Int32)) (h34 : ¬ cx = (34 : Int32)) :
    OwCon l (⟨"com/example/pathfix/pathfix/core/KindOfMarkPinLaw", "reference", "(C)Lcom/example/pathfix/pathfix/core/Kind;"⟩ : MethodName) method_3_code 1 (some (.object "com/example/pathfix/pathfix/core/Kind")) ws ({ frames := 0, cells := 0, slots := 0, locals := 0 } : Room) #[(.int cx)] Z h0 (OwQ (some .null) h0 n0) := by
  refine MetFree.of_bodySF (plainFor_of_name owpn2) hisR ?_
  intro p e s m args below meth c s₁ Bd hml0 hP hK
  obtain ⟨rfl, hZ, hh⟩ := hP
  have hx := Bd.exec
  have hby := Bd.bytes
  have hml : c.maxLocals = 1 := hml0
  have hown : s.vm.findClass "com/example/pathfix/pathfix/core/KindOfMarkPinLaw" = some m.cls := findClass_of_methodNamed Bd.named
  have hnm := (name_of_methodNamed Bd.named Bd.method).1
  have X0 : Stand p l e ({ frames := 0, cells := 0, slots := 0, locals := 0 } : Room) s m #[(.int cx)] below meth c s₁ [] 0 0 := Stand.of_body Bd
  have e0 : s₁.heap = h0 := by rw [← hh, Bd.state]; rfl
  have N0 := Fr.nil n0
  have WW := W
  obtain ⟨E_w_PROPERTY, E_w__VALUES, E_w_RESOURCE, E_w_CLASS, E_w_LITERAL, S_Kind_PROPERTY, S_Kind__VALUES, S_Kind_RESOURCE, S_Kind_CLASS, S_Kind_LITERAL, F_w_RESOURCE_mark, F_w_PROPERTY_mark, F_w_CLASS_mark, F_w_LITERAL_mark, V_w__VALUES, -⟩ := WW
  have ef : entryFrame m #[(.int cx)] 1 = mkF m 0 #[.val (.int cx)] [] := by first | rfl | (simp [entryFrame, mkF, argsToLocals, Value.category]; done)
  have pre0 : ∀ t, Steps p.tables e below (s₁.setTop (mkF m 0 #[.val (.int cx)] [])) t → Steps p.tables e below (s₁.setTop (entryFrame m #[(.int cx)] 1)) t := fun t k => castTop ef k
  obtain ⟨fs, hr, hrun, hended, hW, hsame⟩ := X0.leave (v := some .null) (fun h => by rw [Bd.returns] at h; cases h)
  refine ⟨_, _, pre0 _ ?_, hrun, hended, _, _, rfl, ?_, ⟨_, rfl⟩, hW, hsame.mono (by decide) (by decide)⟩
  · show Steps p.tables e below (s₁.setTop (mkF m 0 #[.val (.int cx)] [])) _
    refine XS.iloadN X0.here hx rfl (hb hby d2_0) rfl ?_
    show Steps p.tables e below (s₁.setTop (mkF m 1 #[.val (.int cx)] [(.int cx)])) _
    refine XS.bipush X0.here hx rfl (hb hby d2_1) ?_
    show Steps p.tables e below (s₁.setTop (mkF m 3 #[.val (.int cx)] [(.int (36 : Int32)), (.int cx)])) _
    refine XS.icmpYes X0.here hx rfl (pc0 := 3) (pc' := 10) rfl (hb hby d2_3) rfl (feq h36).2 (by decide) (by decide) ?_
    show Steps p.tables e below (s₁.setTop (mkF m 10 #[.val (.int cx)] [])) _
    refine XS.iloadN X0.here hx rfl (hb hby d2_10) rfl ?_
    show Steps p.tables e below (s₁.setTop (mkF m 11 #[.val (.int cx)] [(.int cx)])) _
    refine XS.bipush X0.here hx rfl (hb hby d2_11) ?_
    show Steps p.tables e below (s₁.setTop (mkF m 13 #[.val (.int cx)] [(.int (43 : Int32)), (.int cx)])) _
    refine XS.icmpYes X0.here hx rfl (pc0 := 13) (pc' := 20) rfl (hb hby d2_13) rfl (feq h43).2 (by decide) (by decide) ?_
    show Steps p.tables e below (s₁.setTop (mkF m 20 #[.val (.int cx)] [])) _
    refine XS.iloadN X0.here hx rfl (hb hby d2_20) rfl ?_
    show Steps p.tables e below (s₁.setTop (mkF m 21 #[.val (.int cx)] [(.int cx)])) _
    refine XS.bipush X0.here hx rfl (hb hby d2_21) ?_
    show Steps p.tables e below (s₁.setTop (mkF m 23 #[.val (.int cx)] [(.int (35 : Int32)), (.int cx)])) _
    refine XS.icmpYes X0.here hx rfl (pc0 := 23) (pc' := 30) rfl (hb hby d2_23) rfl (feq h35).2 (by decide) (by decide) ?_
    show Steps p.tables e below (s₁.setTop (mkF m 30 #[.val (.int cx)] [])) _
    refine XS.iloadN X0.here hx rfl (hb hby d2_30) rfl ?_
    show Steps p.tables e below (s₁.setTop (mkF m 31 #[.val (.int cx)] [(.int cx)])) _
    refine XS.bipush X0.here hx rfl (hb hby d2_31) ?_
    show Steps p.tables e below (s₁.setTop (mkF m 33 #[.val (.int cx)] [(.int (34 : Int32)), (.int cx)])) _
    refine XS.icmpYes X0.here hx rfl (pc0 := 33) (pc' := 40) rfl (hb hby d2_33) rfl (feq h34).2 (by decide) (by decide) ?_
    show Steps p.tables e below (s₁.setTop (mkF m 40 #[.val (.int cx)] [])) _
    refine XS.aconstNull X0.here hx rfl (hb hby d2_40) ?_
    show Steps p.tables e below (s₁.setTop (mkF m 41 #[.val (.int cx)] [.null])) _
    exact retOut X0 hx Bd.returns rfl (Or.inr (Or.inr (Or.inr (Or.inr ⟨rfl, rfl, rfl⟩)))) (hb hby d2_41) hr
  · have eF : (s₁.setFrames fs).heap = h0 := e0
    exact ⟨rfl, N0, eF⟩
set_option maxRecDepth 65536 in
set_option maxHeartbeats 40000000 in
theorem rm3_o (l : Launch) (Z : State) (a0 : Array Value) (hw : ∀ d ∈ tables_1, d.before a0 Z = true) (ws : List Jvm.Cond) (n0 : Nat) (h0 : Heap) (O : Old Z n0 h0) (w_PROPERTY : Addr) (w__VALUES : Addr) (w_RESOURCE : Addr) (w_CLASS : Addr) (w_LITERAL : Addr) (k_w__VALUES : ClassId) (W : OwW Z w_PROPERTY w__VALUES w_RESOURCE w_CLASS w_LITERAL k_w__VALUES) (cx : Int32) (h36 : ¬ cx = (36 : Int32)) (h43 : ¬ cx = (43 : Int32)) (h35 : ¬ cx = (35 : Int32)) (h34 : ¬ cx = (34 : Int32)) :
    OwCon l (⟨"com/example/pathfix/pathfix/core/Kind", "ofMark", "(C)Lcom/example/pathfix/pathfix/core/Kind;"⟩ : MethodName) prog_12_method_5_code 5 (some (.object "com/example/pathfix/pathfix/core/Kind")) ws ({ frames := 2, cells := 1, slots := 4, locals := 25 } : Room) #[(.int cx)] Z h0 (OwP (fun v h => v = some .null ∧ Old Z n0 h) n0) := by
  refine MetFree.of_bodySF (plainFor_of_name owpn3) hisR ?_
  intro p e s m args below meth c s₁ Bd hml0 hP hK
  obtain ⟨rfl, hZ, hh⟩ := hP
  have hx := Bd.exec
  have hby := Bd.bytes
  have hml : c.maxLocals = 5 := hml0
  have hown : s.vm.findClass "com/example/pathfix/pathfix/core/Kind" = some m.cls := findClass_of_methodNamed Bd.named
  have hnm := (name_of_methodNamed Bd.named Bd.method).1
  have X0 : Stand p l e ({ frames := 2, cells := 1, slots := 4, locals := 25 } : Room) s m #[(.int cx)] below meth c s₁ [] 0 0 := Stand.of_body Bd
  have e0 : s₁.heap = h0 := by rw [← hh, Bd.state]; rfl
  have N0 := Fr.nil n0
  have WW := W
  obtain ⟨E_w_PROPERTY, E_w__VALUES, E_w_RESOURCE, E_w_CLASS, E_w_LITERAL, S_Kind_PROPERTY, S_Kind__VALUES, S_Kind_RESOURCE, S_Kind_CLASS, S_Kind_LITERAL, F_w_RESOURCE_mark, F_w_PROPERTY_mark, F_w_CLASS_mark, F_w_LITERAL_mark, V_w__VALUES, -⟩ := WW
  have ef : entryFrame m #[(.int cx)] 5 = mkF m 0 #[.val (.int cx), .unset, .unset, .unset, .unset] [] := by first | rfl | (simp [entryFrame, mkF, argsToLocals, Value.category]; done)
  have pre0 : ∀ t, Steps p.tables e below (s₁.setTop (mkF m 0 #[.val (.int cx), .unset, .unset, .unset, .unset] [])) t → Steps p.tables e below (s₁.setTop (entryFrame m #[(.int cx)] 5)) t := fun t k => castTop ef k
  obtain ⟨_, _, ⟨T1, L1, k1, n1⟩, -, X1, ⟨Lc1, hQ1, l1, y1, z1⟩, st1⟩ := Jvm.LawKit.callS X0 hx (y := (⟨"com/example/pathfix/pathfix/core/Kind", "values", "()[Lcom/example/pathfix/pathfix/core/Kind;"⟩ : MethodName)) hown (mvT hZ (hw _ (List.mem_of_getElem? (i := 13) rfl))) (mvT hZ (hw _ (List.mem_of_getElem? (i := 14) rfl))) (mvT hZ (hw _ (List.mem_of_getElem? (i := 8) rfl))) (mvT hZ (hw _ (List.mem_of_getElem? (i := 15) rfl))) (by decide) (backOf (W := 0) (rm4 l Z a0 hw [] n0 h0 O w_PROPERTY w__VALUES w_RESOURCE w_CLASS w_LITERAL k_w__VALUES W  ) hZ (hw _ (List.mem_of_getElem? (i := 15) rfl)) (hw _ (List.mem_of_getElem? (i := 8) rfl)) (by decide) (by decide)) (g := (mkF m 0 #[.val (.int cx), .unset, .unset, .unset, .unset] [])) rfl (by rw [hml]; rfl) (argsL := []) (rest := []) (lenOf owpd0 rfl) rfl (by show 2 * 0 + _ ≤ _; exact Nat.le_of_eq rfl) (hb hby d3_0) (fun _ _ => ⟨rfl, e0, (by decide : 0 + 1 ≤ _), (by decide : 0 + 4 ≤ _)⟩)
  dsimp only [Pt.U, Pt.locs, Pt.cells, Pt.slots] at X1 l1 y1 z1 st1 hQ1
  subst l1 y1 z1
  obtain ⟨Nq1, hP1⟩ := hQ1
  have N1 := Fr.app N0 Nq1
  have ee1 : T1.heap = T1.heap := rfl
  obtain ⟨b1, kb1, rfl, gb1, O1, Vb1⟩ := hP1
  obtain ⟨cl2, Ar2, q2, Sz2, Nn2, Hs2, -⟩ := id Vb1
  obtain ⟨cl3, Ar3, q3, Sz3, Nn3, Hs3, -⟩ := id Vb1
  have hin3 : ¬ ((0 : Int32) < 0 ∨ cl3.slots.size ≤ ((0 : Int32)).toNatClampNeg) := inb_of Sz3 ⟨by decide, by decide⟩
  have hat3 : cl3.slots[((0 : Int32)).toNatClampNeg]? = some (.ref w_RESOURCE) := atH Hs3 hin3 rfl
  obtain ⟨T4, X4, e4, st4⟩ := getF X1 hx hZ hown (host := "") (Or.inl (hw _ (List.mem_of_getElem? (i := 31) rfl))) Via.refl ee1 (F_w_RESOURCE_mark.ext O1.2) (g := (mkF m 21 #[.val (.int cx), .val (.ref b1), .val (.int (4 : Int32)), .val (.int (0 : Int32)), .val (.ref w_RESOURCE)] [(.ref w_RESOURCE)])) rfl rfl (hb hby d3_21)
  obtain ⟨cl5, Ar5, q5, Sz5, Nn5, Hs5, -⟩ := id Vb1
  have hin5 : ¬ ((1 : Int32) < 0 ∨ cl5.slots.size ≤ ((1 : Int32)).toNatClampNeg) := inb_of Sz5 ⟨by decide, by decide⟩
  have hat5 : cl5.slots[((1 : Int32)).toNatClampNeg]? = some (.ref w_PROPERTY) := atH Hs5 hin5 rfl
  obtain ⟨T6, X6, e6, st6⟩ := getF X4 hx hZ hown (host := "") (Or.inl (hw _ (List.mem_of_getElem? (i := 31) rfl))) Via.refl e4 (F_w_PROPERTY_mark.ext O1.2) (g := (mkF m 21 #[.val (.int cx), .val (.ref b1), .val (.int (4 : Int32)), .val (.int (1 : Int32)), .val (.ref w_PROPERTY)] [(.ref w_PROPERTY)])) rfl rfl (hb hby d3_21)
  obtain ⟨cl7, Ar7, q7, Sz7, Nn7, Hs7, -⟩ := id Vb1
  have hin7 : ¬ ((2 : Int32) < 0 ∨ cl7.slots.size ≤ ((2 : Int32)).toNatClampNeg) := inb_of Sz7 ⟨by decide, by decide⟩
  have hat7 : cl7.slots[((2 : Int32)).toNatClampNeg]? = some (.ref w_CLASS) := atH Hs7 hin7 rfl
  obtain ⟨T8, X8, e8, st8⟩ := getF X6 hx hZ hown (host := "") (Or.inl (hw _ (List.mem_of_getElem? (i := 31) rfl))) Via.refl e6 (F_w_CLASS_mark.ext O1.2) (g := (mkF m 21 #[.val (.int cx), .val (.ref b1), .val (.int (4 : Int32)), .val (.int (2 : Int32)), .val (.ref w_CLASS)] [(.ref w_CLASS)])) rfl rfl (hb hby d3_21)
  obtain ⟨cl9, Ar9, q9, Sz9, Nn9, Hs9, -⟩ := id Vb1
  have hin9 : ¬ ((3 : Int32) < 0 ∨ cl9.slots.size ≤ ((3 : Int32)).toNatClampNeg) := inb_of Sz9 ⟨by decide, by decide⟩
  have hat9 : cl9.slots[((3 : Int32)).toNatClampNeg]? = some (.ref w_LITERAL) := atH Hs9 hin9 rfl
  obtain ⟨T10, X10, e10, st10⟩ := getF X8 hx hZ hown (host := "") (Or.inl (hw _ (List.mem_of_getElem? (i := 31) rfl))) Via.refl e8 (F_w_LITERAL_mark.ext O1.2) (g := (mkF m 21 #[.val (.int cx), .val (.ref b1), .val (.int (4 : Int32)), .val (.int (3 : Int32)), .val (.ref w_LITERAL)] [(.ref w_LITERAL)])) rfl rfl (hb hby d3_21)
  obtain ⟨fs, hr, hrun, hended, hW, hsame⟩ := X10.leave (v := some .null) (fun h => by rw [Bd.returns] at h; cases h)
  refine ⟨_, _, pre0 _ ?_, hrun, hended, _, _, rfl, ?_, ⟨_, rfl⟩, hW, hsame.mono (by decide) (by decide)⟩
  · show Steps p.tables e below (s₁.setTop (mkF m 0 #[.val (.int cx), .unset, .unset, .unset, .unset] [])) _
    refine st1 _ ?_
    show Steps p.tables e below (T1.setTop (mkF m 3 #[.val (.int cx), .unset, .unset, .unset, .unset] [(.ref b1)])) _
    refine XS.astoreN X1.here hx rfl (hb hby d3_3) rfl rfl (l' := #[.val (.int cx), .val (.ref b1), .unset, .unset, .unset]) rfl ?_
    show Steps p.tables e below (T1.setTop (mkF m 4 #[.val (.int cx), .val (.ref b1), .unset, .unset, .unset] [])) _
    refine XS.aloadN X1.here hx rfl (hb hby d3_4) rfl rfl ?_
    show Steps p.tables e below (T1.setTop (mkF m 5 #[.val (.int cx), .val (.ref b1), .unset, .unset, .unset] [(.ref b1)])) _
    refine X1.arraylength hx (by rw [ee1]; exact Ar2.1) (State.isArrayOf_alike hZ.alike Ar2.2.1) (g := (mkF m 5 #[.val (.int cx), .val (.ref b1), .unset, .unset, .unset] [(.ref b1)])) rfl rfl (hb hby d3_5) _ ?_
    rw [len_of Sz2 Nn2]
    show Steps p.tables e below (T1.setTop (mkF m 6 #[.val (.int cx), .val (.ref b1), .unset, .unset, .unset] [(.int (4 : Int32))])) _
    refine XS.istoreN X1.here hx rfl (hb hby d3_6) rfl (l' := #[.val (.int cx), .val (.ref b1), .val (.int (4 : Int32)), .unset, .unset]) rfl ?_
    show Steps p.tables e below (T1.setTop (mkF m 7 #[.val (.int cx), .val (.ref b1), .val (.int (4 : Int32)), .unset, .unset] [])) _
    refine XS.iconst X1.here hx rfl (hb hby d3_7) ?_
    show Steps p.tables e below (T1.setTop (mkF m 8 #[.val (.int cx), .val (.ref b1), .val (.int (4 : Int32)), .unset, .unset] [(.int (0 : Int32))])) _
    refine XS.istoreN X1.here hx rfl (hb hby d3_8) rfl (l' := #[.val (.int cx), .val (.ref b1), .val (.int (4 : Int32)), .val (.int (0 : Int32)), .unset]) rfl ?_
    show Steps p.tables e below (T1.setTop (mkF m 9 #[.val (.int cx), .val (.ref b1), .val (.int (4 : Int32)), .val (.int (0 : Int32)), .unset] [])) _
    refine XS.iloadN X1.here hx rfl (hb hby d3_9) rfl ?_
    show Steps p.tables e below (T1.setTop (mkF m 10 #[.val (.int cx), .val (.ref b1), .val (.int (4 : Int32)), .val (.int (0 : Int32)), .unset] [(.int (0 : Int32))])) _
    refine XS.iloadN X1.here hx rfl (hb hby d3_10) rfl ?_
    show Steps p.tables e below (T1.setTop (mkF m 11 #[.val (.int cx), .val (.ref b1), .val (.int (4 : Int32)), .val (.int (0 : Int32)), .unset] [(.int (4 : Int32)), (.int (0 : Int32))])) _
    refine XS.icmpNo X1.here hx rfl (hb hby d3_11) rfl (tlt (by decide : (0 : Int32) < (4 : Int32))).2.1 ?_
    show Steps p.tables e below (T1.setTop (mkF m 14 #[.val (.int cx), .val (.ref b1), .val (.int (4 : Int32)), .val (.int (0 : Int32)), .unset] [])) _
    refine XS.aloadN X1.here hx rfl (hb hby d3_14) rfl rfl ?_
    show Steps p.tables e below (T1.setTop (mkF m 15 #[.val (.int cx), .val (.ref b1), .val (.int (4 : Int32)), .val (.int (0 : Int32)), .unset] [(.ref b1)])) _
    refine XS.iloadN X1.here hx rfl (hb hby d3_15) rfl ?_
    show Steps p.tables e below (T1.setTop (mkF m 16 #[.val (.int cx), .val (.ref b1), .val (.int (4 : Int32)), .val (.int (0 : Int32)), .unset] [(.int (0 : Int32)), (.ref b1)])) _
    refine X1.aaload hx (j := (0 : Int32)) (v := (.ref w_RESOURCE)) (by rw [ee1]; exact Ar3.1) (State.isArrayOf_alike hZ.alike Ar3.2.1) rfl Ar3.2.2 hin3 hat3 (g := (mkF m 16 #[.val (.int cx), .val (.ref b1), .val (.int (4 : Int32)), .val (.int (0 : Int32)), .unset] [(.int (0 : Int32)), (.ref b1)])) rfl rfl (hb hby d3_16) _ ?_
    show Steps p.tables e below (T1.setTop (mkF m 17 #[.val (.int cx), .val (.ref b1), .val (.int (4 : Int32)), .val (.int (0 : Int32)), .unset] [(.ref w_RESOURCE)])) _
    refine XS.astore X1.here hx rfl (hb hby d3_17) rfl rfl (l' := #[.val (.int cx), .val (.ref b1), .val (.int (4 : Int32)), .val (.int (0 : Int32)), .val (.ref w_RESOURCE)]) rfl ?_
    show Steps p.tables e below (T1.setTop (mkF m 19 #[.val (.int cx), .val (.ref b1), .val (.int (4 : Int32)), .val (.int (0 : Int32)), .val (.ref w_RESOURCE)] [])) _
    refine XS.aload X1.here hx rfl (hb hby d3_19) rfl rfl ?_
    show Steps p.tables e below (T1.setTop (mkF m 21 #[.val (.int cx), .val (.ref b1), .val (.int (4 : Int32)), .val (.int (0 : Int32)), .val (.ref w_RESOURCE)] [(.ref w_RESOURCE)])) _
    refine st4 _ ?_
    show Steps p.tables e below (T4.setTop (mkF m 24 #[.val (.int cx), .val (.ref b1), .val (.int (4 : Int32)), .val (.int (0 : Int32)), .val (.ref w_RESOURCE)] [(.int (36 : Int32))])) _
    refine XS.iloadN X4.here hx rfl (hb hby d3_24) rfl ?_
    show Steps p.tables e below (T4.setTop (mkF m 25 #[.val (.int cx), .val (.ref b1), .val (.int (4 : Int32)), .val (.int (0 : Int32)), .val (.ref w_RESOURCE)] [(.int cx), (.int (36 : Int32))])) _
    refine XS.icmpYes X4.here hx rfl (pc0 := 25) (pc' := 31) rfl (hb hby d3_25) rfl (feq (Ne.symm h36)).2 (by decide) (by decide) ?_
    show Steps p.tables e below (T4.setTop (mkF m 31 #[.val (.int cx), .val (.ref b1), .val (.int (4 : Int32)), .val (.int (0 : Int32)), .val (.ref w_RESOURCE)] [])) _
    refine XS.iinc X4.here hx rfl (hb hby d3_31) rfl (l' := #[.val (.int cx), .val (.ref b1), .val (.int (4 : Int32)), .val (.int (1 : Int32)), .val (.ref w_RESOURCE)]) rfl ?_
    show Steps p.tables e below (T4.setTop (mkF m 34 #[.val (.int cx), .val (.ref b1), .val (.int (4 : Int32)), .val (.int (1 : Int32)), .val (.ref w_RESOURCE)] [])) _
    refine XS.goto X4.here hx rfl (pc0 := 34) (pc' := 9) rfl (hb hby d3_34) (by decide) (by decide) ?_
    show Steps p.tables e below (T4.setTop (mkF m 9 #[.val (.int cx), .val (.ref b1), .val (.int (4 : Int32)), .val (.int (1 : Int32)), .val (.ref w_RESOURCE)] [])) _
    refine XS.iloadN X4.here hx rfl (hb hby d3_9) rfl ?_
    show Steps p.tables e below (T4.setTop (mkF m 10 #[.val (.int cx), .val (.ref b1), .val (.int (4 : Int32)), .val (.int (1 : Int32)), .val (.ref w_RESOURCE)] [(.int (1 : Int32))])) _
    refine XS.iloadN X4.here hx rfl (hb hby d3_10) rfl ?_
    show Steps p.tables e below (T4.setTop (mkF m 11 #[.val (.int cx), .val (.ref b1), .val (.int (4 : Int32)), .val (.int (1 : Int32)), .val (.ref w_RESOURCE)] [(.int (4 : Int32)), (.int (1 : Int32))])) _
    refine XS.icmpNo X4.here hx rfl (hb hby d3_11) rfl (tlt (by decide : (1 : Int32) < (4 : Int32))).2.1 ?_
    show Steps p.tables e below (T4.setTop (mkF m 14 #[.val (.int cx), .val (.ref b1), .val (.int (4 : Int32)), .val (.int (1 : Int32)), .val (.ref w_RESOURCE)] [])) _
    refine XS.aloadN X4.here hx rfl (hb hby d3_14) rfl rfl ?_
    show Steps p.tables e below (T4.setTop (mkF m 15 #[.val (.int cx), .val (.ref b1), .val (.int (4 : Int32)), .val (.int (1 : Int32)), .val (.ref w_RESOURCE)] [(.ref b1)])) _
    refine XS.iloadN X4.here hx rfl (hb hby d3_15) rfl ?_
    show Steps p.tables e below (T4.setTop (mkF m 16 #[.val (.int cx), .val (.ref b1), .val (.int (4 : Int32)), .val (.int (1 : Int32)), .val (.ref w_RESOURCE)] [(.int (1 : Int32)), (.ref b1)])) _
    refine X4.aaload hx (j := (1 : Int32)) (v := (.ref w_PROPERTY)) (by rw [e4]; exact Ar5.1) (State.isArrayOf_alike hZ.alike Ar5.2.1) rfl Ar5.2.2 hin5 hat5 (g := (mkF m 16 #[.val (.int cx), .val (.ref b1), .val (.int (4 : Int32)), .val (.int (1 : Int32)), .val (.ref w_RESOURCE)] [(.int (1 : Int32)), (.ref b1)])) rfl rfl (hb hby d3_16) _ ?_
    show Steps p.tables e below (T4.setTop (mkF m 17 #[.val (.int cx), .val (.ref b1), .val (.int (4 : Int32)), .val (.int (1 : Int32)), .val (.ref w_RESOURCE)] [(.ref w_PROPERTY)])) _
    refine XS.astore X4.here hx rfl (hb hby d3_17) rfl rfl (l' := #[.val (.int cx), .val (.ref b1), .val (.int (4 : Int32)), .val (.int (1 : Int32)), .val (.ref w_PROPERTY)]) rfl ?_
    show Steps p.tables e below (T4.setTop (mkF m 19 #[.val (.int cx), .val (.ref b1), .val (.int (4 : Int32)), .val (.int (1 : Int32)), .val (.ref w_PROPERTY)] [])) _
    refine XS.aload X4.here hx rfl (hb hby d3_19) rfl rfl ?_
    show Steps p.tables e below (T4.setTop (mkF m 21 #[.val (.int cx), .val (.ref b1), .val (.int (4 : Int32)), .val (.int (1 : Int32)), .val (.ref w_PROPERTY)] [(.ref w_PROPERTY)])) _
    refine st6 _ ?_
    show Steps p.tables e below (T6.setTop (mkF m 24 #[.val (.int cx), .val (.ref b1), .val (.int (4 : Int32)), .val (.int (1 : Int32)), .val (.ref w_PROPERTY)] [(.int (43 : Int32))])) _
    refine XS.iloadN X6.here hx rfl (hb hby d3_24) rfl ?_
    show Steps p.tables e below (T6.setTop (mkF m 25 #[.val (.int cx), .val (.ref b1), .val (.int (4 : Int32)), .val (.int (1 : Int32)), .val (.ref w_PROPERTY)] [(.int cx), (.int (43 : Int32))])) _
    refine XS.icmpYes X6.here hx rfl (pc0 := 25) (pc' := 31) rfl (hb hby d3_25) rfl (feq (Ne.symm h43)).2 (by decide) (by decide) ?_
    show Steps p.tables e below (T6.setTop (mkF m 31 #[.val (.int cx), .val (.ref b1), .val (.int (4 : Int32)), .val (.int (1 : Int32)), .val (.ref w_PROPERTY)] [])) _
    refine XS.iinc X6.here hx rfl (hb hby d3_31) rfl (l' := #[.val (.int cx), .val (.ref b1), .val (.int (4 : Int32)), .val (.int (2 : Int32)), .val (.ref w_PROPERTY)]) rfl ?_
    show Steps p.tables e below (T6.setTop (mkF m 34 #[.val (.int cx), .val (.ref b1), .val (.int (4 : Int32)), .val (.int (2 : Int32)), .val (.ref w_PROPERTY)] [])) _
    refine XS.goto X6.here hx rfl (pc0 := 34) (pc' := 9) rfl (hb hby d3_34) (by decide) (by decide) ?_
    show Steps p.tables e below (T6.setTop (mkF m 9 #[.val (.int cx), .val (.ref b1), .val (.int (4 : Int32)), .val (.int (2 : Int32)), .val (.ref w_PROPERTY)] [])) _
    refine XS.iloadN X6.here hx rfl (hb hby d3_9) rfl ?_
    show Steps p.tables e below (T6.setTop (mkF m 10 #[.val (.int cx), .val (.ref b1), .val (.int (4 : Int32)), .val (.int (2 : Int32)), .val (.ref w_PROPERTY)] [(.int (2 : Int32))])) _
    refine XS.iloadN X6.here hx rfl (hb hby d3_10) rfl ?_
    show Steps p.tables e below (T6.setTop (mkF m 11 #[.val (.int cx), .val (.ref b1), .val (.int (4 : Int32)), .val (.int (2 : Int32)), .val (.ref w_PROPERTY)] [(.int (4 : Int32)), (.int (2 : Int32))])) _
    refine XS.icmpNo X6.here hx rfl (hb hby d3_11) rfl (tlt (by decide : (2 : Int32) < (4 : Int32))).2.1 ?_
    show Steps p.tables e below (T6.setTop (mkF m 14 #[.val (.int cx), .val (.ref b1), .val (.int (4 : Int32)), .val (.int (2 : Int32)), .val (.ref w_PROPERTY)] [])) _
    refine XS.aloadN X6.here hx rfl (hb hby d3_14) rfl rfl ?_
    show Steps p.tables e below (T6.setTop (mkF m 15 #[.val (.int cx), .val (.ref b1), .val (.int (4 : Int32)), .val (.int (2 : Int32)), .val (.ref w_PROPERTY)] [(.ref b1)])) _
    refine XS.iloadN X6.here hx rfl (hb hby d3_15) rfl ?_
    show Steps p.tables e below (T6.setTop (mkF m 16 #[.val (.int cx), .val (.ref b1), .val (.int (4 : Int32)), .val (.int (2 : Int32)), .val (.ref w_PROPERTY)] [(.int (2 : Int32)), (.ref b1)])) _
    refine X6.aaload hx (j := (2 : Int32)) (v := (.ref w_CLASS)) (by rw [e6]; exact Ar7.1) (State.isArrayOf_alike hZ.alike Ar7.2.1) rfl Ar7.2.2 hin7 hat7 (g := (mkF m 16 #[.val (.int cx), .val (.ref b1), .val (.int (4 : Int32)), .val (.int (2 : Int32)), .val (.ref w_PROPERTY)] [(.int (2 : Int32)), (.ref b1)])) rfl rfl (hb hby d3_16) _ ?_
    show Steps p.tables e below (T6.setTop (mkF m 17 #[.val (.int cx), .val (.ref b1), .val (.int (4 : Int32)), .val (.int (2 : Int32)), .val (.ref w_PROPERTY)] [(.ref w_CLASS)])) _
    refine XS.astore X6.here hx rfl (hb hby d3_17) rfl rfl (l' := #[.val (.int cx), .val (.ref b1), .val (.int (4 : Int32)), .val (.int (2 : Int32)), .val (.ref w_CLASS)]) rfl ?_
    show Steps p.tables e below (T6.setTop (mkF m 19 #[.val (.int cx), .val (.ref b1), .val (.int (4 : Int32)), .val (.int (2 : Int32)), .val (.ref w_CLASS)] [])) _
    refine XS.aload X6.here hx rfl (hb hby d3_19) rfl rfl ?_
    show Steps p.tables e below (T6.setTop (mkF m 21 #[.val (.int cx), .val (.ref b1), .val (.int (4 : Int32)), .val (.int (2 : Int32)), .val (.ref w_CLASS)] [(.ref w_CLASS)])) _
    refine st8 _ ?_
    show Steps p.tables e below (T8.setTop (mkF m 24 #[.val (.int cx), .val (.ref b1), .val (.int (4 : Int32)), .val (.int (2 : Int32)), .val (.ref w_CLASS)] [(.int (35 : Int32))])) _
    refine XS.iloadN X8.here hx rfl (hb hby d3_24) rfl ?_
    show Steps p.tables e below (T8.setTop (mkF m 25 #[.val (.int cx), .val (.ref b1), .val (.int (4 : Int32)), .val (.int (2 : Int32)), .val (.ref w_CLASS)] [(.int cx), (.int (35 : Int32))])) _
    refine XS.icmpYes X8.here hx rfl (pc0 := 25) (pc' := 31) rfl (hb hby d3_25) rfl (feq (Ne.symm h35)).2 (by decide) (by decide) ?_
    show Steps p.tables e below (T8.setTop (mkF m 31 #[.val (.int cx), .val (.ref b1), .val (.int (4 : Int32)), .val (.int (2 : Int32)), .val (.ref w_CLASS)] [])) _
    refine XS.iinc X8.here hx rfl (hb hby d3_31) rfl (l' := #[.val (.int cx), .val (.ref b1), .val (.int (4 : Int32)), .val (.int (3 : Int32)), .val (.ref w_CLASS)]) rfl ?_
    show Steps p.tables e below (T8.setTop (mkF m 34 #[.val (.int cx), .val (.ref b1), .val (.int (4 : Int32)), .val (.int (3 : Int32)), .val (.ref w_CLASS)] [])) _
    refine XS.goto X8.here hx rfl (pc0 := 34) (pc' := 9) rfl (hb hby d3_34) (by decide) (by decide) ?_
    show Steps p.tables e below (T8.setTop (mkF m 9 #[.val (.int cx), .val (.ref b1), .val (.int (4 : Int32)), .val (.int (3 : Int32)), .val (.ref w_CLASS)] [])) _
    refine XS.iloadN X8.here hx rfl (hb hby d3_9) rfl ?_
    show Steps p.tables e below (T8.setTop (mkF m 10 #[.val (.int cx), .val (.ref b1), .val (.int (4 : Int32)), .val (.int (3 : Int32)), .val (.ref w_CLASS)] [(.int (3 : Int32))])) _
    refine XS.iloadN X8.here hx rfl (hb hby d3_10) rfl ?_
    show Steps p.tables e below (T8.setTop (mkF m 11 #[.val (.int cx), .val (.ref b1), .val (.int (4 : Int32)), .val (.int (3 : Int32)), .val (.ref w_CLASS)] [(.int (4 : Int32)), (.int (3 : Int32))])) _
    refine XS.icmpNo X8.here hx rfl (hb hby d3_11) rfl (tlt (by decide : (3 : Int32) < (4 : Int32))).2.1 ?_
    show Steps p.tables e below (T8.setTop (mkF m 14 #[.val (.int cx), .val (.ref b1), .val (.int (4 : Int32)), .val (.int (3 : Int32)), .val (.ref w_CLASS)] [])) _
    refine XS.aloadN X8.here hx rfl (hb hby d3_14) rfl rfl ?_
    show Steps p.tables e below (T8.setTop (mkF m 15 #[.val (.int cx), .val (.ref b1), .val (.int (4 : Int32)), .val (.int (3 : Int32)), .val (.ref w_CLASS)] [(.ref b1)])) _
    refine XS.iloadN X8.here hx rfl (hb hby d3_15) rfl ?_
    show Steps p.tables e below (T8.setTop (mkF m 16 #[.val (.int cx), .val (.ref b1), .val (.int (4 : Int32)), .val (.int (3 : Int32)), .val (.ref w_CLASS)] [(.int (3 : Int32)), (.ref b1)])) _
    refine X8.aaload hx (j := (3 : Int32)) (v := (.ref w_LITERAL)) (by rw [e8]; exact Ar9.1) (State.isArrayOf_alike hZ.alike Ar9.2.1) rfl Ar9.2.2 hin9 hat9 (g := (mkF m 16 #[.val (.int cx), .val (.ref b1), .val (.int (4 : Int32)), .val (.int (3 : Int32)), .val (.ref w_CLASS)] [(.int (3 : Int32)), (.ref b1)])) rfl rfl (hb hby d3_16) _ ?_
    show Steps p.tables e below (T8.setTop (mkF m 17 #[.val (.int cx), .val (.ref b1), .val (.int (4 : Int32)), .val (.int (3 : Int32)), .val (.ref w_CLASS)] [(.ref w_LITERAL)])) _
    refine XS.astore X8.here hx rfl (hb hby d3_17) rfl rfl (l' := #[.val (.int cx), .val (.ref b1), .val (.int (4 : Int32)), .val (.int (3 : Int32)), .val (.ref w_LITERAL)]) rfl ?_
    show Steps p.tables e below (T8.setTop (mkF m 19 #[.val (.int cx), .val (.ref b1), .val (.int (4 : Int32)), .val (.int (3 : Int32)), .val (.ref w_LITERAL)] [])) _
    refine XS.aload X8.here hx rfl (hb hby d3_19) rfl rfl ?_
    show Steps p.tables e below (T8.setTop (mkF m 21 #[.val (.int cx), .val (.ref b1), .val (.int (4 : Int32)), .val (.int (3 : Int32)), .val (.ref w_LITERAL)] [(.ref w_LITERAL)])) _
    refine st10 _ ?_
    show Steps p.tables e below (T10.setTop (mkF m 24 #[.val (.int cx), .val (.ref b1), .val (.int (4 : Int32)), .val (.int (3 : Int32)), .val (.ref w_LITERAL)] [(.int (34 : Int32))])) _
    refine XS.iloadN X10.here hx rfl (hb hby d3_24) rfl ?_
    show Steps p.tables e below (T10.setTop (mkF m 25 #[.val (.int cx), .val (.ref b1), .val (.int (4 : Int32)), .val (.int (3 : Int32)), .val (.ref w_LITERAL)] [(.int cx), (.int (34 : Int32))])) _
    refine XS.icmpYes X10.here hx rfl (pc0 := 25) (pc' := 31) rfl (hb hby d3_25) rfl (feq (Ne.symm h34)).2 (by decide) (by decide) ?_
    show Steps p.tables e below (T10.setTop (mkF m 31 #[.val (.int cx), .val (.ref b1), .val (.int (4 : Int32)), .val (.int (3 : Int32)), .val (.ref w_LITERAL)] [])) _
    refine XS.iinc X10.here hx rfl (hb hby d3_31) rfl (l' := #[.val (.int cx), .val (.ref b1), .val (.int (4 : Int32)), .val (.int (4 : Int32)), .val (.ref w_LITERAL)]) rfl ?_
    show Steps p.tables e below (T10.setTop (mkF m 34 #[.val (.int cx), .val (.ref b1), .val (.int (4 : Int32)), .val (.int (4 : Int32)), .val (.ref w_LITERAL)] [])) _
    refine XS.goto X10.here hx rfl (pc0 := 34) (pc' := 9) rfl (hb hby d3_34) (by decide) (by decide) ?_
    show Steps p.tables e below (T10.setTop (mkF m 9 #[.val (.int cx), .val (.ref b1), .val (.int (4 : Int32)), .val (.int (4 : Int32)), .val (.ref w_LITERAL)] [])) _
    refine XS.iloadN X10.here hx rfl (hb hby d3_9) rfl ?_
    show Steps p.tables e below (T10.setTop (mkF m 10 #[.val (.int cx), .val (.ref b1), .val (.int (4 : Int32)), .val (.int (4 : Int32)), .val (.ref w_LITERAL)] [(.int (4 : Int32))])) _
    refine XS.iloadN X10.here hx rfl (hb hby d3_10) rfl ?_
    show Steps p.tables e below (T10.setTop (mkF m 11 #[.val (.int cx), .val (.ref b1), .val (.int (4 : Int32)), .val (.int (4 : Int32)), .val (.ref w_LITERAL)] [(.int (4 : Int32)), (.int (4 : Int32))])) _
    refine XS.icmpYes X10.here hx rfl (pc0 := 11) (pc' := 37) rfl (hb hby d3_11) rfl (flt (by decide : ¬ ((4 : Int32) < (4 : Int32)))).2.1 (by decide) (by decide) ?_
    show Steps p.tables e below (T10.setTop (mkF m 37 #[.val (.int cx), .val (.ref b1), .val (.int (4 : Int32)), .val (.int (4 : Int32)), .val (.ref w_LITERAL)] [])) _
    refine XS.aconstNull X10.here hx rfl (hb hby d3_37) ?_
    show Steps p.tables e below (T10.setTop (mkF m 38 #[.val (.int cx), .val (.ref b1), .val (.int (4 : Int32)), .val (.int (4 : Int32)), .val (.ref w_LITERAL)] [.null])) _
    exact retOut X10 hx Bd.returns rfl (Or.inr (Or.inr (Or.inr (Or.inr ⟨rfl, rfl, rfl⟩)))) (hb hby d3_38) hr
  · have eF : (T10.setFrames fs).heap = T1.heap := e10
    exact ⟨N1, rfl, by rw [eF]; exact O1⟩
set_option maxRecDepth 65536 in
set_option maxHeartbeats 40000000 in
theorem rm1_0 (l : Launch) (Z : State) (a0 : Array Value) (hw : ∀ d ∈ tables_1, d.before a0 Z = true) (ws : List Jvm.Cond) (n0 : Nat) (h0 : Heap) (O : Old Z n0 h0) (w_PROPERTY : Addr) (w__VALUES : Addr) (w_RESOURCE : Addr) (w_CLASS : Addr) (w_LITERAL : Addr) (k_w__VALUES : ClassId) (W : OwW Z w_PROPERTY w__VALUES w_RESOURCE w_CLASS w_LITERAL k_w__VALUES)  :
    OwCon l (⟨"com/example/pathfix/pathfix/core/KindOfMarkPinLaw", "drawMark", "(I)C"⟩ : MethodName) method_2_code 1 (some .char) ws ({ frames := 0, cells := 0, slots := 0, locals := 0 } : Room) #[(.int (0 : Int32))] Z h0 (OwQ (some (.int (36 : Int32))) h0 n0) := by
  refine MetFree.of_bodySF (plainFor_of_name owpn1) hisR ?_
  intro p e s m args below meth c s₁ Bd hml0 hP hK
  obtain ⟨rfl, hZ, hh⟩ := hP
  have hx := Bd.exec
  have hby := Bd.bytes
  have hml : c.maxLocals = 1 := hml0
  have hown : s.vm.findClass "com/example/pathfix/pathfix/core/KindOfMarkPinLaw" = some m.cls := findClass_of_methodNamed Bd.named
  have hnm := (name_of_methodNamed Bd.named Bd.method).1
  have X0 : Stand p l e ({ frames := 0, cells := 0, slots := 0, locals := 0 } : Room) s m #[(.int (0 : Int32))] below meth c s₁ [] 0 0 := Stand.of_body Bd
  have e0 : s₁.heap = h0 := by rw [← hh, Bd.state]; rfl
  have N0 := Fr.nil n0
  have WW := W
  obtain ⟨E_w_PROPERTY, E_w__VALUES, E_w_RESOURCE, E_w_CLASS, E_w_LITERAL, S_Kind_PROPERTY, S_Kind__VALUES, S_Kind_RESOURCE, S_Kind_CLASS, S_Kind_LITERAL, F_w_RESOURCE_mark, F_w_PROPERTY_mark, F_w_CLASS_mark, F_w_LITERAL_mark, V_w__VALUES, -⟩ := WW
  have ef : entryFrame m #[(.int (0 : Int32))] 1 = mkF m 0 #[.val (.int (0 : Int32))] [] := by first | rfl | (simp [entryFrame, mkF, argsToLocals, Value.category]; done)
  have pre0 : ∀ t, Steps p.tables e below (s₁.setTop (mkF m 0 #[.val (.int (0 : Int32))] [])) t → Steps p.tables e below (s₁.setTop (entryFrame m #[(.int (0 : Int32))] 1)) t := fun t k => castTop ef k
  obtain ⟨fs, hr, hrun, hended, hW, hsame⟩ := X0.leave (v := some (.int (36 : Int32))) (fun h => by rw [Bd.returns] at h; cases h)
  refine ⟨_, _, pre0 _ ?_, hrun, hended, _, _, rfl, ?_, ⟨_, rfl⟩, hW, hsame.mono (by decide) (by decide)⟩
  · show Steps p.tables e below (s₁.setTop (mkF m 0 #[.val (.int (0 : Int32))] [])) _
    refine XS.iloadN X0.here hx rfl (hb hby d1_0) rfl ?_
    show Steps p.tables e below (s₁.setTop (mkF m 1 #[.val (.int (0 : Int32))] [(.int (0 : Int32))])) _
    refine XS.ifNo X0.here hx rfl (hb hby d1_1) rfl ((if0 _ _).trans (teq (by decide : (0 : Int32) = (0 : Int32))).2) ?_
    show Steps p.tables e below (s₁.setTop (mkF m 4 #[.val (.int (0 : Int32))] [])) _
    refine XS.bipush X0.here hx rfl (hb hby d1_4) ?_
    show Steps p.tables e below (s₁.setTop (mkF m 6 #[.val (.int (0 : Int32))] [(.int (36 : Int32))])) _
    exact retN X0 hx (t := .char) Bd.returns (by simp) (hb hby d1_6) hr
  · have eF : (s₁.setFrames fs).heap = h0 := e0
    exact ⟨rfl, N0, eF⟩
set_option maxRecDepth 65536 in
set_option maxHeartbeats 40000000 in
theorem rm1_1 (l : Launch) (Z : State) (a0 : Array Value) (hw : ∀ d ∈ tables_1, d.before a0 Z = true) (ws : List Jvm.Cond) (n0 : Nat) (h0 : Heap) (O : Old Z n0 h0) (w_PROPERTY : Addr) (w__VALUES : Addr) (w_RESOURCE : Addr) (w_CLASS : Addr) (w_LITERAL : Addr) (k_w__VALUES : ClassId) (W : OwW Z w_PROPERTY w__VALUES w_RESOURCE w_CLASS w_LITERAL k_w__VALUES)  :
    OwCon l (⟨"com/example/pathfix/pathfix/core/KindOfMarkPinLaw", "drawMark", "(I)C"⟩ : MethodName) method_2_code 1 (some .char) ws ({ frames := 0, cells := 0, slots := 0, locals := 0 } : Room) #[(.int (1 : Int32))] Z h0 (OwQ (some (.int (43 : Int32))) h0 n0) := by
  refine MetFree.of_bodySF (plainFor_of_name owpn1) hisR ?_
  intro p e s m args below meth c s₁ Bd hml0 hP hK
  obtain ⟨rfl, hZ, hh⟩ := hP
  have hx := Bd.exec
  have hby := Bd.bytes
  have hml : c.maxLocals = 1 := hml0
  have hown : s.vm.findClass "com/example/pathfix/pathfix/core/KindOfMarkPinLaw" = some m.cls := findClass_of_methodNamed Bd.named
  have hnm := (name_of_methodNamed Bd.named Bd.method).1
  have X0 : Stand p l e ({ frames := 0, cells := 0, slots := 0, locals := 0 } : Room) s m #[(.int (1 : Int32))] below meth c s₁ [] 0 0 := Stand.of_body Bd
  have e0 : s₁.heap = h0 := by rw [← hh, Bd.state]; rfl
  have N0 := Fr.nil n0
  have WW := W
  obtain ⟨E_w_PROPERTY, E_w__VALUES, E_w_RESOURCE, E_w_CLASS, E_w_LITERAL, S_Kind_PROPERTY, S_Kind__VALUES, S_Kind_RESOURCE, S_Kind_CLASS, S_Kind_LITERAL, F_w_RESOURCE_mark, F_w_PROPERTY_mark, F_w_CLASS_mark, F_w_LITERAL_mark, V_w__VALUES, -⟩ := WW
  have ef : entryFrame m #[(.int (1 : Int32))] 1 = mkF m 0 #[.val (.int (1 : Int32))] [] := by first | rfl | (simp [entryFrame, mkF, argsToLocals, Value.category]; done)
  have pre0 : ∀ t, Steps p.tables e below (s₁.setTop (mkF m 0 #[.val (.int (1 : Int32))] [])) t → Steps p.tables e below (s₁.setTop (entryFrame m #[(.int (1 : Int32))] 1)) t := fun t k => castTop ef k
  obtain ⟨fs, hr, hrun, hended, hW, hsame⟩ := X0.leave (v := some (.int (43 : Int32))) (fun h => by rw [Bd.returns] at h; cases h)
  refine ⟨_, _, pre0 _ ?_, hrun, hended, _, _, rfl, ?_, ⟨_, rfl⟩, hW, hsame.mono (by decide) (by decide)⟩
  · show Steps p.tables e below (s₁.setTop (mkF m 0 #[.val (.int (1 : Int32))] [])) _
    refine XS.iloadN X0.here hx rfl (hb hby d1_0) rfl ?_
    show Steps p.tables e below (s₁.setTop (mkF m 1 #[.val (.int (1 : Int32))] [(.int (1 : Int32))])) _
    refine XS.ifYes X0.here hx rfl (pc0 := 1) (pc' := 7) rfl (hb hby d1_1) rfl ((if0 _ _).trans (feq (by decide : ¬ ((1 : Int32) = (0 : Int32)))).2) (by decide) (by decide) ?_
    show Steps p.tables e below (s₁.setTop (mkF m 7 #[.val (.int (1 : Int32))] [])) _
    refine XS.iloadN X0.here hx rfl (hb hby d1_7) rfl ?_
    show Steps p.tables e below (s₁.setTop (mkF m 8 #[.val (.int (1 : Int32))] [(.int (1 : Int32))])) _
    refine XS.iconst X0.here hx rfl (hb hby d1_8) ?_
    show Steps p.tables e below (s₁.setTop (mkF m 9 #[.val (.int (1 : Int32))] [(.int (1 : Int32)), (.int (1 : Int32))])) _
    refine XS.icmpNo X0.here hx rfl (hb hby d1_9) rfl (teq (by decide : (1 : Int32) = (1 : Int32))).2 ?_
    show Steps p.tables e below (s₁.setTop (mkF m 12 #[.val (.int (1 : Int32))] [])) _
    refine XS.bipush X0.here hx rfl (hb hby d1_12) ?_
    show Steps p.tables e below (s₁.setTop (mkF m 14 #[.val (.int (1 : Int32))] [(.int (43 : Int32))])) _
    exact retN X0 hx (t := .char) Bd.returns (by simp) (hb hby d1_14) hr
  · have eF : (s₁.setFrames fs).heap = h0 := e0
    exact ⟨rfl, N0, eF⟩
set_option maxRecDepth 65536 in
set_option maxHeartbeats 40000000 in
theorem rm1_2 (l : Launch) (Z : State) (a0 : Array Value) (hw : ∀ d ∈ tables_1, d.before a0 Z = true) (ws : List Jvm.Cond) (n0 : Nat) (h0 : Heap) (O : Old Z n0 h0) (w_PROPERTY : Addr) (w__VALUES : Addr) (w_RESOURCE : Addr) (w_CLASS : Addr) (w_LITERAL : Addr) (k_w__VALUES : ClassId) (W : OwW Z w_PROPERTY w__VALUES w_RESOURCE w_CLASS w_LITERAL k_w__VALUES)  :
    OwCon l (⟨"com/example/pathfix/pathfix/core/KindOfMarkPinLaw", "drawMark", "(I)C"⟩ : MethodName) method_2_code 1 (some .char) ws ({ frames := 0, cells := 0, slots := 0, locals := 0 } : Room) #[(.int (2 : Int32))] Z h0 (OwQ (some (.int (35 : Int32))) h0 n0) := by
  refine MetFree.of_bodySF (plainFor_of_name owpn1) hisR ?_
  intro p e s m args below meth c s₁ Bd hml0 hP hK
  obtain ⟨rfl, hZ, hh⟩ := hP
  have hx := Bd.exec
  have hby := Bd.bytes
  have hml : c.maxLocals = 1 := hml0
  have hown : s.vm.findClass "com/example/pathfix/pathfix/core/KindOfMarkPinLaw" = some m.cls := findClass_of_methodNamed Bd.named
  have hnm := (name_of_methodNamed Bd.named Bd.method).1
  have X0 : Stand p l e ({ frames := 0, cells := 0, slots := 0, locals := 0 } : Room) s m #[(.int (2 : Int32))] below meth c s₁ [] 0 0 := Stand.of_body Bd
  have e0 : s₁.heap = h0 := by rw [← hh, Bd.state]; rfl
  have N0 := Fr.nil n0
  have WW := W
  obtain ⟨E_w_PROPERTY, E_w__VALUES, E_w_RESOURCE, E_w_CLASS, E_w_LITERAL, S_Kind_PROPERTY, S_Kind__VALUES, S_Kind_RESOURCE, S_Kind_CLASS, S_Kind_LITERAL, F_w_RESOURCE_mark, F_w_PROPERTY_mark, F_w_CLASS_mark, F_w_LITERAL_mark, V_w__VALUES, -⟩ := WW
  have ef : entryFrame m #[(.int (2 : Int32))] 1 = mkF m 0 #[.val (.int (2 : Int32))] [] := by first | rfl | (simp [entryFrame, mkF, argsToLocals, Value.category]; done)
  have pre0 : ∀ t, Steps p.tables e below (s₁.setTop (mkF m 0 #[.val (.int (2 : Int32))] [])) t → Steps p.tables e below (s₁.setTop (entryFrame m #[(.int (2 : Int32))] 1)) t := fun t k => castTop ef k
  obtain ⟨fs, hr, hrun, hended, hW, hsame⟩ := X0.leave (v := some (.int (35 : Int32))) (fun h => by rw [Bd.returns] at h; cases h)
  refine ⟨_, _, pre0 _ ?_, hrun, hended, _, _, rfl, ?_, ⟨_, rfl⟩, hW, hsame.mono (by decide) (by decide)⟩
  · show Steps p.tables e below (s₁.setTop (mkF m 0 #[.val (.int (2 : Int32))] [])) _
    refine XS.iloadN X0.here hx rfl (hb hby d1_0) rfl ?_
    show Steps p.tables e below (s₁.setTop (mkF m 1 #[.val (.int (2 : Int32))] [(.int (2 : Int32))])) _
    refine XS.ifYes X0.here hx rfl (pc0 := 1) (pc' := 7) rfl (hb hby d1_1) rfl ((if0 _ _).trans (feq (by decide : ¬ ((2 : Int32) = (0 : Int32)))).2) (by decide) (by decide) ?_
    show Steps p.tables e below (s₁.setTop (mkF m 7 #[.val (.int (2 : Int32))] [])) _
    refine XS.iloadN X0.here hx rfl (hb hby d1_7) rfl ?_
    show Steps p.tables e below (s₁.setTop (mkF m 8 #[.val (.int (2 : Int32))] [(.int (2 : Int32))])) _
    refine XS.iconst X0.here hx rfl (hb hby d1_8) ?_
    show Steps p.tables e below (s₁.setTop (mkF m 9 #[.val (.int (2 : Int32))] [(.int (1 : Int32)), (.int (2 : Int32))])) _
    refine XS.icmpYes X0.here hx rfl (pc0 := 9) (pc' := 15) rfl (hb hby d1_9) rfl (feq (by decide : ¬ ((2 : Int32) = (1 : Int32)))).2 (by decide) (by decide) ?_
    show Steps p.tables e below (s₁.setTop (mkF m 15 #[.val (.int (2 : Int32))] [])) _
    refine XS.iloadN X0.here hx rfl (hb hby d1_15) rfl ?_
    show Steps p.tables e below (s₁.setTop (mkF m 16 #[.val (.int (2 : Int32))] [(.int (2 : Int32))])) _
    refine XS.iconst X0.here hx rfl (hb hby d1_16) ?_
    show Steps p.tables e below (s₁.setTop (mkF m 17 #[.val (.int (2 : Int32))] [(.int (2 : Int32)), (.int (2 : Int32))])) _
    refine XS.icmpNo X0.here hx rfl (hb hby d1_17) rfl (teq (by decide : (2 : Int32) = (2 : Int32))).2 ?_
    show Steps p.tables e below (s₁.setTop (mkF m 20 #[.val (.int (2 : Int32))] [])) _
    refine XS.bipush X0.here hx rfl (hb hby d1_20) ?_
    show Steps p.tables e below (s₁.setTop (mkF m 22 #[.val (.int (2 : Int32))] [(.int (35 : Int32))])) _
    exact retN X0 hx (t := .char) Bd.returns (by simp) (hb hby d1_22) hr
  · have eF : (s₁.setFrames fs).heap = h0 := e0
    exact ⟨rfl, N0, eF⟩
set_option maxRecDepth 65536 in
set_option maxHeartbeats 40000000 in
theorem rm1_3 (l : Launch) (Z : State) (a0 : Array Value) (hw : ∀ d ∈ tables_1, d.before a0 Z = true) (ws : List Jvm.Cond) (n0 : Nat) (h0 : Heap) (O : Old Z n0 h0) (w_PROPERTY : Addr) (w__VALUES : Addr) (w_RESOURCE : Addr) (w_CLASS : Addr) (w_LITERAL : Addr) (k_w__VALUES : ClassId) (W : OwW Z w_PROPERTY w__VALUES w_RESOURCE w_CLASS w_LITERAL k_w__VALUES)  :
    OwCon l (⟨"com/example/pathfix/pathfix/core/KindOfMarkPinLaw", "drawMark", "(I)C"⟩ : MethodName) method_2_code 1 (some .char) ws ({ frames := 0, cells := 0, slots := 0, locals := 0 } : Room) #[(.int (3 : Int32))] Z h0 (OwQ (some (.int (34 : Int32))) h0 n0) := by
  refine MetFree.of_bodySF (plainFor_of_name owpn1) hisR ?_
  intro p e s m args below meth c s₁ Bd hml0 hP hK
  obtain ⟨rfl, hZ, hh⟩ := hP
  have hx := Bd.exec
  have hby := Bd.bytes
  have hml : c.maxLocals = 1 := hml0
  have hown : s.vm.findClass "com/example/pathfix/pathfix/core/KindOfMarkPinLaw" = some m.cls := findClass_of_methodNamed Bd.named
  have hnm := (name_of_methodNamed Bd.named Bd.method).1
  have X0 : Stand p l e ({ frames := 0, cells := 0, slots := 0, locals := 0 } : Room) s m #[(.int (3 : Int32))] below meth c s₁ [] 0 0 := Stand.of_body Bd
  have e0 : s₁.heap = h0 := by rw [← hh, Bd.state]; rfl
  have N0 := Fr.nil n0
  have WW := W
  obtain ⟨E_w_PROPERTY, E_w__VALUES, E_w_RESOURCE, E_w_CLASS, E_w_LITERAL, S_Kind_PROPERTY, S_Kind__VALUES, S_Kind_RESOURCE, S_Kind_CLASS, S_Kind_LITERAL, F_w_RESOURCE_mark, F_w_PROPERTY_mark, F_w_CLASS_mark, F_w_LITERAL_mark, V_w__VALUES, -⟩ := WW
  have ef : entryFrame m #[(.int (3 : Int32))] 1 = mkF m 0 #[.val (.int (3 : Int32))] [] := by first | rfl | (simp [entryFrame, mkF, argsToLocals, Value.category]; done)
  have pre0 : ∀ t, Steps p.tables e below (s₁.setTop (mkF m 0 #[.val (.int (3 : Int32))] [])) t → Steps p.tables e below (s₁.setTop (entryFrame m #[(.int (3 : Int32))] 1)) t := fun t k => castTop ef k
  obtain ⟨fs, hr, hrun, hended, hW, hsame⟩ := X0.leave (v := some (.int (34 : Int32))) (fun h => by rw [Bd.returns] at h; cases h)
  refine ⟨_, _, pre0 _ ?_, hrun, hended, _, _, rfl, ?_, ⟨_, rfl⟩, hW, hsame.mono (by decide) (by decide)⟩
  · show Steps p.tables e below (s₁.setTop (mkF m 0 #[.val (.int (3 : Int32))] [])) _
    refine XS.iloadN X0.here hx rfl (hb hby d1_0) rfl ?_
    show Steps p.tables e below (s₁.setTop (mkF m 1 #[.val (.int (3 : Int32))] [(.int (3 : Int32))])) _
    refine XS.ifYes X0.here hx rfl (pc0 := 1) (pc' := 7) rfl (hb hby d1_1) rfl ((if0 _ _).trans (feq (by decide : ¬ ((3 : Int32) = (0 : Int32)))).2) (by decide) (by decide) ?_
    show Steps p.tables e below (s₁.setTop (mkF m 7 #[.val (.int (3 : Int32))] [])) _
    refine XS.iloadN X0.here hx rfl (hb hby d1_7) rfl ?_
    show Steps p.tables e below (s₁.setTop (mkF m 8 #[.val (.int (3 : Int32))] [(.int (3 : Int32))])) _
    refine XS.iconst X0.here hx rfl (hb hby d1_8) ?_
    show Steps p.tables e below (s₁.setTop (mkF m 9 #[.val (.int (3 : Int32))] [(.int (1 : Int32)), (.int (3 : Int32))])) _
    refine XS.icmpYes X0.here hx rfl (pc0 := 9) (pc' := 15) rfl (hb hby d1_9) rfl (feq (by decide : ¬ ((3 : Int32) = (1 : Int32)))).2 (by decide) (by decide) ?_
    show Steps p.tables e below (s₁.setTop (mkF m 15 #[.val (.int (3 : Int32))] [])) _
    refine XS.iloadN X0.here hx rfl (hb hby d1_15) rfl ?_
    show Steps p.tables e below (s₁.setTop (mkF m 16 #[.val (.int (3 : Int32))] [(.int (3 : Int32))])) _
    refine XS.iconst X0.here hx rfl (hb hby d1_16) ?_
    show Steps p.tables e below (s₁.setTop (mkF m 17 #[.val (.int (3 : Int32))] [(.int (2 : Int32)), (.int (3 : Int32))])) _
    refine XS.icmpYes X0.here hx rfl (pc0 := 17) (pc' := 23) rfl (hb hby d1_17) rfl (feq (by decide : ¬ ((3 : Int32) = (2 : Int32)))).2 (by decide) (by decide) ?_
    show Steps p.tables e below (s₁.setTop (mkF m 23 #[.val (.int (3 : Int32))] [])) _
    refine XS.bipush X0.here hx rfl (hb hby d1_23) ?_
    show Steps p.tables e below (s₁.setTop (mkF m 25 #[.val (.int (3 : Int32))] [(.int (34 : Int32))])) _
    exact retN X0 hx (t := .char) Bd.returns (by simp) (hb hby d1_25) hr
  · have eF : (s₁.setFrames fs).heap = h0 := e0
    exact ⟨rfl, N0, eF⟩
set_option maxRecDepth 65536 in
set_option maxHeartbeats 40000000 in
theorem rm0_c36 (l : Launch) (Z : State) (a0 : Array Value) (hw : ∀ d ∈ tables_1, d.before a0 Z = true) (ws : List Jvm.Cond) (n0 : Nat) (h0 : Heap) (O : Old Z n0 h0) (w_PROPERTY : Addr) (w__VALUES : Addr) (w_RESOURCE : Addr) (w_CLASS : Addr) (w_LITERAL : Addr) (k_w__VALUES : ClassId) (W : OwW Z w_PROPERTY w__VALUES w_RESOURCE w_CLASS w_LITERAL k_w__VALUES) (p0 : Int32) (p1 : Int32) (hp : p1 &&& (1 : Int32) = (0 : Int32)) (hi : (p0.toUInt32.toUInt16.toUInt32.toInt32) = (36 : Int32)) :
    OwCon l x code maxLocals ret ws room_1 #[(.int p0), (.int p1)] Z h0 (OwP (fun v _ => v = some (.int 1)) n0) := by
  refine MetFree.of_bodySF (plainFor_of_name owpn0) hisR ?_
  intro p e s m args below meth c s₁ Bd hml0 hP hK
  obtain ⟨rfl, hZ, hh⟩ := hP
  have hx := Bd.exec
  have hby := Bd.bytes
  have hml : c.maxLocals = 5 := hml0
  have hown : s.vm.findClass "com/example/pathfix/pathfix/core/KindOfMarkPinLaw" = some m.cls := findClass_of_methodNamed Bd.named
  have hnm := (name_of_methodNamed Bd.named Bd.method).1
  have X0 : Stand p l e room_1 s m #[(.int p0), (.int p1)] below meth c s₁ [] 0 0 := Stand.of_body Bd
  have e0 : s₁.heap = h0 := by rw [← hh, Bd.state]; rfl
  have N0 := Fr.nil n0
  have WW := W
  obtain ⟨E_w_PROPERTY, E_w__VALUES, E_w_RESOURCE, E_w_CLASS, E_w_LITERAL, S_Kind_PROPERTY, S_Kind__VALUES, S_Kind_RESOURCE, S_Kind_CLASS, S_Kind_LITERAL, F_w_RESOURCE_mark, F_w_PROPERTY_mark, F_w_CLASS_mark, F_w_LITERAL_mark, V_w__VALUES, -⟩ := WW
  have ef : entryFrame m #[(.int p0), (.int p1)] maxLocals = mkF m 0 #[.val (.int p0), .val (.int p1), .unset, .unset, .unset] [] := by first | rfl | (simp [entryFrame, mkF, argsToLocals, Value.category, maxLocals]; done)
  have pre0 : ∀ t, Steps p.tables e below (s₁.setTop (mkF m 0 #[.val (.int p0), .val (.int p1), .unset, .unset, .unset] [])) t → Steps p.tables e below (s₁.setTop (entryFrame m #[(.int p0), (.int p1)] maxLocals)) t := fun t k => castTop ef k
  obtain ⟨_, _, ⟨T1, L1, k1, n1⟩, -, X1, ⟨Lc1, hQ1, l1, y1, z1⟩, st1⟩ := Jvm.LawKit.callS X0 hx (y := (⟨"com/example/pathfix/pathfix/core/KindOfMarkPinLaw", "reference", "(C)Lcom/example/pathfix/pathfix/core/Kind;"⟩ : MethodName)) hown (mvT hZ (hw _ (List.mem_of_getElem? (i := 4) rfl))) (mvT hZ (hw _ (List.mem_of_getElem? (i := 5) rfl))) (mvT hZ (hw _ (List.mem_of_getElem? (i := 2) rfl))) (mvT hZ (hw _ (List.mem_of_getElem? (i := 6) rfl))) (by decide) (backOf (W := 0) (rm2_36 l Z a0 hw [] n0 h0 O w_PROPERTY w__VALUES w_RESOURCE w_CLASS w_LITERAL k_w__VALUES W  ) hZ (hw _ (List.mem_of_getElem? (i := 6) rfl)) (hw _ (List.mem_of_getElem? (i := 2) rfl)) (by decide) (by decide)) (g := (mkF m 22 #[.val (.int p0), .val (.int p1), .val (.int (36 : Int32)), .unset, .unset] [(.int (36 : Int32))])) rfl (by rw [hml]; rfl) (argsL := [(.int (36 : Int32))]) (rest := []) (lenOf owpd1 rfl) rfl (by show 2 * 0 + _ ≤ _; exact Nat.le_of_eq rfl) (hb hby at_22) (fun _ _ => ⟨rfl, e0, (by decide : 0 + 0 ≤ _), (by decide : 0 + 0 ≤ _)⟩)
  dsimp only [Pt.U, Pt.locs, Pt.cells, Pt.slots] at X1 l1 y1 z1 st1 hQ1
  subst l1 y1 z1
  obtain ⟨rfl, Nq1, e1⟩ := hQ1
  have N1 := Fr.app N0 Nq1
  obtain ⟨_, _, ⟨T2, L2, k2, n2⟩, -, X2, ⟨Lc2, hQ2, l2, y2, z2⟩, st2⟩ := Jvm.LawKit.callS X1 hx (y := (⟨"com/example/pathfix/pathfix/core/Kind", "ofMark", "(C)Lcom/example/pathfix/pathfix/core/Kind;"⟩ : MethodName)) hown (mvT hZ (hw _ (List.mem_of_getElem? (i := 10) rfl))) (mvT hZ (hw _ (List.mem_of_getElem? (i := 11) rfl))) (mvT hZ (hw _ (List.mem_of_getElem? (i := 8) rfl))) (mvT hZ (hw _ (List.mem_of_getElem? (i := 12) rfl))) (by decide) (backOf (W := 0) (rm3_36 l Z a0 hw [] n0 h0 O w_PROPERTY w__VALUES w_RESOURCE w_CLASS w_LITERAL k_w__VALUES W  ) hZ (hw _ (List.mem_of_getElem? (i := 12) rfl)) (hw _ (List.mem_of_getElem? (i := 8) rfl)) (by decide) (by decide)) (g := (mkF m 27 #[.val (.int p0), .val (.int p1), .val (.int (36 : Int32)), .val (.ref w_RESOURCE), .unset] [(.int (36 : Int32))])) rfl (by rw [hml]; rfl) (argsL := [(.int (36 : Int32))]) (rest := []) (lenOf owpd1 rfl) rfl (by show 2 * 0 + _ ≤ _; exact Nat.le_of_eq rfl) (hb hby at_27) (fun _ _ => ⟨rfl, e1, (by decide : 0 + 1 ≤ _), (by decide : 0 + 4 ≤ _)⟩)
  dsimp only [Pt.U, Pt.locs, Pt.cells, Pt.slots] at X2 l2 y2 z2 st2 hQ2
  subst l2 y2 z2
  obtain ⟨Nq2, hP2⟩ := hQ2
  have N2 := Fr.app N1 Nq2
  have ee2 : T2.heap = T2.heap := rfl
  obtain ⟨rfl, O2⟩ := hP2
  obtain ⟨cq3, kq3, q3a, q3b, q3c⟩ := isOf hZ ee2 (E_w_RESOURCE.ext O2.2)
  obtain ⟨_, _, ⟨T3, L3, k3, n3⟩, -, X3, ⟨Lc3, hQ3, l3, y3, z3⟩, st3⟩ := X2.virtualBack hx (y := (⟨"com/example/pathfix/pathfix/core/Kind", "mark", "()C"⟩ : MethodName)) (z := (⟨"com/example/pathfix/pathfix/core/Kind", "mark", "()C"⟩ : MethodName)) hown (mvT hZ (hw _ (List.mem_of_getElem? (i := 33) rfl))) (mvT hZ (hw _ (List.mem_of_getElem? (i := 34) rfl))) (notFace_of_selects (args := #[]) (mvT hZ (hw _ (List.mem_of_getElem? (i := 36) rfl)))) (mvT hZ (hw _ (List.mem_of_getElem? (i := 36) rfl))) (mvT hZ (hw _ (List.mem_of_getElem? (i := 35) rfl))) (by decide) (backOf (W := 0) (rm5_36 l Z a0 hw [] n0 T2.heap O2 w_PROPERTY w__VALUES w_RESOURCE w_CLASS w_LITERAL k_w__VALUES W  ) hZ (hw _ (List.mem_of_getElem? (i := 37) rfl)) (hw _ (List.mem_of_getElem? (i := 8) rfl)) (by decide) (by decide)) q3a q3c (g := (mkF m 47 #[.val (.int p0), .val (.int p1), .val (.int (36 : Int32)), .val (.ref w_RESOURCE), .val (.ref w_RESOURCE)] [(.ref w_RESOURCE)])) rfl (by rw [hml]; rfl) (Steps.refl _) (argsL := []) (rest := []) (lenOf owpd2 rfl) rfl (by show 2 * 0 + _ ≤ _; exact Nat.le_of_eq rfl) (hb hby at_47) (fun _ _ => ⟨rfl, ee2, (by decide : 1 + 0 ≤ _), (by decide : 4 + 0 ≤ _)⟩)
  dsimp only [Pt.U, Pt.locs, Pt.cells, Pt.slots] at X3 l3 y3 z3 st3 hQ3
  subst l3 y3 z3
  obtain ⟨rfl, Nq3, e3⟩ := hQ3
  have N3 := Fr.app N2 Nq3
  obtain ⟨fs, hr, hrun, hended, hW, hsame⟩ := X3.leave (v := some (.int (1 : Int32))) (fun h => by rw [Bd.returns] at h; cases h)
  refine ⟨_, _, pre0 _ ?_, hrun, hended, _, _, rfl, ?_, ⟨_, rfl⟩, hW, hsame.mono (by decide) (by decide)⟩
  · show Steps p.tables e below (s₁.setTop (mkF m 0 #[.val (.int p0), .val (.int p1), .unset, .unset, .unset] [])) _
    refine XS.iloadN X0.here hx rfl (hb hby at_0) rfl ?_
    show Steps p.tables e below (s₁.setTop (mkF m 1 #[.val (.int p0), .val (.int p1), .unset, .unset, .unset] [(.int p1)])) _
    refine XS.iconst X0.here hx rfl (hb hby at_1) ?_
    show Steps p.tables e below (s₁.setTop (mkF m 2 #[.val (.int p0), .val (.int p1), .unset, .unset, .unset] [(.int (1 : Int32)), (.int p1)])) _
    refine XS.iand X0.here hx rfl (hb hby at_2) rfl ?_
    show Steps p.tables e below (s₁.setTop (mkF m 3 #[.val (.int p0), .val (.int p1), .unset, .unset, .unset] [(.int (p1 &&& (1 : Int32)))])) _
    refine XS.ifYes X0.here hx rfl (pc0 := 3) (pc' := 18) rfl (hb hby at_3) rfl ((if0 _ _).trans (teq hp).1) (by decide) (by decide) ?_
    show Steps p.tables e below (s₁.setTop (mkF m 18 #[.val (.int p0), .val (.int p1), .unset, .unset, .unset] [])) _
    refine XS.iloadN X0.here hx rfl (hb hby at_18) rfl ?_
    show Steps p.tables e below (s₁.setTop (mkF m 19 #[.val (.int p0), .val (.int p1), .unset, .unset, .unset] [(.int p0)])) _
    refine XS.i2c X0.here hx rfl (hb hby at_19) rfl ?_
    show Steps p.tables e below (s₁.setTop (mkF m 20 #[.val (.int p0), .val (.int p1), .unset, .unset, .unset] [(.int (p0.toUInt32.toUInt16.toUInt32.toInt32))])) _
    rw [hi]
    show Steps p.tables e below (s₁.setTop (mkF m 20 #[.val (.int p0), .val (.int p1), .unset, .unset, .unset] [(.int (36 : Int32))])) _
    refine XS.istoreN X0.here hx rfl (hb hby at_20) rfl (l' := #[.val (.int p0), .val (.int p1), .val (.int (36 : Int32)), .unset, .unset]) rfl ?_
    show Steps p.tables e below (s₁.setTop (mkF m 21 #[.val (.int p0), .val (.int p1), .val (.int (36 : Int32)), .unset, .unset] [])) _
    refine XS.iloadN X0.here hx rfl (hb hby at_21) rfl ?_
    show Steps p.tables e below (s₁.setTop (mkF m 22 #[.val (.int p0), .val (.int p1), .val (.int (36 : Int32)), .unset, .unset] [(.int (36 : Int32))])) _
    refine st1 _ ?_
    show Steps p.tables e below (T1.setTop (mkF m 25 #[.val (.int p0), .val (.int p1), .val (.int (36 : Int32)), .unset, .unset] [(.ref w_RESOURCE)])) _
    refine XS.astoreN X1.here hx rfl (hb hby at_25) rfl rfl (l' := #[.val (.int p0), .val (.int p1), .val (.int (36 : Int32)), .val (.ref w_RESOURCE), .unset]) rfl ?_
    show Steps p.tables e below (T1.setTop (mkF m 26 #[.val (.int p0), .val (.int p1), .val (.int (36 : Int32)), .val (.ref w_RESOURCE), .unset] [])) _
    refine XS.iloadN X1.here hx rfl (hb hby at_26) rfl ?_
    show Steps p.tables e below (T1.setTop (mkF m 27 #[.val (.int p0), .val (.int p1), .val (.int (36 : Int32)), .val (.ref w_RESOURCE), .unset] [(.int (36 : Int32))])) _
    refine st2 _ ?_
    show Steps p.tables e below (T2.setTop (mkF m 30 #[.val (.int p0), .val (.int p1), .val (.int (36 : Int32)), .val (.ref w_RESOURCE), .unset] [(.ref w_RESOURCE)])) _
    refine XS.astore X2.here hx rfl (hb hby at_30) rfl rfl (l' := #[.val (.int p0), .val (.int p1), .val (.int (36 : Int32)), .val (.ref w_RESOURCE), .val (.ref w_RESOURCE)]) rfl ?_
    show Steps p.tables e below (T2.setTop (mkF m 32 #[.val (.int p0), .val (.int p1), .val (.int (36 : Int32)), .val (.ref w_RESOURCE), .val (.ref w_RESOURCE)] [])) _
    refine XS.aload X2.here hx rfl (hb hby at_32) rfl rfl ?_
    show Steps p.tables e below (T2.setTop (mkF m 34 #[.val (.int p0), .val (.int p1), .val (.int (36 : Int32)), .val (.ref w_RESOURCE), .val (.ref w_RESOURCE)] [(.ref w_RESOURCE)])) _
    refine XS.aloadN X2.here hx rfl (hb hby at_34) rfl rfl ?_
    show Steps p.tables e below (T2.setTop (mkF m 35 #[.val (.int p0), .val (.int p1), .val (.int (36 : Int32)), .val (.ref w_RESOURCE), .val (.ref w_RESOURCE)] [(.ref w_RESOURCE), (.ref w_RESOURCE)])) _
    refine Jvm.RoadKit.acmp (g := (mkF m 35 #[.val (.int p0), .val (.int p1), .val (.int (36 : Int32)), .val (.ref w_RESOURCE), .val (.ref w_RESOURCE)] [(.ref w_RESOURCE), (.ref w_RESOURCE)])) X2 hx rfl rfl rfl (pc0 := 35) (pc' := 40) (same := true) rfl (hb hby at_35) rfl (decide_eq_true rfl) (by decide) (by decide) ?_
    show Steps p.tables e below (T2.setTop (mkF m 40 #[.val (.int p0), .val (.int p1), .val (.int (36 : Int32)), .val (.ref w_RESOURCE), .val (.ref w_RESOURCE)] [])) _
    refine XS.aload X2.here hx rfl (hb hby at_40) rfl rfl ?_
    show Steps p.tables e below (T2.setTop (mkF m 42 #[.val (.int p0), .val (.int p1), .val (.int (36 : Int32)), .val (.ref w_RESOURCE), .val (.ref w_RESOURCE)] [(.ref w_RESOURCE)])) _
    refine XS.ifnullNo X2.here hx rfl (hb hby at_42) rfl ?_
    show Steps p.tables e below (T2.setTop (mkF m 45 #[.val (.int p0), .val (.int p1), .val (.int (36 : Int32)), .val (.ref w_RESOURCE), .val (.ref w_RESOURCE)] [])) _
    refine XS.aload X2.here hx rfl (hb hby at_45) rfl rfl ?_
    show Steps p.tables e below (T2.setTop (mkF m 47 #[.val (.int p0), .val (.int p1), .val (.int (36 : Int32)), .val (.ref w_RESOURCE), .val (.ref w_RESOURCE)] [(.ref w_RESOURCE)])) _
    refine st3.trans ?_
    show Steps p.tables e below (T3.setTop (mkF m 50 #[.val (.int p0), .val (.int p1), .val (.int (36 : Int32)), .val (.ref w_RESOURCE), .val (.ref w_RESOURCE)] [(.int (36 : Int32))])) _
    refine XS.iloadN X3.here hx rfl (hb hby at_50) rfl ?_
    show Steps p.tables e below (T3.setTop (mkF m 51 #[.val (.int p0), .val (.int p1), .val (.int (36 : Int32)), .val (.ref w_RESOURCE), .val (.ref w_RESOURCE)] [(.int (36 : Int32)), (.int (36 : Int32))])) _
    refine XS.icmpNo X3.here hx rfl (hb hby at_51) rfl (teq (by decide : (36 : Int32) = (36 : Int32))).2 ?_
    show Steps p.tables e below (T3.setTop (mkF m 54 #[.val (.int p0), .val (.int p1), .val (.int (36 : Int32)), .val (.ref w_RESOURCE), .val (.ref w_RESOURCE)] [])) _
    refine XS.iconst X3.here hx rfl (hb hby at_54) ?_
    show Steps p.tables e below (T3.setTop (mkF m 55 #[.val (.int p0), .val (.int p1), .val (.int (36 : Int32)), .val (.ref w_RESOURCE), .val (.ref w_RESOURCE)] [(.int (1 : Int32))])) _
    refine XS.goto X3.here hx rfl (pc0 := 55) (pc' := 59) rfl (hb hby at_55) (by decide) (by decide) ?_
    show Steps p.tables e below (T3.setTop (mkF m 59 #[.val (.int p0), .val (.int p1), .val (.int (36 : Int32)), .val (.ref w_RESOURCE), .val (.ref w_RESOURCE)] [(.int (1 : Int32))])) _
    exact retN X3 hx (t := .boolean) Bd.returns (by simp) (hb hby at_59) hr
  · have eF : (T3.setFrames fs).heap = T2.heap := e3
    exact ⟨N3, rfl⟩
set_option maxRecDepth 65536 in
set_option maxHeartbeats 40000000 in
theorem rm0_c43 (l : Launch) (Z : State) (a0 : Array Value) (hw : ∀ d ∈ tables_1, d.before a0 Z = true) (ws : List Jvm.Cond) (n0 : Nat) (h0 : Heap) (O : Old Z n0 h0) (w_PROPERTY : Addr) (w__VALUES : Addr) (w_RESOURCE : Addr) (w_CLASS : Addr) (w_LITERAL : Addr) (k_w__VALUES : ClassId) (W : OwW Z w_PROPERTY w__VALUES w_RESOURCE w_CLASS w_LITERAL k_w__VALUES) (p0 : Int32) (p1 : Int32) (hp : p1 &&& (1 : Int32) = (0 : Int32)) (hi : (p0.toUInt32.toUInt16.toUInt32.toInt32) = (43 : Int32)) :
    OwCon l x code maxLocals ret ws room_1 #[(.int p0), (.int p1)] Z h0 (OwP (fun v _ => v = some (.int 1)) n0) := by
  refine MetFree.of_bodySF (plainFor_of_name owpn0) hisR ?_
  intro p e s m args below meth c s₁ Bd hml0 hP hK
  obtain ⟨rfl, hZ, hh⟩ := hP
  have hx := Bd.exec
  have hby := Bd.bytes
  have hml : c.maxLocals = 5 := hml0
  have hown : s.vm.findClass "com/example/pathfix/pathfix/core/KindOfMarkPinLaw" = some m.cls := findClass_of_methodNamed Bd.named
  have hnm := (name_of_methodNamed Bd.named Bd.method).1
  have X0 : Stand p l e room_1 s m #[(.int p0), (.int p1)] below meth c s₁ [] 0 0 := Stand.of_body Bd
  have e0 : s₁.heap = h0 := by rw [← hh, Bd.state]; rfl
  have N0 := Fr.nil n0
  have WW := W
  obtain ⟨E_w_PROPERTY, E_w__VALUES, E_w_RESOURCE, E_w_CLASS, E_w_LITERAL, S_Kind_PROPERTY, S_Kind__VALUES, S_Kind_RESOURCE, S_Kind_CLASS, S_Kind_LITERAL, F_w_RESOURCE_mark, F_w_PROPERTY_mark, F_w_CLASS_mark, F_w_LITERAL_mark, V_w__VALUES, -⟩ := WW
  have ef : entryFrame m #[(.int p0), (.int p1)] maxLocals = mkF m 0 #[.val (.int p0), .val (.int p1), .unset, .unset, .unset] [] := by first | rfl | (simp [entryFrame, mkF, argsToLocals, Value.category, maxLocals]; done)
  have pre0 : ∀ t, Steps p.tables e below (s₁.setTop (mkF m 0 #[.val (.int p0), .val (.int p1), .unset, .unset, .unset] [])) t → Steps p.tables e below (s₁.setTop (entryFrame m #[(.int p0), (.int p1)] maxLocals)) t := fun t k => castTop ef k
  obtain ⟨_, _, ⟨T1, L1, k1, n1⟩, -, X1, ⟨Lc1, hQ1, l1, y1, z1⟩, st1⟩ := Jvm.LawKit.callS X0 hx (y := (⟨"com/example/pathfix/pathfix/core/KindOfMarkPinLaw", "reference", "(C)Lcom/example/pathfix/pathfix/core/Kind;"⟩ : MethodName)) hown (mvT hZ (hw _ (List.mem_of_getElem? (i := 4) rfl))) (mvT hZ (hw _ (List.mem_of_getElem? (i := 5) rfl))) (mvT hZ (hw _ (List.mem_of_getElem? (i := 2) rfl))) (mvT hZ (hw _ (List.mem_of_getElem? (i := 6) rfl))) (by decide) (backOf (W := 0) (rm2_43 l Z a0 hw [] n0 h0 O w_PROPERTY w__VALUES w_RESOURCE w_CLASS w_LITERAL k_w__VALUES W  ) hZ (hw _ (List.mem_of_getElem? (i := 6) rfl)) (hw _ (List.mem_of_getElem? (i := 2) rfl)) (by decide) (by decide)) (g := (mkF m 22 #[.val (.int p0), .val (.int p1), .val (.int (43 : Int32)), .unset, .unset] [(.int (43 : Int32))])) rfl (by rw [hml]; rfl) (argsL := [(.int (43 : Int32))]) (rest := []) (lenOf owpd1 rfl) rfl (by show 2 * 0 + _ ≤ _; exact Nat.le_of_eq rfl) (hb hby at_22) (fun _ _ => ⟨rfl, e0, (by decide : 0 + 0 ≤ _), (by decide : 0 + 0 ≤ _)⟩)
  dsimp only [Pt.U, Pt.locs, Pt.cells, Pt.slots] at X1 l1 y1 z1 st1 hQ1
  subst l1 y1 z1
  obtain ⟨rfl, Nq1, e1⟩ := hQ1
  have N1 := Fr.app N0 Nq1
  obtain ⟨_, _, ⟨T2, L2, k2, n2⟩, -, X2, ⟨Lc2, hQ2, l2, y2, z2⟩, st2⟩ := Jvm.LawKit.callS X1 hx (y := (⟨"com/example/pathfix/pathfix/core/Kind", "ofMark", "(C)Lcom/example/pathfix/pathfix/core/Kind;"⟩ : MethodName)) hown (mvT hZ (hw _ (List.mem_of_getElem? (i := 10) rfl))) (mvT hZ (hw _ (List.mem_of_getElem? (i := 11) rfl))) (mvT hZ (hw _ (List.mem_of_getElem? (i := 8) rfl))) (mvT hZ (hw _ (List.mem_of_getElem? (i := 12) rfl))) (by decide) (backOf (W := 0) (rm3_43 l Z a0 hw [] n0 h0 O w_PROPERTY w__VALUES w_RESOURCE w_CLASS w_LITERAL k_w__VALUES W  ) hZ (hw _ (List.mem_of_getElem? (i := 12) rfl)) (hw _ (List.mem_of_getElem? (i := 8) rfl)) (by decide) (by decide)) (g := (mkF m 27 #[.val (.int p0), .val (.int p1), .val (.int (43 : Int32)), .val (.ref w_PROPERTY), .unset] [(.int (43 : Int32))])) rfl (by rw [hml]; rfl) (argsL := [(.int (43 : Int32))]) (rest := []) (lenOf owpd1 rfl) rfl (by show 2 * 0 + _ ≤ _; exact Nat.le_of_eq rfl) (hb hby at_27) (fun _ _ => ⟨rfl, e1, (by decide : 0 + 1 ≤ _), (by decide : 0 + 4 ≤ _)⟩)
  dsimp only [Pt.U, Pt.locs, Pt.cells, Pt.slots] at X2 l2 y2 z2 st2 hQ2
  subst l2 y2 z2
  obtain ⟨Nq2, hP2⟩ := hQ2
  have N2 := Fr.app N1 Nq2
  have ee2 : T2.heap = T2.heap := rfl
  obtain ⟨rfl, O2⟩ := hP2
  obtain ⟨cq3, kq3, q3a, q3b, q3c⟩ := isOf hZ ee2 (E_w_PROPERTY.ext O2.2)
  obtain ⟨_, _, ⟨T3, L3, k3, n3⟩, -, X3, ⟨Lc3, hQ3, l3, y3, z3⟩, st3⟩ := X2.virtualBack hx (y := (⟨"com/example/pathfix/pathfix/core/Kind", "mark", "()C"⟩ : MethodName)) (z := (⟨"com/example/pathfix/pathfix/core/Kind", "mark", "()C"⟩ : MethodName)) hown (mvT hZ (hw _ (List.mem_of_getElem? (i := 33) rfl))) (mvT hZ (hw _ (List.mem_of_getElem? (i := 34) rfl))) (notFace_of_selects (args := #[]) (mvT hZ (hw _ (List.mem_of_getElem? (i := 36) rfl)))) (mvT hZ (hw _ (List.mem_of_getElem? (i := 36) rfl))) (mvT hZ (hw _ (List.mem_of_getElem? (i := 35) rfl))) (by decide) (backOf (W := 0) (rm5_43 l Z a0 hw [] n0 T2.heap O2 w_PROPERTY w__VALUES w_RESOURCE w_CLASS w_LITERAL k_w__VALUES W  ) hZ (hw _ (List.mem_of_getElem? (i := 37) rfl)) (hw _ (List.mem_of_getElem? (i := 8) rfl)) (by decide) (by decide)) q3a q3c (g := (mkF m 47 #[.val (.int p0), .val (.int p1), .val (.int (43 : Int32)), .val (.ref w_PROPERTY), .val (.ref w_PROPERTY)] [(.ref w_PROPERTY)])) rfl (by rw [hml]; rfl) (Steps.refl _) (argsL := []) (rest := []) (lenOf owpd2 rfl) rfl (by show 2 * 0 + _ ≤ _; exact Nat.le_of_eq rfl) (hb hby at_47) (fun _ _ => ⟨rfl, ee2, (by decide : 1 + 0 ≤ _), (by decide : 4 + 0 ≤ _)⟩)
  dsimp only [Pt.U, Pt.locs, Pt.cells, Pt.slots] at X3 l3 y3 z3 st3 hQ3
  subst l3 y3 z3
  obtain ⟨rfl, Nq3, e3⟩ := hQ3
  have N3 := Fr.app N2 Nq3
  obtain ⟨fs, hr, hrun, hended, hW, hsame⟩ := X3.leave (v := some (.int (1 : Int32))) (fun h => by rw [Bd.returns] at h; cases h)
  refine ⟨_, _, pre0 _ ?_, hrun, hended, _, _, rfl, ?_, ⟨_, rfl⟩, hW, hsame.mono (by decide) (by decide)⟩
  · show Steps p.tables e below (s₁.setTop (mkF m 0 #[.val (.int p0), .val (.int p1), .unset, .unset, .unset] [])) _
    refine XS.iloadN X0.here hx rfl (hb hby at_0) rfl ?_
    show Steps p.tables e below (s₁.setTop (mkF m 1 #[.val (.int p0), .val (.int p1), .unset, .unset, .unset] [(.int p1)])) _
    refine XS.iconst X0.here hx rfl (hb hby at_1) ?_
    show Steps p.tables e below (s₁.setTop (mkF m 2 #[.val (.int p0), .val (.int p1), .unset, .unset, .unset] [(.int (1 : Int32)), (.int p1)])) _
    refine XS.iand X0.here hx rfl (hb hby at_2) rfl ?_
    show Steps p.tables e below (s₁.setTop (mkF m 3 #[.val (.int p0), .val (.int p1), .unset, .unset, .unset] [(.int (p1 &&& (1 : Int32)))])) _
    refine XS.ifYes X0.here hx rfl (pc0 := 3) (pc' := 18) rfl (hb hby at_3) rfl ((if0 _ _).trans (teq hp).1) (by decide) (by decide) ?_
    show Steps p.tables e below (s₁.setTop (mkF m 18 #[.val (.int p0), .val (.int p1), .unset, .unset, .unset] [])) _
    refine XS.iloadN X0.here hx rfl (hb hby at_18) rfl ?_
    show Steps p.tables e below (s₁.setTop (mkF m 19 #[.val (.int p0), .val (.int p1), .unset, .unset, .unset] [(.int p0)])) _
    refine XS.i2c X0.here hx rfl (hb hby at_19) rfl ?_
    show Steps p.tables e below (s₁.setTop (mkF m 20 #[.val (.int p0), .val (.int p1), .unset, .unset, .unset] [(.int (p0.toUInt32.toUInt16.toUInt32.toInt32))])) _
    rw [hi]
    show Steps p.tables e below (s₁.setTop (mkF m 20 #[.val (.int p0), .val (.int p1), .unset, .unset, .unset] [(.int (43 : Int32))])) _
    refine XS.istoreN X0.here hx rfl (hb hby at_20) rfl (l' := #[.val (.int p0), .val (.int p1), .val (.int (43 : Int32)), .unset, .unset]) rfl ?_
    show Steps p.tables e below (s₁.setTop (mkF m 21 #[.val (.int p0), .val (.int p1), .val (.int (43 : Int32)), .unset, .unset] [])) _
    refine XS.iloadN X0.here hx rfl (hb hby at_21) rfl ?_
    show Steps p.tables e below (s₁.setTop (mkF m 22 #[.val (.int p0), .val (.int p1), .val (.int (43 : Int32)), .unset, .unset] [(.int (43 : Int32))])) _
    refine st1 _ ?_
    show Steps p.tables e below (T1.setTop (mkF m 25 #[.val (.int p0), .val (.int p1), .val (.int (43 : Int32)), .unset, .unset] [(.ref w_PROPERTY)])) _
    refine XS.astoreN X1.here hx rfl (hb hby at_25) rfl rfl (l' := #[.val (.int p0), .val (.int p1), .val (.int (43 : Int32)), .val (.ref w_PROPERTY), .unset]) rfl ?_
    show Steps p.tables e below (T1.setTop (mkF m 26 #[.val (.int p0), .val (.int p1), .val (.int (43 : Int32)), .val (.ref w_PROPERTY), .unset] [])) _
    refine XS.iloadN X1.here hx rfl (hb hby at_26) rfl ?_
    show Steps p.tables e below (T1.setTop (mkF m 27 #[.val (.int p0), .val (.int p1), .val (.int (43 : Int32)), .val (.ref w_PROPERTY), .unset] [(.int (43 : Int32))])) _
    refine st2 _ ?_
    show Steps p.tables e below (T2.setTop (mkF m 30 #[.val (.int p0), .val (.int p1), .val (.int (43 : Int32)), .val (.ref w_PROPERTY), .unset] [(.ref w_PROPERTY)])) _
    refine XS.astore X2.here hx rfl (hb hby at_30) rfl rfl (l' := #[.val (.int p0), .val (.int p1), .val (.int (43 : Int32)), .val (.ref w_PROPERTY), .val (.ref w_PROPERTY)]) rfl ?_
    show Steps p.tables e below (T2.setTop (mkF m 32 #[.val (.int p0), .val (.int p1), .val (.int (43 : Int32)), .val (.ref w_PROPERTY), .val (.ref w_PROPERTY)] [])) _
    refine XS.aload X2.here hx rfl (hb hby at_32) rfl rfl ?_
    show Steps p.tables e below (T2.setTop (mkF m 34 #[.val (.int p0), .val (.int p1), .val (.int (43 : Int32)), .val (.ref w_PROPERTY), .val (.ref w_PROPERTY)] [(.ref w_PROPERTY)])) _
    refine XS.aloadN X2.here hx rfl (hb hby at_34) rfl rfl ?_
    show Steps p.tables e below (T2.setTop (mkF m 35 #[.val (.int p0), .val (.int p1), .val (.int (43 : Int32)), .val (.ref w_PROPERTY), .val (.ref w_PROPERTY)] [(.ref w_PROPERTY), (.ref w_PROPERTY)])) _
    refine Jvm.RoadKit.acmp (g := (mkF m 35 #[.val (.int p0), .val (.int p1), .val (.int (43 : Int32)), .val (.ref w_PROPERTY), .val (.ref w_PROPERTY)] [(.ref w_PROPERTY), (.ref w_PROPERTY)])) X2 hx rfl rfl rfl (pc0 := 35) (pc' := 40) (same := true) rfl (hb hby at_35) rfl (decide_eq_true rfl) (by decide) (by decide) ?_
    show Steps p.tables e below (T2.setTop (mkF m 40 #[.val (.int p0), .val (.int p1), .val (.int (43 : Int32)), .val (.ref w_PROPERTY), .val (.ref w_PROPERTY)] [])) _
    refine XS.aload X2.here hx rfl (hb hby at_40) rfl rfl ?_
    show Steps p.tables e below (T2.setTop (mkF m 42 #[.val (.int p0), .val (.int p1), .val (.int (43 : Int32)), .val (.ref w_PROPERTY), .val (.ref w_PROPERTY)] [(.ref w_PROPERTY)])) _
    refine XS.ifnullNo X2.here hx rfl (hb hby at_42) rfl ?_
    show Steps p.tables e below (T2.setTop (mkF m 45 #[.val (.int p0), .val (.int p1), .val (.int (43 : Int32)), .val (.ref w_PROPERTY), .val (.ref w_PROPERTY)] [])) _
    refine XS.aload X2.here hx rfl (hb hby at_45) rfl rfl ?_
    show Steps p.tables e below (T2.setTop (mkF m 47 #[.val (.int p0), .val (.int p1), .val (.int (43 : Int32)), .val (.ref w_PROPERTY), .val (.ref w_PROPERTY)] [(.ref w_PROPERTY)])) _
    refine st3.trans ?_
    show Steps p.tables e below (T3.setTop (mkF m 50 #[.val (.int p0), .val (.int p1), .val (.int (43 : Int32)), .val (.ref w_PROPERTY), .val (.ref w_PROPERTY)] [(.int (43 : Int32))])) _
    refine XS.iloadN X3.here hx rfl (hb hby at_50) rfl ?_
    show Steps p.tables e below (T3.setTop (mkF m 51 #[.val (.int p0), .val (.int p1), .val (.int (43 : Int32)), .val (.ref w_PROPERTY), .val (.ref w_PROPERTY)] [(.int (43 : Int32)), (.int (43 : Int32))])) _
    refine XS.icmpNo X3.here hx rfl (hb hby at_51) rfl (teq (by decide : (43 : Int32) = (43 : Int32))).2 ?_
    show Steps p.tables e below (T3.setTop (mkF m 54 #[.val (.int p0), .val (.int p1), .val (.int (43 : Int32)), .val (.ref w_PROPERTY), .val (.ref w_PROPERTY)] [])) _
    refine XS.iconst X3.here hx rfl (hb hby at_54) ?_
    show Steps p.tables e below (T3.setTop (mkF m 55 #[.val (.int p0), .val (.int p1), .val (.int (43 : Int32)), .val (.ref w_PROPERTY), .val (.ref w_PROPERTY)] [(.int (1 : Int32))])) _
    refine XS.goto X3.here hx rfl (pc0 := 55) (pc' := 59) rfl (hb hby at_55) (by decide) (by decide) ?_
    show Steps p.tables e below (T3.setTop (mkF m 59 #[.val (.int p0), .val (.int p1), .val (.int (43 : Int32)), .val (.ref w_PROPERTY), .val (.ref w_PROPERTY)] [(.int (1 : Int32))])) _
    exact retN X3 hx (t := .boolean) Bd.returns (by simp) (hb hby at_59) hr
  · have eF : (T3.setFrames fs).heap = T2.heap := e3
    exact ⟨N3, rfl⟩
set_option maxRecDepth 65536 in
set_option maxHeartbeats 40000000 in
theorem rm0_c35 (l : Launch) (Z : State) (a0 : Array Value) (hw : ∀ d ∈ tables_1, d.before a0 Z = true) (ws : List Jvm.Cond) (n0 : Nat) (h0 : Heap) (O : Old Z n0 h0) (w_PROPERTY : Addr) (w__VALUES : Addr) (w_RESOURCE : Addr) (w_CLASS : Addr) (w_LITERAL : Addr) (k_w__VALUES : ClassId) (W : OwW Z w_PROPERTY w__VALUES w_RESOURCE w_CLASS w_LITERAL k_w__VALUES) (p0 : Int32) (p1 : Int32) (hp : p1 &&& (1 : Int32) = (0 : Int32)) (hi : (p0.toUInt32.toUInt16.toUInt32.toInt32) = (35 : Int32)) :
    OwCon l x code maxLocals ret ws room_1 #[(.int p0), (.int p1)] Z h0 (OwP (fun v _ => v = some (.int 1)) n0) := by
  refine MetFree.of_bodySF (plainFor_of_name owpn0) hisR ?_
  intro p e s m args below meth c s₁ Bd hml0 hP hK
  obtain ⟨rfl, hZ, hh⟩ := hP
  have hx := Bd.exec
  have hby := Bd.bytes
  have hml : c.maxLocals = 5 := hml0
  have hown : s.vm.findClass "com/example/pathfix/pathfix/core/KindOfMarkPinLaw" = some m.cls := findClass_of_methodNamed Bd.named
  have hnm := (name_of_methodNamed Bd.named Bd.method).1
  have X0 : Stand p l e room_1 s m #[(.int p0), (.int p1)] below meth c s₁ [] 0 0 := Stand.of_body Bd
  have e0 : s₁.heap = h0 := by rw [← hh, Bd.state]; rfl
  have N0 := Fr.nil n0
  have WW := W
  obtain ⟨E_w_PROPERTY, E_w__VALUES, E_w_RESOURCE, E_w_CLASS, E_w_LITERAL, S_Kind_PROPERTY, S_Kind__VALUES, S_Kind_RESOURCE, S_Kind_CLASS, S_Kind_LITERAL, F_w_RESOURCE_mark, F_w_PROPERTY_mark, F_w_CLASS_mark, F_w_LITERAL_mark, V_w__VALUES, -⟩ := WW
  have ef : entryFrame m #[(.int p0), (.int p1)] maxLocals = mkF m 0 #[.val (.int p0), .val (.int p1), .unset, .unset, .unset] [] := by first | rfl | (simp [entryFrame, mkF, argsToLocals, Value.category, maxLocals]; done)
  have pre0 : ∀ t, Steps p.tables e below (s₁.setTop (mkF m 0 #[.val (.int p0), .val (.int p1), .unset, .unset, .unset] [])) t → Steps p.tables e below (s₁.setTop (entryFrame m #[(.int p0), (.int p1)] maxLocals)) t := fun t k => castTop ef k
  obtain ⟨_, _, ⟨T1, L1, k1, n1⟩, -, X1, ⟨Lc1, hQ1, l1, y1, z1⟩, st1⟩ := Jvm.LawKit.callS X0 hx (y := (⟨"com/example/pathfix/pathfix/core/KindOfMarkPinLaw", "reference", "(C)Lcom/example/pathfix/pathfix/core/Kind;"⟩ : MethodName)) hown (mvT hZ (hw _ (List.mem_of_getElem? (i := 4) rfl))) (mvT hZ (hw _ (List.mem_of_getElem? (i := 5) rfl))) (mvT hZ (hw _ (List.mem_of_getElem? (i := 2) rfl))) (mvT hZ (hw _ (List.mem_of_getElem? (i := 6) rfl))) (by decide) (backOf (W := 0) (rm2_35 l Z a0 hw [] n0 h0 O w_PROPERTY w__VALUES w_RESOURCE w_CLASS w_LITERAL k_w__VALUES W  ) hZ (hw _ (List.mem_of_getElem? (i := 6) rfl)) (hw _ (List.mem_of_getElem? (i := 2) rfl)) (by decide) (by decide)) (g := (mkF m 22 #[.val (.int p0), .val (.int p1), .val (.int (35 : Int32)), .unset, .unset] [(.int (35 : Int32))])) rfl (by rw [hml]; rfl) (argsL := [(.int (35 : Int32))]) (rest := []) (lenOf owpd1 rfl) rfl (by show 2 * 0 + _ ≤ _; exact Nat.le_of_eq rfl) (hb hby at_22) (fun _ _ => ⟨rfl, e0, (by decide : 0 + 0 ≤ _), (by decide : 0 + 0 ≤ _)⟩)
  dsimp only [Pt.U, Pt.locs, Pt.cells, Pt.slots] at X1 l1 y1 z1 st1 hQ1
  subst l1 y1 z1
  obtain ⟨rfl, Nq1, e1⟩ := hQ1
  have N1 := Fr.app N0 Nq1
  obtain ⟨_, _, ⟨T2, L2, k2, n2⟩, -, X2, ⟨Lc2, hQ2, l2, y2, z2⟩, st2⟩ := Jvm.LawKit.callS X1 hx (y := (⟨"com/example/pathfix/pathfix/core/Kind", "ofMark", "(C)Lcom/example/pathfix/pathfix/core/Kind;"⟩ : MethodName)) hown (mvT hZ (hw _ (List.mem_of_getElem? (i := 10) rfl))) (mvT hZ (hw _ (List.mem_of_getElem? (i := 11) rfl))) (mvT hZ (hw _ (List.mem_of_getElem? (i := 8) rfl))) (mvT hZ (hw _ (List.mem_of_getElem? (i := 12) rfl))) (by decide) (backOf (W := 0) (rm3_35 l Z a0 hw [] n0 h0 O w_PROPERTY w__VALUES w_RESOURCE w_CLASS w_LITERAL k_w__VALUES W  ) hZ (hw _ (List.mem_of_getElem? (i := 12) rfl)) (hw _ (List.mem_of_getElem? (i := 8) rfl)) (by decide) (by decide)) (g := (mkF m 27 #[.val (.int p0), .val (.int p1), .val (.int (35 : Int32)), .val (.ref w_CLASS), .unset] [(.int (35 : Int32))])) rfl (by rw [hml]; rfl) (argsL := [(.int (35 : Int32))]) (rest := []) (lenOf owpd1 rfl) rfl (by show 2 * 0 + _ ≤ _; exact Nat.le_of_eq rfl) (hb hby at_27) (fun _ _ => ⟨rfl, e1, (by decide : 0 + 1 ≤ _), (by decide : 0 + 4 ≤ _)⟩)
  dsimp only [Pt.U, Pt.locs, Pt.cells, Pt.slots] at X2 l2 y2 z2 st2 hQ2
  subst l2 y2 z2
  obtain ⟨Nq2, hP2⟩ := hQ2
  have N2 := Fr.app N1 Nq2
  have ee2 : T2.heap = T2.heap := rfl
  obtain ⟨rfl, O2⟩ := hP2
  obtain ⟨cq3, kq3, q3a, q3b, q3c⟩ := isOf hZ ee2 (E_w_CLASS.ext O2.2)
  obtain ⟨_, _, ⟨T3, L3, k3, n3⟩, -, X3, ⟨Lc3, hQ3, l3, y3, z3⟩, st3⟩ := X2.virtualBack hx (y := (⟨"com/example/pathfix/pathfix/core/Kind", "mark", "()C"⟩ : MethodName)) (z := (⟨"com/example/pathfix/pathfix/core/Kind", "mark", "()C"⟩ : MethodName)) hown (mvT hZ (hw _ (List.mem_of_getElem? (i := 33) rfl))) (mvT hZ (hw _ (List.mem_of_getElem? (i := 34) rfl))) (notFace_of_selects (args := #[]) (mvT hZ (hw _ (List.mem_of_getElem? (i := 36) rfl)))) (mvT hZ (hw _ (List.mem_of_getElem? (i := 36) rfl))) (mvT hZ (hw _ (List.mem_of_getElem? (i := 35) rfl))) (by decide) (backOf (W := 0) (rm5_35 l Z a0 hw [] n0 T2.heap O2 w_PROPERTY w__VALUES w_RESOURCE w_CLASS w_LITERAL k_w__VALUES W  ) hZ (hw _ (List.mem_of_getElem? (i := 37) rfl)) (hw _ (List.mem_of_getElem? (i := 8) rfl)) (by decide) (by decide)) q3a q3c (g := (mkF m 47 #[.val (.int p0), .val (.int p1), .val (.int (35 : Int32)), .val (.ref w_CLASS), .val (.ref w_CLASS)] [(.ref w_CLASS)])) rfl (by rw [hml]; rfl) (Steps.refl _) (argsL := []) (rest := []) (lenOf owpd2 rfl) rfl (by show 2 * 0 + _ ≤ _; exact Nat.le_of_eq rfl) (hb hby at_47) (fun _ _ => ⟨rfl, ee2, (by decide : 1 + 0 ≤ _), (by decide : 4 + 0 ≤ _)⟩)
  dsimp only [Pt.U, Pt.locs, Pt.cells, Pt.slots] at X3 l3 y3 z3 st3 hQ3
  subst l3 y3 z3
  obtain ⟨rfl, Nq3, e3⟩ := hQ3
  have N3 := Fr.app N2 Nq3
  obtain ⟨fs, hr, hrun, hended, hW, hsame⟩ := X3.leave (v := some (.int (1 : Int32))) (fun h => by rw [Bd.returns] at h; cases h)
  refine ⟨_, _, pre0 _ ?_, hrun, hended, _, _, rfl, ?_, ⟨_, rfl⟩, hW, hsame.mono (by decide) (by decide)⟩
  · show Steps p.tables e below (s₁.setTop (mkF m 0 #[.val (.int p0), .val (.int p1), .unset, .unset, .unset] [])) _
    refine XS.iloadN X0.here hx rfl (hb hby at_0) rfl ?_
    show Steps p.tables e below (s₁.setTop (mkF m 1 #[.val (.int p0), .val (.int p1), .unset, .unset, .unset] [(.int p1)])) _
    refine XS.iconst X0.here hx rfl (hb hby at_1) ?_
    show Steps p.tables e below (s₁.setTop (mkF m 2 #[.val (.int p0), .val (.int p1), .unset, .unset, .unset] [(.int (1 : Int32)), (.int p1)])) _
    refine XS.iand X0.here hx rfl (hb hby at_2) rfl ?_
    show Steps p.tables e below (s₁.setTop (mkF m 3 #[.val (.int p0), .val (.int p1), .unset, .unset, .unset] [(.int (p1 &&& (1 : Int32)))])) _
    refine XS.ifYes X0.here hx rfl (pc0 := 3) (pc' := 18) rfl (hb hby at_3) rfl ((if0 _ _).trans (teq hp).1) (by decide) (by decide) ?_
    show Steps p.tables e below (s₁.setTop (mkF m 18 #[.val (.int p0), .val (.int p1), .unset, .unset, .unset] [])) _
    refine XS.iloadN X0.here hx rfl (hb hby at_18) rfl ?_
    show Steps p.tables e below (s₁.setTop (mkF m 19 #[.val (.int p0), .val (.int p1), .unset, .unset, .unset] [(.int p0)])) _
    refine XS.i2c X0.here hx rfl (hb hby at_19) rfl ?_
    show Steps p.tables e below (s₁.setTop (mkF m 20 #[.val (.int p0), .val (.int p1), .unset, .unset, .unset] [(.int (p0.toUInt32.toUInt16.toUInt32.toInt32))])) _
    rw [hi]
    show Steps p.tables e below (s₁.setTop (mkF m 20 #[.val (.int p0), .val (.int p1), .unset, .unset, .unset] [(.int (35 : Int32))])) _
    refine XS.istoreN X0.here hx rfl (hb hby at_20) rfl (l' := #[.val (.int p0), .val (.int p1), .val (.int (35 : Int32)), .unset, .unset]) rfl ?_
    show Steps p.tables e below (s₁.setTop (mkF m 21 #[.val (.int p0), .val (.int p1), .val (.int (35 : Int32)), .unset, .unset] [])) _
    refine XS.iloadN X0.here hx rfl (hb hby at_21) rfl ?_
    show Steps p.tables e below (s₁.setTop (mkF m 22 #[.val (.int p0), .val (.int p1), .val (.int (35 : Int32)), .unset, .unset] [(.int (35 : Int32))])) _
    refine st1 _ ?_
    show Steps p.tables e below (T1.setTop (mkF m 25 #[.val (.int p0), .val (.int p1), .val (.int (35 : Int32)), .unset, .unset] [(.ref w_CLASS)])) _
    refine XS.astoreN X1.here hx rfl (hb hby at_25) rfl rfl (l' := #[.val (.int p0), .val (.int p1), .val (.int (35 : Int32)), .val (.ref w_CLASS), .unset]) rfl ?_
    show Steps p.tables e below (T1.setTop (mkF m 26 #[.val (.int p0), .val (.int p1), .val (.int (35 : Int32)), .val (.ref w_CLASS), .unset] [])) _
    refine XS.iloadN X1.here hx rfl (hb hby at_26) rfl ?_
    show Steps p.tables e below (T1.setTop (mkF m 27 #[.val (.int p0), .val (.int p1), .val (.int (35 : Int32)), .val (.ref w_CLASS), .unset] [(.int (35 : Int32))])) _
    refine st2 _ ?_
    show Steps p.tables e below (T2.setTop (mkF m 30 #[.val (.int p0), .val (.int p1), .val (.int (35 : Int32)), .val (.ref w_CLASS), .unset] [(.ref w_CLASS)])) _
    refine XS.astore X2.here hx rfl (hb hby at_30) rfl rfl (l' := #[.val (.int p0), .val (.int p1), .val (.int (35 : Int32)), .val (.ref w_CLASS), .val (.ref w_CLASS)]) rfl ?_
    show Steps p.tables e below (T2.setTop (mkF m 32 #[.val (.int p0), .val (.int p1), .val (.int (35 : Int32)), .val (.ref w_CLASS), .val (.ref w_CLASS)] [])) _
    refine XS.aload X2.here hx rfl (hb hby at_32) rfl rfl ?_
    show Steps p.tables e below (T2.setTop (mkF m 34 #[.val (.int p0), .val (.int p1), .val (.int (35 : Int32)), .val (.ref w_CLASS), .val (.ref w_CLASS)] [(.ref w_CLASS)])) _
    refine XS.aloadN X2.here hx rfl (hb hby at_34) rfl rfl ?_
    show Steps p.tables e below (T2.setTop (mkF m 35 #[.val (.int p0), .val (.int p1), .val (.int (35 : Int32)), .val (.ref w_CLASS), .val (.ref w_CLASS)] [(.ref w_CLASS), (.ref w_CLASS)])) _
    refine Jvm.RoadKit.acmp (g := (mkF m 35 #[.val (.int p0), .val (.int p1), .val (.int (35 : Int32)), .val (.ref w_CLASS), .val (.ref w_CLASS)] [(.ref w_CLASS), (.ref w_CLASS)])) X2 hx rfl rfl rfl (pc0 := 35) (pc' := 40) (same := true) rfl (hb hby at_35) rfl (decide_eq_true rfl) (by decide) (by decide) ?_
    show Steps p.tables e below (T2.setTop (mkF m 40 #[.val (.int p0), .val (.int p1), .val (.int (35 : Int32)), .val (.ref w_CLASS), .val (.ref w_CLASS)] [])) _
    refine XS.aload X2.here hx rfl (hb hby at_40) rfl rfl ?_
    show Steps p.tables e below (T2.setTop (mkF m 42 #[.val (.int p0), .val (.int p1), .val (.int (35 : Int32)), .val (.ref w_CLASS), .val (.ref w_CLASS)] [(.ref w_CLASS)])) _
    refine XS.ifnullNo X2.here hx rfl (hb hby at_42) rfl ?_
    show Steps p.tables e below (T2.setTop (mkF m 45 #[.val (.int p0), .val (.int p1), .val (.int (35 : Int32)), .val (.ref w_CLASS), .val (.ref w_CLASS)] [])) _
    refine XS.aload X2.here hx rfl (hb hby at_45) rfl rfl ?_
    show Steps p.tables e below (T2.setTop (mkF m 47 #[.val (.int p0), .val (.int p1), .val (.int (35 : Int32)), .val (.ref w_CLASS), .val (.ref w_CLASS)] [(.ref w_CLASS)])) _
    refine st3.trans ?_
    show Steps p.tables e below (T3.setTop (mkF m 50 #[.val (.int p0), .val (.int p1), .val (.int (35 : Int32)), .val (.ref w_CLASS), .val (.ref w_CLASS)] [(.int (35 : Int32))])) _
    refine XS.iloadN X3.here hx rfl (hb hby at_50) rfl ?_
    show Steps p.tables e below (T3.setTop (mkF m 51 #[.val (.int p0), .val (.int p1), .val (.int (35 : Int32)), .val (.ref w_CLASS), .val (.ref w_CLASS)] [(.int (35 : Int32)), (.int (35 : Int32))])) _
    refine XS.icmpNo X3.here hx rfl (hb hby at_51) rfl (teq (by decide : (35 : Int32) = (35 : Int32))).2 ?_
    show Steps p.tables e below (T3.setTop (mkF m 54 #[.val (.int p0), .val (.int p1), .val (.int (35 : Int32)), .val (.ref w_CLASS), .val (.ref w_CLASS)] [])) _
    refine XS.iconst X3.here hx rfl (hb hby at_54) ?_
    show Steps p.tables e below (T3.setTop (mkF m 55 #[.val (.int p0), .val (.int p1), .val (.int (35 : Int32)), .val (.ref w_CLASS), .val (.ref w_CLASS)] [(.int (1 : Int32))])) _
    refine XS.goto X3.here hx rfl (pc0 := 55) (pc' := 59) rfl (hb hby at_55) (by decide) (by decide) ?_
    show Steps p.tables e below (T3.setTop (mkF m 59 #[.val (.int p0), .val (.int p1), .val (.int (35 : Int32)), .val (.ref w_CLASS), .val (.ref w_CLASS)] [(.int (1 : Int32))])) _
    exact retN X3 hx (t := .boolean) Bd.returns (by simp) (hb hby at_59) hr
  · have eF : (T3.setFrames fs).heap = T2.heap := e3
    exact ⟨N3, rfl⟩
set_option maxRecDepth 65536 in
set_option maxHeartbeats 40000000 in
theorem rm0_c34 (l : Launch) (Z : State) (a0 : Array Value) (hw : ∀ d ∈ tables_1, d.before a0 Z = true) (ws : List Jvm.Cond) (n0 : Nat) (h0 : Heap) (O : Old Z n0 h0) (w_PROPERTY : Addr) (w__VALUES : Addr) (w_RESOURCE : Addr) (w_CLASS : Addr) (w_LITERAL : Addr) (k_w__VALUES : ClassId) (W : OwW Z w_PROPERTY w__VALUES w_RESOURCE w_CLASS w_LITERAL k_w__VALUES) (p0 : Int32) (p1 : Int32) (hp : p1 &&& (1 : Int32) = (0 : Int32)) (hi : (p0.toUInt32.toUInt16.toUInt32.toInt32) = (34 : Int32)) :
    OwCon l x code maxLocals ret ws room_1 #[(.int p0), (.int p1)] Z h0 (OwP (fun v _ => v = some (.int 1)) n0) := by
  refine MetFree.of_bodySF (plainFor_of_name owpn0) hisR ?_
  intro p e s m args below meth c s₁ Bd hml0 hP hK
  obtain ⟨rfl, hZ, hh⟩ := hP
  have hx := Bd.exec
  have hby := Bd.bytes
  have hml : c.maxLocals = 5 := hml0
  have hown : s.vm.findClass "com/example/pathfix/pathfix/core/KindOfMarkPinLaw" = some m.cls := findClass_of_methodNamed Bd.named
  have hnm := (name_of_methodNamed Bd.named Bd.method).1
  have X0 : Stand p l e room_1 s m #[(.int p0), (.int p1)] below meth c s₁ [] 0 0 := Stand.of_body Bd
  have e0 : s₁.heap = h0 := by rw [← hh, Bd.state]; rfl
  have N0 := Fr.nil n0
  have WW := W
  obtain ⟨E_w_PROPERTY, E_w__VALUES, E_w_RESOURCE, E_w_CLASS, E_w_LITERAL, S_Kind_PROPERTY, S_Kind__VALUES, S_Kind_RESOURCE, S_Kind_CLASS, S_Kind_LITERAL, F_w_RESOURCE_mark, F_w_PROPERTY_mark, F_w_CLASS_mark, F_w_LITERAL_mark, V_w__VALUES, -⟩ := WW
  have ef : entryFrame m #[(.int p0), (.int p1)] maxLocals = mkF m 0 #[.val (.int p0), .val (.int p1), .unset, .unset, .unset] [] := by first | rfl | (simp [entryFrame, mkF, argsToLocals, Value.category, maxLocals]; done)
  have pre0 : ∀ t, Steps p.tables e below (s₁.setTop (mkF m 0 #[.val (.int p0), .val (.int p1), .unset, .unset, .unset] [])) t → Steps p.tables e below (s₁.setTop (entryFrame m #[(.int p0), (.int p1)] maxLocals)) t := fun t k => castTop ef k
  obtain ⟨_, _, ⟨T1, L1, k1, n1⟩, -, X1, ⟨Lc1, hQ1, l1, y1, z1⟩, st1⟩ := Jvm.LawKit.callS X0 hx (y := (⟨"com/example/pathfix/pathfix/core/KindOfMarkPinLaw", "reference", "(C)Lcom/example/pathfix/pathfix/core/Kind;"⟩ : MethodName)) hown (mvT hZ (hw _ (List.mem_of_getElem? (i := 4) rfl))) (mvT hZ (hw _ (List.mem_of_getElem? (i := 5) rfl))) (mvT hZ (hw _ (List.mem_of_getElem? (i := 2) rfl))) (mvT hZ (hw _ (List.mem_of_getElem? (i := 6) rfl))) (by decide) (backOf (W := 0) (rm2_34 l Z a0 hw [] n0 h0 O w_PROPERTY w__VALUES w_RESOURCE w_CLASS w_LITERAL k_w__VALUES W  ) hZ (hw _ (List.mem_of_getElem? (i := 6) rfl)) (hw _ (List.mem_of_getElem? (i := 2) rfl)) (by decide) (by decide)) (g := (mkF m 22 #[.val (.int p0), .val (.int p1), .val (.int (34 : Int32)), .unset, .unset] [(.int (34 : Int32))])) rfl (by rw [hml]; rfl) (argsL := [(.int (34 : Int32))]) (rest := []) (lenOf owpd1 rfl) rfl (by show 2 * 0 + _ ≤ _; exact Nat.le_of_eq rfl) (hb hby at_22) (fun _ _ => ⟨rfl, e0, (by decide : 0 + 0 ≤ _), (by decide : 0 + 0 ≤ _)⟩)
  dsimp only [Pt.U, Pt.locs, Pt.cells, Pt.slots] at X1 l1 y1 z1 st1 hQ1
  subst l1 y1 z1
  obtain ⟨rfl, Nq1, e1⟩ := hQ1
  have N1 := Fr.app N0 Nq1
  obtain ⟨_, _, ⟨T2, L2, k2, n2⟩, -, X2, ⟨Lc2, hQ2, l2, y2, z2⟩, st2⟩ := Jvm.LawKit.callS X1 hx (y := (⟨"com/example/pathfix/pathfix/core/Kind", "ofMark", "(C)Lcom/example/pathfix/pathfix/core/Kind;"⟩ : MethodName)) hown (mvT hZ (hw _ (List.mem_of_getElem? (i := 10) rfl))) (mvT hZ (hw _ (List.mem_of_getElem? (i := 11) rfl))) (mvT hZ (hw _ (List.mem_of_getElem? (i := 8) rfl))) (mvT hZ (hw _ (List.mem_of_getElem? (i := 12) rfl))) (by decide) (backOf (W := 0) (rm3_34 l Z a0 hw [] n0 h0 O w_PROPERTY w__VALUES w_RESOURCE w_CLASS w_LITERAL k_w__VALUES W  ) hZ (hw _ (List.mem_of_getElem? (i := 12) rfl)) (hw _ (List.mem_of_getElem? (i := 8) rfl)) (by decide) (by decide)) (g := (mkF m 27 #[.val (.int p0), .val (.int p1), .val (.int (34 : Int32)), .val (.ref w_LITERAL), .unset] [(.int (34 : Int32))])) rfl (by rw [hml]; rfl) (argsL := [(.int (34 : Int32))]) (rest := []) (lenOf owpd1 rfl) rfl (by show 2 * 0 + _ ≤ _; exact Nat.le_of_eq rfl) (hb hby at_27) (fun _ _ => ⟨rfl, e1, (by decide : 0 + 1 ≤ _), (by decide : 0 + 4 ≤ _)⟩)
  dsimp only [Pt.U, Pt.locs, Pt.cells, Pt.slots] at X2 l2 y2 z2 st2 hQ2
  subst l2 y2 z2
  obtain ⟨Nq2, hP2⟩ := hQ2
  have N2 := Fr.app N1 Nq2
  have ee2 : T2.heap = T2.heap := rfl
  obtain ⟨rfl, O2⟩ := hP2
  obtain ⟨cq3, kq3, q3a, q3b, q3c⟩ := isOf hZ ee2 (E_w_LITERAL.ext O2.2)
  obtain ⟨_, _, ⟨T3, L3, k3, n3⟩, -, X3, ⟨Lc3, hQ3, l3, y3, z3⟩, st3⟩ := X2.virtualBack hx (y := (⟨"com/example/pathfix/pathfix/core/Kind", "mark", "()C"⟩ : MethodName)) (z := (⟨"com/example/pathfix/pathfix/core/Kind", "mark", "()C"⟩ : MethodName)) hown (mvT hZ (hw _ (List.mem_of_getElem? (i := 33) rfl))) (mvT hZ (hw _ (List.mem_of_getElem? (i := 34) rfl))) (notFace_of_selects (args := #[]) (mvT hZ (hw _ (List.mem_of_getElem? (i := 36) rfl)))) (mvT hZ (hw _ (List.mem_of_getElem? (i := 36) rfl))) (mvT hZ (hw _ (List.mem_of_getElem? (i := 35) rfl))) (by decide) (backOf (W := 0) (rm5_34 l Z a0 hw [] n0 T2.heap O2 w_PROPERTY w__VALUES w_RESOURCE w_CLASS w_LITERAL k_w__VALUES W  ) hZ (hw _ (List.mem_of_getElem? (i := 37) rfl)) (hw _ (List.mem_of_getElem? (i := 8) rfl)) (by decide) (by decide)) q3a q3c (g := (mkF m 47 #[.val (.int p0), .val (.int p1), .val (.int (34 : Int32)), .val (.ref w_LITERAL), .val (.ref w_LITERAL)] [(.ref w_LITERAL)])) rfl (by rw [hml]; rfl) (Steps.refl _) (argsL := []) (rest := []) (lenOf owpd2 rfl) rfl (by show 2 * 0 + _ ≤ _; exact Nat.le_of_eq rfl) (hb hby at_47) (fun _ _ => ⟨rfl, ee2, (by decide : 1 + 0 ≤ _), (by decide : 4 + 0 ≤ _)⟩)
  dsimp only [Pt.U, Pt.locs, Pt.cells, Pt.slots] at X3 l3 y3 z3 st3 hQ3
  subst l3 y3 z3
  obtain ⟨rfl, Nq3, e3⟩ := hQ3
  have N3 := Fr.app N2 Nq3
  obtain ⟨fs, hr, hrun, hended, hW, hsame⟩ := X3.leave (v := some (.int (1 : Int32))) (fun h => by rw [Bd.returns] at h; cases h)
  refine ⟨_, _, pre0 _ ?_, hrun, hended, _, _, rfl, ?_, ⟨_, rfl⟩, hW, hsame.mono (by decide) (by decide)⟩
  · show Steps p.tables e below (s₁.setTop (mkF m 0 #[.val (.int p0), .val (.int p1), .unset, .unset, .unset] [])) _
    refine XS.iloadN X0.here hx rfl (hb hby at_0) rfl ?_
    show Steps p.tables e below (s₁.setTop (mkF m 1 #[.val (.int p0), .val (.int p1), .unset, .unset, .unset] [(.int p1)])) _
    refine XS.iconst X0.here hx rfl (hb hby at_1) ?_
    show Steps p.tables e below (s₁.setTop (mkF m 2 #[.val (.int p0), .val (.int p1), .unset, .unset, .unset] [(.int (1 : Int32)), (.int p1)])) _
    refine XS.iand X0.here hx rfl (hb hby at_2) rfl ?_
    show Steps p.tables e below (s₁.setTop (mkF m 3 #[.val (.int p0), .val (.int p1), .unset, .unset, .unset] [(.int (p1 &&& (1 : Int32)))])) _
    refine XS.ifYes X0.here hx rfl (pc0 := 3) (pc' := 18) rfl (hb hby at_3) rfl ((if0 _ _).trans (teq hp).1) (by decide) (by decide) ?_
    show Steps p.tables e below (s₁.setTop (mkF m 18 #[.val (.int p0), .val (.int p1), .unset, .unset, .unset] [])) _
    refine XS.iloadN X0.here hx rfl (hb hby at_18) rfl ?_
    show Steps p.tables e below (s₁.setTop (mkF m 19 #[.val (.int p0), .val (.int p1), .unset, .unset, .unset] [(.int p0)])) _
    refine XS.i2c X0.here hx rfl (hb hby at_19) rfl ?_
    show Steps p.tables e below (s₁.setTop (mkF m 20 #[.val (.int p0), .val (.int p1), .unset, .unset, .unset] [(.int (p0.toUInt32.toUInt16.toUInt32.toInt32))])) _
    rw [hi]
    show Steps p.tables e below (s₁.setTop (mkF m 20 #[.val (.int p0), .val (.int p1), .unset, .unset, .unset] [(.int (34 : Int32))])) _
    refine XS.istoreN X0.here hx rfl (hb hby at_20) rfl (l' := #[.val (.int p0), .val (.int p1), .val (.int (34 : Int32)), .unset, .unset]) rfl ?_
    show Steps p.tables e below (s₁.setTop (mkF m 21 #[.val (.int p0), .val (.int p1), .val (.int (34 : Int32)), .unset, .unset] [])) _
    refine XS.iloadN X0.here hx rfl (hb hby at_21) rfl ?_
    show Steps p.tables e below (s₁.setTop (mkF m 22 #[.val (.int p0), .val (.int p1), .val (.int (34 : Int32)), .unset, .unset] [(.int (34 : Int32))])) _
    refine st1 _ ?_
    show Steps p.tables e below (T1.setTop (mkF m 25 #[.val (.int p0), .val (.int p1), .val (.int (34 : Int32)), .unset, .unset] [(.ref w_LITERAL)])) _
    refine XS.astoreN X1.here hx rfl (hb hby at_25) rfl rfl (l' := #[.val (.int p0), .val (.int p1), .val (.int (34 : Int32)), .val (.ref w_LITERAL), .unset]) rfl ?_
    show Steps p.tables e below (T1.setTop (mkF m 26 #[.val (.int p0), .val (.int p1), .val (.int (34 : Int32)), .val (.ref w_LITERAL), .unset] [])) _
    refine XS.iloadN X1.here hx rfl (hb hby at_26) rfl ?_
    show Steps p.tables e below (T1.setTop (mkF m 27 #[.val (.int p0), .val (.int p1), .val (.int (34 : Int32)), .val (.ref w_LITERAL), .unset] [(.int (34 : Int32))])) _
    refine st2 _ ?_
    show Steps p.tables e below (T2.setTop (mkF m 30 #[.val (.int p0), .val (.int p1), .val (.int (34 : Int32)), .val (.ref w_LITERAL), .unset] [(.ref w_LITERAL)])) _
    refine XS.astore X2.here hx rfl (hb hby at_30) rfl rfl (l' := #[.val (.int p0), .val (.int p1), .val (.int (34 : Int32)), .val (.ref w_LITERAL), .val (.ref w_LITERAL)]) rfl ?_
    show Steps p.tables e below (T2.setTop (mkF m 32 #[.val (.int p0), .val (.int p1), .val (.int (34 : Int32)), .val (.ref w_LITERAL), .val (.ref w_LITERAL)] [])) _
    refine XS.aload X2.here hx rfl (hb hby at_32) rfl rfl ?_
    show Steps p.tables e below (T2.setTop (mkF m 34 #[.val (.int p0), .val (.int p1), .val (.int (34 : Int32)), .val (.ref w_LITERAL), .val (.ref w_LITERAL)] [(.ref w_LITERAL)])) _
    refine XS.aloadN X2.here hx rfl (hb hby at_34) rfl rfl ?_
    show Steps p.tables e below (T2.setTop (mkF m 35 #[.val (.int p0), .val (.int p1), .val (.int (34 : Int32)), .val (.ref w_LITERAL), .val (.ref w_LITERAL)] [(.ref w_LITERAL), (.ref w_LITERAL)])) _
    refine Jvm.RoadKit.acmp (g := (mkF m 35 #[.val (.int p0), .val (.int p1), .val (.int (34 : Int32)), .val (.ref w_LITERAL), .val (.ref w_LITERAL)] [(.ref w_LITERAL), (.ref w_LITERAL)])) X2 hx rfl rfl rfl (pc0 := 35) (pc' := 40) (same := true) rfl (hb hby at_35) rfl (decide_eq_true rfl) (by decide) (by decide) ?_
    show Steps p.tables e below (T2.setTop (mkF m 40 #[.val (.int p0), .val (.int p1), .val (.int (34 : Int32)), .val (.ref w_LITERAL), .val (.ref w_LITERAL)] [])) _
    refine XS.aload X2.here hx rfl (hb hby at_40) rfl rfl ?_
    show Steps p.tables e below (T2.setTop (mkF m 42 #[.val (.int p0), .val (.int p1), .val (.int (34 : Int32)), .val (.ref w_LITERAL), .val (.ref w_LITERAL)] [(.ref w_LITERAL)])) _
    refine XS.ifnullNo X2.here hx rfl (hb hby at_42) rfl ?_
    show Steps p.tables e below (T2.setTop (mkF m 45 #[.val (.int p0), .val (.int p1), .val (.int (34 : Int32)), .val (.ref w_LITERAL), .val (.ref w_LITERAL)] [])) _
    refine XS.aload X2.here hx rfl (hb hby at_45) rfl rfl ?_
    show Steps p.tables e below (T2.setTop (mkF m 47 #[.val (.int p0), .val (.int p1), .val (.int (34 : Int32)), .val (.ref w_LITERAL), .val (.ref w_LITERAL)] [(.ref w_LITERAL)])) _
    refine st3.trans ?_
    show Steps p.tables e below (T3.setTop (mkF m 50 #[.val (.int p0), .val (.int p1), .val (.int (34 : Int32)), .val (.ref w_LITERAL), .val (.ref w_LITERAL)] [(.int (34 : Int32))])) _
    refine XS.iloadN X3.here hx rfl (hb hby at_50) rfl ?_
    show Steps p.tables e below (T3.setTop (mkF m 51 #[.val (.int p0), .val (.int p1), .val (.int (34 : Int32)), .val (.ref w_LITERAL), .val (.ref w_LITERAL)] [(.int (34 : Int32)), (.int (34 : Int32))])) _
    refine XS.icmpNo X3.here hx rfl (hb hby at_51) rfl (teq (by decide : (34 : Int32) = (34 : Int32))).2 ?_
    show Steps p.tables e below (T3.setTop (mkF m 54 #[.val (.int p0), .val (.int p1), .val (.int (34 : Int32)), .val (.ref w_LITERAL), .val (.ref w_LITERAL)] [])) _
    refine XS.iconst X3.here hx rfl (hb hby at_54) ?_
    show Steps p.tables e below (T3.setTop (mkF m 55 #[.val (.int p0), .val (.int p1), .val (.int (34 : Int32)), .val (.ref w_LITERAL), .val (.ref w_LITERAL)] [(.int (1 : Int32))])) _
    refine XS.goto X3.here hx rfl (pc0 := 55) (pc' := 59) rfl (hb hby at_55) (by decide) (by decide) ?_
    show Steps p.tables e below (T3.setTop (mkF m 59 #[.val (.int p0), .val (.int p1), .val (.int (34 : Int32)), .val (.ref w_LITERAL), .val (.ref w_LITERAL)] [(.int (1 : Int32))])) _
    exact retN X3 hx (t := .boolean) Bd.returns (by simp) (hb hby at_59) hr
  · have eF : (T3.setFrames fs).heap = T2.heap := e3
    exact ⟨N3, rfl⟩
set_option maxRecDepth 65536 in
set_option maxHeartbeats 40000000 in
theorem rm0_co (l : Launch) (Z : State) (a0 : Array Value) (hw : ∀ d ∈ tables_1, d.before a0 Z = true) (ws : List Jvm.Cond) (n0 : Nat) (h0 : Heap) (O : Old Z n0 h0) (w_PROPERTY : Addr) (w__VALUES : Addr) (w_RESOURCE : Addr) (w_CLASS : Addr) (w_LITERAL : Addr) (k_w__VALUES : ClassId) (W : OwW Z w_PROPERTY w__VALUES w_RESOURCE w_CLASS w_LITERAL k_w__VALUES) (p0 : Int32) (p1 : Int32) (hp : p1 &&& (1 : Int32) = (0 : Int32)) (cx : Int32) (hi : (p0.toUInt32.toUInt16.toUInt32.toInt32) = cx) (h36 : ¬ cx = (36 : Int32)) (h43 : ¬ cx = (43 : Int32)) (h35 : ¬ cx = (35 : Int32)) (h34 : ¬ cx = (34 : Int32)) :
    OwCon l x code maxLocals ret ws room_1 #[(.int p0), (.int p1)] Z h0 (OwP (fun v _ => v = some (.int 1)) n0) := by
  refine MetFree.of_bodySF (plainFor_of_name owpn0) hisR ?_
  intro p e s m args below meth c s₁ Bd hml0 hP hK
  obtain ⟨rfl, hZ, hh⟩ := hP
  have hx := Bd.exec
  have hby := Bd.bytes
  have hml : c.maxLocals = 5 := hml0
  have hown : s.vm.findClass "com/example/pathfix/pathfix/core/KindOfMarkPinLaw" = some m.cls := findClass_of_methodNamed Bd.named
  have hnm := (name_of_methodNamed Bd.named Bd.method).1
  have X0 : Stand p l e room_1 s m #[(.int p0), (.int p1)] below meth c s₁ [] 0 0 := Stand.of_body Bd
  have e0 : s₁.heap = h0 := by rw [← hh, Bd.state]; rfl
  have N0 := Fr.nil n0
  have WW := W
  obtain ⟨E_w_PROPERTY, E_w__VALUES, E_w_RESOURCE, E_w_CLASS, E_w_LITERAL, S_Kind_PROPERTY, S_Kind__VALUES, S_Kind_RESOURCE, S_Kind_CLASS, S_Kind_LITERAL, F_w_RESOURCE_mark, F_w_PROPERTY_mark, F_w_CLASS_mark, F_w_LITERAL_mark, V_w__VALUES, -⟩ := WW
  have ef : entryFrame m #[(.int p0), (.int p1)] maxLocals = mkF m 0 #[.val (.int p0), .val (.int p1), .unset, .unset, .unset] [] := by first | rfl | (simp [entryFrame, mkF, argsToLocals, Value.category, maxLocals]; done)
  have pre0 : ∀ t, Steps p.tables e below (s₁.setTop (mkF m 0 #[.val (.int p0), .val (.int p1), .unset, .unset, .unset] [])) t → Steps p.tables e below (s₁.setTop (entryFrame m #[(.int p0), (.int p1)] maxLocals)) t := fun t k => castTop ef k
  obtain ⟨_, _, ⟨T1, L1, k1, n1⟩, -, X1, ⟨Lc1, hQ1, l1, y1, z1⟩, st1⟩ := Jvm.LawKit.callS X0 hx (y := (⟨"com/example/pathfix/pathfix/core/KindOfMarkPinLaw", "reference", "(C)Lcom/example/pathfix/pathfix/core/Kind;"⟩ : MethodName)) hown (mvT hZ (hw _ (List.mem_of_getElem? (i := 4) rfl))) (mvT hZ (hw _ (List.mem_of_getElem? (i := 5) rfl))) (mvT hZ (hw _ (List.mem_of_getElem? (i := 2) rfl))) (mvT hZ (hw _ (List.mem_of_getElem? (i := 6) rfl))) (by decide) (backOf (W := 0) (rm2_o l Z a0 hw [] n0 h0 O w_PROPERTY w__VALUES w_RESOURCE w_CLASS w_LITERAL k_w__VALUES W cx h36 h43 h35 h34) hZ (hw _ (List.mem_of_getElem? (i := 6) rfl)) (hw _ (List.mem_of_getElem? (i := 2) rfl)) (by decide) (by decide)) (g := (mkF m 22 #[.val (.int p0), .val (.int p1), .val (.int cx), .unset, .unset] [(.int cx)])) rfl (by rw [hml]; rfl) (argsL := [(.int cx)]) (rest := []) (lenOf owpd1 rfl) rfl (by show 2 * 0 + _ ≤ _; exact Nat.le_of_eq rfl) (hb hby at_22) (fun _ _ => ⟨rfl, e0, (by decide : 0 + 0 ≤ _), (by decide : 0 + 0 ≤ _)⟩)
  dsimp only [Pt.U, Pt.locs, Pt.cells, Pt.slots] at X1 l1 y1 z1 st1 hQ1
  subst l1 y1 z1
  obtain ⟨rfl, Nq1, e1⟩ := hQ1
  have N1 := Fr.app N0 Nq1
  obtain ⟨_, _, ⟨T2, L2, k2, n2⟩, -, X2, ⟨Lc2, hQ2, l2, y2, z2⟩, st2⟩ := Jvm.LawKit.callS X1 hx (y := (⟨"com/example/pathfix/pathfix/core/Kind", "ofMark", "(C)Lcom/example/pathfix/pathfix/core/Kind;"⟩ : MethodName)) hown (mvT hZ (hw _ (List.mem_of_getElem? (i := 10) rfl))) (mvT hZ (hw _ (List.mem_of_getElem? (i := 11) rfl))) (mvT hZ (hw _ (List.mem_of_getElem? (i := 8) rfl))) (mvT hZ (hw _ (List.mem_of_getElem? (i := 12) rfl))) (by decide) (backOf (W := 0) (rm3_o l Z a0 hw [] n0 h0 O w_PROPERTY w__VALUES w_RESOURCE w_CLASS w_LITERAL k_w__VALUES W cx h36 h43 h35 h34) hZ (hw _ (List.mem_of_getElem? (i := 12) rfl)) (hw _ (List.mem_of_getElem? (i := 8) rfl)) (by decide) (by decide)) (g := (mkF m 27 #[.val (.int p0), .val (.int p1), .val (.int cx), .val .null, .unset] [(.int cx)])) rfl (by rw [hml]; rfl) (argsL := [(.int cx)]) (rest := []) (lenOf owpd1 rfl) rfl (by show 2 * 0 + _ ≤ _; exact Nat.le_of_eq rfl) (hb hby at_27) (fun _ _ => ⟨rfl, e1, (by decide : 0 + 1 ≤ _), (by decide : 0 + 4 ≤ _)⟩)
  dsimp only [Pt.U, Pt.locs, Pt.cells, Pt.slots] at X2 l2 y2 z2 st2 hQ2
  subst l2 y2 z2
  obtain ⟨Nq2, hP2⟩ := hQ2
  have N2 := Fr.app N1 Nq2
  have ee2 : T2.heap = T2.heap := rfl
  obtain ⟨rfl, O2⟩ := hP2
  obtain ⟨fs, hr, hrun, hended, hW, hsame⟩ := X2.leave (v := some (.int (1 : Int32))) (fun h => by rw [Bd.returns] at h; cases h)
  refine ⟨_, _, pre0 _ ?_, hrun, hended, _, _, rfl, ?_, ⟨_, rfl⟩, hW, hsame.mono (by decide) (by decide)⟩
  · show Steps p.tables e below (s₁.setTop (mkF m 0 #[.val (.int p0), .val (.int p1), .unset, .unset, .unset] [])) _
    refine XS.iloadN X0.here hx rfl (hb hby at_0) rfl ?_
    show Steps p.tables e below (s₁.setTop (mkF m 1 #[.val (.int p0), .val (.int p1), .unset, .unset, .unset] [(.int p1)])) _
    refine XS.iconst X0.here hx rfl (hb hby at_1) ?_
    show Steps p.tables e below (s₁.setTop (mkF m 2 #[.val (.int p0), .val (.int p1), .unset, .unset, .unset] [(.int (1 : Int32)), (.int p1)])) _
    refine XS.iand X0.here hx rfl (hb hby at_2) rfl ?_
    show Steps p.tables e below (s₁.setTop (mkF m 3 #[.val (.int p0), .val (.int p1), .unset, .unset, .unset] [(.int (p1 &&& (1 : Int32)))])) _
    refine XS.ifYes X0.here hx rfl (pc0 := 3) (pc' := 18) rfl (hb hby at_3) rfl ((if0 _ _).trans (teq hp).1) (by decide) (by decide) ?_
    show Steps p.tables e below (s₁.setTop (mkF m 18 #[.val (.int p0), .val (.int p1), .unset, .unset, .unset] [])) _
    refine XS.iloadN X0.here hx rfl (hb hby at_18) rfl ?_
    show Steps p.tables e below (s₁.setTop (mkF m 19 #[.val (.int p0), .val (.int p1), .unset, .unset, .unset] [(.int p0)])) _
    refine XS.i2c X0.here hx rfl (hb hby at_19) rfl ?_
    show Steps p.tables e below (s₁.setTop (mkF m 20 #[.val (.int p0), .val (.int p1), .unset, .unset, .unset] [(.int (p0.toUInt32.toUInt16.toUInt32.toInt32))])) _
    rw [hi]
    show Steps p.tables e below (s₁.setTop (mkF m 20 #[.val (.int p0), .val (.int p1), .unset, .unset, .unset] [(.int cx)])) _
    refine XS.istoreN X0.here hx rfl (hb hby at_20) rfl (l' := #[.val (.int p0), .val (.int p1), .val (.int cx), .unset, .unset]) rfl ?_
    show Steps p.tables e below (s₁.setTop (mkF m 21 #[.val (.int p0), .val (.int p1), .val (.int cx), .unset, .unset] [])) _
    refine XS.iloadN X0.here hx rfl (hb hby at_21) rfl ?_
    show Steps p.tables e below (s₁.setTop (mkF m 22 #[.val (.int p0), .val (.int p1), .val (.int cx), .unset, .unset] [(.int cx)])) _
    refine st1 _ ?_
    show Steps p.tables e below (T1.setTop (mkF m 25 #[.val (.int p0), .val (.int p1), .val (.int cx), .unset, .unset] [.null])) _
    refine XS.astoreN X1.here hx rfl (hb hby at_25) rfl rfl (l' := #[.val (.int p0), .val (.int p1), .val (.int cx), .val .null, .unset]) rfl ?_
    show Steps p.tables e below (T1.setTop (mkF m 26 #[.val (.int p0), .val (.int p1), .val (.int cx), .val .null, .unset] [])) _
    refine XS.iloadN X1.here hx rfl (hb hby at_26) rfl ?_
    show Steps p.tables e below (T1.setTop (mkF m 27 #[.val (.int p0), .val (.int p1), .val (.int cx), .val .null, .unset] [(.int cx)])) _
    refine st2 _ ?_
    show Steps p.tables e below (T2.setTop (mkF m 30 #[.val (.int p0), .val (.int p1), .val (.int cx), .val .null, .unset] [.null])) _
    refine XS.astore X2.here hx rfl (hb hby at_30) rfl rfl (l' := #[.val (.int p0), .val (.int p1), .val (.int cx), .val .null, .val .null]) rfl ?_
    show Steps p.tables e below (T2.setTop (mkF m 32 #[.val (.int p0), .val (.int p1), .val (.int cx), .val .null, .val .null] [])) _
    refine XS.aload X2.here hx rfl (hb hby at_32) rfl rfl ?_
    show Steps p.tables e below (T2.setTop (mkF m 34 #[.val (.int p0), .val (.int p1), .val (.int cx), .val .null, .val .null] [.null])) _
    refine XS.aloadN X2.here hx rfl (hb hby at_34) rfl rfl ?_
    show Steps p.tables e below (T2.setTop (mkF m 35 #[.val (.int p0), .val (.int p1), .val (.int cx), .val .null, .val .null] [.null, .null])) _
    refine Jvm.RoadKit.acmp (g := (mkF m 35 #[.val (.int p0), .val (.int p1), .val (.int cx), .val .null, .val .null] [.null, .null])) X2 hx rfl rfl rfl (pc0 := 35) (pc' := 40) (same := true) rfl (hb hby at_35) rfl (decide_eq_true rfl) (by decide) (by decide) ?_
    show Steps p.tables e below (T2.setTop (mkF m 40 #[.val (.int p0), .val (.int p1), .val (.int cx), .val .null, .val .null] [])) _
    refine XS.aload X2.here hx rfl (hb hby at_40) rfl rfl ?_
    show Steps p.tables e below (T2.setTop (mkF m 42 #[.val (.int p0), .val (.int p1), .val (.int cx), .val .null, .val .null] [.null])) _
    refine XS.ifnullYes X2.here hx rfl (pc0 := 42) (pc' := 54) rfl (hb hby at_42) rfl (by decide) (by decide) ?_
    show Steps p.tables e below (T2.setTop (mkF m 54 #[.val (.int p0), .val (.int p1), .val (.int cx), .val .null, .val .null] [])) _
    refine XS.iconst X2.here hx rfl (hb hby at_54) ?_
    show Steps p.tables e below (T2.setTop (mkF m 55 #[.val (.int p0), .val (.int p1), .val (.int cx), .val .null, .val .null] [(.int (1 : Int32))])) _
    refine XS.goto X2.here hx rfl (pc0 := 55) (pc' := 59) rfl (hb hby at_55) (by decide) (by decide) ?_
    show Steps p.tables e below (T2.setTop (mkF m 59 #[.val (.int p0), .val (.int p1), .val (.int cx), .val .null, .val .null] [(.int (1 : Int32))])) _
    exact retN X2 hx (t := .boolean) Bd.returns (by simp) (hb hby at_59) hr
  · have eF : (T2.setFrames fs).heap = T2.heap := ee2
    exact ⟨N2, rfl⟩
set_option maxRecDepth 65536 in
set_option maxHeartbeats 40000000 in
theorem rm0_d0 (l : Launch) (Z : State) (a0 : Array Value) (hw : ∀ d ∈ tables_1, d.before a0 Z = true) (ws : List Jvm.Cond) (n0 : Nat) (h0 : Heap) (O : Old Z n0 h0) (w_PROPERTY : Addr) (w__VALUES : Addr) (w_RESOURCE : Addr) (w_CLASS : Addr) (w_LITERAL : Addr) (k_w__VALUES : ClassId) (W : OwW Z w_PROPERTY w__VALUES w_RESOURCE w_CLASS w_LITERAL k_w__VALUES) (p0 : Int32) (p1 : Int32) (hp : ¬ p1 &&& (1 : Int32) = (0 : Int32)) (hi : ((p1.toUInt32 >>> ((1 : Int32) &&& 31).toUInt32).toInt32 &&& (3 : Int32)) = (0 : Int32)) :
    OwCon l x code maxLocals ret ws room_1 #[(.int p0), (.int p1)] Z h0 (OwP (fun v _ => v = some (.int 1)) n0) := by
  refine MetFree.of_bodySF (plainFor_of_name owpn0) hisR ?_
  intro p e s m args below meth c s₁ Bd hml0 hP hK
  obtain ⟨rfl, hZ, hh⟩ := hP
  have hx := Bd.exec
  have hby := Bd.bytes
  have hml : c.maxLocals = 5 := hml0
  have hown : s.vm.findClass "com/example/pathfix/pathfix/core/KindOfMarkPinLaw" = some m.cls := findClass_of_methodNamed Bd.named
  have hnm := (name_of_methodNamed Bd.named Bd.method).1
  have X0 : Stand p l e room_1 s m #[(.int p0), (.int p1)] below meth c s₁ [] 0 0 := Stand.of_body Bd
  have e0 : s₁.heap = h0 := by rw [← hh, Bd.state]; rfl
  have N0 := Fr.nil n0
  have WW := W
  obtain ⟨E_w_PROPERTY, E_w__VALUES, E_w_RESOURCE, E_w_CLASS, E_w_LITERAL, S_Kind_PROPERTY, S_Kind__VALUES, S_Kind_RESOURCE, S_Kind_CLASS, S_Kind_LITERAL, F_w_RESOURCE_mark, F_w_PROPERTY_mark, F_w_CLASS_mark, F_w_LITERAL_mark, V_w__VALUES, -⟩ := WW
  have ef : entryFrame m #[(.int p0), (.int p1)] maxLocals = mkF m 0 #[.val (.int p0), .val (.int p1), .unset, .unset, .unset] [] := by first | rfl | (simp [entryFrame, mkF, argsToLocals, Value.category, maxLocals]; done)
  have pre0 : ∀ t, Steps p.tables e below (s₁.setTop (mkF m 0 #[.val (.int p0), .val (.int p1), .unset, .unset, .unset] [])) t → Steps p.tables e below (s₁.setTop (entryFrame m #[(.int p0), (.int p1)] maxLocals)) t := fun t k => castTop ef k
  obtain ⟨_, _, ⟨T1, L1, k1, n1⟩, -, X1, ⟨Lc1, hQ1, l1, y1, z1⟩, st1⟩ := Jvm.LawKit.callS X0 hx (y := (⟨"com/example/pathfix/pathfix/core/KindOfMarkPinLaw", "drawMark", "(I)C"⟩ : MethodName)) hown (mvT hZ (hw _ (List.mem_of_getElem? (i := 0) rfl))) (mvT hZ (hw _ (List.mem_of_getElem? (i := 1) rfl))) (mvT hZ (hw _ (List.mem_of_getElem? (i := 2) rfl))) (mvT hZ (hw _ (List.mem_of_getElem? (i := 3) rfl))) (by decide) (backOf (W := 0) (rm1_0 l Z a0 hw [] n0 h0 O w_PROPERTY w__VALUES w_RESOURCE w_CLASS w_LITERAL k_w__VALUES W  ) hZ (hw _ (List.mem_of_getElem? (i := 3) rfl)) (hw _ (List.mem_of_getElem? (i := 2) rfl)) (by decide) (by decide)) (g := (mkF m 11 #[.val (.int p0), .val (.int p1), .unset, .unset, .unset] [(.int (0 : Int32))])) rfl (by rw [hml]; rfl) (argsL := [(.int (0 : Int32))]) (rest := []) (lenOf owpd3 rfl) rfl (by show 2 * 0 + _ ≤ _; exact Nat.le_of_eq rfl) (hb hby at_11) (fun _ _ => ⟨rfl, e0, (by decide : 0 + 0 ≤ _), (by decide : 0 + 0 ≤ _)⟩)
  dsimp only [Pt.U, Pt.locs, Pt.cells, Pt.slots] at X1 l1 y1 z1 st1 hQ1
  subst l1 y1 z1
  obtain ⟨rfl, Nq1, e1⟩ := hQ1
  have N1 := Fr.app N0 Nq1
  obtain ⟨_, _, ⟨T2, L2, k2, n2⟩, -, X2, ⟨Lc2, hQ2, l2, y2, z2⟩, st2⟩ := Jvm.LawKit.callS X1 hx (y := (⟨"com/example/pathfix/pathfix/core/KindOfMarkPinLaw", "reference", "(C)Lcom/example/pathfix/pathfix/core/Kind;"⟩ : MethodName)) hown (mvT hZ (hw _ (List.mem_of_getElem? (i := 4) rfl))) (mvT hZ (hw _ (List.mem_of_getElem? (i := 5) rfl))) (mvT hZ (hw _ (List.mem_of_getElem? (i := 2) rfl))) (mvT hZ (hw _ (List.mem_of_getElem? (i := 6) rfl))) (by decide) (backOf (W := 0) (rm2_36 l Z a0 hw [] n0 h0 O w_PROPERTY w__VALUES w_RESOURCE w_CLASS w_LITERAL k_w__VALUES W  ) hZ (hw _ (List.mem_of_getElem? (i := 6) rfl)) (hw _ (List.mem_of_getElem? (i := 2) rfl)) (by decide) (by decide)) (g := (mkF m 22 #[.val (.int p0), .val (.int p1), .val (.int (36 : Int32)), .unset, .unset] [(.int (36 : Int32))])) rfl (by rw [hml]; rfl) (argsL := [(.int (36 : Int32))]) (rest := []) (lenOf owpd1 rfl) rfl (by show 2 * 0 + _ ≤ _; exact Nat.le_of_eq rfl) (hb hby at_22) (fun _ _ => ⟨rfl, e1, (by decide : 0 + 0 ≤ _), (by decide : 0 + 0 ≤ _)⟩)
  dsimp only [Pt.U, Pt.locs, Pt.cells, Pt.slots] at X2 l2 y2 z2 st2 hQ2
  subst l2 y2 z2
  obtain ⟨rfl, Nq2, e2⟩ := hQ2
  have N2 := Fr.app N1 Nq2
  obtain ⟨_, _, ⟨T3, L3, k3, n3⟩, -, X3, ⟨Lc3, hQ3, l3, y3, z3⟩, st3⟩ := Jvm.LawKit.callS X2 hx (y := (⟨"com/example/pathfix/pathfix/core/Kind", "ofMark", "(C)Lcom/example/pathfix/pathfix/core/Kind;"⟩ : MethodName)) hown (mvT hZ (hw _ (List.mem_of_getElem? (i := 10) rfl))) (mvT hZ (hw _ (List.mem_of_getElem? (i := 11) rfl))) (mvT hZ (hw _ (List.mem_of_getElem? (i := 8) rfl))) (mvT hZ (hw _ (List.mem_of_getElem? (i := 12) rfl))) (by decide) (backOf (W := 0) (rm3_36 l Z a0 hw [] n0 h0 O w_PROPERTY w__VALUES w_RESOURCE w_CLASS w_LITERAL k_w__VALUES W  ) hZ (hw _ (List.mem_of_getElem? (i := 12) rfl)) (hw _ (List.mem_of_getElem? (i := 8) rfl)) (by decide) (by decide)) (g := (mkF m 27 #[.val (.int p0), .val (.int p1), .val (.int (36 : Int32)), .val (.ref w_RESOURCE), .unset] [(.int (36 : Int32))])) rfl (by rw [hml]; rfl) (argsL := [(.int (36 : Int32))]) (rest := []) (lenOf owpd1 rfl) rfl (by show 2 * 0 + _ ≤ _; exact Nat.le_of_eq rfl) (hb hby at_27) (fun _ _ => ⟨rfl, e2, (by decide : 0 + 1 ≤ _), (by decide : 0 + 4 ≤ _)⟩)
  dsimp only [Pt.U, Pt.locs, Pt.cells, Pt.slots] at X3 l3 y3 z3 st3 hQ3
  subst l3 y3 z3
  obtain ⟨Nq3, hP3⟩ := hQ3
  have N3 := Fr.app N2 Nq3
  have ee3 : T3.heap = T3.heap := rfl
  obtain ⟨rfl, O3⟩ := hP3
  obtain ⟨cq4, kq4, q4a, q4b, q4c⟩ := isOf hZ ee3 (E_w_RESOURCE.ext O3.2)
  obtain ⟨_, _, ⟨T4, L4, k4, n4⟩, -, X4, ⟨Lc4, hQ4, l4, y4, z4⟩, st4⟩ := X3.virtualBack hx (y := (⟨"com/example/pathfix/pathfix/core/Kind", "mark", "()C"⟩ : MethodName)) (z := (⟨"com/example/pathfix/pathfix/core/Kind", "mark", "()C"⟩ : MethodName)) hown (mvT hZ (hw _ (List.mem_of_getElem? (i := 33) rfl))) (mvT hZ (hw _ (List.mem_of_getElem? (i := 34) rfl))) (notFace_of_selects (args := #[]) (mvT hZ (hw _ (List.mem_of_getElem? (i := 36) rfl)))) (mvT hZ (hw _ (List.mem_of_getElem? (i := 36) rfl))) (mvT hZ (hw _ (List.mem_of_getElem? (i := 35) rfl))) (by decide) (backOf (W := 0) (rm5_36 l Z a0 hw [] n0 T3.heap O3 w_PROPERTY w__VALUES w_RESOURCE w_CLASS w_LITERAL k_w__VALUES W  ) hZ (hw _ (List.mem_of_getElem? (i := 37) rfl)) (hw _ (List.mem_of_getElem? (i := 8) rfl)) (by decide) (by decide)) q4a q4c (g := (mkF m 47 #[.val (.int p0), .val (.int p1), .val (.int (36 : Int32)), .val (.ref w_RESOURCE), .val (.ref w_RESOURCE)] [(.ref w_RESOURCE)])) rfl (by rw [hml]; rfl) (Steps.refl _) (argsL := []) (rest := []) (lenOf owpd2 rfl) rfl (by show 2 * 0 + _ ≤ _; exact Nat.le_of_eq rfl) (hb hby at_47) (fun _ _ => ⟨rfl, ee3, (by decide : 1 + 0 ≤ _), (by decide : 4 + 0 ≤ _)⟩)
  dsimp only [Pt.U, Pt.locs, Pt.cells, Pt.slots] at X4 l4 y4 z4 st4 hQ4
  subst l4 y4 z4
  obtain ⟨rfl, Nq4, e4⟩ := hQ4
  have N4 := Fr.app N3 Nq4
  obtain ⟨fs, hr, hrun, hended, hW, hsame⟩ := X4.leave (v := some (.int (1 : Int32))) (fun h => by rw [Bd.returns] at h; cases h)
  refine ⟨_, _, pre0 _ ?_, hrun, hended, _, _, rfl, ?_, ⟨_, rfl⟩, hW, hsame.mono (by decide) (by decide)⟩
  · show Steps p.tables e below (s₁.setTop (mkF m 0 #[.val (.int p0), .val (.int p1), .unset, .unset, .unset] [])) _
    refine XS.iloadN X0.here hx rfl (hb hby at_0) rfl ?_
    show Steps p.tables e below (s₁.setTop (mkF m 1 #[.val (.int p0), .val (.int p1), .unset, .unset, .unset] [(.int p1)])) _
    refine XS.iconst X0.here hx rfl (hb hby at_1) ?_
    show Steps p.tables e below (s₁.setTop (mkF m 2 #[.val (.int p0), .val (.int p1), .unset, .unset, .unset] [(.int (1 : Int32)), (.int p1)])) _
    refine XS.iand X0.here hx rfl (hb hby at_2) rfl ?_
    show Steps p.tables e below (s₁.setTop (mkF m 3 #[.val (.int p0), .val (.int p1), .unset, .unset, .unset] [(.int (p1 &&& (1 : Int32)))])) _
    refine XS.ifNo X0.here hx rfl (hb hby at_3) rfl ((if0 _ _).trans (feq hp).1) ?_
    show Steps p.tables e below (s₁.setTop (mkF m 6 #[.val (.int p0), .val (.int p1), .unset, .unset, .unset] [])) _
    refine XS.iloadN X0.here hx rfl (hb hby at_6) rfl ?_
    show Steps p.tables e below (s₁.setTop (mkF m 7 #[.val (.int p0), .val (.int p1), .unset, .unset, .unset] [(.int p1)])) _
    refine XS.iconst X0.here hx rfl (hb hby at_7) ?_
    show Steps p.tables e below (s₁.setTop (mkF m 8 #[.val (.int p0), .val (.int p1), .unset, .unset, .unset] [(.int (1 : Int32)), (.int p1)])) _
    refine XS.iushr X0.here hx rfl (hb hby at_8) rfl ?_
    show Steps p.tables e below (s₁.setTop (mkF m 9 #[.val (.int p0), .val (.int p1), .unset, .unset, .unset] [(.int ((p1.toUInt32 >>> ((1 : Int32) &&& 31).toUInt32).toInt32))])) _
    refine XS.iconst X0.here hx rfl (hb hby at_9) ?_
    show Steps p.tables e below (s₁.setTop (mkF m 10 #[.val (.int p0), .val (.int p1), .unset, .unset, .unset] [(.int (3 : Int32)), (.int ((p1.toUInt32 >>> ((1 : Int32) &&& 31).toUInt32).toInt32))])) _
    refine XS.iand X0.here hx rfl (hb hby at_10) rfl ?_
    show Steps p.tables e below (s₁.setTop (mkF m 11 #[.val (.int p0), .val (.int p1), .unset, .unset, .unset] [(.int (((p1.toUInt32 >>> ((1 : Int32) &&& 31).toUInt32).toInt32) &&& (3 : Int32)))])) _
    rw [hi]
    show Steps p.tables e below (s₁.setTop (mkF m 11 #[.val (.int p0), .val (.int p1), .unset, .unset, .unset] [(.int (0 : Int32))])) _
    refine st1 _ ?_
    show Steps p.tables e below (T1.setTop (mkF m 14 #[.val (.int p0), .val (.int p1), .unset, .unset, .unset] [(.int (36 : Int32))])) _
    refine XS.istoreN X1.here hx rfl (hb hby at_14) rfl (l' := #[.val (.int p0), .val (.int p1), .val (.int (36 : Int32)), .unset, .unset]) rfl ?_
    show Steps p.tables e below (T1.setTop (mkF m 15 #[.val (.int p0), .val (.int p1), .val (.int (36 : Int32)), .unset, .unset] [])) _
    refine XS.goto X1.here hx rfl (pc0 := 15) (pc' := 21) rfl (hb hby at_15) (by decide) (by decide) ?_
    show Steps p.tables e below (T1.setTop (mkF m 21 #[.val (.int p0), .val (.int p1), .val (.int (36 : Int32)), .unset, .unset] [])) _
    refine XS.iloadN X1.here hx rfl (hb hby at_21) rfl ?_
    show Steps p.tables e below (T1.setTop (mkF m 22 #[.val (.int p0), .val (.int p1), .val (.int (36 : Int32)), .unset, .unset] [(.int (36 : Int32))])) _
    refine st2 _ ?_
    show Steps p.tables e below (T2.setTop (mkF m 25 #[.val (.int p0), .val (.int p1), .val (.int (36 : Int32)), .unset, .unset] [(.ref w_RESOURCE)])) _
    refine XS.astoreN X2.here hx rfl (hb hby at_25) rfl rfl (l' := #[.val (.int p0), .val (.int p1), .val (.int (36 : Int32)), .val (.ref w_RESOURCE), .unset]) rfl ?_
    show Steps p.tables e below (T2.setTop (mkF m 26 #[.val (.int p0), .val (.int p1), .val (.int (36 : Int32)), .val (.ref w_RESOURCE), .unset] [])) _
    refine XS.iloadN X2.here hx rfl (hb hby at_26) rfl ?_
    show Steps p.tables e below (T2.setTop (mkF m 27 #[.val (.int p0), .val (.int p1), .val (.int (36 : Int32)), .val (.ref w_RESOURCE), .unset] [(.int (36 : Int32))])) _
    refine st3 _ ?_
    show Steps p.tables e below (T3.setTop (mkF m 30 #[.val (.int p0), .val (.int p1), .val (.int (36 : Int32)), .val (.ref w_RESOURCE), .unset] [(.ref w_RESOURCE)])) _
    refine XS.astore X3.here hx rfl (hb hby at_30) rfl rfl (l' := #[.val (.int p0), .val (.int p1), .val (.int (36 : Int32)), .val (.ref w_RESOURCE), .val (.ref w_RESOURCE)]) rfl ?_
    show Steps p.tables e below (T3.setTop (mkF m 32 #[.val (.int p0), .val (.int p1), .val (.int (36 : Int32)), .val (.ref w_RESOURCE), .val (.ref w_RESOURCE)] [])) _
    refine XS.aload X3.here hx rfl (hb hby at_32) rfl rfl ?_
    show Steps p.tables e below (T3.setTop (mkF m 34 #[.val (.int p0), .val (.int p1), .val (.int (36 : Int32)), .val (.ref w_RESOURCE), .val (.ref w_RESOURCE)] [(.ref w_RESOURCE)])) _
    refine XS.aloadN X3.here hx rfl (hb hby at_34) rfl rfl ?_
    show Steps p.tables e below (T3.setTop (mkF m 35 #[.val (.int p0), .val (.int p1), .val (.int (36 : Int32)), .val (.ref w_RESOURCE), .val (.ref w_RESOURCE)] [(.ref w_RESOURCE), (.ref w_RESOURCE)])) _
    refine Jvm.RoadKit.acmp (g := (mkF m 35 #[.val (.int p0), .val (.int p1), .val (.int (36 : Int32)), .val (.ref w_RESOURCE), .val (.ref w_RESOURCE)] [(.ref w_RESOURCE), (.ref w_RESOURCE)])) X3 hx rfl rfl rfl (pc0 := 35) (pc' := 40) (same := true) rfl (hb hby at_35) rfl (decide_eq_true rfl) (by decide) (by decide) ?_
    show Steps p.tables e below (T3.setTop (mkF m 40 #[.val (.int p0), .val (.int p1), .val (.int (36 : Int32)), .val (.ref w_RESOURCE), .val (.ref w_RESOURCE)] [])) _
    refine XS.aload X3.here hx rfl (hb hby at_40) rfl rfl ?_
    show Steps p.tables e below (T3.setTop (mkF m 42 #[.val (.int p0), .val (.int p1), .val (.int (36 : Int32)), .val (.ref w_RESOURCE), .val (.ref w_RESOURCE)] [(.ref w_RESOURCE)])) _
    refine XS.ifnullNo X3.here hx rfl (hb hby at_42) rfl ?_
    show Steps p.tables e below (T3.setTop (mkF m 45 #[.val (.int p0), .val (.int p1), .val (.int (36 : Int32)), .val (.ref w_RESOURCE), .val (.ref w_RESOURCE)] [])) _
    refine XS.aload X3.here hx rfl (hb hby at_45) rfl rfl ?_
    show Steps p.tables e below (T3.setTop (mkF m 47 #[.val (.int p0), .val (.int p1), .val (.int (36 : Int32)), .val (.ref w_RESOURCE), .val (.ref w_RESOURCE)] [(.ref w_RESOURCE)])) _
    refine st4.trans ?_
    show Steps p.tables e below (T4.setTop (mkF m 50 #[.val (.int p0), .val (.int p1), .val (.int (36 : Int32)), .val (.ref w_RESOURCE), .val (.ref w_RESOURCE)] [(.int (36 : Int32))])) _
    refine XS.iloadN X4.here hx rfl (hb hby at_50) rfl ?_
    show Steps p.tables e below (T4.setTop (mkF m 51 #[.val (.int p0), .val (.int p1), .val (.int (36 : Int32)), .val (.ref w_RESOURCE), .val (.ref w_RESOURCE)] [(.int (36 : Int32)), (.int (36 : Int32))])) _
    refine XS.icmpNo X4.here hx rfl (hb hby at_51) rfl (teq (by decide : (36 : Int32) = (36 : Int32))).2 ?_
    show Steps p.tables e below (T4.setTop (mkF m 54 #[.val (.int p0), .val (.int p1), .val (.int (36 : Int32)), .val (.ref w_RESOURCE), .val (.ref w_RESOURCE)] [])) _
    refine XS.iconst X4.here hx rfl (hb hby at_54) ?_
    show Steps p.tables e below (T4.setTop (mkF m 55 #[.val (.int p0), .val (.int p1), .val (.int (36 : Int32)), .val (.ref w_RESOURCE), .val (.ref w_RESOURCE)] [(.int (1 : Int32))])) _
    refine XS.goto X4.here hx rfl (pc0 := 55) (pc' := 59) rfl (hb hby at_55) (by decide) (by decide) ?_
    show Steps p.tables e below (T4.setTop (mkF m 59 #[.val (.int p0), .val (.int p1), .val (.int (36 : Int32)), .val (.ref w_RESOURCE), .val (.ref w_RESOURCE)] [(.int (1 : Int32))])) _
    exact retN X4 hx (t := .boolean) Bd.returns (by simp) (hb hby at_59) hr
  · have eF : (T4.setFrames fs).heap = T3.heap := e4
    exact ⟨N4, rfl⟩
set_option maxRecDepth 65536 in
set_option maxHeartbeats 40000000 in
theorem rm0_d1 (l : Launch) (Z : State) (a0 : Array Value) (hw : ∀ d ∈ tables_1, d.before a0 Z = true) (ws : List Jvm.Cond) (n0 : Nat) (h0 : Heap) (O : Old Z n0 h0) (w_PROPERTY : Addr) (w__VALUES : Addr) (w_RESOURCE : Addr) (w_CLASS : Addr) (w_LITERAL : Addr) (k_w__VALUES : ClassId) (W : OwW Z w_PROPERTY w__VALUES w_RESOURCE w_CLASS w_LITERAL k_w__VALUES) (p0 : Int32) (p1 : Int32) (hp : ¬ p1 &&& (1 : Int32) = (0 : Int32)) (hi : ((p1.toUInt32 >>> ((1 : Int32) &&& 31).toUInt32).toInt32 &&& (3 : Int32)) = (1 : Int32)) :
    OwCon l x code maxLocals ret ws room_1 #[(.int p0), (.int p1)] Z h0 (OwP (fun v _ => v = some (.int 1)) n0) := by
  refine MetFree.of_bodySF (plainFor_of_name owpn0) hisR ?_
  intro p e s m args below meth c s₁ Bd hml0 hP hK
  obtain ⟨rfl, hZ, hh⟩ := hP
  have hx := Bd.exec
  have hby := Bd.bytes
  have hml : c.maxLocals = 5 := hml0
  have hown : s.vm.findClass "com/example/pathfix/pathfix/core/KindOfMarkPinLaw" = some m.cls := findClass_of_methodNamed Bd.named
  have hnm := (name_of_methodNamed Bd.named Bd.method).1
  have X0 : Stand p l e room_1 s m #[(.int p0), (.int p1)] below meth c s₁ [] 0 0 := Stand.of_body Bd
  have e0 : s₁.heap = h0 := by rw [← hh, Bd.state]; rfl
  have N0 := Fr.nil n0
  have WW := W
  obtain ⟨E_w_PROPERTY, E_w__VALUES, E_w_RESOURCE, E_w_CLASS, E_w_LITERAL, S_Kind_PROPERTY, S_Kind__VALUES, S_Kind_RESOURCE, S_Kind_CLASS, S_Kind_LITERAL, F_w_RESOURCE_mark, F_w_PROPERTY_mark, F_w_CLASS_mark, F_w_LITERAL_mark, V_w__VALUES, -⟩ := WW
  have ef : entryFrame m #[(.int p0), (.int p1)] maxLocals = mkF m 0 #[.val (.int p0), .val (.int p1), .unset, .unset, .unset] [] := by first | rfl | (simp [entryFrame, mkF, argsToLocals, Value.category, maxLocals]; done)
  have pre0 : ∀ t, Steps p.tables e below (s₁.setTop (mkF m 0 #[.val (.int p0), .val (.int p1), .unset, .unset, .unset] [])) t → Steps p.tables e below (s₁.setTop (entryFrame m #[(.int p0), (.int p1)] maxLocals)) t := fun t k => castTop ef k
  obtain ⟨_, _, ⟨T1, L1, k1, n1⟩, -, X1, ⟨Lc1, hQ1, l1, y1, z1⟩, st1⟩ := Jvm.LawKit.callS X0 hx (y := (⟨"com/example/pathfix/pathfix/core/KindOfMarkPinLaw", "drawMark", "(I)C"⟩ : MethodName)) hown (mvT hZ (hw _ (List.mem_of_getElem? (i := 0) rfl))) (mvT hZ (hw _ (List.mem_of_getElem? (i := 1) rfl))) (mvT hZ (hw _ (List.mem_of_getElem? (i := 2) rfl))) (mvT hZ (hw _ (List.mem_of_getElem? (i := 3) rfl))) (by decide) (backOf (W := 0) (rm1_1 l Z a0 hw [] n0 h0 O w_PROPERTY w__VALUES w_RESOURCE w_CLASS w_LITERAL k_w__VALUES W  ) hZ (hw _ (List.mem_of_getElem? (i := 3) rfl)) (hw _ (List.mem_of_getElem? (i := 2) rfl)) (by decide) (by decide)) (g := (mkF m 11 #[.val (.int p0), .val (.int p1), .unset, .unset, .unset] [(.int (1 : Int32))])) rfl (by rw [hml]; rfl) (argsL := [(.int (1 : Int32))]) (rest := []) (lenOf owpd3 rfl) rfl (by show 2 * 0 + _ ≤ _; exact Nat.le_of_eq rfl) (hb hby at_11) (fun _ _ => ⟨rfl, e0, (by decide : 0 + 0 ≤ _), (by decide : 0 + 0 ≤ _)⟩)
  dsimp only [Pt.U, Pt.locs, Pt.cells, Pt.slots] at X1 l1 y1 z1 st1 hQ1
  subst l1 y1 z1
  obtain ⟨rfl, Nq1, e1⟩ := hQ1
  have N1 := Fr.app N0 Nq1
  obtain ⟨_, _, ⟨T2, L2, k2, n2⟩, -, X2, ⟨Lc2, hQ2, l2, y2, z2⟩, st2⟩ := Jvm.LawKit.callS X1 hx (y := (⟨"com/example/pathfix/pathfix/core/KindOfMarkPinLaw", "reference", "(C)Lcom/example/pathfix/pathfix/core/Kind;"⟩ : MethodName)) hown (mvT hZ (hw _ (List.mem_of_getElem? (i := 4) rfl))) (mvT hZ (hw _ (List.mem_of_getElem? (i := 5) rfl))) (mvT hZ (hw _ (List.mem_of_getElem? (i := 2) rfl))) (mvT hZ (hw _ (List.mem_of_getElem? (i := 6) rfl))) (by decide) (backOf (W := 0) (rm2_43 l Z a0 hw [] n0 h0 O w_PROPERTY w__VALUES w_RESOURCE w_CLASS w_LITERAL k_w__VALUES W  ) hZ (hw _ (List.mem_of_getElem? (i := 6) rfl)) (hw _ (List.mem_of_getElem? (i := 2) rfl)) (by decide) (by decide)) (g := (mkF m 22 #[.val (.int p0), .val (.int p1), .val (.int (43 : Int32)), .unset, .unset] [(.int (43 : Int32))])) rfl (by rw [hml]; rfl) (argsL := [(.int (43 : Int32))]) (rest := []) (lenOf owpd1 rfl) rfl (by show 2 * 0 + _ ≤ _; exact Nat.le_of_eq rfl) (hb hby at_22) (fun _ _ => ⟨rfl, e1, (by decide : 0 + 0 ≤ _), (by decide : 0 + 0 ≤ _)⟩)
  dsimp only [Pt.U, Pt.locs, Pt.cells, Pt.slots] at X2 l2 y2 z2 st2 hQ2
  subst l2 y2 z2
  obtain ⟨rfl, Nq2, e2⟩ := hQ2
  have N2 := Fr.app N1 Nq2
  obtain ⟨_, _, ⟨T3, L3, k3, n3⟩, -, X3, ⟨Lc3, hQ3, l3, y3, z3⟩, st3⟩ := Jvm.LawKit.callS X2 hx (y := (⟨"com/example/pathfix/pathfix/core/Kind", "ofMark", "(C)Lcom/example/pathfix/pathfix/core/Kind;"⟩ : MethodName)) hown (mvT hZ (hw _ (List.mem_of_getElem? (i := 10) rfl))) (mvT hZ (hw _ (List.mem_of_getElem? (i := 11) rfl))) (mvT hZ (hw _ (List.mem_of_getElem? (i := 8) rfl))) (mvT hZ (hw _ (List.mem_of_getElem? (i := 12) rfl))) (by decide) (backOf (W := 0) (rm3_43 l Z a0 hw [] n0 h0 O w_PROPERTY w__VALUES w_RESOURCE w_CLASS w_LITERAL k_w__VALUES W  ) hZ (hw _ (List.mem_of_getElem? (i := 12) rfl)) (hw _ (List.mem_of_getElem? (i := 8) rfl)) (by decide) (by decide)) (g := (mkF m 27 #[.val (.int p0), .val (.int p1), .val (.int (43 : Int32)), .val (.ref w_PROPERTY), .unset] [(.int (43 : Int32))])) rfl (by rw [hml]; rfl) (argsL := [(.int (43 : Int32))]) (rest := []) (lenOf owpd1 rfl) rfl (by show 2 * 0 + _ ≤ _; exact Nat.le_of_eq rfl) (hb hby at_27) (fun _ _ => ⟨rfl, e2, (by decide : 0 + 1 ≤ _), (by decide : 0 + 4 ≤ _)⟩)
  dsimp only [Pt.U, Pt.locs, Pt.cells, Pt.slots] at X3 l3 y3 z3 st3 hQ3
  subst l3 y3 z3
  obtain ⟨Nq3, hP3⟩ := hQ3
  have N3 := Fr.app N2 Nq3
  have ee3 : T3.heap = T3.heap := rfl
  obtain ⟨rfl, O3⟩ := hP3
  obtain ⟨cq4, kq4, q4a, q4b, q4c⟩ := isOf hZ ee3 (E_w_PROPERTY.ext O3.2)
  obtain ⟨_, _, ⟨T4, L4, k4, n4⟩, -, X4, ⟨Lc4, hQ4, l4, y4, z4⟩, st4⟩ := X3.virtualBack hx (y := (⟨"com/example/pathfix/pathfix/core/Kind", "mark", "()C"⟩ : MethodName)) (z := (⟨"com/example/pathfix/pathfix/core/Kind", "mark", "()C"⟩ : MethodName)) hown (mvT hZ (hw _ (List.mem_of_getElem? (i := 33) rfl))) (mvT hZ (hw _ (List.mem_of_getElem? (i := 34) rfl))) (notFace_of_selects (args := #[]) (mvT hZ (hw _ (List.mem_of_getElem? (i := 36) rfl)))) (mvT hZ (hw _ (List.mem_of_getElem? (i := 36) rfl))) (mvT hZ (hw _ (List.mem_of_getElem? (i := 35) rfl))) (by decide) (backOf (W := 0) (rm5_43 l Z a0 hw [] n0 T3.heap O3 w_PROPERTY w__VALUES w_RESOURCE w_CLASS w_LITERAL k_w__VALUES W  ) hZ (hw _ (List.mem_of_getElem? (i := 37) rfl)) (hw _ (List.mem_of_getElem? (i := 8) rfl)) (by decide) (by decide)) q4a q4c (g := (mkF m 47 #[.val (.int p0), .val (.int p1), .val (.int (43 : Int32)), .val (.ref w_PROPERTY), .val (.ref w_PROPERTY)] [(.ref w_PROPERTY)])) rfl (by rw [hml]; rfl) (Steps.refl _) (argsL := []) (rest := []) (lenOf owpd2 rfl) rfl (by show 2 * 0 + _ ≤ _; exact Nat.le_of_eq rfl) (hb hby at_47) (fun _ _ => ⟨rfl, ee3, (by decide : 1 + 0 ≤ _), (by decide : 4 + 0 ≤ _)⟩)
  dsimp only [Pt.U, Pt.locs, Pt.cells, Pt.slots] at X4 l4 y4 z4 st4 hQ4
  subst l4 y4 z4
  obtain ⟨rfl, Nq4, e4⟩ := hQ4
  have N4 := Fr.app N3 Nq4
  obtain ⟨fs, hr, hrun, hended, hW, hsame⟩ := X4.leave (v := some (.int (1 : Int32))) (fun h => by rw [Bd.returns] at h; cases h)
  refine ⟨_, _, pre0 _ ?_, hrun, hended, _, _, rfl, ?_, ⟨_, rfl⟩, hW, hsame.mono (by decide) (by decide)⟩
  · show Steps p.tables e below (s₁.setTop (mkF m 0 #[.val (.int p0), .val (.int p1), .unset, .unset, .unset] [])) _
    refine XS.iloadN X0.here hx rfl (hb hby at_0) rfl ?_
    show Steps p.tables e below (s₁.setTop (mkF m 1 #[.val (.int p0), .val (.int p1), .unset, .unset, .unset] [(.int p1)])) _
    refine XS.iconst X0.here hx rfl (hb hby at_1) ?_
    show Steps p.tables e below (s₁.setTop (mkF m 2 #[.val (.int p0), .val (.int p1), .unset, .unset, .unset] [(.int (1 : Int32)), (.int p1)])) _
    refine XS.iand X0.here hx rfl (hb hby at_2) rfl ?_
    show Steps p.tables e below (s₁.setTop (mkF m 3 #[.val (.int p0), .val (.int p1), .unset, .unset, .unset] [(.int (p1 &&& (1 : Int32)))])) _
    refine XS.ifNo X0.here hx rfl (hb hby at_3) rfl ((if0 _ _).trans (feq hp).1) ?_
    show Steps p.tables e below (s₁.setTop (mkF m 6 #[.val (.int p0), .val (.int p1), .unset, .unset, .unset] [])) _
    refine XS.iloadN X0.here hx rfl (hb hby at_6) rfl ?_
    show Steps p.tables e below (s₁.setTop (mkF m 7 #[.val (.int p0), .val (.int p1), .unset, .unset, .unset] [(.int p1)])) _
    refine XS.iconst X0.here hx rfl (hb hby at_7) ?_
    show Steps p.tables e below (s₁.setTop (mkF m 8 #[.val (.int p0), .val (.int p1), .unset, .unset, .unset] [(.int (1 : Int32)), (.int p1)])) _
    refine XS.iushr X0.here hx rfl (hb hby at_8) rfl ?_
    show Steps p.tables e below (s₁.setTop (mkF m 9 #[.val (.int p0), .val (.int p1), .unset, .unset, .unset] [(.int ((p1.toUInt32 >>> ((1 : Int32) &&& 31).toUInt32).toInt32))])) _
    refine XS.iconst X0.here hx rfl (hb hby at_9) ?_
    show Steps p.tables e below (s₁.setTop (mkF m 10 #[.val (.int p0), .val (.int p1), .unset, .unset, .unset] [(.int (3 : Int32)), (.int ((p1.toUInt32 >>> ((1 : Int32) &&& 31).toUInt32).toInt32))])) _
    refine XS.iand X0.here hx rfl (hb hby at_10) rfl ?_
    show Steps p.tables e below (s₁.setTop (mkF m 11 #[.val (.int p0), .val (.int p1), .unset, .unset, .unset] [(.int (((p1.toUInt32 >>> ((1 : Int32) &&& 31).toUInt32).toInt32) &&& (3 : Int32)))])) _
    rw [hi]
    show Steps p.tables e below (s₁.setTop (mkF m 11 #[.val (.int p0), .val (.int p1), .unset, .unset, .unset] [(.int (1 : Int32))])) _
    refine st1 _ ?_
    show Steps p.tables e below (T1.setTop (mkF m 14 #[.val (.int p0), .val (.int p1), .unset, .unset, .unset] [(.int (43 : Int32))])) _
    refine XS.istoreN X1.here hx rfl (hb hby at_14) rfl (l' := #[.val (.int p0), .val (.int p1), .val (.int (43 : Int32)), .unset, .unset]) rfl ?_
    show Steps p.tables e below (T1.setTop (mkF m 15 #[.val (.int p0), .val (.int p1), .val (.int (43 : Int32)), .unset, .unset] [])) _
    refine XS.goto X1.here hx rfl (pc0 := 15) (pc' := 21) rfl (hb hby at_15) (by decide) (by decide) ?_
    show Steps p.tables e below (T1.setTop (mkF m 21 #[.val (.int p0), .val (.int p1), .val (.int (43 : Int32)), .unset, .unset] [])) _
    refine XS.iloadN X1.here hx rfl (hb hby at_21) rfl ?_
    show Steps p.tables e below (T1.setTop (mkF m 22 #[.val (.int p0), .val (.int p1), .val (.int (43 : Int32)), .unset, .unset] [(.int (43 : Int32))])) _
    refine st2 _ ?_
    show Steps p.tables e below (T2.setTop (mkF m 25 #[.val (.int p0), .val (.int p1), .val (.int (43 : Int32)), .unset, .unset] [(.ref w_PROPERTY)])) _
    refine XS.astoreN X2.here hx rfl (hb hby at_25) rfl rfl (l' := #[.val (.int p0), .val (.int p1), .val (.int (43 : Int32)), .val (.ref w_PROPERTY), .unset]) rfl ?_
    show Steps p.tables e below (T2.setTop (mkF m 26 #[.val (.int p0), .val (.int p1), .val (.int (43 : Int32)), .val (.ref w_PROPERTY), .unset] [])) _
    refine XS.iloadN X2.here hx rfl (hb hby at_26) rfl ?_
    show Steps p.tables e below (T2.setTop (mkF m 27 #[.val (.int p0), .val (.int p1), .val (.int (43 : Int32)), .val (.ref w_PROPERTY), .unset] [(.int (43 : Int32))])) _
    refine st3 _ ?_
    show Steps p.tables e below (T3.setTop (mkF m 30 #[.val (.int p0), .val (.int p1), .val (.int (43 : Int32)), .val (.ref w_PROPERTY), .unset] [(.ref w_PROPERTY)])) _
    refine XS.astore X3.here hx rfl (hb hby at_30) rfl rfl (l' := #[.val (.int p0), .val (.int p1), .val (.int (43 : Int32)), .val (.ref w_PROPERTY), .val (.ref w_PROPERTY)]) rfl ?_
    show Steps p.tables e below (T3.setTop (mkF m 32 #[.val (.int p0), .val (.int p1), .val (.int (43 : Int32)), .val (.ref w_PROPERTY), .val (.ref w_PROPERTY)] [])) _
    refine XS.aload X3.here hx rfl (hb hby at_32) rfl rfl ?_
    show Steps p.tables e below (T3.setTop (mkF m 34 #[.val (.int p0), .val (.int p1), .val (.int (43 : Int32)), .val (.ref w_PROPERTY), .val (.ref w_PROPERTY)] [(.ref w_PROPERTY)])) _
    refine XS.aloadN X3.here hx rfl (hb hby at_34) rfl rfl ?_
    show Steps p.tables e below (T3.setTop (mkF m 35 #[.val (.int p0), .val (.int p1), .val (.int (43 : Int32)), .val (.ref w_PROPERTY), .val (.ref w_PROPERTY)] [(.ref w_PROPERTY), (.ref w_PROPERTY)])) _
    refine Jvm.RoadKit.acmp (g := (mkF m 35 #[.val (.int p0), .val (.int p1), .val (.int (43 : Int32)), .val (.ref w_PROPERTY), .val (.ref w_PROPERTY)] [(.ref w_PROPERTY), (.ref w_PROPERTY)])) X3 hx rfl rfl rfl (pc0 := 35) (pc' := 40) (same := true) rfl (hb hby at_35) rfl (decide_eq_true rfl) (by decide) (by decide) ?_
    show Steps p.tables e below (T3.setTop (mkF m 40 #[.val (.int p0), .val (.int p1), .val (.int (43 : Int32)), .val (.ref w_PROPERTY), .val (.ref w_PROPERTY)] [])) _
    refine XS.aload X3.here hx rfl (hb hby at_40) rfl rfl ?_
    show Steps p.tables e below (T3.setTop (mkF m 42 #[.val (.int p0), .val (.int p1), .val (.int (43 : Int32)), .val (.ref w_PROPERTY), .val (.ref w_PROPERTY)] [(.ref w_PROPERTY)])) _
    refine XS.ifnullNo X3.here hx rfl (hb hby at_42) rfl ?_
    show Steps p.tables e below (T3.setTop (mkF m 45 #[.val (.int p0), .val (.int p1), .val (.int (43 : Int32)), .val (.ref w_PROPERTY), .val (.ref w_PROPERTY)] [])) _
    refine XS.aload X3.here hx rfl (hb hby at_45) rfl rfl ?_
    show Steps p.tables e below (T3.setTop (mkF m 47 #[.val (.int p0), .val (.int p1), .val (.int (43 : Int32)), .val (.ref w_PROPERTY), .val (.ref w_PROPERTY)] [(.ref w_PROPERTY)])) _
    refine st4.trans ?_
    show Steps p.tables e below (T4.setTop (mkF m 50 #[.val (.int p0), .val (.int p1), .val (.int (43 : Int32)), .val (.ref w_PROPERTY), .val (.ref w_PROPERTY)] [(.int (43 : Int32))])) _
    refine XS.iloadN X4.here hx rfl (hb hby at_50) rfl ?_
    show Steps p.tables e below (T4.setTop (mkF m 51 #[.val (.int p0), .val (.int p1), .val (.int (43 : Int32)), .val (.ref w_PROPERTY), .val (.ref w_PROPERTY)] [(.int (43 : Int32)), (.int (43 : Int32))])) _
    refine XS.icmpNo X4.here hx rfl (hb hby at_51) rfl (teq (by decide : (43 : Int32) = (43 : Int32))).2 ?_
    show Steps p.tables e below (T4.setTop (mkF m 54 #[.val (.int p0), .val (.int p1), .val (.int (43 : Int32)), .val (.ref w_PROPERTY), .val (.ref w_PROPERTY)] [])) _
    refine XS.iconst X4.here hx rfl (hb hby at_54) ?_
    show Steps p.tables e below (T4.setTop (mkF m 55 #[.val (.int p0), .val (.int p1), .val (.int (43 : Int32)), .val (.ref w_PROPERTY), .val (.ref w_PROPERTY)] [(.int (1 : Int32))])) _
    refine XS.goto X4.here hx rfl (pc0 := 55) (pc' := 59) rfl (hb hby at_55) (by decide) (by decide) ?_
    show Steps p.tables e below (T4.setTop (mkF m 59 #[.val (.int p0), .val (.int p1), .val (.int (43 : Int32)), .val (.ref w_PROPERTY), .val (.ref w_PROPERTY)] [(.int (1 : Int32))])) _
    exact retN X4 hx (t := .boolean) Bd.returns (by simp) (hb hby at_59) hr
  · have eF : (T4.setFrames fs).heap = T3.heap := e4
    exact ⟨N4, rfl⟩
set_option maxRecDepth 65536 in
set_option maxHeartbeats 40000000 in
theorem rm0_d2 (l : Launch) (Z : State) (a0 : Array Value) (hw : ∀ d ∈ tables_1, d.before a0 Z = true) (ws : List Jvm.Cond) (n0 : Nat) (h0 : Heap) (O : Old Z n0 h0) (w_PROPERTY : Addr) (w__VALUES : Addr) (w_RESOURCE : Addr) (w_CLASS : Addr) (w_LITERAL : Addr) (k_w__VALUES : ClassId) (W : OwW Z w_PROPERTY w__VALUES w_RESOURCE w_CLASS w_LITERAL k_w__VALUES) (p0 : Int32) (p1 : Int32) (hp : ¬ p1 &&& (1 : Int32) = (0 : Int32)) (hi : ((p1.toUInt32 >>> ((1 : Int32) &&& 31).toUInt32).toInt32 &&& (3 : Int32)) = (2 : Int32)) :
    OwCon l x code maxLocals ret ws room_1 #[(.int p0), (.int p1)] Z h0 (OwP (fun v _ => v = some (.int 1)) n0) := by
  refine MetFree.of_bodySF (plainFor_of_name owpn0) hisR ?_
  intro p e s m args below meth c s₁ Bd hml0 hP hK
  obtain ⟨rfl, hZ, hh⟩ := hP
  have hx := Bd.exec
  have hby := Bd.bytes
  have hml : c.maxLocals = 5 := hml0
  have hown : s.vm.findClass "com/example/pathfix/pathfix/core/KindOfMarkPinLaw" = some m.cls := findClass_of_methodNamed Bd.named
  have hnm := (name_of_methodNamed Bd.named Bd.method).1
  have X0 : Stand p l e room_1 s m #[(.int p0), (.int p1)] below meth c s₁ [] 0 0 := Stand.of_body Bd
  have e0 : s₁.heap = h0 := by rw [← hh, Bd.state]; rfl
  have N0 := Fr.nil n0
  have WW := W
  obtain ⟨E_w_PROPERTY, E_w__VALUES, E_w_RESOURCE, E_w_CLASS, E_w_LITERAL, S_Kind_PROPERTY, S_Kind__VALUES, S_Kind_RESOURCE, S_Kind_CLASS, S_Kind_LITERAL, F_w_RESOURCE_mark, F_w_PROPERTY_mark, F_w_CLASS_mark, F_w_LITERAL_mark, V_w__VALUES, -⟩ := WW
  have ef : entryFrame m #[(.int p0), (.int p1)] maxLocals = mkF m 0 #[.val (.int p0), .val (.int p1), .unset, .unset, .unset] [] := by first | rfl | (simp [entryFrame, mkF, argsToLocals, Value.category, maxLocals]; done)
  have pre0 : ∀ t, Steps p.tables e below (s₁.setTop (mkF m 0 #[.val (.int p0), .val (.int p1), .unset, .unset, .unset] [])) t → Steps p.tables e below (s₁.setTop (entryFrame m #[(.int p0), (.int p1)] maxLocals)) t := fun t k => castTop ef k
  obtain ⟨_, _, ⟨T1, L1, k1, n1⟩, -, X1, ⟨Lc1, hQ1, l1, y1, z1⟩, st1⟩ := Jvm.LawKit.callS X0 hx (y := (⟨"com/example/pathfix/pathfix/core/KindOfMarkPinLaw", "drawMark", "(I)C"⟩ : MethodName)) hown (mvT hZ (hw _ (List.mem_of_getElem? (i := 0) rfl))) (mvT hZ (hw _ (List.mem_of_getElem? (i := 1) rfl))) (mvT hZ (hw _ (List.mem_of_getElem? (i := 2) rfl))) (mvT hZ (hw _ (List.mem_of_getElem? (i := 3) rfl))) (by decide) (backOf (W := 0) (rm1_2 l Z a0 hw [] n0 h0 O w_PROPERTY w__VALUES w_RESOURCE w_CLASS w_LITERAL k_w__VALUES W  ) hZ (hw _ (List.mem_of_getElem? (i := 3) rfl)) (hw _ (List.mem_of_getElem? (i := 2) rfl)) (by decide) (by decide)) (g := (mkF m 11 #[.val (.int p0), .val (.int p1), .unset, .unset, .unset] [(.int (2 : Int32))])) rfl (by rw [hml]; rfl) (argsL := [(.int (2 : Int32))]) (rest := []) (lenOf owpd3 rfl) rfl (by show 2 * 0 + _ ≤ _; exact Nat.le_of_eq rfl) (hb hby at_11) (fun _ _ => ⟨rfl, e0, (by decide : 0 + 0 ≤ _), (by decide : 0 + 0 ≤ _)⟩)
  dsimp only [Pt.U, Pt.locs, Pt.cells, Pt.slots] at X1 l1 y1 z1 st1 hQ1
  subst l1 y1 z1
  obtain ⟨rfl, Nq1, e1⟩ := hQ1
  have N1 := Fr.app N0 Nq1
  obtain ⟨_, _, ⟨T2, L2, k2, n2⟩, -, X2, ⟨Lc2, hQ2, l2, y2, z2⟩, st2⟩ := Jvm.LawKit.callS X1 hx (y := (⟨"com/example/pathfix/pathfix/core/KindOfMarkPinLaw", "reference", "(C)Lcom/example/pathfix/pathfix/core/Kind;"⟩ : MethodName)) hown (mvT hZ (hw _ (List.mem_of_getElem? (i := 4) rfl))) (mvT hZ (hw _ (List.mem_of_getElem? (i := 5) rfl))) (mvT hZ (hw _ (List.mem_of_getElem? (i := 2) rfl))) (mvT hZ (hw _ (List.mem_of_getElem? (i := 6) rfl))) (by decide) (backOf (W := 0) (rm2_35 l Z a0 hw [] n0 h0 O w_PROPERTY w__VALUES w_RESOURCE w_CLASS w_LITERAL k_w__VALUES W  ) hZ (hw _ (List.mem_of_getElem? (i := 6) rfl)) (hw _ (List.mem_of_getElem? (i := 2) rfl)) (by decide) (by decide)) (g := (mkF m 22 #[.val (.int p0), .val (.int p1), .val (.int (35 : Int32)), .unset, .unset] [(.int (35 : Int32))])) rfl (by rw [hml]; rfl) (argsL := [(.int (35 : Int32))]) (rest := []) (lenOf owpd1 rfl) rfl (by show 2 * 0 + _ ≤ _; exact Nat.le_of_eq rfl) (hb hby at_22) (fun _ _ => ⟨rfl, e1, (by decide : 0 + 0 ≤ _), (by decide : 0 + 0 ≤ _)⟩)
  dsimp only [Pt.U, Pt.locs, Pt.cells, Pt.slots] at X2 l2 y2 z2 st2 hQ2
  subst l2 y2 z2
  obtain ⟨rfl, Nq2, e2⟩ := hQ2
  have N2 := Fr.app N1 Nq2
  obtain ⟨_, _, ⟨T3, L3, k3, n3⟩, -, X3, ⟨Lc3, hQ3, l3, y3, z3⟩, st3⟩ := Jvm.LawKit.callS X2 hx (y := (⟨"com/example/pathfix/pathfix/core/Kind", "ofMark", "(C)Lcom/example/pathfix/pathfix/core/Kind;"⟩ : MethodName)) hown (mvT hZ (hw _ (List.mem_of_getElem? (i := 10) rfl))) (mvT hZ (hw _ (List.mem_of_getElem? (i := 11) rfl))) (mvT hZ (hw _ (List.mem_of_getElem? (i := 8) rfl))) (mvT hZ (hw _ (List.mem_of_getElem? (i := 12) rfl))) (by decide) (backOf (W := 0) (rm3_35 l Z a0 hw [] n0 h0 O w_PROPERTY w__VALUES w_RESOURCE w_CLASS w_LITERAL k_w__VALUES W  ) hZ (hw _ (List.mem_of_getElem? (i := 12) rfl)) (hw _ (List.mem_of_getElem? (i := 8) rfl)) (by decide) (by decide)) (g := (mkF m 27 #[.val (.int p0), .val (.int p1), .val (.int (35 : Int32)), .val (.ref w_CLASS), .unset] [(.int (35 : Int32))])) rfl (by rw [hml]; rfl) (argsL := [(.int (35 : Int32))]) (rest := []) (lenOf owpd1 rfl) rfl (by show 2 * 0 + _ ≤ _; exact Nat.le_of_eq rfl) (hb hby at_27) (fun _ _ => ⟨rfl, e2, (by decide : 0 + 1 ≤ _), (by decide : 0 + 4 ≤ _)⟩)
  dsimp only [Pt.U, Pt.locs, Pt.cells, Pt.slots] at X3 l3 y3 z3 st3 hQ3
  subst l3 y3 z3
  obtain ⟨Nq3, hP3⟩ := hQ3
  have N3 := Fr.app N2 Nq3
  have ee3 : T3.heap = T3.heap := rfl
  obtain ⟨rfl, O3⟩ := hP3
  obtain ⟨cq4, kq4, q4a, q4b, q4c⟩ := isOf hZ ee3 (E_w_CLASS.ext O3.2)
  obtain ⟨_, _, ⟨T4, L4, k4, n4⟩, -, X4, ⟨Lc4, hQ4, l4, y4, z4⟩, st4⟩ := X3.virtualBack hx (y := (⟨"com/example/pathfix/pathfix/core/Kind", "mark", "()C"⟩ : MethodName)) (z := (⟨"com/example/pathfix/pathfix/core/Kind", "mark", "()C"⟩ : MethodName)) hown (mvT hZ (hw _ (List.mem_of_getElem? (i := 33) rfl))) (mvT hZ (hw _ (List.mem_of_getElem? (i := 34) rfl))) (notFace_of_selects (args := #[]) (mvT hZ (hw _ (List.mem_of_getElem? (i := 36) rfl)))) (mvT hZ (hw _ (List.mem_of_getElem? (i := 36) rfl))) (mvT hZ (hw _ (List.mem_of_getElem? (i := 35) rfl))) (by decide) (backOf (W := 0) (rm5_35 l Z a0 hw [] n0 T3.heap O3 w_PROPERTY w__VALUES w_RESOURCE w_CLASS w_LITERAL k_w__VALUES W  ) hZ (hw _ (List.mem_of_getElem? (i := 37) rfl)) (hw _ (List.mem_of_getElem? (i := 8) rfl)) (by decide) (by decide)) q4a q4c (g := (mkF m 47 #[.val (.int p0), .val (.int p1), .val (.int (35 : Int32)), .val (.ref w_CLASS), .val (.ref w_CLASS)] [(.ref w_CLASS)])) rfl (by rw [hml]; rfl) (Steps.refl _) (argsL := []) (rest := []) (lenOf owpd2 rfl) rfl (by show 2 * 0 + _ ≤ _; exact Nat.le_of_eq rfl) (hb hby at_47) (fun _ _ => ⟨rfl, ee3, (by decide : 1 + 0 ≤ _), (by decide : 4 + 0 ≤ _)⟩)
  dsimp only [Pt.U, Pt.locs, Pt.cells, Pt.slots] at X4 l4 y4 z4 st4 hQ4
  subst l4 y4 z4
  obtain ⟨rfl, Nq4, e4⟩ := hQ4
  have N4 := Fr.app N3 Nq4
  obtain ⟨fs, hr, hrun, hended, hW, hsame⟩ := X4.leave (v := some (.int (1 : Int32))) (fun h => by rw [Bd.returns] at h; cases h)
  refine ⟨_, _, pre0 _ ?_, hrun, hended, _, _, rfl, ?_, ⟨_, rfl⟩, hW, hsame.mono (by decide) (by decide)⟩
  · show Steps p.tables e below (s₁.setTop (mkF m 0 #[.val (.int p0), .val (.int p1), .unset, .unset, .unset] [])) _
    refine XS.iloadN X0.here hx rfl (hb hby at_0) rfl ?_
    show Steps p.tables e below (s₁.setTop (mkF m 1 #[.val (.int p0), .val (.int p1), .unset, .unset, .unset] [(.int p1)])) _
    refine XS.iconst X0.here hx rfl (hb hby at_1) ?_
    show Steps p.tables e below (s₁.setTop (mkF m 2 #[.val (.int p0), .val (.int p1), .unset, .unset, .unset] [(.int (1 : Int32)), (.int p1)])) _
    refine XS.iand X0.here hx rfl (hb hby at_2) rfl ?_
    show Steps p.tables e below (s₁.setTop (mkF m 3 #[.val (.int p0), .val (.int p1), .unset, .unset, .unset] [(.int (p1 &&& (1 : Int32)))])) _
    refine XS.ifNo X0.here hx rfl (hb hby at_3) rfl ((if0 _ _).trans (feq hp).1) ?_
    show Steps p.tables e below (s₁.setTop (mkF m 6 #[.val (.int p0), .val (.int p1), .unset, .unset, .unset] [])) _
    refine XS.iloadN X0.here hx rfl (hb hby at_6) rfl ?_
    show Steps p.tables e below (s₁.setTop (mkF m 7 #[.val (.int p0), .val (.int p1), .unset, .unset, .unset] [(.int p1)])) _
    refine XS.iconst X0.here hx rfl (hb hby at_7) ?_
    show Steps p.tables e below (s₁.setTop (mkF m 8 #[.val (.int p0), .val (.int p1), .unset, .unset, .unset] [(.int (1 : Int32)), (.int p1)])) _
    refine XS.iushr X0.here hx rfl (hb hby at_8) rfl ?_
    show Steps p.tables e below (s₁.setTop (mkF m 9 #[.val (.int p0), .val (.int p1), .unset, .unset, .unset] [(.int ((p1.toUInt32 >>> ((1 : Int32) &&& 31).toUInt32).toInt32))])) _
    refine XS.iconst X0.here hx rfl (hb hby at_9) ?_
    show Steps p.tables e below (s₁.setTop (mkF m 10 #[.val (.int p0), .val (.int p1), .unset, .unset, .unset] [(.int (3 : Int32)), (.int ((p1.toUInt32 >>> ((1 : Int32) &&& 31).toUInt32).toInt32))])) _
    refine XS.iand X0.here hx rfl (hb hby at_10) rfl ?_
    show Steps p.tables e below (s₁.setTop (mkF m 11 #[.val (.int p0), .val (.int p1), .unset, .unset, .unset] [(.int (((p1.toUInt32 >>> ((1 : Int32) &&& 31).toUInt32).toInt32) &&& (3 : Int32)))])) _
    rw [hi]
    show Steps p.tables e below (s₁.setTop (mkF m 11 #[.val (.int p0), .val (.int p1), .unset, .unset, .unset] [(.int (2 : Int32))])) _
    refine st1 _ ?_
    show Steps p.tables e below (T1.setTop (mkF m 14 #[.val (.int p0), .val (.int p1), .unset, .unset, .unset] [(.int (35 : Int32))])) _
    refine XS.istoreN X1.here hx rfl (hb hby at_14) rfl (l' := #[.val (.int p0), .val (.int p1), .val (.int (35 : Int32)), .unset, .unset]) rfl ?_
    show Steps p.tables e below (T1.setTop (mkF m 15 #[.val (.int p0), .val (.int p1), .val (.int (35 : Int32)), .unset, .unset] [])) _
    refine XS.goto X1.here hx rfl (pc0 := 15) (pc' := 21) rfl (hb hby at_15) (by decide) (by decide) ?_
    show Steps p.tables e below (T1.setTop (mkF m 21 #[.val (.int p0), .val (.int p1), .val (.int (35 : Int32)), .unset, .unset] [])) _
    refine XS.iloadN X1.here hx rfl (hb hby at_21) rfl ?_
    show Steps p.tables e below (T1.setTop (mkF m 22 #[.val (.int p0), .val (.int p1), .val (.int (35 : Int32)), .unset, .unset] [(.int (35 : Int32))])) _
    refine st2 _ ?_
    show Steps p.tables e below (T2.setTop (mkF m 25 #[.val (.int p0), .val (.int p1), .val (.int (35 : Int32)), .unset, .unset] [(.ref w_CLASS)])) _
    refine XS.astoreN X2.here hx rfl (hb hby at_25) rfl rfl (l' := #[.val (.int p0), .val (.int p1), .val (.int (35 : Int32)), .val (.ref w_CLASS), .unset]) rfl ?_
    show Steps p.tables e below (T2.setTop (mkF m 26 #[.val (.int p0), .val (.int p1), .val (.int (35 : Int32)), .val (.ref w_CLASS), .unset] [])) _
    refine XS.iloadN X2.here hx rfl (hb hby at_26) rfl ?_
    show Steps p.tables e below (T2.setTop (mkF m 27 #[.val (.int p0), .val (.int p1), .val (.int (35 : Int32)), .val (.ref w_CLASS), .unset] [(.int (35 : Int32))])) _
    refine st3 _ ?_
    show Steps p.tables e below (T3.setTop (mkF m 30 #[.val (.int p0), .val (.int p1), .val (.int (35 : Int32)), .val (.ref w_CLASS), .unset] [(.ref w_CLASS)])) _
    refine XS.astore X3.here hx rfl (hb hby at_30) rfl rfl (l' := #[.val (.int p0), .val (.int p1), .val (.int (35 : Int32)), .val (.ref w_CLASS), .val (.ref w_CLASS)]) rfl ?_
    show Steps p.tables e below (T3.setTop (mkF m 32 #[.val (.int p0), .val (.int p1), .val (.int (35 : Int32)), .val (.ref w_CLASS), .val (.ref w_CLASS)] [])) _
    refine XS.aload X3.here hx rfl (hb hby at_32) rfl rfl ?_
    show Steps p.tables e below (T3.setTop (mkF m 34 #[.val (.int p0), .val (.int p1), .val (.int (35 : Int32)), .val (.ref w_CLASS), .val (.ref w_CLASS)] [(.ref w_CLASS)])) _
    refine XS.aloadN X3.here hx rfl (hb hby at_34) rfl rfl ?_
    show Steps p.tables e below (T3.setTop (mkF m 35 #[.val (.int p0), .val (.int p1), .val (.int (35 : Int32)), .val (.ref w_CLASS), .val (.ref w_CLASS)] [(.ref w_CLASS), (.ref w_CLASS)])) _
    refine Jvm.RoadKit.acmp (g := (mkF m 35 #[.val (.int p0), .val (.int p1), .val (.int (35 : Int32)), .val (.ref w_CLASS), .val (.ref w_CLASS)] [(.ref w_CLASS), (.ref w_CLASS)])) X3 hx rfl rfl rfl (pc0 := 35) (pc' := 40) (same := true) rfl (hb hby at_35) rfl (decide_eq_true rfl) (by decide) (by decide) ?_
    show Steps p.tables e below (T3.setTop (mkF m 40 #[.val (.int p0), .val (.int p1), .val (.int (35 : Int32)), .val (.ref w_CLASS), .val (.ref w_CLASS)] [])) _
    refine XS.aload X3.here hx rfl (hb hby at_40) rfl rfl ?_
    show Steps p.tables e below (T3.setTop (mkF m 42 #[.val (.int p0), .val (.int p1), .val (.int (35 : Int32)), .val (.ref w_CLASS), .val (.ref w_CLASS)] [(.ref w_CLASS)])) _
    refine XS.ifnullNo X3.here hx rfl (hb hby at_42) rfl ?_
    show Steps p.tables e below (T3.setTop (mkF m 45 #[.val (.int p0), .val (.int p1), .val (.int (35 : Int32)), .val (.ref w_CLASS), .val (.ref w_CLASS)] [])) _
    refine XS.aload X3.here hx rfl (hb hby at_45) rfl rfl ?_
    show Steps p.tables e below (T3.setTop (mkF m 47 #[.val (.int p0), .val (.int p1), .val (.int (35 : Int32)), .val (.ref w_CLASS), .val (.ref w_CLASS)] [(.ref w_CLASS)])) _
    refine st4.trans ?_
    show Steps p.tables e below (T4.setTop (mkF m 50 #[.val (.int p0), .val (.int p1), .val (.int (35 : Int32)), .val (.ref w_CLASS), .val (.ref w_CLASS)] [(.int (35 : Int32))])) _
    refine XS.iloadN X4.here hx rfl (hb hby at_50) rfl ?_
    show Steps p.tables e below (T4.setTop (mkF m 51 #[.val (.int p0), .val (.int p1), .val (.int (35 : Int32)), .val (.ref w_CLASS), .val (.ref w_CLASS)] [(.int (35 : Int32)), (.int (35 : Int32))])) _
    refine XS.icmpNo X4.here hx rfl (hb hby at_51) rfl (teq (by decide : (35 : Int32) = (35 : Int32))).2 ?_
    show Steps p.tables e below (T4.setTop (mkF m 54 #[.val (.int p0), .val (.int p1), .val (.int (35 : Int32)), .val (.ref w_CLASS), .val (.ref w_CLASS)] [])) _
    refine XS.iconst X4.here hx rfl (hb hby at_54) ?_
    show Steps p.tables e below (T4.setTop (mkF m 55 #[.val (.int p0), .val (.int p1), .val (.int (35 : Int32)), .val (.ref w_CLASS), .val (.ref w_CLASS)] [(.int (1 : Int32))])) _
    refine XS.goto X4.here hx rfl (pc0 := 55) (pc' := 59) rfl (hb hby at_55) (by decide) (by decide) ?_
    show Steps p.tables e below (T4.setTop (mkF m 59 #[.val (.int p0), .val (.int p1), .val (.int (35 : Int32)), .val (.ref w_CLASS), .val (.ref w_CLASS)] [(.int (1 : Int32))])) _
    exact retN X4 hx (t := .boolean) Bd.returns (by simp) (hb hby at_59) hr
  · have eF : (T4.setFrames fs).heap = T3.heap := e4
    exact ⟨N4, rfl⟩
set_option maxRecDepth 65536 in
set_option maxHeartbeats 40000000 in
theorem rm0_d3 (l : Launch) (Z : State) (a0 : Array Value) (hw : ∀ d ∈ tables_1, d.before a0 Z = true) (ws : List Jvm.Cond) (n0 : Nat) (h0 : Heap) (O : Old Z n0 h0) (w_PROPERTY : Addr) (w__VALUES : Addr) (w_RESOURCE : Addr) (w_CLASS : Addr) (w_LITERAL : Addr) (k_w__VALUES : ClassId) (W : OwW Z w_PROPERTY w__VALUES w_RESOURCE w_CLASS w_LITERAL k_w__VALUES) (p0 : Int32) (p1 : Int32) (hp : ¬ p1 &&& (1 : Int32) = (0 : Int32)) (hi : ((p1.toUInt32 >>> ((1 : Int32) &&& 31).toUInt32).toInt32 &&& (3 : Int32)) = (3 : Int32)) :
    OwCon l x code maxLocals ret ws room_1 #[(.int p0), (.int p1)] Z h0 (OwP (fun v _ => v = some (.int 1)) n0) := by
  refine MetFree.of_bodySF (plainFor_of_name owpn0) hisR ?_
  intro p e s m args below meth c s₁ Bd hml0 hP hK
  obtain ⟨rfl, hZ, hh⟩ := hP
  have hx := Bd.exec
  have hby := Bd.bytes
  have hml : c.maxLocals = 5 := hml0
  have hown : s.vm.findClass "com/example/pathfix/pathfix/core/KindOfMarkPinLaw" = some m.cls := findClass_of_methodNamed Bd.named
  have hnm := (name_of_methodNamed Bd.named Bd.method).1
  have X0 : Stand p l e room_1 s m #[(.int p0), (.int p1)] below meth c s₁ [] 0 0 := Stand.of_body Bd
  have e0 : s₁.heap = h0 := by rw [← hh, Bd.state]; rfl
  have N0 := Fr.nil n0
  have WW := W
  obtain ⟨E_w_PROPERTY, E_w__VALUES, E_w_RESOURCE, E_w_CLASS, E_w_LITERAL, S_Kind_PROPERTY, S_Kind__VALUES, S_Kind_RESOURCE, S_Kind_CLASS, S_Kind_LITERAL, F_w_RESOURCE_mark, F_w_PROPERTY_mark, F_w_CLASS_mark, F_w_LITERAL_mark, V_w__VALUES, -⟩ := WW
  have ef : entryFrame m #[(.int p0), (.int p1)] maxLocals = mkF m 0 #[.val (.int p0), .val (.int p1), .unset, .unset, .unset] [] := by first | rfl | (simp [entryFrame, mkF, argsToLocals, Value.category, maxLocals]; done)
  have pre0 : ∀ t, Steps p.tables e below (s₁.setTop (mkF m 0 #[.val (.int p0), .val (.int p1), .unset, .unset, .unset] [])) t → Steps p.tables e below (s₁.setTop (entryFrame m #[(.int p0), (.int p1)] maxLocals)) t := fun t k => castTop ef k
  obtain ⟨_, _, ⟨T1, L1, k1, n1⟩, -, X1, ⟨Lc1, hQ1, l1, y1, z1⟩, st1⟩ := Jvm.LawKit.callS X0 hx (y := (⟨"com/example/pathfix/pathfix/core/KindOfMarkPinLaw", "drawMark", "(I)C"⟩ : MethodName)) hown (mvT hZ (hw _ (List.mem_of_getElem? (i := 0) rfl))) (mvT hZ (hw _ (List.mem_of_getElem? (i := 1) rfl))) (mvT hZ (hw _ (List.mem_of_getElem? (i := 2) rfl))) (mvT hZ (hw _ (List.mem_of_getElem? (i := 3) rfl))) (by decide) (backOf (W := 0) (rm1_3 l Z a0 hw [] n0 h0 O w_PROPERTY w__VALUES w_RESOURCE w_CLASS w_LITERAL k_w__VALUES W  ) hZ (hw _ (List.mem_of_getElem? (i := 3) rfl)) (hw _ (List.mem_of_getElem? (i := 2) rfl)) (by decide) (by decide)) (g := (mkF m 11 #[.val (.int p0), .val (.int p1), .unset, .unset, .unset] [(.int (3 : Int32))])) rfl (by rw [hml]; rfl) (argsL := [(.int (3 : Int32))]) (rest := []) (lenOf owpd3 rfl) rfl (by show 2 * 0 + _ ≤ _; exact Nat.le_of_eq rfl) (hb hby at_11) (fun _ _ => ⟨rfl, e0, (by decide : 0 + 0 ≤ _), (by decide : 0 + 0 ≤ _)⟩)
  dsimp only [Pt.U, Pt.locs, Pt.cells, Pt.slots] at X1 l1 y1 z1 st1 hQ1
  subst l1 y1 z1
  obtain ⟨rfl, Nq1, e1⟩ := hQ1
  have N1 := Fr.app N0 Nq1
  obtain ⟨_, _, ⟨T2, L2, k2, n2⟩, -, X2, ⟨Lc2, hQ2, l2, y2, z2⟩, st2⟩ := Jvm.LawKit.callS X1 hx (y := (⟨"com/example/pathfix/pathfix/core/KindOfMarkPinLaw", "reference", "(C)Lcom/example/pathfix/pathfix/core/Kind;"⟩ : MethodName)) hown (mvT hZ (hw _ (List.mem_of_getElem? (i := 4) rfl))) (mvT hZ (hw _ (List.mem_of_getElem? (i := 5) rfl))) (mvT hZ (hw _ (List.mem_of_getElem? (i := 2) rfl))) (mvT hZ (hw _ (List.mem_of_getElem? (i := 6) rfl))) (by decide) (backOf (W := 0) (rm2_34 l Z a0 hw [] n0 h0 O w_PROPERTY w__VALUES w_RESOURCE w_CLASS w_LITERAL k_w__VALUES W  ) hZ (hw _ (List.mem_of_getElem? (i := 6) rfl)) (hw _ (List.mem_of_getElem? (i := 2) rfl)) (by decide) (by decide)) (g := (mkF m 22 #[.val (.int p0), .val (.int p1), .val (.int (34 : Int32)), .unset, .unset] [(.int (34 : Int32))])) rfl (by rw [hml]; rfl) (argsL := [(.int (34 : Int32))]) (rest := []) (lenOf owpd1 rfl) rfl (by show 2 * 0 + _ ≤ _; exact Nat.le_of_eq rfl) (hb hby at_22) (fun _ _ => ⟨rfl, e1, (by decide : 0 + 0 ≤ _), (by decide : 0 + 0 ≤ _)⟩)
  dsimp only [Pt.U, Pt.locs, Pt.cells, Pt.slots] at X2 l2 y2 z2 st2 hQ2
  subst l2 y2 z2
  obtain ⟨rfl, Nq2, e2⟩ := hQ2
  have N2 := Fr.app N1 Nq2
  obtain ⟨_, _, ⟨T3, L3, k3, n3⟩, -, X3, ⟨Lc3, hQ3, l3, y3, z3⟩, st3⟩ := Jvm.LawKit.callS X2 hx (y := (⟨"com/example/pathfix/pathfix/core/Kind", "ofMark", "(C)Lcom/example/pathfix/pathfix/core/Kind;"⟩ : MethodName)) hown (mvT hZ (hw _ (List.mem_of_getElem? (i := 10) rfl))) (mvT hZ (hw _ (List.mem_of_getElem? (i := 11) rfl))) (mvT hZ (hw _ (List.mem_of_getElem? (i := 8) rfl))) (mvT hZ (hw _ (List.mem_of_getElem? (i := 12) rfl))) (by decide) (backOf (W := 0) (rm3_34 l Z a0 hw [] n0 h0 O w_PROPERTY w__VALUES w_RESOURCE w_CLASS w_LITERAL k_w__VALUES W  ) hZ (hw _ (List.mem_of_getElem? (i := 12) rfl)) (hw _ (List.mem_of_getElem? (i := 8) rfl)) (by decide) (by decide)) (g := (mkF m 27 #[.val (.int p0), .val (.int p1), .val (.int (34 : Int32)), .val (.ref w_LITERAL), .unset] [(.int (34 : Int32))])) rfl (by rw [hml]; rfl) (argsL := [(.int (34 : Int32))]) (rest := []) (lenOf owpd1 rfl) rfl (by show 2 * 0 + _ ≤ _; exact Nat.le_of_eq rfl) (hb hby at_27) (fun _ _ => ⟨rfl, e2, (by decide : 0 + 1 ≤ _), (by decide : 0 + 4 ≤ _)⟩)
  dsimp only [Pt.U, Pt.locs, Pt.cells, Pt.slots] at X3 l3 y3 z3 st3 hQ3
  subst l3 y3 z3
  obtain ⟨Nq3, hP3⟩ := hQ3
  have N3 := Fr.app N2 Nq3
  have ee3 : T3.heap = T3.heap := rfl
  obtain ⟨rfl, O3⟩ := hP3
  obtain ⟨cq4, kq4, q4a, q4b, q4c⟩ := isOf hZ ee3 (E_w_LITERAL.ext O3.2)
  obtain ⟨_, _, ⟨T4, L4, k4, n4⟩, -, X4, ⟨Lc4, hQ4, l4, y4, z4⟩, st4⟩ := X3.virtualBack hx (y := (⟨"com/example/pathfix/pathfix/core/Kind", "mark", "()C"⟩ : MethodName)) (z := (⟨"com/example/pathfix/pathfix/core/Kind", "mark", "()C"⟩ : MethodName)) hown (mvT hZ (hw _ (List.mem_of_getElem? (i := 33) rfl))) (mvT hZ (hw _ (List.mem_of_getElem? (i := 34) rfl))) (notFace_of_selects (args := #[]) (mvT hZ (hw _ (List.mem_of_getElem? (i := 36) rfl)))) (mvT hZ (hw _ (List.mem_of_getElem? (i := 36) rfl))) (mvT hZ (hw _ (List.mem_of_getElem? (i := 35) rfl))) (by decide) (backOf (W := 0) (rm5_34 l Z a0 hw [] n0 T3.heap O3 w_PROPERTY w__VALUES w_RESOURCE w_CLASS w_LITERAL k_w__VALUES W  ) hZ (hw _ (List.mem_of_getElem? (i := 37) rfl)) (hw _ (List.mem_of_getElem? (i := 8) rfl)) (by decide) (by decide)) q4a q4c (g := (mkF m 47 #[.val (.int p0), .val (.int p1), .val (.int (34 : Int32)), .val (.ref w_LITERAL), .val (.ref w_LITERAL)] [(.ref w_LITERAL)])) rfl (by rw [hml]; rfl) (Steps.refl _) (argsL := []) (rest := []) (lenOf owpd2 rfl) rfl (by show 2 * 0 + _ ≤ _; exact Nat.le_of_eq rfl) (hb hby at_47) (fun _ _ => ⟨rfl, ee3, (by decide : 1 + 0 ≤ _), (by decide : 4 + 0 ≤ _)⟩)
  dsimp only [Pt.U, Pt.locs, Pt.cells, Pt.slots] at X4 l4 y4 z4 st4 hQ4
  subst l4 y4 z4
  obtain ⟨rfl, Nq4, e4⟩ := hQ4
  have N4 := Fr.app N3 Nq4
  obtain ⟨fs, hr, hrun, hended, hW, hsame⟩ := X4.leave (v := some (.int (1 : Int32))) (fun h => by rw [Bd.returns] at h; cases h)
  refine ⟨_, _, pre0 _ ?_, hrun, hended, _, _, rfl, ?_, ⟨_, rfl⟩, hW, hsame.mono (by decide) (by decide)⟩
  · show Steps p.tables e below (s₁.setTop (mkF m 0 #[.val (.int p0), .val (.int p1), .unset, .unset, .unset] [])) _
    refine XS.iloadN X0.here hx rfl (hb hby at_0) rfl ?_
    show Steps p.tables e below (s₁.setTop (mkF m 1 #[.val (.int p0), .val (.int p1), .unset, .unset, .unset] [(.int p1)])) _
    refine XS.iconst X0.here hx rfl (hb hby at_1) ?_
    show Steps p.tables e below (s₁.setTop (mkF m 2 #[.val (.int p0), .val (.int p1), .unset, .unset, .unset] [(.int (1 : Int32)), (.int p1)])) _
    refine XS.iand X0.here hx rfl (hb hby at_2) rfl ?_
    show Steps p.tables e below (s₁.setTop (mkF m 3 #[.val (.int p0), .val (.int p1), .unset, .unset, .unset] [(.int (p1 &&& (1 : Int32)))])) _
    refine XS.ifNo X0.here hx rfl (hb hby at_3) rfl ((if0 _ _).trans (feq hp).1) ?_
    show Steps p.tables e below (s₁.setTop (mkF m 6 #[.val (.int p0), .val (.int p1), .unset, .unset, .unset] [])) _
    refine XS.iloadN X0.here hx rfl (hb hby at_6) rfl ?_
    show Steps p.tables e below (s₁.setTop (mkF m 7 #[.val (.int p0), .val (.int p1), .unset, .unset, .unset] [(.int p1)])) _
    refine XS.iconst X0.here hx rfl (hb hby at_7) ?_
    show Steps p.tables e below (s₁.setTop (mkF m 8 #[.val (.int p0), .val (.int p1), .unset, .unset, .unset] [(.int (1 : Int32)), (.int p1)])) _
    refine XS.iushr X0.here hx rfl (hb hby at_8) rfl ?_
    show Steps p.tables e below (s₁.setTop (mkF m 9 #[.val (.int p0), .val (.int p1), .unset, .unset, .unset] [(.int ((p1.toUInt32 >>> ((1 : Int32) &&& 31).toUInt32).toInt32))])) _
    refine XS.iconst X0.here hx rfl (hb hby at_9) ?_
    show Steps p.tables e below (s₁.setTop (mkF m 10 #[.val (.int p0), .val (.int p1), .unset, .unset, .unset] [(.int (3 : Int32)), (.int ((p1.toUInt32 >>> ((1 : Int32) &&& 31).toUInt32).toInt32))])) _
    refine XS.iand X0.here hx rfl (hb hby at_10) rfl ?_
    show Steps p.tables e below (s₁.setTop (mkF m 11 #[.val (.int p0), .val (.int p1), .unset, .unset, .unset] [(.int (((p1.toUInt32 >>> ((1 : Int32) &&& 31).toUInt32).toInt32) &&& (3 : Int32)))])) _
    rw [hi]
    show Steps p.tables e below (s₁.setTop (mkF m 11 #[.val (.int p0), .val (.int p1), .unset, .unset, .unset] [(.int (3 : Int32))])) _
    refine st1 _ ?_
    show Steps p.tables e below (T1.setTop (mkF m 14 #[.val (.int p0), .val (.int p1), .unset, .unset, .unset] [(.int (34 : Int32))])) _
    refine XS.istoreN X1.here hx rfl (hb hby at_14) rfl (l' := #[.val (.int p0), .val (.int p1), .val (.int (34 : Int32)), .unset, .unset]) rfl ?_
    show Steps p.tables e below (T1.setTop (mkF m 15 #[.val (.int p0), .val (.int p1), .val (.int (34 : Int32)), .unset, .unset] [])) _
    refine XS.goto X1.here hx rfl (pc0 := 15) (pc' := 21) rfl (hb hby at_15) (by decide) (by decide) ?_
    show Steps p.tables e below (T1.setTop (mkF m 21 #[.val (.int p0), .val (.int p1), .val (.int (34 : Int32)), .unset, .unset] [])) _
    refine XS.iloadN X1.here hx rfl (hb hby at_21) rfl ?_
    show Steps p.tables e below (T1.setTop (mkF m 22 #[.val (.int p0), .val (.int p1), .val (.int (34 : Int32)), .unset, .unset] [(.int (34 : Int32))])) _
    refine st2 _ ?_
    show Steps p.tables e below (T2.setTop (mkF m 25 #[.val (.int p0), .val (.int p1), .val (.int (34 : Int32)), .unset, .unset] [(.ref w_LITERAL)])) _
    refine XS.astoreN X2.here hx rfl (hb hby at_25) rfl rfl (l' := #[.val (.int p0), .val (.int p1), .val (.int (34 : Int32)), .val (.ref w_LITERAL), .unset]) rfl ?_
    show Steps p.tables e below (T2.setTop (mkF m 26 #[.val (.int p0), .val (.int p1), .val (.int (34 : Int32)), .val (.ref w_LITERAL), .unset] [])) _
    refine XS.iloadN X2.here hx rfl (hb hby at_26) rfl ?_
    show Steps p.tables e below (T2.setTop (mkF m 27 #[.val (.int p0), .val (.int p1), .val (.int (34 : Int32)), .val (.ref w_LITERAL), .unset] [(.int (34 : Int32))])) _
    refine st3 _ ?_
    show Steps p.tables e below (T3.setTop (mkF m 30 #[.val (.int p0), .val (.int p1), .val (.int (34 : Int32)), .val (.ref w_LITERAL), .unset] [(.ref w_LITERAL)])) _
    refine XS.astore X3.here hx rfl (hb hby at_30) rfl rfl (l' := #[.val (.int p0), .val (.int p1), .val (.int (34 : Int32)), .val (.ref w_LITERAL), .val (.ref w_LITERAL)]) rfl ?_
    show Steps p.tables e below (T3.setTop (mkF m 32 #[.val (.int p0), .val (.int p1), .val (.int (34 : Int32)), .val (.ref w_LITERAL), .val (.ref w_LITERAL)] [])) _
    refine XS.aload X3.here hx rfl (hb hby at_32) rfl rfl ?_
    show Steps p.tables e below (T3.setTop (mkF m 34 #[.val (.int p0), .val (.int p1), .val (.int (34 : Int32)), .val (.ref w_LITERAL), .val (.ref w_LITERAL)] [(.ref w_LITERAL)])) _
    refine XS.aloadN X3.here hx rfl (hb hby at_34) rfl rfl ?_
    show Steps p.tables e below (T3.setTop (mkF m 35 #[.val (.int p0), .val (.int p1), .val (.int (34 : Int32)), .val (.ref w_LITERAL), .val (.ref w_LITERAL)] [(.ref w_LITERAL), (.ref w_LITERAL)])) _
    refine Jvm.RoadKit.acmp (g := (mkF m 35 #[.val (.int p0), .val (.int p1), .val (.int (34 : Int32)), .val (.ref w_LITERAL), .val (.ref w_LITERAL)] [(.ref w_LITERAL), (.ref w_LITERAL)])) X3 hx rfl rfl rfl (pc0 := 35) (pc' := 40) (same := true) rfl (hb hby at_35) rfl (decide_eq_true rfl) (by decide) (by decide) ?_
    show Steps p.tables e below (T3.setTop (mkF m 40 #[.val (.int p0), .val (.int p1), .val (.int (34 : Int32)), .val (.ref w_LITERAL), .val (.ref w_LITERAL)] [])) _
    refine XS.aload X3.here hx rfl (hb hby at_40) rfl rfl ?_
    show Steps p.tables e below (T3.setTop (mkF m 42 #[.val (.int p0), .val (.int p1), .val (.int (34 : Int32)), .val (.ref w_LITERAL), .val (.ref w_LITERAL)] [(.ref w_LITERAL)])) _
    refine XS.ifnullNo X3.here hx rfl (hb hby at_42) rfl ?_
    show Steps p.tables e below (T3.setTop (mkF m 45 #[.val (.int p0), .val (.int p1), .val (.int (34 : Int32)), .val (.ref w_LITERAL), .val (.ref w_LITERAL)] [])) _
    refine XS.aload X3.here hx rfl (hb hby at_45) rfl rfl ?_
    show Steps p.tables e below (T3.setTop (mkF m 47 #[.val (.int p0), .val (.int p1), .val (.int (34 : Int32)), .val (.ref w_LITERAL), .val (.ref w_LITERAL)] [(.ref w_LITERAL)])) _
    refine st4.trans ?_
    show Steps p.tables e below (T4.setTop (mkF m 50 #[.val (.int p0), .val (.int p1), .val (.int (34 : Int32)), .val (.ref w_LITERAL), .val (.ref w_LITERAL)] [(.int (34 : Int32))])) _
    refine XS.iloadN X4.here hx rfl (hb hby at_50) rfl ?_
    show Steps p.tables e below (T4.setTop (mkF m 51 #[.val (.int p0), .val (.int p1), .val (.int (34 : Int32)), .val (.ref w_LITERAL), .val (.ref w_LITERAL)] [(.int (34 : Int32)), (.int (34 : Int32))])) _
    refine XS.icmpNo X4.here hx rfl (hb hby at_51) rfl (teq (by decide : (34 : Int32) = (34 : Int32))).2 ?_
    show Steps p.tables e below (T4.setTop (mkF m 54 #[.val (.int p0), .val (.int p1), .val (.int (34 : Int32)), .val (.ref w_LITERAL), .val (.ref w_LITERAL)] [])) _
    refine XS.iconst X4.here hx rfl (hb hby at_54) ?_
    show Steps p.tables e below (T4.setTop (mkF m 55 #[.val (.int p0), .val (.int p1), .val (.int (34 : Int32)), .val (.ref w_LITERAL), .val (.ref w_LITERAL)] [(.int (1 : Int32))])) _
    refine XS.goto X4.here hx rfl (pc0 := 55) (pc' := 59) rfl (hb hby at_55) (by decide) (by decide) ?_
    show Steps p.tables e below (T4.setTop (mkF m 59 #[.val (.int p0), .val (.int p1), .val (.int (34 : Int32)), .val (.ref w_LITERAL), .val (.ref w_LITERAL)] [(.int (1 : Int32))])) _
    exact retN X4 hx (t := .boolean) Bd.returns (by simp) (hb hby at_59) hr
  · have eF : (T4.setFrames fs).heap = T3.heap := e4
    exact ⟨N4, rfl⟩
set_option maxRecDepth 65536 in
set_option maxHeartbeats 40000000 in
theorem comes_1 {Post : Tables → Env → Array Value → State → Outcome → State → Prop} (hpost : ∀ tb e args s v u, (limb_1_1.after args s (.returned v) u = true ∧ limb_1_2.after args s (.returned v) u = true ∧ True) → FrameEnd s (.returned v) u (Jvm.fieldLocs frame_1_writes args s ++ Jvm.arrayLocs frame_1_arrays args s ++ Jvm.staticLocs frame_1_statics s) 16 128 → Post tb e args s (.returned v) u) :
    ArmFor flags0 classFile x code maxLocals ret World_1 tables_1 room_1 Calls_1 rest_1 Pre_1 Post := by
  intro l hfl _ _ p e ha hc hk s m args below hf hA hF happ hP
  obtain ⟨hcalls, hrest, hpre⟩ := hP
  obtain ⟨-, -, -, hnamed, -, -, -, hat⟩ := (Spec.applies_iff hf).mp happ
  obtain ⟨hg, hn⟩ := and_e (Cond.before_iff.mp (show (Jvm.Cond.and given_1 narrow_1).before args s = true from hpre))
  obtain ⟨ga1, gb1⟩ := and_e hg
  obtain ⟨ga2, gb2⟩ := and_e gb1
  obtain ⟨w0, w1, rfl⟩ : ∃ w0 w1 : Value, args = #[w0, w1] := by
    have hs : args.size = 2 := by simpa [Cond.value, given_1] using ga1
    obtain ⟨L⟩ := args
    match L, hs with
    | [w0, w1], _ => exact ⟨w0, w1, rfl⟩
  have hw := fun d (hd : d ∈ tables_1) => atoms_spec (ws := Jvm.Cond.code x code maxLocals ret :: tables_1) hat d (List.mem_cons_of_mem _ hd)
  have hfit : Fit s := fun {y c} hc i hi => by
    obtain ⟨ha, rfl⟩ := Array.getElem?_eq_some_iff.mp hc
    have q := List.all_eq_true.mp ((Array.all_eq_true_iff_forall_mem.mp hF) _ (Array.getElem_mem ha)) i (List.mem_range.mpr hi)
    simpa [Array.getElem?_eq_getElem hi] using q
  obtain ⟨i0, ei0⟩ := is_v ga2
  obtain rfl : w0 = (.int i0) := Option.some.inj ei0
  obtain ⟨i1, ei1⟩ := is_v gb2
  obtain rfl : w1 = (.int i1) := Option.some.inj ei1
  obtain ⟨nn1, nn2⟩ := and_e hn
  obtain ⟨nn3, nn4⟩ := and_e nn2
  obtain ⟨nn5, nn6⟩ := and_e nn4
  obtain ⟨nn7, nn8⟩ := and_e nn6
  obtain ⟨nn9, nn10⟩ := and_e nn8
  obtain ⟨nn11, nn12⟩ := and_e nn10
  obtain ⟨nn13, nn14⟩ := and_e nn12
  obtain ⟨nn15, nn16⟩ := and_e nn14
  obtain ⟨nn17, nn18⟩ := and_e nn16
  obtain ⟨nn19, nn20⟩ := and_e nn18
  obtain ⟨nn21, nn22⟩ := and_e nn20
  obtain ⟨nn23, nn24⟩ := and_e nn22
  obtain ⟨nn25, nn26⟩ := and_e nn24
  obtain ⟨nn27, nn28⟩ := and_e nn26
  obtain ⟨w_PROPERTY, ev_w_PROPERTY⟩ := exa_v nn1
  have E_w_PROPERTY : Exa s s.heap w_PROPERTY "com/example/pathfix/pathfix/core/Kind" := Exa.start ev_w_PROPERTY nn1
  obtain ⟨w__VALUES, ev_w__VALUES⟩ := arr_v nn3
  obtain ⟨cl_w__VALUES, A_w__VALUES⟩ := Arr.start ev_w__VALUES nn3
  have E_w__VALUES : Exa s s.heap w__VALUES "[Lcom/example/pathfix/pathfix/core/Kind;" := Exa.start ev_w__VALUES nn5
  have ev29 := own_eqI nn7
  obtain ⟨w_RESOURCE, ev_w_RESOURCE⟩ := exa_v nn9
  have E_w_RESOURCE : Exa s s.heap w_RESOURCE "com/example/pathfix/pathfix/core/Kind" := Exa.start ev_w_RESOURCE nn9
  have ev30 := own_eqR nn11 ev_w_RESOURCE
  have ev31 := own_eqR nn13 ev_w_PROPERTY
  obtain ⟨w_CLASS, ev_w_CLASS⟩ := exa_v nn15
  have E_w_CLASS : Exa s s.heap w_CLASS "com/example/pathfix/pathfix/core/Kind" := Exa.start ev_w_CLASS nn15
  have ev32 := own_eqR nn17 ev_w_CLASS
  obtain ⟨w_LITERAL, ev_w_LITERAL⟩ := exa_v nn19
  have E_w_LITERAL : Exa s s.heap w_LITERAL "com/example/pathfix/pathfix/core/Kind" := Exa.start ev_w_LITERAL nn19
  have ev33 := own_eqR nn21 ev_w_LITERAL
  have ev34 := own_eqI nn23
  have ev35 := own_eqI nn25
  have ev36 := own_eqI nn27
  have ev37 := own_eqI nn28
  have S_Kind_PROPERTY : Sta s s.heap "com/example/pathfix/pathfix/core/Kind" "PROPERTY" "Lcom/example/pathfix/pathfix/core/Kind;" (.ref w_PROPERTY) := Sta.start ev_w_PROPERTY (Or.inr ⟨(hw _ (List.mem_of_getElem? (i := 8) rfl)), (hw _ (List.mem_of_getElem? (i := 9) rfl))⟩)
  have S_Kind__VALUES : Sta s s.heap "com/example/pathfix/pathfix/core/Kind" "$VALUES" "[Lcom/example/pathfix/pathfix/core/Kind;" (.ref w__VALUES) := Sta.start ev_w__VALUES (Or.inr ⟨(hw _ (List.mem_of_getElem? (i := 8) rfl)), (hw _ (List.mem_of_getElem? (i := 17) rfl))⟩)
  have S_Kind_RESOURCE : Sta s s.heap "com/example/pathfix/pathfix/core/Kind" "RESOURCE" "Lcom/example/pathfix/pathfix/core/Kind;" (.ref w_RESOURCE) := Sta.start ev_w_RESOURCE (Or.inr ⟨(hw _ (List.mem_of_getElem? (i := 8) rfl)), (hw _ (List.mem_of_getElem? (i := 25) rfl))⟩)
  have S_Kind_CLASS : Sta s s.heap "com/example/pathfix/pathfix/core/Kind" "CLASS" "Lcom/example/pathfix/pathfix/core/Kind;" (.ref w_CLASS) := Sta.start ev_w_CLASS (Or.inr ⟨(hw _ (List.mem_of_getElem? (i := 8) rfl)), (hw _ (List.mem_of_getElem? (i := 26) rfl))⟩)
  have S_Kind_LITERAL : Sta s s.heap "com/example/pathfix/pathfix/core/Kind" "LITERAL" "Lcom/example/pathfix/pathfix/core/Kind;" (.ref w_LITERAL) := Sta.start ev_w_LITERAL (Or.inr ⟨(hw _ (List.mem_of_getElem? (i := 8) rfl)), (hw _ (List.mem_of_getElem? (i := 27) rfl))⟩)
  have F_w_RESOURCE_mark : Fld s s.heap w_RESOURCE "com/example/pathfix/pathfix/core/Kind" "mark" "C" (.int (36 : Int32)) := own_fld ev_w_RESOURCE ev34
  have F_w_PROPERTY_mark : Fld s s.heap w_PROPERTY "com/example/pathfix/pathfix/core/Kind" "mark" "C" (.int (43 : Int32)) := own_fld ev_w_PROPERTY ev35
  have F_w_CLASS_mark : Fld s s.heap w_CLASS "com/example/pathfix/pathfix/core/Kind" "mark" "C" (.int (35 : Int32)) := own_fld ev_w_CLASS ev36
  have F_w_LITERAL_mark : Fld s s.heap w_LITERAL "com/example/pathfix/pathfix/core/Kind" "mark" "C" (.int (34 : Int32)) := own_fld ev_w_LITERAL ev37
  have Lq_w__VALUES := own_len ev_w__VALUES A_w__VALUES ev29
  obtain ⟨k_w__VALUES, V_w__VALUES⟩ : ∃ k, Arv s s.heap w__VALUES k (.object "com/example/pathfix/pathfix/core/Kind") (4 : Int32) [(.ref w_RESOURCE), (.ref w_PROPERTY), (.ref w_CLASS), (.ref w_LITERAL)] .null := ⟨_, Arv.start hfit A_w__VALUES Lq_w__VALUES.1 Lq_w__VALUES.2 (by decide) rfl ⟨own_el ev_w__VALUES A_w__VALUES ev30, own_el ev_w__VALUES A_w__VALUES ev31, own_el ev_w__VALUES A_w__VALUES ev32, own_el ev_w__VALUES A_w__VALUES ev33, trivial⟩⟩
  have W : OwW s w_PROPERTY w__VALUES w_RESOURCE w_CLASS w_LITERAL k_w__VALUES := ⟨E_w_PROPERTY, E_w__VALUES, E_w_RESOURCE, E_w_CLASS, E_w_LITERAL, S_Kind_PROPERTY, S_Kind__VALUES, S_Kind_RESOURCE, S_Kind_CLASS, S_Kind_LITERAL, F_w_RESOURCE_mark, F_w_PROPERTY_mark, F_w_CLASS_mark, F_w_LITERAL_mark, V_w__VALUES, trivial⟩
  have fin : OwCon l x code maxLocals ret tables_1 room_1 #[(.int i0), (.int i1)] s s.heap (OwP (fun v _ => v = some (.int 1)) s.heap.size) := by
    by_cases hp : i1 &&& (1 : Int32) = (0 : Int32)
    · generalize hcc : (i0.toUInt32.toUInt16.toUInt32.toInt32) = cx
      by_cases h36 : cx = (36 : Int32)
      · subst h36; exact rm0_c36 l s _ hw tables_1 s.heap.size s.heap (Old.start s) w_PROPERTY w__VALUES w_RESOURCE w_CLASS w_LITERAL k_w__VALUES W i0 i1 hp hcc
      by_cases h43 : cx = (43 : Int32)
      · subst h43; exact rm0_c43 l s _ hw tables_1 s.heap.size s.heap (Old.start s) w_PROPERTY w__VALUES w_RESOURCE w_CLASS w_LITERAL k_w__VALUES W i0 i1 hp hcc
      by_cases h35 : cx = (35 : Int32)
      · subst h35; exact rm0_c35 l s _ hw tables_1 s.heap.size s.heap (Old.start s) w_PROPERTY w__VALUES w_RESOURCE w_CLASS w_LITERAL k_w__VALUES W i0 i1 hp hcc
      by_cases h34 : cx = (34 : Int32)
      · subst h34; exact rm0_c34 l s _ hw tables_1 s.heap.size s.heap (Old.start s) w_PROPERTY w__VALUES w_RESOURCE w_CLASS w_LITERAL k_w__VALUES W i0 i1 hp hcc
      exact rm0_co l s _ hw tables_1 s.heap.size s.heap (Old.start s) w_PROPERTY w__VALUES w_RESOURCE w_CLASS w_LITERAL k_w__VALUES W i0 i1 hp cx hcc h36 h43 h35 h34
    · rcases own_i4 ((i1.toUInt32 >>> ((1 : Int32) &&& 31).toUInt32).toInt32) with h | h | h | h
      · exact rm0_d0 l s _ hw tables_1 s.heap.size s.heap (Old.start s) w_PROPERTY w__VALUES w_RESOURCE w_CLASS w_LITERAL k_w__VALUES W i0 i1 hp h
      · exact rm0_d1 l s _ hw tables_1 s.heap.size s.heap (Old.start s) w_PROPERTY w__VALUES w_RESOURCE w_CLASS w_LITERAL k_w__VALUES W i0 i1 hp h
      · exact rm0_d2 l s _ hw tables_1 s.heap.size s.heap (Old.start s) w_PROPERTY w__VALUES w_RESOURCE w_CLASS w_LITERAL k_w__VALUES W i0 i1 hp h
      · exact rm0_d3 l s _ hw tables_1 s.heap.size s.heap (Old.start s) w_PROPERTY w__VALUES w_RESOURCE w_CLASS w_LITERAL k_w__VALUES W i0 i1 hp h
  obtain ⟨n, o, h1, h2, h3, _, L, rfl, ⟨N, rfl⟩, hq⟩ := fin p e ha hc hk s m _ below hf ((Spec.applies_iff_loose hf).mp happ).1 ⟨rfl, State.Warmed39.refl s, rfl⟩ trivial
  refine ⟨n, _, h1, h2, h3, hpost _ _ _ _ _ _ ⟨Cond.after_iff.mpr rfl, Cond.after_iff.mpr (eq_i res_at (Term.int_eval (1)) rfl), trivial⟩ ⟨hq.1, hq.2.1, (hq.2.2.sift fun y hy => Or.inr (N y hy)).mono (by decide) (by decide)⟩⟩
theorem main_1_1 : Claimed_1_1 := comes_1 fun _ _ _ _ _ _ h hF => ⟨h.1, hF⟩
theorem main_1_2 : Claimed_1_2 := comes_1 fun _ _ _ _ _ _ h hF => ⟨h.2.1, hF⟩
end Jvm.Pilot.@@N@@
namespace Jvm.Pilot.@@N@@
open Jvm Jvm.ClassFile Sem Op Lib Jvm.Free Jvm.Stand Jvm.Pilot.@@N@@.Jvm.D
/-! MADE BY PROGRAM (witnessworld.py) out of the Statement's table words and the real class files: 13 classes; the members and pool entries that the words name. The judged class is class 1, her method 3. -/
namespace start1
open Jvm.ClassFile
def u (s : String) : CpInfo := .utf8 (stringToUtf16 s)
/-- a pool by its gaps: so many unusable entries, then the entry; so many at the end -/
def gap : Nat → List CpInfo → List CpInfo
  | 0, r => r
  | n + 1, r => .unusable :: gap n r
def poolList (es : List (Nat × CpInfo)) (last : Nat) : List CpInfo := es.foldr (fun e r => gap e.1 (e.2 :: r)) (gap last [])
def pool (es : List (Nat × CpInfo)) (last : Nat) : Array CpInfo := ⟨poolList es last⟩
def fileOf (pool : Array CpInfo) (this : Nat) (attrs : Array Attribute := #[]) (ms : Array MethodInfo := #[]) (fl : Nat := 33) (sup : Nat := 0) (ifs : Array Nat := #[]) (fds : Array FieldInfo := #[]) : ClassFile where
  minorVersion := 0
  majorVersion := 65
  constantPool := pool
  accessFlags := fl
  thisClass := this
  superClass := sup
  interfaces := ifs
  fields := fds
  methods := ms
  attributes := attrs
def plain (name : String) (sup : Option ClassId) : Class where
  name := name
  kind := .ordinary
  loader := none
  accessFlags := 33
  super := sup
  interfaces := #[]
  cf := none
  fields := #[]
  methods := #[]
  instanceTypes := #[]
  staticTypes := #[]
  resolved := #[]
  callSites := []
  init := .initialized
  statics := none
  mirror := none

def pool0 : Array CpInfo := pool [(5, u "<init>"), (0, u "()V"), (1, .class_ 10), (1, u "java/lang/Object"), (85, u "clone"), (0, u "()Ljava/lang/Object;")] 26

def k0m0 : Method := { name := "<init>", desc := "()V", sig := { parameters := [], returnType := none }, accessFlags := 1, code := none }
def k0m1 : Method := { name := "clone", desc := "()Ljava/lang/Object;", sig := { parameters := [], returnType := some (.object "java/lang/Object") }, accessFlags := 260, code := none }
/-- java/lang/Object -/
def k0 : Class := { plain "java/lang/Object" none with
  accessFlags := 33
  interfaces := #[]
  cf := some (fileOf pool0 8 #[] #[{ accessFlags := 1, nameIndex := 5, descriptorIndex := 6, attributes := #[] }, { accessFlags := 260, nameIndex := 96, descriptorIndex := 97, attributes := #[] }] 33 0 #[] #[])
  fields := #[]
  methods := #[k0m0, k0m1]
  instanceTypes := #[]
  staticTypes := #[]
  resolved := Array.replicate 124 none
  statics := none }

def pool1 : Array CpInfo := pool [(2, .class_ 4), (1, u "java/lang/Object"), (0, u "<init>"), (0, u "()V"), (0, .fieldref 8 9), (0, .class_ 10), (0, .nameAndType 11 12), (0, u "com/example/pathfix/pathfix/core/Kind"), (0, u "RESOURCE"), (0, u "Lcom/example/pathfix/pathfix/core/Kind;"), (0, .fieldref 8 14), (0, .nameAndType 15 12), (0, u "PROPERTY"), (0, .fieldref 8 17), (0, .nameAndType 18 12), (0, u "CLASS"), (0, .fieldref 8 20), (0, .nameAndType 21 12), (0, u "LITERAL"), (0, .methodref 23 24), (0, .class_ 25), (0, .nameAndType 26 27), (0, u "com/example/pathfix/pathfix/core/KindOfMarkPinLaw"), (0, u "drawMark"), (0, u "(I)C"), (0, .methodref 23 29), (0, .nameAndType 30 31), (0, u "reference"), (0, u "(C)Lcom/example/pathfix/pathfix/core/Kind;"), (0, .methodref 8 33), (0, .nameAndType 34 31), (0, u "ofMark"), (0, .methodref 8 36), (0, .nameAndType 37 38), (0, u "mark"), (0, u "()C"), (3, u "law"), (0, u "(II)Z")] 2

def k1m0 : Method := { name := "<init>", desc := "()V", sig := { parameters := [], returnType := none }, accessFlags := 2, code := none }
def k1c1 : Code := { maxStack := 2, maxLocals := 1, code := method_2_code, exceptionTable := #[], attributes := #[] }
def k1m1 : Method := { name := "drawMark", desc := "(I)C", sig := { parameters := [.int], returnType := some .char }, accessFlags := 10, code := some k1c1 }
def k1c2 : Code := { maxStack := 2, maxLocals := 1, code := method_3_code, exceptionTable := #[], attributes := #[] }
def k1m2 : Method := { name := "reference", desc := "(C)Lcom/example/pathfix/pathfix/core/Kind;", sig := { parameters := [.char], returnType := some (.object "com/example/pathfix/pathfix/core/Kind") }, accessFlags := 10, code := some k1c2 }
def k1c3 : Code := { maxStack := 2, maxLocals := 5, code := code, exceptionTable := #[], attributes := #[] }
def k1m3 : Method := { name := "law", desc := "(II)Z", sig := { parameters := [.int, .int], returnType := some .boolean }, accessFlags := 9, code := some k1c3 }
/-- com/example/pathfix/pathfix/core/KindOfMarkPinLaw -/
def k1 : Class := { plain "com/example/pathfix/pathfix/core/KindOfMarkPinLaw" (some 0) with
  accessFlags := 49
  interfaces := #[]
  cf := some (fileOf pool1 23 #[] #[{ accessFlags := 2, nameIndex := 5, descriptorIndex := 6, attributes := #[] }, { accessFlags := 10, nameIndex := 26, descriptorIndex := 27, attributes := #[] }, { accessFlags := 10, nameIndex := 30, descriptorIndex := 31, attributes := #[] }, { accessFlags := 9, nameIndex := 42, descriptorIndex := 43, attributes := #[] }] 49 2 #[] #[])
  fields := #[]
  methods := #[k1m0, k1m1, k1m2, k1m3]
  instanceTypes := #[]
  staticTypes := #[]
  resolved := Array.replicate 46 none
  statics := none }

def pool2 : Array CpInfo := pool [(1, .class_ 2), (0, u "java/lang/constant/Constable"), (0, .class_ 4), (0, u "java/lang/Object")] 6

/-- java/lang/constant/Constable -/
def k2 : Class := { plain "java/lang/constant/Constable" (some 0) with
  accessFlags := 1537
  interfaces := #[]
  cf := some (fileOf pool2 1 #[] #[] 1537 3 #[] #[])
  fields := #[]
  methods := #[]
  instanceTypes := #[]
  staticTypes := #[]
  resolved := Array.replicate 11 none
  statics := none }

def pool3 : Array CpInfo := pool [(1, .class_ 2), (0, u "java/lang/Comparable"), (0, .class_ 4), (0, u "java/lang/Object")] 7

/-- java/lang/Comparable -/
def k3 : Class := { plain "java/lang/Comparable" (some 0) with
  accessFlags := 1537
  interfaces := #[]
  cf := some (fileOf pool3 1 #[] #[] 1537 3 #[] #[])
  fields := #[]
  methods := #[]
  instanceTypes := #[]
  staticTypes := #[]
  resolved := Array.replicate 12 none
  statics := none }

def pool4 : Array CpInfo := pool [(1, .class_ 2), (0, u "java/io/Serializable"), (0, .class_ 4), (0, u "java/lang/Object")] 2

/-- java/io/Serializable -/
def k4 : Class := { plain "java/io/Serializable" (some 0) with
  accessFlags := 1537
  interfaces := #[]
  cf := some (fileOf pool4 1 #[] #[] 1537 3 #[] #[])
  fields := #[]
  methods := #[]
  instanceTypes := #[]
  staticTypes := #[]
  resolved := Array.replicate 7 none
  statics := none }

def pool5 : Array CpInfo := pool [(2, .class_ 4), (1, u "java/lang/Enum"), (0, u "name"), (0, u "Ljava/lang/String;"), (2, u "ordinal"), (0, u "I"), (1, .class_ 14), (1, u "java/lang/Object"), (4, u "hash"), (86, .class_ 108), (1, u "java/lang/Enum$EnumDesc"), (2, .class_ 112), (0, u "java/lang/constant/Constable"), (0, .class_ 114), (0, u "java/lang/Comparable"), (0, .class_ 116), (0, u "java/io/Serializable")] 87

/-- java/lang/Enum -/
def k5 : Class := { plain "java/lang/Enum" (some 0) with
  accessFlags := 1057
  interfaces := #[2, 3, 4]
  cf := some (fileOf pool5 2 #[.nestMembers #[106]] #[] 1057 12 #[111, 113, 115] #[{ accessFlags := 18, nameIndex := 5, descriptorIndex := 6, attributes := #[] }, { accessFlags := 18, nameIndex := 9, descriptorIndex := 10, attributes := #[] }, { accessFlags := 2, nameIndex := 19, descriptorIndex := 10, attributes := #[] }])
  fields := #[{ name := "name", type := (.object "java/lang/String"), accessFlags := 18, slot := 0, constantValue := 0 }, { name := "ordinal", type := .int, accessFlags := 18, slot := 1, constantValue := 0 }, { name := "hash", type := .int, accessFlags := 2, slot := 2, constantValue := 0 }]
  methods := #[]
  instanceTypes := #[(.object "java/lang/String"), .int, .int]
  staticTypes := #[]
  resolved := Array.replicate 204 none
  statics := none }

def pool6 : Array CpInfo := pool [(1, .class_ 2), (0, u "com/example/pathfix/pathfix/core/Kind"), (2, u "RESOURCE"), (0, u "Lcom/example/pathfix/pathfix/core/Kind;"), (2, u "PROPERTY"), (2, u "CLASS"), (2, u "LITERAL"), (0, .fieldref 1 17), (0, .nameAndType 18 19), (0, u "$VALUES"), (0, u "[Lcom/example/pathfix/pathfix/core/Kind;"), (0, .methodref 21 22), (0, .class_ 19), (0, .nameAndType 23 24), (0, u "clone"), (0, u "()Ljava/lang/Object;"), (1, .class_ 28), (1, u "java/lang/Enum"), (6, .fieldref 1 36), (0, .nameAndType 37 38), (0, u "mark"), (0, u "C"), (0, .methodref 1 40), (0, .nameAndType 41 42), (0, u "values"), (0, u "()[Lcom/example/pathfix/pathfix/core/Kind;"), (12, u "ofMark"), (0, u "(C)Lcom/example/pathfix/pathfix/core/Kind;"), (25, u "()C")] 22

def k6c0 : Code := { maxStack := 1, maxLocals := 0, code := prog_12_method_1_code, exceptionTable := #[], attributes := #[] }
def k6m0 : Method := { name := "values", desc := "()[Lcom/example/pathfix/pathfix/core/Kind;", sig := { parameters := [], returnType := some (.array (.object "com/example/pathfix/pathfix/core/Kind")) }, accessFlags := 9, code := some k6c0 }
def k6c1 : Code := { maxStack := 1, maxLocals := 1, code := prog_12_method_4_code, exceptionTable := #[], attributes := #[] }
def k6m1 : Method := { name := "mark", desc := "()C", sig := { parameters := [], returnType := some .char }, accessFlags := 1, code := some k6c1 }
def k6c2 : Code := { maxStack := 2, maxLocals := 5, code := prog_12_method_5_code, exceptionTable := #[], attributes := #[] }
def k6m2 : Method := { name := "ofMark", desc := "(C)Lcom/example/pathfix/pathfix/core/Kind;", sig := { parameters := [.char], returnType := some (.object "com/example/pathfix/pathfix/core/Kind") }, accessFlags := 9, code := some k6c2 }
/-- com/example/pathfix/pathfix/core/Kind -/
def k6 : Class := { plain "com/example/pathfix/pathfix/core/Kind" (some 5) with
  accessFlags := 16433
  interfaces := #[]
  cf := some (fileOf pool6 1 #[] #[{ accessFlags := 9, nameIndex := 41, descriptorIndex := 42, attributes := #[] }, { accessFlags := 1, nameIndex := 37, descriptorIndex := 82, attributes := #[] }, { accessFlags := 9, nameIndex := 55, descriptorIndex := 56, attributes := #[] }] 16433 26 #[] #[{ accessFlags := 16409, nameIndex := 5, descriptorIndex := 6, attributes := #[] }, { accessFlags := 16409, nameIndex := 9, descriptorIndex := 6, attributes := #[] }, { accessFlags := 16409, nameIndex := 12, descriptorIndex := 6, attributes := #[] }, { accessFlags := 16409, nameIndex := 15, descriptorIndex := 6, attributes := #[] }, { accessFlags := 18, nameIndex := 37, descriptorIndex := 38, attributes := #[] }, { accessFlags := 4122, nameIndex := 18, descriptorIndex := 19, attributes := #[] }])
  fields := #[{ name := "RESOURCE", type := (.object "com/example/pathfix/pathfix/core/Kind"), accessFlags := 16409, slot := 0, constantValue := 0 }, { name := "PROPERTY", type := (.object "com/example/pathfix/pathfix/core/Kind"), accessFlags := 16409, slot := 1, constantValue := 0 }, { name := "CLASS", type := (.object "com/example/pathfix/pathfix/core/Kind"), accessFlags := 16409, slot := 2, constantValue := 0 }, { name := "LITERAL", type := (.object "com/example/pathfix/pathfix/core/Kind"), accessFlags := 16409, slot := 3, constantValue := 0 }, { name := "mark", type := .char, accessFlags := 18, slot := 3, constantValue := 0 }, { name := "$VALUES", type := (.array (.object "com/example/pathfix/pathfix/core/Kind")), accessFlags := 4122, slot := 4, constantValue := 0 }]
  methods := #[k6m0, k6m1, k6m2]
  instanceTypes := #[(.object "java/lang/String"), .int, .int, .char]
  staticTypes := #[(.object "com/example/pathfix/pathfix/core/Kind"), (.object "com/example/pathfix/pathfix/core/Kind"), (.object "com/example/pathfix/pathfix/core/Kind"), (.object "com/example/pathfix/pathfix/core/Kind"), (.array (.object "com/example/pathfix/pathfix/core/Kind"))]
  resolved := Array.replicate 105 none
  statics := some 0 }

def pool7 : Array CpInfo := pool [(1, .class_ 2), (0, u "java/lang/Cloneable"), (0, .class_ 4), (0, u "java/lang/Object")] 2

/-- java/lang/Cloneable -/
def k7 : Class := { plain "java/lang/Cloneable" (some 0) with
  accessFlags := 1537
  interfaces := #[]
  cf := some (fileOf pool7 1 #[] #[] 1537 3 #[] #[])
  fields := #[]
  methods := #[]
  instanceTypes := #[]
  staticTypes := #[]
  resolved := Array.replicate 7 none
  statics := none }

/-- the primitive byte -/
def k8 : Class := { plain "byte" none with kind := .primitive 'B', accessFlags := 0x411 }
/-- [B -/
def k9 : Class := { plain "[B" (some 0) with kind := .array 8 .byte, interfaces := #[7, 4], accessFlags := 1041 }

/-- the primitive int -/
def k10 : Class := { plain "int" none with kind := .primitive 'I', accessFlags := 0x411 }
/-- [I -/
def k11 : Class := { plain "[I" (some 0) with kind := .array 10 .int, interfaces := #[7, 4], accessFlags := 1041 }

/-- [Lcom/example/pathfix/pathfix/core/Kind; -/
def k12 : Class := { plain "[Lcom/example/pathfix/pathfix/core/Kind;" (some 0) with kind := .array 6 (.object "com/example/pathfix/pathfix/core/Kind"), interfaces := #[7, 4], accessFlags := 1041 }

def heap : Heap := #[{ cls := 6, slots := #[.ref 3, .ref 2, .ref 4, .ref 5, .ref 1], vm := .statics 6 },
  { cls := 12, slots := #[.ref 3, .ref 2, .ref 4, .ref 5], vm := .none },
  { cls := 6, slots := #[.null, .int 0, .int 0, .int 43], vm := .none },
  { cls := 6, slots := #[.null, .int 0, .int 0, .int 36], vm := .none },
  { cls := 6, slots := #[.null, .int 0, .int 0, .int 35], vm := .none },
  { cls := 6, slots := #[.null, .int 0, .int 0, .int 34], vm := .none }]
def classes : Array Class := #[k0, k1, k2, k3, k4, k5, k6, k7, k8, k9, k10, k11, k12]
def interned : List (Array UInt16 × Addr) := []
def slotsUsed : Nat := 25
def theMethod : MethodId := ⟨1, 3⟩
def args0 : Array Value := #[.int 7, .int 5]
def aboutOver (below : List Frame) : State where
  vm := { classes := classes, interned := interned.toArray }
  heap := heap
  slotsUsed := slotsUsed
  threads := #[{ frames := .invoking theMethod args0 :: below }]
def below0 : List Frame := [.native { method := ⟨0, 0⟩, args := #[] }]
def about1 : State := aboutOver below0
def p0 : Program := .bare "" "" ""
def e0 : Env := launch0.env 0 0 0
theorem w_frames : about1.frames = Frame.invoking theMethod args0 :: below0 := rfl
set_option maxRecDepth 65536 in
theorem w_args : argsFit about1.vm theMethod args0 = true := by decide +kernel
set_option maxRecDepth 65536 in
theorem w_heap : heapFits about1 = true := by decide +kernel
set_option maxRecDepth 65536 in
theorem w_runnable : about1.curStatus? = some .runnable := by decide +kernel
set_option maxRecDepth 65536 in
theorem w_alone : about1.alone = true := by decide +kernel
set_option maxRecDepth 65536 in
theorem w_named : about1.methodNamed? x = some theMethod := by decide +kernel
set_option maxRecDepth 65536 in
theorem w_hears : about1.hears theMethod below0 = true := by decide +kernel
set_option maxRecDepth 65536 in
theorem w_ripe : about1.ripe theMethod args0 below0 = true := by decide +kernel
theorem w_running : about1.status = .running := rfl
set_option maxRecDepth 65536 in
theorem w_room : about1.hasRoom e0.platform room_1 = true :=
  launch0.hasRoom_least _ room_1 (by decide +kernel) (by decide +kernel) (by decide +kernel) (by decide +kernel) (by decide +kernel) (by decide +kernel)
theorem allAtoms_all (ts : List Jvm.Cond) (a : Array Jvm.Value) (st : Jvm.State) : (allAtoms ts).before a st = ts.all (fun c => c.before a st) := by
  induction ts with
  | nil => rfl
  | cons c t ih =>
    show (Jvm.Cond.and c (allAtoms t)).before a st = _
    rw [Jvm.Cond.before_and, ih, List.all_cons]
def words1 : List Jvm.Cond := Jvm.Cond.code x code maxLocals ret :: tables_1
/-- a 'code' word, met by the world's own term for the bytes: nothing is compared byte by byte -/
theorem code_word {y : MethodName} {bytes : ByteArray} {mx : Nat} {rt : Option FieldType} {a : Array Value} {s : State} {m : MethodId} {meth : Method} {c : Code} (h1 : s.methodNamed? y = some m) (h2 : s.vm.method? m = some meth) (h3 : meth.code = some c) (h4 : c.code = bytes)
    (h5 : (c.maxLocals == mx && c.exceptionTable.isEmpty && decide (c.maxStack ≤ mostOperands) && decide (meth.sig.returnType = rt) && !meth.locks && decide (parseMethodDescriptor y.desc = some meth.sig)) = true) : (Jvm.Cond.code y bytes mx rt).before a s = true := by
  simp only [Bool.and_eq_true, beq_iff_eq, Bool.not_eq_true', decide_eq_true_eq] at h5
  obtain ⟨⟨⟨⟨⟨g1, g2⟩, g3⟩, g4⟩, g5⟩, g6⟩ := h5
  simp [Cond.before, Cond.holds, Cond.value, h1, h2, h3, h4, g1, g2, g3, g4, g5, g6]
def isCode : Jvm.Cond → Bool
  | .code _ _ _ _ => true
  | _ => false
theorem all_split {L : List Jvm.Cond} {P : Jvm.Cond → Bool} (h1 : L.all (fun c => isCode c || P c) = true) (h2 : ∀ c ∈ L.filter isCode, P c = true) : L.all P = true := by
  refine List.all_eq_true.mpr fun c hc => ?_
  have h := List.all_eq_true.mp h1 c hc
  rcases Bool.eq_false_or_eq_true (isCode c) with hi | hi
  · exact h2 c (List.mem_filter.mpr ⟨hc, hi⟩)
  · simpa [hi] using h
set_option maxRecDepth 65536 in
theorem w_c0 : (Jvm.Cond.code x code maxLocals ret).before args0 about1 = true := code_word (m := ⟨1, 3⟩) (meth := k1m3) (c := k1c3) (by decide +kernel) rfl rfl rfl (by decide +kernel)
set_option maxRecDepth 65536 in
theorem w_c1 : (Jvm.Cond.code ({ cls := "com/example/pathfix/pathfix/core/KindOfMarkPinLaw", name := "drawMark", desc := "(I)C" } : Jvm.MethodName) method_2_code (1 : Nat) (Option.some Jvm.ClassFile.FieldType.char)).before args0 about1 = true := code_word (m := ⟨1, 1⟩) (meth := k1m1) (c := k1c1) (by decide +kernel) rfl rfl rfl (by decide +kernel)
set_option maxRecDepth 65536 in
theorem w_c2 : (Jvm.Cond.code ({ cls := "com/example/pathfix/pathfix/core/KindOfMarkPinLaw", name := "reference", desc := "(C)Lcom/example/pathfix/pathfix/core/Kind;" } : Jvm.MethodName) method_3_code (1 : Nat) (Option.some (Jvm.ClassFile.FieldType.object "com/example/pathfix/pathfix/core/Kind"))).before args0 about1 = true := code_word (m := ⟨1, 2⟩) (meth := k1m2) (c := k1c2) (by decide +kernel) rfl rfl rfl (by decide +kernel)
set_option maxRecDepth 65536 in
theorem w_c3 : (Jvm.Cond.code ({ cls := "com/example/pathfix/pathfix/core/Kind", name := "ofMark", desc := "(C)Lcom/example/pathfix/pathfix/core/Kind;" } : Jvm.MethodName) prog_12_method_5_code (5 : Nat) (Option.some (Jvm.ClassFile.FieldType.object "com/example/pathfix/pathfix/core/Kind"))).before args0 about1 = true := code_word (m := ⟨6, 2⟩) (meth := k6m2) (c := k6c2) (by decide +kernel) rfl rfl rfl (by decide +kernel)
set_option maxRecDepth 65536 in
theorem w_c4 : (Jvm.Cond.code ({ cls := "com/example/pathfix/pathfix/core/Kind", name := "values", desc := "()[Lcom/example/pathfix/pathfix/core/Kind;" } : Jvm.MethodName) prog_12_method_1_code (0 : Nat) (Option.some (Jvm.ClassFile.FieldType.array (Jvm.ClassFile.FieldType.object "com/example/pathfix/pathfix/core/Kind")))).before args0 about1 = true := code_word (m := ⟨6, 0⟩) (meth := k6m0) (c := k6c0) (by decide +kernel) rfl rfl rfl (by decide +kernel)
set_option maxRecDepth 65536 in
theorem w_c5 : (Jvm.Cond.code ({ cls := "com/example/pathfix/pathfix/core/Kind", name := "mark", desc := "()C" } : Jvm.MethodName) prog_12_method_4_code (1 : Nat) (Option.some Jvm.ClassFile.FieldType.char)).before args0 about1 = true := code_word (m := ⟨6, 1⟩) (meth := k6m1) (c := k6c1) (by decide +kernel) rfl rfl rfl (by decide +kernel)
def codes1 : List Jvm.Cond := [Jvm.Cond.code x code maxLocals ret, Jvm.Cond.code ({ cls := "com/example/pathfix/pathfix/core/KindOfMarkPinLaw", name := "drawMark", desc := "(I)C" } : Jvm.MethodName) method_2_code (1 : Nat) (Option.some Jvm.ClassFile.FieldType.char), Jvm.Cond.code ({ cls := "com/example/pathfix/pathfix/core/KindOfMarkPinLaw", name := "reference", desc := "(C)Lcom/example/pathfix/pathfix/core/Kind;" } : Jvm.MethodName) method_3_code (1 : Nat) (Option.some (Jvm.ClassFile.FieldType.object "com/example/pathfix/pathfix/core/Kind")), Jvm.Cond.code ({ cls := "com/example/pathfix/pathfix/core/Kind", name := "ofMark", desc := "(C)Lcom/example/pathfix/pathfix/core/Kind;" } : Jvm.MethodName) prog_12_method_5_code (5 : Nat) (Option.some (Jvm.ClassFile.FieldType.object "com/example/pathfix/pathfix/core/Kind")), Jvm.Cond.code ({ cls := "com/example/pathfix/pathfix/core/Kind", name := "values", desc := "()[Lcom/example/pathfix/pathfix/core/Kind;" } : Jvm.MethodName) prog_12_method_1_code (0 : Nat) (Option.some (Jvm.ClassFile.FieldType.array (Jvm.ClassFile.FieldType.object "com/example/pathfix/pathfix/core/Kind"))), Jvm.Cond.code ({ cls := "com/example/pathfix/pathfix/core/Kind", name := "mark", desc := "()C" } : Jvm.MethodName) prog_12_method_4_code (1 : Nat) (Option.some Jvm.ClassFile.FieldType.char)]
set_option maxRecDepth 65536 in
theorem codes_eq : words1.filter isCode = codes1 := rfl
theorem w_codes : ∀ c ∈ words1.filter isCode, c.before args0 about1 = true := by
  rw [codes_eq]
  intro c hc
  simp only [codes1, List.mem_cons, List.not_mem_nil, or_false] at hc
  rcases hc with rfl | rfl | rfl | rfl | rfl | rfl
  · exact w_c0
  · exact w_c1
  · exact w_c2
  · exact w_c3
  · exact w_c4
  · exact w_c5
set_option maxRecDepth 65536 in
theorem w_t1 : (words1.take 24).all (fun c => isCode c || c.before args0 about1) = true := by decide +kernel
set_option maxRecDepth 65536 in
theorem w_t2 : (words1.drop 24).all (fun c => isCode c || c.before args0 about1) = true := by decide +kernel
theorem w_tables : (allAtoms (Jvm.Cond.code x code maxLocals ret :: tables_1)).before args0 about1 = true := by
  rw [allAtoms_all]
  show words1.all (fun c => c.before args0 about1) = true
  refine all_split ?_ w_codes
  rw [← List.take_append_drop 24 words1, List.all_append, w_t1, w_t2]
  rfl
set_option maxRecDepth 65536 in
theorem w_case : (Jvm.Cond.and given_1 narrow_1).before args0 about1 = true := by decide +kernel
theorem w_applies : (headSpec (Jvm.Cond.code x code maxLocals ret :: tables_1) room_1).applies x e0.platform about1 = true :=
  (Spec.applies_iff w_frames).mpr ⟨w_running, w_runnable, w_alone, w_named, w_hears, w_ripe, w_room, w_tables⟩
theorem atStart : AtStart classFile x code maxLocals ret World_1 tables_1 room_1 Calls_1 rest_1 Pre_1 launch0 p0 e0 about1 theMethod args0 below0 :=
  ⟨lists_1, trivial, launch0.admits_env _ _ _, launch0.least_env, fairChoices_fair.cas, fairChoices_fair.clock, w_frames, w_args, w_heap, w_applies, trivial, trivial, w_case⟩
end start1
theorem witness_1 : WitnessClaimed_1 := ⟨start1.p0, start1.e0, start1.about1, start1.theMethod, start1.args0, start1.below0, start1.atStart⟩
end Jvm.Pilot.@@N@@
