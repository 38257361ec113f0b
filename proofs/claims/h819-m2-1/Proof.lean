import JvmDerived
import JvmDerived.Pilot.@@N@@Statement
import JvmDerived.Pilot.@@N@@Code
set_option linter.unusedVariables false
set_option linter.unusedSimpArgs false
namespace Jvm.RoadKit
open Sem ClassFile Op Lib Jvm.Stand Jvm.Free Jvm.LawKit
section New
variable {p : Program} {l : Launch} {e : Env} {R : Room} {s : State} {m : MethodId} {args : Array Value} {below : List Frame} {meth : Method} {c : Code} {T : State} {locs : List Loc} {cells slots : Nat}
theorem retI (X : Stand p l e R s m args below meth c T locs cells slots) (hx : p.tables.exec = Jvm.exec) {pc : Nat} {Ls : Array Slot} {z : Int32} {rest : List Value} (hret : meth.sig.returnType = some .int) (hd : decode c.code pc = .ok (.ireturn, 1)) {fs : List Frame}
    (hl : ∀ (f : JFrame) (acts : List Action), f.method = m → f.locked = none → f.entered = [] → (doReturn e (T.setTop f) acts (some (.int z))).1 = T.setFrames fs) : Steps p.tables e below (T.setTop (mkF m pc Ls (.int z :: rest))) (T.setFrames fs) := by
  have hm' : T.vm.method? m = some meth := X.method'
  have hn : narrow .int (.int z) = .int z := rfl
  show Steps p.tables e below (T.setTop { method := m, pc := pc, locals := Ls, stack := _ :: rest, locked := none }) _
  jvm_step X.here [X.here.top, hx, hd, hm', hret, hn]
  first | (intro acts; rw [hl _ acts rfl rfl rfl]) | rw [hl _ _ rfl rfl rfl]
  exact Steps.refl _
end New
end Jvm.RoadKit
namespace Jvm.Pilot.@@N@@
open Jvm Jvm.ClassFile Sem Op Lib Jvm.Free Jvm.Stand Jvm.LawKit Jvm.RoadKit Bundle Jvm.Pilot.@@N@@.Jvm.D
/-- a body's contract: from these arguments and this heap it returns, and Q says what it leaves -/
abbrev OwCon (l : Launch) (y : MethodName) (bytes : ByteArray) (ml : Nat) (ret : Option FieldType) (ws : List Jvm.Cond) (rm : Room) (as : Array Value) (Z : State) (h0 : Heap) (Q : Option Value → Heap → List Loc → Prop) : Prop :=
  MetFree l y (head1 (Jvm.Cond.code y bytes ml ret :: ws) rm) (fun a U => a = as ∧ Z.Warmed39 U.vm ∧ U.heap = h0) (fun _ _ _ _ _ => True) (fun _ U o U' => ∃ v L, o = .returned v ∧ Q v U'.heap L ∧ FrameEnd U o U' L rm.cells rm.slots)
/-- .. it may load literals that nobody loaded before -/
abbrev OwConW (l : Launch) (y : MethodName) (bytes : ByteArray) (ml : Nat) (ret : Option FieldType) (ws : List Jvm.Cond) (rm : Room) (as : Array Value) (Z : State) (h0 : Heap) (Q : Option Value → Heap → List Loc → Prop) : Prop :=
  MetFree l y (head1 (Jvm.Cond.code y bytes ml ret :: ws) rm) (fun a U => a = as ∧ Z.Warmed39 U.vm ∧ U.heap = h0) (fun _ _ _ _ _ => True) (fun _ U o U' => ∃ v L, o = .returned v ∧ Q v U'.heap L ∧ ReturnedEndW U o U' L rm.cells rm.slots)
/-- it returns val and leaves the heap as it was -/
def OwQ (val : Option Value) (h0 : Heap) (n0 : Nat) (v : Option Value) (h : Heap) (L : List Loc) : Prop := v = val ∧ Fr n0 L ∧ h = h0
/-- it writes nothing old, and P holds of what it returns and leaves -/
def OwP (P : Option Value → Heap → Prop) (n0 : Nat) (v : Option Value) (h : Heap) (L : List Loc) : Prop := Fr n0 L ∧ P v h
theorem own_eqI {args : Array Value} {s : State} {t : Term} {k : Int32} (h : (Jvm.Cond.eq t (.int k)).value args s none s [] = some true) : t.eval args s none [] s = some (.int k) := by
  obtain ⟨x, y, h1, h2, -, q⟩ := cmp_v (Or.inl h)
  cases h2
  obtain ⟨z, rfl⟩ := q
  rw [h1]; simp [Cond.value, h1, Term.eval] at h; rw [h]
theorem own_eqJ {args : Array Value} {s : State} {t : Term} {k : Int64} (h : (Jvm.Cond.eq t (.long k)).value args s none s [] = some true) : t.eval args s none [] s = some (.long k) := by
  obtain ⟨x, y, h1, h2, -, q⟩ := cmp_v (Or.inl h)
  cases h2
  obtain ⟨z, rfl⟩ := q
  rw [h1]; simp [Cond.value, h1, Term.eval] at h; rw [h]
theorem own_eqR {args : Array Value} {s : State} {t t' : Term} {a : Addr} (h : (Jvm.Cond.eq t t').value args s none s [] = some true) (e : t'.eval args s none [] s = some (.ref a)) : t.eval args s none [] s = some (.ref a) := by
  obtain ⟨x, y, h1, h2, q, -⟩ := cmp_v (Or.inl h)
  cases e.symm.trans h2
  cases x with
  | null => simp [Cond.value, h1, h2] at h
  | ref b => simp [Cond.value, h1, h2] at h; rw [h1, h]
  | _ => simp [Kin, Value.isRef] at q
theorem own_cat {v : Value} (h : v.isRef = true) : v.category = 1 := by rcases ref_cases h with rfl | ⟨a, rfl⟩ <;> rfl
theorem own_len {args : Array Value} {s : State} {t : Term} {a : Addr} {cl : Cell} {ty : FieldType} {n : Int32} (e : t.eval args s none [] s = some (.ref a)) (A : Arr s s.heap a cl ty) (h : (Term.length t).eval args s none [] s = some (.int n)) : cl.slots.size < 2 ^ 31 ∧ cl.slots.size.toInt32 = n := by
  have q := Arr.fin (Vm.Alike.refl _) A
  simpa [Term.eval, e, q] using h
theorem own_el {args : Array Value} {s : State} {t : Term} {a : Addr} {cl : Cell} {ty : FieldType} {j : Int32} {v : Value} (e : t.eval args s none [] s = some (.ref a)) (A : Arr s s.heap a cl ty) (h : (Term.elem t (.int j)).eval args s none [] s = some v) : cl.slots[j.toNatClampNeg]? = some v := (elem_in h e rfl A.1).2
theorem own_fld {args : Array Value} {s : State} {t : Term} {a : Addr} {C n d : String} {v : Value} (e : t.eval args s none [] s = some (.ref a)) (h : (Term.field t C n d).eval args s none [] s = some v) : Fld s s.heap a C n d v := Fld.start ((fld_at e).symm.trans h)
theorem own_i8 (x : Int32) : (x &&& (7 : Int32)) = 0 ∨ (x &&& (7 : Int32)) = 1 ∨ (x &&& (7 : Int32)) = 2 ∨ (x &&& (7 : Int32)) = 3 ∨ (x &&& (7 : Int32)) = 4 ∨ (x &&& (7 : Int32)) = 5 ∨ (x &&& (7 : Int32)) = 6 ∨ (x &&& (7 : Int32)) = 7 := by
  have h1 := c_mask x (7 : Int32) 3 (by decide) (by decide)
  generalize (x &&& (7 : Int32)) = y at h1 ⊢
  simp only [← Int32.toInt_inj]
  show y.toInt = 0 ∨ y.toInt = 1 ∨ y.toInt = 2 ∨ y.toInt = 3 ∨ y.toInt = 4 ∨ y.toInt = 5 ∨ y.toInt = 6 ∨ y.toInt = 7
  omega

theorem d1_0 : decode method_3_code 0 = .ok (.iload_n 0, 1) := by decide +kernel
theorem d1_1 : decode method_3_code 1 = .ok (.ifCond .ne 7, 3) := by decide +kernel
theorem d1_4 : decode method_3_code 4 = .ok (.getstatic 19, 3) := by decide +kernel
theorem d1_7 : decode method_3_code 7 = .ok (.areturn, 1) := by decide +kernel
theorem d1_8 : decode method_3_code 8 = .ok (.iload_n 0, 1) := by decide +kernel
theorem d1_9 : decode method_3_code 9 = .ok (.iconst 1, 1) := by decide +kernel
theorem d1_10 : decode method_3_code 10 = .ok (.if_icmp .ne 7, 3) := by decide +kernel
theorem d1_13 : decode method_3_code 13 = .ok (.getstatic 23, 3) := by decide +kernel
theorem d1_16 : decode method_3_code 16 = .ok (.areturn, 1) := by decide +kernel
theorem d1_17 : decode method_3_code 17 = .ok (.iload_n 0, 1) := by decide +kernel
theorem d1_18 : decode method_3_code 18 = .ok (.iconst 2, 1) := by decide +kernel
theorem d1_19 : decode method_3_code 19 = .ok (.if_icmp .ne 7, 3) := by decide +kernel
theorem d1_22 : decode method_3_code 22 = .ok (.getstatic 26, 3) := by decide +kernel
theorem d1_25 : decode method_3_code 25 = .ok (.areturn, 1) := by decide +kernel
theorem d1_26 : decode method_3_code 26 = .ok (.iload_n 0, 1) := by decide +kernel
theorem d1_27 : decode method_3_code 27 = .ok (.iconst 3, 1) := by decide +kernel
theorem d1_28 : decode method_3_code 28 = .ok (.if_icmp .ne 7, 3) := by decide +kernel
theorem d1_31 : decode method_3_code 31 = .ok (.getstatic 29, 3) := by decide +kernel
theorem d1_34 : decode method_3_code 34 = .ok (.areturn, 1) := by decide +kernel
theorem d1_35 : decode method_3_code 35 = .ok (.iload_n 0, 1) := by decide +kernel
theorem d1_36 : decode method_3_code 36 = .ok (.iconst 4, 1) := by decide +kernel
theorem d1_37 : decode method_3_code 37 = .ok (.if_icmp .ne 7, 3) := by decide +kernel
theorem d1_40 : decode method_3_code 40 = .ok (.getstatic 32, 3) := by decide +kernel
theorem d1_43 : decode method_3_code 43 = .ok (.areturn, 1) := by decide +kernel
theorem d1_44 : decode method_3_code 44 = .ok (.iload_n 0, 1) := by decide +kernel
theorem d1_45 : decode method_3_code 45 = .ok (.iconst 5, 1) := by decide +kernel
theorem d1_46 : decode method_3_code 46 = .ok (.if_icmp .ne 7, 3) := by decide +kernel
theorem d1_49 : decode method_3_code 49 = .ok (.getstatic 35, 3) := by decide +kernel
theorem d1_52 : decode method_3_code 52 = .ok (.areturn, 1) := by decide +kernel
theorem d1_53 : decode method_3_code 53 = .ok (.iload_n 0, 1) := by decide +kernel
theorem d1_54 : decode method_3_code 54 = .ok (.bipush 6, 2) := by decide +kernel
theorem d1_56 : decode method_3_code 56 = .ok (.if_icmp .ne 7, 3) := by decide +kernel
theorem d1_59 : decode method_3_code 59 = .ok (.getstatic 38, 3) := by decide +kernel
theorem d1_62 : decode method_3_code 62 = .ok (.areturn, 1) := by decide +kernel
theorem d1_63 : decode method_3_code 63 = .ok (.getstatic 41, 3) := by decide +kernel
theorem d1_66 : decode method_3_code 66 = .ok (.areturn, 1) := by decide +kernel
theorem owpn1 : plainName "com/example/clausewright/clausewright/KindNamedByTitlePinLaw" = true := by first | (simp [plainName, overriddenIn]; done) | decide +kernel
theorem d2_0 : decode prog_10_method_6_code 0 = .ok (.aload_n 0, 1) := by decide +kernel
theorem d2_1 : decode prog_10_method_6_code 1 = .ok (.getfield 47, 3) := by decide +kernel
theorem d2_4 : decode prog_10_method_6_code 4 = .ok (.ifnonnull 7, 3) := by decide +kernel
theorem d2_7 : decode prog_10_method_6_code 7 = .ok (.iconst 1, 1) := by decide +kernel
theorem d2_8 : decode prog_10_method_6_code 8 = .ok (.goto 4, 3) := by decide +kernel
theorem d2_11 : decode prog_10_method_6_code 11 = .ok (.iconst 0, 1) := by decide +kernel
theorem d2_12 : decode prog_10_method_6_code 12 = .ok (.ireturn, 1) := by decide +kernel
theorem owpn2 : plainName "com/example/clausewright/clausewright/Clause$Kind" = true := by first | (simp [plainName, overriddenIn]; done) | decide +kernel
theorem owpn0 : plainName "com/example/clausewright/clausewright/KindNamedByTitlePinLaw" = true := by first | (simp [plainName, overriddenIn]; done) | decide +kernel
theorem owpd0 : parseMethodDescriptor "(I)Lcom/example/clausewright/clausewright/Clause$Kind;" = some ⟨[.int], some (.object "com/example/clausewright/clausewright/Clause$Kind")⟩ := by decide +kernel
theorem owpd1 : parseMethodDescriptor "()Z" = some ⟨[], some .boolean⟩ := by decide +kernel
def OwW (Z : State) (w_PREAMBLE : Addr) (w_PREAMBLE_beforeLabel : Addr) (w_SECTION : Addr) (w_SECTION_beforeLabel : Addr) (w_APPENDIX : Addr) (w_APPENDIX_beforeLabel : Addr) (w_BULLETIN : Addr) (w_BULLETIN_beforeLabel : Addr) (w_ARTICLE : Addr) (w_ARTICLE_beforeLabel : Addr) (w_CONTENTS : Addr) (w_CONTENTS_beforeLabel : Addr) (w_HEADING : Addr) (w_ITEM : Addr) (w_ITEM_beforeLabel : Addr) : Prop := (Exa Z Z.heap w_PREAMBLE "com/example/clausewright/clausewright/Clause$Kind") ∧ (Exa Z Z.heap w_PREAMBLE_beforeLabel "java/lang/String") ∧ (Exa Z Z.heap w_SECTION "com/example/clausewright/clausewright/Clause$Kind") ∧ (Exa Z Z.heap w_SECTION_beforeLabel "java/lang/String") ∧ (Exa Z Z.heap w_APPENDIX "com/example/clausewright/clausewright/Clause$Kind") ∧ (Exa Z Z.heap w_APPENDIX_beforeLabel "java/lang/String") ∧ (Exa Z Z.heap w_BULLETIN "com/example/clausewright/clausewright/Clause$Kind") ∧ (Exa Z Z.heap w_BULLETIN_beforeLabel "java/lang/String") ∧ (Exa Z Z.heap w_ARTICLE "com/example/clausewright/clausewright/Clause$Kind") ∧ (Exa Z Z.heap w_ARTICLE_beforeLabel "java/lang/String") ∧ (Exa Z Z.heap w_CONTENTS "com/example/clausewright/clausewright/Clause$Kind") ∧ (Exa Z Z.heap w_CONTENTS_beforeLabel "java/lang/String") ∧ (Exa Z Z.heap w_HEADING "com/example/clausewright/clausewright/Clause$Kind") ∧ (Exa Z Z.heap w_ITEM "com/example/clausewright/clausewright/Clause$Kind") ∧ (Exa Z Z.heap w_ITEM_beforeLabel "java/lang/String") ∧ (Sta Z Z.heap "com/example/clausewright/clausewright/Clause$Kind" "PREAMBLE" "Lcom/example/clausewright/clausewright/Clause$Kind;" (.ref w_PREAMBLE)) ∧ (Fld Z Z.heap w_PREAMBLE "com/example/clausewright/clausewright/Clause$Kind" "beforeLabel" "Ljava/lang/String;" (.ref w_PREAMBLE_beforeLabel)) ∧ (Sta Z Z.heap "com/example/clausewright/clausewright/Clause$Kind" "SECTION" "Lcom/example/clausewright/clausewright/Clause$Kind;" (.ref w_SECTION)) ∧ (Fld Z Z.heap w_SECTION "com/example/clausewright/clausewright/Clause$Kind" "beforeLabel" "Ljava/lang/String;" (.ref w_SECTION_beforeLabel)) ∧ (Sta Z Z.heap "com/example/clausewright/clausewright/Clause$Kind" "APPENDIX" "Lcom/example/clausewright/clausewright/Clause$Kind;" (.ref w_APPENDIX)) ∧ (Fld Z Z.heap w_APPENDIX "com/example/clausewright/clausewright/Clause$Kind" "beforeLabel" "Ljava/lang/String;" (.ref w_APPENDIX_beforeLabel)) ∧ (Sta Z Z.heap "com/example/clausewright/clausewright/Clause$Kind" "BULLETIN" "Lcom/example/clausewright/clausewright/Clause$Kind;" (.ref w_BULLETIN)) ∧ (Fld Z Z.heap w_BULLETIN "com/example/clausewright/clausewright/Clause$Kind" "beforeLabel" "Ljava/lang/String;" (.ref w_BULLETIN_beforeLabel)) ∧ (Sta Z Z.heap "com/example/clausewright/clausewright/Clause$Kind" "ARTICLE" "Lcom/example/clausewright/clausewright/Clause$Kind;" (.ref w_ARTICLE)) ∧ (Fld Z Z.heap w_ARTICLE "com/example/clausewright/clausewright/Clause$Kind" "beforeLabel" "Ljava/lang/String;" (.ref w_ARTICLE_beforeLabel)) ∧ (Sta Z Z.heap "com/example/clausewright/clausewright/Clause$Kind" "CONTENTS" "Lcom/example/clausewright/clausewright/Clause$Kind;" (.ref w_CONTENTS)) ∧ (Fld Z Z.heap w_CONTENTS "com/example/clausewright/clausewright/Clause$Kind" "beforeLabel" "Ljava/lang/String;" (.ref w_CONTENTS_beforeLabel)) ∧ (Sta Z Z.heap "com/example/clausewright/clausewright/Clause$Kind" "HEADING" "Lcom/example/clausewright/clausewright/Clause$Kind;" (.ref w_HEADING)) ∧ (Fld Z Z.heap w_HEADING "com/example/clausewright/clausewright/Clause$Kind" "beforeLabel" "Ljava/lang/String;" .null) ∧ (Sta Z Z.heap "com/example/clausewright/clausewright/Clause$Kind" "ITEM" "Lcom/example/clausewright/clausewright/Clause$Kind;" (.ref w_ITEM)) ∧ (Fld Z Z.heap w_ITEM "com/example/clausewright/clausewright/Clause$Kind" "beforeLabel" "Ljava/lang/String;" (.ref w_ITEM_beforeLabel)) ∧ True
set_option maxRecDepth 65536 in
set_option maxHeartbeats 40000000 in
theorem rm2_n (l : Launch) (Z : State) (a0 : Array Value) (hw : ∀ d ∈ tables_1, d.before a0 Z = true) (ws : List Jvm.Cond) (n0 : Nat) (h0 : Heap) (O : Old Z n0 h0) (w_PREAMBLE : Addr) (w_PREAMBLE_beforeLabel : Addr) (w_SECTION : Addr) (w_SECTION_beforeLabel : Addr) (w_APPENDIX : Addr) (w_APPENDIX_beforeLabel : Addr) (w_BULLETIN : Addr) (w_BULLETIN_beforeLabel : Addr) (w_ARTICLE : Addr) (w_ARTICLE_beforeLabel : Addr) (w_CONTENTS : Addr) (w_CONTENTS_beforeLabel : Addr) (w_HEADING : Addr) (w_ITEM : Addr) (w_ITEM_beforeLabel : Addr) (W : OwW Z w_PREAMBLE w_PREAMBLE_beforeLabel w_SECTION w_SECTION_beforeLabel w_APPENDIX w_APPENDIX_beforeLabel w_BULLETIN w_BULLETIN_beforeLabel w_ARTICLE w_ARTICLE_beforeLabel w_CONTENTS w_CONTENTS_beforeLabel w_HEADING w_ITEM w_ITEM_beforeLabel) (a : Addr) (Fa : Fld Z Z.heap a "com/example/clausewright/clausewright/Clause$Kind" "beforeLabel" "Ljava/lang/String;" .null) :
    OwCon l (⟨"com/example/clausewright/clausewright/Clause$Kind", "namedByTitle", "()Z"⟩ : MethodName) prog_10_method_6_code 1 (some .boolean) ws ({ frames := 0, cells := 0, slots := 0, locals := 0 } : Room) #[(.ref a)] Z h0 (OwQ (some (.int (1 : Int32))) h0 n0) := by
  refine MetFree.of_bodySF (plainFor_of_name owpn2) hisR ?_
  intro p e s m args below meth c s₁ Bd hml0 hP hK
  obtain ⟨rfl, hZ, hh⟩ := hP
  have hx := Bd.exec
  have hby := Bd.bytes
  have hml : c.maxLocals = 1 := hml0
  have hown : s.vm.findClass "com/example/clausewright/clausewright/Clause$Kind" = some m.cls := findClass_of_methodNamed Bd.named
  have hnm := (name_of_methodNamed Bd.named Bd.method).1
  have X0 : Stand p l e ({ frames := 0, cells := 0, slots := 0, locals := 0 } : Room) s m #[(.ref a)] below meth c s₁ [] 0 0 := Stand.of_body Bd
  have e0 : s₁.heap = h0 := by rw [← hh, Bd.state]; rfl
  have N0 := Fr.nil n0
  have WW := W
  obtain ⟨E_w_PREAMBLE, E_w_PREAMBLE_beforeLabel, E_w_SECTION, E_w_SECTION_beforeLabel, E_w_APPENDIX, E_w_APPENDIX_beforeLabel, E_w_BULLETIN, E_w_BULLETIN_beforeLabel, E_w_ARTICLE, E_w_ARTICLE_beforeLabel, E_w_CONTENTS, E_w_CONTENTS_beforeLabel, E_w_HEADING, E_w_ITEM, E_w_ITEM_beforeLabel, S_Clause_Kind_PREAMBLE, F_w_PREAMBLE_beforeLabel, S_Clause_Kind_SECTION, F_w_SECTION_beforeLabel, S_Clause_Kind_APPENDIX, F_w_APPENDIX_beforeLabel, S_Clause_Kind_BULLETIN, F_w_BULLETIN_beforeLabel, S_Clause_Kind_ARTICLE, F_w_ARTICLE_beforeLabel, S_Clause_Kind_CONTENTS, F_w_CONTENTS_beforeLabel, S_Clause_Kind_HEADING, F_w_HEADING_beforeLabel, S_Clause_Kind_ITEM, F_w_ITEM_beforeLabel, -⟩ := WW
  have ef : entryFrame m #[(.ref a)] 1 = mkF m 0 #[.val (.ref a)] [] := by first | rfl | (simp [entryFrame, mkF, argsToLocals, Value.category]; done)
  have pre0 : ∀ t, Steps p.tables e below (s₁.setTop (mkF m 0 #[.val (.ref a)] [])) t → Steps p.tables e below (s₁.setTop (entryFrame m #[(.ref a)] 1)) t := fun t k => castTop ef k
  obtain ⟨T1, X1, e1, st1⟩ := getF X0 hx hZ hown (host := "") (Or.inl (hw _ (List.mem_of_getElem? (i := 12) rfl))) Via.refl e0 (Fa.ext O.2) (g := (mkF m 1 #[.val (.ref a)] [(.ref a)])) rfl rfl (hb hby d2_1)
  obtain ⟨fs, hr, hrun, hended, hW, hsame⟩ := X1.leave (v := some (.int (1 : Int32))) (fun h => by rw [Bd.returns] at h; cases h)
  refine ⟨_, _, pre0 _ ?_, hrun, hended, _, _, rfl, ?_, ⟨_, rfl⟩, hW, hsame.mono (by decide) (by decide)⟩
  · show Steps p.tables e below (s₁.setTop (mkF m 0 #[.val (.ref a)] [])) _
    refine XS.aloadN X0.here hx rfl (hb hby d2_0) rfl rfl ?_
    show Steps p.tables e below (s₁.setTop (mkF m 1 #[.val (.ref a)] [(.ref a)])) _
    refine st1 _ ?_
    show Steps p.tables e below (T1.setTop (mkF m 4 #[.val (.ref a)] [.null])) _
    refine XS.ifnonnullNo X1.here hx rfl (hb hby d2_4) rfl ?_
    show Steps p.tables e below (T1.setTop (mkF m 7 #[.val (.ref a)] [])) _
    refine XS.iconst X1.here hx rfl (hb hby d2_7) ?_
    show Steps p.tables e below (T1.setTop (mkF m 8 #[.val (.ref a)] [(.int (1 : Int32))])) _
    refine XS.goto X1.here hx rfl (pc0 := 8) (pc' := 12) rfl (hb hby d2_8) (by decide) (by decide) ?_
    show Steps p.tables e below (T1.setTop (mkF m 12 #[.val (.ref a)] [(.int (1 : Int32))])) _
    exact retN X1 hx (t := .boolean) Bd.returns (by simp) (hb hby d2_12) hr
  · exact ⟨rfl, N0, e1⟩
set_option maxRecDepth 65536 in
set_option maxHeartbeats 40000000 in
theorem rm2_r (l : Launch) (Z : State) (a0 : Array Value) (hw : ∀ d ∈ tables_1, d.before a0 Z = true) (ws : List Jvm.Cond) (n0 : Nat) (h0 : Heap) (O : Old Z n0 h0) (w_PREAMBLE : Addr) (w_PREAMBLE_beforeLabel : Addr) (w_SECTION : Addr) (w_SECTION_beforeLabel : Addr) (w_APPENDIX : Addr) (w_APPENDIX_beforeLabel : Addr) (w_BULLETIN : Addr) (w_BULLETIN_beforeLabel : Addr) (w_ARTICLE : Addr) (w_ARTICLE_beforeLabel : Addr) (w_CONTENTS : Addr) (w_CONTENTS_beforeLabel : Addr) (w_HEADING : Addr) (w_ITEM : Addr) (w_ITEM_beforeLabel : Addr) (W : OwW Z w_PREAMBLE w_PREAMBLE_beforeLabel w_SECTION w_SECTION_beforeLabel w_APPENDIX w_APPENDIX_beforeLabel w_BULLETIN w_BULLETIN_beforeLabel w_ARTICLE w_ARTICLE_beforeLabel w_CONTENTS w_CONTENTS_beforeLabel w_HEADING w_ITEM w_ITEM_beforeLabel) (a : Addr) (r : Addr) (Fa : Fld Z Z.heap a "com/example/clausewright/clausewright/Clause$Kind" "beforeLabel" "Ljava/lang/String;" (.ref r)) :
    OwCon l (⟨"com/example/clausewright/clausewright/Clause$Kind", "namedByTitle", "()Z"⟩ : MethodName) prog_10_method_6_code 1 (some .boolean) ws ({ frames := 0, cells := 0, slots := 0, locals := 0 } : Room) #[(.ref a)] Z h0 (OwQ (some (.int (0 : Int32))) h0 n0) := by
  refine MetFree.of_bodySF (plainFor_of_name owpn2) hisR ?_
  intro p e s m args below meth c s₁ Bd hml0 hP hK
  obtain ⟨rfl, hZ, hh⟩ := hP
  have hx := Bd.exec
  have hby := Bd.bytes
  have hml : c.maxLocals = 1 := hml0
  have hown : s.vm.findClass "com/example/clausewright/clausewright/Clause$Kind" = some m.cls := findClass_of_methodNamed Bd.named
  have hnm := (name_of_methodNamed Bd.named Bd.method).1
  have X0 : Stand p l e ({ frames := 0, cells := 0, slots := 0, locals := 0 } : Room) s m #[(.ref a)] below meth c s₁ [] 0 0 := Stand.of_body Bd
  have e0 : s₁.heap = h0 := by rw [← hh, Bd.state]; rfl
  have N0 := Fr.nil n0
  have WW := W
  obtain ⟨E_w_PREAMBLE, E_w_PREAMBLE_beforeLabel, E_w_SECTION, E_w_SECTION_beforeLabel, E_w_APPENDIX, E_w_APPENDIX_beforeLabel, E_w_BULLETIN, E_w_BULLETIN_beforeLabel, E_w_ARTICLE, E_w_ARTICLE_beforeLabel, E_w_CONTENTS, E_w_CONTENTS_beforeLabel, E_w_HEADING, E_w_ITEM, E_w_ITEM_beforeLabel, S_Clause_Kind_PREAMBLE, F_w_PREAMBLE_beforeLabel, S_Clause_Kind_SECTION, F_w_SECTION_beforeLabel, S_Clause_Kind_APPENDIX, F_w_APPENDIX_beforeLabel, S_Clause_Kind_BULLETIN, F_w_BULLETIN_beforeLabel, S_Clause_Kind_ARTICLE, F_w_ARTICLE_beforeLabel, S_Clause_Kind_CONTENTS, F_w_CONTENTS_beforeLabel, S_Clause_Kind_HEADING, F_w_HEADING_beforeLabel, S_Clause_Kind_ITEM, F_w_ITEM_beforeLabel, -⟩ := WW
  have ef : entryFrame m #[(.ref a)] 1 = mkF m 0 #[.val (.ref a)] [] := by first | rfl | (simp [entryFrame, mkF, argsToLocals, Value.category]; done)
  have pre0 : ∀ t, Steps p.tables e below (s₁.setTop (mkF m 0 #[.val (.ref a)] [])) t → Steps p.tables e below (s₁.setTop (entryFrame m #[(.ref a)] 1)) t := fun t k => castTop ef k
  obtain ⟨T1, X1, e1, st1⟩ := getF X0 hx hZ hown (host := "") (Or.inl (hw _ (List.mem_of_getElem? (i := 12) rfl))) Via.refl e0 (Fa.ext O.2) (g := (mkF m 1 #[.val (.ref a)] [(.ref a)])) rfl rfl (hb hby d2_1)
  obtain ⟨fs, hr, hrun, hended, hW, hsame⟩ := X1.leave (v := some (.int (0 : Int32))) (fun h => by rw [Bd.returns] at h; cases h)
  refine ⟨_, _, pre0 _ ?_, hrun, hended, _, _, rfl, ?_, ⟨_, rfl⟩, hW, hsame.mono (by decide) (by decide)⟩
  · show Steps p.tables e below (s₁.setTop (mkF m 0 #[.val (.ref a)] [])) _
    refine XS.aloadN X0.here hx rfl (hb hby d2_0) rfl rfl ?_
    show Steps p.tables e below (s₁.setTop (mkF m 1 #[.val (.ref a)] [(.ref a)])) _
    refine st1 _ ?_
    show Steps p.tables e below (T1.setTop (mkF m 4 #[.val (.ref a)] [(.ref r)])) _
    refine XS.ifnonnullYes X1.here hx rfl (pc0 := 4) (pc' := 11) rfl (hb hby d2_4) rfl (by decide) (by decide) ?_
    show Steps p.tables e below (T1.setTop (mkF m 11 #[.val (.ref a)] [])) _
    refine XS.iconst X1.here hx rfl (hb hby d2_11) ?_
    show Steps p.tables e below (T1.setTop (mkF m 12 #[.val (.ref a)] [(.int (0 : Int32))])) _
    exact retN X1 hx (t := .boolean) Bd.returns (by simp) (hb hby d2_12) hr
  · exact ⟨rfl, N0, e1⟩
set_option maxRecDepth 65536 in
set_option maxHeartbeats 40000000 in
theorem rm1_0 (l : Launch) (Z : State) (a0 : Array Value) (hw : ∀ d ∈ tables_1, d.before a0 Z = true) (ws : List Jvm.Cond) (n0 : Nat) (h0 : Heap) (O : Old Z n0 h0) (w_PREAMBLE : Addr) (w_PREAMBLE_beforeLabel : Addr) (w_SECTION : Addr) (w_SECTION_beforeLabel : Addr) (w_APPENDIX : Addr) (w_APPENDIX_beforeLabel : Addr) (w_BULLETIN : Addr) (w_BULLETIN_beforeLabel : Addr) (w_ARTICLE : Addr) (w_ARTICLE_beforeLabel : Addr) (w_CONTENTS : Addr) (w_CONTENTS_beforeLabel : Addr) (w_HEADING : Addr) (w_ITEM : Addr) (w_ITEM_beforeLabel : Addr) (W : OwW Z w_PREAMBLE w_PREAMBLE_beforeLabel w_SECTION w_SECTION_beforeLabel w_APPENDIX w_APPENDIX_beforeLabel w_BULLETIN w_BULLETIN_beforeLabel w_ARTICLE w_ARTICLE_beforeLabel w_CONTENTS w_CONTENTS_beforeLabel w_HEADING w_ITEM w_ITEM_beforeLabel)  :
    OwCon l (⟨"com/example/clausewright/clausewright/KindNamedByTitlePinLaw", "pick", "(I)Lcom/example/clausewright/clausewright/Clause$Kind;"⟩ : MethodName) method_3_code 1 (some (.object "com/example/clausewright/clausewright/Clause$Kind")) ws ({ frames := 0, cells := 0, slots := 0, locals := 0 } : Room) #[(.int (0 : Int32))] Z h0 (OwQ (some (.ref w_PREAMBLE)) h0 n0) := by
  refine MetFree.of_bodySF (plainFor_of_name owpn1) hisR ?_
  intro p e s m args below meth c s₁ Bd hml0 hP hK
  obtain ⟨rfl, hZ, hh⟩ := hP
  have hx := Bd.exec
  have hby := Bd.bytes
  have hml : c.maxLocals = 1 := hml0
  have hown : s.vm.findClass "com/example/clausewright/clausewright/KindNamedByTitlePinLaw" = some m.cls := findClass_of_methodNamed Bd.named
  have hnm := (name_of_methodNamed Bd.named Bd.method).1
  have X0 : Stand p l e ({ frames := 0, cells := 0, slots := 0, locals := 0 } : Room) s m #[(.int (0 : Int32))] below meth c s₁ [] 0 0 := Stand.of_body Bd
  have e0 : s₁.heap = h0 := by rw [← hh, Bd.state]; rfl
  have N0 := Fr.nil n0
  have WW := W
  obtain ⟨E_w_PREAMBLE, E_w_PREAMBLE_beforeLabel, E_w_SECTION, E_w_SECTION_beforeLabel, E_w_APPENDIX, E_w_APPENDIX_beforeLabel, E_w_BULLETIN, E_w_BULLETIN_beforeLabel, E_w_ARTICLE, E_w_ARTICLE_beforeLabel, E_w_CONTENTS, E_w_CONTENTS_beforeLabel, E_w_HEADING, E_w_ITEM, E_w_ITEM_beforeLabel, S_Clause_Kind_PREAMBLE, F_w_PREAMBLE_beforeLabel, S_Clause_Kind_SECTION, F_w_SECTION_beforeLabel, S_Clause_Kind_APPENDIX, F_w_APPENDIX_beforeLabel, S_Clause_Kind_BULLETIN, F_w_BULLETIN_beforeLabel, S_Clause_Kind_ARTICLE, F_w_ARTICLE_beforeLabel, S_Clause_Kind_CONTENTS, F_w_CONTENTS_beforeLabel, S_Clause_Kind_HEADING, F_w_HEADING_beforeLabel, S_Clause_Kind_ITEM, F_w_ITEM_beforeLabel, -⟩ := WW
  have ef : entryFrame m #[(.int (0 : Int32))] 1 = mkF m 0 #[.val (.int (0 : Int32))] [] := by first | rfl | (simp [entryFrame, mkF, argsToLocals, Value.category]; done)
  have pre0 : ∀ t, Steps p.tables e below (s₁.setTop (mkF m 0 #[.val (.int (0 : Int32))] [])) t → Steps p.tables e below (s₁.setTop (entryFrame m #[(.int (0 : Int32))] 1)) t := fun t k => castTop ef k
  obtain ⟨T1, X1, e1, st1⟩ := getS2 X0 hx hZ hown (host := "") (Or.inl (hw _ (List.mem_of_getElem? (i := 4) rfl))) Via.refl e0 (S_Clause_Kind_PREAMBLE.ext O.2) (g := (mkF m 4 #[.val (.int (0 : Int32))] [])) rfl (hb hby d1_4)
  obtain ⟨fs, hr, hrun, hended, hW, hsame⟩ := X1.leave (v := some (.ref w_PREAMBLE)) (fun h => by rw [Bd.returns] at h; cases h)
  refine ⟨_, _, pre0 _ ?_, hrun, hended, _, _, rfl, ?_, ⟨_, rfl⟩, hW, hsame.mono (by decide) (by decide)⟩
  · show Steps p.tables e below (s₁.setTop (mkF m 0 #[.val (.int (0 : Int32))] [])) _
    refine XS.iloadN X0.here hx rfl (hb hby d1_0) rfl ?_
    show Steps p.tables e below (s₁.setTop (mkF m 1 #[.val (.int (0 : Int32))] [(.int (0 : Int32))])) _
    refine XS.ifNo X0.here hx rfl (hb hby d1_1) rfl ((if0 _ _).trans (teq (by decide : (0 : Int32) = (0 : Int32))).2) ?_
    show Steps p.tables e below (s₁.setTop (mkF m 4 #[.val (.int (0 : Int32))] [])) _
    refine st1 _ ?_
    show Steps p.tables e below (T1.setTop (mkF m 7 #[.val (.int (0 : Int32))] [(.ref w_PREAMBLE)])) _
    exact retOut X1 hx Bd.returns rfl (Or.inr (Or.inr (Or.inr (Or.inr ⟨rfl, rfl, rfl⟩)))) (hb hby d1_7) hr
  · exact ⟨rfl, N0, e1⟩
set_option maxRecDepth 65536 in
set_option maxHeartbeats 40000000 in
theorem rm0_0 (l : Launch) (Z : State) (a0 : Array Value) (hw : ∀ d ∈ tables_1, d.before a0 Z = true) (ws : List Jvm.Cond) (n0 : Nat) (h0 : Heap) (O : Old Z n0 h0) (w_PREAMBLE : Addr) (w_PREAMBLE_beforeLabel : Addr) (w_SECTION : Addr) (w_SECTION_beforeLabel : Addr) (w_APPENDIX : Addr) (w_APPENDIX_beforeLabel : Addr) (w_BULLETIN : Addr) (w_BULLETIN_beforeLabel : Addr) (w_ARTICLE : Addr) (w_ARTICLE_beforeLabel : Addr) (w_CONTENTS : Addr) (w_CONTENTS_beforeLabel : Addr) (w_HEADING : Addr) (w_ITEM : Addr) (w_ITEM_beforeLabel : Addr) (W : OwW Z w_PREAMBLE w_PREAMBLE_beforeLabel w_SECTION w_SECTION_beforeLabel w_APPENDIX w_APPENDIX_beforeLabel w_BULLETIN w_BULLETIN_beforeLabel w_ARTICLE w_ARTICLE_beforeLabel w_CONTENTS w_CONTENTS_beforeLabel w_HEADING w_ITEM w_ITEM_beforeLabel) (p0 : Int32) (hi : p0 &&& (7 : Int32) = (0 : Int32)) :
    OwCon l x code maxLocals ret ws room_1 #[(.int p0)] Z h0 (OwP (fun v _ => v = some (.int 1)) n0) := by
  refine MetFree.of_bodySF (plainFor_of_name owpn0) hisR ?_
  intro p e s m args below meth c s₁ Bd hml0 hP hK
  obtain ⟨rfl, hZ, hh⟩ := hP
  have hx := Bd.exec
  have hby := Bd.bytes
  have hml : c.maxLocals = 4 := hml0
  have hown : s.vm.findClass "com/example/clausewright/clausewright/KindNamedByTitlePinLaw" = some m.cls := findClass_of_methodNamed Bd.named
  have hnm := (name_of_methodNamed Bd.named Bd.method).1
  have X0 : Stand p l e room_1 s m #[(.int p0)] below meth c s₁ [] 0 0 := Stand.of_body Bd
  have e0 : s₁.heap = h0 := by rw [← hh, Bd.state]; rfl
  have N0 := Fr.nil n0
  have WW := W
  obtain ⟨E_w_PREAMBLE, E_w_PREAMBLE_beforeLabel, E_w_SECTION, E_w_SECTION_beforeLabel, E_w_APPENDIX, E_w_APPENDIX_beforeLabel, E_w_BULLETIN, E_w_BULLETIN_beforeLabel, E_w_ARTICLE, E_w_ARTICLE_beforeLabel, E_w_CONTENTS, E_w_CONTENTS_beforeLabel, E_w_HEADING, E_w_ITEM, E_w_ITEM_beforeLabel, S_Clause_Kind_PREAMBLE, F_w_PREAMBLE_beforeLabel, S_Clause_Kind_SECTION, F_w_SECTION_beforeLabel, S_Clause_Kind_APPENDIX, F_w_APPENDIX_beforeLabel, S_Clause_Kind_BULLETIN, F_w_BULLETIN_beforeLabel, S_Clause_Kind_ARTICLE, F_w_ARTICLE_beforeLabel, S_Clause_Kind_CONTENTS, F_w_CONTENTS_beforeLabel, S_Clause_Kind_HEADING, F_w_HEADING_beforeLabel, S_Clause_Kind_ITEM, F_w_ITEM_beforeLabel, -⟩ := WW
  have ef : entryFrame m #[(.int p0)] maxLocals = mkF m 0 #[.val (.int p0), .unset, .unset, .unset] [] := by first | rfl | (simp [entryFrame, mkF, argsToLocals, Value.category, maxLocals]; done)
  have pre0 : ∀ t, Steps p.tables e below (s₁.setTop (mkF m 0 #[.val (.int p0), .unset, .unset, .unset] [])) t → Steps p.tables e below (s₁.setTop (entryFrame m #[(.int p0)] maxLocals)) t := fun t k => castTop ef k
  obtain ⟨_, _, ⟨T1, L1, k1, n1⟩, -, X1, ⟨Lc1, hQ1, l1, y1, z1⟩, st1⟩ := Jvm.LawKit.callS X0 hx (y := (⟨"com/example/clausewright/clausewright/KindNamedByTitlePinLaw", "pick", "(I)Lcom/example/clausewright/clausewright/Clause$Kind;"⟩ : MethodName)) hown (mvT hZ (hw _ (List.mem_of_getElem? (i := 0) rfl))) (mvT hZ (hw _ (List.mem_of_getElem? (i := 1) rfl))) (mvT hZ (hw _ (List.mem_of_getElem? (i := 2) rfl))) (mvT hZ (hw _ (List.mem_of_getElem? (i := 3) rfl))) (by decide) (backOf (W := 0) (rm1_0 l Z a0 hw [] n0 h0 O w_PREAMBLE w_PREAMBLE_beforeLabel w_SECTION w_SECTION_beforeLabel w_APPENDIX w_APPENDIX_beforeLabel w_BULLETIN w_BULLETIN_beforeLabel w_ARTICLE w_ARTICLE_beforeLabel w_CONTENTS w_CONTENTS_beforeLabel w_HEADING w_ITEM w_ITEM_beforeLabel W  ) hZ (hw _ (List.mem_of_getElem? (i := 3) rfl)) (hw _ (List.mem_of_getElem? (i := 2) rfl)) (by decide) (by decide)) (g := (mkF m 6 #[.val (.int p0), .val (.int (0 : Int32)), .unset, .unset] [(.int (0 : Int32))])) rfl (by rw [hml]; rfl) (argsL := [(.int (0 : Int32))]) (rest := []) (lenOf owpd0 rfl) rfl (by show 2 * 0 + _ ≤ _; exact Nat.le_of_eq rfl) (hb hby at_6) (fun _ _ => ⟨rfl, e0, (by decide : 0 + 0 ≤ _), (by decide : 0 + 0 ≤ _)⟩)
  dsimp only [Pt.U, Pt.locs, Pt.cells, Pt.slots] at X1 l1 y1 z1 st1 hQ1
  subst l1 y1 z1
  obtain ⟨rfl, Nq1, e1⟩ := hQ1
  have N1 := Fr.app N0 Nq1
  obtain ⟨cq2, kq2, q2a, q2b, q2c⟩ := isOf hZ e1 (E_w_PREAMBLE.ext O.2)
  obtain ⟨_, _, ⟨T2, L2, k2, n2⟩, -, X2, ⟨Lc2, hQ2, l2, y2, z2⟩, st2⟩ := X1.virtualBack hx (y := (⟨"com/example/clausewright/clausewright/Clause$Kind", "namedByTitle", "()Z"⟩ : MethodName)) (z := (⟨"com/example/clausewright/clausewright/Clause$Kind", "namedByTitle", "()Z"⟩ : MethodName)) hown (mvT hZ (hw _ (List.mem_of_getElem? (i := 7) rfl))) (mvT hZ (hw _ (List.mem_of_getElem? (i := 8) rfl))) (notFace_of_selects (args := #[]) (mvT hZ (hw _ (List.mem_of_getElem? (i := 10) rfl)))) (mvT hZ (hw _ (List.mem_of_getElem? (i := 10) rfl))) (mvT hZ (hw _ (List.mem_of_getElem? (i := 9) rfl))) (by decide) (backOf (W := 0) (rm2_r l Z a0 hw [] n0 h0 O w_PREAMBLE w_PREAMBLE_beforeLabel w_SECTION w_SECTION_beforeLabel w_APPENDIX w_APPENDIX_beforeLabel w_BULLETIN w_BULLETIN_beforeLabel w_ARTICLE w_ARTICLE_beforeLabel w_CONTENTS w_CONTENTS_beforeLabel w_HEADING w_ITEM w_ITEM_beforeLabel W w_PREAMBLE w_PREAMBLE_beforeLabel F_w_PREAMBLE_beforeLabel) hZ (hw _ (List.mem_of_getElem? (i := 11) rfl)) (hw _ (List.mem_of_getElem? (i := 5) rfl)) (by decide) (by decide)) q2a q2c (g := (mkF m 22 #[.val (.int p0), .val (.int (0 : Int32)), .val (.ref w_PREAMBLE), .val (.int (0 : Int32))] [(.ref w_PREAMBLE)])) rfl (by rw [hml]; rfl) (Steps.refl _) (argsL := []) (rest := []) (lenOf owpd1 rfl) rfl (by show 2 * 0 + _ ≤ _; exact Nat.le_of_eq rfl) (hb hby at_22) (fun _ _ => ⟨rfl, e1, (by decide : 0 + 0 ≤ _), (by decide : 0 + 0 ≤ _)⟩)
  dsimp only [Pt.U, Pt.locs, Pt.cells, Pt.slots] at X2 l2 y2 z2 st2 hQ2
  subst l2 y2 z2
  obtain ⟨rfl, Nq2, e2⟩ := hQ2
  have N2 := Fr.app N1 Nq2
  obtain ⟨fs, hr, hrun, hended, hW, hsame⟩ := X2.leave (v := some (.int (1 : Int32))) (fun h => by rw [Bd.returns] at h; cases h)
  refine ⟨_, _, pre0 _ ?_, hrun, hended, _, _, rfl, ?_, ⟨_, rfl⟩, hW, hsame.mono (by decide) (by decide)⟩
  · show Steps p.tables e below (s₁.setTop (mkF m 0 #[.val (.int p0), .unset, .unset, .unset] [])) _
    refine XS.iloadN X0.here hx rfl (hb hby at_0) rfl ?_
    show Steps p.tables e below (s₁.setTop (mkF m 1 #[.val (.int p0), .unset, .unset, .unset] [(.int p0)])) _
    refine XS.bipush X0.here hx rfl (hb hby at_1) ?_
    show Steps p.tables e below (s₁.setTop (mkF m 3 #[.val (.int p0), .unset, .unset, .unset] [(.int (7 : Int32)), (.int p0)])) _
    refine XS.iand X0.here hx rfl (hb hby at_3) rfl ?_
    show Steps p.tables e below (s₁.setTop (mkF m 4 #[.val (.int p0), .unset, .unset, .unset] [(.int (p0 &&& (7 : Int32)))])) _
    rw [hi]
    show Steps p.tables e below (s₁.setTop (mkF m 4 #[.val (.int p0), .unset, .unset, .unset] [(.int (0 : Int32))])) _
    refine XS.istoreN X0.here hx rfl (hb hby at_4) rfl (l' := #[.val (.int p0), .val (.int (0 : Int32)), .unset, .unset]) rfl ?_
    show Steps p.tables e below (s₁.setTop (mkF m 5 #[.val (.int p0), .val (.int (0 : Int32)), .unset, .unset] [])) _
    refine XS.iloadN X0.here hx rfl (hb hby at_5) rfl ?_
    show Steps p.tables e below (s₁.setTop (mkF m 6 #[.val (.int p0), .val (.int (0 : Int32)), .unset, .unset] [(.int (0 : Int32))])) _
    refine st1 _ ?_
    show Steps p.tables e below (T1.setTop (mkF m 9 #[.val (.int p0), .val (.int (0 : Int32)), .unset, .unset] [(.ref w_PREAMBLE)])) _
    refine XS.astoreN X1.here hx rfl (hb hby at_9) rfl rfl (l' := #[.val (.int p0), .val (.int (0 : Int32)), .val (.ref w_PREAMBLE), .unset]) rfl ?_
    show Steps p.tables e below (T1.setTop (mkF m 10 #[.val (.int p0), .val (.int (0 : Int32)), .val (.ref w_PREAMBLE), .unset] [])) _
    refine XS.iloadN X1.here hx rfl (hb hby at_10) rfl ?_
    show Steps p.tables e below (T1.setTop (mkF m 11 #[.val (.int p0), .val (.int (0 : Int32)), .val (.ref w_PREAMBLE), .unset] [(.int (0 : Int32))])) _
    refine XS.iconst X1.here hx rfl (hb hby at_11) ?_
    show Steps p.tables e below (T1.setTop (mkF m 12 #[.val (.int p0), .val (.int (0 : Int32)), .val (.ref w_PREAMBLE), .unset] [(.int (4 : Int32)), (.int (0 : Int32))])) _
    refine XS.icmpYes X1.here hx rfl (pc0 := 12) (pc' := 19) rfl (hb hby at_12) rfl (feq (by decide : ¬ ((0 : Int32) = (4 : Int32)))).2 (by decide) (by decide) ?_
    show Steps p.tables e below (T1.setTop (mkF m 19 #[.val (.int p0), .val (.int (0 : Int32)), .val (.ref w_PREAMBLE), .unset] [])) _
    refine XS.iconst X1.here hx rfl (hb hby at_19) ?_
    show Steps p.tables e below (T1.setTop (mkF m 20 #[.val (.int p0), .val (.int (0 : Int32)), .val (.ref w_PREAMBLE), .unset] [(.int (0 : Int32))])) _
    refine XS.istoreN X1.here hx rfl (hb hby at_20) rfl (l' := #[.val (.int p0), .val (.int (0 : Int32)), .val (.ref w_PREAMBLE), .val (.int (0 : Int32))]) rfl ?_
    show Steps p.tables e below (T1.setTop (mkF m 21 #[.val (.int p0), .val (.int (0 : Int32)), .val (.ref w_PREAMBLE), .val (.int (0 : Int32))] [])) _
    refine XS.aloadN X1.here hx rfl (hb hby at_21) rfl rfl ?_
    show Steps p.tables e below (T1.setTop (mkF m 22 #[.val (.int p0), .val (.int (0 : Int32)), .val (.ref w_PREAMBLE), .val (.int (0 : Int32))] [(.ref w_PREAMBLE)])) _
    refine st2.trans ?_
    show Steps p.tables e below (T2.setTop (mkF m 25 #[.val (.int p0), .val (.int (0 : Int32)), .val (.ref w_PREAMBLE), .val (.int (0 : Int32))] [(.int (0 : Int32))])) _
    refine XS.iloadN X2.here hx rfl (hb hby at_25) rfl ?_
    show Steps p.tables e below (T2.setTop (mkF m 26 #[.val (.int p0), .val (.int (0 : Int32)), .val (.ref w_PREAMBLE), .val (.int (0 : Int32))] [(.int (0 : Int32)), (.int (0 : Int32))])) _
    refine XS.icmpNo X2.here hx rfl (hb hby at_26) rfl (teq (by decide : (0 : Int32) = (0 : Int32))).2 ?_
    show Steps p.tables e below (T2.setTop (mkF m 29 #[.val (.int p0), .val (.int (0 : Int32)), .val (.ref w_PREAMBLE), .val (.int (0 : Int32))] [])) _
    refine XS.iconst X2.here hx rfl (hb hby at_29) ?_
    show Steps p.tables e below (T2.setTop (mkF m 30 #[.val (.int p0), .val (.int (0 : Int32)), .val (.ref w_PREAMBLE), .val (.int (0 : Int32))] [(.int (1 : Int32))])) _
    refine XS.goto X2.here hx rfl (pc0 := 30) (pc' := 34) rfl (hb hby at_30) (by decide) (by decide) ?_
    show Steps p.tables e below (T2.setTop (mkF m 34 #[.val (.int p0), .val (.int (0 : Int32)), .val (.ref w_PREAMBLE), .val (.int (0 : Int32))] [(.int (1 : Int32))])) _
    exact retN X2 hx (t := .boolean) Bd.returns (by simp) (hb hby at_34) hr
  · exact ⟨N2, rfl⟩
set_option maxRecDepth 65536 in
set_option maxHeartbeats 40000000 in
theorem rm1_1 (l : Launch) (Z : State) (a0 : Array Value) (hw : ∀ d ∈ tables_1, d.before a0 Z = true) (ws : List Jvm.Cond) (n0 : Nat) (h0 : Heap) (O : Old Z n0 h0) (w_PREAMBLE : Addr) (w_PREAMBLE_beforeLabel : Addr) (w_SECTION : Addr) (w_SECTION_beforeLabel : Addr) (w_APPENDIX : Addr) (w_APPENDIX_beforeLabel : Addr) (w_BULLETIN : Addr) (w_BULLETIN_beforeLabel : Addr) (w_ARTICLE : Addr) (w_ARTICLE_beforeLabel : Addr) (w_CONTENTS : Addr) (w_CONTENTS_beforeLabel : Addr) (w_HEADING : Addr) (w_ITEM : Addr) (w_ITEM_beforeLabel : Addr) (W : OwW Z w_PREAMBLE w_PREAMBLE_beforeLabel w_SECTION w_SECTION_beforeLabel w_APPENDIX w_APPENDIX_beforeLabel w_BULLETIN w_BULLETIN_beforeLabel w_ARTICLE w_ARTICLE_beforeLabel w_CONTENTS w_CONTENTS_beforeLabel w_HEADING w_ITEM w_ITEM_beforeLabel)  :
    OwCon l (⟨"com/example/clausewright/clausewright/KindNamedByTitlePinLaw", "pick", "(I)Lcom/example/clausewright/clausewright/Clause$Kind;"⟩ : MethodName) method_3_code 1 (some (.object "com/example/clausewright/clausewright/Clause$Kind")) ws ({ frames := 0, cells := 0, slots := 0, locals := 0 } : Room) #[(.int (1 : Int32))] Z h0 (OwQ (some (.ref w_CONTENTS)) h0 n0) := by
  refine MetFree.of_bodySF (plainFor_of_name owpn1) hisR ?_
  intro p e s m args below meth c s₁ Bd hml0 hP hK
  obtain ⟨rfl, hZ, hh⟩ := hP
  have hx := Bd.exec
  have hby := Bd.bytes
  have hml : c.maxLocals = 1 := hml0
  have hown : s.vm.findClass "com/example/clausewright/clausewright/KindNamedByTitlePinLaw" = some m.cls := findClass_of_methodNamed Bd.named
  have hnm := (name_of_methodNamed Bd.named Bd.method).1
  have X0 : Stand p l e ({ frames := 0, cells := 0, slots := 0, locals := 0 } : Room) s m #[(.int (1 : Int32))] below meth c s₁ [] 0 0 := Stand.of_body Bd
  have e0 : s₁.heap = h0 := by rw [← hh, Bd.state]; rfl
  have N0 := Fr.nil n0
  have WW := W
  obtain ⟨E_w_PREAMBLE, E_w_PREAMBLE_beforeLabel, E_w_SECTION, E_w_SECTION_beforeLabel, E_w_APPENDIX, E_w_APPENDIX_beforeLabel, E_w_BULLETIN, E_w_BULLETIN_beforeLabel, E_w_ARTICLE, E_w_ARTICLE_beforeLabel, E_w_CONTENTS, E_w_CONTENTS_beforeLabel, E_w_HEADING, E_w_ITEM, E_w_ITEM_beforeLabel, S_Clause_Kind_PREAMBLE, F_w_PREAMBLE_beforeLabel, S_Clause_Kind_SECTION, F_w_SECTION_beforeLabel, S_Clause_Kind_APPENDIX, F_w_APPENDIX_beforeLabel, S_Clause_Kind_BULLETIN, F_w_BULLETIN_beforeLabel, S_Clause_Kind_ARTICLE, F_w_ARTICLE_beforeLabel, S_Clause_Kind_CONTENTS, F_w_CONTENTS_beforeLabel, S_Clause_Kind_HEADING, F_w_HEADING_beforeLabel, S_Clause_Kind_ITEM, F_w_ITEM_beforeLabel, -⟩ := WW
  have ef : entryFrame m #[(.int (1 : Int32))] 1 = mkF m 0 #[.val (.int (1 : Int32))] [] := by first | rfl | (simp [entryFrame, mkF, argsToLocals, Value.category]; done)
  have pre0 : ∀ t, Steps p.tables e below (s₁.setTop (mkF m 0 #[.val (.int (1 : Int32))] [])) t → Steps p.tables e below (s₁.setTop (entryFrame m #[(.int (1 : Int32))] 1)) t := fun t k => castTop ef k
  obtain ⟨T1, X1, e1, st1⟩ := getS2 X0 hx hZ hown (host := "") (Or.inl (hw _ (List.mem_of_getElem? (i := 22) rfl))) Via.refl e0 (S_Clause_Kind_CONTENTS.ext O.2) (g := (mkF m 13 #[.val (.int (1 : Int32))] [])) rfl (hb hby d1_13)
  obtain ⟨fs, hr, hrun, hended, hW, hsame⟩ := X1.leave (v := some (.ref w_CONTENTS)) (fun h => by rw [Bd.returns] at h; cases h)
  refine ⟨_, _, pre0 _ ?_, hrun, hended, _, _, rfl, ?_, ⟨_, rfl⟩, hW, hsame.mono (by decide) (by decide)⟩
  · show Steps p.tables e below (s₁.setTop (mkF m 0 #[.val (.int (1 : Int32))] [])) _
    refine XS.iloadN X0.here hx rfl (hb hby d1_0) rfl ?_
    show Steps p.tables e below (s₁.setTop (mkF m 1 #[.val (.int (1 : Int32))] [(.int (1 : Int32))])) _
    refine XS.ifYes X0.here hx rfl (pc0 := 1) (pc' := 8) rfl (hb hby d1_1) rfl ((if0 _ _).trans (feq (by decide : ¬ ((1 : Int32) = (0 : Int32)))).2) (by decide) (by decide) ?_
    show Steps p.tables e below (s₁.setTop (mkF m 8 #[.val (.int (1 : Int32))] [])) _
    refine XS.iloadN X0.here hx rfl (hb hby d1_8) rfl ?_
    show Steps p.tables e below (s₁.setTop (mkF m 9 #[.val (.int (1 : Int32))] [(.int (1 : Int32))])) _
    refine XS.iconst X0.here hx rfl (hb hby d1_9) ?_
    show Steps p.tables e below (s₁.setTop (mkF m 10 #[.val (.int (1 : Int32))] [(.int (1 : Int32)), (.int (1 : Int32))])) _
    refine XS.icmpNo X0.here hx rfl (hb hby d1_10) rfl (teq (by decide : (1 : Int32) = (1 : Int32))).2 ?_
    show Steps p.tables e below (s₁.setTop (mkF m 13 #[.val (.int (1 : Int32))] [])) _
    refine st1 _ ?_
    show Steps p.tables e below (T1.setTop (mkF m 16 #[.val (.int (1 : Int32))] [(.ref w_CONTENTS)])) _
    exact retOut X1 hx Bd.returns rfl (Or.inr (Or.inr (Or.inr (Or.inr ⟨rfl, rfl, rfl⟩)))) (hb hby d1_16) hr
  · exact ⟨rfl, N0, e1⟩
set_option maxRecDepth 65536 in
set_option maxHeartbeats 40000000 in
theorem rm0_1 (l : Launch) (Z : State) (a0 : Array Value) (hw : ∀ d ∈ tables_1, d.before a0 Z = true) (ws : List Jvm.Cond) (n0 : Nat) (h0 : Heap) (O : Old Z n0 h0) (w_PREAMBLE : Addr) (w_PREAMBLE_beforeLabel : Addr) (w_SECTION : Addr) (w_SECTION_beforeLabel : Addr) (w_APPENDIX : Addr) (w_APPENDIX_beforeLabel : Addr) (w_BULLETIN : Addr) (w_BULLETIN_beforeLabel : Addr) (w_ARTICLE : Addr) (w_ARTICLE_beforeLabel : Addr) (w_CONTENTS : Addr) (w_CONTENTS_beforeLabel : Addr) (w_HEADING : Addr) (w_ITEM : Addr) (w_ITEM_beforeLabel : Addr) (W : OwW Z w_PREAMBLE w_PREAMBLE_beforeLabel w_SECTION w_SECTION_beforeLabel w_APPENDIX w_APPENDIX_beforeLabel w_BULLETIN w_BULLETIN_beforeLabel w_ARTICLE w_ARTICLE_beforeLabel w_CONTENTS w_CONTENTS_beforeLabel w_HEADING w_ITEM w_ITEM_beforeLabel) (p0 : Int32) (hi : p0 &&& (7 : Int32) = (1 : Int32)) :
    OwCon l x code maxLocals ret ws room_1 #[(.int p0)] Z h0 (OwP (fun v _ => v = some (.int 1)) n0) := by
  refine MetFree.of_bodySF (plainFor_of_name owpn0) hisR ?_
  intro p e s m args below meth c s₁ Bd hml0 hP hK
  obtain ⟨rfl, hZ, hh⟩ := hP
  have hx := Bd.exec
  have hby := Bd.bytes
  have hml : c.maxLocals = 4 := hml0
  have hown : s.vm.findClass "com/example/clausewright/clausewright/KindNamedByTitlePinLaw" = some m.cls := findClass_of_methodNamed Bd.named
  have hnm := (name_of_methodNamed Bd.named Bd.method).1
  have X0 : Stand p l e room_1 s m #[(.int p0)] below meth c s₁ [] 0 0 := Stand.of_body Bd
  have e0 : s₁.heap = h0 := by rw [← hh, Bd.state]; rfl
  have N0 := Fr.nil n0
  have WW := W
  obtain ⟨E_w_PREAMBLE, E_w_PREAMBLE_beforeLabel, E_w_SECTION, E_w_SECTION_beforeLabel, E_w_APPENDIX, E_w_APPENDIX_beforeLabel, E_w_BULLETIN, E_w_BULLETIN_beforeLabel, E_w_ARTICLE, E_w_ARTICLE_beforeLabel, E_w_CONTENTS, E_w_CONTENTS_beforeLabel, E_w_HEADING, E_w_ITEM, E_w_ITEM_beforeLabel, S_Clause_Kind_PREAMBLE, F_w_PREAMBLE_beforeLabel, S_Clause_Kind_SECTION, F_w_SECTION_beforeLabel, S_Clause_Kind_APPENDIX, F_w_APPENDIX_beforeLabel, S_Clause_Kind_BULLETIN, F_w_BULLETIN_beforeLabel, S_Clause_Kind_ARTICLE, F_w_ARTICLE_beforeLabel, S_Clause_Kind_CONTENTS, F_w_CONTENTS_beforeLabel, S_Clause_Kind_HEADING, F_w_HEADING_beforeLabel, S_Clause_Kind_ITEM, F_w_ITEM_beforeLabel, -⟩ := WW
  have ef : entryFrame m #[(.int p0)] maxLocals = mkF m 0 #[.val (.int p0), .unset, .unset, .unset] [] := by first | rfl | (simp [entryFrame, mkF, argsToLocals, Value.category, maxLocals]; done)
  have pre0 : ∀ t, Steps p.tables e below (s₁.setTop (mkF m 0 #[.val (.int p0), .unset, .unset, .unset] [])) t → Steps p.tables e below (s₁.setTop (entryFrame m #[(.int p0)] maxLocals)) t := fun t k => castTop ef k
  obtain ⟨_, _, ⟨T1, L1, k1, n1⟩, -, X1, ⟨Lc1, hQ1, l1, y1, z1⟩, st1⟩ := Jvm.LawKit.callS X0 hx (y := (⟨"com/example/clausewright/clausewright/KindNamedByTitlePinLaw", "pick", "(I)Lcom/example/clausewright/clausewright/Clause$Kind;"⟩ : MethodName)) hown (mvT hZ (hw _ (List.mem_of_getElem? (i := 0) rfl))) (mvT hZ (hw _ (List.mem_of_getElem? (i := 1) rfl))) (mvT hZ (hw _ (List.mem_of_getElem? (i := 2) rfl))) (mvT hZ (hw _ (List.mem_of_getElem? (i := 3) rfl))) (by decide) (backOf (W := 0) (rm1_1 l Z a0 hw [] n0 h0 O w_PREAMBLE w_PREAMBLE_beforeLabel w_SECTION w_SECTION_beforeLabel w_APPENDIX w_APPENDIX_beforeLabel w_BULLETIN w_BULLETIN_beforeLabel w_ARTICLE w_ARTICLE_beforeLabel w_CONTENTS w_CONTENTS_beforeLabel w_HEADING w_ITEM w_ITEM_beforeLabel W  ) hZ (hw _ (List.mem_of_getElem? (i := 3) rfl)) (hw _ (List.mem_of_getElem? (i := 2) rfl)) (by decide) (by decide)) (g := (mkF m 6 #[.val (.int p0), .val (.int (1 : Int32)), .unset, .unset] [(.int (1 : Int32))])) rfl (by rw [hml]; rfl) (argsL := [(.int (1 : Int32))]) (rest := []) (lenOf owpd0 rfl) rfl (by show 2 * 0 + _ ≤ _; exact Nat.le_of_eq rfl) (hb hby at_6) (fun _ _ => ⟨rfl, e0, (by decide : 0 + 0 ≤ _), (by decide : 0 + 0 ≤ _)⟩)
  dsimp only [Pt.U, Pt.locs, Pt.cells, Pt.slots] at X1 l1 y1 z1 st1 hQ1
  subst l1 y1 z1
  obtain ⟨rfl, Nq1, e1⟩ := hQ1
  have N1 := Fr.app N0 Nq1
  obtain ⟨cq2, kq2, q2a, q2b, q2c⟩ := isOf hZ e1 (E_w_CONTENTS.ext O.2)
  obtain ⟨_, _, ⟨T2, L2, k2, n2⟩, -, X2, ⟨Lc2, hQ2, l2, y2, z2⟩, st2⟩ := X1.virtualBack hx (y := (⟨"com/example/clausewright/clausewright/Clause$Kind", "namedByTitle", "()Z"⟩ : MethodName)) (z := (⟨"com/example/clausewright/clausewright/Clause$Kind", "namedByTitle", "()Z"⟩ : MethodName)) hown (mvT hZ (hw _ (List.mem_of_getElem? (i := 7) rfl))) (mvT hZ (hw _ (List.mem_of_getElem? (i := 8) rfl))) (notFace_of_selects (args := #[]) (mvT hZ (hw _ (List.mem_of_getElem? (i := 10) rfl)))) (mvT hZ (hw _ (List.mem_of_getElem? (i := 10) rfl))) (mvT hZ (hw _ (List.mem_of_getElem? (i := 9) rfl))) (by decide) (backOf (W := 0) (rm2_r l Z a0 hw [] n0 h0 O w_PREAMBLE w_PREAMBLE_beforeLabel w_SECTION w_SECTION_beforeLabel w_APPENDIX w_APPENDIX_beforeLabel w_BULLETIN w_BULLETIN_beforeLabel w_ARTICLE w_ARTICLE_beforeLabel w_CONTENTS w_CONTENTS_beforeLabel w_HEADING w_ITEM w_ITEM_beforeLabel W w_CONTENTS w_CONTENTS_beforeLabel F_w_CONTENTS_beforeLabel) hZ (hw _ (List.mem_of_getElem? (i := 11) rfl)) (hw _ (List.mem_of_getElem? (i := 5) rfl)) (by decide) (by decide)) q2a q2c (g := (mkF m 22 #[.val (.int p0), .val (.int (1 : Int32)), .val (.ref w_CONTENTS), .val (.int (0 : Int32))] [(.ref w_CONTENTS)])) rfl (by rw [hml]; rfl) (Steps.refl _) (argsL := []) (rest := []) (lenOf owpd1 rfl) rfl (by show 2 * 0 + _ ≤ _; exact Nat.le_of_eq rfl) (hb hby at_22) (fun _ _ => ⟨rfl, e1, (by decide : 0 + 0 ≤ _), (by decide : 0 + 0 ≤ _)⟩)
  dsimp only [Pt.U, Pt.locs, Pt.cells, Pt.slots] at X2 l2 y2 z2 st2 hQ2
  subst l2 y2 z2
  obtain ⟨rfl, Nq2, e2⟩ := hQ2
  have N2 := Fr.app N1 Nq2
  obtain ⟨fs, hr, hrun, hended, hW, hsame⟩ := X2.leave (v := some (.int (1 : Int32))) (fun h => by rw [Bd.returns] at h; cases h)
  refine ⟨_, _, pre0 _ ?_, hrun, hended, _, _, rfl, ?_, ⟨_, rfl⟩, hW, hsame.mono (by decide) (by decide)⟩
  · show Steps p.tables e below (s₁.setTop (mkF m 0 #[.val (.int p0), .unset, .unset, .unset] [])) _
    refine XS.iloadN X0.here hx rfl (hb hby at_0) rfl ?_
    show Steps p.tables e below (s₁.setTop (mkF m 1 #[.val (.int p0), .unset, .unset, .unset] [(.int p0)])) _
    refine XS.bipush X0.here hx rfl (hb hby at_1) ?_
    show Steps p.tables e below (s₁.setTop (mkF m 3 #[.val (.int p0), .unset, .unset, .unset] [(.int (7 : Int32)), (.int p0)])) _
    refine XS.iand X0.here hx rfl (hb hby at_3) rfl ?_
    show Steps p.tables e below (s₁.setTop (mkF m 4 #[.val (.int p0), .unset, .unset, .unset] [(.int (p0 &&& (7 : Int32)))])) _
    rw [hi]
    show Steps p.tables e below (s₁.setTop (mkF m 4 #[.val (.int p0), .unset, .unset, .unset] [(.int (1 : Int32))])) _
    refine XS.istoreN X0.here hx rfl (hb hby at_4) rfl (l' := #[.val (.int p0), .val (.int (1 : Int32)), .unset, .unset]) rfl ?_
    show Steps p.tables e below (s₁.setTop (mkF m 5 #[.val (.int p0), .val (.int (1 : Int32)), .unset, .unset] [])) _
    refine XS.iloadN X0.here hx rfl (hb hby at_5) rfl ?_
    show Steps p.tables e below (s₁.setTop (mkF m 6 #[.val (.int p0), .val (.int (1 : Int32)), .unset, .unset] [(.int (1 : Int32))])) _
    refine st1 _ ?_
    show Steps p.tables e below (T1.setTop (mkF m 9 #[.val (.int p0), .val (.int (1 : Int32)), .unset, .unset] [(.ref w_CONTENTS)])) _
    refine XS.astoreN X1.here hx rfl (hb hby at_9) rfl rfl (l' := #[.val (.int p0), .val (.int (1 : Int32)), .val (.ref w_CONTENTS), .unset]) rfl ?_
    show Steps p.tables e below (T1.setTop (mkF m 10 #[.val (.int p0), .val (.int (1 : Int32)), .val (.ref w_CONTENTS), .unset] [])) _
    refine XS.iloadN X1.here hx rfl (hb hby at_10) rfl ?_
    show Steps p.tables e below (T1.setTop (mkF m 11 #[.val (.int p0), .val (.int (1 : Int32)), .val (.ref w_CONTENTS), .unset] [(.int (1 : Int32))])) _
    refine XS.iconst X1.here hx rfl (hb hby at_11) ?_
    show Steps p.tables e below (T1.setTop (mkF m 12 #[.val (.int p0), .val (.int (1 : Int32)), .val (.ref w_CONTENTS), .unset] [(.int (4 : Int32)), (.int (1 : Int32))])) _
    refine XS.icmpYes X1.here hx rfl (pc0 := 12) (pc' := 19) rfl (hb hby at_12) rfl (feq (by decide : ¬ ((1 : Int32) = (4 : Int32)))).2 (by decide) (by decide) ?_
    show Steps p.tables e below (T1.setTop (mkF m 19 #[.val (.int p0), .val (.int (1 : Int32)), .val (.ref w_CONTENTS), .unset] [])) _
    refine XS.iconst X1.here hx rfl (hb hby at_19) ?_
    show Steps p.tables e below (T1.setTop (mkF m 20 #[.val (.int p0), .val (.int (1 : Int32)), .val (.ref w_CONTENTS), .unset] [(.int (0 : Int32))])) _
    refine XS.istoreN X1.here hx rfl (hb hby at_20) rfl (l' := #[.val (.int p0), .val (.int (1 : Int32)), .val (.ref w_CONTENTS), .val (.int (0 : Int32))]) rfl ?_
    show Steps p.tables e below (T1.setTop (mkF m 21 #[.val (.int p0), .val (.int (1 : Int32)), .val (.ref w_CONTENTS), .val (.int (0 : Int32))] [])) _
    refine XS.aloadN X1.here hx rfl (hb hby at_21) rfl rfl ?_
    show Steps p.tables e below (T1.setTop (mkF m 22 #[.val (.int p0), .val (.int (1 : Int32)), .val (.ref w_CONTENTS), .val (.int (0 : Int32))] [(.ref w_CONTENTS)])) _
    refine st2.trans ?_
    show Steps p.tables e below (T2.setTop (mkF m 25 #[.val (.int p0), .val (.int (1 : Int32)), .val (.ref w_CONTENTS), .val (.int (0 : Int32))] [(.int (0 : Int32))])) _
    refine XS.iloadN X2.here hx rfl (hb hby at_25) rfl ?_
    show Steps p.tables e below (T2.setTop (mkF m 26 #[.val (.int p0), .val (.int (1 : Int32)), .val (.ref w_CONTENTS), .val (.int (0 : Int32))] [(.int (0 : Int32)), (.int (0 : Int32))])) _
    refine XS.icmpNo X2.here hx rfl (hb hby at_26) rfl (teq (by decide : (0 : Int32) = (0 : Int32))).2 ?_
    show Steps p.tables e below (T2.setTop (mkF m 29 #[.val (.int p0), .val (.int (1 : Int32)), .val (.ref w_CONTENTS), .val (.int (0 : Int32))] [])) _
    refine XS.iconst X2.here hx rfl (hb hby at_29) ?_
    show Steps p.tables e below (T2.setTop (mkF m 30 #[.val (.int p0), .val (.int (1 : Int32)), .val (.ref w_CONTENTS), .val (.int (0 : Int32))] [(.int (1 : Int32))])) _
    refine XS.goto X2.here hx rfl (pc0 := 30) (pc' := 34) rfl (hb hby at_30) (by decide) (by decide) ?_
    show Steps p.tables e below (T2.setTop (mkF m 34 #[.val (.int p0), .val (.int (1 : Int32)), .val (.ref w_CONTENTS), .val (.int (0 : Int32))] [(.int (1 : Int32))])) _
    exact retN X2 hx (t := .boolean) Bd.returns (by simp) (hb hby at_34) hr
  · exact ⟨N2, rfl⟩
set_option maxRecDepth 65536 in
set_option maxHeartbeats 40000000 in
theorem rm1_2 (l : Launch) (Z : State) (a0 : Array Value) (hw : ∀ d ∈ tables_1, d.before a0 Z = true) (ws : List Jvm.Cond) (n0 : Nat) (h0 : Heap) (O : Old Z n0 h0) (w_PREAMBLE : Addr) (w_PREAMBLE_beforeLabel : Addr) (w_SECTION : Addr) (w_SECTION_beforeLabel : Addr) (w_APPENDIX : Addr) (w_APPENDIX_beforeLabel : Addr) (w_BULLETIN : Addr) (w_BULLETIN_beforeLabel : Addr) (w_ARTICLE : Addr) (w_ARTICLE_beforeLabel : Addr) (w_CONTENTS : Addr) (w_CONTENTS_beforeLabel : Addr) (w_HEADING : Addr) (w_ITEM : Addr) (w_ITEM_beforeLabel : Addr) (W : OwW Z w_PREAMBLE w_PREAMBLE_beforeLabel w_SECTION w_SECTION_beforeLabel w_APPENDIX w_APPENDIX_beforeLabel w_BULLETIN w_BULLETIN_beforeLabel w_ARTICLE w_ARTICLE_beforeLabel w_CONTENTS w_CONTENTS_beforeLabel w_HEADING w_ITEM w_ITEM_beforeLabel)  :
    OwCon l (⟨"com/example/clausewright/clausewright/KindNamedByTitlePinLaw", "pick", "(I)Lcom/example/clausewright/clausewright/Clause$Kind;"⟩ : MethodName) method_3_code 1 (some (.object "com/example/clausewright/clausewright/Clause$Kind")) ws ({ frames := 0, cells := 0, slots := 0, locals := 0 } : Room) #[(.int (2 : Int32))] Z h0 (OwQ (some (.ref w_ARTICLE)) h0 n0) := by
  refine MetFree.of_bodySF (plainFor_of_name owpn1) hisR ?_
  intro p e s m args below meth c s₁ Bd hml0 hP hK
  obtain ⟨rfl, hZ, hh⟩ := hP
  have hx := Bd.exec
  have hby := Bd.bytes
  have hml : c.maxLocals = 1 := hml0
  have hown : s.vm.findClass "com/example/clausewright/clausewright/KindNamedByTitlePinLaw" = some m.cls := findClass_of_methodNamed Bd.named
  have hnm := (name_of_methodNamed Bd.named Bd.method).1
  have X0 : Stand p l e ({ frames := 0, cells := 0, slots := 0, locals := 0 } : Room) s m #[(.int (2 : Int32))] below meth c s₁ [] 0 0 := Stand.of_body Bd
  have e0 : s₁.heap = h0 := by rw [← hh, Bd.state]; rfl
  have N0 := Fr.nil n0
  have WW := W
  obtain ⟨E_w_PREAMBLE, E_w_PREAMBLE_beforeLabel, E_w_SECTION, E_w_SECTION_beforeLabel, E_w_APPENDIX, E_w_APPENDIX_beforeLabel, E_w_BULLETIN, E_w_BULLETIN_beforeLabel, E_w_ARTICLE, E_w_ARTICLE_beforeLabel, E_w_CONTENTS, E_w_CONTENTS_beforeLabel, E_w_HEADING, E_w_ITEM, E_w_ITEM_beforeLabel, S_Clause_Kind_PREAMBLE, F_w_PREAMBLE_beforeLabel, S_Clause_Kind_SECTION, F_w_SECTION_beforeLabel, S_Clause_Kind_APPENDIX, F_w_APPENDIX_beforeLabel, S_Clause_Kind_BULLETIN, F_w_BULLETIN_beforeLabel, S_Clause_Kind_ARTICLE, F_w_ARTICLE_beforeLabel, S_Clause_Kind_CONTENTS, F_w_CONTENTS_beforeLabel, S_Clause_Kind_HEADING, F_w_HEADING_beforeLabel, S_Clause_Kind_ITEM, F_w_ITEM_beforeLabel, -⟩ := WW
  have ef : entryFrame m #[(.int (2 : Int32))] 1 = mkF m 0 #[.val (.int (2 : Int32))] [] := by first | rfl | (simp [entryFrame, mkF, argsToLocals, Value.category]; done)
  have pre0 : ∀ t, Steps p.tables e below (s₁.setTop (mkF m 0 #[.val (.int (2 : Int32))] [])) t → Steps p.tables e below (s₁.setTop (entryFrame m #[(.int (2 : Int32))] 1)) t := fun t k => castTop ef k
  obtain ⟨T1, X1, e1, st1⟩ := getS2 X0 hx hZ hown (host := "") (Or.inl (hw _ (List.mem_of_getElem? (i := 20) rfl))) Via.refl e0 (S_Clause_Kind_ARTICLE.ext O.2) (g := (mkF m 22 #[.val (.int (2 : Int32))] [])) rfl (hb hby d1_22)
  obtain ⟨fs, hr, hrun, hended, hW, hsame⟩ := X1.leave (v := some (.ref w_ARTICLE)) (fun h => by rw [Bd.returns] at h; cases h)
  refine ⟨_, _, pre0 _ ?_, hrun, hended, _, _, rfl, ?_, ⟨_, rfl⟩, hW, hsame.mono (by decide) (by decide)⟩
  · show Steps p.tables e below (s₁.setTop (mkF m 0 #[.val (.int (2 : Int32))] [])) _
    refine XS.iloadN X0.here hx rfl (hb hby d1_0) rfl ?_
    show Steps p.tables e below (s₁.setTop (mkF m 1 #[.val (.int (2 : Int32))] [(.int (2 : Int32))])) _
    refine XS.ifYes X0.here hx rfl (pc0 := 1) (pc' := 8) rfl (hb hby d1_1) rfl ((if0 _ _).trans (feq (by decide : ¬ ((2 : Int32) = (0 : Int32)))).2) (by decide) (by decide) ?_
    show Steps p.tables e below (s₁.setTop (mkF m 8 #[.val (.int (2 : Int32))] [])) _
    refine XS.iloadN X0.here hx rfl (hb hby d1_8) rfl ?_
    show Steps p.tables e below (s₁.setTop (mkF m 9 #[.val (.int (2 : Int32))] [(.int (2 : Int32))])) _
    refine XS.iconst X0.here hx rfl (hb hby d1_9) ?_
    show Steps p.tables e below (s₁.setTop (mkF m 10 #[.val (.int (2 : Int32))] [(.int (1 : Int32)), (.int (2 : Int32))])) _
    refine XS.icmpYes X0.here hx rfl (pc0 := 10) (pc' := 17) rfl (hb hby d1_10) rfl (feq (by decide : ¬ ((2 : Int32) = (1 : Int32)))).2 (by decide) (by decide) ?_
    show Steps p.tables e below (s₁.setTop (mkF m 17 #[.val (.int (2 : Int32))] [])) _
    refine XS.iloadN X0.here hx rfl (hb hby d1_17) rfl ?_
    show Steps p.tables e below (s₁.setTop (mkF m 18 #[.val (.int (2 : Int32))] [(.int (2 : Int32))])) _
    refine XS.iconst X0.here hx rfl (hb hby d1_18) ?_
    show Steps p.tables e below (s₁.setTop (mkF m 19 #[.val (.int (2 : Int32))] [(.int (2 : Int32)), (.int (2 : Int32))])) _
    refine XS.icmpNo X0.here hx rfl (hb hby d1_19) rfl (teq (by decide : (2 : Int32) = (2 : Int32))).2 ?_
    show Steps p.tables e below (s₁.setTop (mkF m 22 #[.val (.int (2 : Int32))] [])) _
    refine st1 _ ?_
    show Steps p.tables e below (T1.setTop (mkF m 25 #[.val (.int (2 : Int32))] [(.ref w_ARTICLE)])) _
    exact retOut X1 hx Bd.returns rfl (Or.inr (Or.inr (Or.inr (Or.inr ⟨rfl, rfl, rfl⟩)))) (hb hby d1_25) hr
  · exact ⟨rfl, N0, e1⟩
set_option maxRecDepth 65536 in
set_option maxHeartbeats 40000000 in
theorem rm0_2 (l : Launch) (Z : State) (a0 : Array Value) (hw : ∀ d ∈ tables_1, d.before a0 Z = true) (ws : List Jvm.Cond) (n0 : Nat) (h0 : Heap) (O : Old Z n0 h0) (w_PREAMBLE : Addr) (w_PREAMBLE_beforeLabel : Addr) (w_SECTION : Addr) (w_SECTION_beforeLabel : Addr) (w_APPENDIX : Addr) (w_APPENDIX_beforeLabel : Addr) (w_BULLETIN : Addr) (w_BULLETIN_beforeLabel : Addr) (w_ARTICLE : Addr) (w_ARTICLE_beforeLabel : Addr) (w_CONTENTS : Addr) (w_CONTENTS_beforeLabel : Addr) (w_HEADING : Addr) (w_ITEM : Addr) (w_ITEM_beforeLabel : Addr) (W : OwW Z w_PREAMBLE w_PREAMBLE_beforeLabel w_SECTION w_SECTION_beforeLabel w_APPENDIX w_APPENDIX_beforeLabel w_BULLETIN w_BULLETIN_beforeLabel w_ARTICLE w_ARTICLE_beforeLabel w_CONTENTS w_CONTENTS_beforeLabel w_HEADING w_ITEM w_ITEM_beforeLabel) (p0 : Int32) (hi : p0 &&& (7 : Int32) = (2 : Int32)) :
    OwCon l x code maxLocals ret ws room_1 #[(.int p0)] Z h0 (OwP (fun v _ => v = some (.int 1)) n0) := by
  refine MetFree.of_bodySF (plainFor_of_name owpn0) hisR ?_
  intro p e s m args below meth c s₁ Bd hml0 hP hK
  obtain ⟨rfl, hZ, hh⟩ := hP
  have hx := Bd.exec
  have hby := Bd.bytes
  have hml : c.maxLocals = 4 := hml0
  have hown : s.vm.findClass "com/example/clausewright/clausewright/KindNamedByTitlePinLaw" = some m.cls := findClass_of_methodNamed Bd.named
  have hnm := (name_of_methodNamed Bd.named Bd.method).1
  have X0 : Stand p l e room_1 s m #[(.int p0)] below meth c s₁ [] 0 0 := Stand.of_body Bd
  have e0 : s₁.heap = h0 := by rw [← hh, Bd.state]; rfl
  have N0 := Fr.nil n0
  have WW := W
  obtain ⟨E_w_PREAMBLE, E_w_PREAMBLE_beforeLabel, E_w_SECTION, E_w_SECTION_beforeLabel, E_w_APPENDIX, E_w_APPENDIX_beforeLabel, E_w_BULLETIN, E_w_BULLETIN_beforeLabel, E_w_ARTICLE, E_w_ARTICLE_beforeLabel, E_w_CONTENTS, E_w_CONTENTS_beforeLabel, E_w_HEADING, E_w_ITEM, E_w_ITEM_beforeLabel, S_Clause_Kind_PREAMBLE, F_w_PREAMBLE_beforeLabel, S_Clause_Kind_SECTION, F_w_SECTION_beforeLabel, S_Clause_Kind_APPENDIX, F_w_APPENDIX_beforeLabel, S_Clause_Kind_BULLETIN, F_w_BULLETIN_beforeLabel, S_Clause_Kind_ARTICLE, F_w_ARTICLE_beforeLabel, S_Clause_Kind_CONTENTS, F_w_CONTENTS_beforeLabel, S_Clause_Kind_HEADING, F_w_HEADING_beforeLabel, S_Clause_Kind_ITEM, F_w_ITEM_beforeLabel, -⟩ := WW
  have ef : entryFrame m #[(.int p0)] maxLocals = mkF m 0 #[.val (.int p0), .unset, .unset, .unset] [] := by first | rfl | (simp [entryFrame, mkF, argsToLocals, Value.category, maxLocals]; done)
  have pre0 : ∀ t, Steps p.tables e below (s₁.setTop (mkF m 0 #[.val (.int p0), .unset, .unset, .unset] [])) t → Steps p.tables e below (s₁.setTop (entryFrame m #[(.int p0)] maxLocals)) t := fun t k => castTop ef k
  obtain ⟨_, _, ⟨T1, L1, k1, n1⟩, -, X1, ⟨Lc1, hQ1, l1, y1, z1⟩, st1⟩ := Jvm.LawKit.callS X0 hx (y := (⟨"com/example/clausewright/clausewright/KindNamedByTitlePinLaw", "pick", "(I)Lcom/example/clausewright/clausewright/Clause$Kind;"⟩ : MethodName)) hown (mvT hZ (hw _ (List.mem_of_getElem? (i := 0) rfl))) (mvT hZ (hw _ (List.mem_of_getElem? (i := 1) rfl))) (mvT hZ (hw _ (List.mem_of_getElem? (i := 2) rfl))) (mvT hZ (hw _ (List.mem_of_getElem? (i := 3) rfl))) (by decide) (backOf (W := 0) (rm1_2 l Z a0 hw [] n0 h0 O w_PREAMBLE w_PREAMBLE_beforeLabel w_SECTION w_SECTION_beforeLabel w_APPENDIX w_APPENDIX_beforeLabel w_BULLETIN w_BULLETIN_beforeLabel w_ARTICLE w_ARTICLE_beforeLabel w_CONTENTS w_CONTENTS_beforeLabel w_HEADING w_ITEM w_ITEM_beforeLabel W  ) hZ (hw _ (List.mem_of_getElem? (i := 3) rfl)) (hw _ (List.mem_of_getElem? (i := 2) rfl)) (by decide) (by decide)) (g := (mkF m 6 #[.val (.int p0), .val (.int (2 : Int32)), .unset, .unset] [(.int (2 : Int32))])) rfl (by rw [hml]; rfl) (argsL := [(.int (2 : Int32))]) (rest := []) (lenOf owpd0 rfl) rfl (by show 2 * 0 + _ ≤ _; exact Nat.le_of_eq rfl) (hb hby at_6) (fun _ _ => ⟨rfl, e0, (by decide : 0 + 0 ≤ _), (by decide : 0 + 0 ≤ _)⟩)
  dsimp only [Pt.U, Pt.locs, Pt.cells, Pt.slots] at X1 l1 y1 z1 st1 hQ1
  subst l1 y1 z1
  obtain ⟨rfl, Nq1, e1⟩ := hQ1
  have N1 := Fr.app N0 Nq1
  obtain ⟨cq2, kq2, q2a, q2b, q2c⟩ := isOf hZ e1 (E_w_ARTICLE.ext O.2)
  obtain ⟨_, _, ⟨T2, L2, k2, n2⟩, -, X2, ⟨Lc2, hQ2, l2, y2, z2⟩, st2⟩ := X1.virtualBack hx (y := (⟨"com/example/clausewright/clausewright/Clause$Kind", "namedByTitle", "()Z"⟩ : MethodName)) (z := (⟨"com/example/clausewright/clausewright/Clause$Kind", "namedByTitle", "()Z"⟩ : MethodName)) hown (mvT hZ (hw _ (List.mem_of_getElem? (i := 7) rfl))) (mvT hZ (hw _ (List.mem_of_getElem? (i := 8) rfl))) (notFace_of_selects (args := #[]) (mvT hZ (hw _ (List.mem_of_getElem? (i := 10) rfl)))) (mvT hZ (hw _ (List.mem_of_getElem? (i := 10) rfl))) (mvT hZ (hw _ (List.mem_of_getElem? (i := 9) rfl))) (by decide) (backOf (W := 0) (rm2_r l Z a0 hw [] n0 h0 O w_PREAMBLE w_PREAMBLE_beforeLabel w_SECTION w_SECTION_beforeLabel w_APPENDIX w_APPENDIX_beforeLabel w_BULLETIN w_BULLETIN_beforeLabel w_ARTICLE w_ARTICLE_beforeLabel w_CONTENTS w_CONTENTS_beforeLabel w_HEADING w_ITEM w_ITEM_beforeLabel W w_ARTICLE w_ARTICLE_beforeLabel F_w_ARTICLE_beforeLabel) hZ (hw _ (List.mem_of_getElem? (i := 11) rfl)) (hw _ (List.mem_of_getElem? (i := 5) rfl)) (by decide) (by decide)) q2a q2c (g := (mkF m 22 #[.val (.int p0), .val (.int (2 : Int32)), .val (.ref w_ARTICLE), .val (.int (0 : Int32))] [(.ref w_ARTICLE)])) rfl (by rw [hml]; rfl) (Steps.refl _) (argsL := []) (rest := []) (lenOf owpd1 rfl) rfl (by show 2 * 0 + _ ≤ _; exact Nat.le_of_eq rfl) (hb hby at_22) (fun _ _ => ⟨rfl, e1, (by decide : 0 + 0 ≤ _), (by decide : 0 + 0 ≤ _)⟩)
  dsimp only [Pt.U, Pt.locs, Pt.cells, Pt.slots] at X2 l2 y2 z2 st2 hQ2
  subst l2 y2 z2
  obtain ⟨rfl, Nq2, e2⟩ := hQ2
  have N2 := Fr.app N1 Nq2
  obtain ⟨fs, hr, hrun, hended, hW, hsame⟩ := X2.leave (v := some (.int (1 : Int32))) (fun h => by rw [Bd.returns] at h; cases h)
  refine ⟨_, _, pre0 _ ?_, hrun, hended, _, _, rfl, ?_, ⟨_, rfl⟩, hW, hsame.mono (by decide) (by decide)⟩
  · show Steps p.tables e below (s₁.setTop (mkF m 0 #[.val (.int p0), .unset, .unset, .unset] [])) _
    refine XS.iloadN X0.here hx rfl (hb hby at_0) rfl ?_
    show Steps p.tables e below (s₁.setTop (mkF m 1 #[.val (.int p0), .unset, .unset, .unset] [(.int p0)])) _
    refine XS.bipush X0.here hx rfl (hb hby at_1) ?_
    show Steps p.tables e below (s₁.setTop (mkF m 3 #[.val (.int p0), .unset, .unset, .unset] [(.int (7 : Int32)), (.int p0)])) _
    refine XS.iand X0.here hx rfl (hb hby at_3) rfl ?_
    show Steps p.tables e below (s₁.setTop (mkF m 4 #[.val (.int p0), .unset, .unset, .unset] [(.int (p0 &&& (7 : Int32)))])) _
    rw [hi]
    show Steps p.tables e below (s₁.setTop (mkF m 4 #[.val (.int p0), .unset, .unset, .unset] [(.int (2 : Int32))])) _
    refine XS.istoreN X0.here hx rfl (hb hby at_4) rfl (l' := #[.val (.int p0), .val (.int (2 : Int32)), .unset, .unset]) rfl ?_
    show Steps p.tables e below (s₁.setTop (mkF m 5 #[.val (.int p0), .val (.int (2 : Int32)), .unset, .unset] [])) _
    refine XS.iloadN X0.here hx rfl (hb hby at_5) rfl ?_
    show Steps p.tables e below (s₁.setTop (mkF m 6 #[.val (.int p0), .val (.int (2 : Int32)), .unset, .unset] [(.int (2 : Int32))])) _
    refine st1 _ ?_
    show Steps p.tables e below (T1.setTop (mkF m 9 #[.val (.int p0), .val (.int (2 : Int32)), .unset, .unset] [(.ref w_ARTICLE)])) _
    refine XS.astoreN X1.here hx rfl (hb hby at_9) rfl rfl (l' := #[.val (.int p0), .val (.int (2 : Int32)), .val (.ref w_ARTICLE), .unset]) rfl ?_
    show Steps p.tables e below (T1.setTop (mkF m 10 #[.val (.int p0), .val (.int (2 : Int32)), .val (.ref w_ARTICLE), .unset] [])) _
    refine XS.iloadN X1.here hx rfl (hb hby at_10) rfl ?_
    show Steps p.tables e below (T1.setTop (mkF m 11 #[.val (.int p0), .val (.int (2 : Int32)), .val (.ref w_ARTICLE), .unset] [(.int (2 : Int32))])) _
    refine XS.iconst X1.here hx rfl (hb hby at_11) ?_
    show Steps p.tables e below (T1.setTop (mkF m 12 #[.val (.int p0), .val (.int (2 : Int32)), .val (.ref w_ARTICLE), .unset] [(.int (4 : Int32)), (.int (2 : Int32))])) _
    refine XS.icmpYes X1.here hx rfl (pc0 := 12) (pc' := 19) rfl (hb hby at_12) rfl (feq (by decide : ¬ ((2 : Int32) = (4 : Int32)))).2 (by decide) (by decide) ?_
    show Steps p.tables e below (T1.setTop (mkF m 19 #[.val (.int p0), .val (.int (2 : Int32)), .val (.ref w_ARTICLE), .unset] [])) _
    refine XS.iconst X1.here hx rfl (hb hby at_19) ?_
    show Steps p.tables e below (T1.setTop (mkF m 20 #[.val (.int p0), .val (.int (2 : Int32)), .val (.ref w_ARTICLE), .unset] [(.int (0 : Int32))])) _
    refine XS.istoreN X1.here hx rfl (hb hby at_20) rfl (l' := #[.val (.int p0), .val (.int (2 : Int32)), .val (.ref w_ARTICLE), .val (.int (0 : Int32))]) rfl ?_
    show Steps p.tables e below (T1.setTop (mkF m 21 #[.val (.int p0), .val (.int (2 : Int32)), .val (.ref w_ARTICLE), .val (.int (0 : Int32))] [])) _
    refine XS.aloadN X1.here hx rfl (hb hby at_21) rfl rfl ?_
    show Steps p.tables e below (T1.setTop (mkF m 22 #[.val (.int p0), .val (.int (2 : Int32)), .val (.ref w_ARTICLE), .val (.int (0 : Int32))] [(.ref w_ARTICLE)])) _
    refine st2.trans ?_
    show Steps p.tables e below (T2.setTop (mkF m 25 #[.val (.int p0), .val (.int (2 : Int32)), .val (.ref w_ARTICLE), .val (.int (0 : Int32))] [(.int (0 : Int32))])) _
    refine XS.iloadN X2.here hx rfl (hb hby at_25) rfl ?_
    show Steps p.tables e below (T2.setTop (mkF m 26 #[.val (.int p0), .val (.int (2 : Int32)), .val (.ref w_ARTICLE), .val (.int (0 : Int32))] [(.int (0 : Int32)), (.int (0 : Int32))])) _
    refine XS.icmpNo X2.here hx rfl (hb hby at_26) rfl (teq (by decide : (0 : Int32) = (0 : Int32))).2 ?_
    show Steps p.tables e below (T2.setTop (mkF m 29 #[.val (.int p0), .val (.int (2 : Int32)), .val (.ref w_ARTICLE), .val (.int (0 : Int32))] [])) _
    refine XS.iconst X2.here hx rfl (hb hby at_29) ?_
    show Steps p.tables e below (T2.setTop (mkF m 30 #[.val (.int p0), .val (.int (2 : Int32)), .val (.ref w_ARTICLE), .val (.int (0 : Int32))] [(.int (1 : Int32))])) _
    refine XS.goto X2.here hx rfl (pc0 := 30) (pc' := 34) rfl (hb hby at_30) (by decide) (by decide) ?_
    show Steps p.tables e below (T2.setTop (mkF m 34 #[.val (.int p0), .val (.int (2 : Int32)), .val (.ref w_ARTICLE), .val (.int (0 : Int32))] [(.int (1 : Int32))])) _
    exact retN X2 hx (t := .boolean) Bd.returns (by simp) (hb hby at_34) hr
  · exact ⟨N2, rfl⟩
set_option maxRecDepth 65536 in
set_option maxHeartbeats 40000000 in
theorem rm1_3 (l : Launch) (Z : State) (a0 : Array Value) (hw : ∀ d ∈ tables_1, d.before a0 Z = true) (ws : List Jvm.Cond) (n0 : Nat) (h0 : Heap) (O : Old Z n0 h0) (w_PREAMBLE : Addr) (w_PREAMBLE_beforeLabel : Addr) (w_SECTION : Addr) (w_SECTION_beforeLabel : Addr) (w_APPENDIX : Addr) (w_APPENDIX_beforeLabel : Addr) (w_BULLETIN : Addr) (w_BULLETIN_beforeLabel : Addr) (w_ARTICLE : Addr) (w_ARTICLE_beforeLabel : Addr) (w_CONTENTS : Addr) (w_CONTENTS_beforeLabel : Addr) (w_HEADING : Addr) (w_ITEM : Addr) (w_ITEM_beforeLabel : Addr) (W : OwW Z w_PREAMBLE w_PREAMBLE_beforeLabel w_SECTION w_SECTION_beforeLabel w_APPENDIX w_APPENDIX_beforeLabel w_BULLETIN w_BULLETIN_beforeLabel w_ARTICLE w_ARTICLE_beforeLabel w_CONTENTS w_CONTENTS_beforeLabel w_HEADING w_ITEM w_ITEM_beforeLabel)  :
    OwCon l (⟨"com/example/clausewright/clausewright/KindNamedByTitlePinLaw", "pick", "(I)Lcom/example/clausewright/clausewright/Clause$Kind;"⟩ : MethodName) method_3_code 1 (some (.object "com/example/clausewright/clausewright/Clause$Kind")) ws ({ frames := 0, cells := 0, slots := 0, locals := 0 } : Room) #[(.int (3 : Int32))] Z h0 (OwQ (some (.ref w_SECTION)) h0 n0) := by
  refine MetFree.of_bodySF (plainFor_of_name owpn1) hisR ?_
  intro p e s m args below meth c s₁ Bd hml0 hP hK
  obtain ⟨rfl, hZ, hh⟩ := hP
  have hx := Bd.exec
  have hby := Bd.bytes
  have hml : c.maxLocals = 1 := hml0
  have hown : s.vm.findClass "com/example/clausewright/clausewright/KindNamedByTitlePinLaw" = some m.cls := findClass_of_methodNamed Bd.named
  have hnm := (name_of_methodNamed Bd.named Bd.method).1
  have X0 : Stand p l e ({ frames := 0, cells := 0, slots := 0, locals := 0 } : Room) s m #[(.int (3 : Int32))] below meth c s₁ [] 0 0 := Stand.of_body Bd
  have e0 : s₁.heap = h0 := by rw [← hh, Bd.state]; rfl
  have N0 := Fr.nil n0
  have WW := W
  obtain ⟨E_w_PREAMBLE, E_w_PREAMBLE_beforeLabel, E_w_SECTION, E_w_SECTION_beforeLabel, E_w_APPENDIX, E_w_APPENDIX_beforeLabel, E_w_BULLETIN, E_w_BULLETIN_beforeLabel, E_w_ARTICLE, E_w_ARTICLE_beforeLabel, E_w_CONTENTS, E_w_CONTENTS_beforeLabel, E_w_HEADING, E_w_ITEM, E_w_ITEM_beforeLabel, S_Clause_Kind_PREAMBLE, F_w_PREAMBLE_beforeLabel, S_Clause_Kind_SECTION, F_w_SECTION_beforeLabel, S_Clause_Kind_APPENDIX, F_w_APPENDIX_beforeLabel, S_Clause_Kind_BULLETIN, F_w_BULLETIN_beforeLabel, S_Clause_Kind_ARTICLE, F_w_ARTICLE_beforeLabel, S_Clause_Kind_CONTENTS, F_w_CONTENTS_beforeLabel, S_Clause_Kind_HEADING, F_w_HEADING_beforeLabel, S_Clause_Kind_ITEM, F_w_ITEM_beforeLabel, -⟩ := WW
  have ef : entryFrame m #[(.int (3 : Int32))] 1 = mkF m 0 #[.val (.int (3 : Int32))] [] := by first | rfl | (simp [entryFrame, mkF, argsToLocals, Value.category]; done)
  have pre0 : ∀ t, Steps p.tables e below (s₁.setTop (mkF m 0 #[.val (.int (3 : Int32))] [])) t → Steps p.tables e below (s₁.setTop (entryFrame m #[(.int (3 : Int32))] 1)) t := fun t k => castTop ef k
  obtain ⟨T1, X1, e1, st1⟩ := getS2 X0 hx hZ hown (host := "") (Or.inl (hw _ (List.mem_of_getElem? (i := 14) rfl))) Via.refl e0 (S_Clause_Kind_SECTION.ext O.2) (g := (mkF m 31 #[.val (.int (3 : Int32))] [])) rfl (hb hby d1_31)
  obtain ⟨fs, hr, hrun, hended, hW, hsame⟩ := X1.leave (v := some (.ref w_SECTION)) (fun h => by rw [Bd.returns] at h; cases h)
  refine ⟨_, _, pre0 _ ?_, hrun, hended, _, _, rfl, ?_, ⟨_, rfl⟩, hW, hsame.mono (by decide) (by decide)⟩
  · show Steps p.tables e below (s₁.setTop (mkF m 0 #[.val (.int (3 : Int32))] [])) _
    refine XS.iloadN X0.here hx rfl (hb hby d1_0) rfl ?_
    show Steps p.tables e below (s₁.setTop (mkF m 1 #[.val (.int (3 : Int32))] [(.int (3 : Int32))])) _
    refine XS.ifYes X0.here hx rfl (pc0 := 1) (pc' := 8) rfl (hb hby d1_1) rfl ((if0 _ _).trans (feq (by decide : ¬ ((3 : Int32) = (0 : Int32)))).2) (by decide) (by decide) ?_
    show Steps p.tables e below (s₁.setTop (mkF m 8 #[.val (.int (3 : Int32))] [])) _
    refine XS.iloadN X0.here hx rfl (hb hby d1_8) rfl ?_
    show Steps p.tables e below (s₁.setTop (mkF m 9 #[.val (.int (3 : Int32))] [(.int (3 : Int32))])) _
    refine XS.iconst X0.here hx rfl (hb hby d1_9) ?_
    show Steps p.tables e below (s₁.setTop (mkF m 10 #[.val (.int (3 : Int32))] [(.int (1 : Int32)), (.int (3 : Int32))])) _
    refine XS.icmpYes X0.here hx rfl (pc0 := 10) (pc' := 17) rfl (hb hby d1_10) rfl (feq (by decide : ¬ ((3 : Int32) = (1 : Int32)))).2 (by decide) (by decide) ?_
    show Steps p.tables e below (s₁.setTop (mkF m 17 #[.val (.int (3 : Int32))] [])) _
    refine XS.iloadN X0.here hx rfl (hb hby d1_17) rfl ?_
    show Steps p.tables e below (s₁.setTop (mkF m 18 #[.val (.int (3 : Int32))] [(.int (3 : Int32))])) _
    refine XS.iconst X0.here hx rfl (hb hby d1_18) ?_
    show Steps p.tables e below (s₁.setTop (mkF m 19 #[.val (.int (3 : Int32))] [(.int (2 : Int32)), (.int (3 : Int32))])) _
    refine XS.icmpYes X0.here hx rfl (pc0 := 19) (pc' := 26) rfl (hb hby d1_19) rfl (feq (by decide : ¬ ((3 : Int32) = (2 : Int32)))).2 (by decide) (by decide) ?_
    show Steps p.tables e below (s₁.setTop (mkF m 26 #[.val (.int (3 : Int32))] [])) _
    refine XS.iloadN X0.here hx rfl (hb hby d1_26) rfl ?_
    show Steps p.tables e below (s₁.setTop (mkF m 27 #[.val (.int (3 : Int32))] [(.int (3 : Int32))])) _
    refine XS.iconst X0.here hx rfl (hb hby d1_27) ?_
    show Steps p.tables e below (s₁.setTop (mkF m 28 #[.val (.int (3 : Int32))] [(.int (3 : Int32)), (.int (3 : Int32))])) _
    refine XS.icmpNo X0.here hx rfl (hb hby d1_28) rfl (teq (by decide : (3 : Int32) = (3 : Int32))).2 ?_
    show Steps p.tables e below (s₁.setTop (mkF m 31 #[.val (.int (3 : Int32))] [])) _
    refine st1 _ ?_
    show Steps p.tables e below (T1.setTop (mkF m 34 #[.val (.int (3 : Int32))] [(.ref w_SECTION)])) _
    exact retOut X1 hx Bd.returns rfl (Or.inr (Or.inr (Or.inr (Or.inr ⟨rfl, rfl, rfl⟩)))) (hb hby d1_34) hr
  · exact ⟨rfl, N0, e1⟩
set_option maxRecDepth 65536 in
set_option maxHeartbeats 40000000 in
theorem rm0_3 (l : Launch) (Z : State) (a0 : Array Value) (hw : ∀ d ∈ tables_1, d.before a0 Z = true) (ws : List Jvm.Cond) (n0 : Nat) (h0 : Heap) (O : Old Z n0 h0) (w_PREAMBLE : Addr) (w_PREAMBLE_beforeLabel : Addr) (w_SECTION : Addr) (w_SECTION_beforeLabel : Addr) (w_APPENDIX : Addr) (w_APPENDIX_beforeLabel : Addr) (w_BULLETIN : Addr) (w_BULLETIN_beforeLabel : Addr) (w_ARTICLE : Addr) (w_ARTICLE_beforeLabel : Addr) (w_CONTENTS : Addr) (w_CONTENTS_beforeLabel : Addr) (w_HEADING : Addr) (w_ITEM : Addr) (w_ITEM_beforeLabel : Addr) (W : OwW Z w_PREAMBLE w_PREAMBLE_beforeLabel w_SECTION w_SECTION_beforeLabel w_APPENDIX w_APPENDIX_beforeLabel w_BULLETIN w_BULLETIN_beforeLabel w_ARTICLE w_ARTICLE_beforeLabel w_CONTENTS w_CONTENTS_beforeLabel w_HEADING w_ITEM w_ITEM_beforeLabel) (p0 : Int32) (hi : p0 &&& (7 : Int32) = (3 : Int32)) :
    OwCon l x code maxLocals ret ws room_1 #[(.int p0)] Z h0 (OwP (fun v _ => v = some (.int 1)) n0) := by
  refine MetFree.of_bodySF (plainFor_of_name owpn0) hisR ?_
  intro p e s m args below meth c s₁ Bd hml0 hP hK
  obtain ⟨rfl, hZ, hh⟩ := hP
  have hx := Bd.exec
  have hby := Bd.bytes
  have hml : c.maxLocals = 4 := hml0
  have hown : s.vm.findClass "com/example/clausewright/clausewright/KindNamedByTitlePinLaw" = some m.cls := findClass_of_methodNamed Bd.named
  have hnm := (name_of_methodNamed Bd.named Bd.method).1
  have X0 : Stand p l e room_1 s m #[(.int p0)] below meth c s₁ [] 0 0 := Stand.of_body Bd
  have e0 : s₁.heap = h0 := by rw [← hh, Bd.state]; rfl
  have N0 := Fr.nil n0
  have WW := W
  obtain ⟨E_w_PREAMBLE, E_w_PREAMBLE_beforeLabel, E_w_SECTION, E_w_SECTION_beforeLabel, E_w_APPENDIX, E_w_APPENDIX_beforeLabel, E_w_BULLETIN, E_w_BULLETIN_beforeLabel, E_w_ARTICLE, E_w_ARTICLE_beforeLabel, E_w_CONTENTS, E_w_CONTENTS_beforeLabel, E_w_HEADING, E_w_ITEM, E_w_ITEM_beforeLabel, S_Clause_Kind_PREAMBLE, F_w_PREAMBLE_beforeLabel, S_Clause_Kind_SECTION, F_w_SECTION_beforeLabel, S_Clause_Kind_APPENDIX, F_w_APPENDIX_beforeLabel, S_Clause_Kind_BULLETIN, F_w_BULLETIN_beforeLabel, S_Clause_Kind_ARTICLE, F_w_ARTICLE_beforeLabel, S_Clause_Kind_CONTENTS, F_w_CONTENTS_beforeLabel, S_Clause_Kind_HEADING, F_w_HEADING_beforeLabel, S_Clause_Kind_ITEM, F_w_ITEM_beforeLabel, -⟩ := WW
  have ef : entryFrame m #[(.int p0)] maxLocals = mkF m 0 #[.val (.int p0), .unset, .unset, .unset] [] := by first | rfl | (simp [entryFrame, mkF, argsToLocals, Value.category, maxLocals]; done)
  have pre0 : ∀ t, Steps p.tables e below (s₁.setTop (mkF m 0 #[.val (.int p0), .unset, .unset, .unset] [])) t → Steps p.tables e below (s₁.setTop (entryFrame m #[(.int p0)] maxLocals)) t := fun t k => castTop ef k
  obtain ⟨_, _, ⟨T1, L1, k1, n1⟩, -, X1, ⟨Lc1, hQ1, l1, y1, z1⟩, st1⟩ := Jvm.LawKit.callS X0 hx (y := (⟨"com/example/clausewright/clausewright/KindNamedByTitlePinLaw", "pick", "(I)Lcom/example/clausewright/clausewright/Clause$Kind;"⟩ : MethodName)) hown (mvT hZ (hw _ (List.mem_of_getElem? (i := 0) rfl))) (mvT hZ (hw _ (List.mem_of_getElem? (i := 1) rfl))) (mvT hZ (hw _ (List.mem_of_getElem? (i := 2) rfl))) (mvT hZ (hw _ (List.mem_of_getElem? (i := 3) rfl))) (by decide) (backOf (W := 0) (rm1_3 l Z a0 hw [] n0 h0 O w_PREAMBLE w_PREAMBLE_beforeLabel w_SECTION w_SECTION_beforeLabel w_APPENDIX w_APPENDIX_beforeLabel w_BULLETIN w_BULLETIN_beforeLabel w_ARTICLE w_ARTICLE_beforeLabel w_CONTENTS w_CONTENTS_beforeLabel w_HEADING w_ITEM w_ITEM_beforeLabel W  ) hZ (hw _ (List.mem_of_getElem? (i := 3) rfl)) (hw _ (List.mem_of_getElem? (i := 2) rfl)) (by decide) (by decide)) (g := (mkF m 6 #[.val (.int p0), .val (.int (3 : Int32)), .unset, .unset] [(.int (3 : Int32))])) rfl (by rw [hml]; rfl) (argsL := [(.int (3 : Int32))]) (rest := []) (lenOf owpd0 rfl) rfl (by show 2 * 0 + _ ≤ _; exact Nat.le_of_eq rfl) (hb hby at_6) (fun _ _ => ⟨rfl, e0, (by decide : 0 + 0 ≤ _), (by decide : 0 + 0 ≤ _)⟩)
  dsimp only [Pt.U, Pt.locs, Pt.cells, Pt.slots] at X1 l1 y1 z1 st1 hQ1
  subst l1 y1 z1
  obtain ⟨rfl, Nq1, e1⟩ := hQ1
  have N1 := Fr.app N0 Nq1
  obtain ⟨cq2, kq2, q2a, q2b, q2c⟩ := isOf hZ e1 (E_w_SECTION.ext O.2)
  obtain ⟨_, _, ⟨T2, L2, k2, n2⟩, -, X2, ⟨Lc2, hQ2, l2, y2, z2⟩, st2⟩ := X1.virtualBack hx (y := (⟨"com/example/clausewright/clausewright/Clause$Kind", "namedByTitle", "()Z"⟩ : MethodName)) (z := (⟨"com/example/clausewright/clausewright/Clause$Kind", "namedByTitle", "()Z"⟩ : MethodName)) hown (mvT hZ (hw _ (List.mem_of_getElem? (i := 7) rfl))) (mvT hZ (hw _ (List.mem_of_getElem? (i := 8) rfl))) (notFace_of_selects (args := #[]) (mvT hZ (hw _ (List.mem_of_getElem? (i := 10) rfl)))) (mvT hZ (hw _ (List.mem_of_getElem? (i := 10) rfl))) (mvT hZ (hw _ (List.mem_of_getElem? (i := 9) rfl))) (by decide) (backOf (W := 0) (rm2_r l Z a0 hw [] n0 h0 O w_PREAMBLE w_PREAMBLE_beforeLabel w_SECTION w_SECTION_beforeLabel w_APPENDIX w_APPENDIX_beforeLabel w_BULLETIN w_BULLETIN_beforeLabel w_ARTICLE w_ARTICLE_beforeLabel w_CONTENTS w_CONTENTS_beforeLabel w_HEADING w_ITEM w_ITEM_beforeLabel W w_SECTION w_SECTION_beforeLabel F_w_SECTION_beforeLabel) hZ (hw _ (List.mem_of_getElem? (i := 11) rfl)) (hw _ (List.mem_of_getElem? (i := 5) rfl)) (by decide) (by decide)) q2a q2c (g := (mkF m 22 #[.val (.int p0), .val (.int (3 : Int32)), .val (.ref w_SECTION), .val (.int (0 : Int32))] [(.ref w_SECTION)])) rfl (by rw [hml]; rfl) (Steps.refl _) (argsL := []) (rest := []) (lenOf owpd1 rfl) rfl (by show 2 * 0 + _ ≤ _; exact Nat.le_of_eq rfl) (hb hby at_22) (fun _ _ => ⟨rfl, e1, (by decide : 0 + 0 ≤ _), (by decide : 0 + 0 ≤ _)⟩)
  dsimp only [Pt.U, Pt.locs, Pt.cells, Pt.slots] at X2 l2 y2 z2 st2 hQ2
  subst l2 y2 z2
  obtain ⟨rfl, Nq2, e2⟩ := hQ2
  have N2 := Fr.app N1 Nq2
  obtain ⟨fs, hr, hrun, hended, hW, hsame⟩ := X2.leave (v := some (.int (1 : Int32))) (fun h => by rw [Bd.returns] at h; cases h)
  refine ⟨_, _, pre0 _ ?_, hrun, hended, _, _, rfl, ?_, ⟨_, rfl⟩, hW, hsame.mono (by decide) (by decide)⟩
  · show Steps p.tables e below (s₁.setTop (mkF m 0 #[.val (.int p0), .unset, .unset, .unset] [])) _
    refine XS.iloadN X0.here hx rfl (hb hby at_0) rfl ?_
    show Steps p.tables e below (s₁.setTop (mkF m 1 #[.val (.int p0), .unset, .unset, .unset] [(.int p0)])) _
    refine XS.bipush X0.here hx rfl (hb hby at_1) ?_
    show Steps p.tables e below (s₁.setTop (mkF m 3 #[.val (.int p0), .unset, .unset, .unset] [(.int (7 : Int32)), (.int p0)])) _
    refine XS.iand X0.here hx rfl (hb hby at_3) rfl ?_
    show Steps p.tables e below (s₁.setTop (mkF m 4 #[.val (.int p0), .unset, .unset, .unset] [(.int (p0 &&& (7 : Int32)))])) _
    rw [hi]
    show Steps p.tables e below (s₁.setTop (mkF m 4 #[.val (.int p0), .unset, .unset, .unset] [(.int (3 : Int32))])) _
    refine XS.istoreN X0.here hx rfl (hb hby at_4) rfl (l' := #[.val (.int p0), .val (.int (3 : Int32)), .unset, .unset]) rfl ?_
    show Steps p.tables e below (s₁.setTop (mkF m 5 #[.val (.int p0), .val (.int (3 : Int32)), .unset, .unset] [])) _
    refine XS.iloadN X0.here hx rfl (hb hby at_5) rfl ?_
    show Steps p.tables e below (s₁.setTop (mkF m 6 #[.val (.int p0), .val (.int (3 : Int32)), .unset, .unset] [(.int (3 : Int32))])) _
    refine st1 _ ?_
    show Steps p.tables e below (T1.setTop (mkF m 9 #[.val (.int p0), .val (.int (3 : Int32)), .unset, .unset] [(.ref w_SECTION)])) _
    refine XS.astoreN X1.here hx rfl (hb hby at_9) rfl rfl (l' := #[.val (.int p0), .val (.int (3 : Int32)), .val (.ref w_SECTION), .unset]) rfl ?_
    show Steps p.tables e below (T1.setTop (mkF m 10 #[.val (.int p0), .val (.int (3 : Int32)), .val (.ref w_SECTION), .unset] [])) _
    refine XS.iloadN X1.here hx rfl (hb hby at_10) rfl ?_
    show Steps p.tables e below (T1.setTop (mkF m 11 #[.val (.int p0), .val (.int (3 : Int32)), .val (.ref w_SECTION), .unset] [(.int (3 : Int32))])) _
    refine XS.iconst X1.here hx rfl (hb hby at_11) ?_
    show Steps p.tables e below (T1.setTop (mkF m 12 #[.val (.int p0), .val (.int (3 : Int32)), .val (.ref w_SECTION), .unset] [(.int (4 : Int32)), (.int (3 : Int32))])) _
    refine XS.icmpYes X1.here hx rfl (pc0 := 12) (pc' := 19) rfl (hb hby at_12) rfl (feq (by decide : ¬ ((3 : Int32) = (4 : Int32)))).2 (by decide) (by decide) ?_
    show Steps p.tables e below (T1.setTop (mkF m 19 #[.val (.int p0), .val (.int (3 : Int32)), .val (.ref w_SECTION), .unset] [])) _
    refine XS.iconst X1.here hx rfl (hb hby at_19) ?_
    show Steps p.tables e below (T1.setTop (mkF m 20 #[.val (.int p0), .val (.int (3 : Int32)), .val (.ref w_SECTION), .unset] [(.int (0 : Int32))])) _
    refine XS.istoreN X1.here hx rfl (hb hby at_20) rfl (l' := #[.val (.int p0), .val (.int (3 : Int32)), .val (.ref w_SECTION), .val (.int (0 : Int32))]) rfl ?_
    show Steps p.tables e below (T1.setTop (mkF m 21 #[.val (.int p0), .val (.int (3 : Int32)), .val (.ref w_SECTION), .val (.int (0 : Int32))] [])) _
    refine XS.aloadN X1.here hx rfl (hb hby at_21) rfl rfl ?_
    show Steps p.tables e below (T1.setTop (mkF m 22 #[.val (.int p0), .val (.int (3 : Int32)), .val (.ref w_SECTION), .val (.int (0 : Int32))] [(.ref w_SECTION)])) _
    refine st2.trans ?_
    show Steps p.tables e below (T2.setTop (mkF m 25 #[.val (.int p0), .val (.int (3 : Int32)), .val (.ref w_SECTION), .val (.int (0 : Int32))] [(.int (0 : Int32))])) _
    refine XS.iloadN X2.here hx rfl (hb hby at_25) rfl ?_
    show Steps p.tables e below (T2.setTop (mkF m 26 #[.val (.int p0), .val (.int (3 : Int32)), .val (.ref w_SECTION), .val (.int (0 : Int32))] [(.int (0 : Int32)), (.int (0 : Int32))])) _
    refine XS.icmpNo X2.here hx rfl (hb hby at_26) rfl (teq (by decide : (0 : Int32) = (0 : Int32))).2 ?_
    show Steps p.tables e below (T2.setTop (mkF m 29 #[.val (.int p0), .val (.int (3 : Int32)), .val (.ref w_SECTION), .val (.int (0 : Int32))] [])) _
    refine XS.iconst X2.here hx rfl (hb hby at_29) ?_
    show Steps p.tables e below (T2.setTop (mkF m 30 #[.val (.int p0), .val (.int (3 : Int32)), .val (.ref w_SECTION), .val (.int (0 : Int32))] [(.int (1 : Int32))])) _
    refine XS.goto X2.here hx rfl (pc0 := 30) (pc' := 34) rfl (hb hby at_30) (by decide) (by decide) ?_
    show Steps p.tables e below (T2.setTop (mkF m 34 #[.val (.int p0), .val (.int (3 : Int32)), .val (.ref w_SECTION), .val (.int (0 : Int32))] [(.int (1 : Int32))])) _
    exact retN X2 hx (t := .boolean) Bd.returns (by simp) (hb hby at_34) hr
  · exact ⟨N2, rfl⟩
set_option maxRecDepth 65536 in
set_option maxHeartbeats 40000000 in
theorem rm1_4 (l : Launch) (Z : State) (a0 : Array Value) (hw : ∀ d ∈ tables_1, d.before a0 Z = true) (ws : List Jvm.Cond) (n0 : Nat) (h0 : Heap) (O : Old Z n0 h0) (w_PREAMBLE : Addr) (w_PREAMBLE_beforeLabel : Addr) (w_SECTION : Addr) (w_SECTION_beforeLabel : Addr) (w_APPENDIX : Addr) (w_APPENDIX_beforeLabel : Addr) (w_BULLETIN : Addr) (w_BULLETIN_beforeLabel : Addr) (w_ARTICLE : Addr) (w_ARTICLE_beforeLabel : Addr) (w_CONTENTS : Addr) (w_CONTENTS_beforeLabel : Addr) (w_HEADING : Addr) (w_ITEM : Addr) (w_ITEM_beforeLabel : Addr) (W : OwW Z w_PREAMBLE w_PREAMBLE_beforeLabel w_SECTION w_SECTION_beforeLabel w_APPENDIX w_APPENDIX_beforeLabel w_BULLETIN w_BULLETIN_beforeLabel w_ARTICLE w_ARTICLE_beforeLabel w_CONTENTS w_CONTENTS_beforeLabel w_HEADING w_ITEM w_ITEM_beforeLabel)  :
    OwCon l (⟨"com/example/clausewright/clausewright/KindNamedByTitlePinLaw", "pick", "(I)Lcom/example/clausewright/clausewright/Clause$Kind;"⟩ : MethodName) method_3_code 1 (some (.object "com/example/clausewright/clausewright/Clause$Kind")) ws ({ frames := 0, cells := 0, slots := 0, locals := 0 } : Room) #[(.int (4 : Int32))] Z h0 (OwQ (some (.ref w_HEADING)) h0 n0) := by
  refine MetFree.of_bodySF (plainFor_of_name owpn1) hisR ?_
  intro p e s m args below meth c s₁ Bd hml0 hP hK
  obtain ⟨rfl, hZ, hh⟩ := hP
  have hx := Bd.exec
  have hby := Bd.bytes
  have hml : c.maxLocals = 1 := hml0
  have hown : s.vm.findClass "com/example/clausewright/clausewright/KindNamedByTitlePinLaw" = some m.cls := findClass_of_methodNamed Bd.named
  have hnm := (name_of_methodNamed Bd.named Bd.method).1
  have X0 : Stand p l e ({ frames := 0, cells := 0, slots := 0, locals := 0 } : Room) s m #[(.int (4 : Int32))] below meth c s₁ [] 0 0 := Stand.of_body Bd
  have e0 : s₁.heap = h0 := by rw [← hh, Bd.state]; rfl
  have N0 := Fr.nil n0
  have WW := W
  obtain ⟨E_w_PREAMBLE, E_w_PREAMBLE_beforeLabel, E_w_SECTION, E_w_SECTION_beforeLabel, E_w_APPENDIX, E_w_APPENDIX_beforeLabel, E_w_BULLETIN, E_w_BULLETIN_beforeLabel, E_w_ARTICLE, E_w_ARTICLE_beforeLabel, E_w_CONTENTS, E_w_CONTENTS_beforeLabel, E_w_HEADING, E_w_ITEM, E_w_ITEM_beforeLabel, S_Clause_Kind_PREAMBLE, F_w_PREAMBLE_beforeLabel, S_Clause_Kind_SECTION, F_w_SECTION_beforeLabel, S_Clause_Kind_APPENDIX, F_w_APPENDIX_beforeLabel, S_Clause_Kind_BULLETIN, F_w_BULLETIN_beforeLabel, S_Clause_Kind_ARTICLE, F_w_ARTICLE_beforeLabel, S_Clause_Kind_CONTENTS, F_w_CONTENTS_beforeLabel, S_Clause_Kind_HEADING, F_w_HEADING_beforeLabel, S_Clause_Kind_ITEM, F_w_ITEM_beforeLabel, -⟩ := WW
  have ef : entryFrame m #[(.int (4 : Int32))] 1 = mkF m 0 #[.val (.int (4 : Int32))] [] := by first | rfl | (simp [entryFrame, mkF, argsToLocals, Value.category]; done)
  have pre0 : ∀ t, Steps p.tables e below (s₁.setTop (mkF m 0 #[.val (.int (4 : Int32))] [])) t → Steps p.tables e below (s₁.setTop (entryFrame m #[(.int (4 : Int32))] 1)) t := fun t k => castTop ef k
  obtain ⟨T1, X1, e1, st1⟩ := getS2 X0 hx hZ hown (host := "") (Or.inl (hw _ (List.mem_of_getElem? (i := 24) rfl))) Via.refl e0 (S_Clause_Kind_HEADING.ext O.2) (g := (mkF m 40 #[.val (.int (4 : Int32))] [])) rfl (hb hby d1_40)
  obtain ⟨fs, hr, hrun, hended, hW, hsame⟩ := X1.leave (v := some (.ref w_HEADING)) (fun h => by rw [Bd.returns] at h; cases h)
  refine ⟨_, _, pre0 _ ?_, hrun, hended, _, _, rfl, ?_, ⟨_, rfl⟩, hW, hsame.mono (by decide) (by decide)⟩
  · show Steps p.tables e below (s₁.setTop (mkF m 0 #[.val (.int (4 : Int32))] [])) _
    refine XS.iloadN X0.here hx rfl (hb hby d1_0) rfl ?_
    show Steps p.tables e below (s₁.setTop (mkF m 1 #[.val (.int (4 : Int32))] [(.int (4 : Int32))])) _
    refine XS.ifYes X0.here hx rfl (pc0 := 1) (pc' := 8) rfl (hb hby d1_1) rfl ((if0 _ _).trans (feq (by decide : ¬ ((4 : Int32) = (0 : Int32)))).2) (by decide) (by decide) ?_
    show Steps p.tables e below (s₁.setTop (mkF m 8 #[.val (.int (4 : Int32))] [])) _
    refine XS.iloadN X0.here hx rfl (hb hby d1_8) rfl ?_
    show Steps p.tables e below (s₁.setTop (mkF m 9 #[.val (.int (4 : Int32))] [(.int (4 : Int32))])) _
    refine XS.iconst X0.here hx rfl (hb hby d1_9) ?_
    show Steps p.tables e below (s₁.setTop (mkF m 10 #[.val (.int (4 : Int32))] [(.int (1 : Int32)), (.int (4 : Int32))])) _
    refine XS.icmpYes X0.here hx rfl (pc0 := 10) (pc' := 17) rfl (hb hby d1_10) rfl (feq (by decide : ¬ ((4 : Int32) = (1 : Int32)))).2 (by decide) (by decide) ?_
    show Steps p.tables e below (s₁.setTop (mkF m 17 #[.val (.int (4 : Int32))] [])) _
    refine XS.iloadN X0.here hx rfl (hb hby d1_17) rfl ?_
    show Steps p.tables e below (s₁.setTop (mkF m 18 #[.val (.int (4 : Int32))] [(.int (4 : Int32))])) _
    refine XS.iconst X0.here hx rfl (hb hby d1_18) ?_
    show Steps p.tables e below (s₁.setTop (mkF m 19 #[.val (.int (4 : Int32))] [(.int (2 : Int32)), (.int (4 : Int32))])) _
    refine XS.icmpYes X0.here hx rfl (pc0 := 19) (pc' := 26) rfl (hb hby d1_19) rfl (feq (by decide : ¬ ((4 : Int32) = (2 : Int32)))).2 (by decide) (by decide) ?_
    show Steps p.tables e below (s₁.setTop (mkF m 26 #[.val (.int (4 : Int32))] [])) _
    refine XS.iloadN X0.here hx rfl (hb hby d1_26) rfl ?_
    show Steps p.tables e below (s₁.setTop (mkF m 27 #[.val (.int (4 : Int32))] [(.int (4 : Int32))])) _
    refine XS.iconst X0.here hx rfl (hb hby d1_27) ?_
    show Steps p.tables e below (s₁.setTop (mkF m 28 #[.val (.int (4 : Int32))] [(.int (3 : Int32)), (.int (4 : Int32))])) _
    refine XS.icmpYes X0.here hx rfl (pc0 := 28) (pc' := 35) rfl (hb hby d1_28) rfl (feq (by decide : ¬ ((4 : Int32) = (3 : Int32)))).2 (by decide) (by decide) ?_
    show Steps p.tables e below (s₁.setTop (mkF m 35 #[.val (.int (4 : Int32))] [])) _
    refine XS.iloadN X0.here hx rfl (hb hby d1_35) rfl ?_
    show Steps p.tables e below (s₁.setTop (mkF m 36 #[.val (.int (4 : Int32))] [(.int (4 : Int32))])) _
    refine XS.iconst X0.here hx rfl (hb hby d1_36) ?_
    show Steps p.tables e below (s₁.setTop (mkF m 37 #[.val (.int (4 : Int32))] [(.int (4 : Int32)), (.int (4 : Int32))])) _
    refine XS.icmpNo X0.here hx rfl (hb hby d1_37) rfl (teq (by decide : (4 : Int32) = (4 : Int32))).2 ?_
    show Steps p.tables e below (s₁.setTop (mkF m 40 #[.val (.int (4 : Int32))] [])) _
    refine st1 _ ?_
    show Steps p.tables e below (T1.setTop (mkF m 43 #[.val (.int (4 : Int32))] [(.ref w_HEADING)])) _
    exact retOut X1 hx Bd.returns rfl (Or.inr (Or.inr (Or.inr (Or.inr ⟨rfl, rfl, rfl⟩)))) (hb hby d1_43) hr
  · exact ⟨rfl, N0, e1⟩
set_option maxRecDepth 65536 in
set_option maxHeartbeats 40000000 in
theorem rm0_4 (l : Launch) (Z : State) (a0 : Array Value) (hw : ∀ d ∈ tables_1, d.before a0 Z = true) (ws : List Jvm.Cond) (n0 : Nat) (h0 : Heap) (O : Old Z n0 h0) (w_PREAMBLE : Addr) (w_PREAMBLE_beforeLabel : Addr) (w_SECTION : Addr) (w_SECTION_beforeLabel : Addr) (w_APPENDIX : Addr) (w_APPENDIX_beforeLabel : Addr) (w_BULLETIN : Addr) (w_BULLETIN_beforeLabel : Addr) (w_ARTICLE : Addr) (w_ARTICLE_beforeLabel : Addr) (w_CONTENTS : Addr) (w_CONTENTS_beforeLabel : Addr) (w_HEADING : Addr) (w_ITEM : Addr) (w_ITEM_beforeLabel : Addr) (W : OwW Z w_PREAMBLE w_PREAMBLE_beforeLabel w_SECTION w_SECTION_beforeLabel w_APPENDIX w_APPENDIX_beforeLabel w_BULLETIN w_BULLETIN_beforeLabel w_ARTICLE w_ARTICLE_beforeLabel w_CONTENTS w_CONTENTS_beforeLabel w_HEADING w_ITEM w_ITEM_beforeLabel) (p0 : Int32) (hi : p0 &&& (7 : Int32) = (4 : Int32)) :
    OwCon l x code maxLocals ret ws room_1 #[(.int p0)] Z h0 (OwP (fun v _ => v = some (.int 1)) n0) := by
  refine MetFree.of_bodySF (plainFor_of_name owpn0) hisR ?_
  intro p e s m args below meth c s₁ Bd hml0 hP hK
  obtain ⟨rfl, hZ, hh⟩ := hP
  have hx := Bd.exec
  have hby := Bd.bytes
  have hml : c.maxLocals = 4 := hml0
  have hown : s.vm.findClass "com/example/clausewright/clausewright/KindNamedByTitlePinLaw" = some m.cls := findClass_of_methodNamed Bd.named
  have hnm := (name_of_methodNamed Bd.named Bd.method).1
  have X0 : Stand p l e room_1 s m #[(.int p0)] below meth c s₁ [] 0 0 := Stand.of_body Bd
  have e0 : s₁.heap = h0 := by rw [← hh, Bd.state]; rfl
  have N0 := Fr.nil n0
  have WW := W
  obtain ⟨E_w_PREAMBLE, E_w_PREAMBLE_beforeLabel, E_w_SECTION, E_w_SECTION_beforeLabel, E_w_APPENDIX, E_w_APPENDIX_beforeLabel, E_w_BULLETIN, E_w_BULLETIN_beforeLabel, E_w_ARTICLE, E_w_ARTICLE_beforeLabel, E_w_CONTENTS, E_w_CONTENTS_beforeLabel, E_w_HEADING, E_w_ITEM, E_w_ITEM_beforeLabel, S_Clause_Kind_PREAMBLE, F_w_PREAMBLE_beforeLabel, S_Clause_Kind_SECTION, F_w_SECTION_beforeLabel, S_Clause_Kind_APPENDIX, F_w_APPENDIX_beforeLabel, S_Clause_Kind_BULLETIN, F_w_BULLETIN_beforeLabel, S_Clause_Kind_ARTICLE, F_w_ARTICLE_beforeLabel, S_Clause_Kind_CONTENTS, F_w_CONTENTS_beforeLabel, S_Clause_Kind_HEADING, F_w_HEADING_beforeLabel, S_Clause_Kind_ITEM, F_w_ITEM_beforeLabel, -⟩ := WW
  have ef : entryFrame m #[(.int p0)] maxLocals = mkF m 0 #[.val (.int p0), .unset, .unset, .unset] [] := by first | rfl | (simp [entryFrame, mkF, argsToLocals, Value.category, maxLocals]; done)
  have pre0 : ∀ t, Steps p.tables e below (s₁.setTop (mkF m 0 #[.val (.int p0), .unset, .unset, .unset] [])) t → Steps p.tables e below (s₁.setTop (entryFrame m #[(.int p0)] maxLocals)) t := fun t k => castTop ef k
  obtain ⟨_, _, ⟨T1, L1, k1, n1⟩, -, X1, ⟨Lc1, hQ1, l1, y1, z1⟩, st1⟩ := Jvm.LawKit.callS X0 hx (y := (⟨"com/example/clausewright/clausewright/KindNamedByTitlePinLaw", "pick", "(I)Lcom/example/clausewright/clausewright/Clause$Kind;"⟩ : MethodName)) hown (mvT hZ (hw _ (List.mem_of_getElem? (i := 0) rfl))) (mvT hZ (hw _ (List.mem_of_getElem? (i := 1) rfl))) (mvT hZ (hw _ (List.mem_of_getElem? (i := 2) rfl))) (mvT hZ (hw _ (List.mem_of_getElem? (i := 3) rfl))) (by decide) (backOf (W := 0) (rm1_4 l Z a0 hw [] n0 h0 O w_PREAMBLE w_PREAMBLE_beforeLabel w_SECTION w_SECTION_beforeLabel w_APPENDIX w_APPENDIX_beforeLabel w_BULLETIN w_BULLETIN_beforeLabel w_ARTICLE w_ARTICLE_beforeLabel w_CONTENTS w_CONTENTS_beforeLabel w_HEADING w_ITEM w_ITEM_beforeLabel W  ) hZ (hw _ (List.mem_of_getElem? (i := 3) rfl)) (hw _ (List.mem_of_getElem? (i := 2) rfl)) (by decide) (by decide)) (g := (mkF m 6 #[.val (.int p0), .val (.int (4 : Int32)), .unset, .unset] [(.int (4 : Int32))])) rfl (by rw [hml]; rfl) (argsL := [(.int (4 : Int32))]) (rest := []) (lenOf owpd0 rfl) rfl (by show 2 * 0 + _ ≤ _; exact Nat.le_of_eq rfl) (hb hby at_6) (fun _ _ => ⟨rfl, e0, (by decide : 0 + 0 ≤ _), (by decide : 0 + 0 ≤ _)⟩)
  dsimp only [Pt.U, Pt.locs, Pt.cells, Pt.slots] at X1 l1 y1 z1 st1 hQ1
  subst l1 y1 z1
  obtain ⟨rfl, Nq1, e1⟩ := hQ1
  have N1 := Fr.app N0 Nq1
  obtain ⟨cq2, kq2, q2a, q2b, q2c⟩ := isOf hZ e1 (E_w_HEADING.ext O.2)
  obtain ⟨_, _, ⟨T2, L2, k2, n2⟩, -, X2, ⟨Lc2, hQ2, l2, y2, z2⟩, st2⟩ := X1.virtualBack hx (y := (⟨"com/example/clausewright/clausewright/Clause$Kind", "namedByTitle", "()Z"⟩ : MethodName)) (z := (⟨"com/example/clausewright/clausewright/Clause$Kind", "namedByTitle", "()Z"⟩ : MethodName)) hown (mvT hZ (hw _ (List.mem_of_getElem? (i := 7) rfl))) (mvT hZ (hw _ (List.mem_of_getElem? (i := 8) rfl))) (notFace_of_selects (args := #[]) (mvT hZ (hw _ (List.mem_of_getElem? (i := 10) rfl)))) (mvT hZ (hw _ (List.mem_of_getElem? (i := 10) rfl))) (mvT hZ (hw _ (List.mem_of_getElem? (i := 9) rfl))) (by decide) (backOf (W := 0) (rm2_n l Z a0 hw [] n0 h0 O w_PREAMBLE w_PREAMBLE_beforeLabel w_SECTION w_SECTION_beforeLabel w_APPENDIX w_APPENDIX_beforeLabel w_BULLETIN w_BULLETIN_beforeLabel w_ARTICLE w_ARTICLE_beforeLabel w_CONTENTS w_CONTENTS_beforeLabel w_HEADING w_ITEM w_ITEM_beforeLabel W w_HEADING F_w_HEADING_beforeLabel) hZ (hw _ (List.mem_of_getElem? (i := 11) rfl)) (hw _ (List.mem_of_getElem? (i := 5) rfl)) (by decide) (by decide)) q2a q2c (g := (mkF m 22 #[.val (.int p0), .val (.int (4 : Int32)), .val (.ref w_HEADING), .val (.int (1 : Int32))] [(.ref w_HEADING)])) rfl (by rw [hml]; rfl) (Steps.refl _) (argsL := []) (rest := []) (lenOf owpd1 rfl) rfl (by show 2 * 0 + _ ≤ _; exact Nat.le_of_eq rfl) (hb hby at_22) (fun _ _ => ⟨rfl, e1, (by decide : 0 + 0 ≤ _), (by decide : 0 + 0 ≤ _)⟩)
  dsimp only [Pt.U, Pt.locs, Pt.cells, Pt.slots] at X2 l2 y2 z2 st2 hQ2
  subst l2 y2 z2
  obtain ⟨rfl, Nq2, e2⟩ := hQ2
  have N2 := Fr.app N1 Nq2
  obtain ⟨fs, hr, hrun, hended, hW, hsame⟩ := X2.leave (v := some (.int (1 : Int32))) (fun h => by rw [Bd.returns] at h; cases h)
  refine ⟨_, _, pre0 _ ?_, hrun, hended, _, _, rfl, ?_, ⟨_, rfl⟩, hW, hsame.mono (by decide) (by decide)⟩
  · show Steps p.tables e below (s₁.setTop (mkF m 0 #[.val (.int p0), .unset, .unset, .unset] [])) _
    refine XS.iloadN X0.here hx rfl (hb hby at_0) rfl ?_
    show Steps p.tables e below (s₁.setTop (mkF m 1 #[.val (.int p0), .unset, .unset, .unset] [(.int p0)])) _
    refine XS.bipush X0.here hx rfl (hb hby at_1) ?_
    show Steps p.tables e below (s₁.setTop (mkF m 3 #[.val (.int p0), .unset, .unset, .unset] [(.int (7 : Int32)), (.int p0)])) _
    refine XS.iand X0.here hx rfl (hb hby at_3) rfl ?_
    show Steps p.tables e below (s₁.setTop (mkF m 4 #[.val (.int p0), .unset, .unset, .unset] [(.int (p0 &&& (7 : Int32)))])) _
    rw [hi]
    show Steps p.tables e below (s₁.setTop (mkF m 4 #[.val (.int p0), .unset, .unset, .unset] [(.int (4 : Int32))])) _
    refine XS.istoreN X0.here hx rfl (hb hby at_4) rfl (l' := #[.val (.int p0), .val (.int (4 : Int32)), .unset, .unset]) rfl ?_
    show Steps p.tables e below (s₁.setTop (mkF m 5 #[.val (.int p0), .val (.int (4 : Int32)), .unset, .unset] [])) _
    refine XS.iloadN X0.here hx rfl (hb hby at_5) rfl ?_
    show Steps p.tables e below (s₁.setTop (mkF m 6 #[.val (.int p0), .val (.int (4 : Int32)), .unset, .unset] [(.int (4 : Int32))])) _
    refine st1 _ ?_
    show Steps p.tables e below (T1.setTop (mkF m 9 #[.val (.int p0), .val (.int (4 : Int32)), .unset, .unset] [(.ref w_HEADING)])) _
    refine XS.astoreN X1.here hx rfl (hb hby at_9) rfl rfl (l' := #[.val (.int p0), .val (.int (4 : Int32)), .val (.ref w_HEADING), .unset]) rfl ?_
    show Steps p.tables e below (T1.setTop (mkF m 10 #[.val (.int p0), .val (.int (4 : Int32)), .val (.ref w_HEADING), .unset] [])) _
    refine XS.iloadN X1.here hx rfl (hb hby at_10) rfl ?_
    show Steps p.tables e below (T1.setTop (mkF m 11 #[.val (.int p0), .val (.int (4 : Int32)), .val (.ref w_HEADING), .unset] [(.int (4 : Int32))])) _
    refine XS.iconst X1.here hx rfl (hb hby at_11) ?_
    show Steps p.tables e below (T1.setTop (mkF m 12 #[.val (.int p0), .val (.int (4 : Int32)), .val (.ref w_HEADING), .unset] [(.int (4 : Int32)), (.int (4 : Int32))])) _
    refine XS.icmpNo X1.here hx rfl (hb hby at_12) rfl (teq (by decide : (4 : Int32) = (4 : Int32))).2 ?_
    show Steps p.tables e below (T1.setTop (mkF m 15 #[.val (.int p0), .val (.int (4 : Int32)), .val (.ref w_HEADING), .unset] [])) _
    refine XS.iconst X1.here hx rfl (hb hby at_15) ?_
    show Steps p.tables e below (T1.setTop (mkF m 16 #[.val (.int p0), .val (.int (4 : Int32)), .val (.ref w_HEADING), .unset] [(.int (1 : Int32))])) _
    refine XS.goto X1.here hx rfl (pc0 := 16) (pc' := 20) rfl (hb hby at_16) (by decide) (by decide) ?_
    show Steps p.tables e below (T1.setTop (mkF m 20 #[.val (.int p0), .val (.int (4 : Int32)), .val (.ref w_HEADING), .unset] [(.int (1 : Int32))])) _
    refine XS.istoreN X1.here hx rfl (hb hby at_20) rfl (l' := #[.val (.int p0), .val (.int (4 : Int32)), .val (.ref w_HEADING), .val (.int (1 : Int32))]) rfl ?_
    show Steps p.tables e below (T1.setTop (mkF m 21 #[.val (.int p0), .val (.int (4 : Int32)), .val (.ref w_HEADING), .val (.int (1 : Int32))] [])) _
    refine XS.aloadN X1.here hx rfl (hb hby at_21) rfl rfl ?_
    show Steps p.tables e below (T1.setTop (mkF m 22 #[.val (.int p0), .val (.int (4 : Int32)), .val (.ref w_HEADING), .val (.int (1 : Int32))] [(.ref w_HEADING)])) _
    refine st2.trans ?_
    show Steps p.tables e below (T2.setTop (mkF m 25 #[.val (.int p0), .val (.int (4 : Int32)), .val (.ref w_HEADING), .val (.int (1 : Int32))] [(.int (1 : Int32))])) _
    refine XS.iloadN X2.here hx rfl (hb hby at_25) rfl ?_
    show Steps p.tables e below (T2.setTop (mkF m 26 #[.val (.int p0), .val (.int (4 : Int32)), .val (.ref w_HEADING), .val (.int (1 : Int32))] [(.int (1 : Int32)), (.int (1 : Int32))])) _
    refine XS.icmpNo X2.here hx rfl (hb hby at_26) rfl (teq (by decide : (1 : Int32) = (1 : Int32))).2 ?_
    show Steps p.tables e below (T2.setTop (mkF m 29 #[.val (.int p0), .val (.int (4 : Int32)), .val (.ref w_HEADING), .val (.int (1 : Int32))] [])) _
    refine XS.iconst X2.here hx rfl (hb hby at_29) ?_
    show Steps p.tables e below (T2.setTop (mkF m 30 #[.val (.int p0), .val (.int (4 : Int32)), .val (.ref w_HEADING), .val (.int (1 : Int32))] [(.int (1 : Int32))])) _
    refine XS.goto X2.here hx rfl (pc0 := 30) (pc' := 34) rfl (hb hby at_30) (by decide) (by decide) ?_
    show Steps p.tables e below (T2.setTop (mkF m 34 #[.val (.int p0), .val (.int (4 : Int32)), .val (.ref w_HEADING), .val (.int (1 : Int32))] [(.int (1 : Int32))])) _
    exact retN X2 hx (t := .boolean) Bd.returns (by simp) (hb hby at_34) hr
  · exact ⟨N2, rfl⟩
set_option maxRecDepth 65536 in
set_option maxHeartbeats 40000000 in
theorem rm1_5 (l : Launch) (Z : State) (a0 : Array Value) (hw : ∀ d ∈ tables_1, d.before a0 Z = true) (ws : List Jvm.Cond) (n0 : Nat) (h0 : Heap) (O : Old Z n0 h0) (w_PREAMBLE : Addr) (w_PREAMBLE_beforeLabel : Addr) (w_SECTION : Addr) (w_SECTION_beforeLabel : Addr) (w_APPENDIX : Addr) (w_APPENDIX_beforeLabel : Addr) (w_BULLETIN : Addr) (w_BULLETIN_beforeLabel : Addr) (w_ARTICLE : Addr) (w_ARTICLE_beforeLabel : Addr) (w_CONTENTS : Addr) (w_CONTENTS_beforeLabel : Addr) (w_HEADING : Addr) (w_ITEM : Addr) (w_ITEM_beforeLabel : Addr) (W : OwW Z w_PREAMBLE w_PREAMBLE_beforeLabel w_SECTION w_SECTION_beforeLabel w_APPENDIX w_APPENDIX_beforeLabel w_BULLETIN w_BULLETIN_beforeLabel w_ARTICLE w_ARTICLE_beforeLabel w_CONTENTS w_CONTENTS_beforeLabel w_HEADING w_ITEM w_ITEM_beforeLabel)  :
    OwCon l (⟨"com/example/clausewright/clausewright/KindNamedByTitlePinLaw", "pick", "(I)Lcom/example/clausewright/clausewright/Clause$Kind;"⟩ : MethodName) method_3_code 1 (some (.object "com/example/clausewright/clausewright/Clause$Kind")) ws ({ frames := 0, cells := 0, slots := 0, locals := 0 } : Room) #[(.int (5 : Int32))] Z h0 (OwQ (some (.ref w_ITEM)) h0 n0) := by
  refine MetFree.of_bodySF (plainFor_of_name owpn1) hisR ?_
  intro p e s m args below meth c s₁ Bd hml0 hP hK
  obtain ⟨rfl, hZ, hh⟩ := hP
  have hx := Bd.exec
  have hby := Bd.bytes
  have hml : c.maxLocals = 1 := hml0
  have hown : s.vm.findClass "com/example/clausewright/clausewright/KindNamedByTitlePinLaw" = some m.cls := findClass_of_methodNamed Bd.named
  have hnm := (name_of_methodNamed Bd.named Bd.method).1
  have X0 : Stand p l e ({ frames := 0, cells := 0, slots := 0, locals := 0 } : Room) s m #[(.int (5 : Int32))] below meth c s₁ [] 0 0 := Stand.of_body Bd
  have e0 : s₁.heap = h0 := by rw [← hh, Bd.state]; rfl
  have N0 := Fr.nil n0
  have WW := W
  obtain ⟨E_w_PREAMBLE, E_w_PREAMBLE_beforeLabel, E_w_SECTION, E_w_SECTION_beforeLabel, E_w_APPENDIX, E_w_APPENDIX_beforeLabel, E_w_BULLETIN, E_w_BULLETIN_beforeLabel, E_w_ARTICLE, E_w_ARTICLE_beforeLabel, E_w_CONTENTS, E_w_CONTENTS_beforeLabel, E_w_HEADING, E_w_ITEM, E_w_ITEM_beforeLabel, S_Clause_Kind_PREAMBLE, F_w_PREAMBLE_beforeLabel, S_Clause_Kind_SECTION, F_w_SECTION_beforeLabel, S_Clause_Kind_APPENDIX, F_w_APPENDIX_beforeLabel, S_Clause_Kind_BULLETIN, F_w_BULLETIN_beforeLabel, S_Clause_Kind_ARTICLE, F_w_ARTICLE_beforeLabel, S_Clause_Kind_CONTENTS, F_w_CONTENTS_beforeLabel, S_Clause_Kind_HEADING, F_w_HEADING_beforeLabel, S_Clause_Kind_ITEM, F_w_ITEM_beforeLabel, -⟩ := WW
  have ef : entryFrame m #[(.int (5 : Int32))] 1 = mkF m 0 #[.val (.int (5 : Int32))] [] := by first | rfl | (simp [entryFrame, mkF, argsToLocals, Value.category]; done)
  have pre0 : ∀ t, Steps p.tables e below (s₁.setTop (mkF m 0 #[.val (.int (5 : Int32))] [])) t → Steps p.tables e below (s₁.setTop (entryFrame m #[(.int (5 : Int32))] 1)) t := fun t k => castTop ef k
  obtain ⟨T1, X1, e1, st1⟩ := getS2 X0 hx hZ hown (host := "") (Or.inl (hw _ (List.mem_of_getElem? (i := 26) rfl))) Via.refl e0 (S_Clause_Kind_ITEM.ext O.2) (g := (mkF m 49 #[.val (.int (5 : Int32))] [])) rfl (hb hby d1_49)
  obtain ⟨fs, hr, hrun, hended, hW, hsame⟩ := X1.leave (v := some (.ref w_ITEM)) (fun h => by rw [Bd.returns] at h; cases h)
  refine ⟨_, _, pre0 _ ?_, hrun, hended, _, _, rfl, ?_, ⟨_, rfl⟩, hW, hsame.mono (by decide) (by decide)⟩
  · show Steps p.tables e below (s₁.setTop (mkF m 0 #[.val (.int (5 : Int32))] [])) _
    refine XS.iloadN X0.here hx rfl (hb hby d1_0) rfl ?_
    show Steps p.tables e below (s₁.setTop (mkF m 1 #[.val (.int (5 : Int32))] [(.int (5 : Int32))])) _
    refine XS.ifYes X0.here hx rfl (pc0 := 1) (pc' := 8) rfl (hb hby d1_1) rfl ((if0 _ _).trans (feq (by decide : ¬ ((5 : Int32) = (0 : Int32)))).2) (by decide) (by decide) ?_
    show Steps p.tables e below (s₁.setTop (mkF m 8 #[.val (.int (5 : Int32))] [])) _
    refine XS.iloadN X0.here hx rfl (hb hby d1_8) rfl ?_
    show Steps p.tables e below (s₁.setTop (mkF m 9 #[.val (.int (5 : Int32))] [(.int (5 : Int32))])) _
    refine XS.iconst X0.here hx rfl (hb hby d1_9) ?_
    show Steps p.tables e below (s₁.setTop (mkF m 10 #[.val (.int (5 : Int32))] [(.int (1 : Int32)), (.int (5 : Int32))])) _
    refine XS.icmpYes X0.here hx rfl (pc0 := 10) (pc' := 17) rfl (hb hby d1_10) rfl (feq (by decide : ¬ ((5 : Int32) = (1 : Int32)))).2 (by decide) (by decide) ?_
    show Steps p.tables e below (s₁.setTop (mkF m 17 #[.val (.int (5 : Int32))] [])) _
    refine XS.iloadN X0.here hx rfl (hb hby d1_17) rfl ?_
    show Steps p.tables e below (s₁.setTop (mkF m 18 #[.val (.int (5 : Int32))] [(.int (5 : Int32))])) _
    refine XS.iconst X0.here hx rfl (hb hby d1_18) ?_
    show Steps p.tables e below (s₁.setTop (mkF m 19 #[.val (.int (5 : Int32))] [(.int (2 : Int32)), (.int (5 : Int32))])) _
    refine XS.icmpYes X0.here hx rfl (pc0 := 19) (pc' := 26) rfl (hb hby d1_19) rfl (feq (by decide : ¬ ((5 : Int32) = (2 : Int32)))).2 (by decide) (by decide) ?_
    show Steps p.tables e below (s₁.setTop (mkF m 26 #[.val (.int (5 : Int32))] [])) _
    refine XS.iloadN X0.here hx rfl (hb hby d1_26) rfl ?_
    show Steps p.tables e below (s₁.setTop (mkF m 27 #[.val (.int (5 : Int32))] [(.int (5 : Int32))])) _
    refine XS.iconst X0.here hx rfl (hb hby d1_27) ?_
    show Steps p.tables e below (s₁.setTop (mkF m 28 #[.val (.int (5 : Int32))] [(.int (3 : Int32)), (.int (5 : Int32))])) _
    refine XS.icmpYes X0.here hx rfl (pc0 := 28) (pc' := 35) rfl (hb hby d1_28) rfl (feq (by decide : ¬ ((5 : Int32) = (3 : Int32)))).2 (by decide) (by decide) ?_
    show Steps p.tables e below (s₁.setTop (mkF m 35 #[.val (.int (5 : Int32))] [])) _
    refine XS.iloadN X0.here hx rfl (hb hby d1_35) rfl ?_
    show Steps p.tables e below (s₁.setTop (mkF m 36 #[.val (.int (5 : Int32))] [(.int (5 : Int32))])) _
    refine XS.iconst X0.here hx rfl (hb hby d1_36) ?_
    show Steps p.tables e below (s₁.setTop (mkF m 37 #[.val (.int (5 : Int32))] [(.int (4 : Int32)), (.int (5 : Int32))])) _
    refine XS.icmpYes X0.here hx rfl (pc0 := 37) (pc' := 44) rfl (hb hby d1_37) rfl (feq (by decide : ¬ ((5 : Int32) = (4 : Int32)))).2 (by decide) (by decide) ?_
    show Steps p.tables e below (s₁.setTop (mkF m 44 #[.val (.int (5 : Int32))] [])) _
    refine XS.iloadN X0.here hx rfl (hb hby d1_44) rfl ?_
    show Steps p.tables e below (s₁.setTop (mkF m 45 #[.val (.int (5 : Int32))] [(.int (5 : Int32))])) _
    refine XS.iconst X0.here hx rfl (hb hby d1_45) ?_
    show Steps p.tables e below (s₁.setTop (mkF m 46 #[.val (.int (5 : Int32))] [(.int (5 : Int32)), (.int (5 : Int32))])) _
    refine XS.icmpNo X0.here hx rfl (hb hby d1_46) rfl (teq (by decide : (5 : Int32) = (5 : Int32))).2 ?_
    show Steps p.tables e below (s₁.setTop (mkF m 49 #[.val (.int (5 : Int32))] [])) _
    refine st1 _ ?_
    show Steps p.tables e below (T1.setTop (mkF m 52 #[.val (.int (5 : Int32))] [(.ref w_ITEM)])) _
    exact retOut X1 hx Bd.returns rfl (Or.inr (Or.inr (Or.inr (Or.inr ⟨rfl, rfl, rfl⟩)))) (hb hby d1_52) hr
  · exact ⟨rfl, N0, e1⟩
set_option maxRecDepth 65536 in
set_option maxHeartbeats 40000000 in
theorem rm0_5 (l : Launch) (Z : State) (a0 : Array Value) (hw : ∀ d ∈ tables_1, d.before a0 Z = true) (ws : List Jvm.Cond) (n0 : Nat) (h0 : Heap) (O : Old Z n0 h0) (w_PREAMBLE : Addr) (w_PREAMBLE_beforeLabel : Addr) (w_SECTION : Addr) (w_SECTION_beforeLabel : Addr) (w_APPENDIX : Addr) (w_APPENDIX_beforeLabel : Addr) (w_BULLETIN : Addr) (w_BULLETIN_beforeLabel : Addr) (w_ARTICLE : Addr) (w_ARTICLE_beforeLabel : Addr) (w_CONTENTS : Addr) (w_CONTENTS_beforeLabel : Addr) (w_HEADING : Addr) (w_ITEM : Addr) (w_ITEM_beforeLabel : Addr) (W : OwW Z w_PREAMBLE w_PREAMBLE_beforeLabel w_SECTION w_SECTION_beforeLabel w_APPENDIX w_APPENDIX_beforeLabel w_BULLETIN w_BULLETIN_beforeLabel w_ARTICLE w_ARTICLE_beforeLabel w_CONTENTS w_CONTENTS_beforeLabel w_HEADING w_ITEM w_ITEM_beforeLabel) (p0 : Int32) (hi : p0 &&& (7 : Int32) = (5 : Int32)) :
    OwCon l x code maxLocals ret ws room_1 #[(.int p0)] Z h0 (OwP (fun v _ => v = some (.int 1)) n0) := by
  refine MetFree.of_bodySF (plainFor_of_name owpn0) hisR ?_
  intro p e s m args below meth c s₁ Bd hml0 hP hK
  obtain ⟨rfl, hZ, hh⟩ := hP
  have hx := Bd.exec
  have hby := Bd.bytes
  have hml : c.maxLocals = 4 := hml0
  have hown : s.vm.findClass "com/example/clausewright/clausewright/KindNamedByTitlePinLaw" = some m.cls := findClass_of_methodNamed Bd.named
  have hnm := (name_of_methodNamed Bd.named Bd.method).1
  have X0 : Stand p l e room_1 s m #[(.int p0)] below meth c s₁ [] 0 0 := Stand.of_body Bd
  have e0 : s₁.heap = h0 := by rw [← hh, Bd.state]; rfl
  have N0 := Fr.nil n0
  have WW := W
  obtain ⟨E_w_PREAMBLE, E_w_PREAMBLE_beforeLabel, E_w_SECTION, E_w_SECTION_beforeLabel, E_w_APPENDIX, E_w_APPENDIX_beforeLabel, E_w_BULLETIN, E_w_BULLETIN_beforeLabel, E_w_ARTICLE, E_w_ARTICLE_beforeLabel, E_w_CONTENTS, E_w_CONTENTS_beforeLabel, E_w_HEADING, E_w_ITEM, E_w_ITEM_beforeLabel, S_Clause_Kind_PREAMBLE, F_w_PREAMBLE_beforeLabel, S_Clause_Kind_SECTION, F_w_SECTION_beforeLabel, S_Clause_Kind_APPENDIX, F_w_APPENDIX_beforeLabel, S_Clause_Kind_BULLETIN, F_w_BULLETIN_beforeLabel, S_Clause_Kind_ARTICLE, F_w_ARTICLE_beforeLabel, S_Clause_Kind_CONTENTS, F_w_CONTENTS_beforeLabel, S_Clause_Kind_HEADING, F_w_HEADING_beforeLabel, S_Clause_Kind_ITEM, F_w_ITEM_beforeLabel, -⟩ := WW
  have ef : entryFrame m #[(.int p0)] maxLocals = mkF m 0 #[.val (.int p0), .unset, .unset, .unset] [] := by first | rfl | (simp [entryFrame, mkF, argsToLocals, Value.category, maxLocals]; done)
  have pre0 : ∀ t, Steps p.tables e below (s₁.setTop (mkF m 0 #[.val (.int p0), .unset, .unset, .unset] [])) t → Steps p.tables e below (s₁.setTop (entryFrame m #[(.int p0)] maxLocals)) t := fun t k => castTop ef k
  obtain ⟨_, _, ⟨T1, L1, k1, n1⟩, -, X1, ⟨Lc1, hQ1, l1, y1, z1⟩, st1⟩ := Jvm.LawKit.callS X0 hx (y := (⟨"com/example/clausewright/clausewright/KindNamedByTitlePinLaw", "pick", "(I)Lcom/example/clausewright/clausewright/Clause$Kind;"⟩ : MethodName)) hown (mvT hZ (hw _ (List.mem_of_getElem? (i := 0) rfl))) (mvT hZ (hw _ (List.mem_of_getElem? (i := 1) rfl))) (mvT hZ (hw _ (List.mem_of_getElem? (i := 2) rfl))) (mvT hZ (hw _ (List.mem_of_getElem? (i := 3) rfl))) (by decide) (backOf (W := 0) (rm1_5 l Z a0 hw [] n0 h0 O w_PREAMBLE w_PREAMBLE_beforeLabel w_SECTION w_SECTION_beforeLabel w_APPENDIX w_APPENDIX_beforeLabel w_BULLETIN w_BULLETIN_beforeLabel w_ARTICLE w_ARTICLE_beforeLabel w_CONTENTS w_CONTENTS_beforeLabel w_HEADING w_ITEM w_ITEM_beforeLabel W  ) hZ (hw _ (List.mem_of_getElem? (i := 3) rfl)) (hw _ (List.mem_of_getElem? (i := 2) rfl)) (by decide) (by decide)) (g := (mkF m 6 #[.val (.int p0), .val (.int (5 : Int32)), .unset, .unset] [(.int (5 : Int32))])) rfl (by rw [hml]; rfl) (argsL := [(.int (5 : Int32))]) (rest := []) (lenOf owpd0 rfl) rfl (by show 2 * 0 + _ ≤ _; exact Nat.le_of_eq rfl) (hb hby at_6) (fun _ _ => ⟨rfl, e0, (by decide : 0 + 0 ≤ _), (by decide : 0 + 0 ≤ _)⟩)
  dsimp only [Pt.U, Pt.locs, Pt.cells, Pt.slots] at X1 l1 y1 z1 st1 hQ1
  subst l1 y1 z1
  obtain ⟨rfl, Nq1, e1⟩ := hQ1
  have N1 := Fr.app N0 Nq1
  obtain ⟨cq2, kq2, q2a, q2b, q2c⟩ := isOf hZ e1 (E_w_ITEM.ext O.2)
  obtain ⟨_, _, ⟨T2, L2, k2, n2⟩, -, X2, ⟨Lc2, hQ2, l2, y2, z2⟩, st2⟩ := X1.virtualBack hx (y := (⟨"com/example/clausewright/clausewright/Clause$Kind", "namedByTitle", "()Z"⟩ : MethodName)) (z := (⟨"com/example/clausewright/clausewright/Clause$Kind", "namedByTitle", "()Z"⟩ : MethodName)) hown (mvT hZ (hw _ (List.mem_of_getElem? (i := 7) rfl))) (mvT hZ (hw _ (List.mem_of_getElem? (i := 8) rfl))) (notFace_of_selects (args := #[]) (mvT hZ (hw _ (List.mem_of_getElem? (i := 10) rfl)))) (mvT hZ (hw _ (List.mem_of_getElem? (i := 10) rfl))) (mvT hZ (hw _ (List.mem_of_getElem? (i := 9) rfl))) (by decide) (backOf (W := 0) (rm2_r l Z a0 hw [] n0 h0 O w_PREAMBLE w_PREAMBLE_beforeLabel w_SECTION w_SECTION_beforeLabel w_APPENDIX w_APPENDIX_beforeLabel w_BULLETIN w_BULLETIN_beforeLabel w_ARTICLE w_ARTICLE_beforeLabel w_CONTENTS w_CONTENTS_beforeLabel w_HEADING w_ITEM w_ITEM_beforeLabel W w_ITEM w_ITEM_beforeLabel F_w_ITEM_beforeLabel) hZ (hw _ (List.mem_of_getElem? (i := 11) rfl)) (hw _ (List.mem_of_getElem? (i := 5) rfl)) (by decide) (by decide)) q2a q2c (g := (mkF m 22 #[.val (.int p0), .val (.int (5 : Int32)), .val (.ref w_ITEM), .val (.int (0 : Int32))] [(.ref w_ITEM)])) rfl (by rw [hml]; rfl) (Steps.refl _) (argsL := []) (rest := []) (lenOf owpd1 rfl) rfl (by show 2 * 0 + _ ≤ _; exact Nat.le_of_eq rfl) (hb hby at_22) (fun _ _ => ⟨rfl, e1, (by decide : 0 + 0 ≤ _), (by decide : 0 + 0 ≤ _)⟩)
  dsimp only [Pt.U, Pt.locs, Pt.cells, Pt.slots] at X2 l2 y2 z2 st2 hQ2
  subst l2 y2 z2
  obtain ⟨rfl, Nq2, e2⟩ := hQ2
  have N2 := Fr.app N1 Nq2
  obtain ⟨fs, hr, hrun, hended, hW, hsame⟩ := X2.leave (v := some (.int (1 : Int32))) (fun h => by rw [Bd.returns] at h; cases h)
  refine ⟨_, _, pre0 _ ?_, hrun, hended, _, _, rfl, ?_, ⟨_, rfl⟩, hW, hsame.mono (by decide) (by decide)⟩
  · show Steps p.tables e below (s₁.setTop (mkF m 0 #[.val (.int p0), .unset, .unset, .unset] [])) _
    refine XS.iloadN X0.here hx rfl (hb hby at_0) rfl ?_
    show Steps p.tables e below (s₁.setTop (mkF m 1 #[.val (.int p0), .unset, .unset, .unset] [(.int p0)])) _
    refine XS.bipush X0.here hx rfl (hb hby at_1) ?_
    show Steps p.tables e below (s₁.setTop (mkF m 3 #[.val (.int p0), .unset, .unset, .unset] [(.int (7 : Int32)), (.int p0)])) _
    refine XS.iand X0.here hx rfl (hb hby at_3) rfl ?_
    show Steps p.tables e below (s₁.setTop (mkF m 4 #[.val (.int p0), .unset, .unset, .unset] [(.int (p0 &&& (7 : Int32)))])) _
    rw [hi]
    show Steps p.tables e below (s₁.setTop (mkF m 4 #[.val (.int p0), .unset, .unset, .unset] [(.int (5 : Int32))])) _
    refine XS.istoreN X0.here hx rfl (hb hby at_4) rfl (l' := #[.val (.int p0), .val (.int (5 : Int32)), .unset, .unset]) rfl ?_
    show Steps p.tables e below (s₁.setTop (mkF m 5 #[.val (.int p0), .val (.int (5 : Int32)), .unset, .unset] [])) _
    refine XS.iloadN X0.here hx rfl (hb hby at_5) rfl ?_
    show Steps p.tables e below (s₁.setTop (mkF m 6 #[.val (.int p0), .val (.int (5 : Int32)), .unset, .unset] [(.int (5 : Int32))])) _
    refine st1 _ ?_
    show Steps p.tables e below (T1.setTop (mkF m 9 #[.val (.int p0), .val (.int (5 : Int32)), .unset, .unset] [(.ref w_ITEM)])) _
    refine XS.astoreN X1.here hx rfl (hb hby at_9) rfl rfl (l' := #[.val (.int p0), .val (.int (5 : Int32)), .val (.ref w_ITEM), .unset]) rfl ?_
    show Steps p.tables e below (T1.setTop (mkF m 10 #[.val (.int p0), .val (.int (5 : Int32)), .val (.ref w_ITEM), .unset] [])) _
    refine XS.iloadN X1.here hx rfl (hb hby at_10) rfl ?_
    show Steps p.tables e below (T1.setTop (mkF m 11 #[.val (.int p0), .val (.int (5 : Int32)), .val (.ref w_ITEM), .unset] [(.int (5 : Int32))])) _
    refine XS.iconst X1.here hx rfl (hb hby at_11) ?_
    show Steps p.tables e below (T1.setTop (mkF m 12 #[.val (.int p0), .val (.int (5 : Int32)), .val (.ref w_ITEM), .unset] [(.int (4 : Int32)), (.int (5 : Int32))])) _
    refine XS.icmpYes X1.here hx rfl (pc0 := 12) (pc' := 19) rfl (hb hby at_12) rfl (feq (by decide : ¬ ((5 : Int32) = (4 : Int32)))).2 (by decide) (by decide) ?_
    show Steps p.tables e below (T1.setTop (mkF m 19 #[.val (.int p0), .val (.int (5 : Int32)), .val (.ref w_ITEM), .unset] [])) _
    refine XS.iconst X1.here hx rfl (hb hby at_19) ?_
    show Steps p.tables e below (T1.setTop (mkF m 20 #[.val (.int p0), .val (.int (5 : Int32)), .val (.ref w_ITEM), .unset] [(.int (0 : Int32))])) _
    refine XS.istoreN X1.here hx rfl (hb hby at_20) rfl (l' := #[.val (.int p0), .val (.int (5 : Int32)), .val (.ref w_ITEM), .val (.int (0 : Int32))]) rfl ?_
    show Steps p.tables e below (T1.setTop (mkF m 21 #[.val (.int p0), .val (.int (5 : Int32)), .val (.ref w_ITEM), .val (.int (0 : Int32))] [])) _
    refine XS.aloadN X1.here hx rfl (hb hby at_21) rfl rfl ?_
    show Steps p.tables e below (T1.setTop (mkF m 22 #[.val (.int p0), .val (.int (5 : Int32)), .val (.ref w_ITEM), .val (.int (0 : Int32))] [(.ref w_ITEM)])) _
    refine st2.trans ?_
    show Steps p.tables e below (T2.setTop (mkF m 25 #[.val (.int p0), .val (.int (5 : Int32)), .val (.ref w_ITEM), .val (.int (0 : Int32))] [(.int (0 : Int32))])) _
    refine XS.iloadN X2.here hx rfl (hb hby at_25) rfl ?_
    show Steps p.tables e below (T2.setTop (mkF m 26 #[.val (.int p0), .val (.int (5 : Int32)), .val (.ref w_ITEM), .val (.int (0 : Int32))] [(.int (0 : Int32)), (.int (0 : Int32))])) _
    refine XS.icmpNo X2.here hx rfl (hb hby at_26) rfl (teq (by decide : (0 : Int32) = (0 : Int32))).2 ?_
    show Steps p.tables e below (T2.setTop (mkF m 29 #[.val (.int p0), .val (.int (5 : Int32)), .val (.ref w_ITEM), .val (.int (0 : Int32))] [])) _
    refine XS.iconst X2.here hx rfl (hb hby at_29) ?_
    show Steps p.tables e below (T2.setTop (mkF m 30 #[.val (.int p0), .val (.int (5 : Int32)), .val (.ref w_ITEM), .val (.int (0 : Int32))] [(.int (1 : Int32))])) _
    refine XS.goto X2.here hx rfl (pc0 := 30) (pc' := 34) rfl (hb hby at_30) (by decide) (by decide) ?_
    show Steps p.tables e below (T2.setTop (mkF m 34 #[.val (.int p0), .val (.int (5 : Int32)), .val (.ref w_ITEM), .val (.int (0 : Int32))] [(.int (1 : Int32))])) _
    exact retN X2 hx (t := .boolean) Bd.returns (by simp) (hb hby at_34) hr
  · exact ⟨N2, rfl⟩
set_option maxRecDepth 65536 in
set_option maxHeartbeats 40000000 in
theorem rm1_6 (l : Launch) (Z : State) (a0 : Array Value) (hw : ∀ d ∈ tables_1, d.before a0 Z = true) (ws : List Jvm.Cond) (n0 : Nat) (h0 : Heap) (O : Old Z n0 h0) (w_PREAMBLE : Addr) (w_PREAMBLE_beforeLabel : Addr) (w_SECTION : Addr) (w_SECTION_beforeLabel : Addr) (w_APPENDIX : Addr) (w_APPENDIX_beforeLabel : Addr) (w_BULLETIN : Addr) (w_BULLETIN_beforeLabel : Addr) (w_ARTICLE : Addr) (w_ARTICLE_beforeLabel : Addr) (w_CONTENTS : Addr) (w_CONTENTS_beforeLabel : Addr) (w_HEADING : Addr) (w_ITEM : Addr) (w_ITEM_beforeLabel : Addr) (W : OwW Z w_PREAMBLE w_PREAMBLE_beforeLabel w_SECTION w_SECTION_beforeLabel w_APPENDIX w_APPENDIX_beforeLabel w_BULLETIN w_BULLETIN_beforeLabel w_ARTICLE w_ARTICLE_beforeLabel w_CONTENTS w_CONTENTS_beforeLabel w_HEADING w_ITEM w_ITEM_beforeLabel)  :
    OwCon l (⟨"com/example/clausewright/clausewright/KindNamedByTitlePinLaw", "pick", "(I)Lcom/example/clausewright/clausewright/Clause$Kind;"⟩ : MethodName) method_3_code 1 (some (.object "com/example/clausewright/clausewright/Clause$Kind")) ws ({ frames := 0, cells := 0, slots := 0, locals := 0 } : Room) #[(.int (6 : Int32))] Z h0 (OwQ (some (.ref w_APPENDIX)) h0 n0) := by
  refine MetFree.of_bodySF (plainFor_of_name owpn1) hisR ?_
  intro p e s m args below meth c s₁ Bd hml0 hP hK
  obtain ⟨rfl, hZ, hh⟩ := hP
  have hx := Bd.exec
  have hby := Bd.bytes
  have hml : c.maxLocals = 1 := hml0
  have hown : s.vm.findClass "com/example/clausewright/clausewright/KindNamedByTitlePinLaw" = some m.cls := findClass_of_methodNamed Bd.named
  have hnm := (name_of_methodNamed Bd.named Bd.method).1
  have X0 : Stand p l e ({ frames := 0, cells := 0, slots := 0, locals := 0 } : Room) s m #[(.int (6 : Int32))] below meth c s₁ [] 0 0 := Stand.of_body Bd
  have e0 : s₁.heap = h0 := by rw [← hh, Bd.state]; rfl
  have N0 := Fr.nil n0
  have WW := W
  obtain ⟨E_w_PREAMBLE, E_w_PREAMBLE_beforeLabel, E_w_SECTION, E_w_SECTION_beforeLabel, E_w_APPENDIX, E_w_APPENDIX_beforeLabel, E_w_BULLETIN, E_w_BULLETIN_beforeLabel, E_w_ARTICLE, E_w_ARTICLE_beforeLabel, E_w_CONTENTS, E_w_CONTENTS_beforeLabel, E_w_HEADING, E_w_ITEM, E_w_ITEM_beforeLabel, S_Clause_Kind_PREAMBLE, F_w_PREAMBLE_beforeLabel, S_Clause_Kind_SECTION, F_w_SECTION_beforeLabel, S_Clause_Kind_APPENDIX, F_w_APPENDIX_beforeLabel, S_Clause_Kind_BULLETIN, F_w_BULLETIN_beforeLabel, S_Clause_Kind_ARTICLE, F_w_ARTICLE_beforeLabel, S_Clause_Kind_CONTENTS, F_w_CONTENTS_beforeLabel, S_Clause_Kind_HEADING, F_w_HEADING_beforeLabel, S_Clause_Kind_ITEM, F_w_ITEM_beforeLabel, -⟩ := WW
  have ef : entryFrame m #[(.int (6 : Int32))] 1 = mkF m 0 #[.val (.int (6 : Int32))] [] := by first | rfl | (simp [entryFrame, mkF, argsToLocals, Value.category]; done)
  have pre0 : ∀ t, Steps p.tables e below (s₁.setTop (mkF m 0 #[.val (.int (6 : Int32))] [])) t → Steps p.tables e below (s₁.setTop (entryFrame m #[(.int (6 : Int32))] 1)) t := fun t k => castTop ef k
  obtain ⟨T1, X1, e1, st1⟩ := getS2 X0 hx hZ hown (host := "") (Or.inl (hw _ (List.mem_of_getElem? (i := 16) rfl))) Via.refl e0 (S_Clause_Kind_APPENDIX.ext O.2) (g := (mkF m 59 #[.val (.int (6 : Int32))] [])) rfl (hb hby d1_59)
  obtain ⟨fs, hr, hrun, hended, hW, hsame⟩ := X1.leave (v := some (.ref w_APPENDIX)) (fun h => by rw [Bd.returns] at h; cases h)
  refine ⟨_, _, pre0 _ ?_, hrun, hended, _, _, rfl, ?_, ⟨_, rfl⟩, hW, hsame.mono (by decide) (by decide)⟩
  · show Steps p.tables e below (s₁.setTop (mkF m 0 #[.val (.int (6 : Int32))] [])) _
    refine XS.iloadN X0.here hx rfl (hb hby d1_0) rfl ?_
    show Steps p.tables e below (s₁.setTop (mkF m 1 #[.val (.int (6 : Int32))] [(.int (6 : Int32))])) _
    refine XS.ifYes X0.here hx rfl (pc0 := 1) (pc' := 8) rfl (hb hby d1_1) rfl ((if0 _ _).trans (feq (by decide : ¬ ((6 : Int32) = (0 : Int32)))).2) (by decide) (by decide) ?_
    show Steps p.tables e below (s₁.setTop (mkF m 8 #[.val (.int (6 : Int32))] [])) _
    refine XS.iloadN X0.here hx rfl (hb hby d1_8) rfl ?_
    show Steps p.tables e below (s₁.setTop (mkF m 9 #[.val (.int (6 : Int32))] [(.int (6 : Int32))])) _
    refine XS.iconst X0.here hx rfl (hb hby d1_9) ?_
    show Steps p.tables e below (s₁.setTop (mkF m 10 #[.val (.int (6 : Int32))] [(.int (1 : Int32)), (.int (6 : Int32))])) _
    refine XS.icmpYes X0.here hx rfl (pc0 := 10) (pc' := 17) rfl (hb hby d1_10) rfl (feq (by decide : ¬ ((6 : Int32) = (1 : Int32)))).2 (by decide) (by decide) ?_
    show Steps p.tables e below (s₁.setTop (mkF m 17 #[.val (.int (6 : Int32))] [])) _
    refine XS.iloadN X0.here hx rfl (hb hby d1_17) rfl ?_
    show Steps p.tables e below (s₁.setTop (mkF m 18 #[.val (.int (6 : Int32))] [(.int (6 : Int32))])) _
    refine XS.iconst X0.here hx rfl (hb hby d1_18) ?_
    show Steps p.tables e below (s₁.setTop (mkF m 19 #[.val (.int (6 : Int32))] [(.int (2 : Int32)), (.int (6 : Int32))])) _
    refine XS.icmpYes X0.here hx rfl (pc0 := 19) (pc' := 26) rfl (hb hby d1_19) rfl (feq (by decide : ¬ ((6 : Int32) = (2 : Int32)))).2 (by decide) (by decide) ?_
    show Steps p.tables e below (s₁.setTop (mkF m 26 #[.val (.int (6 : Int32))] [])) _
    refine XS.iloadN X0.here hx rfl (hb hby d1_26) rfl ?_
    show Steps p.tables e below (s₁.setTop (mkF m 27 #[.val (.int (6 : Int32))] [(.int (6 : Int32))])) _
    refine XS.iconst X0.here hx rfl (hb hby d1_27) ?_
    show Steps p.tables e below (s₁.setTop (mkF m 28 #[.val (.int (6 : Int32))] [(.int (3 : Int32)), (.int (6 : Int32))])) _
    refine XS.icmpYes X0.here hx rfl (pc0 := 28) (pc' := 35) rfl (hb hby d1_28) rfl (feq (by decide : ¬ ((6 : Int32) = (3 : Int32)))).2 (by decide) (by decide) ?_
    show Steps p.tables e below (s₁.setTop (mkF m 35 #[.val (.int (6 : Int32))] [])) _
    refine XS.iloadN X0.here hx rfl (hb hby d1_35) rfl ?_
    show Steps p.tables e below (s₁.setTop (mkF m 36 #[.val (.int (6 : Int32))] [(.int (6 : Int32))])) _
    refine XS.iconst X0.here hx rfl (hb hby d1_36) ?_
    show Steps p.tables e below (s₁.setTop (mkF m 37 #[.val (.int (6 : Int32))] [(.int (4 : Int32)), (.int (6 : Int32))])) _
    refine XS.icmpYes X0.here hx rfl (pc0 := 37) (pc' := 44) rfl (hb hby d1_37) rfl (feq (by decide : ¬ ((6 : Int32) = (4 : Int32)))).2 (by decide) (by decide) ?_
    show Steps p.tables e below (s₁.setTop (mkF m 44 #[.val (.int (6 : Int32))] [])) _
    refine XS.iloadN X0.here hx rfl (hb hby d1_44) rfl ?_
    show Steps p.tables e below (s₁.setTop (mkF m 45 #[.val (.int (6 : Int32))] [(.int (6 : Int32))])) _
    refine XS.iconst X0.here hx rfl (hb hby d1_45) ?_
    show Steps p.tables e below (s₁.setTop (mkF m 46 #[.val (.int (6 : Int32))] [(.int (5 : Int32)), (.int (6 : Int32))])) _
    refine XS.icmpYes X0.here hx rfl (pc0 := 46) (pc' := 53) rfl (hb hby d1_46) rfl (feq (by decide : ¬ ((6 : Int32) = (5 : Int32)))).2 (by decide) (by decide) ?_
    show Steps p.tables e below (s₁.setTop (mkF m 53 #[.val (.int (6 : Int32))] [])) _
    refine XS.iloadN X0.here hx rfl (hb hby d1_53) rfl ?_
    show Steps p.tables e below (s₁.setTop (mkF m 54 #[.val (.int (6 : Int32))] [(.int (6 : Int32))])) _
    refine XS.bipush X0.here hx rfl (hb hby d1_54) ?_
    show Steps p.tables e below (s₁.setTop (mkF m 56 #[.val (.int (6 : Int32))] [(.int (6 : Int32)), (.int (6 : Int32))])) _
    refine XS.icmpNo X0.here hx rfl (hb hby d1_56) rfl (teq (by decide : (6 : Int32) = (6 : Int32))).2 ?_
    show Steps p.tables e below (s₁.setTop (mkF m 59 #[.val (.int (6 : Int32))] [])) _
    refine st1 _ ?_
    show Steps p.tables e below (T1.setTop (mkF m 62 #[.val (.int (6 : Int32))] [(.ref w_APPENDIX)])) _
    exact retOut X1 hx Bd.returns rfl (Or.inr (Or.inr (Or.inr (Or.inr ⟨rfl, rfl, rfl⟩)))) (hb hby d1_62) hr
  · exact ⟨rfl, N0, e1⟩
set_option maxRecDepth 65536 in
set_option maxHeartbeats 40000000 in
theorem rm0_6 (l : Launch) (Z : State) (a0 : Array Value) (hw : ∀ d ∈ tables_1, d.before a0 Z = true) (ws : List Jvm.Cond) (n0 : Nat) (h0 : Heap) (O : Old Z n0 h0) (w_PREAMBLE : Addr) (w_PREAMBLE_beforeLabel : Addr) (w_SECTION : Addr) (w_SECTION_beforeLabel : Addr) (w_APPENDIX : Addr) (w_APPENDIX_beforeLabel : Addr) (w_BULLETIN : Addr) (w_BULLETIN_beforeLabel : Addr) (w_ARTICLE : Addr) (w_ARTICLE_beforeLabel : Addr) (w_CONTENTS : Addr) (w_CONTENTS_beforeLabel : Addr) (w_HEADING : Addr) (w_ITEM : Addr) (w_ITEM_beforeLabel : Addr) (W : OwW Z w_PREAMBLE w_PREAMBLE_beforeLabel w_SECTION w_SECTION_beforeLabel w_APPENDIX w_APPENDIX_beforeLabel w_BULLETIN w_BULLETIN_beforeLabel w_ARTICLE w_ARTICLE_beforeLabel w_CONTENTS w_CONTENTS_beforeLabel w_HEADING w_ITEM w_ITEM_beforeLabel) (p0 : Int32) (hi : p0 &&& (7 : Int32) = (6 : Int32)) :
    OwCon l x code maxLocals ret ws room_1 #[(.int p0)] Z h0 (OwP (fun v _ => v = some (.int 1)) n0) := by
  refine MetFree.of_bodySF (plainFor_of_name owpn0) hisR ?_
  intro p e s m args below meth c s₁ Bd hml0 hP hK
  obtain ⟨rfl, hZ, hh⟩ := hP
  have hx := Bd.exec
  have hby := Bd.bytes
  have hml : c.maxLocals = 4 := hml0
  have hown : s.vm.findClass "com/example/clausewright/clausewright/KindNamedByTitlePinLaw" = some m.cls := findClass_of_methodNamed Bd.named
  have hnm := (name_of_methodNamed Bd.named Bd.method).1
  have X0 : Stand p l e room_1 s m #[(.int p0)] below meth c s₁ [] 0 0 := Stand.of_body Bd
  have e0 : s₁.heap = h0 := by rw [← hh, Bd.state]; rfl
  have N0 := Fr.nil n0
  have WW := W
  obtain ⟨E_w_PREAMBLE, E_w_PREAMBLE_beforeLabel, E_w_SECTION, E_w_SECTION_beforeLabel, E_w_APPENDIX, E_w_APPENDIX_beforeLabel, E_w_BULLETIN, E_w_BULLETIN_beforeLabel, E_w_ARTICLE, E_w_ARTICLE_beforeLabel, E_w_CONTENTS, E_w_CONTENTS_beforeLabel, E_w_HEADING, E_w_ITEM, E_w_ITEM_beforeLabel, S_Clause_Kind_PREAMBLE, F_w_PREAMBLE_beforeLabel, S_Clause_Kind_SECTION, F_w_SECTION_beforeLabel, S_Clause_Kind_APPENDIX, F_w_APPENDIX_beforeLabel, S_Clause_Kind_BULLETIN, F_w_BULLETIN_beforeLabel, S_Clause_Kind_ARTICLE, F_w_ARTICLE_beforeLabel, S_Clause_Kind_CONTENTS, F_w_CONTENTS_beforeLabel, S_Clause_Kind_HEADING, F_w_HEADING_beforeLabel, S_Clause_Kind_ITEM, F_w_ITEM_beforeLabel, -⟩ := WW
  have ef : entryFrame m #[(.int p0)] maxLocals = mkF m 0 #[.val (.int p0), .unset, .unset, .unset] [] := by first | rfl | (simp [entryFrame, mkF, argsToLocals, Value.category, maxLocals]; done)
  have pre0 : ∀ t, Steps p.tables e below (s₁.setTop (mkF m 0 #[.val (.int p0), .unset, .unset, .unset] [])) t → Steps p.tables e below (s₁.setTop (entryFrame m #[(.int p0)] maxLocals)) t := fun t k => castTop ef k
  obtain ⟨_, _, ⟨T1, L1, k1, n1⟩, -, X1, ⟨Lc1, hQ1, l1, y1, z1⟩, st1⟩ := Jvm.LawKit.callS X0 hx (y := (⟨"com/example/clausewright/clausewright/KindNamedByTitlePinLaw", "pick", "(I)Lcom/example/clausewright/clausewright/Clause$Kind;"⟩ : MethodName)) hown (mvT hZ (hw _ (List.mem_of_getElem? (i := 0) rfl))) (mvT hZ (hw _ (List.mem_of_getElem? (i := 1) rfl))) (mvT hZ (hw _ (List.mem_of_getElem? (i := 2) rfl))) (mvT hZ (hw _ (List.mem_of_getElem? (i := 3) rfl))) (by decide) (backOf (W := 0) (rm1_6 l Z a0 hw [] n0 h0 O w_PREAMBLE w_PREAMBLE_beforeLabel w_SECTION w_SECTION_beforeLabel w_APPENDIX w_APPENDIX_beforeLabel w_BULLETIN w_BULLETIN_beforeLabel w_ARTICLE w_ARTICLE_beforeLabel w_CONTENTS w_CONTENTS_beforeLabel w_HEADING w_ITEM w_ITEM_beforeLabel W  ) hZ (hw _ (List.mem_of_getElem? (i := 3) rfl)) (hw _ (List.mem_of_getElem? (i := 2) rfl)) (by decide) (by decide)) (g := (mkF m 6 #[.val (.int p0), .val (.int (6 : Int32)), .unset, .unset] [(.int (6 : Int32))])) rfl (by rw [hml]; rfl) (argsL := [(.int (6 : Int32))]) (rest := []) (lenOf owpd0 rfl) rfl (by show 2 * 0 + _ ≤ _; exact Nat.le_of_eq rfl) (hb hby at_6) (fun _ _ => ⟨rfl, e0, (by decide : 0 + 0 ≤ _), (by decide : 0 + 0 ≤ _)⟩)
  dsimp only [Pt.U, Pt.locs, Pt.cells, Pt.slots] at X1 l1 y1 z1 st1 hQ1
  subst l1 y1 z1
  obtain ⟨rfl, Nq1, e1⟩ := hQ1
  have N1 := Fr.app N0 Nq1
  obtain ⟨cq2, kq2, q2a, q2b, q2c⟩ := isOf hZ e1 (E_w_APPENDIX.ext O.2)
  obtain ⟨_, _, ⟨T2, L2, k2, n2⟩, -, X2, ⟨Lc2, hQ2, l2, y2, z2⟩, st2⟩ := X1.virtualBack hx (y := (⟨"com/example/clausewright/clausewright/Clause$Kind", "namedByTitle", "()Z"⟩ : MethodName)) (z := (⟨"com/example/clausewright/clausewright/Clause$Kind", "namedByTitle", "()Z"⟩ : MethodName)) hown (mvT hZ (hw _ (List.mem_of_getElem? (i := 7) rfl))) (mvT hZ (hw _ (List.mem_of_getElem? (i := 8) rfl))) (notFace_of_selects (args := #[]) (mvT hZ (hw _ (List.mem_of_getElem? (i := 10) rfl)))) (mvT hZ (hw _ (List.mem_of_getElem? (i := 10) rfl))) (mvT hZ (hw _ (List.mem_of_getElem? (i := 9) rfl))) (by decide) (backOf (W := 0) (rm2_r l Z a0 hw [] n0 h0 O w_PREAMBLE w_PREAMBLE_beforeLabel w_SECTION w_SECTION_beforeLabel w_APPENDIX w_APPENDIX_beforeLabel w_BULLETIN w_BULLETIN_beforeLabel w_ARTICLE w_ARTICLE_beforeLabel w_CONTENTS w_CONTENTS_beforeLabel w_HEADING w_ITEM w_ITEM_beforeLabel W w_APPENDIX w_APPENDIX_beforeLabel F_w_APPENDIX_beforeLabel) hZ (hw _ (List.mem_of_getElem? (i := 11) rfl)) (hw _ (List.mem_of_getElem? (i := 5) rfl)) (by decide) (by decide)) q2a q2c (g := (mkF m 22 #[.val (.int p0), .val (.int (6 : Int32)), .val (.ref w_APPENDIX), .val (.int (0 : Int32))] [(.ref w_APPENDIX)])) rfl (by rw [hml]; rfl) (Steps.refl _) (argsL := []) (rest := []) (lenOf owpd1 rfl) rfl (by show 2 * 0 + _ ≤ _; exact Nat.le_of_eq rfl) (hb hby at_22) (fun _ _ => ⟨rfl, e1, (by decide : 0 + 0 ≤ _), (by decide : 0 + 0 ≤ _)⟩)
  dsimp only [Pt.U, Pt.locs, Pt.cells, Pt.slots] at X2 l2 y2 z2 st2 hQ2
  subst l2 y2 z2
  obtain ⟨rfl, Nq2, e2⟩ := hQ2
  have N2 := Fr.app N1 Nq2
  obtain ⟨fs, hr, hrun, hended, hW, hsame⟩ := X2.leave (v := some (.int (1 : Int32))) (fun h => by rw [Bd.returns] at h; cases h)
  refine ⟨_, _, pre0 _ ?_, hrun, hended, _, _, rfl, ?_, ⟨_, rfl⟩, hW, hsame.mono (by decide) (by decide)⟩
  · show Steps p.tables e below (s₁.setTop (mkF m 0 #[.val (.int p0), .unset, .unset, .unset] [])) _
    refine XS.iloadN X0.here hx rfl (hb hby at_0) rfl ?_
    show Steps p.tables e below (s₁.setTop (mkF m 1 #[.val (.int p0), .unset, .unset, .unset] [(.int p0)])) _
    refine XS.bipush X0.here hx rfl (hb hby at_1) ?_
    show Steps p.tables e below (s₁.setTop (mkF m 3 #[.val (.int p0), .unset, .unset, .unset] [(.int (7 : Int32)), (.int p0)])) _
    refine XS.iand X0.here hx rfl (hb hby at_3) rfl ?_
    show Steps p.tables e below (s₁.setTop (mkF m 4 #[.val (.int p0), .unset, .unset, .unset] [(.int (p0 &&& (7 : Int32)))])) _
    rw [hi]
    show Steps p.tables e below (s₁.setTop (mkF m 4 #[.val (.int p0), .unset, .unset, .unset] [(.int (6 : Int32))])) _
    refine XS.istoreN X0.here hx rfl (hb hby at_4) rfl (l' := #[.val (.int p0), .val (.int (6 : Int32)), .unset, .unset]) rfl ?_
    show Steps p.tables e below (s₁.setTop (mkF m 5 #[.val (.int p0), .val (.int (6 : Int32)), .unset, .unset] [])) _
    refine XS.iloadN X0.here hx rfl (hb hby at_5) rfl ?_
    show Steps p.tables e below (s₁.setTop (mkF m 6 #[.val (.int p0), .val (.int (6 : Int32)), .unset, .unset] [(.int (6 : Int32))])) _
    refine st1 _ ?_
    show Steps p.tables e below (T1.setTop (mkF m 9 #[.val (.int p0), .val (.int (6 : Int32)), .unset, .unset] [(.ref w_APPENDIX)])) _
    refine XS.astoreN X1.here hx rfl (hb hby at_9) rfl rfl (l' := #[.val (.int p0), .val (.int (6 : Int32)), .val (.ref w_APPENDIX), .unset]) rfl ?_
    show Steps p.tables e below (T1.setTop (mkF m 10 #[.val (.int p0), .val (.int (6 : Int32)), .val (.ref w_APPENDIX), .unset] [])) _
    refine XS.iloadN X1.here hx rfl (hb hby at_10) rfl ?_
    show Steps p.tables e below (T1.setTop (mkF m 11 #[.val (.int p0), .val (.int (6 : Int32)), .val (.ref w_APPENDIX), .unset] [(.int (6 : Int32))])) _
    refine XS.iconst X1.here hx rfl (hb hby at_11) ?_
    show Steps p.tables e below (T1.setTop (mkF m 12 #[.val (.int p0), .val (.int (6 : Int32)), .val (.ref w_APPENDIX), .unset] [(.int (4 : Int32)), (.int (6 : Int32))])) _
    refine XS.icmpYes X1.here hx rfl (pc0 := 12) (pc' := 19) rfl (hb hby at_12) rfl (feq (by decide : ¬ ((6 : Int32) = (4 : Int32)))).2 (by decide) (by decide) ?_
    show Steps p.tables e below (T1.setTop (mkF m 19 #[.val (.int p0), .val (.int (6 : Int32)), .val (.ref w_APPENDIX), .unset] [])) _
    refine XS.iconst X1.here hx rfl (hb hby at_19) ?_
    show Steps p.tables e below (T1.setTop (mkF m 20 #[.val (.int p0), .val (.int (6 : Int32)), .val (.ref w_APPENDIX), .unset] [(.int (0 : Int32))])) _
    refine XS.istoreN X1.here hx rfl (hb hby at_20) rfl (l' := #[.val (.int p0), .val (.int (6 : Int32)), .val (.ref w_APPENDIX), .val (.int (0 : Int32))]) rfl ?_
    show Steps p.tables e below (T1.setTop (mkF m 21 #[.val (.int p0), .val (.int (6 : Int32)), .val (.ref w_APPENDIX), .val (.int (0 : Int32))] [])) _
    refine XS.aloadN X1.here hx rfl (hb hby at_21) rfl rfl ?_
    show Steps p.tables e below (T1.setTop (mkF m 22 #[.val (.int p0), .val (.int (6 : Int32)), .val (.ref w_APPENDIX), .val (.int (0 : Int32))] [(.ref w_APPENDIX)])) _
    refine st2.trans ?_
    show Steps p.tables e below (T2.setTop (mkF m 25 #[.val (.int p0), .val (.int (6 : Int32)), .val (.ref w_APPENDIX), .val (.int (0 : Int32))] [(.int (0 : Int32))])) _
    refine XS.iloadN X2.here hx rfl (hb hby at_25) rfl ?_
    show Steps p.tables e below (T2.setTop (mkF m 26 #[.val (.int p0), .val (.int (6 : Int32)), .val (.ref w_APPENDIX), .val (.int (0 : Int32))] [(.int (0 : Int32)), (.int (0 : Int32))])) _
    refine XS.icmpNo X2.here hx rfl (hb hby at_26) rfl (teq (by decide : (0 : Int32) = (0 : Int32))).2 ?_
    show Steps p.tables e below (T2.setTop (mkF m 29 #[.val (.int p0), .val (.int (6 : Int32)), .val (.ref w_APPENDIX), .val (.int (0 : Int32))] [])) _
    refine XS.iconst X2.here hx rfl (hb hby at_29) ?_
    show Steps p.tables e below (T2.setTop (mkF m 30 #[.val (.int p0), .val (.int (6 : Int32)), .val (.ref w_APPENDIX), .val (.int (0 : Int32))] [(.int (1 : Int32))])) _
    refine XS.goto X2.here hx rfl (pc0 := 30) (pc' := 34) rfl (hb hby at_30) (by decide) (by decide) ?_
    show Steps p.tables e below (T2.setTop (mkF m 34 #[.val (.int p0), .val (.int (6 : Int32)), .val (.ref w_APPENDIX), .val (.int (0 : Int32))] [(.int (1 : Int32))])) _
    exact retN X2 hx (t := .boolean) Bd.returns (by simp) (hb hby at_34) hr
  · exact ⟨N2, rfl⟩
set_option maxRecDepth 65536 in
set_option maxHeartbeats 40000000 in
theorem rm1_7 (l : Launch) (Z : State) (a0 : Array Value) (hw : ∀ d ∈ tables_1, d.before a0 Z = true) (ws : List Jvm.Cond) (n0 : Nat) (h0 : Heap) (O : Old Z n0 h0) (w_PREAMBLE : Addr) (w_PREAMBLE_beforeLabel : Addr) (w_SECTION : Addr) (w_SECTION_beforeLabel : Addr) (w_APPENDIX : Addr) (w_APPENDIX_beforeLabel : Addr) (w_BULLETIN : Addr) (w_BULLETIN_beforeLabel : Addr) (w_ARTICLE : Addr) (w_ARTICLE_beforeLabel : Addr) (w_CONTENTS : Addr) (w_CONTENTS_beforeLabel : Addr) (w_HEADING : Addr) (w_ITEM : Addr) (w_ITEM_beforeLabel : Addr) (W : OwW Z w_PREAMBLE w_PREAMBLE_beforeLabel w_SECTION w_SECTION_beforeLabel w_APPENDIX w_APPENDIX_beforeLabel w_BULLETIN w_BULLETIN_beforeLabel w_ARTICLE w_ARTICLE_beforeLabel w_CONTENTS w_CONTENTS_beforeLabel w_HEADING w_ITEM w_ITEM_beforeLabel)  :
    OwCon l (⟨"com/example/clausewright/clausewright/KindNamedByTitlePinLaw", "pick", "(I)Lcom/example/clausewright/clausewright/Clause$Kind;"⟩ : MethodName) method_3_code 1 (some (.object "com/example/clausewright/clausewright/Clause$Kind")) ws ({ frames := 0, cells := 0, slots := 0, locals := 0 } : Room) #[(.int (7 : Int32))] Z h0 (OwQ (some (.ref w_BULLETIN)) h0 n0) := by
  refine MetFree.of_bodySF (plainFor_of_name owpn1) hisR ?_
  intro p e s m args below meth c s₁ Bd hml0 hP hK
  obtain ⟨rfl, hZ, hh⟩ := hP
  have hx := Bd.exec
  have hby := Bd.bytes
  have hml : c.maxLocals = 1 := hml0
  have hown : s.vm.findClass "com/example/clausewright/clausewright/KindNamedByTitlePinLaw" = some m.cls := findClass_of_methodNamed Bd.named
  have hnm := (name_of_methodNamed Bd.named Bd.method).1
  have X0 : Stand p l e ({ frames := 0, cells := 0, slots := 0, locals := 0 } : Room) s m #[(.int (7 : Int32))] below meth c s₁ [] 0 0 := Stand.of_body Bd
  have e0 : s₁.heap = h0 := by rw [← hh, Bd.state]; rfl
  have N0 := Fr.nil n0
  have WW := W
  obtain ⟨E_w_PREAMBLE, E_w_PREAMBLE_beforeLabel, E_w_SECTION, E_w_SECTION_beforeLabel, E_w_APPENDIX, E_w_APPENDIX_beforeLabel, E_w_BULLETIN, E_w_BULLETIN_beforeLabel, E_w_ARTICLE, E_w_ARTICLE_beforeLabel, E_w_CONTENTS, E_w_CONTENTS_beforeLabel, E_w_HEADING, E_w_ITEM, E_w_ITEM_beforeLabel, S_Clause_Kind_PREAMBLE, F_w_PREAMBLE_beforeLabel, S_Clause_Kind_SECTION, F_w_SECTION_beforeLabel, S_Clause_Kind_APPENDIX, F_w_APPENDIX_beforeLabel, S_Clause_Kind_BULLETIN, F_w_BULLETIN_beforeLabel, S_Clause_Kind_ARTICLE, F_w_ARTICLE_beforeLabel, S_Clause_Kind_CONTENTS, F_w_CONTENTS_beforeLabel, S_Clause_Kind_HEADING, F_w_HEADING_beforeLabel, S_Clause_Kind_ITEM, F_w_ITEM_beforeLabel, -⟩ := WW
  have ef : entryFrame m #[(.int (7 : Int32))] 1 = mkF m 0 #[.val (.int (7 : Int32))] [] := by first | rfl | (simp [entryFrame, mkF, argsToLocals, Value.category]; done)
  have pre0 : ∀ t, Steps p.tables e below (s₁.setTop (mkF m 0 #[.val (.int (7 : Int32))] [])) t → Steps p.tables e below (s₁.setTop (entryFrame m #[(.int (7 : Int32))] 1)) t := fun t k => castTop ef k
  obtain ⟨T1, X1, e1, st1⟩ := getS2 X0 hx hZ hown (host := "") (Or.inl (hw _ (List.mem_of_getElem? (i := 18) rfl))) Via.refl e0 (S_Clause_Kind_BULLETIN.ext O.2) (g := (mkF m 63 #[.val (.int (7 : Int32))] [])) rfl (hb hby d1_63)
  obtain ⟨fs, hr, hrun, hended, hW, hsame⟩ := X1.leave (v := some (.ref w_BULLETIN)) (fun h => by rw [Bd.returns] at h; cases h)
  refine ⟨_, _, pre0 _ ?_, hrun, hended, _, _, rfl, ?_, ⟨_, rfl⟩, hW, hsame.mono (by decide) (by decide)⟩
  · show Steps p.tables e below (s₁.setTop (mkF m 0 #[.val (.int (7 : Int32))] [])) _
    refine XS.iloadN X0.here hx rfl (hb hby d1_0) rfl ?_
    show Steps p.tables e below (s₁.setTop (mkF m 1 #[.val (.int (7 : Int32))] [(.int (7 : Int32))])) _
    refine XS.ifYes X0.here hx rfl (pc0 := 1) (pc' := 8) rfl (hb hby d1_1) rfl ((if0 _ _).trans (feq (by decide : ¬ ((7 : Int32) = (0 : Int32)))).2) (by decide) (by decide) ?_
    show Steps p.tables e below (s₁.setTop (mkF m 8 #[.val (.int (7 : Int32))] [])) _
    refine XS.iloadN X0.here hx rfl (hb hby d1_8) rfl ?_
    show Steps p.tables e below (s₁.setTop (mkF m 9 #[.val (.int (7 : Int32))] [(.int (7 : Int32))])) _
    refine XS.iconst X0.here hx rfl (hb hby d1_9) ?_
    show Steps p.tables e below (s₁.setTop (mkF m 10 #[.val (.int (7 : Int32))] [(.int (1 : Int32)), (.int (7 : Int32))])) _
    refine XS.icmpYes X0.here hx rfl (pc0 := 10) (pc' := 17) rfl (hb hby d1_10) rfl (feq (by decide : ¬ ((7 : Int32) = (1 : Int32)))).2 (by decide) (by decide) ?_
    show Steps p.tables e below (s₁.setTop (mkF m 17 #[.val (.int (7 : Int32))] [])) _
    refine XS.iloadN X0.here hx rfl (hb hby d1_17) rfl ?_
    show Steps p.tables e below (s₁.setTop (mkF m 18 #[.val (.int (7 : Int32))] [(.int (7 : Int32))])) _
    refine XS.iconst X0.here hx rfl (hb hby d1_18) ?_
    show Steps p.tables e below (s₁.setTop (mkF m 19 #[.val (.int (7 : Int32))] [(.int (2 : Int32)), (.int (7 : Int32))])) _
    refine XS.icmpYes X0.here hx rfl (pc0 := 19) (pc' := 26) rfl (hb hby d1_19) rfl (feq (by decide : ¬ ((7 : Int32) = (2 : Int32)))).2 (by decide) (by decide) ?_
    show Steps p.tables e below (s₁.setTop (mkF m 26 #[.val (.int (7 : Int32))] [])) _
    refine XS.iloadN X0.here hx rfl (hb hby d1_26) rfl ?_
    show Steps p.tables e below (s₁.setTop (mkF m 27 #[.val (.int (7 : Int32))] [(.int (7 : Int32))])) _
    refine XS.iconst X0.here hx rfl (hb hby d1_27) ?_
    show Steps p.tables e below (s₁.setTop (mkF m 28 #[.val (.int (7 : Int32))] [(.int (3 : Int32)), (.int (7 : Int32))])) _
    refine XS.icmpYes X0.here hx rfl (pc0 := 28) (pc' := 35) rfl (hb hby d1_28) rfl (feq (by decide : ¬ ((7 : Int32) = (3 : Int32)))).2 (by decide) (by decide) ?_
    show Steps p.tables e below (s₁.setTop (mkF m 35 #[.val (.int (7 : Int32))] [])) _
    refine XS.iloadN X0.here hx rfl (hb hby d1_35) rfl ?_
    show Steps p.tables e below (s₁.setTop (mkF m 36 #[.val (.int (7 : Int32))] [(.int (7 : Int32))])) _
    refine XS.iconst X0.here hx rfl (hb hby d1_36) ?_
    show Steps p.tables e below (s₁.setTop (mkF m 37 #[.val (.int (7 : Int32))] [(.int (4 : Int32)), (.int (7 : Int32))])) _
    refine XS.icmpYes X0.here hx rfl (pc0 := 37) (pc' := 44) rfl (hb hby d1_37) rfl (feq (by decide : ¬ ((7 : Int32) = (4 : Int32)))).2 (by decide) (by decide) ?_
    show Steps p.tables e below (s₁.setTop (mkF m 44 #[.val (.int (7 : Int32))] [])) _
    refine XS.iloadN X0.here hx rfl (hb hby d1_44) rfl ?_
    show Steps p.tables e below (s₁.setTop (mkF m 45 #[.val (.int (7 : Int32))] [(.int (7 : Int32))])) _
    refine XS.iconst X0.here hx rfl (hb hby d1_45) ?_
    show Steps p.tables e below (s₁.setTop (mkF m 46 #[.val (.int (7 : Int32))] [(.int (5 : Int32)), (.int (7 : Int32))])) _
    refine XS.icmpYes X0.here hx rfl (pc0 := 46) (pc' := 53) rfl (hb hby d1_46) rfl (feq (by decide : ¬ ((7 : Int32) = (5 : Int32)))).2 (by decide) (by decide) ?_
    show Steps p.tables e below (s₁.setTop (mkF m 53 #[.val (.int (7 : Int32))] [])) _
    refine XS.iloadN X0.here hx rfl (hb hby d1_53) rfl ?_
    show Steps p.tables e below (s₁.setTop (mkF m 54 #[.val (.int (7 : Int32))] [(.int (7 : Int32))])) _
    refine XS.bipush X0.here hx rfl (hb hby d1_54) ?_
    show Steps p.tables e below (s₁.setTop (mkF m 56 #[.val (.int (7 : Int32))] [(.int (6 : Int32)), (.int (7 : Int32))])) _
    refine XS.icmpYes X0.here hx rfl (pc0 := 56) (pc' := 63) rfl (hb hby d1_56) rfl (feq (by decide : ¬ ((7 : Int32) = (6 : Int32)))).2 (by decide) (by decide) ?_
    show Steps p.tables e below (s₁.setTop (mkF m 63 #[.val (.int (7 : Int32))] [])) _
    refine st1 _ ?_
    show Steps p.tables e below (T1.setTop (mkF m 66 #[.val (.int (7 : Int32))] [(.ref w_BULLETIN)])) _
    exact retOut X1 hx Bd.returns rfl (Or.inr (Or.inr (Or.inr (Or.inr ⟨rfl, rfl, rfl⟩)))) (hb hby d1_66) hr
  · exact ⟨rfl, N0, e1⟩
set_option maxRecDepth 65536 in
set_option maxHeartbeats 40000000 in
theorem rm0_7 (l : Launch) (Z : State) (a0 : Array Value) (hw : ∀ d ∈ tables_1, d.before a0 Z = true) (ws : List Jvm.Cond) (n0 : Nat) (h0 : Heap) (O : Old Z n0 h0) (w_PREAMBLE : Addr) (w_PREAMBLE_beforeLabel : Addr) (w_SECTION : Addr) (w_SECTION_beforeLabel : Addr) (w_APPENDIX : Addr) (w_APPENDIX_beforeLabel : Addr) (w_BULLETIN : Addr) (w_BULLETIN_beforeLabel : Addr) (w_ARTICLE : Addr) (w_ARTICLE_beforeLabel : Addr) (w_CONTENTS : Addr) (w_CONTENTS_beforeLabel : Addr) (w_HEADING : Addr) (w_ITEM : Addr) (w_ITEM_beforeLabel : Addr) (W : OwW Z w_PREAMBLE w_PREAMBLE_beforeLabel w_SECTION w_SECTION_beforeLabel w_APPENDIX w_APPENDIX_beforeLabel w_BULLETIN w_BULLETIN_beforeLabel w_ARTICLE w_ARTICLE_beforeLabel w_CONTENTS w_CONTENTS_beforeLabel w_HEADING w_ITEM w_ITEM_beforeLabel) (p0 : Int32) (hi : p0 &&& (7 : Int32) = (7 : Int32)) :
    OwCon l x code maxLocals ret ws room_1 #[(.int p0)] Z h0 (OwP (fun v _ => v = some (.int 1)) n0) := by
  refine MetFree.of_bodySF (plainFor_of_name owpn0) hisR ?_
  intro p e s m args below meth c s₁ Bd hml0 hP hK
  obtain ⟨rfl, hZ, hh⟩ := hP
  have hx := Bd.exec
  have hby := Bd.bytes
  have hml : c.maxLocals = 4 := hml0
  have hown : s.vm.findClass "com/example/clausewright/clausewright/KindNamedByTitlePinLaw" = some m.cls := findClass_of_methodNamed Bd.named
  have hnm := (name_of_methodNamed Bd.named Bd.method).1
  have X0 : Stand p l e room_1 s m #[(.int p0)] below meth c s₁ [] 0 0 := Stand.of_body Bd
  have e0 : s₁.heap = h0 := by rw [← hh, Bd.state]; rfl
  have N0 := Fr.nil n0
  have WW := W
  obtain ⟨E_w_PREAMBLE, E_w_PREAMBLE_beforeLabel, E_w_SECTION, E_w_SECTION_beforeLabel, E_w_APPENDIX, E_w_APPENDIX_beforeLabel, E_w_BULLETIN, E_w_BULLETIN_beforeLabel, E_w_ARTICLE, E_w_ARTICLE_beforeLabel, E_w_CONTENTS, E_w_CONTENTS_beforeLabel, E_w_HEADING, E_w_ITEM, E_w_ITEM_beforeLabel, S_Clause_Kind_PREAMBLE, F_w_PREAMBLE_beforeLabel, S_Clause_Kind_SECTION, F_w_SECTION_beforeLabel, S_Clause_Kind_APPENDIX, F_w_APPENDIX_beforeLabel, S_Clause_Kind_BULLETIN, F_w_BULLETIN_beforeLabel, S_Clause_Kind_ARTICLE, F_w_ARTICLE_beforeLabel, S_Clause_Kind_CONTENTS, F_w_CONTENTS_beforeLabel, S_Clause_Kind_HEADING, F_w_HEADING_beforeLabel, S_Clause_Kind_ITEM, F_w_ITEM_beforeLabel, -⟩ := WW
  have ef : entryFrame m #[(.int p0)] maxLocals = mkF m 0 #[.val (.int p0), .unset, .unset, .unset] [] := by first | rfl | (simp [entryFrame, mkF, argsToLocals, Value.category, maxLocals]; done)
  have pre0 : ∀ t, Steps p.tables e below (s₁.setTop (mkF m 0 #[.val (.int p0), .unset, .unset, .unset] [])) t → Steps p.tables e below (s₁.setTop (entryFrame m #[(.int p0)] maxLocals)) t := fun t k => castTop ef k
  obtain ⟨_, _, ⟨T1, L1, k1, n1⟩, -, X1, ⟨Lc1, hQ1, l1, y1, z1⟩, st1⟩ := Jvm.LawKit.callS X0 hx (y := (⟨"com/example/clausewright/clausewright/KindNamedByTitlePinLaw", "pick", "(I)Lcom/example/clausewright/clausewright/Clause$Kind;"⟩ : MethodName)) hown (mvT hZ (hw _ (List.mem_of_getElem? (i := 0) rfl))) (mvT hZ (hw _ (List.mem_of_getElem? (i := 1) rfl))) (mvT hZ (hw _ (List.mem_of_getElem? (i := 2) rfl))) (mvT hZ (hw _ (List.mem_of_getElem? (i := 3) rfl))) (by decide) (backOf (W := 0) (rm1_7 l Z a0 hw [] n0 h0 O w_PREAMBLE w_PREAMBLE_beforeLabel w_SECTION w_SECTION_beforeLabel w_APPENDIX w_APPENDIX_beforeLabel w_BULLETIN w_BULLETIN_beforeLabel w_ARTICLE w_ARTICLE_beforeLabel w_CONTENTS w_CONTENTS_beforeLabel w_HEADING w_ITEM w_ITEM_beforeLabel W  ) hZ (hw _ (List.mem_of_getElem? (i := 3) rfl)) (hw _ (List.mem_of_getElem? (i := 2) rfl)) (by decide) (by decide)) (g := (mkF m 6 #[.val (.int p0), .val (.int (7 : Int32)), .unset, .unset] [(.int (7 : Int32))])) rfl (by rw [hml]; rfl) (argsL := [(.int (7 : Int32))]) (rest := []) (lenOf owpd0 rfl) rfl (by show 2 * 0 + _ ≤ _; exact Nat.le_of_eq rfl) (hb hby at_6) (fun _ _ => ⟨rfl, e0, (by decide : 0 + 0 ≤ _), (by decide : 0 + 0 ≤ _)⟩)
  dsimp only [Pt.U, Pt.locs, Pt.cells, Pt.slots] at X1 l1 y1 z1 st1 hQ1
  subst l1 y1 z1
  obtain ⟨rfl, Nq1, e1⟩ := hQ1
  have N1 := Fr.app N0 Nq1
  obtain ⟨cq2, kq2, q2a, q2b, q2c⟩ := isOf hZ e1 (E_w_BULLETIN.ext O.2)
  obtain ⟨_, _, ⟨T2, L2, k2, n2⟩, -, X2, ⟨Lc2, hQ2, l2, y2, z2⟩, st2⟩ := X1.virtualBack hx (y := (⟨"com/example/clausewright/clausewright/Clause$Kind", "namedByTitle", "()Z"⟩ : MethodName)) (z := (⟨"com/example/clausewright/clausewright/Clause$Kind", "namedByTitle", "()Z"⟩ : MethodName)) hown (mvT hZ (hw _ (List.mem_of_getElem? (i := 7) rfl))) (mvT hZ (hw _ (List.mem_of_getElem? (i := 8) rfl))) (notFace_of_selects (args := #[]) (mvT hZ (hw _ (List.mem_of_getElem? (i := 10) rfl)))) (mvT hZ (hw _ (List.mem_of_getElem? (i := 10) rfl))) (mvT hZ (hw _ (List.mem_of_getElem? (i := 9) rfl))) (by decide) (backOf (W := 0) (rm2_r l Z a0 hw [] n0 h0 O w_PREAMBLE w_PREAMBLE_beforeLabel w_SECTION w_SECTION_beforeLabel w_APPENDIX w_APPENDIX_beforeLabel w_BULLETIN w_BULLETIN_beforeLabel w_ARTICLE w_ARTICLE_beforeLabel w_CONTENTS w_CONTENTS_beforeLabel w_HEADING w_ITEM w_ITEM_beforeLabel W w_BULLETIN w_BULLETIN_beforeLabel F_w_BULLETIN_beforeLabel) hZ (hw _ (List.mem_of_getElem? (i := 11) rfl)) (hw _ (List.mem_of_getElem? (i := 5) rfl)) (by decide) (by decide)) q2a q2c (g := (mkF m 22 #[.val (.int p0), .val (.int (7 : Int32)), .val (.ref w_BULLETIN), .val (.int (0 : Int32))] [(.ref w_BULLETIN)])) rfl (by rw [hml]; rfl) (Steps.refl _) (argsL := []) (rest := []) (lenOf owpd1 rfl) rfl (by show 2 * 0 + _ ≤ _; exact Nat.le_of_eq rfl) (hb hby at_22) (fun _ _ => ⟨rfl, e1, (by decide : 0 + 0 ≤ _), (by decide : 0 + 0 ≤ _)⟩)
  dsimp only [Pt.U, Pt.locs, Pt.cells, Pt.slots] at X2 l2 y2 z2 st2 hQ2
  subst l2 y2 z2
  obtain ⟨rfl, Nq2, e2⟩ := hQ2
  have N2 := Fr.app N1 Nq2
  obtain ⟨fs, hr, hrun, hended, hW, hsame⟩ := X2.leave (v := some (.int (1 : Int32))) (fun h => by rw [Bd.returns] at h; cases h)
  refine ⟨_, _, pre0 _ ?_, hrun, hended, _, _, rfl, ?_, ⟨_, rfl⟩, hW, hsame.mono (by decide) (by decide)⟩
  · show Steps p.tables e below (s₁.setTop (mkF m 0 #[.val (.int p0), .unset, .unset, .unset] [])) _
    refine XS.iloadN X0.here hx rfl (hb hby at_0) rfl ?_
    show Steps p.tables e below (s₁.setTop (mkF m 1 #[.val (.int p0), .unset, .unset, .unset] [(.int p0)])) _
    refine XS.bipush X0.here hx rfl (hb hby at_1) ?_
    show Steps p.tables e below (s₁.setTop (mkF m 3 #[.val (.int p0), .unset, .unset, .unset] [(.int (7 : Int32)), (.int p0)])) _
    refine XS.iand X0.here hx rfl (hb hby at_3) rfl ?_
    show Steps p.tables e below (s₁.setTop (mkF m 4 #[.val (.int p0), .unset, .unset, .unset] [(.int (p0 &&& (7 : Int32)))])) _
    rw [hi]
    show Steps p.tables e below (s₁.setTop (mkF m 4 #[.val (.int p0), .unset, .unset, .unset] [(.int (7 : Int32))])) _
    refine XS.istoreN X0.here hx rfl (hb hby at_4) rfl (l' := #[.val (.int p0), .val (.int (7 : Int32)), .unset, .unset]) rfl ?_
    show Steps p.tables e below (s₁.setTop (mkF m 5 #[.val (.int p0), .val (.int (7 : Int32)), .unset, .unset] [])) _
    refine XS.iloadN X0.here hx rfl (hb hby at_5) rfl ?_
    show Steps p.tables e below (s₁.setTop (mkF m 6 #[.val (.int p0), .val (.int (7 : Int32)), .unset, .unset] [(.int (7 : Int32))])) _
    refine st1 _ ?_
    show Steps p.tables e below (T1.setTop (mkF m 9 #[.val (.int p0), .val (.int (7 : Int32)), .unset, .unset] [(.ref w_BULLETIN)])) _
    refine XS.astoreN X1.here hx rfl (hb hby at_9) rfl rfl (l' := #[.val (.int p0), .val (.int (7 : Int32)), .val (.ref w_BULLETIN), .unset]) rfl ?_
    show Steps p.tables e below (T1.setTop (mkF m 10 #[.val (.int p0), .val (.int (7 : Int32)), .val (.ref w_BULLETIN), .unset] [])) _
    refine XS.iloadN X1.here hx rfl (hb hby at_10) rfl ?_
    show Steps p.tables e below (T1.setTop (mkF m 11 #[.val (.int p0), .val (.int (7 : Int32)), .val (.ref w_BULLETIN), .unset] [(.int (7 : Int32))])) _
    refine XS.iconst X1.here hx rfl (hb hby at_11) ?_
    show Steps p.tables e below (T1.setTop (mkF m 12 #[.val (.int p0), .val (.int (7 : Int32)), .val (.ref w_BULLETIN), .unset] [(.int (4 : Int32)), (.int (7 : Int32))])) _
    refine XS.icmpYes X1.here hx rfl (pc0 := 12) (pc' := 19) rfl (hb hby at_12) rfl (feq (by decide : ¬ ((7 : Int32) = (4 : Int32)))).2 (by decide) (by decide) ?_
    show Steps p.tables e below (T1.setTop (mkF m 19 #[.val (.int p0), .val (.int (7 : Int32)), .val (.ref w_BULLETIN), .unset] [])) _
    refine XS.iconst X1.here hx rfl (hb hby at_19) ?_
    show Steps p.tables e below (T1.setTop (mkF m 20 #[.val (.int p0), .val (.int (7 : Int32)), .val (.ref w_BULLETIN), .unset] [(.int (0 : Int32))])) _
    refine XS.istoreN X1.here hx rfl (hb hby at_20) rfl (l' := #[.val (.int p0), .val (.int (7 : Int32)), .val (.ref w_BULLETIN), .val (.int (0 : Int32))]) rfl ?_
    show Steps p.tables e below (T1.setTop (mkF m 21 #[.val (.int p0), .val (.int (7 : Int32)), .val (.ref w_BULLETIN), .val (.int (0 : Int32))] [])) _
    refine XS.aloadN X1.here hx rfl (hb hby at_21) rfl rfl ?_
    show Steps p.tables e below (T1.setTop (mkF m 22 #[.val (.int p0), .val (.int (7 : Int32)), .val (.ref w_BULLETIN), .val (.int (0 : Int32))] [(.ref w_BULLETIN)])) _
    refine st2.trans ?_
    show Steps p.tables e below (T2.setTop (mkF m 25 #[.val (.int p0), .val (.int (7 : Int32)), .val (.ref w_BULLETIN), .val (.int (0 : Int32))] [(.int (0 : Int32))])) _
    refine XS.iloadN X2.here hx rfl (hb hby at_25) rfl ?_
    show Steps p.tables e below (T2.setTop (mkF m 26 #[.val (.int p0), .val (.int (7 : Int32)), .val (.ref w_BULLETIN), .val (.int (0 : Int32))] [(.int (0 : Int32)), (.int (0 : Int32))])) _
    refine XS.icmpNo X2.here hx rfl (hb hby at_26) rfl (teq (by decide : (0 : Int32) = (0 : Int32))).2 ?_
    show Steps p.tables e below (T2.setTop (mkF m 29 #[.val (.int p0), .val (.int (7 : Int32)), .val (.ref w_BULLETIN), .val (.int (0 : Int32))] [])) _
    refine XS.iconst X2.here hx rfl (hb hby at_29) ?_
    show Steps p.tables e below (T2.setTop (mkF m 30 #[.val (.int p0), .val (.int (7 : Int32)), .val (.ref w_BULLETIN), .val (.int (0 : Int32))] [(.int (1 : Int32))])) _
    refine XS.goto X2.here hx rfl (pc0 := 30) (pc' := 34) rfl (hb hby at_30) (by decide) (by decide) ?_
    show Steps p.tables e below (T2.setTop (mkF m 34 #[.val (.int p0), .val (.int (7 : Int32)), .val (.ref w_BULLETIN), .val (.int (0 : Int32))] [(.int (1 : Int32))])) _
    exact retN X2 hx (t := .boolean) Bd.returns (by simp) (hb hby at_34) hr
  · exact ⟨N2, rfl⟩
set_option maxRecDepth 65536 in
set_option maxHeartbeats 40000000 in
theorem comes_1 {Post : Tables → Env → Array Value → State → Outcome → State → Prop} (hpost : ∀ tb e args s v u, (limb_1_1.after args s (.returned v) u = true ∧ limb_1_2.after args s (.returned v) u = true ∧ True) → FrameEnd s (.returned v) u (Jvm.fieldLocs frame_1_writes args s ++ Jvm.arrayLocs frame_1_arrays args s ++ Jvm.staticLocs frame_1_statics s) 0 0 → Post tb e args s (.returned v) u) :
    ArmFor flags0 classFile x code maxLocals ret World_1 tables_1 room_1 Calls_1 rest_1 Pre_1 Post := by
  intro l hfl _ _ p e ha hc hk s m args below hf hA hF happ hP
  obtain ⟨hcalls, hrest, hpre⟩ := hP
  obtain ⟨-, -, -, hnamed, -, -, -, hat⟩ := (Spec.applies_iff hf).mp happ
  obtain ⟨hg, hn⟩ := and_e (Cond.before_iff.mp (show (Jvm.Cond.and given_1 narrow_1).before args s = true from hpre))
  obtain ⟨ga1, gb1⟩ := and_e hg
  obtain ⟨w0, rfl⟩ : ∃ w0 : Value, args = #[w0] := by
    have hs : args.size = 1 := by simpa [Cond.value, given_1] using ga1
    obtain ⟨L⟩ := args
    match L, hs with
    | [w0], _ => exact ⟨w0, rfl⟩
  have hw := fun d (hd : d ∈ tables_1) => atoms_spec (ws := Jvm.Cond.code x code maxLocals ret :: tables_1) hat d (List.mem_cons_of_mem _ hd)
  have hfit : Fit s := fun {y c} hc i hi => by
    obtain ⟨ha, rfl⟩ := Array.getElem?_eq_some_iff.mp hc
    have q := List.all_eq_true.mp ((Array.all_eq_true_iff_forall_mem.mp hF) _ (Array.getElem_mem ha)) i (List.mem_range.mpr hi)
    simpa [Array.getElem?_eq_getElem hi] using q
  obtain ⟨i0, ei0⟩ := is_v gb1
  obtain rfl : w0 = (.int i0) := Option.some.inj ei0
  obtain ⟨nn1, nn2⟩ := and_e hn
  obtain ⟨nn3, nn4⟩ := and_e nn2
  obtain ⟨nn5, nn6⟩ := and_e nn4
  obtain ⟨nn7, nn8⟩ := and_e nn6
  obtain ⟨nn9, nn10⟩ := and_e nn8
  obtain ⟨nn11, nn12⟩ := and_e nn10
  obtain ⟨nn13, nn14⟩ := and_e nn12
  obtain ⟨nn15, nn16⟩ := and_e nn14
  obtain ⟨nn17, nn18⟩ := and_e nn16
  obtain ⟨nn19, nn20⟩ := and_e nn18
  obtain ⟨nn21, nn22⟩ := and_e nn20
  obtain ⟨nn23, nn24⟩ := and_e nn22
  obtain ⟨nn25, nn26⟩ := and_e nn24
  obtain ⟨nn27, nn28⟩ := and_e nn26
  obtain ⟨nn29, nn30⟩ := and_e nn28
  obtain ⟨w_PREAMBLE, ev_w_PREAMBLE⟩ := exa_v nn1
  have E_w_PREAMBLE : Exa s s.heap w_PREAMBLE "com/example/clausewright/clausewright/Clause$Kind" := Exa.start ev_w_PREAMBLE nn1
  obtain ⟨w_PREAMBLE_beforeLabel, ev_w_PREAMBLE_beforeLabel⟩ := exa_v nn3
  have E_w_PREAMBLE_beforeLabel : Exa s s.heap w_PREAMBLE_beforeLabel "java/lang/String" := Exa.start ev_w_PREAMBLE_beforeLabel nn3
  obtain ⟨w_SECTION, ev_w_SECTION⟩ := exa_v nn5
  have E_w_SECTION : Exa s s.heap w_SECTION "com/example/clausewright/clausewright/Clause$Kind" := Exa.start ev_w_SECTION nn5
  obtain ⟨w_SECTION_beforeLabel, ev_w_SECTION_beforeLabel⟩ := exa_v nn7
  have E_w_SECTION_beforeLabel : Exa s s.heap w_SECTION_beforeLabel "java/lang/String" := Exa.start ev_w_SECTION_beforeLabel nn7
  obtain ⟨w_APPENDIX, ev_w_APPENDIX⟩ := exa_v nn9
  have E_w_APPENDIX : Exa s s.heap w_APPENDIX "com/example/clausewright/clausewright/Clause$Kind" := Exa.start ev_w_APPENDIX nn9
  obtain ⟨w_APPENDIX_beforeLabel, ev_w_APPENDIX_beforeLabel⟩ := exa_v nn11
  have E_w_APPENDIX_beforeLabel : Exa s s.heap w_APPENDIX_beforeLabel "java/lang/String" := Exa.start ev_w_APPENDIX_beforeLabel nn11
  obtain ⟨w_BULLETIN, ev_w_BULLETIN⟩ := exa_v nn13
  have E_w_BULLETIN : Exa s s.heap w_BULLETIN "com/example/clausewright/clausewright/Clause$Kind" := Exa.start ev_w_BULLETIN nn13
  obtain ⟨w_BULLETIN_beforeLabel, ev_w_BULLETIN_beforeLabel⟩ := exa_v nn15
  have E_w_BULLETIN_beforeLabel : Exa s s.heap w_BULLETIN_beforeLabel "java/lang/String" := Exa.start ev_w_BULLETIN_beforeLabel nn15
  obtain ⟨w_ARTICLE, ev_w_ARTICLE⟩ := exa_v nn17
  have E_w_ARTICLE : Exa s s.heap w_ARTICLE "com/example/clausewright/clausewright/Clause$Kind" := Exa.start ev_w_ARTICLE nn17
  obtain ⟨w_ARTICLE_beforeLabel, ev_w_ARTICLE_beforeLabel⟩ := exa_v nn19
  have E_w_ARTICLE_beforeLabel : Exa s s.heap w_ARTICLE_beforeLabel "java/lang/String" := Exa.start ev_w_ARTICLE_beforeLabel nn19
  obtain ⟨w_CONTENTS, ev_w_CONTENTS⟩ := exa_v nn21
  have E_w_CONTENTS : Exa s s.heap w_CONTENTS "com/example/clausewright/clausewright/Clause$Kind" := Exa.start ev_w_CONTENTS nn21
  obtain ⟨w_CONTENTS_beforeLabel, ev_w_CONTENTS_beforeLabel⟩ := exa_v nn23
  have E_w_CONTENTS_beforeLabel : Exa s s.heap w_CONTENTS_beforeLabel "java/lang/String" := Exa.start ev_w_CONTENTS_beforeLabel nn23
  obtain ⟨w_HEADING, ev_w_HEADING⟩ := exa_v nn25
  have E_w_HEADING : Exa s s.heap w_HEADING "com/example/clausewright/clausewright/Clause$Kind" := Exa.start ev_w_HEADING nn25
  have ev31 := null_v nn27
  obtain ⟨w_ITEM, ev_w_ITEM⟩ := exa_v nn29
  have E_w_ITEM : Exa s s.heap w_ITEM "com/example/clausewright/clausewright/Clause$Kind" := Exa.start ev_w_ITEM nn29
  obtain ⟨w_ITEM_beforeLabel, ev_w_ITEM_beforeLabel⟩ := exa_v nn30
  have E_w_ITEM_beforeLabel : Exa s s.heap w_ITEM_beforeLabel "java/lang/String" := Exa.start ev_w_ITEM_beforeLabel nn30
  have S_Clause_Kind_PREAMBLE : Sta s s.heap "com/example/clausewright/clausewright/Clause$Kind" "PREAMBLE" "Lcom/example/clausewright/clausewright/Clause$Kind;" (.ref w_PREAMBLE) := Sta.start ev_w_PREAMBLE (Or.inr ⟨(hw _ (List.mem_of_getElem? (i := 5) rfl)), (hw _ (List.mem_of_getElem? (i := 6) rfl))⟩)
  have F_w_PREAMBLE_beforeLabel : Fld s s.heap w_PREAMBLE "com/example/clausewright/clausewright/Clause$Kind" "beforeLabel" "Ljava/lang/String;" (.ref w_PREAMBLE_beforeLabel) := own_fld ev_w_PREAMBLE ev_w_PREAMBLE_beforeLabel
  have S_Clause_Kind_SECTION : Sta s s.heap "com/example/clausewright/clausewright/Clause$Kind" "SECTION" "Lcom/example/clausewright/clausewright/Clause$Kind;" (.ref w_SECTION) := Sta.start ev_w_SECTION (Or.inr ⟨(hw _ (List.mem_of_getElem? (i := 5) rfl)), (hw _ (List.mem_of_getElem? (i := 15) rfl))⟩)
  have F_w_SECTION_beforeLabel : Fld s s.heap w_SECTION "com/example/clausewright/clausewright/Clause$Kind" "beforeLabel" "Ljava/lang/String;" (.ref w_SECTION_beforeLabel) := own_fld ev_w_SECTION ev_w_SECTION_beforeLabel
  have S_Clause_Kind_APPENDIX : Sta s s.heap "com/example/clausewright/clausewright/Clause$Kind" "APPENDIX" "Lcom/example/clausewright/clausewright/Clause$Kind;" (.ref w_APPENDIX) := Sta.start ev_w_APPENDIX (Or.inr ⟨(hw _ (List.mem_of_getElem? (i := 5) rfl)), (hw _ (List.mem_of_getElem? (i := 17) rfl))⟩)
  have F_w_APPENDIX_beforeLabel : Fld s s.heap w_APPENDIX "com/example/clausewright/clausewright/Clause$Kind" "beforeLabel" "Ljava/lang/String;" (.ref w_APPENDIX_beforeLabel) := own_fld ev_w_APPENDIX ev_w_APPENDIX_beforeLabel
  have S_Clause_Kind_BULLETIN : Sta s s.heap "com/example/clausewright/clausewright/Clause$Kind" "BULLETIN" "Lcom/example/clausewright/clausewright/Clause$Kind;" (.ref w_BULLETIN) := Sta.start ev_w_BULLETIN (Or.inr ⟨(hw _ (List.mem_of_getElem? (i := 5) rfl)), (hw _ (List.mem_of_getElem? (i := 19) rfl))⟩)
  have F_w_BULLETIN_beforeLabel : Fld s s.heap w_BULLETIN "com/example/clausewright/clausewright/Clause$Kind" "beforeLabel" "Ljava/lang/String;" (.ref w_BULLETIN_beforeLabel) := own_fld ev_w_BULLETIN ev_w_BULLETIN_beforeLabel
  have S_Clause_Kind_ARTICLE : Sta s s.heap "com/example/clausewright/clausewright/Clause$Kind" "ARTICLE" "Lcom/example/clausewright/clausewright/Clause$Kind;" (.ref w_ARTICLE) := Sta.start ev_w_ARTICLE (Or.inr ⟨(hw _ (List.mem_of_getElem? (i := 5) rfl)), (hw _ (List.mem_of_getElem? (i := 21) rfl))⟩)
  have F_w_ARTICLE_beforeLabel : Fld s s.heap w_ARTICLE "com/example/clausewright/clausewright/Clause$Kind" "beforeLabel" "Ljava/lang/String;" (.ref w_ARTICLE_beforeLabel) := own_fld ev_w_ARTICLE ev_w_ARTICLE_beforeLabel
  have S_Clause_Kind_CONTENTS : Sta s s.heap "com/example/clausewright/clausewright/Clause$Kind" "CONTENTS" "Lcom/example/clausewright/clausewright/Clause$Kind;" (.ref w_CONTENTS) := Sta.start ev_w_CONTENTS (Or.inr ⟨(hw _ (List.mem_of_getElem? (i := 5) rfl)), (hw _ (List.mem_of_getElem? (i := 23) rfl))⟩)
  have F_w_CONTENTS_beforeLabel : Fld s s.heap w_CONTENTS "com/example/clausewright/clausewright/Clause$Kind" "beforeLabel" "Ljava/lang/String;" (.ref w_CONTENTS_beforeLabel) := own_fld ev_w_CONTENTS ev_w_CONTENTS_beforeLabel
  have S_Clause_Kind_HEADING : Sta s s.heap "com/example/clausewright/clausewright/Clause$Kind" "HEADING" "Lcom/example/clausewright/clausewright/Clause$Kind;" (.ref w_HEADING) := Sta.start ev_w_HEADING (Or.inr ⟨(hw _ (List.mem_of_getElem? (i := 5) rfl)), (hw _ (List.mem_of_getElem? (i := 25) rfl))⟩)
  have F_w_HEADING_beforeLabel : Fld s s.heap w_HEADING "com/example/clausewright/clausewright/Clause$Kind" "beforeLabel" "Ljava/lang/String;" .null := own_fld ev_w_HEADING ev31
  have S_Clause_Kind_ITEM : Sta s s.heap "com/example/clausewright/clausewright/Clause$Kind" "ITEM" "Lcom/example/clausewright/clausewright/Clause$Kind;" (.ref w_ITEM) := Sta.start ev_w_ITEM (Or.inr ⟨(hw _ (List.mem_of_getElem? (i := 5) rfl)), (hw _ (List.mem_of_getElem? (i := 27) rfl))⟩)
  have F_w_ITEM_beforeLabel : Fld s s.heap w_ITEM "com/example/clausewright/clausewright/Clause$Kind" "beforeLabel" "Ljava/lang/String;" (.ref w_ITEM_beforeLabel) := own_fld ev_w_ITEM ev_w_ITEM_beforeLabel
  have W : OwW s w_PREAMBLE w_PREAMBLE_beforeLabel w_SECTION w_SECTION_beforeLabel w_APPENDIX w_APPENDIX_beforeLabel w_BULLETIN w_BULLETIN_beforeLabel w_ARTICLE w_ARTICLE_beforeLabel w_CONTENTS w_CONTENTS_beforeLabel w_HEADING w_ITEM w_ITEM_beforeLabel := ⟨E_w_PREAMBLE, E_w_PREAMBLE_beforeLabel, E_w_SECTION, E_w_SECTION_beforeLabel, E_w_APPENDIX, E_w_APPENDIX_beforeLabel, E_w_BULLETIN, E_w_BULLETIN_beforeLabel, E_w_ARTICLE, E_w_ARTICLE_beforeLabel, E_w_CONTENTS, E_w_CONTENTS_beforeLabel, E_w_HEADING, E_w_ITEM, E_w_ITEM_beforeLabel, S_Clause_Kind_PREAMBLE, F_w_PREAMBLE_beforeLabel, S_Clause_Kind_SECTION, F_w_SECTION_beforeLabel, S_Clause_Kind_APPENDIX, F_w_APPENDIX_beforeLabel, S_Clause_Kind_BULLETIN, F_w_BULLETIN_beforeLabel, S_Clause_Kind_ARTICLE, F_w_ARTICLE_beforeLabel, S_Clause_Kind_CONTENTS, F_w_CONTENTS_beforeLabel, S_Clause_Kind_HEADING, F_w_HEADING_beforeLabel, S_Clause_Kind_ITEM, F_w_ITEM_beforeLabel, trivial⟩
  have fin : OwCon l x code maxLocals ret tables_1 room_1 #[(.int i0)] s s.heap (OwP (fun v _ => v = some (.int 1)) s.heap.size) := by
    rcases own_i8 i0 with h | h | h | h | h | h | h | h
    · exact rm0_0 l s _ hw tables_1 s.heap.size s.heap (Old.start s) w_PREAMBLE w_PREAMBLE_beforeLabel w_SECTION w_SECTION_beforeLabel w_APPENDIX w_APPENDIX_beforeLabel w_BULLETIN w_BULLETIN_beforeLabel w_ARTICLE w_ARTICLE_beforeLabel w_CONTENTS w_CONTENTS_beforeLabel w_HEADING w_ITEM w_ITEM_beforeLabel W i0 h
    · exact rm0_1 l s _ hw tables_1 s.heap.size s.heap (Old.start s) w_PREAMBLE w_PREAMBLE_beforeLabel w_SECTION w_SECTION_beforeLabel w_APPENDIX w_APPENDIX_beforeLabel w_BULLETIN w_BULLETIN_beforeLabel w_ARTICLE w_ARTICLE_beforeLabel w_CONTENTS w_CONTENTS_beforeLabel w_HEADING w_ITEM w_ITEM_beforeLabel W i0 h
    · exact rm0_2 l s _ hw tables_1 s.heap.size s.heap (Old.start s) w_PREAMBLE w_PREAMBLE_beforeLabel w_SECTION w_SECTION_beforeLabel w_APPENDIX w_APPENDIX_beforeLabel w_BULLETIN w_BULLETIN_beforeLabel w_ARTICLE w_ARTICLE_beforeLabel w_CONTENTS w_CONTENTS_beforeLabel w_HEADING w_ITEM w_ITEM_beforeLabel W i0 h
    · exact rm0_3 l s _ hw tables_1 s.heap.size s.heap (Old.start s) w_PREAMBLE w_PREAMBLE_beforeLabel w_SECTION w_SECTION_beforeLabel w_APPENDIX w_APPENDIX_beforeLabel w_BULLETIN w_BULLETIN_beforeLabel w_ARTICLE w_ARTICLE_beforeLabel w_CONTENTS w_CONTENTS_beforeLabel w_HEADING w_ITEM w_ITEM_beforeLabel W i0 h
    · exact rm0_4 l s _ hw tables_1 s.heap.size s.heap (Old.start s) w_PREAMBLE w_PREAMBLE_beforeLabel w_SECTION w_SECTION_beforeLabel w_APPENDIX w_APPENDIX_beforeLabel w_BULLETIN w_BULLETIN_beforeLabel w_ARTICLE w_ARTICLE_beforeLabel w_CONTENTS w_CONTENTS_beforeLabel w_HEADING w_ITEM w_ITEM_beforeLabel W i0 h
    · exact rm0_5 l s _ hw tables_1 s.heap.size s.heap (Old.start s) w_PREAMBLE w_PREAMBLE_beforeLabel w_SECTION w_SECTION_beforeLabel w_APPENDIX w_APPENDIX_beforeLabel w_BULLETIN w_BULLETIN_beforeLabel w_ARTICLE w_ARTICLE_beforeLabel w_CONTENTS w_CONTENTS_beforeLabel w_HEADING w_ITEM w_ITEM_beforeLabel W i0 h
    · exact rm0_6 l s _ hw tables_1 s.heap.size s.heap (Old.start s) w_PREAMBLE w_PREAMBLE_beforeLabel w_SECTION w_SECTION_beforeLabel w_APPENDIX w_APPENDIX_beforeLabel w_BULLETIN w_BULLETIN_beforeLabel w_ARTICLE w_ARTICLE_beforeLabel w_CONTENTS w_CONTENTS_beforeLabel w_HEADING w_ITEM w_ITEM_beforeLabel W i0 h
    · exact rm0_7 l s _ hw tables_1 s.heap.size s.heap (Old.start s) w_PREAMBLE w_PREAMBLE_beforeLabel w_SECTION w_SECTION_beforeLabel w_APPENDIX w_APPENDIX_beforeLabel w_BULLETIN w_BULLETIN_beforeLabel w_ARTICLE w_ARTICLE_beforeLabel w_CONTENTS w_CONTENTS_beforeLabel w_HEADING w_ITEM w_ITEM_beforeLabel W i0 h
  obtain ⟨n, o, h1, h2, h3, _, L, rfl, ⟨N, rfl⟩, hq⟩ := fin p e ha hc hk s m _ below hf ((Spec.applies_iff_loose hf).mp happ).1 ⟨rfl, State.Warmed39.refl s, rfl⟩ trivial
  refine ⟨n, _, h1, h2, h3, hpost _ _ _ _ _ _ ⟨Cond.after_iff.mpr rfl, Cond.after_iff.mpr (eq_i res_at (Term.int_eval (1)) rfl), trivial⟩ ⟨hq.1, hq.2.1, (hq.2.2.sift fun y hy => Or.inr (N y hy)).mono (by decide) (by decide)⟩⟩
theorem main_1_1 : Claimed_1_1 := comes_1 fun _ _ _ _ _ _ h hF => ⟨h.1, hF⟩
theorem main_1_2 : Claimed_1_2 := comes_1 fun _ _ _ _ _ _ h hF => ⟨h.2.1, hF⟩
end Jvm.Pilot.@@N@@
namespace Jvm.Pilot.@@N@@
open Jvm Jvm.ClassFile Sem Op Lib Jvm.Free Jvm.Stand Jvm.Pilot.@@N@@.Jvm.D
/-! MADE BY PROGRAM (witnessworld.py) out of the Statement's table words and the real class files: 15 classes; the members and pool entries that the words name. The judged class is class 1, her method 1. -/
namespace start1
open Jvm.ClassFile
def u (s : String) : CpInfo := .utf8 (stringToUtf16 s)
/-- a pool by its gaps: so many unusable entries, then the entry; so many at the end -/
def gap : Nat → List CpInfo → List CpInfo
  | 0, r => r
  | n + 1, r => .unusable :: gap n r
def poolList (es : List (Nat × CpInfo)) (last : Nat) : List CpInfo := es.foldr (fun e r => gap e.1 (e.2 :: r)) (gap last [])
def pool (es : List (Nat × CpInfo)) (last : Nat) : Array CpInfo := ⟨poolList es last⟩
def fileOf (pool : Array CpInfo) (this : Nat) (attrs : Array Attribute := #[]) (ms : Array MethodInfo := #[]) (fl : Nat := 33) (sup : Nat := 0) (ifs : Array Nat := #[]) (fds : Array FieldInfo := #[]) : ClassFile where
  minorVersion := 0
  majorVersion := 65
  constantPool := pool
  accessFlags := fl
  thisClass := this
  superClass := sup
  interfaces := ifs
  fields := fds
  methods := ms
  attributes := attrs
def plain (name : String) (sup : Option ClassId) : Class where
  name := name
  kind := .ordinary
  loader := none
  accessFlags := 33
  super := sup
  interfaces := #[]
  cf := none
  fields := #[]
  methods := #[]
  instanceTypes := #[]
  staticTypes := #[]
  resolved := #[]
  callSites := []
  init := .initialized
  statics := none
  mirror := none

def pool0 : Array CpInfo := pool [(5, u "<init>"), (0, u "()V"), (1, .class_ 10), (1, u "java/lang/Object")] 113

def k0m0 : Method := { name := "<init>", desc := "()V", sig := { parameters := [], returnType := none }, accessFlags := 1, code := none }
/-- java/lang/Object -/
def k0 : Class := { plain "java/lang/Object" none with
  accessFlags := 33
  interfaces := #[]
  cf := some (fileOf pool0 8 #[] #[{ accessFlags := 1, nameIndex := 5, descriptorIndex := 6, attributes := #[] }] 33 0 #[] #[])
  fields := #[]
  methods := #[k0m0]
  instanceTypes := #[]
  staticTypes := #[]
  resolved := Array.replicate 124 none
  statics := none }

def pool1 : Array CpInfo := pool [(2, .class_ 4), (1, u "java/lang/Object"), (0, u "<init>"), (0, u "()V"), (0, .methodref 8 9), (0, .class_ 10), (0, .nameAndType 11 12), (0, u "com/example/clausewright/clausewright/KindNamedByTitlePinLaw"), (0, u "pick"), (0, u "(I)Lcom/example/clausewright/clausewright/Clause$Kind;"), (0, .methodref 14 15), (0, .class_ 16), (0, .nameAndType 17 18), (0, u "com/example/clausewright/clausewright/Clause$Kind"), (0, u "namedByTitle"), (0, u "()Z"), (0, .fieldref 14 20), (0, .nameAndType 21 22), (0, u "PREAMBLE"), (0, u "Lcom/example/clausewright/clausewright/Clause$Kind;"), (0, .fieldref 14 24), (0, .nameAndType 25 22), (0, u "CONTENTS"), (0, .fieldref 14 27), (0, .nameAndType 28 22), (0, u "ARTICLE"), (0, .fieldref 14 30), (0, .nameAndType 31 22), (0, u "SECTION"), (0, .fieldref 14 33), (0, .nameAndType 34 22), (0, u "HEADING"), (0, .fieldref 14 36), (0, .nameAndType 37 22), (0, u "ITEM"), (0, .fieldref 14 39), (0, .nameAndType 40 22), (0, u "APPENDIX"), (0, .fieldref 14 42), (0, .nameAndType 43 22), (0, u "BULLETIN"), (2, u "law"), (0, u "(I)Z")] 7

def k1m0 : Method := { name := "<init>", desc := "()V", sig := { parameters := [], returnType := none }, accessFlags := 1, code := none }
def k1c1 : Code := { maxStack := 2, maxLocals := 4, code := code, exceptionTable := #[], attributes := #[] }
def k1m1 : Method := { name := "law", desc := "(I)Z", sig := { parameters := [.int], returnType := some .boolean }, accessFlags := 9, code := some k1c1 }
def k1c2 : Code := { maxStack := 2, maxLocals := 1, code := method_3_code, exceptionTable := #[], attributes := #[] }
def k1m2 : Method := { name := "pick", desc := "(I)Lcom/example/clausewright/clausewright/Clause$Kind;", sig := { parameters := [.int], returnType := some (.object "com/example/clausewright/clausewright/Clause$Kind") }, accessFlags := 10, code := some k1c2 }
/-- com/example/clausewright/clausewright/KindNamedByTitlePinLaw -/
def k1 : Class := { plain "com/example/clausewright/clausewright/KindNamedByTitlePinLaw" (some 0) with
  accessFlags := 49
  interfaces := #[]
  cf := some (fileOf pool1 8 #[] #[{ accessFlags := 1, nameIndex := 5, descriptorIndex := 6, attributes := #[] }, { accessFlags := 9, nameIndex := 46, descriptorIndex := 47, attributes := #[] }, { accessFlags := 10, nameIndex := 11, descriptorIndex := 12, attributes := #[] }] 49 2 #[] #[])
  fields := #[]
  methods := #[k1m0, k1m1, k1m2]
  instanceTypes := #[]
  staticTypes := #[]
  resolved := Array.replicate 55 none
  statics := none }

def pool2 : Array CpInfo := pool [(1, .class_ 2), (0, u "java/lang/constant/Constable"), (0, .class_ 4), (0, u "java/lang/Object")] 6

/-- java/lang/constant/Constable -/
def k2 : Class := { plain "java/lang/constant/Constable" (some 0) with
  accessFlags := 1537
  interfaces := #[]
  cf := some (fileOf pool2 1 #[] #[] 1537 3 #[] #[])
  fields := #[]
  methods := #[]
  instanceTypes := #[]
  staticTypes := #[]
  resolved := Array.replicate 11 none
  statics := none }

def pool3 : Array CpInfo := pool [(1, .class_ 2), (0, u "java/lang/Comparable"), (0, .class_ 4), (0, u "java/lang/Object")] 7

/-- java/lang/Comparable -/
def k3 : Class := { plain "java/lang/Comparable" (some 0) with
  accessFlags := 1537
  interfaces := #[]
  cf := some (fileOf pool3 1 #[] #[] 1537 3 #[] #[])
  fields := #[]
  methods := #[]
  instanceTypes := #[]
  staticTypes := #[]
  resolved := Array.replicate 12 none
  statics := none }

def pool4 : Array CpInfo := pool [(1, .class_ 2), (0, u "java/io/Serializable"), (0, .class_ 4), (0, u "java/lang/Object")] 2

/-- java/io/Serializable -/
def k4 : Class := { plain "java/io/Serializable" (some 0) with
  accessFlags := 1537
  interfaces := #[]
  cf := some (fileOf pool4 1 #[] #[] 1537 3 #[] #[])
  fields := #[]
  methods := #[]
  instanceTypes := #[]
  staticTypes := #[]
  resolved := Array.replicate 7 none
  statics := none }

def pool5 : Array CpInfo := pool [(2, .class_ 4), (1, u "java/lang/Enum"), (0, u "name"), (0, u "Ljava/lang/String;"), (2, u "ordinal"), (0, u "I"), (1, .class_ 14), (1, u "java/lang/Object"), (4, u "hash"), (86, .class_ 108), (1, u "java/lang/Enum$EnumDesc"), (2, .class_ 112), (0, u "java/lang/constant/Constable"), (0, .class_ 114), (0, u "java/lang/Comparable"), (0, .class_ 116), (0, u "java/io/Serializable")] 87

/-- java/lang/Enum -/
def k5 : Class := { plain "java/lang/Enum" (some 0) with
  accessFlags := 1057
  interfaces := #[2, 3, 4]
  cf := some (fileOf pool5 2 #[.nestMembers #[106]] #[] 1057 12 #[111, 113, 115] #[{ accessFlags := 18, nameIndex := 5, descriptorIndex := 6, attributes := #[] }, { accessFlags := 18, nameIndex := 9, descriptorIndex := 10, attributes := #[] }, { accessFlags := 2, nameIndex := 19, descriptorIndex := 10, attributes := #[] }])
  fields := #[{ name := "name", type := (.object "java/lang/String"), accessFlags := 18, slot := 0, constantValue := 0 }, { name := "ordinal", type := .int, accessFlags := 18, slot := 1, constantValue := 0 }, { name := "hash", type := .int, accessFlags := 2, slot := 2, constantValue := 0 }]
  methods := #[]
  instanceTypes := #[(.object "java/lang/String"), .int, .int]
  staticTypes := #[]
  resolved := Array.replicate 204 none
  statics := none }

def pool6 : Array CpInfo := pool [(1, .class_ 2), (0, u "com/example/clausewright/clausewright/Clause$Kind"), (2, u "PREAMBLE"), (0, u "Lcom/example/clausewright/clausewright/Clause$Kind;"), (2, u "CONTENTS"), (2, u "ARTICLE"), (2, u "SECTION"), (2, u "HEADING"), (2, u "ITEM"), (2, u "APPENDIX"), (2, u "BULLETIN"), (2, u "$VALUES"), (0, u "[Lcom/example/clausewright/clausewright/Clause$Kind;"), (6, .class_ 40), (1, u "java/lang/Enum"), (6, .fieldref 1 48), (0, .nameAndType 49 50), (0, u "beforeLabel"), (0, u "Ljava/lang/String;"), (2, u "afterLabel"), (2, u "noun"), (2, u "plural"), (3, u "()Z"), (6, u "namedByTitle"), (84, .class_ 156), (0, u "com/example/clausewright/clausewright/Clause")] 18

def k6c0 : Code := { maxStack := 1, maxLocals := 1, code := prog_10_method_6_code, exceptionTable := #[], attributes := #[] }
def k6m0 : Method := { name := "namedByTitle", desc := "()Z", sig := { parameters := [], returnType := some .boolean }, accessFlags := 1, code := some k6c0 }
/-- com/example/clausewright/clausewright/Clause$Kind -/
def k6 : Class := { plain "com/example/clausewright/clausewright/Clause$Kind" (some 5) with
  accessFlags := 16433
  interfaces := #[]
  cf := some (fileOf pool6 1 #[.nestHost 155] #[{ accessFlags := 1, nameIndex := 70, descriptorIndex := 63, attributes := #[] }] 16433 38 #[] #[{ accessFlags := 16409, nameIndex := 5, descriptorIndex := 6, attributes := #[] }, { accessFlags := 16409, nameIndex := 9, descriptorIndex := 6, attributes := #[] }, { accessFlags := 16409, nameIndex := 12, descriptorIndex := 6, attributes := #[] }, { accessFlags := 16409, nameIndex := 15, descriptorIndex := 6, attributes := #[] }, { accessFlags := 16409, nameIndex := 18, descriptorIndex := 6, attributes := #[] }, { accessFlags := 16409, nameIndex := 21, descriptorIndex := 6, attributes := #[] }, { accessFlags := 16409, nameIndex := 24, descriptorIndex := 6, attributes := #[] }, { accessFlags := 16409, nameIndex := 27, descriptorIndex := 6, attributes := #[] }, { accessFlags := 18, nameIndex := 49, descriptorIndex := 50, attributes := #[] }, { accessFlags := 18, nameIndex := 53, descriptorIndex := 50, attributes := #[] }, { accessFlags := 18, nameIndex := 56, descriptorIndex := 50, attributes := #[] }, { accessFlags := 18, nameIndex := 59, descriptorIndex := 50, attributes := #[] }, { accessFlags := 4122, nameIndex := 30, descriptorIndex := 31, attributes := #[] }])
  fields := #[{ name := "PREAMBLE", type := (.object "com/example/clausewright/clausewright/Clause$Kind"), accessFlags := 16409, slot := 0, constantValue := 0 }, { name := "CONTENTS", type := (.object "com/example/clausewright/clausewright/Clause$Kind"), accessFlags := 16409, slot := 1, constantValue := 0 }, { name := "ARTICLE", type := (.object "com/example/clausewright/clausewright/Clause$Kind"), accessFlags := 16409, slot := 2, constantValue := 0 }, { name := "SECTION", type := (.object "com/example/clausewright/clausewright/Clause$Kind"), accessFlags := 16409, slot := 3, constantValue := 0 }, { name := "HEADING", type := (.object "com/example/clausewright/clausewright/Clause$Kind"), accessFlags := 16409, slot := 4, constantValue := 0 }, { name := "ITEM", type := (.object "com/example/clausewright/clausewright/Clause$Kind"), accessFlags := 16409, slot := 5, constantValue := 0 }, { name := "APPENDIX", type := (.object "com/example/clausewright/clausewright/Clause$Kind"), accessFlags := 16409, slot := 6, constantValue := 0 }, { name := "BULLETIN", type := (.object "com/example/clausewright/clausewright/Clause$Kind"), accessFlags := 16409, slot := 7, constantValue := 0 }, { name := "beforeLabel", type := (.object "java/lang/String"), accessFlags := 18, slot := 3, constantValue := 0 }, { name := "afterLabel", type := (.object "java/lang/String"), accessFlags := 18, slot := 4, constantValue := 0 }, { name := "noun", type := (.object "java/lang/String"), accessFlags := 18, slot := 5, constantValue := 0 }, { name := "plural", type := (.object "java/lang/String"), accessFlags := 18, slot := 6, constantValue := 0 }, { name := "$VALUES", type := (.array (.object "com/example/clausewright/clausewright/Clause$Kind")), accessFlags := 4122, slot := 8, constantValue := 0 }]
  methods := #[k6m0]
  instanceTypes := #[(.object "java/lang/String"), .int, .int, (.object "java/lang/String"), (.object "java/lang/String"), (.object "java/lang/String"), (.object "java/lang/String")]
  staticTypes := #[(.object "com/example/clausewright/clausewright/Clause$Kind"), (.object "com/example/clausewright/clausewright/Clause$Kind"), (.object "com/example/clausewright/clausewright/Clause$Kind"), (.object "com/example/clausewright/clausewright/Clause$Kind"), (.object "com/example/clausewright/clausewright/Clause$Kind"), (.object "com/example/clausewright/clausewright/Clause$Kind"), (.object "com/example/clausewright/clausewright/Clause$Kind"), (.object "com/example/clausewright/clausewright/Clause$Kind"), (.array (.object "com/example/clausewright/clausewright/Clause$Kind"))]
  resolved := Array.replicate 175 none
  statics := some 0 }

def pool7 : Array CpInfo := pool [(2, .class_ 4), (1, u "java/lang/CharSequence"), (42, .class_ 48), (0, u "java/lang/CharSequence$1CodePointIterator"), (10, .class_ 60), (0, u "java/lang/CharSequence$1CharIterator"), (5, .class_ 67), (0, u "java/lang/Object")] 63

/-- java/lang/CharSequence -/
def k7 : Class := { plain "java/lang/CharSequence" (some 0) with
  accessFlags := 1537
  interfaces := #[]
  cf := some (fileOf pool7 2 #[.nestMembers #[47, 59]] #[] 1537 66 #[] #[])
  fields := #[]
  methods := #[]
  instanceTypes := #[]
  staticTypes := #[]
  resolved := Array.replicate 131 none
  statics := none }

def pool8 : Array CpInfo := pool [(1, .class_ 2), (0, u "java/lang/constant/ConstantDesc"), (0, .class_ 4), (0, u "java/lang/Object")] 32

/-- java/lang/constant/ConstantDesc -/
def k8 : Class := { plain "java/lang/constant/ConstantDesc" (some 0) with
  accessFlags := 1537
  interfaces := #[]
  cf := some (fileOf pool8 1 #[] #[] 1537 3 #[] #[])
  fields := #[]
  methods := #[]
  instanceTypes := #[]
  staticTypes := #[]
  resolved := Array.replicate 37 none
  statics := none }

def pool9 : Array CpInfo := pool [(2, .class_ 4), (1, u "java/lang/Object"), (0, u "<init>"), (0, u "()V"), (3, .class_ 12), (1, u "java/lang/String"), (0, u "value"), (0, u "[B"), (2, u "coder"), (0, u "B"), (2, u "hash"), (0, u "I"), (2, u "hashIsZero"), (0, u "Z"), (13, u "COMPACT_STRINGS"), (534, .class_ 576), (0, u "java/lang/CharSequence"), (22, u "CASE_INSENSITIVE_ORDER"), (0, u "Ljava/util/Comparator;"), (500, u "serialPersistentFields"), (0, u "[Ljava/io/ObjectStreamField;"), (0, .class_ 1104), (0, u "java/lang/String$CaseInsensitiveComparator"), (1, .class_ 1107), (0, u "java/io/Serializable"), (0, .class_ 1109), (0, u "java/lang/Comparable"), (0, .class_ 1111), (0, u "java/lang/constant/Constable"), (0, .class_ 1113), (0, u "java/lang/constant/ConstantDesc"), (2, u "serialVersionUID"), (0, u "J"), (3, u "REPL"), (0, u "C"), (2, u "LATIN1"), (1, u "UTF16")] 323

def k9m0 : Method := { name := "<init>", desc := "()V", sig := { parameters := [], returnType := none }, accessFlags := 1, code := none }
/-- java/lang/String -/
def k9 : Class := { plain "java/lang/String" (some 0) with
  accessFlags := 49
  interfaces := #[4, 3, 7, 2, 8]
  cf := some (fileOf pool9 10 #[.nestMembers #[1103]] #[{ accessFlags := 1, nameIndex := 5, descriptorIndex := 6, attributes := #[] }] 49 2 #[1106, 1108, 575, 1110, 1112] #[{ accessFlags := 18, nameIndex := 13, descriptorIndex := 14, attributes := #[] }, { accessFlags := 18, nameIndex := 17, descriptorIndex := 18, attributes := #[] }, { accessFlags := 2, nameIndex := 21, descriptorIndex := 22, attributes := #[] }, { accessFlags := 2, nameIndex := 25, descriptorIndex := 26, attributes := #[] }, { accessFlags := 26, nameIndex := 1116, descriptorIndex := 1117, attributes := #[] }, { accessFlags := 24, nameIndex := 40, descriptorIndex := 26, attributes := #[] }, { accessFlags := 26, nameIndex := 1101, descriptorIndex := 1102, attributes := #[] }, { accessFlags := 26, nameIndex := 1121, descriptorIndex := 1122, attributes := #[] }, { accessFlags := 25, nameIndex := 599, descriptorIndex := 600, attributes := #[] }, { accessFlags := 24, nameIndex := 1125, descriptorIndex := 18, attributes := #[] }, { accessFlags := 24, nameIndex := 1127, descriptorIndex := 18, attributes := #[] }])
  fields := #[{ name := "value", type := (.array .byte), accessFlags := 18, slot := 0, constantValue := 0 }, { name := "coder", type := .byte, accessFlags := 18, slot := 1, constantValue := 0 }, { name := "hash", type := .int, accessFlags := 2, slot := 2, constantValue := 0 }, { name := "hashIsZero", type := .boolean, accessFlags := 2, slot := 3, constantValue := 0 }, { name := "serialVersionUID", type := .long, accessFlags := 26, slot := 0, constantValue := 0 }, { name := "COMPACT_STRINGS", type := .boolean, accessFlags := 24, slot := 1, constantValue := 0 }, { name := "serialPersistentFields", type := (.array (.object "java/io/ObjectStreamField")), accessFlags := 26, slot := 2, constantValue := 0 }, { name := "REPL", type := .char, accessFlags := 26, slot := 3, constantValue := 0 }, { name := "CASE_INSENSITIVE_ORDER", type := (.object "java/util/Comparator"), accessFlags := 25, slot := 4, constantValue := 0 }, { name := "LATIN1", type := .byte, accessFlags := 24, slot := 5, constantValue := 0 }, { name := "UTF16", type := .byte, accessFlags := 24, slot := 6, constantValue := 0 }]
  methods := #[k9m0]
  instanceTypes := #[(.array .byte), .byte, .int, .boolean]
  staticTypes := #[.long, .boolean, (.array (.object "java/io/ObjectStreamField")), .char, (.object "java/util/Comparator"), .byte, .byte]
  resolved := Array.replicate 1451 none
  statics := none }

def pool10 : Array CpInfo := pool [(1, u "java/lang/Cloneable"), (0, .class_ 1), (0, u "java/lang/Object"), (0, .class_ 3)] 3

/-- java/lang/Cloneable -/
def k10 : Class := { plain "java/lang/Cloneable" (some 0) with
  accessFlags := 1537
  interfaces := #[]
  cf := some (fileOf pool10 2 #[] #[] 1537 4 #[] #[])
  fields := #[]
  methods := #[]
  instanceTypes := #[]
  staticTypes := #[]
  resolved := Array.replicate 8 none
  statics := none }

/-- the primitive byte -/
def k11 : Class := { plain "byte" none with kind := .primitive 'B', accessFlags := 0x411 }
/-- [B -/
def k12 : Class := { plain "[B" (some 0) with kind := .array 11 .byte, interfaces := #[10, 4], accessFlags := 1041 }

/-- the primitive int -/
def k13 : Class := { plain "int" none with kind := .primitive 'I', accessFlags := 0x411 }
/-- [I -/
def k14 : Class := { plain "[I" (some 0) with kind := .array 13 .int, interfaces := #[10, 4], accessFlags := 1041 }

def heap : Heap := #[{ cls := 6, slots := #[.ref 1, .ref 11, .ref 9, .ref 3, .ref 13, .ref 14, .ref 5, .ref 7, .null], vm := .statics 6 },
  { cls := 6, slots := #[.null, .int 0, .int 0, .ref 2, .null, .null, .null], vm := .none },
  { cls := 9, slots := #[.null, .int 0, .int 0, .int 0], vm := .none },
  { cls := 6, slots := #[.null, .int 0, .int 0, .ref 4, .null, .null, .null], vm := .none },
  { cls := 9, slots := #[.null, .int 0, .int 0, .int 0], vm := .none },
  { cls := 6, slots := #[.null, .int 0, .int 0, .ref 6, .null, .null, .null], vm := .none },
  { cls := 9, slots := #[.null, .int 0, .int 0, .int 0], vm := .none },
  { cls := 6, slots := #[.null, .int 0, .int 0, .ref 8, .null, .null, .null], vm := .none },
  { cls := 9, slots := #[.null, .int 0, .int 0, .int 0], vm := .none },
  { cls := 6, slots := #[.null, .int 0, .int 0, .ref 10, .null, .null, .null], vm := .none },
  { cls := 9, slots := #[.null, .int 0, .int 0, .int 0], vm := .none },
  { cls := 6, slots := #[.null, .int 0, .int 0, .ref 12, .null, .null, .null], vm := .none },
  { cls := 9, slots := #[.null, .int 0, .int 0, .int 0], vm := .none },
  { cls := 6, slots := #[.null, .int 0, .int 0, .null, .null, .null, .null], vm := .none },
  { cls := 6, slots := #[.null, .int 0, .int 0, .ref 15, .null, .null, .null], vm := .none },
  { cls := 9, slots := #[.null, .int 0, .int 0, .int 0], vm := .none }]
def classes : Array Class := #[k0, k1, k2, k3, k4, k5, k6, k7, k8, k9, k10, k11, k12, k13, k14]
def interned : List (Array UInt16 × Addr) := []
def slotsUsed : Nat := 93
def theMethod : MethodId := ⟨1, 1⟩
def args0 : Array Value := #[.int 7]
def aboutOver (below : List Frame) : State where
  vm := { classes := classes, interned := interned.toArray }
  heap := heap
  slotsUsed := slotsUsed
  threads := #[{ frames := .invoking theMethod args0 :: below }]
def below0 : List Frame := [.native { method := ⟨0, 0⟩, args := #[] }]
def about1 : State := aboutOver below0
def p0 : Program := .bare "" "" ""
def e0 : Env := launch0.env 0 0 0
theorem w_frames : about1.frames = Frame.invoking theMethod args0 :: below0 := rfl
set_option maxRecDepth 65536 in
theorem w_args : argsFit about1.vm theMethod args0 = true := by decide +kernel
set_option maxRecDepth 65536 in
theorem w_heap : heapFits about1 = true := by decide +kernel
set_option maxRecDepth 65536 in
theorem w_runnable : about1.curStatus? = some .runnable := by decide +kernel
set_option maxRecDepth 65536 in
theorem w_alone : about1.alone = true := by decide +kernel
set_option maxRecDepth 65536 in
theorem w_named : about1.methodNamed? x = some theMethod := by decide +kernel
set_option maxRecDepth 65536 in
theorem w_hears : about1.hears theMethod below0 = true := by decide +kernel
set_option maxRecDepth 65536 in
theorem w_ripe : about1.ripe theMethod args0 below0 = true := by decide +kernel
theorem w_running : about1.status = .running := rfl
set_option maxRecDepth 65536 in
theorem w_room : about1.hasRoom e0.platform room_1 = true :=
  launch0.hasRoom_least _ room_1 (by decide +kernel) (by decide +kernel) (by decide +kernel) (by decide +kernel) (by decide +kernel) (by decide +kernel)
theorem allAtoms_all (ts : List Jvm.Cond) (a : Array Jvm.Value) (st : Jvm.State) : (allAtoms ts).before a st = ts.all (fun c => c.before a st) := by
  induction ts with
  | nil => rfl
  | cons c t ih =>
    show (Jvm.Cond.and c (allAtoms t)).before a st = _
    rw [Jvm.Cond.before_and, ih, List.all_cons]
def words1 : List Jvm.Cond := Jvm.Cond.code x code maxLocals ret :: tables_1
/-- a 'code' word, met by the world's own term for the bytes: nothing is compared byte by byte -/
theorem code_word {y : MethodName} {bytes : ByteArray} {mx : Nat} {rt : Option FieldType} {a : Array Value} {s : State} {m : MethodId} {meth : Method} {c : Code} (h1 : s.methodNamed? y = some m) (h2 : s.vm.method? m = some meth) (h3 : meth.code = some c) (h4 : c.code = bytes)
    (h5 : (c.maxLocals == mx && c.exceptionTable.isEmpty && decide (c.maxStack ≤ mostOperands) && decide (meth.sig.returnType = rt) && !meth.locks && decide (parseMethodDescriptor y.desc = some meth.sig)) = true) : (Jvm.Cond.code y bytes mx rt).before a s = true := by
  simp only [Bool.and_eq_true, beq_iff_eq, Bool.not_eq_true', decide_eq_true_eq] at h5
  obtain ⟨⟨⟨⟨⟨g1, g2⟩, g3⟩, g4⟩, g5⟩, g6⟩ := h5
  simp [Cond.before, Cond.holds, Cond.value, h1, h2, h3, h4, g1, g2, g3, g4, g5, g6]
def isCode : Jvm.Cond → Bool
  | .code _ _ _ _ => true
  | _ => false
theorem all_split {L : List Jvm.Cond} {P : Jvm.Cond → Bool} (h1 : L.all (fun c => isCode c || P c) = true) (h2 : ∀ c ∈ L.filter isCode, P c = true) : L.all P = true := by
  refine List.all_eq_true.mpr fun c hc => ?_
  have h := List.all_eq_true.mp h1 c hc
  rcases Bool.eq_false_or_eq_true (isCode c) with hi | hi
  · exact h2 c (List.mem_filter.mpr ⟨hc, hi⟩)
  · simpa [hi] using h
set_option maxRecDepth 65536 in
theorem w_c0 : (Jvm.Cond.code x code maxLocals ret).before args0 about1 = true := code_word (m := ⟨1, 1⟩) (meth := k1m1) (c := k1c1) (by decide +kernel) rfl rfl rfl (by decide +kernel)
set_option maxRecDepth 65536 in
theorem w_c1 : (Jvm.Cond.code ({ cls := "com/example/clausewright/clausewright/KindNamedByTitlePinLaw", name := "pick", desc := "(I)Lcom/example/clausewright/clausewright/Clause$Kind;" } : Jvm.MethodName) method_3_code (1 : Nat) (Option.some (Jvm.ClassFile.FieldType.object "com/example/clausewright/clausewright/Clause$Kind"))).before args0 about1 = true := code_word (m := ⟨1, 2⟩) (meth := k1m2) (c := k1c2) (by decide +kernel) rfl rfl rfl (by decide +kernel)
set_option maxRecDepth 65536 in
theorem w_c2 : (Jvm.Cond.code ({ cls := "com/example/clausewright/clausewright/Clause$Kind", name := "namedByTitle", desc := "()Z" } : Jvm.MethodName) prog_10_method_6_code (1 : Nat) (Option.some Jvm.ClassFile.FieldType.boolean)).before args0 about1 = true := code_word (m := ⟨6, 0⟩) (meth := k6m0) (c := k6c0) (by decide +kernel) rfl rfl rfl (by decide +kernel)
def codes1 : List Jvm.Cond := [Jvm.Cond.code x code maxLocals ret, Jvm.Cond.code ({ cls := "com/example/clausewright/clausewright/KindNamedByTitlePinLaw", name := "pick", desc := "(I)Lcom/example/clausewright/clausewright/Clause$Kind;" } : Jvm.MethodName) method_3_code (1 : Nat) (Option.some (Jvm.ClassFile.FieldType.object "com/example/clausewright/clausewright/Clause$Kind")), Jvm.Cond.code ({ cls := "com/example/clausewright/clausewright/Clause$Kind", name := "namedByTitle", desc := "()Z" } : Jvm.MethodName) prog_10_method_6_code (1 : Nat) (Option.some Jvm.ClassFile.FieldType.boolean)]
set_option maxRecDepth 65536 in
theorem codes_eq : words1.filter isCode = codes1 := rfl
theorem w_codes : ∀ c ∈ words1.filter isCode, c.before args0 about1 = true := by
  rw [codes_eq]
  intro c hc
  simp only [codes1, List.mem_cons, List.not_mem_nil, or_false] at hc
  rcases hc with rfl | rfl | rfl
  · exact w_c0
  · exact w_c1
  · exact w_c2
set_option maxRecDepth 65536 in
theorem w_t1 : (words1.take 24).all (fun c => isCode c || c.before args0 about1) = true := by decide +kernel
set_option maxRecDepth 65536 in
theorem w_t2 : (words1.drop 24).all (fun c => isCode c || c.before args0 about1) = true := by decide +kernel
theorem w_tables : (allAtoms (Jvm.Cond.code x code maxLocals ret :: tables_1)).before args0 about1 = true := by
  rw [allAtoms_all]
  show words1.all (fun c => c.before args0 about1) = true
  refine all_split ?_ w_codes
  rw [← List.take_append_drop 24 words1, List.all_append, w_t1, w_t2]
  rfl
set_option maxRecDepth 65536 in
theorem w_case : (Jvm.Cond.and given_1 narrow_1).before args0 about1 = true := by decide +kernel
theorem w_applies : (headSpec (Jvm.Cond.code x code maxLocals ret :: tables_1) room_1).applies x e0.platform about1 = true :=
  (Spec.applies_iff w_frames).mpr ⟨w_running, w_runnable, w_alone, w_named, w_hears, w_ripe, w_room, w_tables⟩
theorem atStart : AtStart classFile x code maxLocals ret World_1 tables_1 room_1 Calls_1 rest_1 Pre_1 launch0 p0 e0 about1 theMethod args0 below0 :=
  ⟨lists_1, trivial, launch0.admits_env _ _ _, launch0.least_env, fairChoices_fair.cas, fairChoices_fair.clock, w_frames, w_args, w_heap, w_applies, trivial, trivial, w_case⟩
end start1
theorem witness_1 : WitnessClaimed_1 := ⟨start1.p0, start1.e0, start1.about1, start1.theMethod, start1.args0, start1.below0, start1.atStart⟩
end Jvm.Pilot.@@N@@
