import JvmDerived
import JvmDerived.Pilot.@@N@@Statement
import JvmDerived.Pilot.@@N@@Code
set_option linter.unusedVariables false
set_option linter.unusedSimpArgs false
namespace Jvm.RoadKit
open Sem ClassFile Op Lib Jvm.Stand Jvm.Free Jvm.LawKit
section New
variable {p : Program} {l : Launch} {e : Env} {R : Room} {s : State} {m : MethodId} {args : Array Value} {below : List Frame} {meth : Method} {c : Code} {T : State} {locs : List Loc} {cells slots : Nat}
theorem retI (X : Stand p l e R s m args below meth c T locs cells slots) (hx : p.tables.exec = Jvm.exec) {pc : Nat} {Ls : Array Slot} {z : Int32} {rest : List Value} (hret : meth.sig.returnType = some .int) (hd : decode c.code pc = .ok (.ireturn, 1)) {fs : List Frame}
    (hl : ∀ (f : JFrame) (acts : List Action), f.method = m → f.locked = none → f.entered = [] → (doReturn e (T.setTop f) acts (some (.int z))).1 = T.setFrames fs) : Steps p.tables e below (T.setTop (mkF m pc Ls (.int z :: rest))) (T.setFrames fs) := by
  have hm' : T.vm.method? m = some meth := X.method'
  have hn : narrow .int (.int z) = .int z := rfl
  show Steps p.tables e below (T.setTop { method := m, pc := pc, locals := Ls, stack := _ :: rest, locked := none }) _
  jvm_step X.here [X.here.top, hx, hd, hm', hret, hn]
  first | (intro acts; rw [hl _ acts rfl rfl rfl]) | rw [hl _ _ rfl rfl rfl]
  exact Steps.refl _
end New
end Jvm.RoadKit
namespace Jvm.Pilot.@@N@@
open Jvm Jvm.ClassFile Sem Op Lib Jvm.Free Jvm.Stand Jvm.LawKit Jvm.RoadKit Bundle Jvm.Pilot.@@N@@.Jvm.D
/-- a body's contract: from these arguments and this heap it returns, and Q says what it leaves -/
abbrev OwCon (l : Launch) (y : MethodName) (bytes : ByteArray) (ml : Nat) (ret : Option FieldType) (ws : List Jvm.Cond) (rm : Room) (as : Array Value) (Z : State) (h0 : Heap) (Q : Option Value → Heap → List Loc → Prop) : Prop :=
  MetFree l y (head1 (Jvm.Cond.code y bytes ml ret :: ws) rm) (fun a U => a = as ∧ Z.Warmed39 U.vm ∧ U.heap = h0) (fun _ _ _ _ _ => True) (fun _ U o U' => ∃ v L, o = .returned v ∧ Q v U'.heap L ∧ FrameEnd U o U' L rm.cells rm.slots)
/-- .. it may load literals that nobody loaded before -/
abbrev OwConW (l : Launch) (y : MethodName) (bytes : ByteArray) (ml : Nat) (ret : Option FieldType) (ws : List Jvm.Cond) (rm : Room) (as : Array Value) (Z : State) (h0 : Heap) (Q : Option Value → Heap → List Loc → Prop) : Prop :=
  MetFree l y (head1 (Jvm.Cond.code y bytes ml ret :: ws) rm) (fun a U => a = as ∧ Z.Warmed39 U.vm ∧ U.heap = h0) (fun _ _ _ _ _ => True) (fun _ U o U' => ∃ v L, o = .returned v ∧ Q v U'.heap L ∧ ReturnedEndW U o U' L rm.cells rm.slots)
/-- it returns val and leaves the heap as it was -/
def OwQ (val : Option Value) (h0 : Heap) (n0 : Nat) (v : Option Value) (h : Heap) (L : List Loc) : Prop := v = val ∧ Fr n0 L ∧ h = h0
/-- it writes nothing old, and P holds of what it returns and leaves -/
def OwP (P : Option Value → Heap → Prop) (n0 : Nat) (v : Option Value) (h : Heap) (L : List Loc) : Prop := Fr n0 L ∧ P v h
theorem own_eqI {args : Array Value} {s : State} {t : Term} {k : Int32} (h : (Jvm.Cond.eq t (.int k)).value args s none s [] = some true) : t.eval args s none [] s = some (.int k) := by
  obtain ⟨x, y, h1, h2, -, q⟩ := cmp_v (Or.inl h)
  cases h2
  obtain ⟨z, rfl⟩ := q
  rw [h1]; simp [Cond.value, h1, Term.eval] at h; rw [h]
theorem own_eqJ {args : Array Value} {s : State} {t : Term} {k : Int64} (h : (Jvm.Cond.eq t (.long k)).value args s none s [] = some true) : t.eval args s none [] s = some (.long k) := by
  obtain ⟨x, y, h1, h2, -, q⟩ := cmp_v (Or.inl h)
  cases h2
  obtain ⟨z, rfl⟩ := q
  rw [h1]; simp [Cond.value, h1, Term.eval] at h; rw [h]
theorem own_eqR {args : Array Value} {s : State} {t t' : Term} {a : Addr} (h : (Jvm.Cond.eq t t').value args s none s [] = some true) (e : t'.eval args s none [] s = some (.ref a)) : t.eval args s none [] s = some (.ref a) := by
  obtain ⟨x, y, h1, h2, q, -⟩ := cmp_v (Or.inl h)
  cases e.symm.trans h2
  cases x with
  | null => simp [Cond.value, h1, h2] at h
  | ref b => simp [Cond.value, h1, h2] at h; rw [h1, h]
  | _ => simp [Kin, Value.isRef] at q
theorem own_cat {v : Value} (h : v.isRef = true) : v.category = 1 := by rcases ref_cases h with rfl | ⟨a, rfl⟩ <;> rfl
theorem own_len {args : Array Value} {s : State} {t : Term} {a : Addr} {cl : Cell} {ty : FieldType} {n : Int32} (e : t.eval args s none [] s = some (.ref a)) (A : Arr s s.heap a cl ty) (h : (Term.length t).eval args s none [] s = some (.int n)) : cl.slots.size < 2 ^ 31 ∧ cl.slots.size.toInt32 = n := by
  have q := Arr.fin (Vm.Alike.refl _) A
  simpa [Term.eval, e, q] using h
theorem own_el {args : Array Value} {s : State} {t : Term} {a : Addr} {cl : Cell} {ty : FieldType} {j : Int32} {v : Value} (e : t.eval args s none [] s = some (.ref a)) (A : Arr s s.heap a cl ty) (h : (Term.elem t (.int j)).eval args s none [] s = some v) : cl.slots[j.toNatClampNeg]? = some v := (elem_in h e rfl A.1).2
theorem own_fld {args : Array Value} {s : State} {t : Term} {a : Addr} {C n d : String} {v : Value} (e : t.eval args s none [] s = some (.ref a)) (h : (Term.field t C n d).eval args s none [] s = some v) : Fld s s.heap a C n d v := Fld.start ((fld_at e).symm.trans h)
theorem own_i5 (x : Int32) : (x &&& (2147483647 : Int32)) % (5 : Int32) = 0 ∨ (x &&& (2147483647 : Int32)) % (5 : Int32) = 1 ∨ (x &&& (2147483647 : Int32)) % (5 : Int32) = 2 ∨ (x &&& (2147483647 : Int32)) % (5 : Int32) = 3 ∨ (x &&& (2147483647 : Int32)) % (5 : Int32) = 4 := by
  have h1 := c_mask x (2147483647 : Int32) 31 (by decide) (by decide)
  have h2 := (c_irem (x &&& (2147483647 : Int32)) (5 : Int32) 5 (by decide)).1 (by omega)
  generalize (x &&& (2147483647 : Int32)) % (5 : Int32) = y at h2 ⊢
  simp only [← Int32.toInt_inj]
  show y.toInt = 0 ∨ y.toInt = 1 ∨ y.toInt = 2 ∨ y.toInt = 3 ∨ y.toInt = 4
  omega

theorem d1_0 : decode prog_22_method_7_code 0 = .ok (.aload_n 0, 1) := by decide +kernel
theorem d1_1 : decode prog_22_method_7_code 1 = .ok (.getstatic 10, 3) := by decide +kernel
theorem d1_4 : decode prog_22_method_7_code 4 = .ok (.if_acmp .eq 10, 3) := by decide +kernel
theorem d1_7 : decode prog_22_method_7_code 7 = .ok (.aload_n 0, 1) := by decide +kernel
theorem d1_8 : decode prog_22_method_7_code 8 = .ok (.getstatic 13, 3) := by decide +kernel
theorem d1_11 : decode prog_22_method_7_code 11 = .ok (.if_acmp .ne 7, 3) := by decide +kernel
theorem d1_14 : decode prog_22_method_7_code 14 = .ok (.iconst 1, 1) := by decide +kernel
theorem d1_15 : decode prog_22_method_7_code 15 = .ok (.goto 4, 3) := by decide +kernel
theorem d1_18 : decode prog_22_method_7_code 18 = .ok (.iconst 0, 1) := by decide +kernel
theorem d1_19 : decode prog_22_method_7_code 19 = .ok (.ireturn, 1) := by decide +kernel
theorem owpn1 : plainName "com/example/pathfix/pathfix/wordnet/SynsetType" = true := by first | (simp [plainName, overriddenIn]; done) | decide +kernel
theorem d2_0 : decode prog_22_method_5_code 0 = .ok (.aload_n 0, 1) := by decide +kernel
theorem d2_1 : decode prog_22_method_5_code 1 = .ok (.getfield 42, 3) := by decide +kernel
theorem d2_4 : decode prog_22_method_5_code 4 = .ok (.ireturn, 1) := by decide +kernel
theorem owpn2 : plainName "com/example/pathfix/pathfix/wordnet/SynsetType" = true := by first | (simp [plainName, overriddenIn]; done) | decide +kernel
theorem owpn0 : plainName "com/example/pathfix/pathfix/wordnet/SynsetTypeIsAdjectivePinLaw" = true := by first | (simp [plainName, overriddenIn]; done) | decide +kernel
theorem owpd0 : parseMethodDescriptor "()Z" = some ⟨[], some .boolean⟩ := by decide +kernel
theorem owpd1 : parseMethodDescriptor "()C" = some ⟨[], some .char⟩ := by decide +kernel
def OwW (Z : State) (w_NOUN : Addr) (w_ADJECTIVE : Addr) (w_ADJECTIVE_SATELLITE : Addr) (w_VERB : Addr) (w_ADVERB : Addr) : Prop := (Exa Z Z.heap w_NOUN "com/example/pathfix/pathfix/wordnet/SynsetType") ∧ (Exa Z Z.heap w_ADJECTIVE "com/example/pathfix/pathfix/wordnet/SynsetType") ∧ (Exa Z Z.heap w_ADJECTIVE_SATELLITE "com/example/pathfix/pathfix/wordnet/SynsetType") ∧ (Exa Z Z.heap w_VERB "com/example/pathfix/pathfix/wordnet/SynsetType") ∧ (Exa Z Z.heap w_ADVERB "com/example/pathfix/pathfix/wordnet/SynsetType") ∧ (Sta Z Z.heap "com/example/pathfix/pathfix/wordnet/SynsetType" "NOUN" "Lcom/example/pathfix/pathfix/wordnet/SynsetType;" (.ref w_NOUN)) ∧ (Sta Z Z.heap "com/example/pathfix/pathfix/wordnet/SynsetType" "ADJECTIVE" "Lcom/example/pathfix/pathfix/wordnet/SynsetType;" (.ref w_ADJECTIVE)) ∧ (Fld Z Z.heap w_NOUN "java/lang/Enum" "ordinal" "I" (.int (0 : Int32))) ∧ (Fld Z Z.heap w_ADJECTIVE "java/lang/Enum" "ordinal" "I" (.int (2 : Int32))) ∧ (Sta Z Z.heap "com/example/pathfix/pathfix/wordnet/SynsetType" "ADJECTIVE_SATELLITE" "Lcom/example/pathfix/pathfix/wordnet/SynsetType;" (.ref w_ADJECTIVE_SATELLITE)) ∧ (Fld Z Z.heap w_ADJECTIVE_SATELLITE "java/lang/Enum" "ordinal" "I" (.int (3 : Int32))) ∧ (Fld Z Z.heap w_NOUN "com/example/pathfix/pathfix/wordnet/SynsetType" "digit" "C" (.int (49 : Int32))) ∧ (Fld Z Z.heap w_ADJECTIVE_SATELLITE "com/example/pathfix/pathfix/wordnet/SynsetType" "digit" "C" (.int (51 : Int32))) ∧ (Sta Z Z.heap "com/example/pathfix/pathfix/wordnet/SynsetType" "VERB" "Lcom/example/pathfix/pathfix/wordnet/SynsetType;" (.ref w_VERB)) ∧ (Fld Z Z.heap w_VERB "java/lang/Enum" "ordinal" "I" (.int (1 : Int32))) ∧ (Fld Z Z.heap w_VERB "com/example/pathfix/pathfix/wordnet/SynsetType" "digit" "C" (.int (50 : Int32))) ∧ (Sta Z Z.heap "com/example/pathfix/pathfix/wordnet/SynsetType" "ADVERB" "Lcom/example/pathfix/pathfix/wordnet/SynsetType;" (.ref w_ADVERB)) ∧ (Fld Z Z.heap w_ADVERB "java/lang/Enum" "ordinal" "I" (.int (4 : Int32))) ∧ (Fld Z Z.heap w_ADVERB "com/example/pathfix/pathfix/wordnet/SynsetType" "digit" "C" (.int (52 : Int32))) ∧ (Fld Z Z.heap w_ADJECTIVE "com/example/pathfix/pathfix/wordnet/SynsetType" "digit" "C" (.int (51 : Int32))) ∧ (w_NOUN ≠ w_ADJECTIVE) ∧ (w_NOUN ≠ w_ADJECTIVE_SATELLITE) ∧ (w_VERB ≠ w_ADJECTIVE) ∧ (w_VERB ≠ w_ADJECTIVE_SATELLITE) ∧ (w_ADVERB ≠ w_ADJECTIVE) ∧ (w_ADVERB ≠ w_ADJECTIVE_SATELLITE) ∧ (w_ADJECTIVE_SATELLITE ≠ w_ADJECTIVE) ∧ True
set_option maxRecDepth 65536 in
set_option maxHeartbeats 40000000 in
theorem rm1_a (l : Launch) (Z : State) (a0 : Array Value) (hw : ∀ d ∈ tables_1, d.before a0 Z = true) (ws : List Jvm.Cond) (n0 : Nat) (h0 : Heap) (O : Old Z n0 h0) (w_NOUN : Addr) (w_ADJECTIVE : Addr) (w_ADJECTIVE_SATELLITE : Addr) (w_VERB : Addr) (w_ADVERB : Addr) (W : OwW Z w_NOUN w_ADJECTIVE w_ADJECTIVE_SATELLITE w_VERB w_ADVERB)  :
    OwCon l (⟨"com/example/pathfix/pathfix/wordnet/SynsetType", "isAdjective", "()Z"⟩ : MethodName) prog_22_method_7_code 1 (some .boolean) ws ({ frames := 0, cells := 0, slots := 0, locals := 0 } : Room) #[(.ref w_ADJECTIVE)] Z h0 (OwQ (some (.int (1 : Int32))) h0 n0) := by
  refine MetFree.of_bodySF (plainFor_of_name owpn1) hisR ?_
  intro p e s m args below meth c s₁ Bd hml0 hP hK
  obtain ⟨rfl, hZ, hh⟩ := hP
  have hx := Bd.exec
  have hby := Bd.bytes
  have hml : c.maxLocals = 1 := hml0
  have hown : s.vm.findClass "com/example/pathfix/pathfix/wordnet/SynsetType" = some m.cls := findClass_of_methodNamed Bd.named
  have hnm := (name_of_methodNamed Bd.named Bd.method).1
  have X0 : Stand p l e ({ frames := 0, cells := 0, slots := 0, locals := 0 } : Room) s m #[(.ref w_ADJECTIVE)] below meth c s₁ [] 0 0 := Stand.of_body Bd
  have e0 : s₁.heap = h0 := by rw [← hh, Bd.state]; rfl
  have N0 := Fr.nil n0
  have WW := W
  obtain ⟨E_w_NOUN, E_w_ADJECTIVE, E_w_ADJECTIVE_SATELLITE, E_w_VERB, E_w_ADVERB, S_SynsetType_NOUN, S_SynsetType_ADJECTIVE, F_w_NOUN_ordinal, F_w_ADJECTIVE_ordinal, S_SynsetType_ADJECTIVE_SATELLITE, F_w_ADJECTIVE_SATELLITE_ordinal, F_w_NOUN_digit, F_w_ADJECTIVE_SATELLITE_digit, S_SynsetType_VERB, F_w_VERB_ordinal, F_w_VERB_digit, S_SynsetType_ADVERB, F_w_ADVERB_ordinal, F_w_ADVERB_digit, F_w_ADJECTIVE_digit, ne_w_NOUN_w_ADJECTIVE, ne_w_NOUN_w_ADJECTIVE_SATELLITE, ne_w_VERB_w_ADJECTIVE, ne_w_VERB_w_ADJECTIVE_SATELLITE, ne_w_ADVERB_w_ADJECTIVE, ne_w_ADVERB_w_ADJECTIVE_SATELLITE, ne_w_ADJECTIVE_SATELLITE_w_ADJECTIVE, -⟩ := WW
  have ef : entryFrame m #[(.ref w_ADJECTIVE)] 1 = mkF m 0 #[.val (.ref w_ADJECTIVE)] [] := by first | rfl | (simp [entryFrame, mkF, argsToLocals, Value.category]; done)
  have pre0 : ∀ t, Steps p.tables e below (s₁.setTop (mkF m 0 #[.val (.ref w_ADJECTIVE)] [])) t → Steps p.tables e below (s₁.setTop (entryFrame m #[(.ref w_ADJECTIVE)] 1)) t := fun t k => castTop ef k
  obtain ⟨T1, X1, e1, st1⟩ := getS2 X0 hx hZ hown (host := "") (Or.inl (hw _ (List.mem_of_getElem? (i := 9) rfl))) Via.refl e0 (S_SynsetType_ADJECTIVE.ext O.2) (g := (mkF m 1 #[.val (.ref w_ADJECTIVE)] [(.ref w_ADJECTIVE)])) rfl (hb hby d1_1)
  obtain ⟨fs, hr, hrun, hended, hW, hsame⟩ := X1.leave (v := some (.int (1 : Int32))) (fun h => by rw [Bd.returns] at h; cases h)
  refine ⟨_, _, pre0 _ ?_, hrun, hended, _, _, rfl, ?_, ⟨_, rfl⟩, hW, hsame.mono (by decide) (by decide)⟩
  · show Steps p.tables e below (s₁.setTop (mkF m 0 #[.val (.ref w_ADJECTIVE)] [])) _
    refine XS.aloadN X0.here hx rfl (hb hby d1_0) rfl rfl ?_
    show Steps p.tables e below (s₁.setTop (mkF m 1 #[.val (.ref w_ADJECTIVE)] [(.ref w_ADJECTIVE)])) _
    refine st1 _ ?_
    show Steps p.tables e below (T1.setTop (mkF m 4 #[.val (.ref w_ADJECTIVE)] [(.ref w_ADJECTIVE), (.ref w_ADJECTIVE)])) _
    refine Jvm.RoadKit.acmp (g := (mkF m 4 #[.val (.ref w_ADJECTIVE)] [(.ref w_ADJECTIVE), (.ref w_ADJECTIVE)])) X1 hx rfl rfl rfl (pc0 := 4) (pc' := 14) (same := true) rfl (hb hby d1_4) rfl (decide_eq_true rfl) (by decide) (by decide) ?_
    show Steps p.tables e below (T1.setTop (mkF m 14 #[.val (.ref w_ADJECTIVE)] [])) _
    refine XS.iconst X1.here hx rfl (hb hby d1_14) ?_
    show Steps p.tables e below (T1.setTop (mkF m 15 #[.val (.ref w_ADJECTIVE)] [(.int (1 : Int32))])) _
    refine XS.goto X1.here hx rfl (pc0 := 15) (pc' := 19) rfl (hb hby d1_15) (by decide) (by decide) ?_
    show Steps p.tables e below (T1.setTop (mkF m 19 #[.val (.ref w_ADJECTIVE)] [(.int (1 : Int32))])) _
    exact retN X1 hx (t := .boolean) Bd.returns (by simp) (hb hby d1_19) hr
  · exact ⟨rfl, N0, e1⟩
set_option maxRecDepth 65536 in
set_option maxHeartbeats 40000000 in
theorem rm1_s (l : Launch) (Z : State) (a0 : Array Value) (hw : ∀ d ∈ tables_1, d.before a0 Z = true) (ws : List Jvm.Cond) (n0 : Nat) (h0 : Heap) (O : Old Z n0 h0) (w_NOUN : Addr) (w_ADJECTIVE : Addr) (w_ADJECTIVE_SATELLITE : Addr) (w_VERB : Addr) (w_ADVERB : Addr) (W : OwW Z w_NOUN w_ADJECTIVE w_ADJECTIVE_SATELLITE w_VERB w_ADVERB)  :
    OwCon l (⟨"com/example/pathfix/pathfix/wordnet/SynsetType", "isAdjective", "()Z"⟩ : MethodName) prog_22_method_7_code 1 (some .boolean) ws ({ frames := 0, cells := 0, slots := 0, locals := 0 } : Room) #[(.ref w_ADJECTIVE_SATELLITE)] Z h0 (OwQ (some (.int (1 : Int32))) h0 n0) := by
  refine MetFree.of_bodySF (plainFor_of_name owpn1) hisR ?_
  intro p e s m args below meth c s₁ Bd hml0 hP hK
  obtain ⟨rfl, hZ, hh⟩ := hP
  have hx := Bd.exec
  have hby := Bd.bytes
  have hml : c.maxLocals = 1 := hml0
  have hown : s.vm.findClass "com/example/pathfix/pathfix/wordnet/SynsetType" = some m.cls := findClass_of_methodNamed Bd.named
  have hnm := (name_of_methodNamed Bd.named Bd.method).1
  have X0 : Stand p l e ({ frames := 0, cells := 0, slots := 0, locals := 0 } : Room) s m #[(.ref w_ADJECTIVE_SATELLITE)] below meth c s₁ [] 0 0 := Stand.of_body Bd
  have e0 : s₁.heap = h0 := by rw [← hh, Bd.state]; rfl
  have N0 := Fr.nil n0
  have WW := W
  obtain ⟨E_w_NOUN, E_w_ADJECTIVE, E_w_ADJECTIVE_SATELLITE, E_w_VERB, E_w_ADVERB, S_SynsetType_NOUN, S_SynsetType_ADJECTIVE, F_w_NOUN_ordinal, F_w_ADJECTIVE_ordinal, S_SynsetType_ADJECTIVE_SATELLITE, F_w_ADJECTIVE_SATELLITE_ordinal, F_w_NOUN_digit, F_w_ADJECTIVE_SATELLITE_digit, S_SynsetType_VERB, F_w_VERB_ordinal, F_w_VERB_digit, S_SynsetType_ADVERB, F_w_ADVERB_ordinal, F_w_ADVERB_digit, F_w_ADJECTIVE_digit, ne_w_NOUN_w_ADJECTIVE, ne_w_NOUN_w_ADJECTIVE_SATELLITE, ne_w_VERB_w_ADJECTIVE, ne_w_VERB_w_ADJECTIVE_SATELLITE, ne_w_ADVERB_w_ADJECTIVE, ne_w_ADVERB_w_ADJECTIVE_SATELLITE, ne_w_ADJECTIVE_SATELLITE_w_ADJECTIVE, -⟩ := WW
  have ef : entryFrame m #[(.ref w_ADJECTIVE_SATELLITE)] 1 = mkF m 0 #[.val (.ref w_ADJECTIVE_SATELLITE)] [] := by first | rfl | (simp [entryFrame, mkF, argsToLocals, Value.category]; done)
  have pre0 : ∀ t, Steps p.tables e below (s₁.setTop (mkF m 0 #[.val (.ref w_ADJECTIVE_SATELLITE)] [])) t → Steps p.tables e below (s₁.setTop (entryFrame m #[(.ref w_ADJECTIVE_SATELLITE)] 1)) t := fun t k => castTop ef k
  obtain ⟨T1, X1, e1, st1⟩ := getS2 X0 hx hZ hown (host := "") (Or.inl (hw _ (List.mem_of_getElem? (i := 9) rfl))) Via.refl e0 (S_SynsetType_ADJECTIVE.ext O.2) (g := (mkF m 1 #[.val (.ref w_ADJECTIVE_SATELLITE)] [(.ref w_ADJECTIVE_SATELLITE)])) rfl (hb hby d1_1)
  obtain ⟨T2, X2, e2, st2⟩ := getS2 X1 hx hZ hown (host := "") (Or.inl (hw _ (List.mem_of_getElem? (i := 11) rfl))) Via.refl e1 (S_SynsetType_ADJECTIVE_SATELLITE.ext O.2) (g := (mkF m 8 #[.val (.ref w_ADJECTIVE_SATELLITE)] [(.ref w_ADJECTIVE_SATELLITE)])) rfl (hb hby d1_8)
  obtain ⟨fs, hr, hrun, hended, hW, hsame⟩ := X2.leave (v := some (.int (1 : Int32))) (fun h => by rw [Bd.returns] at h; cases h)
  refine ⟨_, _, pre0 _ ?_, hrun, hended, _, _, rfl, ?_, ⟨_, rfl⟩, hW, hsame.mono (by decide) (by decide)⟩
  · show Steps p.tables e below (s₁.setTop (mkF m 0 #[.val (.ref w_ADJECTIVE_SATELLITE)] [])) _
    refine XS.aloadN X0.here hx rfl (hb hby d1_0) rfl rfl ?_
    show Steps p.tables e below (s₁.setTop (mkF m 1 #[.val (.ref w_ADJECTIVE_SATELLITE)] [(.ref w_ADJECTIVE_SATELLITE)])) _
    refine st1 _ ?_
    show Steps p.tables e below (T1.setTop (mkF m 4 #[.val (.ref w_ADJECTIVE_SATELLITE)] [(.ref w_ADJECTIVE), (.ref w_ADJECTIVE_SATELLITE)])) _
    refine Jvm.RoadKit.acmp (g := (mkF m 4 #[.val (.ref w_ADJECTIVE_SATELLITE)] [(.ref w_ADJECTIVE), (.ref w_ADJECTIVE_SATELLITE)])) X1 hx rfl rfl rfl (pc0 := 4) (pc' := 7) (same := false) rfl (hb hby d1_4) rfl (decide_eq_false fun q => ne_w_ADJECTIVE_SATELLITE_w_ADJECTIVE (Value.ref.inj q)) (by decide) (by decide) ?_
    show Steps p.tables e below (T1.setTop (mkF m 7 #[.val (.ref w_ADJECTIVE_SATELLITE)] [])) _
    refine XS.aloadN X1.here hx rfl (hb hby d1_7) rfl rfl ?_
    show Steps p.tables e below (T1.setTop (mkF m 8 #[.val (.ref w_ADJECTIVE_SATELLITE)] [(.ref w_ADJECTIVE_SATELLITE)])) _
    refine st2 _ ?_
    show Steps p.tables e below (T2.setTop (mkF m 11 #[.val (.ref w_ADJECTIVE_SATELLITE)] [(.ref w_ADJECTIVE_SATELLITE), (.ref w_ADJECTIVE_SATELLITE)])) _
    refine Jvm.RoadKit.acmp (g := (mkF m 11 #[.val (.ref w_ADJECTIVE_SATELLITE)] [(.ref w_ADJECTIVE_SATELLITE), (.ref w_ADJECTIVE_SATELLITE)])) X2 hx rfl rfl rfl (pc0 := 11) (pc' := 14) (same := true) rfl (hb hby d1_11) rfl (decide_eq_true rfl) (by decide) (by decide) ?_
    show Steps p.tables e below (T2.setTop (mkF m 14 #[.val (.ref w_ADJECTIVE_SATELLITE)] [])) _
    refine XS.iconst X2.here hx rfl (hb hby d1_14) ?_
    show Steps p.tables e below (T2.setTop (mkF m 15 #[.val (.ref w_ADJECTIVE_SATELLITE)] [(.int (1 : Int32))])) _
    refine XS.goto X2.here hx rfl (pc0 := 15) (pc' := 19) rfl (hb hby d1_15) (by decide) (by decide) ?_
    show Steps p.tables e below (T2.setTop (mkF m 19 #[.val (.ref w_ADJECTIVE_SATELLITE)] [(.int (1 : Int32))])) _
    exact retN X2 hx (t := .boolean) Bd.returns (by simp) (hb hby d1_19) hr
  · exact ⟨rfl, N0, e2⟩
set_option maxRecDepth 65536 in
set_option maxHeartbeats 40000000 in
theorem rm1_o (l : Launch) (Z : State) (a0 : Array Value) (hw : ∀ d ∈ tables_1, d.before a0 Z = true) (ws : List Jvm.Cond) (n0 : Nat) (h0 : Heap) (O : Old Z n0 h0) (w_NOUN : Addr) (w_ADJECTIVE : Addr) (w_ADJECTIVE_SATELLITE : Addr) (w_VERB : Addr) (w_ADVERB : Addr) (W : OwW Z w_NOUN w_ADJECTIVE w_ADJECTIVE_SATELLITE w_VERB w_ADVERB) (a : Addr) (hn1 : a ≠ w_ADJECTIVE) (hn2 : a ≠ w_ADJECTIVE_SATELLITE) :
    OwCon l (⟨"com/example/pathfix/pathfix/wordnet/SynsetType", "isAdjective", "()Z"⟩ : MethodName) prog_22_method_7_code 1 (some .boolean) ws ({ frames := 0, cells := 0, slots := 0, locals := 0 } : Room) #[(.ref a)] Z h0 (OwQ (some (.int (0 : Int32))) h0 n0) := by
  refine MetFree.of_bodySF (plainFor_of_name owpn1) hisR ?_
  intro p e s m args below meth c s₁ Bd hml0 hP hK
  obtain ⟨rfl, hZ, hh⟩ := hP
  have hx := Bd.exec
  have hby := Bd.bytes
  have hml : c.maxLocals = 1 := hml0
  have hown : s.vm.findClass "com/example/pathfix/pathfix/wordnet/SynsetType" = some m.cls := findClass_of_methodNamed Bd.named
  have hnm := (name_of_methodNamed Bd.named Bd.method).1
  have X0 : Stand p l e ({ frames := 0, cells := 0, slots := 0, locals := 0 } : Room) s m #[(.ref a)] below meth c s₁ [] 0 0 := Stand.of_body Bd
  have e0 : s₁.heap = h0 := by rw [← hh, Bd.state]; rfl
  have N0 := Fr.nil n0
  have WW := W
  obtain ⟨E_w_NOUN, E_w_ADJECTIVE, E_w_ADJECTIVE_SATELLITE, E_w_VERB, E_w_ADVERB, S_SynsetType_NOUN, S_SynsetType_ADJECTIVE, F_w_NOUN_ordinal, F_w_ADJECTIVE_ordinal, S_SynsetType_ADJECTIVE_SATELLITE, F_w_ADJECTIVE_SATELLITE_ordinal, F_w_NOUN_digit, F_w_ADJECTIVE_SATELLITE_digit, S_SynsetType_VERB, F_w_VERB_ordinal, F_w_VERB_digit, S_SynsetType_ADVERB, F_w_ADVERB_ordinal, F_w_ADVERB_digit, F_w_ADJECTIVE_digit, ne_w_NOUN_w_ADJECTIVE, ne_w_NOUN_w_ADJECTIVE_SATELLITE, ne_w_VERB_w_ADJECTIVE, ne_w_VERB_w_ADJECTIVE_SATELLITE, ne_w_ADVERB_w_ADJECTIVE, ne_w_ADVERB_w_ADJECTIVE_SATELLITE, ne_w_ADJECTIVE_SATELLITE_w_ADJECTIVE, -⟩ := WW
  have ef : entryFrame m #[(.ref a)] 1 = mkF m 0 #[.val (.ref a)] [] := by first | rfl | (simp [entryFrame, mkF, argsToLocals, Value.category]; done)
  have pre0 : ∀ t, Steps p.tables e below (s₁.setTop (mkF m 0 #[.val (.ref a)] [])) t → Steps p.tables e below (s₁.setTop (entryFrame m #[(.ref a)] 1)) t := fun t k => castTop ef k
  obtain ⟨T1, X1, e1, st1⟩ := getS2 X0 hx hZ hown (host := "") (Or.inl (hw _ (List.mem_of_getElem? (i := 9) rfl))) Via.refl e0 (S_SynsetType_ADJECTIVE.ext O.2) (g := (mkF m 1 #[.val (.ref a)] [(.ref a)])) rfl (hb hby d1_1)
  obtain ⟨T2, X2, e2, st2⟩ := getS2 X1 hx hZ hown (host := "") (Or.inl (hw _ (List.mem_of_getElem? (i := 11) rfl))) Via.refl e1 (S_SynsetType_ADJECTIVE_SATELLITE.ext O.2) (g := (mkF m 8 #[.val (.ref a)] [(.ref a)])) rfl (hb hby d1_8)
  obtain ⟨fs, hr, hrun, hended, hW, hsame⟩ := X2.leave (v := some (.int (0 : Int32))) (fun h => by rw [Bd.returns] at h; cases h)
  refine ⟨_, _, pre0 _ ?_, hrun, hended, _, _, rfl, ?_, ⟨_, rfl⟩, hW, hsame.mono (by decide) (by decide)⟩
  · show Steps p.tables e below (s₁.setTop (mkF m 0 #[.val (.ref a)] [])) _
    refine XS.aloadN X0.here hx rfl (hb hby d1_0) rfl rfl ?_
    show Steps p.tables e below (s₁.setTop (mkF m 1 #[.val (.ref a)] [(.ref a)])) _
    refine st1 _ ?_
    show Steps p.tables e below (T1.setTop (mkF m 4 #[.val (.ref a)] [(.ref w_ADJECTIVE), (.ref a)])) _
    refine Jvm.RoadKit.acmp (g := (mkF m 4 #[.val (.ref a)] [(.ref w_ADJECTIVE), (.ref a)])) X1 hx rfl rfl rfl (pc0 := 4) (pc' := 7) (same := false) rfl (hb hby d1_4) rfl (decide_eq_false fun q => hn1 (Value.ref.inj q)) (by decide) (by decide) ?_
    show Steps p.tables e below (T1.setTop (mkF m 7 #[.val (.ref a)] [])) _
    refine XS.aloadN X1.here hx rfl (hb hby d1_7) rfl rfl ?_
    show Steps p.tables e below (T1.setTop (mkF m 8 #[.val (.ref a)] [(.ref a)])) _
    refine st2 _ ?_
    show Steps p.tables e below (T2.setTop (mkF m 11 #[.val (.ref a)] [(.ref w_ADJECTIVE_SATELLITE), (.ref a)])) _
    refine Jvm.RoadKit.acmp (g := (mkF m 11 #[.val (.ref a)] [(.ref w_ADJECTIVE_SATELLITE), (.ref a)])) X2 hx rfl rfl rfl (pc0 := 11) (pc' := 18) (same := false) rfl (hb hby d1_11) rfl (decide_eq_false fun q => hn2 (Value.ref.inj q)) (by decide) (by decide) ?_
    show Steps p.tables e below (T2.setTop (mkF m 18 #[.val (.ref a)] [])) _
    refine XS.iconst X2.here hx rfl (hb hby d1_18) ?_
    show Steps p.tables e below (T2.setTop (mkF m 19 #[.val (.ref a)] [(.int (0 : Int32))])) _
    exact retN X2 hx (t := .boolean) Bd.returns (by simp) (hb hby d1_19) hr
  · exact ⟨rfl, N0, e2⟩
set_option maxRecDepth 65536 in
set_option maxHeartbeats 40000000 in
theorem rm2_0 (l : Launch) (Z : State) (a0 : Array Value) (hw : ∀ d ∈ tables_1, d.before a0 Z = true) (ws : List Jvm.Cond) (n0 : Nat) (h0 : Heap) (O : Old Z n0 h0) (w_NOUN : Addr) (w_ADJECTIVE : Addr) (w_ADJECTIVE_SATELLITE : Addr) (w_VERB : Addr) (w_ADVERB : Addr) (W : OwW Z w_NOUN w_ADJECTIVE w_ADJECTIVE_SATELLITE w_VERB w_ADVERB)  :
    OwCon l (⟨"com/example/pathfix/pathfix/wordnet/SynsetType", "digit", "()C"⟩ : MethodName) prog_22_method_5_code 1 (some .char) ws ({ frames := 0, cells := 0, slots := 0, locals := 0 } : Room) #[(.ref w_NOUN)] Z h0 (OwQ (some (.int (49 : Int32))) h0 n0) := by
  refine MetFree.of_bodySF (plainFor_of_name owpn2) hisR ?_
  intro p e s m args below meth c s₁ Bd hml0 hP hK
  obtain ⟨rfl, hZ, hh⟩ := hP
  have hx := Bd.exec
  have hby := Bd.bytes
  have hml : c.maxLocals = 1 := hml0
  have hown : s.vm.findClass "com/example/pathfix/pathfix/wordnet/SynsetType" = some m.cls := findClass_of_methodNamed Bd.named
  have hnm := (name_of_methodNamed Bd.named Bd.method).1
  have X0 : Stand p l e ({ frames := 0, cells := 0, slots := 0, locals := 0 } : Room) s m #[(.ref w_NOUN)] below meth c s₁ [] 0 0 := Stand.of_body Bd
  have e0 : s₁.heap = h0 := by rw [← hh, Bd.state]; rfl
  have N0 := Fr.nil n0
  have WW := W
  obtain ⟨E_w_NOUN, E_w_ADJECTIVE, E_w_ADJECTIVE_SATELLITE, E_w_VERB, E_w_ADVERB, S_SynsetType_NOUN, S_SynsetType_ADJECTIVE, F_w_NOUN_ordinal, F_w_ADJECTIVE_ordinal, S_SynsetType_ADJECTIVE_SATELLITE, F_w_ADJECTIVE_SATELLITE_ordinal, F_w_NOUN_digit, F_w_ADJECTIVE_SATELLITE_digit, S_SynsetType_VERB, F_w_VERB_ordinal, F_w_VERB_digit, S_SynsetType_ADVERB, F_w_ADVERB_ordinal, F_w_ADVERB_digit, F_w_ADJECTIVE_digit, ne_w_NOUN_w_ADJECTIVE, ne_w_NOUN_w_ADJECTIVE_SATELLITE, ne_w_VERB_w_ADJECTIVE, ne_w_VERB_w_ADJECTIVE_SATELLITE, ne_w_ADVERB_w_ADJECTIVE, ne_w_ADVERB_w_ADJECTIVE_SATELLITE, ne_w_ADJECTIVE_SATELLITE_w_ADJECTIVE, -⟩ := WW
  have ef : entryFrame m #[(.ref w_NOUN)] 1 = mkF m 0 #[.val (.ref w_NOUN)] [] := by first | rfl | (simp [entryFrame, mkF, argsToLocals, Value.category]; done)
  have pre0 : ∀ t, Steps p.tables e below (s₁.setTop (mkF m 0 #[.val (.ref w_NOUN)] [])) t → Steps p.tables e below (s₁.setTop (entryFrame m #[(.ref w_NOUN)] 1)) t := fun t k => castTop ef k
  obtain ⟨T1, X1, e1, st1⟩ := getF X0 hx hZ hown (host := "") (Or.inl (hw _ (List.mem_of_getElem? (i := 18) rfl))) Via.refl e0 (F_w_NOUN_digit.ext O.2) (g := (mkF m 1 #[.val (.ref w_NOUN)] [(.ref w_NOUN)])) rfl rfl (hb hby d2_1)
  obtain ⟨fs, hr, hrun, hended, hW, hsame⟩ := X1.leave (v := some (.int (49 : Int32))) (fun h => by rw [Bd.returns] at h; cases h)
  refine ⟨_, _, pre0 _ ?_, hrun, hended, _, _, rfl, ?_, ⟨_, rfl⟩, hW, hsame.mono (by decide) (by decide)⟩
  · show Steps p.tables e below (s₁.setTop (mkF m 0 #[.val (.ref w_NOUN)] [])) _
    refine XS.aloadN X0.here hx rfl (hb hby d2_0) rfl rfl ?_
    show Steps p.tables e below (s₁.setTop (mkF m 1 #[.val (.ref w_NOUN)] [(.ref w_NOUN)])) _
    refine st1 _ ?_
    show Steps p.tables e below (T1.setTop (mkF m 4 #[.val (.ref w_NOUN)] [(.int (49 : Int32))])) _
    exact retN X1 hx (t := .char) Bd.returns (by simp) (hb hby d2_4) hr
  · exact ⟨rfl, N0, e1⟩
set_option maxRecDepth 65536 in
set_option maxHeartbeats 40000000 in
theorem rm0_0 (l : Launch) (Z : State) (a0 : Array Value) (hw : ∀ d ∈ tables_1, d.before a0 Z = true) (ws : List Jvm.Cond) (n0 : Nat) (h0 : Heap) (O : Old Z n0 h0) (w_NOUN : Addr) (w_ADJECTIVE : Addr) (w_ADJECTIVE_SATELLITE : Addr) (w_VERB : Addr) (w_ADVERB : Addr) (W : OwW Z w_NOUN w_ADJECTIVE w_ADJECTIVE_SATELLITE w_VERB w_ADVERB) (p0 : Int32) (hi : (p0 &&& (2147483647 : Int32)) % (5 : Int32) = (0 : Int32)) :
    OwCon l x code maxLocals ret ws room_1 #[(.int p0)] Z h0 (OwP (fun v _ => v = some (.int 1)) n0) := by
  refine MetFree.of_bodySF (plainFor_of_name owpn0) hisR ?_
  intro p e s m args below meth c s₁ Bd hml0 hP hK
  obtain ⟨rfl, hZ, hh⟩ := hP
  have hx := Bd.exec
  have hby := Bd.bytes
  have hml : c.maxLocals = 5 := hml0
  have hown : s.vm.findClass "com/example/pathfix/pathfix/wordnet/SynsetTypeIsAdjectivePinLaw" = some m.cls := findClass_of_methodNamed Bd.named
  have hnm := (name_of_methodNamed Bd.named Bd.method).1
  have X0 : Stand p l e room_1 s m #[(.int p0)] below meth c s₁ [] 0 0 := Stand.of_body Bd
  have e0 : s₁.heap = h0 := by rw [← hh, Bd.state]; rfl
  have N0 := Fr.nil n0
  have WW := W
  obtain ⟨E_w_NOUN, E_w_ADJECTIVE, E_w_ADJECTIVE_SATELLITE, E_w_VERB, E_w_ADVERB, S_SynsetType_NOUN, S_SynsetType_ADJECTIVE, F_w_NOUN_ordinal, F_w_ADJECTIVE_ordinal, S_SynsetType_ADJECTIVE_SATELLITE, F_w_ADJECTIVE_SATELLITE_ordinal, F_w_NOUN_digit, F_w_ADJECTIVE_SATELLITE_digit, S_SynsetType_VERB, F_w_VERB_ordinal, F_w_VERB_digit, S_SynsetType_ADVERB, F_w_ADVERB_ordinal, F_w_ADVERB_digit, F_w_ADJECTIVE_digit, ne_w_NOUN_w_ADJECTIVE, ne_w_NOUN_w_ADJECTIVE_SATELLITE, ne_w_VERB_w_ADJECTIVE, ne_w_VERB_w_ADJECTIVE_SATELLITE, ne_w_ADVERB_w_ADJECTIVE, ne_w_ADVERB_w_ADJECTIVE_SATELLITE, ne_w_ADJECTIVE_SATELLITE_w_ADJECTIVE, -⟩ := WW
  have ef : entryFrame m #[(.int p0)] maxLocals = mkF m 0 #[.val (.int p0), .unset, .unset, .unset, .unset] [] := by first | rfl | (simp [entryFrame, mkF, argsToLocals, Value.category, maxLocals]; done)
  have pre0 : ∀ t, Steps p.tables e below (s₁.setTop (mkF m 0 #[.val (.int p0), .unset, .unset, .unset, .unset] [])) t → Steps p.tables e below (s₁.setTop (entryFrame m #[(.int p0)] maxLocals)) t := fun t k => castTop ef k
  obtain ⟨T1, X1, e1, st1⟩ := getS2 X0 hx hZ hown (host := "") (Or.inl (hw _ (List.mem_of_getElem? (i := 1) rfl))) Via.refl e0 (S_SynsetType_NOUN.ext O.2) (g := (mkF m 11 #[.val (.int p0), .val (.int (0 : Int32)), .unset, .unset, .unset] [])) rfl (hb hby at_11)
  obtain ⟨cq2, kq2, q2a, q2b, q2c⟩ := isOf hZ e1 (E_w_NOUN.ext O.2)
  obtain ⟨_, _, ⟨T2, L2, k2, n2⟩, -, X2, ⟨Lc2, hQ2, l2, y2, z2⟩, st2⟩ := X1.virtualBack hx (y := (⟨"com/example/pathfix/pathfix/wordnet/SynsetType", "isAdjective", "()Z"⟩ : MethodName)) (z := (⟨"com/example/pathfix/pathfix/wordnet/SynsetType", "isAdjective", "()Z"⟩ : MethodName)) hown (mvT hZ (hw _ (List.mem_of_getElem? (i := 4) rfl))) (mvT hZ (hw _ (List.mem_of_getElem? (i := 5) rfl))) (notFace_of_selects (args := #[]) (mvT hZ (hw _ (List.mem_of_getElem? (i := 7) rfl)))) (mvT hZ (hw _ (List.mem_of_getElem? (i := 7) rfl))) (mvT hZ (hw _ (List.mem_of_getElem? (i := 6) rfl))) (by decide) (backOf (W := 0) (rm1_o l Z a0 hw [] n0 h0 O w_NOUN w_ADJECTIVE w_ADJECTIVE_SATELLITE w_VERB w_ADVERB W w_NOUN ne_w_NOUN_w_ADJECTIVE ne_w_NOUN_w_ADJECTIVE_SATELLITE) hZ (hw _ (List.mem_of_getElem? (i := 8) rfl)) (hw _ (List.mem_of_getElem? (i := 2) rfl)) (by decide) (by decide)) q2a q2c (g := (mkF m 59 #[.val (.int p0), .val (.int (0 : Int32)), .val (.ref w_NOUN), .unset, .unset] [(.ref w_NOUN)])) rfl (by rw [hml]; rfl) (Steps.refl _) (argsL := []) (rest := []) (lenOf owpd0 rfl) rfl (by show 2 * 0 + _ ≤ _; exact Nat.le_of_eq rfl) (hb hby at_59) (fun _ _ => ⟨rfl, e1, (by decide : 0 + 0 ≤ _), (by decide : 0 + 0 ≤ _)⟩)
  dsimp only [Pt.U, Pt.locs, Pt.cells, Pt.slots] at X2 l2 y2 z2 st2 hQ2
  subst l2 y2 z2
  obtain ⟨rfl, Nq2, e2⟩ := hQ2
  have N2 := Fr.app N0 Nq2
  obtain ⟨cq3, kq3, q3a, q3b, q3c⟩ := isOf hZ e2 (E_w_NOUN.ext O.2)
  obtain ⟨_, _, ⟨T3, L3, k3, n3⟩, -, X3, ⟨Lc3, hQ3, l3, y3, z3⟩, st3⟩ := X2.virtualBack hx (y := (⟨"com/example/pathfix/pathfix/wordnet/SynsetType", "digit", "()C"⟩ : MethodName)) (z := (⟨"com/example/pathfix/pathfix/wordnet/SynsetType", "digit", "()C"⟩ : MethodName)) hown (mvT hZ (hw _ (List.mem_of_getElem? (i := 13) rfl))) (mvT hZ (hw _ (List.mem_of_getElem? (i := 14) rfl))) (notFace_of_selects (args := #[]) (mvT hZ (hw _ (List.mem_of_getElem? (i := 16) rfl)))) (mvT hZ (hw _ (List.mem_of_getElem? (i := 16) rfl))) (mvT hZ (hw _ (List.mem_of_getElem? (i := 15) rfl))) (by decide) (backOf (W := 1) (rm2_0 l Z a0 hw [] n0 h0 O w_NOUN w_ADJECTIVE w_ADJECTIVE_SATELLITE w_VERB w_ADVERB W  ) hZ (hw _ (List.mem_of_getElem? (i := 17) rfl)) (hw _ (List.mem_of_getElem? (i := 2) rfl)) (by decide) (by decide)) q3a q3c (g := (mkF m 88 #[.val (.int p0), .val (.int (0 : Int32)), .val (.ref w_NOUN), .val (.int (0 : Int32)), .val (.int (0 : Int32))] [(.ref w_NOUN), (.int (0 : Int32))])) rfl (by rw [hml]; rfl) (Steps.refl _) (argsL := []) (rest := [(.int (0 : Int32))]) (lenOf owpd1 rfl) rfl (by show 2 * 0 + _ ≤ _; exact Nat.le_of_eq rfl) (hb hby at_88) (fun _ _ => ⟨rfl, e2, (by decide : 0 + 0 ≤ _), (by decide : 0 + 0 ≤ _)⟩)
  dsimp only [Pt.U, Pt.locs, Pt.cells, Pt.slots] at X3 l3 y3 z3 st3 hQ3
  subst l3 y3 z3
  obtain ⟨rfl, Nq3, e3⟩ := hQ3
  have N3 := Fr.app N2 Nq3
  obtain ⟨fs, hr, hrun, hended, hW, hsame⟩ := X3.leave (v := some (.int (1 : Int32))) (fun h => by rw [Bd.returns] at h; cases h)
  refine ⟨_, _, pre0 _ ?_, hrun, hended, _, _, rfl, ?_, ⟨_, rfl⟩, hW, hsame.mono (by decide) (by decide)⟩
  · show Steps p.tables e below (s₁.setTop (mkF m 0 #[.val (.int p0), .unset, .unset, .unset, .unset] [])) _
    refine XS.iloadN X0.here hx rfl (hb hby at_0) rfl ?_
    show Steps p.tables e below (s₁.setTop (mkF m 1 #[.val (.int p0), .unset, .unset, .unset, .unset] [(.int p0)])) _
    refine X0.ldcInt hx hown (mvT hZ (hw _ (List.mem_of_getElem? (i := 0) rfl))) (g := (mkF m 1 #[.val (.int p0), .unset, .unset, .unset, .unset] [(.int p0)])) rfl (hb hby at_1) _ ?_
    show Steps p.tables e below (s₁.setTop (mkF m 3 #[.val (.int p0), .unset, .unset, .unset, .unset] [(.int (2147483647 : Int32)), (.int p0)])) _
    refine XS.iand X0.here hx rfl (hb hby at_3) rfl ?_
    show Steps p.tables e below (s₁.setTop (mkF m 4 #[.val (.int p0), .unset, .unset, .unset, .unset] [(.int (p0 &&& (2147483647 : Int32)))])) _
    refine XS.iconst X0.here hx rfl (hb hby at_4) ?_
    show Steps p.tables e below (s₁.setTop (mkF m 5 #[.val (.int p0), .unset, .unset, .unset, .unset] [(.int (5 : Int32)), (.int (p0 &&& (2147483647 : Int32)))])) _
    refine iremM X0 hx rfl (hb hby at_5) rfl (by decide) ?_
    show Steps p.tables e below (s₁.setTop (mkF m 6 #[.val (.int p0), .unset, .unset, .unset, .unset] [(.int ((p0 &&& (2147483647 : Int32)) % (5 : Int32)))])) _
    rw [hi]
    show Steps p.tables e below (s₁.setTop (mkF m 6 #[.val (.int p0), .unset, .unset, .unset, .unset] [(.int (0 : Int32))])) _
    refine XS.istoreN X0.here hx rfl (hb hby at_6) rfl (l' := #[.val (.int p0), .val (.int (0 : Int32)), .unset, .unset, .unset]) rfl ?_
    show Steps p.tables e below (s₁.setTop (mkF m 7 #[.val (.int p0), .val (.int (0 : Int32)), .unset, .unset, .unset] [])) _
    refine XS.iloadN X0.here hx rfl (hb hby at_7) rfl ?_
    show Steps p.tables e below (s₁.setTop (mkF m 8 #[.val (.int p0), .val (.int (0 : Int32)), .unset, .unset, .unset] [(.int (0 : Int32))])) _
    refine XS.ifNo X0.here hx rfl (hb hby at_8) rfl ((if0 _ _).trans (teq (by decide : (0 : Int32) = (0 : Int32))).2) ?_
    show Steps p.tables e below (s₁.setTop (mkF m 11 #[.val (.int p0), .val (.int (0 : Int32)), .unset, .unset, .unset] [])) _
    refine st1 _ ?_
    show Steps p.tables e below (T1.setTop (mkF m 14 #[.val (.int p0), .val (.int (0 : Int32)), .unset, .unset, .unset] [(.ref w_NOUN)])) _
    refine XS.astoreN X1.here hx rfl (hb hby at_14) rfl rfl (l' := #[.val (.int p0), .val (.int (0 : Int32)), .val (.ref w_NOUN), .unset, .unset]) rfl ?_
    show Steps p.tables e below (T1.setTop (mkF m 15 #[.val (.int p0), .val (.int (0 : Int32)), .val (.ref w_NOUN), .unset, .unset] [])) _
    refine XS.goto X1.here hx rfl (pc0 := 15) (pc' := 58) rfl (hb hby at_15) (by decide) (by decide) ?_
    show Steps p.tables e below (T1.setTop (mkF m 58 #[.val (.int p0), .val (.int (0 : Int32)), .val (.ref w_NOUN), .unset, .unset] [])) _
    refine XS.aloadN X1.here hx rfl (hb hby at_58) rfl rfl ?_
    show Steps p.tables e below (T1.setTop (mkF m 59 #[.val (.int p0), .val (.int (0 : Int32)), .val (.ref w_NOUN), .unset, .unset] [(.ref w_NOUN)])) _
    refine st2.trans ?_
    show Steps p.tables e below (T2.setTop (mkF m 62 #[.val (.int p0), .val (.int (0 : Int32)), .val (.ref w_NOUN), .unset, .unset] [(.int (0 : Int32))])) _
    refine XS.istoreN X2.here hx rfl (hb hby at_62) rfl (l' := #[.val (.int p0), .val (.int (0 : Int32)), .val (.ref w_NOUN), .val (.int (0 : Int32)), .unset]) rfl ?_
    show Steps p.tables e below (T2.setTop (mkF m 63 #[.val (.int p0), .val (.int (0 : Int32)), .val (.ref w_NOUN), .val (.int (0 : Int32)), .unset] [])) _
    refine XS.iloadN X2.here hx rfl (hb hby at_63) rfl ?_
    show Steps p.tables e below (T2.setTop (mkF m 64 #[.val (.int p0), .val (.int (0 : Int32)), .val (.ref w_NOUN), .val (.int (0 : Int32)), .unset] [(.int (0 : Int32))])) _
    refine XS.iconst X2.here hx rfl (hb hby at_64) ?_
    show Steps p.tables e below (T2.setTop (mkF m 65 #[.val (.int p0), .val (.int (0 : Int32)), .val (.ref w_NOUN), .val (.int (0 : Int32)), .unset] [(.int (2 : Int32)), (.int (0 : Int32))])) _
    refine XS.icmpNo X2.here hx rfl (hb hby at_65) rfl (feq (by decide : ¬ ((0 : Int32) = (2 : Int32)))).1 ?_
    show Steps p.tables e below (T2.setTop (mkF m 68 #[.val (.int p0), .val (.int (0 : Int32)), .val (.ref w_NOUN), .val (.int (0 : Int32)), .unset] [])) _
    refine XS.iloadN X2.here hx rfl (hb hby at_68) rfl ?_
    show Steps p.tables e below (T2.setTop (mkF m 69 #[.val (.int p0), .val (.int (0 : Int32)), .val (.ref w_NOUN), .val (.int (0 : Int32)), .unset] [(.int (0 : Int32))])) _
    refine XS.iconst X2.here hx rfl (hb hby at_69) ?_
    show Steps p.tables e below (T2.setTop (mkF m 70 #[.val (.int p0), .val (.int (0 : Int32)), .val (.ref w_NOUN), .val (.int (0 : Int32)), .unset] [(.int (3 : Int32)), (.int (0 : Int32))])) _
    refine XS.icmpYes X2.here hx rfl (pc0 := 70) (pc' := 77) rfl (hb hby at_70) rfl (feq (by decide : ¬ ((0 : Int32) = (3 : Int32)))).2 (by decide) (by decide) ?_
    show Steps p.tables e below (T2.setTop (mkF m 77 #[.val (.int p0), .val (.int (0 : Int32)), .val (.ref w_NOUN), .val (.int (0 : Int32)), .unset] [])) _
    refine XS.iconst X2.here hx rfl (hb hby at_77) ?_
    show Steps p.tables e below (T2.setTop (mkF m 78 #[.val (.int p0), .val (.int (0 : Int32)), .val (.ref w_NOUN), .val (.int (0 : Int32)), .unset] [(.int (0 : Int32))])) _
    refine XS.istore X2.here hx rfl (hb hby at_78) rfl (l' := #[.val (.int p0), .val (.int (0 : Int32)), .val (.ref w_NOUN), .val (.int (0 : Int32)), .val (.int (0 : Int32))]) rfl ?_
    show Steps p.tables e below (T2.setTop (mkF m 80 #[.val (.int p0), .val (.int (0 : Int32)), .val (.ref w_NOUN), .val (.int (0 : Int32)), .val (.int (0 : Int32))] [])) _
    refine XS.iloadN X2.here hx rfl (hb hby at_80) rfl ?_
    show Steps p.tables e below (T2.setTop (mkF m 81 #[.val (.int p0), .val (.int (0 : Int32)), .val (.ref w_NOUN), .val (.int (0 : Int32)), .val (.int (0 : Int32))] [(.int (0 : Int32))])) _
    refine XS.iload X2.here hx rfl (hb hby at_81) rfl ?_
    show Steps p.tables e below (T2.setTop (mkF m 83 #[.val (.int p0), .val (.int (0 : Int32)), .val (.ref w_NOUN), .val (.int (0 : Int32)), .val (.int (0 : Int32))] [(.int (0 : Int32)), (.int (0 : Int32))])) _
    refine XS.icmpNo X2.here hx rfl (hb hby at_83) rfl (teq (by decide : (0 : Int32) = (0 : Int32))).2 ?_
    show Steps p.tables e below (T2.setTop (mkF m 86 #[.val (.int p0), .val (.int (0 : Int32)), .val (.ref w_NOUN), .val (.int (0 : Int32)), .val (.int (0 : Int32))] [])) _
    refine XS.iloadN X2.here hx rfl (hb hby at_86) rfl ?_
    show Steps p.tables e below (T2.setTop (mkF m 87 #[.val (.int p0), .val (.int (0 : Int32)), .val (.ref w_NOUN), .val (.int (0 : Int32)), .val (.int (0 : Int32))] [(.int (0 : Int32))])) _
    refine XS.aloadN X2.here hx rfl (hb hby at_87) rfl rfl ?_
    show Steps p.tables e below (T2.setTop (mkF m 88 #[.val (.int p0), .val (.int (0 : Int32)), .val (.ref w_NOUN), .val (.int (0 : Int32)), .val (.int (0 : Int32))] [(.ref w_NOUN), (.int (0 : Int32))])) _
    refine st3.trans ?_
    show Steps p.tables e below (T3.setTop (mkF m 91 #[.val (.int p0), .val (.int (0 : Int32)), .val (.ref w_NOUN), .val (.int (0 : Int32)), .val (.int (0 : Int32))] [(.int (49 : Int32)), (.int (0 : Int32))])) _
    refine XS.bipush X3.here hx rfl (hb hby at_91) ?_
    show Steps p.tables e below (T3.setTop (mkF m 93 #[.val (.int p0), .val (.int (0 : Int32)), .val (.ref w_NOUN), .val (.int (0 : Int32)), .val (.int (0 : Int32))] [(.int (51 : Int32)), (.int (49 : Int32)), (.int (0 : Int32))])) _
    refine XS.icmpYes X3.here hx rfl (pc0 := 93) (pc' := 100) rfl (hb hby at_93) rfl (feq (by decide : ¬ ((49 : Int32) = (51 : Int32)))).2 (by decide) (by decide) ?_
    show Steps p.tables e below (T3.setTop (mkF m 100 #[.val (.int p0), .val (.int (0 : Int32)), .val (.ref w_NOUN), .val (.int (0 : Int32)), .val (.int (0 : Int32))] [(.int (0 : Int32))])) _
    refine XS.iconst X3.here hx rfl (hb hby at_100) ?_
    show Steps p.tables e below (T3.setTop (mkF m 101 #[.val (.int p0), .val (.int (0 : Int32)), .val (.ref w_NOUN), .val (.int (0 : Int32)), .val (.int (0 : Int32))] [(.int (0 : Int32)), (.int (0 : Int32))])) _
    refine XS.icmpNo X3.here hx rfl (hb hby at_101) rfl (teq (by decide : (0 : Int32) = (0 : Int32))).2 ?_
    show Steps p.tables e below (T3.setTop (mkF m 104 #[.val (.int p0), .val (.int (0 : Int32)), .val (.ref w_NOUN), .val (.int (0 : Int32)), .val (.int (0 : Int32))] [])) _
    refine XS.iconst X3.here hx rfl (hb hby at_104) ?_
    show Steps p.tables e below (T3.setTop (mkF m 105 #[.val (.int p0), .val (.int (0 : Int32)), .val (.ref w_NOUN), .val (.int (0 : Int32)), .val (.int (0 : Int32))] [(.int (1 : Int32))])) _
    refine XS.goto X3.here hx rfl (pc0 := 105) (pc' := 109) rfl (hb hby at_105) (by decide) (by decide) ?_
    show Steps p.tables e below (T3.setTop (mkF m 109 #[.val (.int p0), .val (.int (0 : Int32)), .val (.ref w_NOUN), .val (.int (0 : Int32)), .val (.int (0 : Int32))] [(.int (1 : Int32))])) _
    exact retN X3 hx (t := .boolean) Bd.returns (by simp) (hb hby at_109) hr
  · exact ⟨N3, rfl⟩
set_option maxRecDepth 65536 in
set_option maxHeartbeats 40000000 in
theorem rm2_1 (l : Launch) (Z : State) (a0 : Array Value) (hw : ∀ d ∈ tables_1, d.before a0 Z = true) (ws : List Jvm.Cond) (n0 : Nat) (h0 : Heap) (O : Old Z n0 h0) (w_NOUN : Addr) (w_ADJECTIVE : Addr) (w_ADJECTIVE_SATELLITE : Addr) (w_VERB : Addr) (w_ADVERB : Addr) (W : OwW Z w_NOUN w_ADJECTIVE w_ADJECTIVE_SATELLITE w_VERB w_ADVERB)  :
    OwCon l (⟨"com/example/pathfix/pathfix/wordnet/SynsetType", "digit", "()C"⟩ : MethodName) prog_22_method_5_code 1 (some .char) ws ({ frames := 0, cells := 0, slots := 0, locals := 0 } : Room) #[(.ref w_VERB)] Z h0 (OwQ (some (.int (50 : Int32))) h0 n0) := by
  refine MetFree.of_bodySF (plainFor_of_name owpn2) hisR ?_
  intro p e s m args below meth c s₁ Bd hml0 hP hK
  obtain ⟨rfl, hZ, hh⟩ := hP
  have hx := Bd.exec
  have hby := Bd.bytes
  have hml : c.maxLocals = 1 := hml0
  have hown : s.vm.findClass "com/example/pathfix/pathfix/wordnet/SynsetType" = some m.cls := findClass_of_methodNamed Bd.named
  have hnm := (name_of_methodNamed Bd.named Bd.method).1
  have X0 : Stand p l e ({ frames := 0, cells := 0, slots := 0, locals := 0 } : Room) s m #[(.ref w_VERB)] below meth c s₁ [] 0 0 := Stand.of_body Bd
  have e0 : s₁.heap = h0 := by rw [← hh, Bd.state]; rfl
  have N0 := Fr.nil n0
  have WW := W
  obtain ⟨E_w_NOUN, E_w_ADJECTIVE, E_w_ADJECTIVE_SATELLITE, E_w_VERB, E_w_ADVERB, S_SynsetType_NOUN, S_SynsetType_ADJECTIVE, F_w_NOUN_ordinal, F_w_ADJECTIVE_ordinal, S_SynsetType_ADJECTIVE_SATELLITE, F_w_ADJECTIVE_SATELLITE_ordinal, F_w_NOUN_digit, F_w_ADJECTIVE_SATELLITE_digit, S_SynsetType_VERB, F_w_VERB_ordinal, F_w_VERB_digit, S_SynsetType_ADVERB, F_w_ADVERB_ordinal, F_w_ADVERB_digit, F_w_ADJECTIVE_digit, ne_w_NOUN_w_ADJECTIVE, ne_w_NOUN_w_ADJECTIVE_SATELLITE, ne_w_VERB_w_ADJECTIVE, ne_w_VERB_w_ADJECTIVE_SATELLITE, ne_w_ADVERB_w_ADJECTIVE, ne_w_ADVERB_w_ADJECTIVE_SATELLITE, ne_w_ADJECTIVE_SATELLITE_w_ADJECTIVE, -⟩ := WW
  have ef : entryFrame m #[(.ref w_VERB)] 1 = mkF m 0 #[.val (.ref w_VERB)] [] := by first | rfl | (simp [entryFrame, mkF, argsToLocals, Value.category]; done)
  have pre0 : ∀ t, Steps p.tables e below (s₁.setTop (mkF m 0 #[.val (.ref w_VERB)] [])) t → Steps p.tables e below (s₁.setTop (entryFrame m #[(.ref w_VERB)] 1)) t := fun t k => castTop ef k
  obtain ⟨T1, X1, e1, st1⟩ := getF X0 hx hZ hown (host := "") (Or.inl (hw _ (List.mem_of_getElem? (i := 18) rfl))) Via.refl e0 (F_w_VERB_digit.ext O.2) (g := (mkF m 1 #[.val (.ref w_VERB)] [(.ref w_VERB)])) rfl rfl (hb hby d2_1)
  obtain ⟨fs, hr, hrun, hended, hW, hsame⟩ := X1.leave (v := some (.int (50 : Int32))) (fun h => by rw [Bd.returns] at h; cases h)
  refine ⟨_, _, pre0 _ ?_, hrun, hended, _, _, rfl, ?_, ⟨_, rfl⟩, hW, hsame.mono (by decide) (by decide)⟩
  · show Steps p.tables e below (s₁.setTop (mkF m 0 #[.val (.ref w_VERB)] [])) _
    refine XS.aloadN X0.here hx rfl (hb hby d2_0) rfl rfl ?_
    show Steps p.tables e below (s₁.setTop (mkF m 1 #[.val (.ref w_VERB)] [(.ref w_VERB)])) _
    refine st1 _ ?_
    show Steps p.tables e below (T1.setTop (mkF m 4 #[.val (.ref w_VERB)] [(.int (50 : Int32))])) _
    exact retN X1 hx (t := .char) Bd.returns (by simp) (hb hby d2_4) hr
  · exact ⟨rfl, N0, e1⟩
set_option maxRecDepth 65536 in
set_option maxHeartbeats 40000000 in
theorem rm0_1 (l : Launch) (Z : State) (a0 : Array Value) (hw : ∀ d ∈ tables_1, d.before a0 Z = true) (ws : List Jvm.Cond) (n0 : Nat) (h0 : Heap) (O : Old Z n0 h0) (w_NOUN : Addr) (w_ADJECTIVE : Addr) (w_ADJECTIVE_SATELLITE : Addr) (w_VERB : Addr) (w_ADVERB : Addr) (W : OwW Z w_NOUN w_ADJECTIVE w_ADJECTIVE_SATELLITE w_VERB w_ADVERB) (p0 : Int32) (hi : (p0 &&& (2147483647 : Int32)) % (5 : Int32) = (1 : Int32)) :
    OwCon l x code maxLocals ret ws room_1 #[(.int p0)] Z h0 (OwP (fun v _ => v = some (.int 1)) n0) := by
  refine MetFree.of_bodySF (plainFor_of_name owpn0) hisR ?_
  intro p e s m args below meth c s₁ Bd hml0 hP hK
  obtain ⟨rfl, hZ, hh⟩ := hP
  have hx := Bd.exec
  have hby := Bd.bytes
  have hml : c.maxLocals = 5 := hml0
  have hown : s.vm.findClass "com/example/pathfix/pathfix/wordnet/SynsetTypeIsAdjectivePinLaw" = some m.cls := findClass_of_methodNamed Bd.named
  have hnm := (name_of_methodNamed Bd.named Bd.method).1
  have X0 : Stand p l e room_1 s m #[(.int p0)] below meth c s₁ [] 0 0 := Stand.of_body Bd
  have e0 : s₁.heap = h0 := by rw [← hh, Bd.state]; rfl
  have N0 := Fr.nil n0
  have WW := W
  obtain ⟨E_w_NOUN, E_w_ADJECTIVE, E_w_ADJECTIVE_SATELLITE, E_w_VERB, E_w_ADVERB, S_SynsetType_NOUN, S_SynsetType_ADJECTIVE, F_w_NOUN_ordinal, F_w_ADJECTIVE_ordinal, S_SynsetType_ADJECTIVE_SATELLITE, F_w_ADJECTIVE_SATELLITE_ordinal, F_w_NOUN_digit, F_w_ADJECTIVE_SATELLITE_digit, S_SynsetType_VERB, F_w_VERB_ordinal, F_w_VERB_digit, S_SynsetType_ADVERB, F_w_ADVERB_ordinal, F_w_ADVERB_digit, F_w_ADJECTIVE_digit, ne_w_NOUN_w_ADJECTIVE, ne_w_NOUN_w_ADJECTIVE_SATELLITE, ne_w_VERB_w_ADJECTIVE, ne_w_VERB_w_ADJECTIVE_SATELLITE, ne_w_ADVERB_w_ADJECTIVE, ne_w_ADVERB_w_ADJECTIVE_SATELLITE, ne_w_ADJECTIVE_SATELLITE_w_ADJECTIVE, -⟩ := WW
  have ef : entryFrame m #[(.int p0)] maxLocals = mkF m 0 #[.val (.int p0), .unset, .unset, .unset, .unset] [] := by first | rfl | (simp [entryFrame, mkF, argsToLocals, Value.category, maxLocals]; done)
  have pre0 : ∀ t, Steps p.tables e below (s₁.setTop (mkF m 0 #[.val (.int p0), .unset, .unset, .unset, .unset] [])) t → Steps p.tables e below (s₁.setTop (entryFrame m #[(.int p0)] maxLocals)) t := fun t k => castTop ef k
  obtain ⟨T1, X1, e1, st1⟩ := getS2 X0 hx hZ hown (host := "") (Or.inl (hw _ (List.mem_of_getElem? (i := 21) rfl))) Via.refl e0 (S_SynsetType_VERB.ext O.2) (g := (mkF m 23 #[.val (.int p0), .val (.int (1 : Int32)), .unset, .unset, .unset] [])) rfl (hb hby at_23)
  obtain ⟨cq2, kq2, q2a, q2b, q2c⟩ := isOf hZ e1 (E_w_VERB.ext O.2)
  obtain ⟨_, _, ⟨T2, L2, k2, n2⟩, -, X2, ⟨Lc2, hQ2, l2, y2, z2⟩, st2⟩ := X1.virtualBack hx (y := (⟨"com/example/pathfix/pathfix/wordnet/SynsetType", "isAdjective", "()Z"⟩ : MethodName)) (z := (⟨"com/example/pathfix/pathfix/wordnet/SynsetType", "isAdjective", "()Z"⟩ : MethodName)) hown (mvT hZ (hw _ (List.mem_of_getElem? (i := 4) rfl))) (mvT hZ (hw _ (List.mem_of_getElem? (i := 5) rfl))) (notFace_of_selects (args := #[]) (mvT hZ (hw _ (List.mem_of_getElem? (i := 7) rfl)))) (mvT hZ (hw _ (List.mem_of_getElem? (i := 7) rfl))) (mvT hZ (hw _ (List.mem_of_getElem? (i := 6) rfl))) (by decide) (backOf (W := 0) (rm1_o l Z a0 hw [] n0 h0 O w_NOUN w_ADJECTIVE w_ADJECTIVE_SATELLITE w_VERB w_ADVERB W w_VERB ne_w_VERB_w_ADJECTIVE ne_w_VERB_w_ADJECTIVE_SATELLITE) hZ (hw _ (List.mem_of_getElem? (i := 8) rfl)) (hw _ (List.mem_of_getElem? (i := 2) rfl)) (by decide) (by decide)) q2a q2c (g := (mkF m 59 #[.val (.int p0), .val (.int (1 : Int32)), .val (.ref w_VERB), .unset, .unset] [(.ref w_VERB)])) rfl (by rw [hml]; rfl) (Steps.refl _) (argsL := []) (rest := []) (lenOf owpd0 rfl) rfl (by show 2 * 0 + _ ≤ _; exact Nat.le_of_eq rfl) (hb hby at_59) (fun _ _ => ⟨rfl, e1, (by decide : 0 + 0 ≤ _), (by decide : 0 + 0 ≤ _)⟩)
  dsimp only [Pt.U, Pt.locs, Pt.cells, Pt.slots] at X2 l2 y2 z2 st2 hQ2
  subst l2 y2 z2
  obtain ⟨rfl, Nq2, e2⟩ := hQ2
  have N2 := Fr.app N0 Nq2
  obtain ⟨cq3, kq3, q3a, q3b, q3c⟩ := isOf hZ e2 (E_w_VERB.ext O.2)
  obtain ⟨_, _, ⟨T3, L3, k3, n3⟩, -, X3, ⟨Lc3, hQ3, l3, y3, z3⟩, st3⟩ := X2.virtualBack hx (y := (⟨"com/example/pathfix/pathfix/wordnet/SynsetType", "digit", "()C"⟩ : MethodName)) (z := (⟨"com/example/pathfix/pathfix/wordnet/SynsetType", "digit", "()C"⟩ : MethodName)) hown (mvT hZ (hw _ (List.mem_of_getElem? (i := 13) rfl))) (mvT hZ (hw _ (List.mem_of_getElem? (i := 14) rfl))) (notFace_of_selects (args := #[]) (mvT hZ (hw _ (List.mem_of_getElem? (i := 16) rfl)))) (mvT hZ (hw _ (List.mem_of_getElem? (i := 16) rfl))) (mvT hZ (hw _ (List.mem_of_getElem? (i := 15) rfl))) (by decide) (backOf (W := 1) (rm2_1 l Z a0 hw [] n0 h0 O w_NOUN w_ADJECTIVE w_ADJECTIVE_SATELLITE w_VERB w_ADVERB W  ) hZ (hw _ (List.mem_of_getElem? (i := 17) rfl)) (hw _ (List.mem_of_getElem? (i := 2) rfl)) (by decide) (by decide)) q3a q3c (g := (mkF m 88 #[.val (.int p0), .val (.int (1 : Int32)), .val (.ref w_VERB), .val (.int (0 : Int32)), .val (.int (0 : Int32))] [(.ref w_VERB), (.int (0 : Int32))])) rfl (by rw [hml]; rfl) (Steps.refl _) (argsL := []) (rest := [(.int (0 : Int32))]) (lenOf owpd1 rfl) rfl (by show 2 * 0 + _ ≤ _; exact Nat.le_of_eq rfl) (hb hby at_88) (fun _ _ => ⟨rfl, e2, (by decide : 0 + 0 ≤ _), (by decide : 0 + 0 ≤ _)⟩)
  dsimp only [Pt.U, Pt.locs, Pt.cells, Pt.slots] at X3 l3 y3 z3 st3 hQ3
  subst l3 y3 z3
  obtain ⟨rfl, Nq3, e3⟩ := hQ3
  have N3 := Fr.app N2 Nq3
  obtain ⟨fs, hr, hrun, hended, hW, hsame⟩ := X3.leave (v := some (.int (1 : Int32))) (fun h => by rw [Bd.returns] at h; cases h)
  refine ⟨_, _, pre0 _ ?_, hrun, hended, _, _, rfl, ?_, ⟨_, rfl⟩, hW, hsame.mono (by decide) (by decide)⟩
  · show Steps p.tables e below (s₁.setTop (mkF m 0 #[.val (.int p0), .unset, .unset, .unset, .unset] [])) _
    refine XS.iloadN X0.here hx rfl (hb hby at_0) rfl ?_
    show Steps p.tables e below (s₁.setTop (mkF m 1 #[.val (.int p0), .unset, .unset, .unset, .unset] [(.int p0)])) _
    refine X0.ldcInt hx hown (mvT hZ (hw _ (List.mem_of_getElem? (i := 0) rfl))) (g := (mkF m 1 #[.val (.int p0), .unset, .unset, .unset, .unset] [(.int p0)])) rfl (hb hby at_1) _ ?_
    show Steps p.tables e below (s₁.setTop (mkF m 3 #[.val (.int p0), .unset, .unset, .unset, .unset] [(.int (2147483647 : Int32)), (.int p0)])) _
    refine XS.iand X0.here hx rfl (hb hby at_3) rfl ?_
    show Steps p.tables e below (s₁.setTop (mkF m 4 #[.val (.int p0), .unset, .unset, .unset, .unset] [(.int (p0 &&& (2147483647 : Int32)))])) _
    refine XS.iconst X0.here hx rfl (hb hby at_4) ?_
    show Steps p.tables e below (s₁.setTop (mkF m 5 #[.val (.int p0), .unset, .unset, .unset, .unset] [(.int (5 : Int32)), (.int (p0 &&& (2147483647 : Int32)))])) _
    refine iremM X0 hx rfl (hb hby at_5) rfl (by decide) ?_
    show Steps p.tables e below (s₁.setTop (mkF m 6 #[.val (.int p0), .unset, .unset, .unset, .unset] [(.int ((p0 &&& (2147483647 : Int32)) % (5 : Int32)))])) _
    rw [hi]
    show Steps p.tables e below (s₁.setTop (mkF m 6 #[.val (.int p0), .unset, .unset, .unset, .unset] [(.int (1 : Int32))])) _
    refine XS.istoreN X0.here hx rfl (hb hby at_6) rfl (l' := #[.val (.int p0), .val (.int (1 : Int32)), .unset, .unset, .unset]) rfl ?_
    show Steps p.tables e below (s₁.setTop (mkF m 7 #[.val (.int p0), .val (.int (1 : Int32)), .unset, .unset, .unset] [])) _
    refine XS.iloadN X0.here hx rfl (hb hby at_7) rfl ?_
    show Steps p.tables e below (s₁.setTop (mkF m 8 #[.val (.int p0), .val (.int (1 : Int32)), .unset, .unset, .unset] [(.int (1 : Int32))])) _
    refine XS.ifYes X0.here hx rfl (pc0 := 8) (pc' := 18) rfl (hb hby at_8) rfl ((if0 _ _).trans (feq (by decide : ¬ ((1 : Int32) = (0 : Int32)))).2) (by decide) (by decide) ?_
    show Steps p.tables e below (s₁.setTop (mkF m 18 #[.val (.int p0), .val (.int (1 : Int32)), .unset, .unset, .unset] [])) _
    refine XS.iloadN X0.here hx rfl (hb hby at_18) rfl ?_
    show Steps p.tables e below (s₁.setTop (mkF m 19 #[.val (.int p0), .val (.int (1 : Int32)), .unset, .unset, .unset] [(.int (1 : Int32))])) _
    refine XS.iconst X0.here hx rfl (hb hby at_19) ?_
    show Steps p.tables e below (s₁.setTop (mkF m 20 #[.val (.int p0), .val (.int (1 : Int32)), .unset, .unset, .unset] [(.int (1 : Int32)), (.int (1 : Int32))])) _
    refine XS.icmpNo X0.here hx rfl (hb hby at_20) rfl (teq (by decide : (1 : Int32) = (1 : Int32))).2 ?_
    show Steps p.tables e below (s₁.setTop (mkF m 23 #[.val (.int p0), .val (.int (1 : Int32)), .unset, .unset, .unset] [])) _
    refine st1 _ ?_
    show Steps p.tables e below (T1.setTop (mkF m 26 #[.val (.int p0), .val (.int (1 : Int32)), .unset, .unset, .unset] [(.ref w_VERB)])) _
    refine XS.astoreN X1.here hx rfl (hb hby at_26) rfl rfl (l' := #[.val (.int p0), .val (.int (1 : Int32)), .val (.ref w_VERB), .unset, .unset]) rfl ?_
    show Steps p.tables e below (T1.setTop (mkF m 27 #[.val (.int p0), .val (.int (1 : Int32)), .val (.ref w_VERB), .unset, .unset] [])) _
    refine XS.goto X1.here hx rfl (pc0 := 27) (pc' := 58) rfl (hb hby at_27) (by decide) (by decide) ?_
    show Steps p.tables e below (T1.setTop (mkF m 58 #[.val (.int p0), .val (.int (1 : Int32)), .val (.ref w_VERB), .unset, .unset] [])) _
    refine XS.aloadN X1.here hx rfl (hb hby at_58) rfl rfl ?_
    show Steps p.tables e below (T1.setTop (mkF m 59 #[.val (.int p0), .val (.int (1 : Int32)), .val (.ref w_VERB), .unset, .unset] [(.ref w_VERB)])) _
    refine st2.trans ?_
    show Steps p.tables e below (T2.setTop (mkF m 62 #[.val (.int p0), .val (.int (1 : Int32)), .val (.ref w_VERB), .unset, .unset] [(.int (0 : Int32))])) _
    refine XS.istoreN X2.here hx rfl (hb hby at_62) rfl (l' := #[.val (.int p0), .val (.int (1 : Int32)), .val (.ref w_VERB), .val (.int (0 : Int32)), .unset]) rfl ?_
    show Steps p.tables e below (T2.setTop (mkF m 63 #[.val (.int p0), .val (.int (1 : Int32)), .val (.ref w_VERB), .val (.int (0 : Int32)), .unset] [])) _
    refine XS.iloadN X2.here hx rfl (hb hby at_63) rfl ?_
    show Steps p.tables e below (T2.setTop (mkF m 64 #[.val (.int p0), .val (.int (1 : Int32)), .val (.ref w_VERB), .val (.int (0 : Int32)), .unset] [(.int (1 : Int32))])) _
    refine XS.iconst X2.here hx rfl (hb hby at_64) ?_
    show Steps p.tables e below (T2.setTop (mkF m 65 #[.val (.int p0), .val (.int (1 : Int32)), .val (.ref w_VERB), .val (.int (0 : Int32)), .unset] [(.int (2 : Int32)), (.int (1 : Int32))])) _
    refine XS.icmpNo X2.here hx rfl (hb hby at_65) rfl (feq (by decide : ¬ ((1 : Int32) = (2 : Int32)))).1 ?_
    show Steps p.tables e below (T2.setTop (mkF m 68 #[.val (.int p0), .val (.int (1 : Int32)), .val (.ref w_VERB), .val (.int (0 : Int32)), .unset] [])) _
    refine XS.iloadN X2.here hx rfl (hb hby at_68) rfl ?_
    show Steps p.tables e below (T2.setTop (mkF m 69 #[.val (.int p0), .val (.int (1 : Int32)), .val (.ref w_VERB), .val (.int (0 : Int32)), .unset] [(.int (1 : Int32))])) _
    refine XS.iconst X2.here hx rfl (hb hby at_69) ?_
    show Steps p.tables e below (T2.setTop (mkF m 70 #[.val (.int p0), .val (.int (1 : Int32)), .val (.ref w_VERB), .val (.int (0 : Int32)), .unset] [(.int (3 : Int32)), (.int (1 : Int32))])) _
    refine XS.icmpYes X2.here hx rfl (pc0 := 70) (pc' := 77) rfl (hb hby at_70) rfl (feq (by decide : ¬ ((1 : Int32) = (3 : Int32)))).2 (by decide) (by decide) ?_
    show Steps p.tables e below (T2.setTop (mkF m 77 #[.val (.int p0), .val (.int (1 : Int32)), .val (.ref w_VERB), .val (.int (0 : Int32)), .unset] [])) _
    refine XS.iconst X2.here hx rfl (hb hby at_77) ?_
    show Steps p.tables e below (T2.setTop (mkF m 78 #[.val (.int p0), .val (.int (1 : Int32)), .val (.ref w_VERB), .val (.int (0 : Int32)), .unset] [(.int (0 : Int32))])) _
    refine XS.istore X2.here hx rfl (hb hby at_78) rfl (l' := #[.val (.int p0), .val (.int (1 : Int32)), .val (.ref w_VERB), .val (.int (0 : Int32)), .val (.int (0 : Int32))]) rfl ?_
    show Steps p.tables e below (T2.setTop (mkF m 80 #[.val (.int p0), .val (.int (1 : Int32)), .val (.ref w_VERB), .val (.int (0 : Int32)), .val (.int (0 : Int32))] [])) _
    refine XS.iloadN X2.here hx rfl (hb hby at_80) rfl ?_
    show Steps p.tables e below (T2.setTop (mkF m 81 #[.val (.int p0), .val (.int (1 : Int32)), .val (.ref w_VERB), .val (.int (0 : Int32)), .val (.int (0 : Int32))] [(.int (0 : Int32))])) _
    refine XS.iload X2.here hx rfl (hb hby at_81) rfl ?_
    show Steps p.tables e below (T2.setTop (mkF m 83 #[.val (.int p0), .val (.int (1 : Int32)), .val (.ref w_VERB), .val (.int (0 : Int32)), .val (.int (0 : Int32))] [(.int (0 : Int32)), (.int (0 : Int32))])) _
    refine XS.icmpNo X2.here hx rfl (hb hby at_83) rfl (teq (by decide : (0 : Int32) = (0 : Int32))).2 ?_
    show Steps p.tables e below (T2.setTop (mkF m 86 #[.val (.int p0), .val (.int (1 : Int32)), .val (.ref w_VERB), .val (.int (0 : Int32)), .val (.int (0 : Int32))] [])) _
    refine XS.iloadN X2.here hx rfl (hb hby at_86) rfl ?_
    show Steps p.tables e below (T2.setTop (mkF m 87 #[.val (.int p0), .val (.int (1 : Int32)), .val (.ref w_VERB), .val (.int (0 : Int32)), .val (.int (0 : Int32))] [(.int (0 : Int32))])) _
    refine XS.aloadN X2.here hx rfl (hb hby at_87) rfl rfl ?_
    show Steps p.tables e below (T2.setTop (mkF m 88 #[.val (.int p0), .val (.int (1 : Int32)), .val (.ref w_VERB), .val (.int (0 : Int32)), .val (.int (0 : Int32))] [(.ref w_VERB), (.int (0 : Int32))])) _
    refine st3.trans ?_
    show Steps p.tables e below (T3.setTop (mkF m 91 #[.val (.int p0), .val (.int (1 : Int32)), .val (.ref w_VERB), .val (.int (0 : Int32)), .val (.int (0 : Int32))] [(.int (50 : Int32)), (.int (0 : Int32))])) _
    refine XS.bipush X3.here hx rfl (hb hby at_91) ?_
    show Steps p.tables e below (T3.setTop (mkF m 93 #[.val (.int p0), .val (.int (1 : Int32)), .val (.ref w_VERB), .val (.int (0 : Int32)), .val (.int (0 : Int32))] [(.int (51 : Int32)), (.int (50 : Int32)), (.int (0 : Int32))])) _
    refine XS.icmpYes X3.here hx rfl (pc0 := 93) (pc' := 100) rfl (hb hby at_93) rfl (feq (by decide : ¬ ((50 : Int32) = (51 : Int32)))).2 (by decide) (by decide) ?_
    show Steps p.tables e below (T3.setTop (mkF m 100 #[.val (.int p0), .val (.int (1 : Int32)), .val (.ref w_VERB), .val (.int (0 : Int32)), .val (.int (0 : Int32))] [(.int (0 : Int32))])) _
    refine XS.iconst X3.here hx rfl (hb hby at_100) ?_
    show Steps p.tables e below (T3.setTop (mkF m 101 #[.val (.int p0), .val (.int (1 : Int32)), .val (.ref w_VERB), .val (.int (0 : Int32)), .val (.int (0 : Int32))] [(.int (0 : Int32)), (.int (0 : Int32))])) _
    refine XS.icmpNo X3.here hx rfl (hb hby at_101) rfl (teq (by decide : (0 : Int32) = (0 : Int32))).2 ?_
    show Steps p.tables e below (T3.setTop (mkF m 104 #[.val (.int p0), .val (.int (1 : Int32)), .val (.ref w_VERB), .val (.int (0 : Int32)), .val (.int (0 : Int32))] [])) _
    refine XS.iconst X3.here hx rfl (hb hby at_104) ?_
    show Steps p.tables e below (T3.setTop (mkF m 105 #[.val (.int p0), .val (.int (1 : Int32)), .val (.ref w_VERB), .val (.int (0 : Int32)), .val (.int (0 : Int32))] [(.int (1 : Int32))])) _
    refine XS.goto X3.here hx rfl (pc0 := 105) (pc' := 109) rfl (hb hby at_105) (by decide) (by decide) ?_
    show Steps p.tables e below (T3.setTop (mkF m 109 #[.val (.int p0), .val (.int (1 : Int32)), .val (.ref w_VERB), .val (.int (0 : Int32)), .val (.int (0 : Int32))] [(.int (1 : Int32))])) _
    exact retN X3 hx (t := .boolean) Bd.returns (by simp) (hb hby at_109) hr
  · exact ⟨N3, rfl⟩
set_option maxRecDepth 65536 in
set_option maxHeartbeats 40000000 in
theorem rm2_2 (l : Launch) (Z : State) (a0 : Array Value) (hw : ∀ d ∈ tables_1, d.before a0 Z = true) (ws : List Jvm.Cond) (n0 : Nat) (h0 : Heap) (O : Old Z n0 h0) (w_NOUN : Addr) (w_ADJECTIVE : Addr) (w_ADJECTIVE_SATELLITE : Addr) (w_VERB : Addr) (w_ADVERB : Addr) (W : OwW Z w_NOUN w_ADJECTIVE w_ADJECTIVE_SATELLITE w_VERB w_ADVERB)  :
    OwCon l (⟨"com/example/pathfix/pathfix/wordnet/SynsetType", "digit", "()C"⟩ : MethodName) prog_22_method_5_code 1 (some .char) ws ({ frames := 0, cells := 0, slots := 0, locals := 0 } : Room) #[(.ref w_ADJECTIVE)] Z h0 (OwQ (some (.int (51 : Int32))) h0 n0) := by
  refine MetFree.of_bodySF (plainFor_of_name owpn2) hisR ?_
  intro p e s m args below meth c s₁ Bd hml0 hP hK
  obtain ⟨rfl, hZ, hh⟩ := hP
  have hx := Bd.exec
  have hby := Bd.bytes
  have hml : c.maxLocals = 1 := hml0
  have hown : s.vm.findClass "com/example/pathfix/pathfix/wordnet/SynsetType" = some m.cls := findClass_of_methodNamed Bd.named
  have hnm := (name_of_methodNamed Bd.named Bd.method).1
  have X0 : Stand p l e ({ frames := 0, cells := 0, slots := 0, locals := 0 } : Room) s m #[(.ref w_ADJECTIVE)] below meth c s₁ [] 0 0 := Stand.of_body Bd
  have e0 : s₁.heap = h0 := by rw [← hh, Bd.state]; rfl
  have N0 := Fr.nil n0
  have WW := W
  obtain ⟨E_w_NOUN, E_w_ADJECTIVE, E_w_ADJECTIVE_SATELLITE, E_w_VERB, E_w_ADVERB, S_SynsetType_NOUN, S_SynsetType_ADJECTIVE, F_w_NOUN_ordinal, F_w_ADJECTIVE_ordinal, S_SynsetType_ADJECTIVE_SATELLITE, F_w_ADJECTIVE_SATELLITE_ordinal, F_w_NOUN_digit, F_w_ADJECTIVE_SATELLITE_digit, S_SynsetType_VERB, F_w_VERB_ordinal, F_w_VERB_digit, S_SynsetType_ADVERB, F_w_ADVERB_ordinal, F_w_ADVERB_digit, F_w_ADJECTIVE_digit, ne_w_NOUN_w_ADJECTIVE, ne_w_NOUN_w_ADJECTIVE_SATELLITE, ne_w_VERB_w_ADJECTIVE, ne_w_VERB_w_ADJECTIVE_SATELLITE, ne_w_ADVERB_w_ADJECTIVE, ne_w_ADVERB_w_ADJECTIVE_SATELLITE, ne_w_ADJECTIVE_SATELLITE_w_ADJECTIVE, -⟩ := WW
  have ef : entryFrame m #[(.ref w_ADJECTIVE)] 1 = mkF m 0 #[.val (.ref w_ADJECTIVE)] [] := by first | rfl | (simp [entryFrame, mkF, argsToLocals, Value.category]; done)
  have pre0 : ∀ t, Steps p.tables e below (s₁.setTop (mkF m 0 #[.val (.ref w_ADJECTIVE)] [])) t → Steps p.tables e below (s₁.setTop (entryFrame m #[(.ref w_ADJECTIVE)] 1)) t := fun t k => castTop ef k
  obtain ⟨T1, X1, e1, st1⟩ := getF X0 hx hZ hown (host := "") (Or.inl (hw _ (List.mem_of_getElem? (i := 18) rfl))) Via.refl e0 (F_w_ADJECTIVE_digit.ext O.2) (g := (mkF m 1 #[.val (.ref w_ADJECTIVE)] [(.ref w_ADJECTIVE)])) rfl rfl (hb hby d2_1)
  obtain ⟨fs, hr, hrun, hended, hW, hsame⟩ := X1.leave (v := some (.int (51 : Int32))) (fun h => by rw [Bd.returns] at h; cases h)
  refine ⟨_, _, pre0 _ ?_, hrun, hended, _, _, rfl, ?_, ⟨_, rfl⟩, hW, hsame.mono (by decide) (by decide)⟩
  · show Steps p.tables e below (s₁.setTop (mkF m 0 #[.val (.ref w_ADJECTIVE)] [])) _
    refine XS.aloadN X0.here hx rfl (hb hby d2_0) rfl rfl ?_
    show Steps p.tables e below (s₁.setTop (mkF m 1 #[.val (.ref w_ADJECTIVE)] [(.ref w_ADJECTIVE)])) _
    refine st1 _ ?_
    show Steps p.tables e below (T1.setTop (mkF m 4 #[.val (.ref w_ADJECTIVE)] [(.int (51 : Int32))])) _
    exact retN X1 hx (t := .char) Bd.returns (by simp) (hb hby d2_4) hr
  · exact ⟨rfl, N0, e1⟩
set_option maxRecDepth 65536 in
set_option maxHeartbeats 40000000 in
theorem rm0_2 (l : Launch) (Z : State) (a0 : Array Value) (hw : ∀ d ∈ tables_1, d.before a0 Z = true) (ws : List Jvm.Cond) (n0 : Nat) (h0 : Heap) (O : Old Z n0 h0) (w_NOUN : Addr) (w_ADJECTIVE : Addr) (w_ADJECTIVE_SATELLITE : Addr) (w_VERB : Addr) (w_ADVERB : Addr) (W : OwW Z w_NOUN w_ADJECTIVE w_ADJECTIVE_SATELLITE w_VERB w_ADVERB) (p0 : Int32) (hi : (p0 &&& (2147483647 : Int32)) % (5 : Int32) = (2 : Int32)) :
    OwCon l x code maxLocals ret ws room_1 #[(.int p0)] Z h0 (OwP (fun v _ => v = some (.int 1)) n0) := by
  refine MetFree.of_bodySF (plainFor_of_name owpn0) hisR ?_
  intro p e s m args below meth c s₁ Bd hml0 hP hK
  obtain ⟨rfl, hZ, hh⟩ := hP
  have hx := Bd.exec
  have hby := Bd.bytes
  have hml : c.maxLocals = 5 := hml0
  have hown : s.vm.findClass "com/example/pathfix/pathfix/wordnet/SynsetTypeIsAdjectivePinLaw" = some m.cls := findClass_of_methodNamed Bd.named
  have hnm := (name_of_methodNamed Bd.named Bd.method).1
  have X0 : Stand p l e room_1 s m #[(.int p0)] below meth c s₁ [] 0 0 := Stand.of_body Bd
  have e0 : s₁.heap = h0 := by rw [← hh, Bd.state]; rfl
  have N0 := Fr.nil n0
  have WW := W
  obtain ⟨E_w_NOUN, E_w_ADJECTIVE, E_w_ADJECTIVE_SATELLITE, E_w_VERB, E_w_ADVERB, S_SynsetType_NOUN, S_SynsetType_ADJECTIVE, F_w_NOUN_ordinal, F_w_ADJECTIVE_ordinal, S_SynsetType_ADJECTIVE_SATELLITE, F_w_ADJECTIVE_SATELLITE_ordinal, F_w_NOUN_digit, F_w_ADJECTIVE_SATELLITE_digit, S_SynsetType_VERB, F_w_VERB_ordinal, F_w_VERB_digit, S_SynsetType_ADVERB, F_w_ADVERB_ordinal, F_w_ADVERB_digit, F_w_ADJECTIVE_digit, ne_w_NOUN_w_ADJECTIVE, ne_w_NOUN_w_ADJECTIVE_SATELLITE, ne_w_VERB_w_ADJECTIVE, ne_w_VERB_w_ADJECTIVE_SATELLITE, ne_w_ADVERB_w_ADJECTIVE, ne_w_ADVERB_w_ADJECTIVE_SATELLITE, ne_w_ADJECTIVE_SATELLITE_w_ADJECTIVE, -⟩ := WW
  have ef : entryFrame m #[(.int p0)] maxLocals = mkF m 0 #[.val (.int p0), .unset, .unset, .unset, .unset] [] := by first | rfl | (simp [entryFrame, mkF, argsToLocals, Value.category, maxLocals]; done)
  have pre0 : ∀ t, Steps p.tables e below (s₁.setTop (mkF m 0 #[.val (.int p0), .unset, .unset, .unset, .unset] [])) t → Steps p.tables e below (s₁.setTop (entryFrame m #[(.int p0)] maxLocals)) t := fun t k => castTop ef k
  obtain ⟨T1, X1, e1, st1⟩ := getS2 X0 hx hZ hown (host := "") (Or.inl (hw _ (List.mem_of_getElem? (i := 25) rfl))) Via.refl e0 (S_SynsetType_ADJECTIVE.ext O.2) (g := (mkF m 35 #[.val (.int p0), .val (.int (2 : Int32)), .unset, .unset, .unset] [])) rfl (hb hby at_35)
  obtain ⟨cq2, kq2, q2a, q2b, q2c⟩ := isOf hZ e1 (E_w_ADJECTIVE.ext O.2)
  obtain ⟨_, _, ⟨T2, L2, k2, n2⟩, -, X2, ⟨Lc2, hQ2, l2, y2, z2⟩, st2⟩ := X1.virtualBack hx (y := (⟨"com/example/pathfix/pathfix/wordnet/SynsetType", "isAdjective", "()Z"⟩ : MethodName)) (z := (⟨"com/example/pathfix/pathfix/wordnet/SynsetType", "isAdjective", "()Z"⟩ : MethodName)) hown (mvT hZ (hw _ (List.mem_of_getElem? (i := 4) rfl))) (mvT hZ (hw _ (List.mem_of_getElem? (i := 5) rfl))) (notFace_of_selects (args := #[]) (mvT hZ (hw _ (List.mem_of_getElem? (i := 7) rfl)))) (mvT hZ (hw _ (List.mem_of_getElem? (i := 7) rfl))) (mvT hZ (hw _ (List.mem_of_getElem? (i := 6) rfl))) (by decide) (backOf (W := 0) (rm1_a l Z a0 hw [] n0 h0 O w_NOUN w_ADJECTIVE w_ADJECTIVE_SATELLITE w_VERB w_ADVERB W  ) hZ (hw _ (List.mem_of_getElem? (i := 8) rfl)) (hw _ (List.mem_of_getElem? (i := 2) rfl)) (by decide) (by decide)) q2a q2c (g := (mkF m 59 #[.val (.int p0), .val (.int (2 : Int32)), .val (.ref w_ADJECTIVE), .unset, .unset] [(.ref w_ADJECTIVE)])) rfl (by rw [hml]; rfl) (Steps.refl _) (argsL := []) (rest := []) (lenOf owpd0 rfl) rfl (by show 2 * 0 + _ ≤ _; exact Nat.le_of_eq rfl) (hb hby at_59) (fun _ _ => ⟨rfl, e1, (by decide : 0 + 0 ≤ _), (by decide : 0 + 0 ≤ _)⟩)
  dsimp only [Pt.U, Pt.locs, Pt.cells, Pt.slots] at X2 l2 y2 z2 st2 hQ2
  subst l2 y2 z2
  obtain ⟨rfl, Nq2, e2⟩ := hQ2
  have N2 := Fr.app N0 Nq2
  obtain ⟨cq3, kq3, q3a, q3b, q3c⟩ := isOf hZ e2 (E_w_ADJECTIVE.ext O.2)
  obtain ⟨_, _, ⟨T3, L3, k3, n3⟩, -, X3, ⟨Lc3, hQ3, l3, y3, z3⟩, st3⟩ := X2.virtualBack hx (y := (⟨"com/example/pathfix/pathfix/wordnet/SynsetType", "digit", "()C"⟩ : MethodName)) (z := (⟨"com/example/pathfix/pathfix/wordnet/SynsetType", "digit", "()C"⟩ : MethodName)) hown (mvT hZ (hw _ (List.mem_of_getElem? (i := 13) rfl))) (mvT hZ (hw _ (List.mem_of_getElem? (i := 14) rfl))) (notFace_of_selects (args := #[]) (mvT hZ (hw _ (List.mem_of_getElem? (i := 16) rfl)))) (mvT hZ (hw _ (List.mem_of_getElem? (i := 16) rfl))) (mvT hZ (hw _ (List.mem_of_getElem? (i := 15) rfl))) (by decide) (backOf (W := 1) (rm2_2 l Z a0 hw [] n0 h0 O w_NOUN w_ADJECTIVE w_ADJECTIVE_SATELLITE w_VERB w_ADVERB W  ) hZ (hw _ (List.mem_of_getElem? (i := 17) rfl)) (hw _ (List.mem_of_getElem? (i := 2) rfl)) (by decide) (by decide)) q3a q3c (g := (mkF m 88 #[.val (.int p0), .val (.int (2 : Int32)), .val (.ref w_ADJECTIVE), .val (.int (1 : Int32)), .val (.int (1 : Int32))] [(.ref w_ADJECTIVE), (.int (1 : Int32))])) rfl (by rw [hml]; rfl) (Steps.refl _) (argsL := []) (rest := [(.int (1 : Int32))]) (lenOf owpd1 rfl) rfl (by show 2 * 0 + _ ≤ _; exact Nat.le_of_eq rfl) (hb hby at_88) (fun _ _ => ⟨rfl, e2, (by decide : 0 + 0 ≤ _), (by decide : 0 + 0 ≤ _)⟩)
  dsimp only [Pt.U, Pt.locs, Pt.cells, Pt.slots] at X3 l3 y3 z3 st3 hQ3
  subst l3 y3 z3
  obtain ⟨rfl, Nq3, e3⟩ := hQ3
  have N3 := Fr.app N2 Nq3
  obtain ⟨fs, hr, hrun, hended, hW, hsame⟩ := X3.leave (v := some (.int (1 : Int32))) (fun h => by rw [Bd.returns] at h; cases h)
  refine ⟨_, _, pre0 _ ?_, hrun, hended, _, _, rfl, ?_, ⟨_, rfl⟩, hW, hsame.mono (by decide) (by decide)⟩
  · show Steps p.tables e below (s₁.setTop (mkF m 0 #[.val (.int p0), .unset, .unset, .unset, .unset] [])) _
    refine XS.iloadN X0.here hx rfl (hb hby at_0) rfl ?_
    show Steps p.tables e below (s₁.setTop (mkF m 1 #[.val (.int p0), .unset, .unset, .unset, .unset] [(.int p0)])) _
    refine X0.ldcInt hx hown (mvT hZ (hw _ (List.mem_of_getElem? (i := 0) rfl))) (g := (mkF m 1 #[.val (.int p0), .unset, .unset, .unset, .unset] [(.int p0)])) rfl (hb hby at_1) _ ?_
    show Steps p.tables e below (s₁.setTop (mkF m 3 #[.val (.int p0), .unset, .unset, .unset, .unset] [(.int (2147483647 : Int32)), (.int p0)])) _
    refine XS.iand X0.here hx rfl (hb hby at_3) rfl ?_
    show Steps p.tables e below (s₁.setTop (mkF m 4 #[.val (.int p0), .unset, .unset, .unset, .unset] [(.int (p0 &&& (2147483647 : Int32)))])) _
    refine XS.iconst X0.here hx rfl (hb hby at_4) ?_
    show Steps p.tables e below (s₁.setTop (mkF m 5 #[.val (.int p0), .unset, .unset, .unset, .unset] [(.int (5 : Int32)), (.int (p0 &&& (2147483647 : Int32)))])) _
    refine iremM X0 hx rfl (hb hby at_5) rfl (by decide) ?_
    show Steps p.tables e below (s₁.setTop (mkF m 6 #[.val (.int p0), .unset, .unset, .unset, .unset] [(.int ((p0 &&& (2147483647 : Int32)) % (5 : Int32)))])) _
    rw [hi]
    show Steps p.tables e below (s₁.setTop (mkF m 6 #[.val (.int p0), .unset, .unset, .unset, .unset] [(.int (2 : Int32))])) _
    refine XS.istoreN X0.here hx rfl (hb hby at_6) rfl (l' := #[.val (.int p0), .val (.int (2 : Int32)), .unset, .unset, .unset]) rfl ?_
    show Steps p.tables e below (s₁.setTop (mkF m 7 #[.val (.int p0), .val (.int (2 : Int32)), .unset, .unset, .unset] [])) _
    refine XS.iloadN X0.here hx rfl (hb hby at_7) rfl ?_
    show Steps p.tables e below (s₁.setTop (mkF m 8 #[.val (.int p0), .val (.int (2 : Int32)), .unset, .unset, .unset] [(.int (2 : Int32))])) _
    refine XS.ifYes X0.here hx rfl (pc0 := 8) (pc' := 18) rfl (hb hby at_8) rfl ((if0 _ _).trans (feq (by decide : ¬ ((2 : Int32) = (0 : Int32)))).2) (by decide) (by decide) ?_
    show Steps p.tables e below (s₁.setTop (mkF m 18 #[.val (.int p0), .val (.int (2 : Int32)), .unset, .unset, .unset] [])) _
    refine XS.iloadN X0.here hx rfl (hb hby at_18) rfl ?_
    show Steps p.tables e below (s₁.setTop (mkF m 19 #[.val (.int p0), .val (.int (2 : Int32)), .unset, .unset, .unset] [(.int (2 : Int32))])) _
    refine XS.iconst X0.here hx rfl (hb hby at_19) ?_
    show Steps p.tables e below (s₁.setTop (mkF m 20 #[.val (.int p0), .val (.int (2 : Int32)), .unset, .unset, .unset] [(.int (1 : Int32)), (.int (2 : Int32))])) _
    refine XS.icmpYes X0.here hx rfl (pc0 := 20) (pc' := 30) rfl (hb hby at_20) rfl (feq (by decide : ¬ ((2 : Int32) = (1 : Int32)))).2 (by decide) (by decide) ?_
    show Steps p.tables e below (s₁.setTop (mkF m 30 #[.val (.int p0), .val (.int (2 : Int32)), .unset, .unset, .unset] [])) _
    refine XS.iloadN X0.here hx rfl (hb hby at_30) rfl ?_
    show Steps p.tables e below (s₁.setTop (mkF m 31 #[.val (.int p0), .val (.int (2 : Int32)), .unset, .unset, .unset] [(.int (2 : Int32))])) _
    refine XS.iconst X0.here hx rfl (hb hby at_31) ?_
    show Steps p.tables e below (s₁.setTop (mkF m 32 #[.val (.int p0), .val (.int (2 : Int32)), .unset, .unset, .unset] [(.int (2 : Int32)), (.int (2 : Int32))])) _
    refine XS.icmpNo X0.here hx rfl (hb hby at_32) rfl (teq (by decide : (2 : Int32) = (2 : Int32))).2 ?_
    show Steps p.tables e below (s₁.setTop (mkF m 35 #[.val (.int p0), .val (.int (2 : Int32)), .unset, .unset, .unset] [])) _
    refine st1 _ ?_
    show Steps p.tables e below (T1.setTop (mkF m 38 #[.val (.int p0), .val (.int (2 : Int32)), .unset, .unset, .unset] [(.ref w_ADJECTIVE)])) _
    refine XS.astoreN X1.here hx rfl (hb hby at_38) rfl rfl (l' := #[.val (.int p0), .val (.int (2 : Int32)), .val (.ref w_ADJECTIVE), .unset, .unset]) rfl ?_
    show Steps p.tables e below (T1.setTop (mkF m 39 #[.val (.int p0), .val (.int (2 : Int32)), .val (.ref w_ADJECTIVE), .unset, .unset] [])) _
    refine XS.goto X1.here hx rfl (pc0 := 39) (pc' := 58) rfl (hb hby at_39) (by decide) (by decide) ?_
    show Steps p.tables e below (T1.setTop (mkF m 58 #[.val (.int p0), .val (.int (2 : Int32)), .val (.ref w_ADJECTIVE), .unset, .unset] [])) _
    refine XS.aloadN X1.here hx rfl (hb hby at_58) rfl rfl ?_
    show Steps p.tables e below (T1.setTop (mkF m 59 #[.val (.int p0), .val (.int (2 : Int32)), .val (.ref w_ADJECTIVE), .unset, .unset] [(.ref w_ADJECTIVE)])) _
    refine st2.trans ?_
    show Steps p.tables e below (T2.setTop (mkF m 62 #[.val (.int p0), .val (.int (2 : Int32)), .val (.ref w_ADJECTIVE), .unset, .unset] [(.int (1 : Int32))])) _
    refine XS.istoreN X2.here hx rfl (hb hby at_62) rfl (l' := #[.val (.int p0), .val (.int (2 : Int32)), .val (.ref w_ADJECTIVE), .val (.int (1 : Int32)), .unset]) rfl ?_
    show Steps p.tables e below (T2.setTop (mkF m 63 #[.val (.int p0), .val (.int (2 : Int32)), .val (.ref w_ADJECTIVE), .val (.int (1 : Int32)), .unset] [])) _
    refine XS.iloadN X2.here hx rfl (hb hby at_63) rfl ?_
    show Steps p.tables e below (T2.setTop (mkF m 64 #[.val (.int p0), .val (.int (2 : Int32)), .val (.ref w_ADJECTIVE), .val (.int (1 : Int32)), .unset] [(.int (2 : Int32))])) _
    refine XS.iconst X2.here hx rfl (hb hby at_64) ?_
    show Steps p.tables e below (T2.setTop (mkF m 65 #[.val (.int p0), .val (.int (2 : Int32)), .val (.ref w_ADJECTIVE), .val (.int (1 : Int32)), .unset] [(.int (2 : Int32)), (.int (2 : Int32))])) _
    refine XS.icmpYes X2.here hx rfl (pc0 := 65) (pc' := 73) rfl (hb hby at_65) rfl (teq (by decide : (2 : Int32) = (2 : Int32))).1 (by decide) (by decide) ?_
    show Steps p.tables e below (T2.setTop (mkF m 73 #[.val (.int p0), .val (.int (2 : Int32)), .val (.ref w_ADJECTIVE), .val (.int (1 : Int32)), .unset] [])) _
    refine XS.iconst X2.here hx rfl (hb hby at_73) ?_
    show Steps p.tables e below (T2.setTop (mkF m 74 #[.val (.int p0), .val (.int (2 : Int32)), .val (.ref w_ADJECTIVE), .val (.int (1 : Int32)), .unset] [(.int (1 : Int32))])) _
    refine XS.goto X2.here hx rfl (pc0 := 74) (pc' := 78) rfl (hb hby at_74) (by decide) (by decide) ?_
    show Steps p.tables e below (T2.setTop (mkF m 78 #[.val (.int p0), .val (.int (2 : Int32)), .val (.ref w_ADJECTIVE), .val (.int (1 : Int32)), .unset] [(.int (1 : Int32))])) _
    refine XS.istore X2.here hx rfl (hb hby at_78) rfl (l' := #[.val (.int p0), .val (.int (2 : Int32)), .val (.ref w_ADJECTIVE), .val (.int (1 : Int32)), .val (.int (1 : Int32))]) rfl ?_
    show Steps p.tables e below (T2.setTop (mkF m 80 #[.val (.int p0), .val (.int (2 : Int32)), .val (.ref w_ADJECTIVE), .val (.int (1 : Int32)), .val (.int (1 : Int32))] [])) _
    refine XS.iloadN X2.here hx rfl (hb hby at_80) rfl ?_
    show Steps p.tables e below (T2.setTop (mkF m 81 #[.val (.int p0), .val (.int (2 : Int32)), .val (.ref w_ADJECTIVE), .val (.int (1 : Int32)), .val (.int (1 : Int32))] [(.int (1 : Int32))])) _
    refine XS.iload X2.here hx rfl (hb hby at_81) rfl ?_
    show Steps p.tables e below (T2.setTop (mkF m 83 #[.val (.int p0), .val (.int (2 : Int32)), .val (.ref w_ADJECTIVE), .val (.int (1 : Int32)), .val (.int (1 : Int32))] [(.int (1 : Int32)), (.int (1 : Int32))])) _
    refine XS.icmpNo X2.here hx rfl (hb hby at_83) rfl (teq (by decide : (1 : Int32) = (1 : Int32))).2 ?_
    show Steps p.tables e below (T2.setTop (mkF m 86 #[.val (.int p0), .val (.int (2 : Int32)), .val (.ref w_ADJECTIVE), .val (.int (1 : Int32)), .val (.int (1 : Int32))] [])) _
    refine XS.iloadN X2.here hx rfl (hb hby at_86) rfl ?_
    show Steps p.tables e below (T2.setTop (mkF m 87 #[.val (.int p0), .val (.int (2 : Int32)), .val (.ref w_ADJECTIVE), .val (.int (1 : Int32)), .val (.int (1 : Int32))] [(.int (1 : Int32))])) _
    refine XS.aloadN X2.here hx rfl (hb hby at_87) rfl rfl ?_
    show Steps p.tables e below (T2.setTop (mkF m 88 #[.val (.int p0), .val (.int (2 : Int32)), .val (.ref w_ADJECTIVE), .val (.int (1 : Int32)), .val (.int (1 : Int32))] [(.ref w_ADJECTIVE), (.int (1 : Int32))])) _
    refine st3.trans ?_
    show Steps p.tables e below (T3.setTop (mkF m 91 #[.val (.int p0), .val (.int (2 : Int32)), .val (.ref w_ADJECTIVE), .val (.int (1 : Int32)), .val (.int (1 : Int32))] [(.int (51 : Int32)), (.int (1 : Int32))])) _
    refine XS.bipush X3.here hx rfl (hb hby at_91) ?_
    show Steps p.tables e below (T3.setTop (mkF m 93 #[.val (.int p0), .val (.int (2 : Int32)), .val (.ref w_ADJECTIVE), .val (.int (1 : Int32)), .val (.int (1 : Int32))] [(.int (51 : Int32)), (.int (51 : Int32)), (.int (1 : Int32))])) _
    refine XS.icmpNo X3.here hx rfl (hb hby at_93) rfl (teq (by decide : (51 : Int32) = (51 : Int32))).2 ?_
    show Steps p.tables e below (T3.setTop (mkF m 96 #[.val (.int p0), .val (.int (2 : Int32)), .val (.ref w_ADJECTIVE), .val (.int (1 : Int32)), .val (.int (1 : Int32))] [(.int (1 : Int32))])) _
    refine XS.iconst X3.here hx rfl (hb hby at_96) ?_
    show Steps p.tables e below (T3.setTop (mkF m 97 #[.val (.int p0), .val (.int (2 : Int32)), .val (.ref w_ADJECTIVE), .val (.int (1 : Int32)), .val (.int (1 : Int32))] [(.int (1 : Int32)), (.int (1 : Int32))])) _
    refine XS.goto X3.here hx rfl (pc0 := 97) (pc' := 101) rfl (hb hby at_97) (by decide) (by decide) ?_
    show Steps p.tables e below (T3.setTop (mkF m 101 #[.val (.int p0), .val (.int (2 : Int32)), .val (.ref w_ADJECTIVE), .val (.int (1 : Int32)), .val (.int (1 : Int32))] [(.int (1 : Int32)), (.int (1 : Int32))])) _
    refine XS.icmpNo X3.here hx rfl (hb hby at_101) rfl (teq (by decide : (1 : Int32) = (1 : Int32))).2 ?_
    show Steps p.tables e below (T3.setTop (mkF m 104 #[.val (.int p0), .val (.int (2 : Int32)), .val (.ref w_ADJECTIVE), .val (.int (1 : Int32)), .val (.int (1 : Int32))] [])) _
    refine XS.iconst X3.here hx rfl (hb hby at_104) ?_
    show Steps p.tables e below (T3.setTop (mkF m 105 #[.val (.int p0), .val (.int (2 : Int32)), .val (.ref w_ADJECTIVE), .val (.int (1 : Int32)), .val (.int (1 : Int32))] [(.int (1 : Int32))])) _
    refine XS.goto X3.here hx rfl (pc0 := 105) (pc' := 109) rfl (hb hby at_105) (by decide) (by decide) ?_
    show Steps p.tables e below (T3.setTop (mkF m 109 #[.val (.int p0), .val (.int (2 : Int32)), .val (.ref w_ADJECTIVE), .val (.int (1 : Int32)), .val (.int (1 : Int32))] [(.int (1 : Int32))])) _
    exact retN X3 hx (t := .boolean) Bd.returns (by simp) (hb hby at_109) hr
  · exact ⟨N3, rfl⟩
set_option maxRecDepth 65536 in
set_option maxHeartbeats 40000000 in
theorem rm2_3 (l : Launch) (Z : State) (a0 : Array Value) (hw : ∀ d ∈ tables_1, d.before a0 Z = true) (ws : List Jvm.Cond) (n0 : Nat) (h0 : Heap) (O : Old Z n0 h0) (w_NOUN : Addr) (w_ADJECTIVE : Addr) (w_ADJECTIVE_SATELLITE : Addr) (w_VERB : Addr) (w_ADVERB : Addr) (W : OwW Z w_NOUN w_ADJECTIVE w_ADJECTIVE_SATELLITE w_VERB w_ADVERB)  :
    OwCon l (⟨"com/example/pathfix/pathfix/wordnet/SynsetType", "digit", "()C"⟩ : MethodName) prog_22_method_5_code 1 (some .char) ws ({ frames := 0, cells := 0, slots := 0, locals := 0 } : Room) #[(.ref w_ADJECTIVE_SATELLITE)] Z h0 (OwQ (some (.int (51 : Int32))) h0 n0) := by
  refine MetFree.of_bodySF (plainFor_of_name owpn2) hisR ?_
  intro p e s m args below meth c s₁ Bd hml0 hP hK
  obtain ⟨rfl, hZ, hh⟩ := hP
  have hx := Bd.exec
  have hby := Bd.bytes
  have hml : c.maxLocals = 1 := hml0
  have hown : s.vm.findClass "com/example/pathfix/pathfix/wordnet/SynsetType" = some m.cls := findClass_of_methodNamed Bd.named
  have hnm := (name_of_methodNamed Bd.named Bd.method).1
  have X0 : Stand p l e ({ frames := 0, cells := 0, slots := 0, locals := 0 } : Room) s m #[(.ref w_ADJECTIVE_SATELLITE)] below meth c s₁ [] 0 0 := Stand.of_body Bd
  have e0 : s₁.heap = h0 := by rw [← hh, Bd.state]; rfl
  have N0 := Fr.nil n0
  have WW := W
  obtain ⟨E_w_NOUN, E_w_ADJECTIVE, E_w_ADJECTIVE_SATELLITE, E_w_VERB, E_w_ADVERB, S_SynsetType_NOUN, S_SynsetType_ADJECTIVE, F_w_NOUN_ordinal, F_w_ADJECTIVE_ordinal, S_SynsetType_ADJECTIVE_SATELLITE, F_w_ADJECTIVE_SATELLITE_ordinal, F_w_NOUN_digit, F_w_ADJECTIVE_SATELLITE_digit, S_SynsetType_VERB, F_w_VERB_ordinal, F_w_VERB_digit, S_SynsetType_ADVERB, F_w_ADVERB_ordinal, F_w_ADVERB_digit, F_w_ADJECTIVE_digit, ne_w_NOUN_w_ADJECTIVE, ne_w_NOUN_w_ADJECTIVE_SATELLITE, ne_w_VERB_w_ADJECTIVE, ne_w_VERB_w_ADJECTIVE_SATELLITE, ne_w_ADVERB_w_ADJECTIVE, ne_w_ADVERB_w_ADJECTIVE_SATELLITE, ne_w_ADJECTIVE_SATELLITE_w_ADJECTIVE, -⟩ := WW
  have ef : entryFrame m #[(.ref w_ADJECTIVE_SATELLITE)] 1 = mkF m 0 #[.val (.ref w_ADJECTIVE_SATELLITE)] [] := by first | rfl | (simp [entryFrame, mkF, argsToLocals, Value.category]; done)
  have pre0 : ∀ t, Steps p.tables e below (s₁.setTop (mkF m 0 #[.val (.ref w_ADJECTIVE_SATELLITE)] [])) t → Steps p.tables e below (s₁.setTop (entryFrame m #[(.ref w_ADJECTIVE_SATELLITE)] 1)) t := fun t k => castTop ef k
  obtain ⟨T1, X1, e1, st1⟩ := getF X0 hx hZ hown (host := "") (Or.inl (hw _ (List.mem_of_getElem? (i := 18) rfl))) Via.refl e0 (F_w_ADJECTIVE_SATELLITE_digit.ext O.2) (g := (mkF m 1 #[.val (.ref w_ADJECTIVE_SATELLITE)] [(.ref w_ADJECTIVE_SATELLITE)])) rfl rfl (hb hby d2_1)
  obtain ⟨fs, hr, hrun, hended, hW, hsame⟩ := X1.leave (v := some (.int (51 : Int32))) (fun h => by rw [Bd.returns] at h; cases h)
  refine ⟨_, _, pre0 _ ?_, hrun, hended, _, _, rfl, ?_, ⟨_, rfl⟩, hW, hsame.mono (by decide) (by decide)⟩
  · show Steps p.tables e below (s₁.setTop (mkF m 0 #[.val (.ref w_ADJECTIVE_SATELLITE)] [])) _
    refine XS.aloadN X0.here hx rfl (hb hby d2_0) rfl rfl ?_
    show Steps p.tables e below (s₁.setTop (mkF m 1 #[.val (.ref w_ADJECTIVE_SATELLITE)] [(.ref w_ADJECTIVE_SATELLITE)])) _
    refine st1 _ ?_
    show Steps p.tables e below (T1.setTop (mkF m 4 #[.val (.ref w_ADJECTIVE_SATELLITE)] [(.int (51 : Int32))])) _
    exact retN X1 hx (t := .char) Bd.returns (by simp) (hb hby d2_4) hr
  · exact ⟨rfl, N0, e1⟩
set_option maxRecDepth 65536 in
set_option maxHeartbeats 40000000 in
theorem rm0_3 (l : Launch) (Z : State) (a0 : Array Value) (hw : ∀ d ∈ tables_1, d.before a0 Z = true) (ws : List Jvm.Cond) (n0 : Nat) (h0 : Heap) (O : Old Z n0 h0) (w_NOUN : Addr) (w_ADJECTIVE : Addr) (w_ADJECTIVE_SATELLITE : Addr) (w_VERB : Addr) (w_ADVERB : Addr) (W : OwW Z w_NOUN w_ADJECTIVE w_ADJECTIVE_SATELLITE w_VERB w_ADVERB) (p0 : Int32) (hi : (p0 &&& (2147483647 : Int32)) % (5 : Int32) = (3 : Int32)) :
    OwCon l x code maxLocals ret ws room_1 #[(.int p0)] Z h0 (OwP (fun v _ => v = some (.int 1)) n0) := by
  refine MetFree.of_bodySF (plainFor_of_name owpn0) hisR ?_
  intro p e s m args below meth c s₁ Bd hml0 hP hK
  obtain ⟨rfl, hZ, hh⟩ := hP
  have hx := Bd.exec
  have hby := Bd.bytes
  have hml : c.maxLocals = 5 := hml0
  have hown : s.vm.findClass "com/example/pathfix/pathfix/wordnet/SynsetTypeIsAdjectivePinLaw" = some m.cls := findClass_of_methodNamed Bd.named
  have hnm := (name_of_methodNamed Bd.named Bd.method).1
  have X0 : Stand p l e room_1 s m #[(.int p0)] below meth c s₁ [] 0 0 := Stand.of_body Bd
  have e0 : s₁.heap = h0 := by rw [← hh, Bd.state]; rfl
  have N0 := Fr.nil n0
  have WW := W
  obtain ⟨E_w_NOUN, E_w_ADJECTIVE, E_w_ADJECTIVE_SATELLITE, E_w_VERB, E_w_ADVERB, S_SynsetType_NOUN, S_SynsetType_ADJECTIVE, F_w_NOUN_ordinal, F_w_ADJECTIVE_ordinal, S_SynsetType_ADJECTIVE_SATELLITE, F_w_ADJECTIVE_SATELLITE_ordinal, F_w_NOUN_digit, F_w_ADJECTIVE_SATELLITE_digit, S_SynsetType_VERB, F_w_VERB_ordinal, F_w_VERB_digit, S_SynsetType_ADVERB, F_w_ADVERB_ordinal, F_w_ADVERB_digit, F_w_ADJECTIVE_digit, ne_w_NOUN_w_ADJECTIVE, ne_w_NOUN_w_ADJECTIVE_SATELLITE, ne_w_VERB_w_ADJECTIVE, ne_w_VERB_w_ADJECTIVE_SATELLITE, ne_w_ADVERB_w_ADJECTIVE, ne_w_ADVERB_w_ADJECTIVE_SATELLITE, ne_w_ADJECTIVE_SATELLITE_w_ADJECTIVE, -⟩ := WW
  have ef : entryFrame m #[(.int p0)] maxLocals = mkF m 0 #[.val (.int p0), .unset, .unset, .unset, .unset] [] := by first | rfl | (simp [entryFrame, mkF, argsToLocals, Value.category, maxLocals]; done)
  have pre0 : ∀ t, Steps p.tables e below (s₁.setTop (mkF m 0 #[.val (.int p0), .unset, .unset, .unset, .unset] [])) t → Steps p.tables e below (s₁.setTop (entryFrame m #[(.int p0)] maxLocals)) t := fun t k => castTop ef k
  obtain ⟨T1, X1, e1, st1⟩ := getS2 X0 hx hZ hown (host := "") (Or.inl (hw _ (List.mem_of_getElem? (i := 20) rfl))) Via.refl e0 (S_SynsetType_ADJECTIVE_SATELLITE.ext O.2) (g := (mkF m 47 #[.val (.int p0), .val (.int (3 : Int32)), .unset, .unset, .unset] [])) rfl (hb hby at_47)
  obtain ⟨cq2, kq2, q2a, q2b, q2c⟩ := isOf hZ e1 (E_w_ADJECTIVE_SATELLITE.ext O.2)
  obtain ⟨_, _, ⟨T2, L2, k2, n2⟩, -, X2, ⟨Lc2, hQ2, l2, y2, z2⟩, st2⟩ := X1.virtualBack hx (y := (⟨"com/example/pathfix/pathfix/wordnet/SynsetType", "isAdjective", "()Z"⟩ : MethodName)) (z := (⟨"com/example/pathfix/pathfix/wordnet/SynsetType", "isAdjective", "()Z"⟩ : MethodName)) hown (mvT hZ (hw _ (List.mem_of_getElem? (i := 4) rfl))) (mvT hZ (hw _ (List.mem_of_getElem? (i := 5) rfl))) (notFace_of_selects (args := #[]) (mvT hZ (hw _ (List.mem_of_getElem? (i := 7) rfl)))) (mvT hZ (hw _ (List.mem_of_getElem? (i := 7) rfl))) (mvT hZ (hw _ (List.mem_of_getElem? (i := 6) rfl))) (by decide) (backOf (W := 0) (rm1_s l Z a0 hw [] n0 h0 O w_NOUN w_ADJECTIVE w_ADJECTIVE_SATELLITE w_VERB w_ADVERB W  ) hZ (hw _ (List.mem_of_getElem? (i := 8) rfl)) (hw _ (List.mem_of_getElem? (i := 2) rfl)) (by decide) (by decide)) q2a q2c (g := (mkF m 59 #[.val (.int p0), .val (.int (3 : Int32)), .val (.ref w_ADJECTIVE_SATELLITE), .unset, .unset] [(.ref w_ADJECTIVE_SATELLITE)])) rfl (by rw [hml]; rfl) (Steps.refl _) (argsL := []) (rest := []) (lenOf owpd0 rfl) rfl (by show 2 * 0 + _ ≤ _; exact Nat.le_of_eq rfl) (hb hby at_59) (fun _ _ => ⟨rfl, e1, (by decide : 0 + 0 ≤ _), (by decide : 0 + 0 ≤ _)⟩)
  dsimp only [Pt.U, Pt.locs, Pt.cells, Pt.slots] at X2 l2 y2 z2 st2 hQ2
  subst l2 y2 z2
  obtain ⟨rfl, Nq2, e2⟩ := hQ2
  have N2 := Fr.app N0 Nq2
  obtain ⟨cq3, kq3, q3a, q3b, q3c⟩ := isOf hZ e2 (E_w_ADJECTIVE_SATELLITE.ext O.2)
  obtain ⟨_, _, ⟨T3, L3, k3, n3⟩, -, X3, ⟨Lc3, hQ3, l3, y3, z3⟩, st3⟩ := X2.virtualBack hx (y := (⟨"com/example/pathfix/pathfix/wordnet/SynsetType", "digit", "()C"⟩ : MethodName)) (z := (⟨"com/example/pathfix/pathfix/wordnet/SynsetType", "digit", "()C"⟩ : MethodName)) hown (mvT hZ (hw _ (List.mem_of_getElem? (i := 13) rfl))) (mvT hZ (hw _ (List.mem_of_getElem? (i := 14) rfl))) (notFace_of_selects (args := #[]) (mvT hZ (hw _ (List.mem_of_getElem? (i := 16) rfl)))) (mvT hZ (hw _ (List.mem_of_getElem? (i := 16) rfl))) (mvT hZ (hw _ (List.mem_of_getElem? (i := 15) rfl))) (by decide) (backOf (W := 1) (rm2_3 l Z a0 hw [] n0 h0 O w_NOUN w_ADJECTIVE w_ADJECTIVE_SATELLITE w_VERB w_ADVERB W  ) hZ (hw _ (List.mem_of_getElem? (i := 17) rfl)) (hw _ (List.mem_of_getElem? (i := 2) rfl)) (by decide) (by decide)) q3a q3c (g := (mkF m 88 #[.val (.int p0), .val (.int (3 : Int32)), .val (.ref w_ADJECTIVE_SATELLITE), .val (.int (1 : Int32)), .val (.int (1 : Int32))] [(.ref w_ADJECTIVE_SATELLITE), (.int (1 : Int32))])) rfl (by rw [hml]; rfl) (Steps.refl _) (argsL := []) (rest := [(.int (1 : Int32))]) (lenOf owpd1 rfl) rfl (by show 2 * 0 + _ ≤ _; exact Nat.le_of_eq rfl) (hb hby at_88) (fun _ _ => ⟨rfl, e2, (by decide : 0 + 0 ≤ _), (by decide : 0 + 0 ≤ _)⟩)
  dsimp only [Pt.U, Pt.locs, Pt.cells, Pt.slots] at X3 l3 y3 z3 st3 hQ3
  subst l3 y3 z3
  obtain ⟨rfl, Nq3, e3⟩ := hQ3
  have N3 := Fr.app N2 Nq3
  obtain ⟨fs, hr, hrun, hended, hW, hsame⟩ := X3.leave (v := some (.int (1 : Int32))) (fun h => by rw [Bd.returns] at h; cases h)
  refine ⟨_, _, pre0 _ ?_, hrun, hended, _, _, rfl, ?_, ⟨_, rfl⟩, hW, hsame.mono (by decide) (by decide)⟩
  · show Steps p.tables e below (s₁.setTop (mkF m 0 #[.val (.int p0), .unset, .unset, .unset, .unset] [])) _
    refine XS.iloadN X0.here hx rfl (hb hby at_0) rfl ?_
    show Steps p.tables e below (s₁.setTop (mkF m 1 #[.val (.int p0), .unset, .unset, .unset, .unset] [(.int p0)])) _
    refine X0.ldcInt hx hown (mvT hZ (hw _ (List.mem_of_getElem? (i := 0) rfl))) (g := (mkF m 1 #[.val (.int p0), .unset, .unset, .unset, .unset] [(.int p0)])) rfl (hb hby at_1) _ ?_
    show Steps p.tables e below (s₁.setTop (mkF m 3 #[.val (.int p0), .unset, .unset, .unset, .unset] [(.int (2147483647 : Int32)), (.int p0)])) _
    refine XS.iand X0.here hx rfl (hb hby at_3) rfl ?_
    show Steps p.tables e below (s₁.setTop (mkF m 4 #[.val (.int p0), .unset, .unset, .unset, .unset] [(.int (p0 &&& (2147483647 : Int32)))])) _
    refine XS.iconst X0.here hx rfl (hb hby at_4) ?_
    show Steps p.tables e below (s₁.setTop (mkF m 5 #[.val (.int p0), .unset, .unset, .unset, .unset] [(.int (5 : Int32)), (.int (p0 &&& (2147483647 : Int32)))])) _
    refine iremM X0 hx rfl (hb hby at_5) rfl (by decide) ?_
    show Steps p.tables e below (s₁.setTop (mkF m 6 #[.val (.int p0), .unset, .unset, .unset, .unset] [(.int ((p0 &&& (2147483647 : Int32)) % (5 : Int32)))])) _
    rw [hi]
    show Steps p.tables e below (s₁.setTop (mkF m 6 #[.val (.int p0), .unset, .unset, .unset, .unset] [(.int (3 : Int32))])) _
    refine XS.istoreN X0.here hx rfl (hb hby at_6) rfl (l' := #[.val (.int p0), .val (.int (3 : Int32)), .unset, .unset, .unset]) rfl ?_
    show Steps p.tables e below (s₁.setTop (mkF m 7 #[.val (.int p0), .val (.int (3 : Int32)), .unset, .unset, .unset] [])) _
    refine XS.iloadN X0.here hx rfl (hb hby at_7) rfl ?_
    show Steps p.tables e below (s₁.setTop (mkF m 8 #[.val (.int p0), .val (.int (3 : Int32)), .unset, .unset, .unset] [(.int (3 : Int32))])) _
    refine XS.ifYes X0.here hx rfl (pc0 := 8) (pc' := 18) rfl (hb hby at_8) rfl ((if0 _ _).trans (feq (by decide : ¬ ((3 : Int32) = (0 : Int32)))).2) (by decide) (by decide) ?_
    show Steps p.tables e below (s₁.setTop (mkF m 18 #[.val (.int p0), .val (.int (3 : Int32)), .unset, .unset, .unset] [])) _
    refine XS.iloadN X0.here hx rfl (hb hby at_18) rfl ?_
    show Steps p.tables e below (s₁.setTop (mkF m 19 #[.val (.int p0), .val (.int (3 : Int32)), .unset, .unset, .unset] [(.int (3 : Int32))])) _
    refine XS.iconst X0.here hx rfl (hb hby at_19) ?_
    show Steps p.tables e below (s₁.setTop (mkF m 20 #[.val (.int p0), .val (.int (3 : Int32)), .unset, .unset, .unset] [(.int (1 : Int32)), (.int (3 : Int32))])) _
    refine XS.icmpYes X0.here hx rfl (pc0 := 20) (pc' := 30) rfl (hb hby at_20) rfl (feq (by decide : ¬ ((3 : Int32) = (1 : Int32)))).2 (by decide) (by decide) ?_
    show Steps p.tables e below (s₁.setTop (mkF m 30 #[.val (.int p0), .val (.int (3 : Int32)), .unset, .unset, .unset] [])) _
    refine XS.iloadN X0.here hx rfl (hb hby at_30) rfl ?_
    show Steps p.tables e below (s₁.setTop (mkF m 31 #[.val (.int p0), .val (.int (3 : Int32)), .unset, .unset, .unset] [(.int (3 : Int32))])) _
    refine XS.iconst X0.here hx rfl (hb hby at_31) ?_
    show Steps p.tables e below (s₁.setTop (mkF m 32 #[.val (.int p0), .val (.int (3 : Int32)), .unset, .unset, .unset] [(.int (2 : Int32)), (.int (3 : Int32))])) _
    refine XS.icmpYes X0.here hx rfl (pc0 := 32) (pc' := 42) rfl (hb hby at_32) rfl (feq (by decide : ¬ ((3 : Int32) = (2 : Int32)))).2 (by decide) (by decide) ?_
    show Steps p.tables e below (s₁.setTop (mkF m 42 #[.val (.int p0), .val (.int (3 : Int32)), .unset, .unset, .unset] [])) _
    refine XS.iloadN X0.here hx rfl (hb hby at_42) rfl ?_
    show Steps p.tables e below (s₁.setTop (mkF m 43 #[.val (.int p0), .val (.int (3 : Int32)), .unset, .unset, .unset] [(.int (3 : Int32))])) _
    refine XS.iconst X0.here hx rfl (hb hby at_43) ?_
    show Steps p.tables e below (s₁.setTop (mkF m 44 #[.val (.int p0), .val (.int (3 : Int32)), .unset, .unset, .unset] [(.int (3 : Int32)), (.int (3 : Int32))])) _
    refine XS.icmpNo X0.here hx rfl (hb hby at_44) rfl (teq (by decide : (3 : Int32) = (3 : Int32))).2 ?_
    show Steps p.tables e below (s₁.setTop (mkF m 47 #[.val (.int p0), .val (.int (3 : Int32)), .unset, .unset, .unset] [])) _
    refine st1 _ ?_
    show Steps p.tables e below (T1.setTop (mkF m 50 #[.val (.int p0), .val (.int (3 : Int32)), .unset, .unset, .unset] [(.ref w_ADJECTIVE_SATELLITE)])) _
    refine XS.astoreN X1.here hx rfl (hb hby at_50) rfl rfl (l' := #[.val (.int p0), .val (.int (3 : Int32)), .val (.ref w_ADJECTIVE_SATELLITE), .unset, .unset]) rfl ?_
    show Steps p.tables e below (T1.setTop (mkF m 51 #[.val (.int p0), .val (.int (3 : Int32)), .val (.ref w_ADJECTIVE_SATELLITE), .unset, .unset] [])) _
    refine XS.goto X1.here hx rfl (pc0 := 51) (pc' := 58) rfl (hb hby at_51) (by decide) (by decide) ?_
    show Steps p.tables e below (T1.setTop (mkF m 58 #[.val (.int p0), .val (.int (3 : Int32)), .val (.ref w_ADJECTIVE_SATELLITE), .unset, .unset] [])) _
    refine XS.aloadN X1.here hx rfl (hb hby at_58) rfl rfl ?_
    show Steps p.tables e below (T1.setTop (mkF m 59 #[.val (.int p0), .val (.int (3 : Int32)), .val (.ref w_ADJECTIVE_SATELLITE), .unset, .unset] [(.ref w_ADJECTIVE_SATELLITE)])) _
    refine st2.trans ?_
    show Steps p.tables e below (T2.setTop (mkF m 62 #[.val (.int p0), .val (.int (3 : Int32)), .val (.ref w_ADJECTIVE_SATELLITE), .unset, .unset] [(.int (1 : Int32))])) _
    refine XS.istoreN X2.here hx rfl (hb hby at_62) rfl (l' := #[.val (.int p0), .val (.int (3 : Int32)), .val (.ref w_ADJECTIVE_SATELLITE), .val (.int (1 : Int32)), .unset]) rfl ?_
    show Steps p.tables e below (T2.setTop (mkF m 63 #[.val (.int p0), .val (.int (3 : Int32)), .val (.ref w_ADJECTIVE_SATELLITE), .val (.int (1 : Int32)), .unset] [])) _
    refine XS.iloadN X2.here hx rfl (hb hby at_63) rfl ?_
    show Steps p.tables e below (T2.setTop (mkF m 64 #[.val (.int p0), .val (.int (3 : Int32)), .val (.ref w_ADJECTIVE_SATELLITE), .val (.int (1 : Int32)), .unset] [(.int (3 : Int32))])) _
    refine XS.iconst X2.here hx rfl (hb hby at_64) ?_
    show Steps p.tables e below (T2.setTop (mkF m 65 #[.val (.int p0), .val (.int (3 : Int32)), .val (.ref w_ADJECTIVE_SATELLITE), .val (.int (1 : Int32)), .unset] [(.int (2 : Int32)), (.int (3 : Int32))])) _
    refine XS.icmpNo X2.here hx rfl (hb hby at_65) rfl (feq (by decide : ¬ ((3 : Int32) = (2 : Int32)))).1 ?_
    show Steps p.tables e below (T2.setTop (mkF m 68 #[.val (.int p0), .val (.int (3 : Int32)), .val (.ref w_ADJECTIVE_SATELLITE), .val (.int (1 : Int32)), .unset] [])) _
    refine XS.iloadN X2.here hx rfl (hb hby at_68) rfl ?_
    show Steps p.tables e below (T2.setTop (mkF m 69 #[.val (.int p0), .val (.int (3 : Int32)), .val (.ref w_ADJECTIVE_SATELLITE), .val (.int (1 : Int32)), .unset] [(.int (3 : Int32))])) _
    refine XS.iconst X2.here hx rfl (hb hby at_69) ?_
    show Steps p.tables e below (T2.setTop (mkF m 70 #[.val (.int p0), .val (.int (3 : Int32)), .val (.ref w_ADJECTIVE_SATELLITE), .val (.int (1 : Int32)), .unset] [(.int (3 : Int32)), (.int (3 : Int32))])) _
    refine XS.icmpNo X2.here hx rfl (hb hby at_70) rfl (teq (by decide : (3 : Int32) = (3 : Int32))).2 ?_
    show Steps p.tables e below (T2.setTop (mkF m 73 #[.val (.int p0), .val (.int (3 : Int32)), .val (.ref w_ADJECTIVE_SATELLITE), .val (.int (1 : Int32)), .unset] [])) _
    refine XS.iconst X2.here hx rfl (hb hby at_73) ?_
    show Steps p.tables e below (T2.setTop (mkF m 74 #[.val (.int p0), .val (.int (3 : Int32)), .val (.ref w_ADJECTIVE_SATELLITE), .val (.int (1 : Int32)), .unset] [(.int (1 : Int32))])) _
    refine XS.goto X2.here hx rfl (pc0 := 74) (pc' := 78) rfl (hb hby at_74) (by decide) (by decide) ?_
    show Steps p.tables e below (T2.setTop (mkF m 78 #[.val (.int p0), .val (.int (3 : Int32)), .val (.ref w_ADJECTIVE_SATELLITE), .val (.int (1 : Int32)), .unset] [(.int (1 : Int32))])) _
    refine XS.istore X2.here hx rfl (hb hby at_78) rfl (l' := #[.val (.int p0), .val (.int (3 : Int32)), .val (.ref w_ADJECTIVE_SATELLITE), .val (.int (1 : Int32)), .val (.int (1 : Int32))]) rfl ?_
    show Steps p.tables e below (T2.setTop (mkF m 80 #[.val (.int p0), .val (.int (3 : Int32)), .val (.ref w_ADJECTIVE_SATELLITE), .val (.int (1 : Int32)), .val (.int (1 : Int32))] [])) _
    refine XS.iloadN X2.here hx rfl (hb hby at_80) rfl ?_
    show Steps p.tables e below (T2.setTop (mkF m 81 #[.val (.int p0), .val (.int (3 : Int32)), .val (.ref w_ADJECTIVE_SATELLITE), .val (.int (1 : Int32)), .val (.int (1 : Int32))] [(.int (1 : Int32))])) _
    refine XS.iload X2.here hx rfl (hb hby at_81) rfl ?_
    show Steps p.tables e below (T2.setTop (mkF m 83 #[.val (.int p0), .val (.int (3 : Int32)), .val (.ref w_ADJECTIVE_SATELLITE), .val (.int (1 : Int32)), .val (.int (1 : Int32))] [(.int (1 : Int32)), (.int (1 : Int32))])) _
    refine XS.icmpNo X2.here hx rfl (hb hby at_83) rfl (teq (by decide : (1 : Int32) = (1 : Int32))).2 ?_
    show Steps p.tables e below (T2.setTop (mkF m 86 #[.val (.int p0), .val (.int (3 : Int32)), .val (.ref w_ADJECTIVE_SATELLITE), .val (.int (1 : Int32)), .val (.int (1 : Int32))] [])) _
    refine XS.iloadN X2.here hx rfl (hb hby at_86) rfl ?_
    show Steps p.tables e below (T2.setTop (mkF m 87 #[.val (.int p0), .val (.int (3 : Int32)), .val (.ref w_ADJECTIVE_SATELLITE), .val (.int (1 : Int32)), .val (.int (1 : Int32))] [(.int (1 : Int32))])) _
    refine XS.aloadN X2.here hx rfl (hb hby at_87) rfl rfl ?_
    show Steps p.tables e below (T2.setTop (mkF m 88 #[.val (.int p0), .val (.int (3 : Int32)), .val (.ref w_ADJECTIVE_SATELLITE), .val (.int (1 : Int32)), .val (.int (1 : Int32))] [(.ref w_ADJECTIVE_SATELLITE), (.int (1 : Int32))])) _
    refine st3.trans ?_
    show Steps p.tables e below (T3.setTop (mkF m 91 #[.val (.int p0), .val (.int (3 : Int32)), .val (.ref w_ADJECTIVE_SATELLITE), .val (.int (1 : Int32)), .val (.int (1 : Int32))] [(.int (51 : Int32)), (.int (1 : Int32))])) _
    refine XS.bipush X3.here hx rfl (hb hby at_91) ?_
    show Steps p.tables e below (T3.setTop (mkF m 93 #[.val (.int p0), .val (.int (3 : Int32)), .val (.ref w_ADJECTIVE_SATELLITE), .val (.int (1 : Int32)), .val (.int (1 : Int32))] [(.int (51 : Int32)), (.int (51 : Int32)), (.int (1 : Int32))])) _
    refine XS.icmpNo X3.here hx rfl (hb hby at_93) rfl (teq (by decide : (51 : Int32) = (51 : Int32))).2 ?_
    show Steps p.tables e below (T3.setTop (mkF m 96 #[.val (.int p0), .val (.int (3 : Int32)), .val (.ref w_ADJECTIVE_SATELLITE), .val (.int (1 : Int32)), .val (.int (1 : Int32))] [(.int (1 : Int32))])) _
    refine XS.iconst X3.here hx rfl (hb hby at_96) ?_
    show Steps p.tables e below (T3.setTop (mkF m 97 #[.val (.int p0), .val (.int (3 : Int32)), .val (.ref w_ADJECTIVE_SATELLITE), .val (.int (1 : Int32)), .val (.int (1 : Int32))] [(.int (1 : Int32)), (.int (1 : Int32))])) _
    refine XS.goto X3.here hx rfl (pc0 := 97) (pc' := 101) rfl (hb hby at_97) (by decide) (by decide) ?_
    show Steps p.tables e below (T3.setTop (mkF m 101 #[.val (.int p0), .val (.int (3 : Int32)), .val (.ref w_ADJECTIVE_SATELLITE), .val (.int (1 : Int32)), .val (.int (1 : Int32))] [(.int (1 : Int32)), (.int (1 : Int32))])) _
    refine XS.icmpNo X3.here hx rfl (hb hby at_101) rfl (teq (by decide : (1 : Int32) = (1 : Int32))).2 ?_
    show Steps p.tables e below (T3.setTop (mkF m 104 #[.val (.int p0), .val (.int (3 : Int32)), .val (.ref w_ADJECTIVE_SATELLITE), .val (.int (1 : Int32)), .val (.int (1 : Int32))] [])) _
    refine XS.iconst X3.here hx rfl (hb hby at_104) ?_
    show Steps p.tables e below (T3.setTop (mkF m 105 #[.val (.int p0), .val (.int (3 : Int32)), .val (.ref w_ADJECTIVE_SATELLITE), .val (.int (1 : Int32)), .val (.int (1 : Int32))] [(.int (1 : Int32))])) _
    refine XS.goto X3.here hx rfl (pc0 := 105) (pc' := 109) rfl (hb hby at_105) (by decide) (by decide) ?_
    show Steps p.tables e below (T3.setTop (mkF m 109 #[.val (.int p0), .val (.int (3 : Int32)), .val (.ref w_ADJECTIVE_SATELLITE), .val (.int (1 : Int32)), .val (.int (1 : Int32))] [(.int (1 : Int32))])) _
    exact retN X3 hx (t := .boolean) Bd.returns (by simp) (hb hby at_109) hr
  · exact ⟨N3, rfl⟩
set_option maxRecDepth 65536 in
set_option maxHeartbeats 40000000 in
theorem rm2_4 (l : Launch) (Z : State) (a0 : Array Value) (hw : ∀ d ∈ tables_1, d.before a0 Z = true) (ws : List Jvm.Cond) (n0 : Nat) (h0 : Heap) (O : Old Z n0 h0) (w_NOUN : Addr) (w_ADJECTIVE : Addr) (w_ADJECTIVE_SATELLITE : Addr) (w_VERB : Addr) (w_ADVERB : Addr) (W : OwW Z w_NOUN w_ADJECTIVE w_ADJECTIVE_SATELLITE w_VERB w_ADVERB)  :
    OwCon l (⟨"com/example/pathfix/pathfix/wordnet/SynsetType", "digit", "()C"⟩ : MethodName) prog_22_method_5_code 1 (some .char) ws ({ frames := 0, cells := 0, slots := 0, locals := 0 } : Room) #[(.ref w_ADVERB)] Z h0 (OwQ (some (.int (52 : Int32))) h0 n0) := by
  refine MetFree.of_bodySF (plainFor_of_name owpn2) hisR ?_
  intro p e s m args below meth c s₁ Bd hml0 hP hK
  obtain ⟨rfl, hZ, hh⟩ := hP
  have hx := Bd.exec
  have hby := Bd.bytes
  have hml : c.maxLocals = 1 := hml0
  have hown : s.vm.findClass "com/example/pathfix/pathfix/wordnet/SynsetType" = some m.cls := findClass_of_methodNamed Bd.named
  have hnm := (name_of_methodNamed Bd.named Bd.method).1
  have X0 : Stand p l e ({ frames := 0, cells := 0, slots := 0, locals := 0 } : Room) s m #[(.ref w_ADVERB)] below meth c s₁ [] 0 0 := Stand.of_body Bd
  have e0 : s₁.heap = h0 := by rw [← hh, Bd.state]; rfl
  have N0 := Fr.nil n0
  have WW := W
  obtain ⟨E_w_NOUN, E_w_ADJECTIVE, E_w_ADJECTIVE_SATELLITE, E_w_VERB, E_w_ADVERB, S_SynsetType_NOUN, S_SynsetType_ADJECTIVE, F_w_NOUN_ordinal, F_w_ADJECTIVE_ordinal, S_SynsetType_ADJECTIVE_SATELLITE, F_w_ADJECTIVE_SATELLITE_ordinal, F_w_NOUN_digit, F_w_ADJECTIVE_SATELLITE_digit, S_SynsetType_VERB, F_w_VERB_ordinal, F_w_VERB_digit, S_SynsetType_ADVERB, F_w_ADVERB_ordinal, F_w_ADVERB_digit, F_w_ADJECTIVE_digit, ne_w_NOUN_w_ADJECTIVE, ne_w_NOUN_w_ADJECTIVE_SATELLITE, ne_w_VERB_w_ADJECTIVE, ne_w_VERB_w_ADJECTIVE_SATELLITE, ne_w_ADVERB_w_ADJECTIVE, ne_w_ADVERB_w_ADJECTIVE_SATELLITE, ne_w_ADJECTIVE_SATELLITE_w_ADJECTIVE, -⟩ := WW
  have ef : entryFrame m #[(.ref w_ADVERB)] 1 = mkF m 0 #[.val (.ref w_ADVERB)] [] := by first | rfl | (simp [entryFrame, mkF, argsToLocals, Value.category]; done)
  have pre0 : ∀ t, Steps p.tables e below (s₁.setTop (mkF m 0 #[.val (.ref w_ADVERB)] [])) t → Steps p.tables e below (s₁.setTop (entryFrame m #[(.ref w_ADVERB)] 1)) t := fun t k => castTop ef k
  obtain ⟨T1, X1, e1, st1⟩ := getF X0 hx hZ hown (host := "") (Or.inl (hw _ (List.mem_of_getElem? (i := 18) rfl))) Via.refl e0 (F_w_ADVERB_digit.ext O.2) (g := (mkF m 1 #[.val (.ref w_ADVERB)] [(.ref w_ADVERB)])) rfl rfl (hb hby d2_1)
  obtain ⟨fs, hr, hrun, hended, hW, hsame⟩ := X1.leave (v := some (.int (52 : Int32))) (fun h => by rw [Bd.returns] at h; cases h)
  refine ⟨_, _, pre0 _ ?_, hrun, hended, _, _, rfl, ?_, ⟨_, rfl⟩, hW, hsame.mono (by decide) (by decide)⟩
  · show Steps p.tables e below (s₁.setTop (mkF m 0 #[.val (.ref w_ADVERB)] [])) _
    refine XS.aloadN X0.here hx rfl (hb hby d2_0) rfl rfl ?_
    show Steps p.tables e below (s₁.setTop (mkF m 1 #[.val (.ref w_ADVERB)] [(.ref w_ADVERB)])) _
    refine st1 _ ?_
    show Steps p.tables e below (T1.setTop (mkF m 4 #[.val (.ref w_ADVERB)] [(.int (52 : Int32))])) _
    exact retN X1 hx (t := .char) Bd.returns (by simp) (hb hby d2_4) hr
  · exact ⟨rfl, N0, e1⟩
set_option maxRecDepth 65536 in
set_option maxHeartbeats 40000000 in
theorem rm0_4 (l : Launch) (Z : State) (a0 : Array Value) (hw : ∀ d ∈ tables_1, d.before a0 Z = true) (ws : List Jvm.Cond) (n0 : Nat) (h0 : Heap) (O : Old Z n0 h0) (w_NOUN : Addr) (w_ADJECTIVE : Addr) (w_ADJECTIVE_SATELLITE : Addr) (w_VERB : Addr) (w_ADVERB : Addr) (W : OwW Z w_NOUN w_ADJECTIVE w_ADJECTIVE_SATELLITE w_VERB w_ADVERB) (p0 : Int32) (hi : (p0 &&& (2147483647 : Int32)) % (5 : Int32) = (4 : Int32)) :
    OwCon l x code maxLocals ret ws room_1 #[(.int p0)] Z h0 (OwP (fun v _ => v = some (.int 1)) n0) := by
  refine MetFree.of_bodySF (plainFor_of_name owpn0) hisR ?_
  intro p e s m args below meth c s₁ Bd hml0 hP hK
  obtain ⟨rfl, hZ, hh⟩ := hP
  have hx := Bd.exec
  have hby := Bd.bytes
  have hml : c.maxLocals = 5 := hml0
  have hown : s.vm.findClass "com/example/pathfix/pathfix/wordnet/SynsetTypeIsAdjectivePinLaw" = some m.cls := findClass_of_methodNamed Bd.named
  have hnm := (name_of_methodNamed Bd.named Bd.method).1
  have X0 : Stand p l e room_1 s m #[(.int p0)] below meth c s₁ [] 0 0 := Stand.of_body Bd
  have e0 : s₁.heap = h0 := by rw [← hh, Bd.state]; rfl
  have N0 := Fr.nil n0
  have WW := W
  obtain ⟨E_w_NOUN, E_w_ADJECTIVE, E_w_ADJECTIVE_SATELLITE, E_w_VERB, E_w_ADVERB, S_SynsetType_NOUN, S_SynsetType_ADJECTIVE, F_w_NOUN_ordinal, F_w_ADJECTIVE_ordinal, S_SynsetType_ADJECTIVE_SATELLITE, F_w_ADJECTIVE_SATELLITE_ordinal, F_w_NOUN_digit, F_w_ADJECTIVE_SATELLITE_digit, S_SynsetType_VERB, F_w_VERB_ordinal, F_w_VERB_digit, S_SynsetType_ADVERB, F_w_ADVERB_ordinal, F_w_ADVERB_digit, F_w_ADJECTIVE_digit, ne_w_NOUN_w_ADJECTIVE, ne_w_NOUN_w_ADJECTIVE_SATELLITE, ne_w_VERB_w_ADJECTIVE, ne_w_VERB_w_ADJECTIVE_SATELLITE, ne_w_ADVERB_w_ADJECTIVE, ne_w_ADVERB_w_ADJECTIVE_SATELLITE, ne_w_ADJECTIVE_SATELLITE_w_ADJECTIVE, -⟩ := WW
  have ef : entryFrame m #[(.int p0)] maxLocals = mkF m 0 #[.val (.int p0), .unset, .unset, .unset, .unset] [] := by first | rfl | (simp [entryFrame, mkF, argsToLocals, Value.category, maxLocals]; done)
  have pre0 : ∀ t, Steps p.tables e below (s₁.setTop (mkF m 0 #[.val (.int p0), .unset, .unset, .unset, .unset] [])) t → Steps p.tables e below (s₁.setTop (entryFrame m #[(.int p0)] maxLocals)) t := fun t k => castTop ef k
  obtain ⟨T1, X1, e1, st1⟩ := getS2 X0 hx hZ hown (host := "") (Or.inl (hw _ (List.mem_of_getElem? (i := 23) rfl))) Via.refl e0 (S_SynsetType_ADVERB.ext O.2) (g := (mkF m 54 #[.val (.int p0), .val (.int (4 : Int32)), .unset, .unset, .unset] [])) rfl (hb hby at_54)
  obtain ⟨cq2, kq2, q2a, q2b, q2c⟩ := isOf hZ e1 (E_w_ADVERB.ext O.2)
  obtain ⟨_, _, ⟨T2, L2, k2, n2⟩, -, X2, ⟨Lc2, hQ2, l2, y2, z2⟩, st2⟩ := X1.virtualBack hx (y := (⟨"com/example/pathfix/pathfix/wordnet/SynsetType", "isAdjective", "()Z"⟩ : MethodName)) (z := (⟨"com/example/pathfix/pathfix/wordnet/SynsetType", "isAdjective", "()Z"⟩ : MethodName)) hown (mvT hZ (hw _ (List.mem_of_getElem? (i := 4) rfl))) (mvT hZ (hw _ (List.mem_of_getElem? (i := 5) rfl))) (notFace_of_selects (args := #[]) (mvT hZ (hw _ (List.mem_of_getElem? (i := 7) rfl)))) (mvT hZ (hw _ (List.mem_of_getElem? (i := 7) rfl))) (mvT hZ (hw _ (List.mem_of_getElem? (i := 6) rfl))) (by decide) (backOf (W := 0) (rm1_o l Z a0 hw [] n0 h0 O w_NOUN w_ADJECTIVE w_ADJECTIVE_SATELLITE w_VERB w_ADVERB W w_ADVERB ne_w_ADVERB_w_ADJECTIVE ne_w_ADVERB_w_ADJECTIVE_SATELLITE) hZ (hw _ (List.mem_of_getElem? (i := 8) rfl)) (hw _ (List.mem_of_getElem? (i := 2) rfl)) (by decide) (by decide)) q2a q2c (g := (mkF m 59 #[.val (.int p0), .val (.int (4 : Int32)), .val (.ref w_ADVERB), .unset, .unset] [(.ref w_ADVERB)])) rfl (by rw [hml]; rfl) (Steps.refl _) (argsL := []) (rest := []) (lenOf owpd0 rfl) rfl (by show 2 * 0 + _ ≤ _; exact Nat.le_of_eq rfl) (hb hby at_59) (fun _ _ => ⟨rfl, e1, (by decide : 0 + 0 ≤ _), (by decide : 0 + 0 ≤ _)⟩)
  dsimp only [Pt.U, Pt.locs, Pt.cells, Pt.slots] at X2 l2 y2 z2 st2 hQ2
  subst l2 y2 z2
  obtain ⟨rfl, Nq2, e2⟩ := hQ2
  have N2 := Fr.app N0 Nq2
  obtain ⟨cq3, kq3, q3a, q3b, q3c⟩ := isOf hZ e2 (E_w_ADVERB.ext O.2)
  obtain ⟨_, _, ⟨T3, L3, k3, n3⟩, -, X3, ⟨Lc3, hQ3, l3, y3, z3⟩, st3⟩ := X2.virtualBack hx (y := (⟨"com/example/pathfix/pathfix/wordnet/SynsetType", "digit", "()C"⟩ : MethodName)) (z := (⟨"com/example/pathfix/pathfix/wordnet/SynsetType", "digit", "()C"⟩ : MethodName)) hown (mvT hZ (hw _ (List.mem_of_getElem? (i := 13) rfl))) (mvT hZ (hw _ (List.mem_of_getElem? (i := 14) rfl))) (notFace_of_selects (args := #[]) (mvT hZ (hw _ (List.mem_of_getElem? (i := 16) rfl)))) (mvT hZ (hw _ (List.mem_of_getElem? (i := 16) rfl))) (mvT hZ (hw _ (List.mem_of_getElem? (i := 15) rfl))) (by decide) (backOf (W := 1) (rm2_4 l Z a0 hw [] n0 h0 O w_NOUN w_ADJECTIVE w_ADJECTIVE_SATELLITE w_VERB w_ADVERB W  ) hZ (hw _ (List.mem_of_getElem? (i := 17) rfl)) (hw _ (List.mem_of_getElem? (i := 2) rfl)) (by decide) (by decide)) q3a q3c (g := (mkF m 88 #[.val (.int p0), .val (.int (4 : Int32)), .val (.ref w_ADVERB), .val (.int (0 : Int32)), .val (.int (0 : Int32))] [(.ref w_ADVERB), (.int (0 : Int32))])) rfl (by rw [hml]; rfl) (Steps.refl _) (argsL := []) (rest := [(.int (0 : Int32))]) (lenOf owpd1 rfl) rfl (by show 2 * 0 + _ ≤ _; exact Nat.le_of_eq rfl) (hb hby at_88) (fun _ _ => ⟨rfl, e2, (by decide : 0 + 0 ≤ _), (by decide : 0 + 0 ≤ _)⟩)
  dsimp only [Pt.U, Pt.locs, Pt.cells, Pt.slots] at X3 l3 y3 z3 st3 hQ3
  subst l3 y3 z3
  obtain ⟨rfl, Nq3, e3⟩ := hQ3
  have N3 := Fr.app N2 Nq3
  obtain ⟨fs, hr, hrun, hended, hW, hsame⟩ := X3.leave (v := some (.int (1 : Int32))) (fun h => by rw [Bd.returns] at h; cases h)
  refine ⟨_, _, pre0 _ ?_, hrun, hended, _, _, rfl, ?_, ⟨_, rfl⟩, hW, hsame.mono (by decide) (by decide)⟩
  · show Steps p.tables e below (s₁.setTop (mkF m 0 #[.val (.int p0), .unset, .unset, .unset, .unset] [])) _
    refine XS.iloadN X0.here hx rfl (hb hby at_0) rfl ?_
    show Steps p.tables e below (s₁.setTop (mkF m 1 #[.val (.int p0), .unset, .unset, .unset, .unset] [(.int p0)])) _
    refine X0.ldcInt hx hown (mvT hZ (hw _ (List.mem_of_getElem? (i := 0) rfl))) (g := (mkF m 1 #[.val (.int p0), .unset, .unset, .unset, .unset] [(.int p0)])) rfl (hb hby at_1) _ ?_
    show Steps p.tables e below (s₁.setTop (mkF m 3 #[.val (.int p0), .unset, .unset, .unset, .unset] [(.int (2147483647 : Int32)), (.int p0)])) _
    refine XS.iand X0.here hx rfl (hb hby at_3) rfl ?_
    show Steps p.tables e below (s₁.setTop (mkF m 4 #[.val (.int p0), .unset, .unset, .unset, .unset] [(.int (p0 &&& (2147483647 : Int32)))])) _
    refine XS.iconst X0.here hx rfl (hb hby at_4) ?_
    show Steps p.tables e below (s₁.setTop (mkF m 5 #[.val (.int p0), .unset, .unset, .unset, .unset] [(.int (5 : Int32)), (.int (p0 &&& (2147483647 : Int32)))])) _
    refine iremM X0 hx rfl (hb hby at_5) rfl (by decide) ?_
    show Steps p.tables e below (s₁.setTop (mkF m 6 #[.val (.int p0), .unset, .unset, .unset, .unset] [(.int ((p0 &&& (2147483647 : Int32)) % (5 : Int32)))])) _
    rw [hi]
    show Steps p.tables e below (s₁.setTop (mkF m 6 #[.val (.int p0), .unset, .unset, .unset, .unset] [(.int (4 : Int32))])) _
    refine XS.istoreN X0.here hx rfl (hb hby at_6) rfl (l' := #[.val (.int p0), .val (.int (4 : Int32)), .unset, .unset, .unset]) rfl ?_
    show Steps p.tables e below (s₁.setTop (mkF m 7 #[.val (.int p0), .val (.int (4 : Int32)), .unset, .unset, .unset] [])) _
    refine XS.iloadN X0.here hx rfl (hb hby at_7) rfl ?_
    show Steps p.tables e below (s₁.setTop (mkF m 8 #[.val (.int p0), .val (.int (4 : Int32)), .unset, .unset, .unset] [(.int (4 : Int32))])) _
    refine XS.ifYes X0.here hx rfl (pc0 := 8) (pc' := 18) rfl (hb hby at_8) rfl ((if0 _ _).trans (feq (by decide : ¬ ((4 : Int32) = (0 : Int32)))).2) (by decide) (by decide) ?_
    show Steps p.tables e below (s₁.setTop (mkF m 18 #[.val (.int p0), .val (.int (4 : Int32)), .unset, .unset, .unset] [])) _
    refine XS.iloadN X0.here hx rfl (hb hby at_18) rfl ?_
    show Steps p.tables e below (s₁.setTop (mkF m 19 #[.val (.int p0), .val (.int (4 : Int32)), .unset, .unset, .unset] [(.int (4 : Int32))])) _
    refine XS.iconst X0.here hx rfl (hb hby at_19) ?_
    show Steps p.tables e below (s₁.setTop (mkF m 20 #[.val (.int p0), .val (.int (4 : Int32)), .unset, .unset, .unset] [(.int (1 : Int32)), (.int (4 : Int32))])) _
    refine XS.icmpYes X0.here hx rfl (pc0 := 20) (pc' := 30) rfl (hb hby at_20) rfl (feq (by decide : ¬ ((4 : Int32) = (1 : Int32)))).2 (by decide) (by decide) ?_
    show Steps p.tables e below (s₁.setTop (mkF m 30 #[.val (.int p0), .val (.int (4 : Int32)), .unset, .unset, .unset] [])) _
    refine XS.iloadN X0.here hx rfl (hb hby at_30) rfl ?_
    show Steps p.tables e below (s₁.setTop (mkF m 31 #[.val (.int p0), .val (.int (4 : Int32)), .unset, .unset, .unset] [(.int (4 : Int32))])) _
    refine XS.iconst X0.here hx rfl (hb hby at_31) ?_
    show Steps p.tables e below (s₁.setTop (mkF m 32 #[.val (.int p0), .val (.int (4 : Int32)), .unset, .unset, .unset] [(.int (2 : Int32)), (.int (4 : Int32))])) _
    refine XS.icmpYes X0.here hx rfl (pc0 := 32) (pc' := 42) rfl (hb hby at_32) rfl (feq (by decide : ¬ ((4 : Int32) = (2 : Int32)))).2 (by decide) (by decide) ?_
    show Steps p.tables e below (s₁.setTop (mkF m 42 #[.val (.int p0), .val (.int (4 : Int32)), .unset, .unset, .unset] [])) _
    refine XS.iloadN X0.here hx rfl (hb hby at_42) rfl ?_
    show Steps p.tables e below (s₁.setTop (mkF m 43 #[.val (.int p0), .val (.int (4 : Int32)), .unset, .unset, .unset] [(.int (4 : Int32))])) _
    refine XS.iconst X0.here hx rfl (hb hby at_43) ?_
    show Steps p.tables e below (s₁.setTop (mkF m 44 #[.val (.int p0), .val (.int (4 : Int32)), .unset, .unset, .unset] [(.int (3 : Int32)), (.int (4 : Int32))])) _
    refine XS.icmpYes X0.here hx rfl (pc0 := 44) (pc' := 54) rfl (hb hby at_44) rfl (feq (by decide : ¬ ((4 : Int32) = (3 : Int32)))).2 (by decide) (by decide) ?_
    show Steps p.tables e below (s₁.setTop (mkF m 54 #[.val (.int p0), .val (.int (4 : Int32)), .unset, .unset, .unset] [])) _
    refine st1 _ ?_
    show Steps p.tables e below (T1.setTop (mkF m 57 #[.val (.int p0), .val (.int (4 : Int32)), .unset, .unset, .unset] [(.ref w_ADVERB)])) _
    refine XS.astoreN X1.here hx rfl (hb hby at_57) rfl rfl (l' := #[.val (.int p0), .val (.int (4 : Int32)), .val (.ref w_ADVERB), .unset, .unset]) rfl ?_
    show Steps p.tables e below (T1.setTop (mkF m 58 #[.val (.int p0), .val (.int (4 : Int32)), .val (.ref w_ADVERB), .unset, .unset] [])) _
    refine XS.aloadN X1.here hx rfl (hb hby at_58) rfl rfl ?_
    show Steps p.tables e below (T1.setTop (mkF m 59 #[.val (.int p0), .val (.int (4 : Int32)), .val (.ref w_ADVERB), .unset, .unset] [(.ref w_ADVERB)])) _
    refine st2.trans ?_
    show Steps p.tables e below (T2.setTop (mkF m 62 #[.val (.int p0), .val (.int (4 : Int32)), .val (.ref w_ADVERB), .unset, .unset] [(.int (0 : Int32))])) _
    refine XS.istoreN X2.here hx rfl (hb hby at_62) rfl (l' := #[.val (.int p0), .val (.int (4 : Int32)), .val (.ref w_ADVERB), .val (.int (0 : Int32)), .unset]) rfl ?_
    show Steps p.tables e below (T2.setTop (mkF m 63 #[.val (.int p0), .val (.int (4 : Int32)), .val (.ref w_ADVERB), .val (.int (0 : Int32)), .unset] [])) _
    refine XS.iloadN X2.here hx rfl (hb hby at_63) rfl ?_
    show Steps p.tables e below (T2.setTop (mkF m 64 #[.val (.int p0), .val (.int (4 : Int32)), .val (.ref w_ADVERB), .val (.int (0 : Int32)), .unset] [(.int (4 : Int32))])) _
    refine XS.iconst X2.here hx rfl (hb hby at_64) ?_
    show Steps p.tables e below (T2.setTop (mkF m 65 #[.val (.int p0), .val (.int (4 : Int32)), .val (.ref w_ADVERB), .val (.int (0 : Int32)), .unset] [(.int (2 : Int32)), (.int (4 : Int32))])) _
    refine XS.icmpNo X2.here hx rfl (hb hby at_65) rfl (feq (by decide : ¬ ((4 : Int32) = (2 : Int32)))).1 ?_
    show Steps p.tables e below (T2.setTop (mkF m 68 #[.val (.int p0), .val (.int (4 : Int32)), .val (.ref w_ADVERB), .val (.int (0 : Int32)), .unset] [])) _
    refine XS.iloadN X2.here hx rfl (hb hby at_68) rfl ?_
    show Steps p.tables e below (T2.setTop (mkF m 69 #[.val (.int p0), .val (.int (4 : Int32)), .val (.ref w_ADVERB), .val (.int (0 : Int32)), .unset] [(.int (4 : Int32))])) _
    refine XS.iconst X2.here hx rfl (hb hby at_69) ?_
    show Steps p.tables e below (T2.setTop (mkF m 70 #[.val (.int p0), .val (.int (4 : Int32)), .val (.ref w_ADVERB), .val (.int (0 : Int32)), .unset] [(.int (3 : Int32)), (.int (4 : Int32))])) _
    refine XS.icmpYes X2.here hx rfl (pc0 := 70) (pc' := 77) rfl (hb hby at_70) rfl (feq (by decide : ¬ ((4 : Int32) = (3 : Int32)))).2 (by decide) (by decide) ?_
    show Steps p.tables e below (T2.setTop (mkF m 77 #[.val (.int p0), .val (.int (4 : Int32)), .val (.ref w_ADVERB), .val (.int (0 : Int32)), .unset] [])) _
    refine XS.iconst X2.here hx rfl (hb hby at_77) ?_
    show Steps p.tables e below (T2.setTop (mkF m 78 #[.val (.int p0), .val (.int (4 : Int32)), .val (.ref w_ADVERB), .val (.int (0 : Int32)), .unset] [(.int (0 : Int32))])) _
    refine XS.istore X2.here hx rfl (hb hby at_78) rfl (l' := #[.val (.int p0), .val (.int (4 : Int32)), .val (.ref w_ADVERB), .val (.int (0 : Int32)), .val (.int (0 : Int32))]) rfl ?_
    show Steps p.tables e below (T2.setTop (mkF m 80 #[.val (.int p0), .val (.int (4 : Int32)), .val (.ref w_ADVERB), .val (.int (0 : Int32)), .val (.int (0 : Int32))] [])) _
    refine XS.iloadN X2.here hx rfl (hb hby at_80) rfl ?_
    show Steps p.tables e below (T2.setTop (mkF m 81 #[.val (.int p0), .val (.int (4 : Int32)), .val (.ref w_ADVERB), .val (.int (0 : Int32)), .val (.int (0 : Int32))] [(.int (0 : Int32))])) _
    refine XS.iload X2.here hx rfl (hb hby at_81) rfl ?_
    show Steps p.tables e below (T2.setTop (mkF m 83 #[.val (.int p0), .val (.int (4 : Int32)), .val (.ref w_ADVERB), .val (.int (0 : Int32)), .val (.int (0 : Int32))] [(.int (0 : Int32)), (.int (0 : Int32))])) _
    refine XS.icmpNo X2.here hx rfl (hb hby at_83) rfl (teq (by decide : (0 : Int32) = (0 : Int32))).2 ?_
    show Steps p.tables e below (T2.setTop (mkF m 86 #[.val (.int p0), .val (.int (4 : Int32)), .val (.ref w_ADVERB), .val (.int (0 : Int32)), .val (.int (0 : Int32))] [])) _
    refine XS.iloadN X2.here hx rfl (hb hby at_86) rfl ?_
    show Steps p.tables e below (T2.setTop (mkF m 87 #[.val (.int p0), .val (.int (4 : Int32)), .val (.ref w_ADVERB), .val (.int (0 : Int32)), .val (.int (0 : Int32))] [(.int (0 : Int32))])) _
    refine XS.aloadN X2.here hx rfl (hb hby at_87) rfl rfl ?_
    show Steps p.tables e below (T2.setTop (mkF m 88 #[.val (.int p0), .val (.int (4 : Int32)), .val (.ref w_ADVERB), .val (.int (0 : Int32)), .val (.int (0 : Int32))] [(.ref w_ADVERB), (.int (0 : Int32))])) _
    refine st3.trans ?_
    show Steps p.tables e below (T3.setTop (mkF m 91 #[.val (.int p0), .val (.int (4 : Int32)), .val (.ref w_ADVERB), .val (.int (0 : Int32)), .val (.int (0 : Int32))] [(.int (52 : Int32)), (.int (0 : Int32))])) _
    refine XS.bipush X3.here hx rfl (hb hby at_91) ?_
    show Steps p.tables e below (T3.setTop (mkF m 93 #[.val (.int p0), .val (.int (4 : Int32)), .val (.ref w_ADVERB), .val (.int (0 : Int32)), .val (.int (0 : Int32))] [(.int (51 : Int32)), (.int (52 : Int32)), (.int (0 : Int32))])) _
    refine XS.icmpYes X3.here hx rfl (pc0 := 93) (pc' := 100) rfl (hb hby at_93) rfl (feq (by decide : ¬ ((52 : Int32) = (51 : Int32)))).2 (by decide) (by decide) ?_
    show Steps p.tables e below (T3.setTop (mkF m 100 #[.val (.int p0), .val (.int (4 : Int32)), .val (.ref w_ADVERB), .val (.int (0 : Int32)), .val (.int (0 : Int32))] [(.int (0 : Int32))])) _
    refine XS.iconst X3.here hx rfl (hb hby at_100) ?_
    show Steps p.tables e below (T3.setTop (mkF m 101 #[.val (.int p0), .val (.int (4 : Int32)), .val (.ref w_ADVERB), .val (.int (0 : Int32)), .val (.int (0 : Int32))] [(.int (0 : Int32)), (.int (0 : Int32))])) _
    refine XS.icmpNo X3.here hx rfl (hb hby at_101) rfl (teq (by decide : (0 : Int32) = (0 : Int32))).2 ?_
    show Steps p.tables e below (T3.setTop (mkF m 104 #[.val (.int p0), .val (.int (4 : Int32)), .val (.ref w_ADVERB), .val (.int (0 : Int32)), .val (.int (0 : Int32))] [])) _
    refine XS.iconst X3.here hx rfl (hb hby at_104) ?_
    show Steps p.tables e below (T3.setTop (mkF m 105 #[.val (.int p0), .val (.int (4 : Int32)), .val (.ref w_ADVERB), .val (.int (0 : Int32)), .val (.int (0 : Int32))] [(.int (1 : Int32))])) _
    refine XS.goto X3.here hx rfl (pc0 := 105) (pc' := 109) rfl (hb hby at_105) (by decide) (by decide) ?_
    show Steps p.tables e below (T3.setTop (mkF m 109 #[.val (.int p0), .val (.int (4 : Int32)), .val (.ref w_ADVERB), .val (.int (0 : Int32)), .val (.int (0 : Int32))] [(.int (1 : Int32))])) _
    exact retN X3 hx (t := .boolean) Bd.returns (by simp) (hb hby at_109) hr
  · exact ⟨N3, rfl⟩
set_option maxRecDepth 65536 in
set_option maxHeartbeats 40000000 in
theorem comes_1 {Post : Tables → Env → Array Value → State → Outcome → State → Prop} (hpost : ∀ tb e args s v u, (limb_1_1.after args s (.returned v) u = true ∧ limb_1_2.after args s (.returned v) u = true ∧ True) → FrameEnd s (.returned v) u (Jvm.fieldLocs frame_1_writes args s ++ Jvm.arrayLocs frame_1_arrays args s ++ Jvm.staticLocs frame_1_statics s) 0 0 → Post tb e args s (.returned v) u) :
    ArmFor flags0 classFile x code maxLocals ret World_1 tables_1 room_1 Calls_1 rest_1 Pre_1 Post := by
  intro l hfl _ _ p e ha hc hk s m args below hf hA hF happ hP
  obtain ⟨hcalls, hrest, hpre⟩ := hP
  obtain ⟨-, -, -, hnamed, -, -, -, hat⟩ := (Spec.applies_iff hf).mp happ
  obtain ⟨hg, hn⟩ := and_e (Cond.before_iff.mp (show (Jvm.Cond.and given_1 narrow_1).before args s = true from hpre))
  obtain ⟨ga1, gb1⟩ := and_e hg
  obtain ⟨w0, rfl⟩ : ∃ w0 : Value, args = #[w0] := by
    have hs : args.size = 1 := by simpa [Cond.value, given_1] using ga1
    obtain ⟨L⟩ := args
    match L, hs with
    | [w0], _ => exact ⟨w0, rfl⟩
  have hw := fun d (hd : d ∈ tables_1) => atoms_spec (ws := Jvm.Cond.code x code maxLocals ret :: tables_1) hat d (List.mem_cons_of_mem _ hd)
  have hfit : Fit s := fun {y c} hc i hi => by
    obtain ⟨ha, rfl⟩ := Array.getElem?_eq_some_iff.mp hc
    have q := List.all_eq_true.mp ((Array.all_eq_true_iff_forall_mem.mp hF) _ (Array.getElem_mem ha)) i (List.mem_range.mpr hi)
    simpa [Array.getElem?_eq_getElem hi] using q
  obtain ⟨i0, ei0⟩ := is_v gb1
  obtain rfl : w0 = (.int i0) := Option.some.inj ei0
  obtain ⟨nn1, nn2⟩ := and_e hn
  obtain ⟨nn3, nn4⟩ := and_e nn2
  obtain ⟨nn5, nn6⟩ := and_e nn4
  obtain ⟨nn7, nn8⟩ := and_e nn6
  obtain ⟨nn9, nn10⟩ := and_e nn8
  obtain ⟨nn11, nn12⟩ := and_e nn10
  obtain ⟨nn13, nn14⟩ := and_e nn12
  obtain ⟨nn15, nn16⟩ := and_e nn14
  obtain ⟨nn17, nn18⟩ := and_e nn16
  obtain ⟨nn19, nn20⟩ := and_e nn18
  obtain ⟨nn21, nn22⟩ := and_e nn20
  obtain ⟨nn23, nn24⟩ := and_e nn22
  obtain ⟨nn25, nn26⟩ := and_e nn24
  obtain ⟨nn27, nn28⟩ := and_e nn26
  obtain ⟨w_NOUN, ev_w_NOUN⟩ := exa_v nn1
  have E_w_NOUN : Exa s s.heap w_NOUN "com/example/pathfix/pathfix/wordnet/SynsetType" := Exa.start ev_w_NOUN nn1
  obtain ⟨w_ADJECTIVE, ev_w_ADJECTIVE⟩ := exa_v nn3
  have E_w_ADJECTIVE : Exa s s.heap w_ADJECTIVE "com/example/pathfix/pathfix/wordnet/SynsetType" := Exa.start ev_w_ADJECTIVE nn3
  have ev29 := own_eqI nn5
  have ev30 := own_eqI nn7
  obtain ⟨w_ADJECTIVE_SATELLITE, ev_w_ADJECTIVE_SATELLITE⟩ := exa_v nn9
  have E_w_ADJECTIVE_SATELLITE : Exa s s.heap w_ADJECTIVE_SATELLITE "com/example/pathfix/pathfix/wordnet/SynsetType" := Exa.start ev_w_ADJECTIVE_SATELLITE nn9
  have ev31 := own_eqI nn11
  have ev32 := own_eqI nn13
  have ev33 := own_eqI nn15
  obtain ⟨w_VERB, ev_w_VERB⟩ := exa_v nn17
  have E_w_VERB : Exa s s.heap w_VERB "com/example/pathfix/pathfix/wordnet/SynsetType" := Exa.start ev_w_VERB nn17
  have ev34 := own_eqI nn19
  have ev35 := own_eqI nn21
  obtain ⟨w_ADVERB, ev_w_ADVERB⟩ := exa_v nn23
  have E_w_ADVERB : Exa s s.heap w_ADVERB "com/example/pathfix/pathfix/wordnet/SynsetType" := Exa.start ev_w_ADVERB nn23
  have ev36 := own_eqI nn25
  have ev37 := own_eqI nn27
  have ev38 := own_eqI nn28
  have S_SynsetType_NOUN : Sta s s.heap "com/example/pathfix/pathfix/wordnet/SynsetType" "NOUN" "Lcom/example/pathfix/pathfix/wordnet/SynsetType;" (.ref w_NOUN) := Sta.start ev_w_NOUN (Or.inr ⟨(hw _ (List.mem_of_getElem? (i := 2) rfl)), (hw _ (List.mem_of_getElem? (i := 3) rfl))⟩)
  have S_SynsetType_ADJECTIVE : Sta s s.heap "com/example/pathfix/pathfix/wordnet/SynsetType" "ADJECTIVE" "Lcom/example/pathfix/pathfix/wordnet/SynsetType;" (.ref w_ADJECTIVE) := Sta.start ev_w_ADJECTIVE (Or.inr ⟨(hw _ (List.mem_of_getElem? (i := 2) rfl)), (hw _ (List.mem_of_getElem? (i := 10) rfl))⟩)
  have F_w_NOUN_ordinal : Fld s s.heap w_NOUN "java/lang/Enum" "ordinal" "I" (.int (0 : Int32)) := own_fld ev_w_NOUN ev29
  have F_w_ADJECTIVE_ordinal : Fld s s.heap w_ADJECTIVE "java/lang/Enum" "ordinal" "I" (.int (2 : Int32)) := own_fld ev_w_ADJECTIVE ev30
  have S_SynsetType_ADJECTIVE_SATELLITE : Sta s s.heap "com/example/pathfix/pathfix/wordnet/SynsetType" "ADJECTIVE_SATELLITE" "Lcom/example/pathfix/pathfix/wordnet/SynsetType;" (.ref w_ADJECTIVE_SATELLITE) := Sta.start ev_w_ADJECTIVE_SATELLITE (Or.inr ⟨(hw _ (List.mem_of_getElem? (i := 2) rfl)), (hw _ (List.mem_of_getElem? (i := 12) rfl))⟩)
  have F_w_ADJECTIVE_SATELLITE_ordinal : Fld s s.heap w_ADJECTIVE_SATELLITE "java/lang/Enum" "ordinal" "I" (.int (3 : Int32)) := own_fld ev_w_ADJECTIVE_SATELLITE ev31
  have F_w_NOUN_digit : Fld s s.heap w_NOUN "com/example/pathfix/pathfix/wordnet/SynsetType" "digit" "C" (.int (49 : Int32)) := own_fld ev_w_NOUN ev32
  have F_w_ADJECTIVE_SATELLITE_digit : Fld s s.heap w_ADJECTIVE_SATELLITE "com/example/pathfix/pathfix/wordnet/SynsetType" "digit" "C" (.int (51 : Int32)) := own_fld ev_w_ADJECTIVE_SATELLITE ev33
  have S_SynsetType_VERB : Sta s s.heap "com/example/pathfix/pathfix/wordnet/SynsetType" "VERB" "Lcom/example/pathfix/pathfix/wordnet/SynsetType;" (.ref w_VERB) := Sta.start ev_w_VERB (Or.inr ⟨(hw _ (List.mem_of_getElem? (i := 2) rfl)), (hw _ (List.mem_of_getElem? (i := 22) rfl))⟩)
  have F_w_VERB_ordinal : Fld s s.heap w_VERB "java/lang/Enum" "ordinal" "I" (.int (1 : Int32)) := own_fld ev_w_VERB ev34
  have F_w_VERB_digit : Fld s s.heap w_VERB "com/example/pathfix/pathfix/wordnet/SynsetType" "digit" "C" (.int (50 : Int32)) := own_fld ev_w_VERB ev35
  have S_SynsetType_ADVERB : Sta s s.heap "com/example/pathfix/pathfix/wordnet/SynsetType" "ADVERB" "Lcom/example/pathfix/pathfix/wordnet/SynsetType;" (.ref w_ADVERB) := Sta.start ev_w_ADVERB (Or.inr ⟨(hw _ (List.mem_of_getElem? (i := 2) rfl)), (hw _ (List.mem_of_getElem? (i := 24) rfl))⟩)
  have F_w_ADVERB_ordinal : Fld s s.heap w_ADVERB "java/lang/Enum" "ordinal" "I" (.int (4 : Int32)) := own_fld ev_w_ADVERB ev36
  have F_w_ADVERB_digit : Fld s s.heap w_ADVERB "com/example/pathfix/pathfix/wordnet/SynsetType" "digit" "C" (.int (52 : Int32)) := own_fld ev_w_ADVERB ev37
  have F_w_ADJECTIVE_digit : Fld s s.heap w_ADJECTIVE "com/example/pathfix/pathfix/wordnet/SynsetType" "digit" "C" (.int (51 : Int32)) := own_fld ev_w_ADJECTIVE ev38
  have ne_w_NOUN_w_ADJECTIVE : w_NOUN ≠ w_ADJECTIVE := F_w_NOUN_ordinal.ne F_w_ADJECTIVE_ordinal (by decide)
  have ne_w_NOUN_w_ADJECTIVE_SATELLITE : w_NOUN ≠ w_ADJECTIVE_SATELLITE := F_w_NOUN_ordinal.ne F_w_ADJECTIVE_SATELLITE_ordinal (by decide)
  have ne_w_VERB_w_ADJECTIVE : w_VERB ≠ w_ADJECTIVE := F_w_VERB_ordinal.ne F_w_ADJECTIVE_ordinal (by decide)
  have ne_w_VERB_w_ADJECTIVE_SATELLITE : w_VERB ≠ w_ADJECTIVE_SATELLITE := F_w_VERB_ordinal.ne F_w_ADJECTIVE_SATELLITE_ordinal (by decide)
  have ne_w_ADVERB_w_ADJECTIVE : w_ADVERB ≠ w_ADJECTIVE := F_w_ADVERB_ordinal.ne F_w_ADJECTIVE_ordinal (by decide)
  have ne_w_ADVERB_w_ADJECTIVE_SATELLITE : w_ADVERB ≠ w_ADJECTIVE_SATELLITE := F_w_ADVERB_ordinal.ne F_w_ADJECTIVE_SATELLITE_ordinal (by decide)
  have ne_w_ADJECTIVE_SATELLITE_w_ADJECTIVE : w_ADJECTIVE_SATELLITE ≠ w_ADJECTIVE := F_w_ADJECTIVE_SATELLITE_ordinal.ne F_w_ADJECTIVE_ordinal (by decide)
  have W : OwW s w_NOUN w_ADJECTIVE w_ADJECTIVE_SATELLITE w_VERB w_ADVERB := ⟨E_w_NOUN, E_w_ADJECTIVE, E_w_ADJECTIVE_SATELLITE, E_w_VERB, E_w_ADVERB, S_SynsetType_NOUN, S_SynsetType_ADJECTIVE, F_w_NOUN_ordinal, F_w_ADJECTIVE_ordinal, S_SynsetType_ADJECTIVE_SATELLITE, F_w_ADJECTIVE_SATELLITE_ordinal, F_w_NOUN_digit, F_w_ADJECTIVE_SATELLITE_digit, S_SynsetType_VERB, F_w_VERB_ordinal, F_w_VERB_digit, S_SynsetType_ADVERB, F_w_ADVERB_ordinal, F_w_ADVERB_digit, F_w_ADJECTIVE_digit, ne_w_NOUN_w_ADJECTIVE, ne_w_NOUN_w_ADJECTIVE_SATELLITE, ne_w_VERB_w_ADJECTIVE, ne_w_VERB_w_ADJECTIVE_SATELLITE, ne_w_ADVERB_w_ADJECTIVE, ne_w_ADVERB_w_ADJECTIVE_SATELLITE, ne_w_ADJECTIVE_SATELLITE_w_ADJECTIVE, trivial⟩
  have fin : OwCon l x code maxLocals ret tables_1 room_1 #[(.int i0)] s s.heap (OwP (fun v _ => v = some (.int 1)) s.heap.size) := by
    rcases own_i5 i0 with h | h | h | h | h
    · exact rm0_0 l s _ hw tables_1 s.heap.size s.heap (Old.start s) w_NOUN w_ADJECTIVE w_ADJECTIVE_SATELLITE w_VERB w_ADVERB W i0 h
    · exact rm0_1 l s _ hw tables_1 s.heap.size s.heap (Old.start s) w_NOUN w_ADJECTIVE w_ADJECTIVE_SATELLITE w_VERB w_ADVERB W i0 h
    · exact rm0_2 l s _ hw tables_1 s.heap.size s.heap (Old.start s) w_NOUN w_ADJECTIVE w_ADJECTIVE_SATELLITE w_VERB w_ADVERB W i0 h
    · exact rm0_3 l s _ hw tables_1 s.heap.size s.heap (Old.start s) w_NOUN w_ADJECTIVE w_ADJECTIVE_SATELLITE w_VERB w_ADVERB W i0 h
    · exact rm0_4 l s _ hw tables_1 s.heap.size s.heap (Old.start s) w_NOUN w_ADJECTIVE w_ADJECTIVE_SATELLITE w_VERB w_ADVERB W i0 h
  obtain ⟨n, o, h1, h2, h3, _, L, rfl, ⟨N, rfl⟩, hq⟩ := fin p e ha hc hk s m _ below hf ((Spec.applies_iff_loose hf).mp happ).1 ⟨rfl, State.Warmed39.refl s, rfl⟩ trivial
  refine ⟨n, _, h1, h2, h3, hpost _ _ _ _ _ _ ⟨Cond.after_iff.mpr rfl, Cond.after_iff.mpr (eq_i res_at (Term.int_eval (1)) rfl), trivial⟩ ⟨hq.1, hq.2.1, (hq.2.2.sift fun y hy => Or.inr (N y hy)).mono (by decide) (by decide)⟩⟩
theorem main_1_1 : Claimed_1_1 := comes_1 fun _ _ _ _ _ _ h hF => ⟨h.1, hF⟩
theorem main_1_2 : Claimed_1_2 := comes_1 fun _ _ _ _ _ _ h hF => ⟨h.2.1, hF⟩
end Jvm.Pilot.@@N@@
namespace Jvm.Pilot.@@N@@
open Jvm Jvm.ClassFile Sem Op Lib Jvm.Free Jvm.Stand Jvm.Pilot.@@N@@.Jvm.D
/-! MADE BY PROGRAM (witnessworld.py) out of the Statement's table words and the real class files: 12 classes; the members and pool entries that the words name. The judged class is class 1, her method 1. -/
namespace start1
open Jvm.ClassFile
def u (s : String) : CpInfo := .utf8 (stringToUtf16 s)
/-- a pool by its gaps: so many unusable entries, then the entry; so many at the end -/
def gap : Nat → List CpInfo → List CpInfo
  | 0, r => r
  | n + 1, r => .unusable :: gap n r
def poolList (es : List (Nat × CpInfo)) (last : Nat) : List CpInfo := es.foldr (fun e r => gap e.1 (e.2 :: r)) (gap last [])
def pool (es : List (Nat × CpInfo)) (last : Nat) : Array CpInfo := ⟨poolList es last⟩
def fileOf (pool : Array CpInfo) (this : Nat) (attrs : Array Attribute := #[]) (ms : Array MethodInfo := #[]) (fl : Nat := 33) (sup : Nat := 0) (ifs : Array Nat := #[]) (fds : Array FieldInfo := #[]) : ClassFile where
  minorVersion := 0
  majorVersion := 65
  constantPool := pool
  accessFlags := fl
  thisClass := this
  superClass := sup
  interfaces := ifs
  fields := fds
  methods := ms
  attributes := attrs
def plain (name : String) (sup : Option ClassId) : Class where
  name := name
  kind := .ordinary
  loader := none
  accessFlags := 33
  super := sup
  interfaces := #[]
  cf := none
  fields := #[]
  methods := #[]
  instanceTypes := #[]
  staticTypes := #[]
  resolved := #[]
  callSites := []
  init := .initialized
  statics := none
  mirror := none

def pool0 : Array CpInfo := pool [(5, u "<init>"), (0, u "()V"), (1, .class_ 10), (1, u "java/lang/Object")] 113

def k0m0 : Method := { name := "<init>", desc := "()V", sig := { parameters := [], returnType := none }, accessFlags := 1, code := none }
/-- java/lang/Object -/
def k0 : Class := { plain "java/lang/Object" none with
  accessFlags := 33
  interfaces := #[]
  cf := some (fileOf pool0 8 #[] #[{ accessFlags := 1, nameIndex := 5, descriptorIndex := 6, attributes := #[] }] 33 0 #[] #[])
  fields := #[]
  methods := #[k0m0]
  instanceTypes := #[]
  staticTypes := #[]
  resolved := Array.replicate 124 none
  statics := none }

def pool1 : Array CpInfo := pool [(2, .class_ 4), (1, u "java/lang/Object"), (0, u "<init>"), (0, u "()V"), (0, .integer 2147483647), (0, .fieldref 9 10), (0, .class_ 11), (0, .nameAndType 12 13), (0, u "com/example/pathfix/pathfix/wordnet/SynsetType"), (0, u "NOUN"), (0, u "Lcom/example/pathfix/pathfix/wordnet/SynsetType;"), (0, .fieldref 9 15), (0, .nameAndType 16 13), (0, u "VERB"), (0, .fieldref 9 18), (0, .nameAndType 19 13), (0, u "ADJECTIVE"), (0, .fieldref 9 21), (0, .nameAndType 22 13), (0, u "ADJECTIVE_SATELLITE"), (0, .fieldref 9 24), (0, .nameAndType 25 13), (0, u "ADVERB"), (0, .methodref 9 27), (0, .nameAndType 28 29), (0, u "isAdjective"), (0, u "()Z"), (0, .methodref 9 31), (0, .nameAndType 32 33), (0, u "digit"), (0, u "()C"), (0, .class_ 35), (0, u "com/example/pathfix/pathfix/wordnet/SynsetTypeIsAdjectivePinLaw"), (2, u "law"), (0, u "(I)Z")] 3

def k1m0 : Method := { name := "<init>", desc := "()V", sig := { parameters := [], returnType := none }, accessFlags := 1, code := none }
def k1c1 : Code := { maxStack := 3, maxLocals := 5, code := code, exceptionTable := #[], attributes := #[] }
def k1m1 : Method := { name := "law", desc := "(I)Z", sig := { parameters := [.int], returnType := some .boolean }, accessFlags := 9, code := some k1c1 }
/-- com/example/pathfix/pathfix/wordnet/SynsetTypeIsAdjectivePinLaw -/
def k1 : Class := { plain "com/example/pathfix/pathfix/wordnet/SynsetTypeIsAdjectivePinLaw" (some 0) with
  accessFlags := 49
  interfaces := #[]
  cf := some (fileOf pool1 34 #[] #[{ accessFlags := 1, nameIndex := 5, descriptorIndex := 6, attributes := #[] }, { accessFlags := 9, nameIndex := 38, descriptorIndex := 39, attributes := #[] }] 49 2 #[] #[])
  fields := #[]
  methods := #[k1m0, k1m1]
  instanceTypes := #[]
  staticTypes := #[]
  resolved := Array.replicate 43 none
  statics := none }

def pool2 : Array CpInfo := pool [(1, .class_ 2), (0, u "java/lang/constant/Constable"), (0, .class_ 4), (0, u "java/lang/Object")] 6

/-- java/lang/constant/Constable -/
def k2 : Class := { plain "java/lang/constant/Constable" (some 0) with
  accessFlags := 1537
  interfaces := #[]
  cf := some (fileOf pool2 1 #[] #[] 1537 3 #[] #[])
  fields := #[]
  methods := #[]
  instanceTypes := #[]
  staticTypes := #[]
  resolved := Array.replicate 11 none
  statics := none }

def pool3 : Array CpInfo := pool [(1, .class_ 2), (0, u "java/lang/Comparable"), (0, .class_ 4), (0, u "java/lang/Object")] 7

/-- java/lang/Comparable -/
def k3 : Class := { plain "java/lang/Comparable" (some 0) with
  accessFlags := 1537
  interfaces := #[]
  cf := some (fileOf pool3 1 #[] #[] 1537 3 #[] #[])
  fields := #[]
  methods := #[]
  instanceTypes := #[]
  staticTypes := #[]
  resolved := Array.replicate 12 none
  statics := none }

def pool4 : Array CpInfo := pool [(1, .class_ 2), (0, u "java/io/Serializable"), (0, .class_ 4), (0, u "java/lang/Object")] 2

/-- java/io/Serializable -/
def k4 : Class := { plain "java/io/Serializable" (some 0) with
  accessFlags := 1537
  interfaces := #[]
  cf := some (fileOf pool4 1 #[] #[] 1537 3 #[] #[])
  fields := #[]
  methods := #[]
  instanceTypes := #[]
  staticTypes := #[]
  resolved := Array.replicate 7 none
  statics := none }

def pool5 : Array CpInfo := pool [(2, .class_ 4), (1, u "java/lang/Enum"), (0, u "name"), (0, u "Ljava/lang/String;"), (2, u "ordinal"), (0, u "I"), (1, .class_ 14), (1, u "java/lang/Object"), (4, u "hash"), (86, .class_ 108), (1, u "java/lang/Enum$EnumDesc"), (2, .class_ 112), (0, u "java/lang/constant/Constable"), (0, .class_ 114), (0, u "java/lang/Comparable"), (0, .class_ 116), (0, u "java/io/Serializable")] 87

/-- java/lang/Enum -/
def k5 : Class := { plain "java/lang/Enum" (some 0) with
  accessFlags := 1057
  interfaces := #[2, 3, 4]
  cf := some (fileOf pool5 2 #[.nestMembers #[106]] #[] 1057 12 #[111, 113, 115] #[{ accessFlags := 18, nameIndex := 5, descriptorIndex := 6, attributes := #[] }, { accessFlags := 18, nameIndex := 9, descriptorIndex := 10, attributes := #[] }, { accessFlags := 2, nameIndex := 19, descriptorIndex := 10, attributes := #[] }])
  fields := #[{ name := "name", type := (.object "java/lang/String"), accessFlags := 18, slot := 0, constantValue := 0 }, { name := "ordinal", type := .int, accessFlags := 18, slot := 1, constantValue := 0 }, { name := "hash", type := .int, accessFlags := 2, slot := 2, constantValue := 0 }]
  methods := #[]
  instanceTypes := #[(.object "java/lang/String"), .int, .int]
  staticTypes := #[]
  resolved := Array.replicate 204 none
  statics := none }

def pool6 : Array CpInfo := pool [(1, .class_ 2), (0, u "com/example/pathfix/pathfix/wordnet/SynsetType"), (2, u "NOUN"), (0, u "Lcom/example/pathfix/pathfix/wordnet/SynsetType;"), (2, u "VERB"), (0, .fieldref 1 11), (0, .nameAndType 12 6), (0, u "ADJECTIVE"), (0, .fieldref 1 14), (0, .nameAndType 15 6), (0, u "ADJECTIVE_SATELLITE"), (2, u "ADVERB"), (2, u "$VALUES"), (0, u "[Lcom/example/pathfix/pathfix/wordnet/SynsetType;"), (6, .class_ 31), (1, u "java/lang/Enum"), (8, u "letter"), (0, u "C"), (0, .fieldref 1 43), (0, .nameAndType 44 41), (0, u "digit"), (2, u "className"), (0, u "Ljava/lang/String;"), (52, u "()C"), (1, u "isAdjective"), (0, u "()Z")] 20

def k6c0 : Code := { maxStack := 1, maxLocals := 1, code := prog_22_method_5_code, exceptionTable := #[], attributes := #[] }
def k6m0 : Method := { name := "digit", desc := "()C", sig := { parameters := [], returnType := some .char }, accessFlags := 0, code := some k6c0 }
def k6c1 : Code := { maxStack := 2, maxLocals := 1, code := prog_22_method_7_code, exceptionTable := #[], attributes := #[] }
def k6m1 : Method := { name := "isAdjective", desc := "()Z", sig := { parameters := [], returnType := some .boolean }, accessFlags := 0, code := some k6c1 }
/-- com/example/pathfix/pathfix/wordnet/SynsetType -/
def k6 : Class := { plain "com/example/pathfix/pathfix/wordnet/SynsetType" (some 5) with
  accessFlags := 16432
  interfaces := #[]
  cf := some (fileOf pool6 1 #[] #[{ accessFlags := 0, nameIndex := 44, descriptorIndex := 101, attributes := #[] }, { accessFlags := 0, nameIndex := 103, descriptorIndex := 104, attributes := #[] }] 16432 29 #[] #[{ accessFlags := 16409, nameIndex := 5, descriptorIndex := 6, attributes := #[] }, { accessFlags := 16409, nameIndex := 9, descriptorIndex := 6, attributes := #[] }, { accessFlags := 16409, nameIndex := 12, descriptorIndex := 6, attributes := #[] }, { accessFlags := 16409, nameIndex := 15, descriptorIndex := 6, attributes := #[] }, { accessFlags := 16409, nameIndex := 18, descriptorIndex := 6, attributes := #[] }, { accessFlags := 18, nameIndex := 40, descriptorIndex := 41, attributes := #[] }, { accessFlags := 18, nameIndex := 44, descriptorIndex := 41, attributes := #[] }, { accessFlags := 18, nameIndex := 47, descriptorIndex := 48, attributes := #[] }, { accessFlags := 4122, nameIndex := 21, descriptorIndex := 22, attributes := #[] }])
  fields := #[{ name := "NOUN", type := (.object "com/example/pathfix/pathfix/wordnet/SynsetType"), accessFlags := 16409, slot := 0, constantValue := 0 }, { name := "VERB", type := (.object "com/example/pathfix/pathfix/wordnet/SynsetType"), accessFlags := 16409, slot := 1, constantValue := 0 }, { name := "ADJECTIVE", type := (.object "com/example/pathfix/pathfix/wordnet/SynsetType"), accessFlags := 16409, slot := 2, constantValue := 0 }, { name := "ADJECTIVE_SATELLITE", type := (.object "com/example/pathfix/pathfix/wordnet/SynsetType"), accessFlags := 16409, slot := 3, constantValue := 0 }, { name := "ADVERB", type := (.object "com/example/pathfix/pathfix/wordnet/SynsetType"), accessFlags := 16409, slot := 4, constantValue := 0 }, { name := "letter", type := .char, accessFlags := 18, slot := 3, constantValue := 0 }, { name := "digit", type := .char, accessFlags := 18, slot := 4, constantValue := 0 }, { name := "className", type := (.object "java/lang/String"), accessFlags := 18, slot := 5, constantValue := 0 }, { name := "$VALUES", type := (.array (.object "com/example/pathfix/pathfix/wordnet/SynsetType")), accessFlags := 4122, slot := 5, constantValue := 0 }]
  methods := #[k6m0, k6m1]
  instanceTypes := #[(.object "java/lang/String"), .int, .int, .char, .char, (.object "java/lang/String")]
  staticTypes := #[(.object "com/example/pathfix/pathfix/wordnet/SynsetType"), (.object "com/example/pathfix/pathfix/wordnet/SynsetType"), (.object "com/example/pathfix/pathfix/wordnet/SynsetType"), (.object "com/example/pathfix/pathfix/wordnet/SynsetType"), (.object "com/example/pathfix/pathfix/wordnet/SynsetType"), (.array (.object "com/example/pathfix/pathfix/wordnet/SynsetType"))]
  resolved := Array.replicate 125 none
  statics := some 0 }

def pool7 : Array CpInfo := pool [(1, u "java/lang/Cloneable"), (0, .class_ 1), (0, u "java/lang/Object"), (0, .class_ 3)] 3

/-- java/lang/Cloneable -/
def k7 : Class := { plain "java/lang/Cloneable" (some 0) with
  accessFlags := 1537
  interfaces := #[]
  cf := some (fileOf pool7 2 #[] #[] 1537 4 #[] #[])
  fields := #[]
  methods := #[]
  instanceTypes := #[]
  staticTypes := #[]
  resolved := Array.replicate 8 none
  statics := none }

/-- the primitive byte -/
def k8 : Class := { plain "byte" none with kind := .primitive 'B', accessFlags := 0x411 }
/-- [B -/
def k9 : Class := { plain "[B" (some 0) with kind := .array 8 .byte, interfaces := #[7, 4], accessFlags := 1041 }

/-- the primitive int -/
def k10 : Class := { plain "int" none with kind := .primitive 'I', accessFlags := 0x411 }
/-- [I -/
def k11 : Class := { plain "[I" (some 0) with kind := .array 10 .int, interfaces := #[7, 4], accessFlags := 1041 }

def heap : Heap := #[{ cls := 6, slots := #[.ref 1, .ref 4, .ref 2, .ref 3, .ref 5, .null], vm := .statics 6 },
  { cls := 6, slots := #[.null, .int 0, .int 0, .int 0, .int 49, .null], vm := .none },
  { cls := 6, slots := #[.null, .int 2, .int 0, .int 0, .int 51, .null], vm := .none },
  { cls := 6, slots := #[.null, .int 3, .int 0, .int 0, .int 51, .null], vm := .none },
  { cls := 6, slots := #[.null, .int 1, .int 0, .int 0, .int 50, .null], vm := .none },
  { cls := 6, slots := #[.null, .int 4, .int 0, .int 0, .int 52, .null], vm := .none }]
def classes : Array Class := #[k0, k1, k2, k3, k4, k5, k6, k7, k8, k9, k10, k11]
def interned : List (Array UInt16 × Addr) := []
def slotsUsed : Nat := 36
def theMethod : MethodId := ⟨1, 1⟩
def args0 : Array Value := #[.int 7]
def aboutOver (below : List Frame) : State where
  vm := { classes := classes, interned := interned.toArray }
  heap := heap
  slotsUsed := slotsUsed
  threads := #[{ frames := .invoking theMethod args0 :: below }]
def below0 : List Frame := [.native { method := ⟨0, 0⟩, args := #[] }]
def about1 : State := aboutOver below0
def p0 : Program := .bare "" "" ""
def e0 : Env := launch0.env 0 0 0
theorem w_frames : about1.frames = Frame.invoking theMethod args0 :: below0 := rfl
set_option maxRecDepth 65536 in
theorem w_args : argsFit about1.vm theMethod args0 = true := by decide +kernel
set_option maxRecDepth 65536 in
theorem w_heap : heapFits about1 = true := by decide +kernel
set_option maxRecDepth 65536 in
theorem w_runnable : about1.curStatus? = some .runnable := by decide +kernel
set_option maxRecDepth 65536 in
theorem w_alone : about1.alone = true := by decide +kernel
set_option maxRecDepth 65536 in
theorem w_named : about1.methodNamed? x = some theMethod := by decide +kernel
set_option maxRecDepth 65536 in
theorem w_hears : about1.hears theMethod below0 = true := by decide +kernel
set_option maxRecDepth 65536 in
theorem w_ripe : about1.ripe theMethod args0 below0 = true := by decide +kernel
theorem w_running : about1.status = .running := rfl
set_option maxRecDepth 65536 in
theorem w_room : about1.hasRoom e0.platform room_1 = true :=
  launch0.hasRoom_least _ room_1 (by decide +kernel) (by decide +kernel) (by decide +kernel) (by decide +kernel) (by decide +kernel) (by decide +kernel)
theorem allAtoms_all (ts : List Jvm.Cond) (a : Array Jvm.Value) (st : Jvm.State) : (allAtoms ts).before a st = ts.all (fun c => c.before a st) := by
  induction ts with
  | nil => rfl
  | cons c t ih =>
    show (Jvm.Cond.and c (allAtoms t)).before a st = _
    rw [Jvm.Cond.before_and, ih, List.all_cons]
def words1 : List Jvm.Cond := Jvm.Cond.code x code maxLocals ret :: tables_1
/-- a 'code' word, met by the world's own term for the bytes: nothing is compared byte by byte -/
theorem code_word {y : MethodName} {bytes : ByteArray} {mx : Nat} {rt : Option FieldType} {a : Array Value} {s : State} {m : MethodId} {meth : Method} {c : Code} (h1 : s.methodNamed? y = some m) (h2 : s.vm.method? m = some meth) (h3 : meth.code = some c) (h4 : c.code = bytes)
    (h5 : (c.maxLocals == mx && c.exceptionTable.isEmpty && decide (c.maxStack ≤ mostOperands) && decide (meth.sig.returnType = rt) && !meth.locks && decide (parseMethodDescriptor y.desc = some meth.sig)) = true) : (Jvm.Cond.code y bytes mx rt).before a s = true := by
  simp only [Bool.and_eq_true, beq_iff_eq, Bool.not_eq_true', decide_eq_true_eq] at h5
  obtain ⟨⟨⟨⟨⟨g1, g2⟩, g3⟩, g4⟩, g5⟩, g6⟩ := h5
  simp [Cond.before, Cond.holds, Cond.value, h1, h2, h3, h4, g1, g2, g3, g4, g5, g6]
def isCode : Jvm.Cond → Bool
  | .code _ _ _ _ => true
  | _ => false
theorem all_split {L : List Jvm.Cond} {P : Jvm.Cond → Bool} (h1 : L.all (fun c => isCode c || P c) = true) (h2 : ∀ c ∈ L.filter isCode, P c = true) : L.all P = true := by
  refine List.all_eq_true.mpr fun c hc => ?_
  have h := List.all_eq_true.mp h1 c hc
  rcases Bool.eq_false_or_eq_true (isCode c) with hi | hi
  · exact h2 c (List.mem_filter.mpr ⟨hc, hi⟩)
  · simpa [hi] using h
set_option maxRecDepth 65536 in
theorem w_c0 : (Jvm.Cond.code x code maxLocals ret).before args0 about1 = true := code_word (m := ⟨1, 1⟩) (meth := k1m1) (c := k1c1) (by decide +kernel) rfl rfl rfl (by decide +kernel)
set_option maxRecDepth 65536 in
theorem w_c1 : (Jvm.Cond.code ({ cls := "com/example/pathfix/pathfix/wordnet/SynsetType", name := "isAdjective", desc := "()Z" } : Jvm.MethodName) prog_22_method_7_code (1 : Nat) (Option.some Jvm.ClassFile.FieldType.boolean)).before args0 about1 = true := code_word (m := ⟨6, 1⟩) (meth := k6m1) (c := k6c1) (by decide +kernel) rfl rfl rfl (by decide +kernel)
set_option maxRecDepth 65536 in
theorem w_c2 : (Jvm.Cond.code ({ cls := "com/example/pathfix/pathfix/wordnet/SynsetType", name := "digit", desc := "()C" } : Jvm.MethodName) prog_22_method_5_code (1 : Nat) (Option.some Jvm.ClassFile.FieldType.char)).before args0 about1 = true := code_word (m := ⟨6, 0⟩) (meth := k6m0) (c := k6c0) (by decide +kernel) rfl rfl rfl (by decide +kernel)
def codes1 : List Jvm.Cond := [Jvm.Cond.code x code maxLocals ret, Jvm.Cond.code ({ cls := "com/example/pathfix/pathfix/wordnet/SynsetType", name := "isAdjective", desc := "()Z" } : Jvm.MethodName) prog_22_method_7_code (1 : Nat) (Option.some Jvm.ClassFile.FieldType.boolean), Jvm.Cond.code ({ cls := "com/example/pathfix/pathfix/wordnet/SynsetType", name := "digit", desc := "()C" } : Jvm.MethodName) prog_22_method_5_code (1 : Nat) (Option.some Jvm.ClassFile.FieldType.char)]
set_option maxRecDepth 65536 in
theorem codes_eq : words1.filter isCode = codes1 := rfl
theorem w_codes : ∀ c ∈ words1.filter isCode, c.before args0 about1 = true := by
  rw [codes_eq]
  intro c hc
  simp only [codes1, List.mem_cons, List.not_mem_nil, or_false] at hc
  rcases hc with rfl | rfl | rfl
  · exact w_c0
  · exact w_c1
  · exact w_c2
set_option maxRecDepth 65536 in
theorem w_t1 : (words1.take 24).all (fun c => isCode c || c.before args0 about1) = true := by decide +kernel
set_option maxRecDepth 65536 in
theorem w_t2 : (words1.drop 24).all (fun c => isCode c || c.before args0 about1) = true := by decide +kernel
theorem w_tables : (allAtoms (Jvm.Cond.code x code maxLocals ret :: tables_1)).before args0 about1 = true := by
  rw [allAtoms_all]
  show words1.all (fun c => c.before args0 about1) = true
  refine all_split ?_ w_codes
  rw [← List.take_append_drop 24 words1, List.all_append, w_t1, w_t2]
  rfl
set_option maxRecDepth 65536 in
theorem w_case : (Jvm.Cond.and given_1 narrow_1).before args0 about1 = true := by decide +kernel
theorem w_applies : (headSpec (Jvm.Cond.code x code maxLocals ret :: tables_1) room_1).applies x e0.platform about1 = true :=
  (Spec.applies_iff w_frames).mpr ⟨w_running, w_runnable, w_alone, w_named, w_hears, w_ripe, w_room, w_tables⟩
theorem atStart : AtStart classFile x code maxLocals ret World_1 tables_1 room_1 Calls_1 rest_1 Pre_1 launch0 p0 e0 about1 theMethod args0 below0 :=
  ⟨lists_1, trivial, launch0.admits_env _ _ _, launch0.least_env, fairChoices_fair.cas, fairChoices_fair.clock, w_frames, w_args, w_heap, w_applies, trivial, trivial, w_case⟩
end start1
theorem witness_1 : WitnessClaimed_1 := ⟨start1.p0, start1.e0, start1.about1, start1.theMethod, start1.args0, start1.below0, start1.atStart⟩
end Jvm.Pilot.@@N@@
