import JvmDerived
import JvmDerived.Pilot.@@N@@Statement
import JvmDerived.Pilot.@@N@@Code
set_option linter.unusedVariables false
set_option linter.unusedSimpArgs false
namespace Jvm.RoadKit
open Sem ClassFile Op Lib Jvm.Stand Jvm.Free Jvm.LawKit
section New
variable {p : Program} {l : Launch} {e : Env} {R : Room} {s : State} {m : MethodId} {args : Array Value} {below : List Frame} {meth : Method} {c : Code} {T : State} {locs : List Loc} {cells slots : Nat}
theorem retI (X : Stand p l e R s m args below meth c T locs cells slots) (hx : p.tables.exec = Jvm.exec) {pc : Nat} {Ls : Array Slot} {z : Int32} {rest : List Value} (hret : meth.sig.returnType = some .int) (hd : decode c.code pc = .ok (.ireturn, 1)) {fs : List Frame}
    (hl : ∀ (f : JFrame) (acts : List Action), f.method = m → f.locked = none → f.entered = [] → (doReturn e (T.setTop f) acts (some (.int z))).1 = T.setFrames fs) : Steps p.tables e below (T.setTop (mkF m pc Ls (.int z :: rest))) (T.setFrames fs) := by
  have hm' : T.vm.method? m = some meth := X.method'
  have hn : narrow .int (.int z) = .int z := rfl
  show Steps p.tables e below (T.setTop { method := m, pc := pc, locals := Ls, stack := _ :: rest, locked := none }) _
  jvm_step X.here [X.here.top, hx, hd, hm', hret, hn]
  first | (intro acts; rw [hl _ acts rfl rfl rfl]) | rw [hl _ _ rfl rfl rfl]
  exact Steps.refl _
end New
end Jvm.RoadKit
namespace Jvm.Pilot.@@N@@
open Jvm Jvm.ClassFile Sem Op Lib Jvm.Free Jvm.Stand Jvm.LawKit Jvm.RoadKit Bundle Jvm.Pilot.@@N@@.Jvm.D
/-- a body's contract: from these arguments and this heap it returns, and Q says what it leaves -/
abbrev OwCon (l : Launch) (y : MethodName) (bytes : ByteArray) (ml : Nat) (ret : Option FieldType) (ws : List Jvm.Cond) (rm : Room) (as : Array Value) (Z : State) (h0 : Heap) (Q : Option Value → Heap → List Loc → Prop) : Prop :=
  MetFree l y (head1 (Jvm.Cond.code y bytes ml ret :: ws) rm) (fun a U => a = as ∧ Z.Warmed39 U.vm ∧ U.heap = h0) (fun _ _ _ _ _ => True) (fun _ U o U' => ∃ v L, o = .returned v ∧ Q v U'.heap L ∧ FrameEnd U o U' L rm.cells rm.slots)
/-- .. it may load literals that nobody loaded before -/
abbrev OwConW (l : Launch) (y : MethodName) (bytes : ByteArray) (ml : Nat) (ret : Option FieldType) (ws : List Jvm.Cond) (rm : Room) (as : Array Value) (Z : State) (h0 : Heap) (Q : Option Value → Heap → List Loc → Prop) : Prop :=
  MetFree l y (head1 (Jvm.Cond.code y bytes ml ret :: ws) rm) (fun a U => a = as ∧ Z.Warmed39 U.vm ∧ U.heap = h0) (fun _ _ _ _ _ => True) (fun _ U o U' => ∃ v L, o = .returned v ∧ Q v U'.heap L ∧ ReturnedEndW U o U' L rm.cells rm.slots)
/-- it returns val and leaves the heap as it was -/
def OwQ (val : Option Value) (h0 : Heap) (n0 : Nat) (v : Option Value) (h : Heap) (L : List Loc) : Prop := v = val ∧ Fr n0 L ∧ h = h0
/-- it writes nothing old, and P holds of what it returns and leaves -/
def OwP (P : Option Value → Heap → Prop) (n0 : Nat) (v : Option Value) (h : Heap) (L : List Loc) : Prop := Fr n0 L ∧ P v h
theorem own_eqI {args : Array Value} {s : State} {t : Term} {k : Int32} (h : (Jvm.Cond.eq t (.int k)).value args s none s [] = some true) : t.eval args s none [] s = some (.int k) := by
  obtain ⟨x, y, h1, h2, -, q⟩ := cmp_v (Or.inl h)
  cases h2
  obtain ⟨z, rfl⟩ := q
  rw [h1]; simp [Cond.value, h1, Term.eval] at h; rw [h]
theorem own_eqJ {args : Array Value} {s : State} {t : Term} {k : Int64} (h : (Jvm.Cond.eq t (.long k)).value args s none s [] = some true) : t.eval args s none [] s = some (.long k) := by
  obtain ⟨x, y, h1, h2, -, q⟩ := cmp_v (Or.inl h)
  cases h2
  obtain ⟨z, rfl⟩ := q
  rw [h1]; simp [Cond.value, h1, Term.eval] at h; rw [h]
theorem own_eqR {args : Array Value} {s : State} {t t' : Term} {a : Addr} (h : (Jvm.Cond.eq t t').value args s none s [] = some true) (e : t'.eval args s none [] s = some (.ref a)) : t.eval args s none [] s = some (.ref a) := by
  obtain ⟨x, y, h1, h2, q, -⟩ := cmp_v (Or.inl h)
  cases e.symm.trans h2
  cases x with
  | null => simp [Cond.value, h1, h2] at h
  | ref b => simp [Cond.value, h1, h2] at h; rw [h1, h]
  | _ => simp [Kin, Value.isRef] at q
theorem own_cat {v : Value} (h : v.isRef = true) : v.category = 1 := by rcases ref_cases h with rfl | ⟨a, rfl⟩ <;> rfl
theorem own_len {args : Array Value} {s : State} {t : Term} {a : Addr} {cl : Cell} {ty : FieldType} {n : Int32} (e : t.eval args s none [] s = some (.ref a)) (A : Arr s s.heap a cl ty) (h : (Term.length t).eval args s none [] s = some (.int n)) : cl.slots.size < 2 ^ 31 ∧ cl.slots.size.toInt32 = n := by
  have q := Arr.fin (Vm.Alike.refl _) A
  simpa [Term.eval, e, q] using h
theorem own_el {args : Array Value} {s : State} {t : Term} {a : Addr} {cl : Cell} {ty : FieldType} {j : Int32} {v : Value} (e : t.eval args s none [] s = some (.ref a)) (A : Arr s s.heap a cl ty) (h : (Term.elem t (.int j)).eval args s none [] s = some v) : cl.slots[j.toNatClampNeg]? = some v := (elem_in h e rfl A.1).2
theorem own_fld {args : Array Value} {s : State} {t : Term} {a : Addr} {C n d : String} {v : Value} (e : t.eval args s none [] s = some (.ref a)) (h : (Term.field t C n d).eval args s none [] s = some v) : Fld s s.heap a C n d v := Fld.start ((fld_at e).symm.trans h)

theorem d1_0 : decode prog_7_method_7_code 0 = .ok (.getstatic 52, 3) := by decide +kernel
theorem d1_3 : decode prog_7_method_7_code 3 = .ok (.astore_n 1, 1) := by decide +kernel
theorem d1_4 : decode prog_7_method_7_code 4 = .ok (.aload_n 1, 1) := by decide +kernel
theorem d1_5 : decode prog_7_method_7_code 5 = .ok (.arraylength, 1) := by decide +kernel
theorem d1_6 : decode prog_7_method_7_code 6 = .ok (.istore_n 2, 1) := by decide +kernel
theorem d1_7 : decode prog_7_method_7_code 7 = .ok (.iconst 0, 1) := by decide +kernel
theorem d1_8 : decode prog_7_method_7_code 8 = .ok (.istore_n 3, 1) := by decide +kernel
theorem d1_9 : decode prog_7_method_7_code 9 = .ok (.iload_n 3, 1) := by decide +kernel
theorem d1_10 : decode prog_7_method_7_code 10 = .ok (.iload_n 2, 1) := by decide +kernel
theorem d1_11 : decode prog_7_method_7_code 11 = .ok (.if_icmp .ge 26, 3) := by decide +kernel
theorem d1_14 : decode prog_7_method_7_code 14 = .ok (.aload_n 1, 1) := by decide +kernel
theorem d1_15 : decode prog_7_method_7_code 15 = .ok (.iload_n 3, 1) := by decide +kernel
theorem d1_16 : decode prog_7_method_7_code 16 = .ok (.aaload, 1) := by decide +kernel
theorem d1_17 : decode prog_7_method_7_code 17 = .ok (.astore 4, 2) := by decide +kernel
theorem d1_19 : decode prog_7_method_7_code 19 = .ok (.aload 4, 2) := by decide +kernel
theorem d1_21 : decode prog_7_method_7_code 21 = .ok (.getfield 38, 3) := by decide +kernel
theorem d1_24 : decode prog_7_method_7_code 24 = .ok (.iload_n 0, 1) := by decide +kernel
theorem d1_25 : decode prog_7_method_7_code 25 = .ok (.if_icmp .ne 6, 3) := by decide +kernel
theorem d1_28 : decode prog_7_method_7_code 28 = .ok (.aload 4, 2) := by decide +kernel
theorem d1_30 : decode prog_7_method_7_code 30 = .ok (.areturn, 1) := by decide +kernel
theorem d1_31 : decode prog_7_method_7_code 31 = .ok (.iinc 3 1, 3) := by decide +kernel
theorem d1_34 : decode prog_7_method_7_code 34 = .ok (.goto (-25), 3) := by decide +kernel
theorem d1_37 : decode prog_7_method_7_code 37 = .ok (.aconst_null, 1) := by decide +kernel
theorem d1_38 : decode prog_7_method_7_code 38 = .ok (.areturn, 1) := by decide +kernel
theorem owpn1 : plainName "com/example/lamina/lamina/engine/ColumnType" = true := by first | (simp [plainName, overriddenIn]; done) | decide +kernel
theorem d2_0 : decode method_2_code 0 = .ok (.iload_n 0, 1) := by decide +kernel
theorem d2_1 : decode method_2_code 1 = .ok (.iconst 1, 1) := by decide +kernel
theorem d2_2 : decode method_2_code 2 = .ok (.if_icmp .ne 7, 3) := by decide +kernel
theorem d2_5 : decode method_2_code 5 = .ok (.getstatic 7, 3) := by decide +kernel
theorem d2_8 : decode method_2_code 8 = .ok (.areturn, 1) := by decide +kernel
theorem d2_9 : decode method_2_code 9 = .ok (.iload_n 0, 1) := by decide +kernel
theorem d2_10 : decode method_2_code 10 = .ok (.iconst 2, 1) := by decide +kernel
theorem d2_11 : decode method_2_code 11 = .ok (.if_icmp .ne 7, 3) := by decide +kernel
theorem d2_14 : decode method_2_code 14 = .ok (.getstatic 13, 3) := by decide +kernel
theorem d2_17 : decode method_2_code 17 = .ok (.areturn, 1) := by decide +kernel
theorem d2_18 : decode method_2_code 18 = .ok (.iload_n 0, 1) := by decide +kernel
theorem d2_19 : decode method_2_code 19 = .ok (.iconst 3, 1) := by decide +kernel
theorem d2_20 : decode method_2_code 20 = .ok (.if_icmp .ne 7, 3) := by decide +kernel
theorem d2_23 : decode method_2_code 23 = .ok (.getstatic 16, 3) := by decide +kernel
theorem d2_26 : decode method_2_code 26 = .ok (.areturn, 1) := by decide +kernel
theorem d2_27 : decode method_2_code 27 = .ok (.iload_n 0, 1) := by decide +kernel
theorem d2_28 : decode method_2_code 28 = .ok (.iconst 4, 1) := by decide +kernel
theorem d2_29 : decode method_2_code 29 = .ok (.if_icmp .ne 7, 3) := by decide +kernel
theorem d2_32 : decode method_2_code 32 = .ok (.getstatic 19, 3) := by decide +kernel
theorem d2_35 : decode method_2_code 35 = .ok (.areturn, 1) := by decide +kernel
theorem d2_36 : decode method_2_code 36 = .ok (.iload_n 0, 1) := by decide +kernel
theorem d2_37 : decode method_2_code 37 = .ok (.iconst 5, 1) := by decide +kernel
theorem d2_38 : decode method_2_code 38 = .ok (.if_icmp .ne 7, 3) := by decide +kernel
theorem d2_41 : decode method_2_code 41 = .ok (.getstatic 22, 3) := by decide +kernel
theorem d2_44 : decode method_2_code 44 = .ok (.areturn, 1) := by decide +kernel
theorem d2_45 : decode method_2_code 45 = .ok (.aconst_null, 1) := by decide +kernel
theorem d2_46 : decode method_2_code 46 = .ok (.areturn, 1) := by decide +kernel
theorem owpn2 : plainName "com/example/lamina/lamina/engine/ColumnTypeOfCodePinLaw" = true := by first | (simp [plainName, overriddenIn]; done) | decide +kernel
theorem owpn0 : plainName "com/example/lamina/lamina/engine/ColumnTypeOfCodePinLaw" = true := by first | (simp [plainName, overriddenIn]; done) | decide +kernel
theorem owpd0 : parseMethodDescriptor "(I)Lcom/example/lamina/lamina/engine/ColumnType;" = some ⟨[.int], some (.object "com/example/lamina/lamina/engine/ColumnType")⟩ := by decide +kernel
def OwW (Z : State) (w_ALL : Addr) (w_STRING : Addr) (w_INT : Addr) (w_BIGINT : Addr) (w_DOUBLE : Addr) (w_BOOLEAN : Addr) (k_w_ALL : ClassId) : Prop := (Exa Z Z.heap w_STRING "com/example/lamina/lamina/engine/ColumnType") ∧ (Exa Z Z.heap w_INT "com/example/lamina/lamina/engine/ColumnType") ∧ (Exa Z Z.heap w_BIGINT "com/example/lamina/lamina/engine/ColumnType") ∧ (Exa Z Z.heap w_DOUBLE "com/example/lamina/lamina/engine/ColumnType") ∧ (Exa Z Z.heap w_BOOLEAN "com/example/lamina/lamina/engine/ColumnType") ∧ (Sta Z Z.heap "com/example/lamina/lamina/engine/ColumnType" "ALL" "[Lcom/example/lamina/lamina/engine/ColumnType;" (.ref w_ALL)) ∧ (Sta Z Z.heap "com/example/lamina/lamina/engine/ColumnType" "STRING" "Lcom/example/lamina/lamina/engine/ColumnType;" (.ref w_STRING)) ∧ (Fld Z Z.heap w_STRING "com/example/lamina/lamina/engine/ColumnType" "code" "I" (.int (1 : Int32))) ∧ (Sta Z Z.heap "com/example/lamina/lamina/engine/ColumnType" "INT" "Lcom/example/lamina/lamina/engine/ColumnType;" (.ref w_INT)) ∧ (Fld Z Z.heap w_INT "com/example/lamina/lamina/engine/ColumnType" "code" "I" (.int (2 : Int32))) ∧ (Sta Z Z.heap "com/example/lamina/lamina/engine/ColumnType" "BIGINT" "Lcom/example/lamina/lamina/engine/ColumnType;" (.ref w_BIGINT)) ∧ (Fld Z Z.heap w_BIGINT "com/example/lamina/lamina/engine/ColumnType" "code" "I" (.int (3 : Int32))) ∧ (Sta Z Z.heap "com/example/lamina/lamina/engine/ColumnType" "DOUBLE" "Lcom/example/lamina/lamina/engine/ColumnType;" (.ref w_DOUBLE)) ∧ (Fld Z Z.heap w_DOUBLE "com/example/lamina/lamina/engine/ColumnType" "code" "I" (.int (4 : Int32))) ∧ (Sta Z Z.heap "com/example/lamina/lamina/engine/ColumnType" "BOOLEAN" "Lcom/example/lamina/lamina/engine/ColumnType;" (.ref w_BOOLEAN)) ∧ (Fld Z Z.heap w_BOOLEAN "com/example/lamina/lamina/engine/ColumnType" "code" "I" (.int (5 : Int32))) ∧ (Arv Z Z.heap w_ALL k_w_ALL (.object "com/example/lamina/lamina/engine/ColumnType") (5 : Int32) [(.ref w_STRING), (.ref w_INT), (.ref w_BIGINT), (.ref w_DOUBLE), (.ref w_BOOLEAN)] .null) ∧ True
def owF (w_STRING w_INT w_BIGINT w_DOUBLE w_BOOLEAN : Addr) (c : Int32) : Value := if c = 1 then .ref w_STRING else if c = 2 then .ref w_INT else if c = 3 then .ref w_BIGINT else if c = 4 then .ref w_DOUBLE else if c = 5 then .ref w_BOOLEAN else .null
theorem owF_ref (w_STRING w_INT w_BIGINT w_DOUBLE w_BOOLEAN : Addr) (c : Int32) : (owF w_STRING w_INT w_BIGINT w_DOUBLE w_BOOLEAN c).isRef = true := by unfold owF; (repeat' split) <;> rfl
theorem owF_1 (w_STRING w_INT w_BIGINT w_DOUBLE w_BOOLEAN : Addr) : owF w_STRING w_INT w_BIGINT w_DOUBLE w_BOOLEAN (1 : Int32) = .ref w_STRING := by simp [owF]
theorem owF_2 (w_STRING w_INT w_BIGINT w_DOUBLE w_BOOLEAN : Addr) : owF w_STRING w_INT w_BIGINT w_DOUBLE w_BOOLEAN (2 : Int32) = .ref w_INT := by simp [owF]
theorem owF_3 (w_STRING w_INT w_BIGINT w_DOUBLE w_BOOLEAN : Addr) : owF w_STRING w_INT w_BIGINT w_DOUBLE w_BOOLEAN (3 : Int32) = .ref w_BIGINT := by simp [owF]
theorem owF_4 (w_STRING w_INT w_BIGINT w_DOUBLE w_BOOLEAN : Addr) : owF w_STRING w_INT w_BIGINT w_DOUBLE w_BOOLEAN (4 : Int32) = .ref w_DOUBLE := by simp [owF]
theorem owF_5 (w_STRING w_INT w_BIGINT w_DOUBLE w_BOOLEAN : Addr) : owF w_STRING w_INT w_BIGINT w_DOUBLE w_BOOLEAN (5 : Int32) = .ref w_BOOLEAN := by simp [owF]
theorem owF_o (w_STRING w_INT w_BIGINT w_DOUBLE w_BOOLEAN : Addr) {c : Int32} (h1 : ¬ (1 : Int32) = c) (h2 : ¬ (2 : Int32) = c) (h3 : ¬ (3 : Int32) = c) (h4 : ¬ (4 : Int32) = c) (h5 : ¬ (5 : Int32) = c) : owF w_STRING w_INT w_BIGINT w_DOUBLE w_BOOLEAN c = .null := by simp [owF, Ne.symm h1, Ne.symm h2, Ne.symm h3, Ne.symm h4, Ne.symm h5]

set_option maxRecDepth 65536 in
set_option maxHeartbeats 40000000 in
theorem rm1_1 (l : Launch) (Z : State) (a0 : Array Value) (hw : ∀ d ∈ tables_1, d.before a0 Z = true) (ws : List Jvm.Cond) (n0 : Nat) (h0 : Heap) (O : Old Z n0 h0) (w_ALL : Addr) (w_STRING : Addr) (w_INT : Addr) (w_BIGINT : Addr) (w_DOUBLE : Addr) (w_BOOLEAN : Addr) (k_w_ALL : ClassId) (W : OwW Z w_ALL w_STRING w_INT w_BIGINT w_DOUBLE w_BOOLEAN k_w_ALL)  :
    OwCon l (⟨"com/example/lamina/lamina/engine/ColumnType", "ofCode", "(I)Lcom/example/lamina/lamina/engine/ColumnType;"⟩ : MethodName) prog_7_method_7_code 5 (some (.object "com/example/lamina/lamina/engine/ColumnType")) ws ({ frames := 0, cells := 0, slots := 0, locals := 0 } : Room) #[(.int (1 : Int32))] Z h0 (OwQ (some (.ref w_STRING)) h0 n0) := by
  refine MetFree.of_bodySF (plainFor_of_name owpn1) hisR ?_
  intro p e s m args below meth c s₁ Bd hml0 hP hK
  obtain ⟨rfl, hZ, hh⟩ := hP
  have hx := Bd.exec
  have hby := Bd.bytes
  have hml : c.maxLocals = 5 := hml0
  have hown : s.vm.findClass "com/example/lamina/lamina/engine/ColumnType" = some m.cls := findClass_of_methodNamed Bd.named
  have hnm := (name_of_methodNamed Bd.named Bd.method).1
  have X0 : Stand p l e ({ frames := 0, cells := 0, slots := 0, locals := 0 } : Room) s m #[(.int (1 : Int32))] below meth c s₁ [] 0 0 := Stand.of_body Bd
  have e0 : s₁.heap = h0 := by rw [← hh, Bd.state]; rfl
  have N0 := Fr.nil n0
  have WW := W
  obtain ⟨E_w_STRING, E_w_INT, E_w_BIGINT, E_w_DOUBLE, E_w_BOOLEAN, S_ColumnType_ALL, S_ColumnType_STRING, F_w_STRING_code, S_ColumnType_INT, F_w_INT_code, S_ColumnType_BIGINT, F_w_BIGINT_code, S_ColumnType_DOUBLE, F_w_DOUBLE_code, S_ColumnType_BOOLEAN, F_w_BOOLEAN_code, V_w_ALL, -⟩ := WW
  have ef : entryFrame m #[(.int (1 : Int32))] 5 = mkF m 0 #[.val (.int (1 : Int32)), .unset, .unset, .unset, .unset] [] := by first | rfl | (simp [entryFrame, mkF, argsToLocals, Value.category]; done)
  have pre0 : ∀ t, Steps p.tables e below (s₁.setTop (mkF m 0 #[.val (.int (1 : Int32)), .unset, .unset, .unset, .unset] [])) t → Steps p.tables e below (s₁.setTop (entryFrame m #[(.int (1 : Int32))] 5)) t := fun t k => castTop ef k
  obtain ⟨T1, X1, e1, st1⟩ := getS2 X0 hx hZ hown (host := "") (Or.inl (hw _ (List.mem_of_getElem? (i := 4) rfl))) Via.refl e0 (S_ColumnType_ALL.ext O.2) (g := (mkF m 0 #[.val (.int (1 : Int32)), .unset, .unset, .unset, .unset] [])) rfl (hb hby d1_0)
  obtain ⟨cl2, Ar2, q2, Sz2, Nn2, Hs2, -⟩ := (V_w_ALL.ext O.2)
  obtain ⟨cl3, Ar3, q3, Sz3, Nn3, Hs3, -⟩ := (V_w_ALL.ext O.2)
  have hin3 : ¬ ((0 : Int32) < 0 ∨ cl3.slots.size ≤ ((0 : Int32)).toNatClampNeg) := inb_of Sz3 ⟨by decide, by decide⟩
  have hat3 : cl3.slots[((0 : Int32)).toNatClampNeg]? = some (.ref w_STRING) := Has.at Hs3 hin3 rfl
  obtain ⟨T4, X4, e4, st4⟩ := getF X1 hx hZ hown (host := "") (Or.inl (hw _ (List.mem_of_getElem? (i := 7) rfl))) Via.refl e1 (F_w_STRING_code.ext O.2) (g := (mkF m 21 #[.val (.int (1 : Int32)), .val (.ref w_ALL), .val (.int (5 : Int32)), .val (.int (0 : Int32)), .val (.ref w_STRING)] [(.ref w_STRING)])) rfl rfl (hb hby d1_21)
  obtain ⟨fs, hr, hrun, hended, hW, hsame⟩ := X4.leave (v := some (.ref w_STRING)) (fun h => by rw [Bd.returns] at h; cases h)
  refine ⟨_, _, pre0 _ ?_, hrun, hended, _, _, rfl, ?_, ⟨_, rfl⟩, hW, hsame.mono (by decide) (by decide)⟩
  · show Steps p.tables e below (s₁.setTop (mkF m 0 #[.val (.int (1 : Int32)), .unset, .unset, .unset, .unset] [])) _
    refine st1 _ ?_
    show Steps p.tables e below (T1.setTop (mkF m 3 #[.val (.int (1 : Int32)), .unset, .unset, .unset, .unset] [(.ref w_ALL)])) _
    refine XS.astoreN X1.here hx rfl (hb hby d1_3) rfl rfl (l' := #[.val (.int (1 : Int32)), .val (.ref w_ALL), .unset, .unset, .unset]) rfl ?_
    show Steps p.tables e below (T1.setTop (mkF m 4 #[.val (.int (1 : Int32)), .val (.ref w_ALL), .unset, .unset, .unset] [])) _
    refine XS.aloadN X1.here hx rfl (hb hby d1_4) rfl rfl ?_
    show Steps p.tables e below (T1.setTop (mkF m 5 #[.val (.int (1 : Int32)), .val (.ref w_ALL), .unset, .unset, .unset] [(.ref w_ALL)])) _
    refine X1.arraylength hx (by rw [e1]; exact Ar2.1) (State.isArrayOf_alike hZ.alike Ar2.2.1) (g := (mkF m 5 #[.val (.int (1 : Int32)), .val (.ref w_ALL), .unset, .unset, .unset] [(.ref w_ALL)])) rfl rfl (hb hby d1_5) _ ?_
    rw [len_of Sz2 Nn2]
    show Steps p.tables e below (T1.setTop (mkF m 6 #[.val (.int (1 : Int32)), .val (.ref w_ALL), .unset, .unset, .unset] [(.int (5 : Int32))])) _
    refine XS.istoreN X1.here hx rfl (hb hby d1_6) rfl (l' := #[.val (.int (1 : Int32)), .val (.ref w_ALL), .val (.int (5 : Int32)), .unset, .unset]) rfl ?_
    show Steps p.tables e below (T1.setTop (mkF m 7 #[.val (.int (1 : Int32)), .val (.ref w_ALL), .val (.int (5 : Int32)), .unset, .unset] [])) _
    refine XS.iconst X1.here hx rfl (hb hby d1_7) ?_
    show Steps p.tables e below (T1.setTop (mkF m 8 #[.val (.int (1 : Int32)), .val (.ref w_ALL), .val (.int (5 : Int32)), .unset, .unset] [(.int (0 : Int32))])) _
    refine XS.istoreN X1.here hx rfl (hb hby d1_8) rfl (l' := #[.val (.int (1 : Int32)), .val (.ref w_ALL), .val (.int (5 : Int32)), .val (.int (0 : Int32)), .unset]) rfl ?_
    show Steps p.tables e below (T1.setTop (mkF m 9 #[.val (.int (1 : Int32)), .val (.ref w_ALL), .val (.int (5 : Int32)), .val (.int (0 : Int32)), .unset] [])) _
    refine XS.iloadN X1.here hx rfl (hb hby d1_9) rfl ?_
    show Steps p.tables e below (T1.setTop (mkF m 10 #[.val (.int (1 : Int32)), .val (.ref w_ALL), .val (.int (5 : Int32)), .val (.int (0 : Int32)), .unset] [(.int (0 : Int32))])) _
    refine XS.iloadN X1.here hx rfl (hb hby d1_10) rfl ?_
    show Steps p.tables e below (T1.setTop (mkF m 11 #[.val (.int (1 : Int32)), .val (.ref w_ALL), .val (.int (5 : Int32)), .val (.int (0 : Int32)), .unset] [(.int (5 : Int32)), (.int (0 : Int32))])) _
    refine XS.icmpNo X1.here hx rfl (hb hby d1_11) rfl (tlt (by decide : (0 : Int32) < (5 : Int32))).2.1 ?_
    show Steps p.tables e below (T1.setTop (mkF m 14 #[.val (.int (1 : Int32)), .val (.ref w_ALL), .val (.int (5 : Int32)), .val (.int (0 : Int32)), .unset] [])) _
    refine XS.aloadN X1.here hx rfl (hb hby d1_14) rfl rfl ?_
    show Steps p.tables e below (T1.setTop (mkF m 15 #[.val (.int (1 : Int32)), .val (.ref w_ALL), .val (.int (5 : Int32)), .val (.int (0 : Int32)), .unset] [(.ref w_ALL)])) _
    refine XS.iloadN X1.here hx rfl (hb hby d1_15) rfl ?_
    show Steps p.tables e below (T1.setTop (mkF m 16 #[.val (.int (1 : Int32)), .val (.ref w_ALL), .val (.int (5 : Int32)), .val (.int (0 : Int32)), .unset] [(.int (0 : Int32)), (.ref w_ALL)])) _
    refine X1.aaload hx (j := (0 : Int32)) (v := (.ref w_STRING)) (by rw [e1]; exact Ar3.1) (State.isArrayOf_alike hZ.alike Ar3.2.1) rfl Ar3.2.2 hin3 hat3 (g := (mkF m 16 #[.val (.int (1 : Int32)), .val (.ref w_ALL), .val (.int (5 : Int32)), .val (.int (0 : Int32)), .unset] [(.int (0 : Int32)), (.ref w_ALL)])) rfl rfl (hb hby d1_16) _ ?_
    show Steps p.tables e below (T1.setTop (mkF m 17 #[.val (.int (1 : Int32)), .val (.ref w_ALL), .val (.int (5 : Int32)), .val (.int (0 : Int32)), .unset] [(.ref w_STRING)])) _
    refine XS.astore X1.here hx rfl (hb hby d1_17) rfl rfl (l' := #[.val (.int (1 : Int32)), .val (.ref w_ALL), .val (.int (5 : Int32)), .val (.int (0 : Int32)), .val (.ref w_STRING)]) rfl ?_
    show Steps p.tables e below (T1.setTop (mkF m 19 #[.val (.int (1 : Int32)), .val (.ref w_ALL), .val (.int (5 : Int32)), .val (.int (0 : Int32)), .val (.ref w_STRING)] [])) _
    refine XS.aload X1.here hx rfl (hb hby d1_19) rfl rfl ?_
    show Steps p.tables e below (T1.setTop (mkF m 21 #[.val (.int (1 : Int32)), .val (.ref w_ALL), .val (.int (5 : Int32)), .val (.int (0 : Int32)), .val (.ref w_STRING)] [(.ref w_STRING)])) _
    refine st4 _ ?_
    show Steps p.tables e below (T4.setTop (mkF m 24 #[.val (.int (1 : Int32)), .val (.ref w_ALL), .val (.int (5 : Int32)), .val (.int (0 : Int32)), .val (.ref w_STRING)] [(.int (1 : Int32))])) _
    refine XS.iloadN X4.here hx rfl (hb hby d1_24) rfl ?_
    show Steps p.tables e below (T4.setTop (mkF m 25 #[.val (.int (1 : Int32)), .val (.ref w_ALL), .val (.int (5 : Int32)), .val (.int (0 : Int32)), .val (.ref w_STRING)] [(.int (1 : Int32)), (.int (1 : Int32))])) _
    refine XS.icmpNo X4.here hx rfl (hb hby d1_25) rfl (teq (by decide : (1 : Int32) = (1 : Int32))).2 ?_
    show Steps p.tables e below (T4.setTop (mkF m 28 #[.val (.int (1 : Int32)), .val (.ref w_ALL), .val (.int (5 : Int32)), .val (.int (0 : Int32)), .val (.ref w_STRING)] [])) _
    refine XS.aload X4.here hx rfl (hb hby d1_28) rfl rfl ?_
    show Steps p.tables e below (T4.setTop (mkF m 30 #[.val (.int (1 : Int32)), .val (.ref w_ALL), .val (.int (5 : Int32)), .val (.int (0 : Int32)), .val (.ref w_STRING)] [(.ref w_STRING)])) _
    exact retOut X4 hx Bd.returns rfl (Or.inr (Or.inr (Or.inr (Or.inr ⟨rfl, rfl, rfl⟩)))) (hb hby d1_30) hr
  · exact ⟨rfl, N0, e4⟩
set_option maxRecDepth 65536 in
set_option maxHeartbeats 40000000 in
theorem rm1_2 (l : Launch) (Z : State) (a0 : Array Value) (hw : ∀ d ∈ tables_1, d.before a0 Z = true) (ws : List Jvm.Cond) (n0 : Nat) (h0 : Heap) (O : Old Z n0 h0) (w_ALL : Addr) (w_STRING : Addr) (w_INT : Addr) (w_BIGINT : Addr) (w_DOUBLE : Addr) (w_BOOLEAN : Addr) (k_w_ALL : ClassId) (W : OwW Z w_ALL w_STRING w_INT w_BIGINT w_DOUBLE w_BOOLEAN k_w_ALL)  :
    OwCon l (⟨"com/example/lamina/lamina/engine/ColumnType", "ofCode", "(I)Lcom/example/lamina/lamina/engine/ColumnType;"⟩ : MethodName) prog_7_method_7_code 5 (some (.object "com/example/lamina/lamina/engine/ColumnType")) ws ({ frames := 0, cells := 0, slots := 0, locals := 0 } : Room) #[(.int (2 : Int32))] Z h0 (OwQ (some (.ref w_INT)) h0 n0) := by
  refine MetFree.of_bodySF (plainFor_of_name owpn1) hisR ?_
  intro p e s m args below meth c s₁ Bd hml0 hP hK
  obtain ⟨rfl, hZ, hh⟩ := hP
  have hx := Bd.exec
  have hby := Bd.bytes
  have hml : c.maxLocals = 5 := hml0
  have hown : s.vm.findClass "com/example/lamina/lamina/engine/ColumnType" = some m.cls := findClass_of_methodNamed Bd.named
  have hnm := (name_of_methodNamed Bd.named Bd.method).1
  have X0 : Stand p l e ({ frames := 0, cells := 0, slots := 0, locals := 0 } : Room) s m #[(.int (2 : Int32))] below meth c s₁ [] 0 0 := Stand.of_body Bd
  have e0 : s₁.heap = h0 := by rw [← hh, Bd.state]; rfl
  have N0 := Fr.nil n0
  have WW := W
  obtain ⟨E_w_STRING, E_w_INT, E_w_BIGINT, E_w_DOUBLE, E_w_BOOLEAN, S_ColumnType_ALL, S_ColumnType_STRING, F_w_STRING_code, S_ColumnType_INT, F_w_INT_code, S_ColumnType_BIGINT, F_w_BIGINT_code, S_ColumnType_DOUBLE, F_w_DOUBLE_code, S_ColumnType_BOOLEAN, F_w_BOOLEAN_code, V_w_ALL, -⟩ := WW
  have ef : entryFrame m #[(.int (2 : Int32))] 5 = mkF m 0 #[.val (.int (2 : Int32)), .unset, .unset, .unset, .unset] [] := by first | rfl | (simp [entryFrame, mkF, argsToLocals, Value.category]; done)
  have pre0 : ∀ t, Steps p.tables e below (s₁.setTop (mkF m 0 #[.val (.int (2 : Int32)), .unset, .unset, .unset, .unset] [])) t → Steps p.tables e below (s₁.setTop (entryFrame m #[(.int (2 : Int32))] 5)) t := fun t k => castTop ef k
  obtain ⟨T1, X1, e1, st1⟩ := getS2 X0 hx hZ hown (host := "") (Or.inl (hw _ (List.mem_of_getElem? (i := 4) rfl))) Via.refl e0 (S_ColumnType_ALL.ext O.2) (g := (mkF m 0 #[.val (.int (2 : Int32)), .unset, .unset, .unset, .unset] [])) rfl (hb hby d1_0)
  obtain ⟨cl2, Ar2, q2, Sz2, Nn2, Hs2, -⟩ := (V_w_ALL.ext O.2)
  obtain ⟨cl3, Ar3, q3, Sz3, Nn3, Hs3, -⟩ := (V_w_ALL.ext O.2)
  have hin3 : ¬ ((0 : Int32) < 0 ∨ cl3.slots.size ≤ ((0 : Int32)).toNatClampNeg) := inb_of Sz3 ⟨by decide, by decide⟩
  have hat3 : cl3.slots[((0 : Int32)).toNatClampNeg]? = some (.ref w_STRING) := Has.at Hs3 hin3 rfl
  obtain ⟨T4, X4, e4, st4⟩ := getF X1 hx hZ hown (host := "") (Or.inl (hw _ (List.mem_of_getElem? (i := 7) rfl))) Via.refl e1 (F_w_STRING_code.ext O.2) (g := (mkF m 21 #[.val (.int (2 : Int32)), .val (.ref w_ALL), .val (.int (5 : Int32)), .val (.int (0 : Int32)), .val (.ref w_STRING)] [(.ref w_STRING)])) rfl rfl (hb hby d1_21)
  obtain ⟨cl5, Ar5, q5, Sz5, Nn5, Hs5, -⟩ := (V_w_ALL.ext O.2)
  have hin5 : ¬ ((1 : Int32) < 0 ∨ cl5.slots.size ≤ ((1 : Int32)).toNatClampNeg) := inb_of Sz5 ⟨by decide, by decide⟩
  have hat5 : cl5.slots[((1 : Int32)).toNatClampNeg]? = some (.ref w_INT) := Has.at Hs5 hin5 rfl
  obtain ⟨T6, X6, e6, st6⟩ := getF X4 hx hZ hown (host := "") (Or.inl (hw _ (List.mem_of_getElem? (i := 7) rfl))) Via.refl e4 (F_w_INT_code.ext O.2) (g := (mkF m 21 #[.val (.int (2 : Int32)), .val (.ref w_ALL), .val (.int (5 : Int32)), .val (.int (1 : Int32)), .val (.ref w_INT)] [(.ref w_INT)])) rfl rfl (hb hby d1_21)
  obtain ⟨fs, hr, hrun, hended, hW, hsame⟩ := X6.leave (v := some (.ref w_INT)) (fun h => by rw [Bd.returns] at h; cases h)
  refine ⟨_, _, pre0 _ ?_, hrun, hended, _, _, rfl, ?_, ⟨_, rfl⟩, hW, hsame.mono (by decide) (by decide)⟩
  · show Steps p.tables e below (s₁.setTop (mkF m 0 #[.val (.int (2 : Int32)), .unset, .unset, .unset, .unset] [])) _
    refine st1 _ ?_
    show Steps p.tables e below (T1.setTop (mkF m 3 #[.val (.int (2 : Int32)), .unset, .unset, .unset, .unset] [(.ref w_ALL)])) _
    refine XS.astoreN X1.here hx rfl (hb hby d1_3) rfl rfl (l' := #[.val (.int (2 : Int32)), .val (.ref w_ALL), .unset, .unset, .unset]) rfl ?_
    show Steps p.tables e below (T1.setTop (mkF m 4 #[.val (.int (2 : Int32)), .val (.ref w_ALL), .unset, .unset, .unset] [])) _
    refine XS.aloadN X1.here hx rfl (hb hby d1_4) rfl rfl ?_
    show Steps p.tables e below (T1.setTop (mkF m 5 #[.val (.int (2 : Int32)), .val (.ref w_ALL), .unset, .unset, .unset] [(.ref w_ALL)])) _
    refine X1.arraylength hx (by rw [e1]; exact Ar2.1) (State.isArrayOf_alike hZ.alike Ar2.2.1) (g := (mkF m 5 #[.val (.int (2 : Int32)), .val (.ref w_ALL), .unset, .unset, .unset] [(.ref w_ALL)])) rfl rfl (hb hby d1_5) _ ?_
    rw [len_of Sz2 Nn2]
    show Steps p.tables e below (T1.setTop (mkF m 6 #[.val (.int (2 : Int32)), .val (.ref w_ALL), .unset, .unset, .unset] [(.int (5 : Int32))])) _
    refine XS.istoreN X1.here hx rfl (hb hby d1_6) rfl (l' := #[.val (.int (2 : Int32)), .val (.ref w_ALL), .val (.int (5 : Int32)), .unset, .unset]) rfl ?_
    show Steps p.tables e below (T1.setTop (mkF m 7 #[.val (.int (2 : Int32)), .val (.ref w_ALL), .val (.int (5 : Int32)), .unset, .unset] [])) _
    refine XS.iconst X1.here hx rfl (hb hby d1_7) ?_
    show Steps p.tables e below (T1.setTop (mkF m 8 #[.val (.int (2 : Int32)), .val (.ref w_ALL), .val (.int (5 : Int32)), .unset, .unset] [(.int (0 : Int32))])) _
    refine XS.istoreN X1.here hx rfl (hb hby d1_8) rfl (l' := #[.val (.int (2 : Int32)), .val (.ref w_ALL), .val (.int (5 : Int32)), .val (.int (0 : Int32)), .unset]) rfl ?_
    show Steps p.tables e below (T1.setTop (mkF m 9 #[.val (.int (2 : Int32)), .val (.ref w_ALL), .val (.int (5 : Int32)), .val (.int (0 : Int32)), .unset] [])) _
    refine XS.iloadN X1.here hx rfl (hb hby d1_9) rfl ?_
    show Steps p.tables e below (T1.setTop (mkF m 10 #[.val (.int (2 : Int32)), .val (.ref w_ALL), .val (.int (5 : Int32)), .val (.int (0 : Int32)), .unset] [(.int (0 : Int32))])) _
    refine XS.iloadN X1.here hx rfl (hb hby d1_10) rfl ?_
    show Steps p.tables e below (T1.setTop (mkF m 11 #[.val (.int (2 : Int32)), .val (.ref w_ALL), .val (.int (5 : Int32)), .val (.int (0 : Int32)), .unset] [(.int (5 : Int32)), (.int (0 : Int32))])) _
    refine XS.icmpNo X1.here hx rfl (hb hby d1_11) rfl (tlt (by decide : (0 : Int32) < (5 : Int32))).2.1 ?_
    show Steps p.tables e below (T1.setTop (mkF m 14 #[.val (.int (2 : Int32)), .val (.ref w_ALL), .val (.int (5 : Int32)), .val (.int (0 : Int32)), .unset] [])) _
    refine XS.aloadN X1.here hx rfl (hb hby d1_14) rfl rfl ?_
    show Steps p.tables e below (T1.setTop (mkF m 15 #[.val (.int (2 : Int32)), .val (.ref w_ALL), .val (.int (5 : Int32)), .val (.int (0 : Int32)), .unset] [(.ref w_ALL)])) _
    refine XS.iloadN X1.here hx rfl (hb hby d1_15) rfl ?_
    show Steps p.tables e below (T1.setTop (mkF m 16 #[.val (.int (2 : Int32)), .val (.ref w_ALL), .val (.int (5 : Int32)), .val (.int (0 : Int32)), .unset] [(.int (0 : Int32)), (.ref w_ALL)])) _
    refine X1.aaload hx (j := (0 : Int32)) (v := (.ref w_STRING)) (by rw [e1]; exact Ar3.1) (State.isArrayOf_alike hZ.alike Ar3.2.1) rfl Ar3.2.2 hin3 hat3 (g := (mkF m 16 #[.val (.int (2 : Int32)), .val (.ref w_ALL), .val (.int (5 : Int32)), .val (.int (0 : Int32)), .unset] [(.int (0 : Int32)), (.ref w_ALL)])) rfl rfl (hb hby d1_16) _ ?_
    show Steps p.tables e below (T1.setTop (mkF m 17 #[.val (.int (2 : Int32)), .val (.ref w_ALL), .val (.int (5 : Int32)), .val (.int (0 : Int32)), .unset] [(.ref w_STRING)])) _
    refine XS.astore X1.here hx rfl (hb hby d1_17) rfl rfl (l' := #[.val (.int (2 : Int32)), .val (.ref w_ALL), .val (.int (5 : Int32)), .val (.int (0 : Int32)), .val (.ref w_STRING)]) rfl ?_
    show Steps p.tables e below (T1.setTop (mkF m 19 #[.val (.int (2 : Int32)), .val (.ref w_ALL), .val (.int (5 : Int32)), .val (.int (0 : Int32)), .val (.ref w_STRING)] [])) _
    refine XS.aload X1.here hx rfl (hb hby d1_19) rfl rfl ?_
    show Steps p.tables e below (T1.setTop (mkF m 21 #[.val (.int (2 : Int32)), .val (.ref w_ALL), .val (.int (5 : Int32)), .val (.int (0 : Int32)), .val (.ref w_STRING)] [(.ref w_STRING)])) _
    refine st4 _ ?_
    show Steps p.tables e below (T4.setTop (mkF m 24 #[.val (.int (2 : Int32)), .val (.ref w_ALL), .val (.int (5 : Int32)), .val (.int (0 : Int32)), .val (.ref w_STRING)] [(.int (1 : Int32))])) _
    refine XS.iloadN X4.here hx rfl (hb hby d1_24) rfl ?_
    show Steps p.tables e below (T4.setTop (mkF m 25 #[.val (.int (2 : Int32)), .val (.ref w_ALL), .val (.int (5 : Int32)), .val (.int (0 : Int32)), .val (.ref w_STRING)] [(.int (2 : Int32)), (.int (1 : Int32))])) _
    refine XS.icmpYes X4.here hx rfl (pc0 := 25) (pc' := 31) rfl (hb hby d1_25) rfl (feq (by decide : ¬ ((1 : Int32) = (2 : Int32)))).2 (by decide) (by decide) ?_
    show Steps p.tables e below (T4.setTop (mkF m 31 #[.val (.int (2 : Int32)), .val (.ref w_ALL), .val (.int (5 : Int32)), .val (.int (0 : Int32)), .val (.ref w_STRING)] [])) _
    refine XS.iinc X4.here hx rfl (hb hby d1_31) rfl (l' := #[.val (.int (2 : Int32)), .val (.ref w_ALL), .val (.int (5 : Int32)), .val (.int (1 : Int32)), .val (.ref w_STRING)]) rfl ?_
    show Steps p.tables e below (T4.setTop (mkF m 34 #[.val (.int (2 : Int32)), .val (.ref w_ALL), .val (.int (5 : Int32)), .val (.int (1 : Int32)), .val (.ref w_STRING)] [])) _
    refine XS.goto X4.here hx rfl (pc0 := 34) (pc' := 9) rfl (hb hby d1_34) (by decide) (by decide) ?_
    show Steps p.tables e below (T4.setTop (mkF m 9 #[.val (.int (2 : Int32)), .val (.ref w_ALL), .val (.int (5 : Int32)), .val (.int (1 : Int32)), .val (.ref w_STRING)] [])) _
    refine XS.iloadN X4.here hx rfl (hb hby d1_9) rfl ?_
    show Steps p.tables e below (T4.setTop (mkF m 10 #[.val (.int (2 : Int32)), .val (.ref w_ALL), .val (.int (5 : Int32)), .val (.int (1 : Int32)), .val (.ref w_STRING)] [(.int (1 : Int32))])) _
    refine XS.iloadN X4.here hx rfl (hb hby d1_10) rfl ?_
    show Steps p.tables e below (T4.setTop (mkF m 11 #[.val (.int (2 : Int32)), .val (.ref w_ALL), .val (.int (5 : Int32)), .val (.int (1 : Int32)), .val (.ref w_STRING)] [(.int (5 : Int32)), (.int (1 : Int32))])) _
    refine XS.icmpNo X4.here hx rfl (hb hby d1_11) rfl (tlt (by decide : (1 : Int32) < (5 : Int32))).2.1 ?_
    show Steps p.tables e below (T4.setTop (mkF m 14 #[.val (.int (2 : Int32)), .val (.ref w_ALL), .val (.int (5 : Int32)), .val (.int (1 : Int32)), .val (.ref w_STRING)] [])) _
    refine XS.aloadN X4.here hx rfl (hb hby d1_14) rfl rfl ?_
    show Steps p.tables e below (T4.setTop (mkF m 15 #[.val (.int (2 : Int32)), .val (.ref w_ALL), .val (.int (5 : Int32)), .val (.int (1 : Int32)), .val (.ref w_STRING)] [(.ref w_ALL)])) _
    refine XS.iloadN X4.here hx rfl (hb hby d1_15) rfl ?_
    show Steps p.tables e below (T4.setTop (mkF m 16 #[.val (.int (2 : Int32)), .val (.ref w_ALL), .val (.int (5 : Int32)), .val (.int (1 : Int32)), .val (.ref w_STRING)] [(.int (1 : Int32)), (.ref w_ALL)])) _
    refine X4.aaload hx (j := (1 : Int32)) (v := (.ref w_INT)) (by rw [e4]; exact Ar5.1) (State.isArrayOf_alike hZ.alike Ar5.2.1) rfl Ar5.2.2 hin5 hat5 (g := (mkF m 16 #[.val (.int (2 : Int32)), .val (.ref w_ALL), .val (.int (5 : Int32)), .val (.int (1 : Int32)), .val (.ref w_STRING)] [(.int (1 : Int32)), (.ref w_ALL)])) rfl rfl (hb hby d1_16) _ ?_
    show Steps p.tables e below (T4.setTop (mkF m 17 #[.val (.int (2 : Int32)), .val (.ref w_ALL), .val (.int (5 : Int32)), .val (.int (1 : Int32)), .val (.ref w_STRING)] [(.ref w_INT)])) _
    refine XS.astore X4.here hx rfl (hb hby d1_17) rfl rfl (l' := #[.val (.int (2 : Int32)), .val (.ref w_ALL), .val (.int (5 : Int32)), .val (.int (1 : Int32)), .val (.ref w_INT)]) rfl ?_
    show Steps p.tables e below (T4.setTop (mkF m 19 #[.val (.int (2 : Int32)), .val (.ref w_ALL), .val (.int (5 : Int32)), .val (.int (1 : Int32)), .val (.ref w_INT)] [])) _
    refine XS.aload X4.here hx rfl (hb hby d1_19) rfl rfl ?_
    show Steps p.tables e below (T4.setTop (mkF m 21 #[.val (.int (2 : Int32)), .val (.ref w_ALL), .val (.int (5 : Int32)), .val (.int (1 : Int32)), .val (.ref w_INT)] [(.ref w_INT)])) _
    refine st6 _ ?_
    show Steps p.tables e below (T6.setTop (mkF m 24 #[.val (.int (2 : Int32)), .val (.ref w_ALL), .val (.int (5 : Int32)), .val (.int (1 : Int32)), .val (.ref w_INT)] [(.int (2 : Int32))])) _
    refine XS.iloadN X6.here hx rfl (hb hby d1_24) rfl ?_
    show Steps p.tables e below (T6.setTop (mkF m 25 #[.val (.int (2 : Int32)), .val (.ref w_ALL), .val (.int (5 : Int32)), .val (.int (1 : Int32)), .val (.ref w_INT)] [(.int (2 : Int32)), (.int (2 : Int32))])) _
    refine XS.icmpNo X6.here hx rfl (hb hby d1_25) rfl (teq (by decide : (2 : Int32) = (2 : Int32))).2 ?_
    show Steps p.tables e below (T6.setTop (mkF m 28 #[.val (.int (2 : Int32)), .val (.ref w_ALL), .val (.int (5 : Int32)), .val (.int (1 : Int32)), .val (.ref w_INT)] [])) _
    refine XS.aload X6.here hx rfl (hb hby d1_28) rfl rfl ?_
    show Steps p.tables e below (T6.setTop (mkF m 30 #[.val (.int (2 : Int32)), .val (.ref w_ALL), .val (.int (5 : Int32)), .val (.int (1 : Int32)), .val (.ref w_INT)] [(.ref w_INT)])) _
    exact retOut X6 hx Bd.returns rfl (Or.inr (Or.inr (Or.inr (Or.inr ⟨rfl, rfl, rfl⟩)))) (hb hby d1_30) hr
  · exact ⟨rfl, N0, e6⟩
set_option maxRecDepth 65536 in
set_option maxHeartbeats 40000000 in
theorem rm1_3 (l : Launch) (Z : State) (a0 : Array Value) (hw : ∀ d ∈ tables_1, d.before a0 Z = true) (ws : List Jvm.Cond) (n0 : Nat) (h0 : Heap) (O : Old Z n0 h0) (w_ALL : Addr) (w_STRING : Addr) (w_INT : Addr) (w_BIGINT : Addr) (w_DOUBLE : Addr) (w_BOOLEAN : Addr) (k_w_ALL : ClassId) (W : OwW Z w_ALL w_STRING w_INT w_BIGINT w_DOUBLE w_BOOLEAN k_w_ALL)  :
    OwCon l (⟨"com/example/lamina/lamina/engine/ColumnType", "ofCode", "(I)Lcom/example/lamina/lamina/engine/ColumnType;"⟩ : MethodName) prog_7_method_7_code 5 (some (.object "com/example/lamina/lamina/engine/ColumnType")) ws ({ frames := 0, cells := 0, slots := 0, locals := 0 } : Room) #[(.int (3 : Int32))] Z h0 (OwQ (some (.ref w_BIGINT)) h0 n0) := by
  refine MetFree.of_bodySF (plainFor_of_name owpn1) hisR ?_
  intro p e s m args below meth c s₁ Bd hml0 hP hK
  obtain ⟨rfl, hZ, hh⟩ := hP
  have hx := Bd.exec
  have hby := Bd.bytes
  have hml : c.maxLocals = 5 := hml0
  have hown : s.vm.findClass "com/example/lamina/lamina/engine/ColumnType" = some m.cls := findClass_of_methodNamed Bd.named
  have hnm := (name_of_methodNamed Bd.named Bd.method).1
  have X0 : Stand p l e ({ frames := 0, cells := 0, slots := 0, locals := 0 } : Room) s m #[(.int (3 : Int32))] below meth c s₁ [] 0 0 := Stand.of_body Bd
  have e0 : s₁.heap = h0 := by rw [← hh, Bd.state]; rfl
  have N0 := Fr.nil n0
  have WW := W
  obtain ⟨E_w_STRING, E_w_INT, E_w_BIGINT, E_w_DOUBLE, E_w_BOOLEAN, S_ColumnType_ALL, S_ColumnType_STRING, F_w_STRING_code, S_ColumnType_INT, F_w_INT_code, S_ColumnType_BIGINT, F_w_BIGINT_code, S_ColumnType_DOUBLE, F_w_DOUBLE_code, S_ColumnType_BOOLEAN, F_w_BOOLEAN_code, V_w_ALL, -⟩ := WW
  have ef : entryFrame m #[(.int (3 : Int32))] 5 = mkF m 0 #[.val (.int (3 : Int32)), .unset, .unset, .unset, .unset] [] := by first | rfl | (simp [entryFrame, mkF, argsToLocals, Value.category]; done)
  have pre0 : ∀ t, Steps p.tables e below (s₁.setTop (mkF m 0 #[.val (.int (3 : Int32)), .unset, .unset, .unset, .unset] [])) t → Steps p.tables e below (s₁.setTop (entryFrame m #[(.int (3 : Int32))] 5)) t := fun t k => castTop ef k
  obtain ⟨T1, X1, e1, st1⟩ := getS2 X0 hx hZ hown (host := "") (Or.inl (hw _ (List.mem_of_getElem? (i := 4) rfl))) Via.refl e0 (S_ColumnType_ALL.ext O.2) (g := (mkF m 0 #[.val (.int (3 : Int32)), .unset, .unset, .unset, .unset] [])) rfl (hb hby d1_0)
  obtain ⟨cl2, Ar2, q2, Sz2, Nn2, Hs2, -⟩ := (V_w_ALL.ext O.2)
  obtain ⟨cl3, Ar3, q3, Sz3, Nn3, Hs3, -⟩ := (V_w_ALL.ext O.2)
  have hin3 : ¬ ((0 : Int32) < 0 ∨ cl3.slots.size ≤ ((0 : Int32)).toNatClampNeg) := inb_of Sz3 ⟨by decide, by decide⟩
  have hat3 : cl3.slots[((0 : Int32)).toNatClampNeg]? = some (.ref w_STRING) := Has.at Hs3 hin3 rfl
  obtain ⟨T4, X4, e4, st4⟩ := getF X1 hx hZ hown (host := "") (Or.inl (hw _ (List.mem_of_getElem? (i := 7) rfl))) Via.refl e1 (F_w_STRING_code.ext O.2) (g := (mkF m 21 #[.val (.int (3 : Int32)), .val (.ref w_ALL), .val (.int (5 : Int32)), .val (.int (0 : Int32)), .val (.ref w_STRING)] [(.ref w_STRING)])) rfl rfl (hb hby d1_21)
  obtain ⟨cl5, Ar5, q5, Sz5, Nn5, Hs5, -⟩ := (V_w_ALL.ext O.2)
  have hin5 : ¬ ((1 : Int32) < 0 ∨ cl5.slots.size ≤ ((1 : Int32)).toNatClampNeg) := inb_of Sz5 ⟨by decide, by decide⟩
  have hat5 : cl5.slots[((1 : Int32)).toNatClampNeg]? = some (.ref w_INT) := Has.at Hs5 hin5 rfl
  obtain ⟨T6, X6, e6, st6⟩ := getF X4 hx hZ hown (host := "") (Or.inl (hw _ (List.mem_of_getElem? (i := 7) rfl))) Via.refl e4 (F_w_INT_code.ext O.2) (g := (mkF m 21 #[.val (.int (3 : Int32)), .val (.ref w_ALL), .val (.int (5 : Int32)), .val (.int (1 : Int32)), .val (.ref w_INT)] [(.ref w_INT)])) rfl rfl (hb hby d1_21)
  obtain ⟨cl7, Ar7, q7, Sz7, Nn7, Hs7, -⟩ := (V_w_ALL.ext O.2)
  have hin7 : ¬ ((2 : Int32) < 0 ∨ cl7.slots.size ≤ ((2 : Int32)).toNatClampNeg) := inb_of Sz7 ⟨by decide, by decide⟩
  have hat7 : cl7.slots[((2 : Int32)).toNatClampNeg]? = some (.ref w_BIGINT) := Has.at Hs7 hin7 rfl
  obtain ⟨T8, X8, e8, st8⟩ := getF X6 hx hZ hown (host := "") (Or.inl (hw _ (List.mem_of_getElem? (i := 7) rfl))) Via.refl e6 (F_w_BIGINT_code.ext O.2) (g := (mkF m 21 #[.val (.int (3 : Int32)), .val (.ref w_ALL), .val (.int (5 : Int32)), .val (.int (2 : Int32)), .val (.ref w_BIGINT)] [(.ref w_BIGINT)])) rfl rfl (hb hby d1_21)
  obtain ⟨fs, hr, hrun, hended, hW, hsame⟩ := X8.leave (v := some (.ref w_BIGINT)) (fun h => by rw [Bd.returns] at h; cases h)
  refine ⟨_, _, pre0 _ ?_, hrun, hended, _, _, rfl, ?_, ⟨_, rfl⟩, hW, hsame.mono (by decide) (by decide)⟩
  · show Steps p.tables e below (s₁.setTop (mkF m 0 #[.val (.int (3 : Int32)), .unset, .unset, .unset, .unset] [])) _
    refine st1 _ ?_
    show Steps p.tables e below (T1.setTop (mkF m 3 #[.val (.int (3 : Int32)), .unset, .unset, .unset, .unset] [(.ref w_ALL)])) _
    refine XS.astoreN X1.here hx rfl (hb hby d1_3) rfl rfl (l' := #[.val (.int (3 : Int32)), .val (.ref w_ALL), .unset, .unset, .unset]) rfl ?_
    show Steps p.tables e below (T1.setTop (mkF m 4 #[.val (.int (3 : Int32)), .val (.ref w_ALL), .unset, .unset, .unset] [])) _
    refine XS.aloadN X1.here hx rfl (hb hby d1_4) rfl rfl ?_
    show Steps p.tables e below (T1.setTop (mkF m 5 #[.val (.int (3 : Int32)), .val (.ref w_ALL), .unset, .unset, .unset] [(.ref w_ALL)])) _
    refine X1.arraylength hx (by rw [e1]; exact Ar2.1) (State.isArrayOf_alike hZ.alike Ar2.2.1) (g := (mkF m 5 #[.val (.int (3 : Int32)), .val (.ref w_ALL), .unset, .unset, .unset] [(.ref w_ALL)])) rfl rfl (hb hby d1_5) _ ?_
    rw [len_of Sz2 Nn2]
    show Steps p.tables e below (T1.setTop (mkF m 6 #[.val (.int (3 : Int32)), .val (.ref w_ALL), .unset, .unset, .unset] [(.int (5 : Int32))])) _
    refine XS.istoreN X1.here hx rfl (hb hby d1_6) rfl (l' := #[.val (.int (3 : Int32)), .val (.ref w_ALL), .val (.int (5 : Int32)), .unset, .unset]) rfl ?_
    show Steps p.tables e below (T1.setTop (mkF m 7 #[.val (.int (3 : Int32)), .val (.ref w_ALL), .val (.int (5 : Int32)), .unset, .unset] [])) _
    refine XS.iconst X1.here hx rfl (hb hby d1_7) ?_
    show Steps p.tables e below (T1.setTop (mkF m 8 #[.val (.int (3 : Int32)), .val (.ref w_ALL), .val (.int (5 : Int32)), .unset, .unset] [(.int (0 : Int32))])) _
    refine XS.istoreN X1.here hx rfl (hb hby d1_8) rfl (l' := #[.val (.int (3 : Int32)), .val (.ref w_ALL), .val (.int (5 : Int32)), .val (.int (0 : Int32)), .unset]) rfl ?_
    show Steps p.tables e below (T1.setTop (mkF m 9 #[.val (.int (3 : Int32)), .val (.ref w_ALL), .val (.int (5 : Int32)), .val (.int (0 : Int32)), .unset] [])) _
    refine XS.iloadN X1.here hx rfl (hb hby d1_9) rfl ?_
    show Steps p.tables e below (T1.setTop (mkF m 10 #[.val (.int (3 : Int32)), .val (.ref w_ALL), .val (.int (5 : Int32)), .val (.int (0 : Int32)), .unset] [(.int (0 : Int32))])) _
    refine XS.iloadN X1.here hx rfl (hb hby d1_10) rfl ?_
    show Steps p.tables e below (T1.setTop (mkF m 11 #[.val (.int (3 : Int32)), .val (.ref w_ALL), .val (.int (5 : Int32)), .val (.int (0 : Int32)), .unset] [(.int (5 : Int32)), (.int (0 : Int32))])) _
    refine XS.icmpNo X1.here hx rfl (hb hby d1_11) rfl (tlt (by decide : (0 : Int32) < (5 : Int32))).2.1 ?_
    show Steps p.tables e below (T1.setTop (mkF m 14 #[.val (.int (3 : Int32)), .val (.ref w_ALL), .val (.int (5 : Int32)), .val (.int (0 : Int32)), .unset] [])) _
    refine XS.aloadN X1.here hx rfl (hb hby d1_14) rfl rfl ?_
    show Steps p.tables e below (T1.setTop (mkF m 15 #[.val (.int (3 : Int32)), .val (.ref w_ALL), .val (.int (5 : Int32)), .val (.int (0 : Int32)), .unset] [(.ref w_ALL)])) _
    refine XS.iloadN X1.here hx rfl (hb hby d1_15) rfl ?_
    show Steps p.tables e below (T1.setTop (mkF m 16 #[.val (.int (3 : Int32)), .val (.ref w_ALL), .val (.int (5 : Int32)), .val (.int (0 : Int32)), .unset] [(.int (0 : Int32)), (.ref w_ALL)])) _
    refine X1.aaload hx (j := (0 : Int32)) (v := (.ref w_STRING)) (by rw [e1]; exact Ar3.1) (State.isArrayOf_alike hZ.alike Ar3.2.1) rfl Ar3.2.2 hin3 hat3 (g := (mkF m 16 #[.val (.int (3 : Int32)), .val (.ref w_ALL), .val (.int (5 : Int32)), .val (.int (0 : Int32)), .unset] [(.int (0 : Int32)), (.ref w_ALL)])) rfl rfl (hb hby d1_16) _ ?_
    show Steps p.tables e below (T1.setTop (mkF m 17 #[.val (.int (3 : Int32)), .val (.ref w_ALL), .val (.int (5 : Int32)), .val (.int (0 : Int32)), .unset] [(.ref w_STRING)])) _
    refine XS.astore X1.here hx rfl (hb hby d1_17) rfl rfl (l' := #[.val (.int (3 : Int32)), .val (.ref w_ALL), .val (.int (5 : Int32)), .val (.int (0 : Int32)), .val (.ref w_STRING)]) rfl ?_
    show Steps p.tables e below (T1.setTop (mkF m 19 #[.val (.int (3 : Int32)), .val (.ref w_ALL), .val (.int (5 : Int32)), .val (.int (0 : Int32)), .val (.ref w_STRING)] [])) _
    refine XS.aload X1.here hx rfl (hb hby d1_19) rfl rfl ?_
    show Steps p.tables e below (T1.setTop (mkF m 21 #[.val (.int (3 : Int32)), .val (.ref w_ALL), .val (.int (5 : Int32)), .val (.int (0 : Int32)), .val (.ref w_STRING)] [(.ref w_STRING)])) _
    refine st4 _ ?_
    show Steps p.tables e below (T4.setTop (mkF m 24 #[.val (.int (3 : Int32)), .val (.ref w_ALL), .val (.int (5 : Int32)), .val (.int (0 : Int32)), .val (.ref w_STRING)] [(.int (1 : Int32))])) _
    refine XS.iloadN X4.here hx rfl (hb hby d1_24) rfl ?_
    show Steps p.tables e below (T4.setTop (mkF m 25 #[.val (.int (3 : Int32)), .val (.ref w_ALL), .val (.int (5 : Int32)), .val (.int (0 : Int32)), .val (.ref w_STRING)] [(.int (3 : Int32)), (.int (1 : Int32))])) _
    refine XS.icmpYes X4.here hx rfl (pc0 := 25) (pc' := 31) rfl (hb hby d1_25) rfl (feq (by decide : ¬ ((1 : Int32) = (3 : Int32)))).2 (by decide) (by decide) ?_
    show Steps p.tables e below (T4.setTop (mkF m 31 #[.val (.int (3 : Int32)), .val (.ref w_ALL), .val (.int (5 : Int32)), .val (.int (0 : Int32)), .val (.ref w_STRING)] [])) _
    refine XS.iinc X4.here hx rfl (hb hby d1_31) rfl (l' := #[.val (.int (3 : Int32)), .val (.ref w_ALL), .val (.int (5 : Int32)), .val (.int (1 : Int32)), .val (.ref w_STRING)]) rfl ?_
    show Steps p.tables e below (T4.setTop (mkF m 34 #[.val (.int (3 : Int32)), .val (.ref w_ALL), .val (.int (5 : Int32)), .val (.int (1 : Int32)), .val (.ref w_STRING)] [])) _
    refine XS.goto X4.here hx rfl (pc0 := 34) (pc' := 9) rfl (hb hby d1_34) (by decide) (by decide) ?_
    show Steps p.tables e below (T4.setTop (mkF m 9 #[.val (.int (3 : Int32)), .val (.ref w_ALL), .val (.int (5 : Int32)), .val (.int (1 : Int32)), .val (.ref w_STRING)] [])) _
    refine XS.iloadN X4.here hx rfl (hb hby d1_9) rfl ?_
    show Steps p.tables e below (T4.setTop (mkF m 10 #[.val (.int (3 : Int32)), .val (.ref w_ALL), .val (.int (5 : Int32)), .val (.int (1 : Int32)), .val (.ref w_STRING)] [(.int (1 : Int32))])) _
    refine XS.iloadN X4.here hx rfl (hb hby d1_10) rfl ?_
    show Steps p.tables e below (T4.setTop (mkF m 11 #[.val (.int (3 : Int32)), .val (.ref w_ALL), .val (.int (5 : Int32)), .val (.int (1 : Int32)), .val (.ref w_STRING)] [(.int (5 : Int32)), (.int (1 : Int32))])) _
    refine XS.icmpNo X4.here hx rfl (hb hby d1_11) rfl (tlt (by decide : (1 : Int32) < (5 : Int32))).2.1 ?_
    show Steps p.tables e below (T4.setTop (mkF m 14 #[.val (.int (3 : Int32)), .val (.ref w_ALL), .val (.int (5 : Int32)), .val (.int (1 : Int32)), .val (.ref w_STRING)] [])) _
    refine XS.aloadN X4.here hx rfl (hb hby d1_14) rfl rfl ?_
    show Steps p.tables e below (T4.setTop (mkF m 15 #[.val (.int (3 : Int32)), .val (.ref w_ALL), .val (.int (5 : Int32)), .val (.int (1 : Int32)), .val (.ref w_STRING)] [(.ref w_ALL)])) _
    refine XS.iloadN X4.here hx rfl (hb hby d1_15) rfl ?_
    show Steps p.tables e below (T4.setTop (mkF m 16 #[.val (.int (3 : Int32)), .val (.ref w_ALL), .val (.int (5 : Int32)), .val (.int (1 : Int32)), .val (.ref w_STRING)] [(.int (1 : Int32)), (.ref w_ALL)])) _
    refine X4.aaload hx (j := (1 : Int32)) (v := (.ref w_INT)) (by rw [e4]; exact Ar5.1) (State.isArrayOf_alike hZ.alike Ar5.2.1) rfl Ar5.2.2 hin5 hat5 (g := (mkF m 16 #[.val (.int (3 : Int32)), .val (.ref w_ALL), .val (.int (5 : Int32)), .val (.int (1 : Int32)), .val (.ref w_STRING)] [(.int (1 : Int32)), (.ref w_ALL)])) rfl rfl (hb hby d1_16) _ ?_
    show Steps p.tables e below (T4.setTop (mkF m 17 #[.val (.int (3 : Int32)), .val (.ref w_ALL), .val (.int (5 : Int32)), .val (.int (1 : Int32)), .val (.ref w_STRING)] [(.ref w_INT)])) _
    refine XS.astore X4.here hx rfl (hb hby d1_17) rfl rfl (l' := #[.val (.int (3 : Int32)), .val (.ref w_ALL), .val (.int (5 : Int32)), .val (.int (1 : Int32)), .val (.ref w_INT)]) rfl ?_
    show Steps p.tables e below (T4.setTop (mkF m 19 #[.val (.int (3 : Int32)), .val (.ref w_ALL), .val (.int (5 : Int32)), .val (.int (1 : Int32)), .val (.ref w_INT)] [])) _
    refine XS.aload X4.here hx rfl (hb hby d1_19) rfl rfl ?_
    show Steps p.tables e below (T4.setTop (mkF m 21 #[.val (.int (3 : Int32)), .val (.ref w_ALL), .val (.int (5 : Int32)), .val (.int (1 : Int32)), .val (.ref w_INT)] [(.ref w_INT)])) _
    refine st6 _ ?_
    show Steps p.tables e below (T6.setTop (mkF m 24 #[.val (.int (3 : Int32)), .val (.ref w_ALL), .val (.int (5 : Int32)), .val (.int (1 : Int32)), .val (.ref w_INT)] [(.int (2 : Int32))])) _
    refine XS.iloadN X6.here hx rfl (hb hby d1_24) rfl ?_
    show Steps p.tables e below (T6.setTop (mkF m 25 #[.val (.int (3 : Int32)), .val (.ref w_ALL), .val (.int (5 : Int32)), .val (.int (1 : Int32)), .val (.ref w_INT)] [(.int (3 : Int32)), (.int (2 : Int32))])) _
    refine XS.icmpYes X6.here hx rfl (pc0 := 25) (pc' := 31) rfl (hb hby d1_25) rfl (feq (by decide : ¬ ((2 : Int32) = (3 : Int32)))).2 (by decide) (by decide) ?_
    show Steps p.tables e below (T6.setTop (mkF m 31 #[.val (.int (3 : Int32)), .val (.ref w_ALL), .val (.int (5 : Int32)), .val (.int (1 : Int32)), .val (.ref w_INT)] [])) _
    refine XS.iinc X6.here hx rfl (hb hby d1_31) rfl (l' := #[.val (.int (3 : Int32)), .val (.ref w_ALL), .val (.int (5 : Int32)), .val (.int (2 : Int32)), .val (.ref w_INT)]) rfl ?_
    show Steps p.tables e below (T6.setTop (mkF m 34 #[.val (.int (3 : Int32)), .val (.ref w_ALL), .val (.int (5 : Int32)), .val (.int (2 : Int32)), .val (.ref w_INT)] [])) _
    refine XS.goto X6.here hx rfl (pc0 := 34) (pc' := 9) rfl (hb hby d1_34) (by decide) (by decide) ?_
    show Steps p.tables e below (T6.setTop (mkF m 9 #[.val (.int (3 : Int32)), .val (.ref w_ALL), .val (.int (5 : Int32)), .val (.int (2 : Int32)), .val (.ref w_INT)] [])) _
    refine XS.iloadN X6.here hx rfl (hb hby d1_9) rfl ?_
    show Steps p.tables e below (T6.setTop (mkF m 10 #[.val (.int (3 : Int32)), .val (.ref w_ALL), .val (.int (5 : Int32)), .val (.int (2 : Int32)), .val (.ref w_INT)] [(.int (2 : Int32))])) _
    refine XS.iloadN X6.here hx rfl (hb hby d1_10) rfl ?_
    show Steps p.tables e below (T6.setTop (mkF m 11 #[.val (.int (3 : Int32)), .val (.ref w_ALL), .val (.int (5 : Int32)), .val (.int (2 : Int32)), .val (.ref w_INT)] [(.int (5 : Int32)), (.int (2 : Int32))])) _
    refine XS.icmpNo X6.here hx rfl (hb hby d1_11) rfl (tlt (by decide : (2 : Int32) < (5 : Int32))).2.1 ?_
    show Steps p.tables e below (T6.setTop (mkF m 14 #[.val (.int (3 : Int32)), .val (.ref w_ALL), .val (.int (5 : Int32)), .val (.int (2 : Int32)), .val (.ref w_INT)] [])) _
    refine XS.aloadN X6.here hx rfl (hb hby d1_14) rfl rfl ?_
    show Steps p.tables e below (T6.setTop (mkF m 15 #[.val (.int (3 : Int32)), .val (.ref w_ALL), .val (.int (5 : Int32)), .val (.int (2 : Int32)), .val (.ref w_INT)] [(.ref w_ALL)])) _
    refine XS.iloadN X6.here hx rfl (hb hby d1_15) rfl ?_
    show Steps p.tables e below (T6.setTop (mkF m 16 #[.val (.int (3 : Int32)), .val (.ref w_ALL), .val (.int (5 : Int32)), .val (.int (2 : Int32)), .val (.ref w_INT)] [(.int (2 : Int32)), (.ref w_ALL)])) _
    refine X6.aaload hx (j := (2 : Int32)) (v := (.ref w_BIGINT)) (by rw [e6]; exact Ar7.1) (State.isArrayOf_alike hZ.alike Ar7.2.1) rfl Ar7.2.2 hin7 hat7 (g := (mkF m 16 #[.val (.int (3 : Int32)), .val (.ref w_ALL), .val (.int (5 : Int32)), .val (.int (2 : Int32)), .val (.ref w_INT)] [(.int (2 : Int32)), (.ref w_ALL)])) rfl rfl (hb hby d1_16) _ ?_
    show Steps p.tables e below (T6.setTop (mkF m 17 #[.val (.int (3 : Int32)), .val (.ref w_ALL), .val (.int (5 : Int32)), .val (.int (2 : Int32)), .val (.ref w_INT)] [(.ref w_BIGINT)])) _
    refine XS.astore X6.here hx rfl (hb hby d1_17) rfl rfl (l' := #[.val (.int (3 : Int32)), .val (.ref w_ALL), .val (.int (5 : Int32)), .val (.int (2 : Int32)), .val (.ref w_BIGINT)]) rfl ?_
    show Steps p.tables e below (T6.setTop (mkF m 19 #[.val (.int (3 : Int32)), .val (.ref w_ALL), .val (.int (5 : Int32)), .val (.int (2 : Int32)), .val (.ref w_BIGINT)] [])) _
    refine XS.aload X6.here hx rfl (hb hby d1_19) rfl rfl ?_
    show Steps p.tables e below (T6.setTop (mkF m 21 #[.val (.int (3 : Int32)), .val (.ref w_ALL), .val (.int (5 : Int32)), .val (.int (2 : Int32)), .val (.ref w_BIGINT)] [(.ref w_BIGINT)])) _
    refine st8 _ ?_
    show Steps p.tables e below (T8.setTop (mkF m 24 #[.val (.int (3 : Int32)), .val (.ref w_ALL), .val (.int (5 : Int32)), .val (.int (2 : Int32)), .val (.ref w_BIGINT)] [(.int (3 : Int32))])) _
    refine XS.iloadN X8.here hx rfl (hb hby d1_24) rfl ?_
    show Steps p.tables e below (T8.setTop (mkF m 25 #[.val (.int (3 : Int32)), .val (.ref w_ALL), .val (.int (5 : Int32)), .val (.int (2 : Int32)), .val (.ref w_BIGINT)] [(.int (3 : Int32)), (.int (3 : Int32))])) _
    refine XS.icmpNo X8.here hx rfl (hb hby d1_25) rfl (teq (by decide : (3 : Int32) = (3 : Int32))).2 ?_
    show Steps p.tables e below (T8.setTop (mkF m 28 #[.val (.int (3 : Int32)), .val (.ref w_ALL), .val (.int (5 : Int32)), .val (.int (2 : Int32)), .val (.ref w_BIGINT)] [])) _
    refine XS.aload X8.here hx rfl (hb hby d1_28) rfl rfl ?_
    show Steps p.tables e below (T8.setTop (mkF m 30 #[.val (.int (3 : Int32)), .val (.ref w_ALL), .val (.int (5 : Int32)), .val (.int (2 : Int32)), .val (.ref w_BIGINT)] [(.ref w_BIGINT)])) _
    exact retOut X8 hx Bd.returns rfl (Or.inr (Or.inr (Or.inr (Or.inr ⟨rfl, rfl, rfl⟩)))) (hb hby d1_30) hr
  · exact ⟨rfl, N0, e8⟩
set_option maxRecDepth 65536 in
set_option maxHeartbeats 40000000 in
theorem rm1_4 (l : Launch) (Z : State) (a0 : Array Value) (hw : ∀ d ∈ tables_1, d.before a0 Z = true) (ws : List Jvm.Cond) (n0 : Nat) (h0 : Heap) (O : Old Z n0 h0) (w_ALL : Addr) (w_STRING : Addr) (w_INT : Addr) (w_BIGINT : Addr) (w_DOUBLE : Addr) (w_BOOLEAN : Addr) (k_w_ALL : ClassId) (W : OwW Z w_ALL w_STRING w_INT w_BIGINT w_DOUBLE w_BOOLEAN k_w_ALL)  :
    OwCon l (⟨"com/example/lamina/lamina/engine/ColumnType", "ofCode", "(I)Lcom/example/lamina/lamina/engine/ColumnType;"⟩ : MethodName) prog_7_method_7_code 5 (some (.object "com/example/lamina/lamina/engine/ColumnType")) ws ({ frames := 0, cells := 0, slots := 0, locals := 0 } : Room) #[(.int (4 : Int32))] Z h0 (OwQ (some (.ref w_DOUBLE)) h0 n0) := by
  refine MetFree.of_bodySF (plainFor_of_name owpn1) hisR ?_
  intro p e s m args below meth c s₁ Bd hml0 hP hK
  obtain ⟨rfl, hZ, hh⟩ := hP
  have hx := Bd.exec
  have hby := Bd.bytes
  have hml : c.maxLocals = 5 := hml0
  have hown : s.vm.findClass "com/example/lamina/lamina/engine/ColumnType" = some m.cls := findClass_of_methodNamed Bd.named
  have hnm := (name_of_methodNamed Bd.named Bd.method).1
  have X0 : Stand p l e ({ frames := 0, cells := 0, slots := 0, locals := 0 } : Room) s m #[(.int (4 : Int32))] below meth c s₁ [] 0 0 := Stand.of_body Bd
  have e0 : s₁.heap = h0 := by rw [← hh, Bd.state]; rfl
  have N0 := Fr.nil n0
  have WW := W
  obtain ⟨E_w_STRING, E_w_INT, E_w_BIGINT, E_w_DOUBLE, E_w_BOOLEAN, S_ColumnType_ALL, S_ColumnType_STRING, F_w_STRING_code, S_ColumnType_INT, F_w_INT_code, S_ColumnType_BIGINT, F_w_BIGINT_code, S_ColumnType_DOUBLE, F_w_DOUBLE_code, S_ColumnType_BOOLEAN, F_w_BOOLEAN_code, V_w_ALL, -⟩ := WW
  have ef : entryFrame m #[(.int (4 : Int32))] 5 = mkF m 0 #[.val (.int (4 : Int32)), .unset, .unset, .unset, .unset] [] := by first | rfl | (simp [entryFrame, mkF, argsToLocals, Value.category]; done)
  have pre0 : ∀ t, Steps p.tables e below (s₁.setTop (mkF m 0 #[.val (.int (4 : Int32)), .unset, .unset, .unset, .unset] [])) t → Steps p.tables e below (s₁.setTop (entryFrame m #[(.int (4 : Int32))] 5)) t := fun t k => castTop ef k
  obtain ⟨T1, X1, e1, st1⟩ := getS2 X0 hx hZ hown (host := "") (Or.inl (hw _ (List.mem_of_getElem? (i := 4) rfl))) Via.refl e0 (S_ColumnType_ALL.ext O.2) (g := (mkF m 0 #[.val (.int (4 : Int32)), .unset, .unset, .unset, .unset] [])) rfl (hb hby d1_0)
  obtain ⟨cl2, Ar2, q2, Sz2, Nn2, Hs2, -⟩ := (V_w_ALL.ext O.2)
  obtain ⟨cl3, Ar3, q3, Sz3, Nn3, Hs3, -⟩ := (V_w_ALL.ext O.2)
  have hin3 : ¬ ((0 : Int32) < 0 ∨ cl3.slots.size ≤ ((0 : Int32)).toNatClampNeg) := inb_of Sz3 ⟨by decide, by decide⟩
  have hat3 : cl3.slots[((0 : Int32)).toNatClampNeg]? = some (.ref w_STRING) := Has.at Hs3 hin3 rfl
  obtain ⟨T4, X4, e4, st4⟩ := getF X1 hx hZ hown (host := "") (Or.inl (hw _ (List.mem_of_getElem? (i := 7) rfl))) Via.refl e1 (F_w_STRING_code.ext O.2) (g := (mkF m 21 #[.val (.int (4 : Int32)), .val (.ref w_ALL), .val (.int (5 : Int32)), .val (.int (0 : Int32)), .val (.ref w_STRING)] [(.ref w_STRING)])) rfl rfl (hb hby d1_21)
  obtain ⟨cl5, Ar5, q5, Sz5, Nn5, Hs5, -⟩ := (V_w_ALL.ext O.2)
  have hin5 : ¬ ((1 : Int32) < 0 ∨ cl5.slots.size ≤ ((1 : Int32)).toNatClampNeg) := inb_of Sz5 ⟨by decide, by decide⟩
  have hat5 : cl5.slots[((1 : Int32)).toNatClampNeg]? = some (.ref w_INT) := Has.at Hs5 hin5 rfl
  obtain ⟨T6, X6, e6, st6⟩ := getF X4 hx hZ hown (host := "") (Or.inl (hw _ (List.mem_of_getElem? (i := 7) rfl))) Via.refl e4 (F_w_INT_code.ext O.2) (g := (mkF m 21 #[.val (.int (4 : Int32)), .val (.ref w_ALL), .val (.int (5 : Int32)), .val (.int (1 : Int32)), .val (.ref w_INT)] [(.ref w_INT)])) rfl rfl (hb hby d1_21)
  obtain ⟨cl7, Ar7, q7, Sz7, Nn7, Hs7, -⟩ := (V_w_ALL.ext O.2)
  have hin7 : ¬ ((2 : Int32) < 0 ∨ cl7.slots.size ≤ ((2 : Int32)).toNatClampNeg) := inb_of Sz7 ⟨by decide, by decide⟩
  have hat7 : cl7.slots[((2 : Int32)).toNatClampNeg]? = some (.ref w_BIGINT) := Has.at Hs7 hin7 rfl
  obtain ⟨T8, X8, e8, st8⟩ := getF X6 hx hZ hown (host := "") (Or.inl (hw _ (List.mem_of_getElem? (i := 7) rfl))) Via.refl e6 (F_w_BIGINT_code.ext O.2) (g := (mkF m 21 #[.val (.int (4 : Int32)), .val (.ref w_ALL), .val (.int (5 : Int32)), .val (.int (2 : Int32)), .val (.ref w_BIGINT)] [(.ref w_BIGINT)])) rfl rfl (hb hby d1_21)
  obtain ⟨cl9, Ar9, q9, Sz9, Nn9, Hs9, -⟩ := (V_w_ALL.ext O.2)
  have hin9 : ¬ ((3 : Int32) < 0 ∨ cl9.slots.size ≤ ((3 : Int32)).toNatClampNeg) := inb_of Sz9 ⟨by decide, by decide⟩
  have hat9 : cl9.slots[((3 : Int32)).toNatClampNeg]? = some (.ref w_DOUBLE) := Has.at Hs9 hin9 rfl
  obtain ⟨T10, X10, e10, st10⟩ := getF X8 hx hZ hown (host := "") (Or.inl (hw _ (List.mem_of_getElem? (i := 7) rfl))) Via.refl e8 (F_w_DOUBLE_code.ext O.2) (g := (mkF m 21 #[.val (.int (4 : Int32)), .val (.ref w_ALL), .val (.int (5 : Int32)), .val (.int (3 : Int32)), .val (.ref w_DOUBLE)] [(.ref w_DOUBLE)])) rfl rfl (hb hby d1_21)
  obtain ⟨fs, hr, hrun, hended, hW, hsame⟩ := X10.leave (v := some (.ref w_DOUBLE)) (fun h => by rw [Bd.returns] at h; cases h)
  refine ⟨_, _, pre0 _ ?_, hrun, hended, _, _, rfl, ?_, ⟨_, rfl⟩, hW, hsame.mono (by decide) (by decide)⟩
  · show Steps p.tables e below (s₁.setTop (mkF m 0 #[.val (.int (4 : Int32)), .unset, .unset, .unset, .unset] [])) _
    refine st1 _ ?_
    show Steps p.tables e below (T1.setTop (mkF m 3 #[.val (.int (4 : Int32)), .unset, .unset, .unset, .unset] [(.ref w_ALL)])) _
    refine XS.astoreN X1.here hx rfl (hb hby d1_3) rfl rfl (l' := #[.val (.int (4 : Int32)), .val (.ref w_ALL), .unset, .unset, .unset]) rfl ?_
    show Steps p.tables e below (T1.setTop (mkF m 4 #[.val (.int (4 : Int32)), .val (.ref w_ALL), .unset, .unset, .unset] [])) _
    refine XS.aloadN X1.here hx rfl (hb hby d1_4) rfl rfl ?_
    show Steps p.tables e below (T1.setTop (mkF m 5 #[.val (.int (4 : Int32)), .val (.ref w_ALL), .unset, .unset, .unset] [(.ref w_ALL)])) _
    refine X1.arraylength hx (by rw [e1]; exact Ar2.1) (State.isArrayOf_alike hZ.alike Ar2.2.1) (g := (mkF m 5 #[.val (.int (4 : Int32)), .val (.ref w_ALL), .unset, .unset, .unset] [(.ref w_ALL)])) rfl rfl (hb hby d1_5) _ ?_
    rw [len_of Sz2 Nn2]
    show Steps p.tables e below (T1.setTop (mkF m 6 #[.val (.int (4 : Int32)), .val (.ref w_ALL), .unset, .unset, .unset] [(.int (5 : Int32))])) _
    refine XS.istoreN X1.here hx rfl (hb hby d1_6) rfl (l' := #[.val (.int (4 : Int32)), .val (.ref w_ALL), .val (.int (5 : Int32)), .unset, .unset]) rfl ?_
    show Steps p.tables e below (T1.setTop (mkF m 7 #[.val (.int (4 : Int32)), .val (.ref w_ALL), .val (.int (5 : Int32)), .unset, .unset] [])) _
    refine XS.iconst X1.here hx rfl (hb hby d1_7) ?_
    show Steps p.tables e below (T1.setTop (mkF m 8 #[.val (.int (4 : Int32)), .val (.ref w_ALL), .val (.int (5 : Int32)), .unset, .unset] [(.int (0 : Int32))])) _
    refine XS.istoreN X1.here hx rfl (hb hby d1_8) rfl (l' := #[.val (.int (4 : Int32)), .val (.ref w_ALL), .val (.int (5 : Int32)), .val (.int (0 : Int32)), .unset]) rfl ?_
    show Steps p.tables e below (T1.setTop (mkF m 9 #[.val (.int (4 : Int32)), .val (.ref w_ALL), .val (.int (5 : Int32)), .val (.int (0 : Int32)), .unset] [])) _
    refine XS.iloadN X1.here hx rfl (hb hby d1_9) rfl ?_
    show Steps p.tables e below (T1.setTop (mkF m 10 #[.val (.int (4 : Int32)), .val (.ref w_ALL), .val (.int (5 : Int32)), .val (.int (0 : Int32)), .unset] [(.int (0 : Int32))])) _
    refine XS.iloadN X1.here hx rfl (hb hby d1_10) rfl ?_
    show Steps p.tables e below (T1.setTop (mkF m 11 #[.val (.int (4 : Int32)), .val (.ref w_ALL), .val (.int (5 : Int32)), .val (.int (0 : Int32)), .unset] [(.int (5 : Int32)), (.int (0 : Int32))])) _
    refine XS.icmpNo X1.here hx rfl (hb hby d1_11) rfl (tlt (by decide : (0 : Int32) < (5 : Int32))).2.1 ?_
    show Steps p.tables e below (T1.setTop (mkF m 14 #[.val (.int (4 : Int32)), .val (.ref w_ALL), .val (.int (5 : Int32)), .val (.int (0 : Int32)), .unset] [])) _
    refine XS.aloadN X1.here hx rfl (hb hby d1_14) rfl rfl ?_
    show Steps p.tables e below (T1.setTop (mkF m 15 #[.val (.int (4 : Int32)), .val (.ref w_ALL), .val (.int (5 : Int32)), .val (.int (0 : Int32)), .unset] [(.ref w_ALL)])) _
    refine XS.iloadN X1.here hx rfl (hb hby d1_15) rfl ?_
    show Steps p.tables e below (T1.setTop (mkF m 16 #[.val (.int (4 : Int32)), .val (.ref w_ALL), .val (.int (5 : Int32)), .val (.int (0 : Int32)), .unset] [(.int (0 : Int32)), (.ref w_ALL)])) _
    refine X1.aaload hx (j := (0 : Int32)) (v := (.ref w_STRING)) (by rw [e1]; exact Ar3.1) (State.isArrayOf_alike hZ.alike Ar3.2.1) rfl Ar3.2.2 hin3 hat3 (g := (mkF m 16 #[.val (.int (4 : Int32)), .val (.ref w_ALL), .val (.int (5 : Int32)), .val (.int (0 : Int32)), .unset] [(.int (0 : Int32)), (.ref w_ALL)])) rfl rfl (hb hby d1_16) _ ?_
    show Steps p.tables e below (T1.setTop (mkF m 17 #[.val (.int (4 : Int32)), .val (.ref w_ALL), .val (.int (5 : Int32)), .val (.int (0 : Int32)), .unset] [(.ref w_STRING)])) _
    refine XS.astore X1.here hx rfl (hb hby d1_17) rfl rfl (l' := #[.val (.int (4 : Int32)), .val (.ref w_ALL), .val (.int (5 : Int32)), .val (.int (0 : Int32)), .val (.ref w_STRING)]) rfl ?_
    show Steps p.tables e below (T1.setTop (mkF m 19 #[.val (.int (4 : Int32)), .val (.ref w_ALL), .val (.int (5 : Int32)), .val (.int (0 : Int32)), .val (.ref w_STRING)] [])) _
    refine XS.aload X1.here hx rfl (hb hby d1_19) rfl rfl ?_
    show Steps p.tables e below (T1.setTop (mkF m 21 #[.val (.int (4 : Int32)), .val (.ref w_ALL), .val (.int (5 : Int32)), .val (.int (0 : Int32)), .val (.ref w_STRING)] [(.ref w_STRING)])) _
    refine st4 _ ?_
    show Steps p.tables e below (T4.setTop (mkF m 24 #[.val (.int (4 : Int32)), .val (.ref w_ALL), .val (.int (5 : Int32)), .val (.int (0 : Int32)), .val (.ref w_STRING)] [(.int (1 : Int32))])) _
    refine XS.iloadN X4.here hx rfl (hb hby d1_24) rfl ?_
    show Steps p.tables e below (T4.setTop (mkF m 25 #[.val (.int (4 : Int32)), .val (.ref w_ALL), .val (.int (5 : Int32)), .val (.int (0 : Int32)), .val (.ref w_STRING)] [(.int (4 : Int32)), (.int (1 : Int32))])) _
    refine XS.icmpYes X4.here hx rfl (pc0 := 25) (pc' := 31) rfl (hb hby d1_25) rfl (feq (by decide : ¬ ((1 : Int32) = (4 : Int32)))).2 (by decide) (by decide) ?_
    show Steps p.tables e below (T4.setTop (mkF m 31 #[.val (.int (4 : Int32)), .val (.ref w_ALL), .val (.int (5 : Int32)), .val (.int (0 : Int32)), .val (.ref w_STRING)] [])) _
    refine XS.iinc X4.here hx rfl (hb hby d1_31) rfl (l' := #[.val (.int (4 : Int32)), .val (.ref w_ALL), .val (.int (5 : Int32)), .val (.int (1 : Int32)), .val (.ref w_STRING)]) rfl ?_
    show Steps p.tables e below (T4.setTop (mkF m 34 #[.val (.int (4 : Int32)), .val (.ref w_ALL), .val (.int (5 : Int32)), .val (.int (1 : Int32)), .val (.ref w_STRING)] [])) _
    refine XS.goto X4.here hx rfl (pc0 := 34) (pc' := 9) rfl (hb hby d1_34) (by decide) (by decide) ?_
    show Steps p.tables e below (T4.setTop (mkF m 9 #[.val (.int (4 : Int32)), .val (.ref w_ALL), .val (.int (5 : Int32)), .val (.int (1 : Int32)), .val (.ref w_STRING)] [])) _
    refine XS.iloadN X4.here hx rfl (hb hby d1_9) rfl ?_
    show Steps p.tables e below (T4.setTop (mkF m 10 #[.val (.int (4 : Int32)), .val (.ref w_ALL), .val (.int (5 : Int32)), .val (.int (1 : Int32)), .val (.ref w_STRING)] [(.int (1 : Int32))])) _
    refine XS.iloadN X4.here hx rfl (hb hby d1_10) rfl ?_
    show Steps p.tables e below (T4.setTop (mkF m 11 #[.val (.int (4 : Int32)), .val (.ref w_ALL), .val (.int (5 : Int32)), .val (.int (1 : Int32)), .val (.ref w_STRING)] [(.int (5 : Int32)), (.int (1 : Int32))])) _
    refine XS.icmpNo X4.here hx rfl (hb hby d1_11) rfl (tlt (by decide : (1 : Int32) < (5 : Int32))).2.1 ?_
    show Steps p.tables e below (T4.setTop (mkF m 14 #[.val (.int (4 : Int32)), .val (.ref w_ALL), .val (.int (5 : Int32)), .val (.int (1 : Int32)), .val (.ref w_STRING)] [])) _
    refine XS.aloadN X4.here hx rfl (hb hby d1_14) rfl rfl ?_
    show Steps p.tables e below (T4.setTop (mkF m 15 #[.val (.int (4 : Int32)), .val (.ref w_ALL), .val (.int (5 : Int32)), .val (.int (1 : Int32)), .val (.ref w_STRING)] [(.ref w_ALL)])) _
    refine XS.iloadN X4.here hx rfl (hb hby d1_15) rfl ?_
    show Steps p.tables e below (T4.setTop (mkF m 16 #[.val (.int (4 : Int32)), .val (.ref w_ALL), .val (.int (5 : Int32)), .val (.int (1 : Int32)), .val (.ref w_STRING)] [(.int (1 : Int32)), (.ref w_ALL)])) _
    refine X4.aaload hx (j := (1 : Int32)) (v := (.ref w_INT)) (by rw [e4]; exact Ar5.1) (State.isArrayOf_alike hZ.alike Ar5.2.1) rfl Ar5.2.2 hin5 hat5 (g := (mkF m 16 #[.val (.int (4 : Int32)), .val (.ref w_ALL), .val (.int (5 : Int32)), .val (.int (1 : Int32)), .val (.ref w_STRING)] [(.int (1 : Int32)), (.ref w_ALL)])) rfl rfl (hb hby d1_16) _ ?_
    show Steps p.tables e below (T4.setTop (mkF m 17 #[.val (.int (4 : Int32)), .val (.ref w_ALL), .val (.int (5 : Int32)), .val (.int (1 : Int32)), .val (.ref w_STRING)] [(.ref w_INT)])) _
    refine XS.astore X4.here hx rfl (hb hby d1_17) rfl rfl (l' := #[.val (.int (4 : Int32)), .val (.ref w_ALL), .val (.int (5 : Int32)), .val (.int (1 : Int32)), .val (.ref w_INT)]) rfl ?_
    show Steps p.tables e below (T4.setTop (mkF m 19 #[.val (.int (4 : Int32)), .val (.ref w_ALL), .val (.int (5 : Int32)), .val (.int (1 : Int32)), .val (.ref w_INT)] [])) _
    refine XS.aload X4.here hx rfl (hb hby d1_19) rfl rfl ?_
    show Steps p.tables e below (T4.setTop (mkF m 21 #[.val (.int (4 : Int32)), .val (.ref w_ALL), .val (.int (5 : Int32)), .val (.int (1 : Int32)), .val (.ref w_INT)] [(.ref w_INT)])) _
    refine st6 _ ?_
    show Steps p.tables e below (T6.setTop (mkF m 24 #[.val (.int (4 : Int32)), .val (.ref w_ALL), .val (.int (5 : Int32)), .val (.int (1 : Int32)), .val (.ref w_INT)] [(.int (2 : Int32))])) _
    refine XS.iloadN X6.here hx rfl (hb hby d1_24) rfl ?_
    show Steps p.tables e below (T6.setTop (mkF m 25 #[.val (.int (4 : Int32)), .val (.ref w_ALL), .val (.int (5 : Int32)), .val (.int (1 : Int32)), .val (.ref w_INT)] [(.int (4 : Int32)), (.int (2 : Int32))])) _
    refine XS.icmpYes X6.here hx rfl (pc0 := 25) (pc' := 31) rfl (hb hby d1_25) rfl (feq (by decide : ¬ ((2 : Int32) = (4 : Int32)))).2 (by decide) (by decide) ?_
    show Steps p.tables e below (T6.setTop (mkF m 31 #[.val (.int (4 : Int32)), .val (.ref w_ALL), .val (.int (5 : Int32)), .val (.int (1 : Int32)), .val (.ref w_INT)] [])) _
    refine XS.iinc X6.here hx rfl (hb hby d1_31) rfl (l' := #[.val (.int (4 : Int32)), .val (.ref w_ALL), .val (.int (5 : Int32)), .val (.int (2 : Int32)), .val (.ref w_INT)]) rfl ?_
    show Steps p.tables e below (T6.setTop (mkF m 34 #[.val (.int (4 : Int32)), .val (.ref w_ALL), .val (.int (5 : Int32)), .val (.int (2 : Int32)), .val (.ref w_INT)] [])) _
    refine XS.goto X6.here hx rfl (pc0 := 34) (pc' := 9) rfl (hb hby d1_34) (by decide) (by decide) ?_
    show Steps p.tables e below (T6.setTop (mkF m 9 #[.val (.int (4 : Int32)), .val (.ref w_ALL), .val (.int (5 : Int32)), .val (.int (2 : Int32)), .val (.ref w_INT)] [])) _
    refine XS.iloadN X6.here hx rfl (hb hby d1_9) rfl ?_
    show Steps p.tables e below (T6.setTop (mkF m 10 #[.val (.int (4 : Int32)), .val (.ref w_ALL), .val (.int (5 : Int32)), .val (.int (2 : Int32)), .val (.ref w_INT)] [(.int (2 : Int32))])) _
    refine XS.iloadN X6.here hx rfl (hb hby d1_10) rfl ?_
    show Steps p.tables e below (T6.setTop (mkF m 11 #[.val (.int (4 : Int32)), .val (.ref w_ALL), .val (.int (5 : Int32)), .val (.int (2 : Int32)), .val (.ref w_INT)] [(.int (5 : Int32)), (.int (2 : Int32))])) _
    refine XS.icmpNo X6.here hx rfl (hb hby d1_11) rfl (tlt (by decide : (2 : Int32) < (5 : Int32))).2.1 ?_
    show Steps p.tables e below (T6.setTop (mkF m 14 #[.val (.int (4 : Int32)), .val (.ref w_ALL), .val (.int (5 : Int32)), .val (.int (2 : Int32)), .val (.ref w_INT)] [])) _
    refine XS.aloadN X6.here hx rfl (hb hby d1_14) rfl rfl ?_
    show Steps p.tables e below (T6.setTop (mkF m 15 #[.val (.int (4 : Int32)), .val (.ref w_ALL), .val (.int (5 : Int32)), .val (.int (2 : Int32)), .val (.ref w_INT)] [(.ref w_ALL)])) _
    refine XS.iloadN X6.here hx rfl (hb hby d1_15) rfl ?_
    show Steps p.tables e below (T6.setTop (mkF m 16 #[.val (.int (4 : Int32)), .val (.ref w_ALL), .val (.int (5 : Int32)), .val (.int (2 : Int32)), .val (.ref w_INT)] [(.int (2 : Int32)), (.ref w_ALL)])) _
    refine X6.aaload hx (j := (2 : Int32)) (v := (.ref w_BIGINT)) (by rw [e6]; exact Ar7.1) (State.isArrayOf_alike hZ.alike Ar7.2.1) rfl Ar7.2.2 hin7 hat7 (g := (mkF m 16 #[.val (.int (4 : Int32)), .val (.ref w_ALL), .val (.int (5 : Int32)), .val (.int (2 : Int32)), .val (.ref w_INT)] [(.int (2 : Int32)), (.ref w_ALL)])) rfl rfl (hb hby d1_16) _ ?_
    show Steps p.tables e below (T6.setTop (mkF m 17 #[.val (.int (4 : Int32)), .val (.ref w_ALL), .val (.int (5 : Int32)), .val (.int (2 : Int32)), .val (.ref w_INT)] [(.ref w_BIGINT)])) _
    refine XS.astore X6.here hx rfl (hb hby d1_17) rfl rfl (l' := #[.val (.int (4 : Int32)), .val (.ref w_ALL), .val (.int (5 : Int32)), .val (.int (2 : Int32)), .val (.ref w_BIGINT)]) rfl ?_
    show Steps p.tables e below (T6.setTop (mkF m 19 #[.val (.int (4 : Int32)), .val (.ref w_ALL), .val (.int (5 : Int32)), .val (.int (2 : Int32)), .val (.ref w_BIGINT)] [])) _
    refine XS.aload X6.here hx rfl (hb hby d1_19) rfl rfl ?_
    show Steps p.tables e below (T6.setTop (mkF m 21 #[.val (.int (4 : Int32)), .val (.ref w_ALL), .val (.int (5 : Int32)), .val (.int (2 : Int32)), .val (.ref w_BIGINT)] [(.ref w_BIGINT)])) _
    refine st8 _ ?_
    show Steps p.tables e below (T8.setTop (mkF m 24 #[.val (.int (4 : Int32)), .val (.ref w_ALL), .val (.int (5 : Int32)), .val (.int (2 : Int32)), .val (.ref w_BIGINT)] [(.int (3 : Int32))])) _
    refine XS.iloadN X8.here hx rfl (hb hby d1_24) rfl ?_
    show Steps p.tables e below (T8.setTop (mkF m 25 #[.val (.int (4 : Int32)), .val (.ref w_ALL), .val (.int (5 : Int32)), .val (.int (2 : Int32)), .val (.ref w_BIGINT)] [(.int (4 : Int32)), (.int (3 : Int32))])) _
    refine XS.icmpYes X8.here hx rfl (pc0 := 25) (pc' := 31) rfl (hb hby d1_25) rfl (feq (by decide : ¬ ((3 : Int32) = (4 : Int32)))).2 (by decide) (by decide) ?_
    show Steps p.tables e below (T8.setTop (mkF m 31 #[.val (.int (4 : Int32)), .val (.ref w_ALL), .val (.int (5 : Int32)), .val (.int (2 : Int32)), .val (.ref w_BIGINT)] [])) _
    refine XS.iinc X8.here hx rfl (hb hby d1_31) rfl (l' := #[.val (.int (4 : Int32)), .val (.ref w_ALL), .val (.int (5 : Int32)), .val (.int (3 : Int32)), .val (.ref w_BIGINT)]) rfl ?_
    show Steps p.tables e below (T8.setTop (mkF m 34 #[.val (.int (4 : Int32)), .val (.ref w_ALL), .val (.int (5 : Int32)), .val (.int (3 : Int32)), .val (.ref w_BIGINT)] [])) _
    refine XS.goto X8.here hx rfl (pc0 := 34) (pc' := 9) rfl (hb hby d1_34) (by decide) (by decide) ?_
    show Steps p.tables e below (T8.setTop (mkF m 9 #[.val (.int (4 : Int32)), .val (.ref w_ALL), .val (.int (5 : Int32)), .val (.int (3 : Int32)), .val (.ref w_BIGINT)] [])) _
    refine XS.iloadN X8.here hx rfl (hb hby d1_9) rfl ?_
    show Steps p.tables e below (T8.setTop (mkF m 10 #[.val (.int (4 : Int32)), .val (.ref w_ALL), .val (.int (5 : Int32)), .val (.int (3 : Int32)), .val (.ref w_BIGINT)] [(.int (3 : Int32))])) _
    refine XS.iloadN X8.here hx rfl (hb hby d1_10) rfl ?_
    show Steps p.tables e below (T8.setTop (mkF m 11 #[.val (.int (4 : Int32)), .val (.ref w_ALL), .val (.int (5 : Int32)), .val (.int (3 : Int32)), .val (.ref w_BIGINT)] [(.int (5 : Int32)), (.int (3 : Int32))])) _
    refine XS.icmpNo X8.here hx rfl (hb hby d1_11) rfl (tlt (by decide : (3 : Int32) < (5 : Int32))).2.1 ?_
    show Steps p.tables e below (T8.setTop (mkF m 14 #[.val (.int (4 : Int32)), .val (.ref w_ALL), .val (.int (5 : Int32)), .val (.int (3 : Int32)), .val (.ref w_BIGINT)] [])) _
    refine XS.aloadN X8.here hx rfl (hb hby d1_14) rfl rfl ?_
    show Steps p.tables e below (T8.setTop (mkF m 15 #[.val (.int (4 : Int32)), .val (.ref w_ALL), .val (.int (5 : Int32)), .val (.int (3 : Int32)), .val (.ref w_BIGINT)] [(.ref w_ALL)])) _
    refine XS.iloadN X8.here hx rfl (hb hby d1_15) rfl ?_
    show Steps p.tables e below (T8.setTop (mkF m 16 #[.val (.int (4 : Int32)), .val (.ref w_ALL), .val (.int (5 : Int32)), .val (.int (3 : Int32)), .val (.ref w_BIGINT)] [(.int (3 : Int32)), (.ref w_ALL)])) _
    refine X8.aaload hx (j := (3 : Int32)) (v := (.ref w_DOUBLE)) (by rw [e8]; exact Ar9.1) (State.isArrayOf_alike hZ.alike Ar9.2.1) rfl Ar9.2.2 hin9 hat9 (g := (mkF m 16 #[.val (.int (4 : Int32)), .val (.ref w_ALL), .val (.int (5 : Int32)), .val (.int (3 : Int32)), .val (.ref w_BIGINT)] [(.int (3 : Int32)), (.ref w_ALL)])) rfl rfl (hb hby d1_16) _ ?_
    show Steps p.tables e below (T8.setTop (mkF m 17 #[.val (.int (4 : Int32)), .val (.ref w_ALL), .val (.int (5 : Int32)), .val (.int (3 : Int32)), .val (.ref w_BIGINT)] [(.ref w_DOUBLE)])) _
    refine XS.astore X8.here hx rfl (hb hby d1_17) rfl rfl (l' := #[.val (.int (4 : Int32)), .val (.ref w_ALL), .val (.int (5 : Int32)), .val (.int (3 : Int32)), .val (.ref w_DOUBLE)]) rfl ?_
    show Steps p.tables e below (T8.setTop (mkF m 19 #[.val (.int (4 : Int32)), .val (.ref w_ALL), .val (.int (5 : Int32)), .val (.int (3 : Int32)), .val (.ref w_DOUBLE)] [])) _
    refine XS.aload X8.here hx rfl (hb hby d1_19) rfl rfl ?_
    show Steps p.tables e below (T8.setTop (mkF m 21 #[.val (.int (4 : Int32)), .val (.ref w_ALL), .val (.int (5 : Int32)), .val (.int (3 : Int32)), .val (.ref w_DOUBLE)] [(.ref w_DOUBLE)])) _
    refine st10 _ ?_
    show Steps p.tables e below (T10.setTop (mkF m 24 #[.val (.int (4 : Int32)), .val (.ref w_ALL), .val (.int (5 : Int32)), .val (.int (3 : Int32)), .val (.ref w_DOUBLE)] [(.int (4 : Int32))])) _
    refine XS.iloadN X10.here hx rfl (hb hby d1_24) rfl ?_
    show Steps p.tables e below (T10.setTop (mkF m 25 #[.val (.int (4 : Int32)), .val (.ref w_ALL), .val (.int (5 : Int32)), .val (.int (3 : Int32)), .val (.ref w_DOUBLE)] [(.int (4 : Int32)), (.int (4 : Int32))])) _
    refine XS.icmpNo X10.here hx rfl (hb hby d1_25) rfl (teq (by decide : (4 : Int32) = (4 : Int32))).2 ?_
    show Steps p.tables e below (T10.setTop (mkF m 28 #[.val (.int (4 : Int32)), .val (.ref w_ALL), .val (.int (5 : Int32)), .val (.int (3 : Int32)), .val (.ref w_DOUBLE)] [])) _
    refine XS.aload X10.here hx rfl (hb hby d1_28) rfl rfl ?_
    show Steps p.tables e below (T10.setTop (mkF m 30 #[.val (.int (4 : Int32)), .val (.ref w_ALL), .val (.int (5 : Int32)), .val (.int (3 : Int32)), .val (.ref w_DOUBLE)] [(.ref w_DOUBLE)])) _
    exact retOut X10 hx Bd.returns rfl (Or.inr (Or.inr (Or.inr (Or.inr ⟨rfl, rfl, rfl⟩)))) (hb hby d1_30) hr
  · exact ⟨rfl, N0, e10⟩
set_option maxRecDepth 65536 in
set_option maxHeartbeats 40000000 in
theorem rm1_5 (l : Launch) (Z : State) (a0 : Array Value) (hw : ∀ d ∈ tables_1, d.before a0 Z = true) (ws : List Jvm.Cond) (n0 : Nat) (h0 : Heap) (O : Old Z n0 h0) (w_ALL : Addr) (w_STRING : Addr) (w_INT : Addr) (w_BIGINT : Addr) (w_DOUBLE : Addr) (w_BOOLEAN : Addr) (k_w_ALL : ClassId) (W : OwW Z w_ALL w_STRING w_INT w_BIGINT w_DOUBLE w_BOOLEAN k_w_ALL)  :
    OwCon l (⟨"com/example/lamina/lamina/engine/ColumnType", "ofCode", "(I)Lcom/example/lamina/lamina/engine/ColumnType;"⟩ : MethodName) prog_7_method_7_code 5 (some (.object "com/example/lamina/lamina/engine/ColumnType")) ws ({ frames := 0, cells := 0, slots := 0, locals := 0 } : Room) #[(.int (5 : Int32))] Z h0 (OwQ (some (.ref w_BOOLEAN)) h0 n0) := by
  refine MetFree.of_bodySF (plainFor_of_name owpn1) hisR ?_
  intro p e s m args below meth c s₁ Bd hml0 hP hK
  obtain ⟨rfl, hZ, hh⟩ := hP
  have hx := Bd.exec
  have hby := Bd.bytes
  have hml : c.maxLocals = 5 := hml0
  have hown : s.vm.findClass "com/example/lamina/lamina/engine/ColumnType" = some m.cls := findClass_of_methodNamed Bd.named
  have hnm := (name_of_methodNamed Bd.named Bd.method).1
  have X0 : Stand p l e ({ frames := 0, cells := 0, slots := 0, locals := 0 } : Room) s m #[(.int (5 : Int32))] below meth c s₁ [] 0 0 := Stand.of_body Bd
  have e0 : s₁.heap = h0 := by rw [← hh, Bd.state]; rfl
  have N0 := Fr.nil n0
  have WW := W
  obtain ⟨E_w_STRING, E_w_INT, E_w_BIGINT, E_w_DOUBLE, E_w_BOOLEAN, S_ColumnType_ALL, S_ColumnType_STRING, F_w_STRING_code, S_ColumnType_INT, F_w_INT_code, S_ColumnType_BIGINT, F_w_BIGINT_code, S_ColumnType_DOUBLE, F_w_DOUBLE_code, S_ColumnType_BOOLEAN, F_w_BOOLEAN_code, V_w_ALL, -⟩ := WW
  have ef : entryFrame m #[(.int (5 : Int32))] 5 = mkF m 0 #[.val (.int (5 : Int32)), .unset, .unset, .unset, .unset] [] := by first | rfl | (simp [entryFrame, mkF, argsToLocals, Value.category]; done)
  have pre0 : ∀ t, Steps p.tables e below (s₁.setTop (mkF m 0 #[.val (.int (5 : Int32)), .unset, .unset, .unset, .unset] [])) t → Steps p.tables e below (s₁.setTop (entryFrame m #[(.int (5 : Int32))] 5)) t := fun t k => castTop ef k
  obtain ⟨T1, X1, e1, st1⟩ := getS2 X0 hx hZ hown (host := "") (Or.inl (hw _ (List.mem_of_getElem? (i := 4) rfl))) Via.refl e0 (S_ColumnType_ALL.ext O.2) (g := (mkF m 0 #[.val (.int (5 : Int32)), .unset, .unset, .unset, .unset] [])) rfl (hb hby d1_0)
  obtain ⟨cl2, Ar2, q2, Sz2, Nn2, Hs2, -⟩ := (V_w_ALL.ext O.2)
  obtain ⟨cl3, Ar3, q3, Sz3, Nn3, Hs3, -⟩ := (V_w_ALL.ext O.2)
  have hin3 : ¬ ((0 : Int32) < 0 ∨ cl3.slots.size ≤ ((0 : Int32)).toNatClampNeg) := inb_of Sz3 ⟨by decide, by decide⟩
  have hat3 : cl3.slots[((0 : Int32)).toNatClampNeg]? = some (.ref w_STRING) := Has.at Hs3 hin3 rfl
  obtain ⟨T4, X4, e4, st4⟩ := getF X1 hx hZ hown (host := "") (Or.inl (hw _ (List.mem_of_getElem? (i := 7) rfl))) Via.refl e1 (F_w_STRING_code.ext O.2) (g := (mkF m 21 #[.val (.int (5 : Int32)), .val (.ref w_ALL), .val (.int (5 : Int32)), .val (.int (0 : Int32)), .val (.ref w_STRING)] [(.ref w_STRING)])) rfl rfl (hb hby d1_21)
  obtain ⟨cl5, Ar5, q5, Sz5, Nn5, Hs5, -⟩ := (V_w_ALL.ext O.2)
  have hin5 : ¬ ((1 : Int32) < 0 ∨ cl5.slots.size ≤ ((1 : Int32)).toNatClampNeg) := inb_of Sz5 ⟨by decide, by decide⟩
  have hat5 : cl5.slots[((1 : Int32)).toNatClampNeg]? = some (.ref w_INT) := Has.at Hs5 hin5 rfl
  obtain ⟨T6, X6, e6, st6⟩ := getF X4 hx hZ hown (host := "") (Or.inl (hw _ (List.mem_of_getElem? (i := 7) rfl))) Via.refl e4 (F_w_INT_code.ext O.2) (g := (mkF m 21 #[.val (.int (5 : Int32)), .val (.ref w_ALL), .val (.int (5 : Int32)), .val (.int (1 : Int32)), .val (.ref w_INT)] [(.ref w_INT)])) rfl rfl (hb hby d1_21)
  obtain ⟨cl7, Ar7, q7, Sz7, Nn7, Hs7, -⟩ := (V_w_ALL.ext O.2)
  have hin7 : ¬ ((2 : Int32) < 0 ∨ cl7.slots.size ≤ ((2 : Int32)).toNatClampNeg) := inb_of Sz7 ⟨by decide, by decide⟩
  have hat7 : cl7.slots[((2 : Int32)).toNatClampNeg]? = some (.ref w_BIGINT) := Has.at Hs7 hin7 rfl
  obtain ⟨T8, X8, e8, st8⟩ := getF X6 hx hZ hown (host := "") (Or.inl (hw _ (List.mem_of_getElem? (i := 7) rfl))) Via.refl e6 (F_w_BIGINT_code.ext O.2) (g := (mkF m 21 #[.val (.int (5 : Int32)), .val (.ref w_ALL), .val (.int (5 : Int32)), .val (.int (2 : Int32)), .val (.ref w_BIGINT)] [(.ref w_BIGINT)])) rfl rfl (hb hby d1_21)
  obtain ⟨cl9, Ar9, q9, Sz9, Nn9, Hs9, -⟩ := (V_w_ALL.ext O.2)
  have hin9 : ¬ ((3 : Int32) < 0 ∨ cl9.slots.size ≤ ((3 : Int32)).toNatClampNeg) := inb_of Sz9 ⟨by decide, by decide⟩
  have hat9 : cl9.slots[((3 : Int32)).toNatClampNeg]? = some (.ref w_DOUBLE) := Has.at Hs9 hin9 rfl
  obtain ⟨T10, X10, e10, st10⟩ := getF X8 hx hZ hown (host := "") (Or.inl (hw _ (List.mem_of_getElem? (i := 7) rfl))) Via.refl e8 (F_w_DOUBLE_code.ext O.2) (g := (mkF m 21 #[.val (.int (5 : Int32)), .val (.ref w_ALL), .val (.int (5 : Int32)), .val (.int (3 : Int32)), .val (.ref w_DOUBLE)] [(.ref w_DOUBLE)])) rfl rfl (hb hby d1_21)
  obtain ⟨cl11, Ar11, q11, Sz11, Nn11, Hs11, -⟩ := (V_w_ALL.ext O.2)
  have hin11 : ¬ ((4 : Int32) < 0 ∨ cl11.slots.size ≤ ((4 : Int32)).toNatClampNeg) := inb_of Sz11 ⟨by decide, by decide⟩
  have hat11 : cl11.slots[((4 : Int32)).toNatClampNeg]? = some (.ref w_BOOLEAN) := Has.at Hs11 hin11 rfl
  obtain ⟨T12, X12, e12, st12⟩ := getF X10 hx hZ hown (host := "") (Or.inl (hw _ (List.mem_of_getElem? (i := 7) rfl))) Via.refl e10 (F_w_BOOLEAN_code.ext O.2) (g := (mkF m 21 #[.val (.int (5 : Int32)), .val (.ref w_ALL), .val (.int (5 : Int32)), .val (.int (4 : Int32)), .val (.ref w_BOOLEAN)] [(.ref w_BOOLEAN)])) rfl rfl (hb hby d1_21)
  obtain ⟨fs, hr, hrun, hended, hW, hsame⟩ := X12.leave (v := some (.ref w_BOOLEAN)) (fun h => by rw [Bd.returns] at h; cases h)
  refine ⟨_, _, pre0 _ ?_, hrun, hended, _, _, rfl, ?_, ⟨_, rfl⟩, hW, hsame.mono (by decide) (by decide)⟩
  · show Steps p.tables e below (s₁.setTop (mkF m 0 #[.val (.int (5 : Int32)), .unset, .unset, .unset, .unset] [])) _
    refine st1 _ ?_
    show Steps p.tables e below (T1.setTop (mkF m 3 #[.val (.int (5 : Int32)), .unset, .unset, .unset, .unset] [(.ref w_ALL)])) _
    refine XS.astoreN X1.here hx rfl (hb hby d1_3) rfl rfl (l' := #[.val (.int (5 : Int32)), .val (.ref w_ALL), .unset, .unset, .unset]) rfl ?_
    show Steps p.tables e below (T1.setTop (mkF m 4 #[.val (.int (5 : Int32)), .val (.ref w_ALL), .unset, .unset, .unset] [])) _
    refine XS.aloadN X1.here hx rfl (hb hby d1_4) rfl rfl ?_
    show Steps p.tables e below (T1.setTop (mkF m 5 #[.val (.int (5 : Int32)), .val (.ref w_ALL), .unset, .unset, .unset] [(.ref w_ALL)])) _
    refine X1.arraylength hx (by rw [e1]; exact Ar2.1) (State.isArrayOf_alike hZ.alike Ar2.2.1) (g := (mkF m 5 #[.val (.int (5 : Int32)), .val (.ref w_ALL), .unset, .unset, .unset] [(.ref w_ALL)])) rfl rfl (hb hby d1_5) _ ?_
    rw [len_of Sz2 Nn2]
    show Steps p.tables e below (T1.setTop (mkF m 6 #[.val (.int (5 : Int32)), .val (.ref w_ALL), .unset, .unset, .unset] [(.int (5 : Int32))])) _
    refine XS.istoreN X1.here hx rfl (hb hby d1_6) rfl (l' := #[.val (.int (5 : Int32)), .val (.ref w_ALL), .val (.int (5 : Int32)), .unset, .unset]) rfl ?_
    show Steps p.tables e below (T1.setTop (mkF m 7 #[.val (.int (5 : Int32)), .val (.ref w_ALL), .val (.int (5 : Int32)), .unset, .unset] [])) _
    refine XS.iconst X1.here hx rfl (hb hby d1_7) ?_
    show Steps p.tables e below (T1.setTop (mkF m 8 #[.val (.int (5 : Int32)), .val (.ref w_ALL), .val (.int (5 : Int32)), .unset, .unset] [(.int (0 : Int32))])) _
    refine XS.istoreN X1.here hx rfl (hb hby d1_8) rfl (l' := #[.val (.int (5 : Int32)), .val (.ref w_ALL), .val (.int (5 : Int32)), .val (.int (0 : Int32)), .unset]) rfl ?_
    show Steps p.tables e below (T1.setTop (mkF m 9 #[.val (.int (5 : Int32)), .val (.ref w_ALL), .val (.int (5 : Int32)), .val (.int (0 : Int32)), .unset] [])) _
    refine XS.iloadN X1.here hx rfl (hb hby d1_9) rfl ?_
    show Steps p.tables e below (T1.setTop (mkF m 10 #[.val (.int (5 : Int32)), .val (.ref w_ALL), .val (.int (5 : Int32)), .val (.int (0 : Int32)), .unset] [(.int (0 : Int32))])) _
    refine XS.iloadN X1.here hx rfl (hb hby d1_10) rfl ?_
    show Steps p.tables e below (T1.setTop (mkF m 11 #[.val (.int (5 : Int32)), .val (.ref w_ALL), .val (.int (5 : Int32)), .val (.int (0 : Int32)), .unset] [(.int (5 : Int32)), (.int (0 : Int32))])) _
    refine XS.icmpNo X1.here hx rfl (hb hby d1_11) rfl (tlt (by decide : (0 : Int32) < (5 : Int32))).2.1 ?_
    show Steps p.tables e below (T1.setTop (mkF m 14 #[.val (.int (5 : Int32)), .val (.ref w_ALL), .val (.int (5 : Int32)), .val (.int (0 : Int32)), .unset] [])) _
    refine XS.aloadN X1.here hx rfl (hb hby d1_14) rfl rfl ?_
    show Steps p.tables e below (T1.setTop (mkF m 15 #[.val (.int (5 : Int32)), .val (.ref w_ALL), .val (.int (5 : Int32)), .val (.int (0 : Int32)), .unset] [(.ref w_ALL)])) _
    refine XS.iloadN X1.here hx rfl (hb hby d1_15) rfl ?_
    show Steps p.tables e below (T1.setTop (mkF m 16 #[.val (.int (5 : Int32)), .val (.ref w_ALL), .val (.int (5 : Int32)), .val (.int (0 : Int32)), .unset] [(.int (0 : Int32)), (.ref w_ALL)])) _
    refine X1.aaload hx (j := (0 : Int32)) (v := (.ref w_STRING)) (by rw [e1]; exact Ar3.1) (State.isArrayOf_alike hZ.alike Ar3.2.1) rfl Ar3.2.2 hin3 hat3 (g := (mkF m 16 #[.val (.int (5 : Int32)), .val (.ref w_ALL), .val (.int (5 : Int32)), .val (.int (0 : Int32)), .unset] [(.int (0 : Int32)), (.ref w_ALL)])) rfl rfl (hb hby d1_16) _ ?_
    show Steps p.tables e below (T1.setTop (mkF m 17 #[.val (.int (5 : Int32)), .val (.ref w_ALL), .val (.int (5 : Int32)), .val (.int (0 : Int32)), .unset] [(.ref w_STRING)])) _
    refine XS.astore X1.here hx rfl (hb hby d1_17) rfl rfl (l' := #[.val (.int (5 : Int32)), .val (.ref w_ALL), .val (.int (5 : Int32)), .val (.int (0 : Int32)), .val (.ref w_STRING)]) rfl ?_
    show Steps p.tables e below (T1.setTop (mkF m 19 #[.val (.int (5 : Int32)), .val (.ref w_ALL), .val (.int (5 : Int32)), .val (.int (0 : Int32)), .val (.ref w_STRING)] [])) _
    refine XS.aload X1.here hx rfl (hb hby d1_19) rfl rfl ?_
    show Steps p.tables e below (T1.setTop (mkF m 21 #[.val (.int (5 : Int32)), .val (.ref w_ALL), .val (.int (5 : Int32)), .val (.int (0 : Int32)), .val (.ref w_STRING)] [(.ref w_STRING)])) _
    refine st4 _ ?_
    show Steps p.tables e below (T4.setTop (mkF m 24 #[.val (.int (5 : Int32)), .val (.ref w_ALL), .val (.int (5 : Int32)), .val (.int (0 : Int32)), .val (.ref w_STRING)] [(.int (1 : Int32))])) _
    refine XS.iloadN X4.here hx rfl (hb hby d1_24) rfl ?_
    show Steps p.tables e below (T4.setTop (mkF m 25 #[.val (.int (5 : Int32)), .val (.ref w_ALL), .val (.int (5 : Int32)), .val (.int (0 : Int32)), .val (.ref w_STRING)] [(.int (5 : Int32)), (.int (1 : Int32))])) _
    refine XS.icmpYes X4.here hx rfl (pc0 := 25) (pc' := 31) rfl (hb hby d1_25) rfl (feq (by decide : ¬ ((1 : Int32) = (5 : Int32)))).2 (by decide) (by decide) ?_
    show Steps p.tables e below (T4.setTop (mkF m 31 #[.val (.int (5 : Int32)), .val (.ref w_ALL), .val (.int (5 : Int32)), .val (.int (0 : Int32)), .val (.ref w_STRING)] [])) _
    refine XS.iinc X4.here hx rfl (hb hby d1_31) rfl (l' := #[.val (.int (5 : Int32)), .val (.ref w_ALL), .val (.int (5 : Int32)), .val (.int (1 : Int32)), .val (.ref w_STRING)]) rfl ?_
    show Steps p.tables e below (T4.setTop (mkF m 34 #[.val (.int (5 : Int32)), .val (.ref w_ALL), .val (.int (5 : Int32)), .val (.int (1 : Int32)), .val (.ref w_STRING)] [])) _
    refine XS.goto X4.here hx rfl (pc0 := 34) (pc' := 9) rfl (hb hby d1_34) (by decide) (by decide) ?_
    show Steps p.tables e below (T4.setTop (mkF m 9 #[.val (.int (5 : Int32)), .val (.ref w_ALL), .val (.int (5 : Int32)), .val (.int (1 : Int32)), .val (.ref w_STRING)] [])) _
    refine XS.iloadN X4.here hx rfl (hb hby d1_9) rfl ?_
    show Steps p.tables e below (T4.setTop (mkF m 10 #[.val (.int (5 : Int32)), .val (.ref w_ALL), .val (.int (5 : Int32)), .val (.int (1 : Int32)), .val (.ref w_STRING)] [(.int (1 : Int32))])) _
    refine XS.iloadN X4.here hx rfl (hb hby d1_10) rfl ?_
    show Steps p.tables e below (T4.setTop (mkF m 11 #[.val (.int (5 : Int32)), .val (.ref w_ALL), .val (.int (5 : Int32)), .val (.int (1 : Int32)), .val (.ref w_STRING)] [(.int (5 : Int32)), (.int (1 : Int32))])) _
    refine XS.icmpNo X4.here hx rfl (hb hby d1_11) rfl (tlt (by decide : (1 : Int32) < (5 : Int32))).2.1 ?_
    show Steps p.tables e below (T4.setTop (mkF m 14 #[.val (.int (5 : Int32)), .val (.ref w_ALL), .val (.int (5 : Int32)), .val (.int (1 : Int32)), .val (.ref w_STRING)] [])) _
    refine XS.aloadN X4.here hx rfl (hb hby d1_14) rfl rfl ?_
    show Steps p.tables e below (T4.setTop (mkF m 15 #[.val (.int (5 : Int32)), .val (.ref w_ALL), .val (.int (5 : Int32)), .val (.int (1 : Int32)), .val (.ref w_STRING)] [(.ref w_ALL)])) _
    refine XS.iloadN X4.here hx rfl (hb hby d1_15) rfl ?_
    show Steps p.tables e below (T4.setTop (mkF m 16 #[.val (.int (5 : Int32)), .val (.ref w_ALL), .val (.int (5 : Int32)), .val (.int (1 : Int32)), .val (.ref w_STRING)] [(.int (1 : Int32)), (.ref w_ALL)])) _
    refine X4.aaload hx (j := (1 : Int32)) (v := (.ref w_INT)) (by rw [e4]; exact Ar5.1) (State.isArrayOf_alike hZ.alike Ar5.2.1) rfl Ar5.2.2 hin5 hat5 (g := (mkF m 16 #[.val (.int (5 : Int32)), .val (.ref w_ALL), .val (.int (5 : Int32)), .val (.int (1 : Int32)), .val (.ref w_STRING)] [(.int (1 : Int32)), (.ref w_ALL)])) rfl rfl (hb hby d1_16) _ ?_
    show Steps p.tables e below (T4.setTop (mkF m 17 #[.val (.int (5 : Int32)), .val (.ref w_ALL), .val (.int (5 : Int32)), .val (.int (1 : Int32)), .val (.ref w_STRING)] [(.ref w_INT)])) _
    refine XS.astore X4.here hx rfl (hb hby d1_17) rfl rfl (l' := #[.val (.int (5 : Int32)), .val (.ref w_ALL), .val (.int (5 : Int32)), .val (.int (1 : Int32)), .val (.ref w_INT)]) rfl ?_
    show Steps p.tables e below (T4.setTop (mkF m 19 #[.val (.int (5 : Int32)), .val (.ref w_ALL), .val (.int (5 : Int32)), .val (.int (1 : Int32)), .val (.ref w_INT)] [])) _
    refine XS.aload X4.here hx rfl (hb hby d1_19) rfl rfl ?_
    show Steps p.tables e below (T4.setTop (mkF m 21 #[.val (.int (5 : Int32)), .val (.ref w_ALL), .val (.int (5 : Int32)), .val (.int (1 : Int32)), .val (.ref w_INT)] [(.ref w_INT)])) _
    refine st6 _ ?_
    show Steps p.tables e below (T6.setTop (mkF m 24 #[.val (.int (5 : Int32)), .val (.ref w_ALL), .val (.int (5 : Int32)), .val (.int (1 : Int32)), .val (.ref w_INT)] [(.int (2 : Int32))])) _
    refine XS.iloadN X6.here hx rfl (hb hby d1_24) rfl ?_
    show Steps p.tables e below (T6.setTop (mkF m 25 #[.val (.int (5 : Int32)), .val (.ref w_ALL), .val (.int (5 : Int32)), .val (.int (1 : Int32)), .val (.ref w_INT)] [(.int (5 : Int32)), (.int (2 : Int32))])) _
    refine XS.icmpYes X6.here hx rfl (pc0 := 25) (pc' := 31) rfl (hb hby d1_25) rfl (feq (by decide : ¬ ((2 : Int32) = (5 : Int32)))).2 (by decide) (by decide) ?_
    show Steps p.tables e below (T6.setTop (mkF m 31 #[.val (.int (5 : Int32)), .val (.ref w_ALL), .val (.int (5 : Int32)), .val (.int (1 : Int32)), .val (.ref w_INT)] [])) _
    refine XS.iinc X6.here hx rfl (hb hby d1_31) rfl (l' := #[.val (.int (5 : Int32)), .val (.ref w_ALL), .val (.int (5 : Int32)), .val (.int (2 : Int32)), .val (.ref w_INT)]) rfl ?_
    show Steps p.tables e below (T6.setTop (mkF m 34 #[.val (.int (5 : Int32)), .val (.ref w_ALL), .val (.int (5 : Int32)), .val (.int (2 : Int32)), .val (.ref w_INT)] [])) _
    refine XS.goto X6.here hx rfl (pc0 := 34) (pc' := 9) rfl (hb hby d1_34) (by decide) (by decide) ?_
    show Steps p.tables e below (T6.setTop (mkF m 9 #[.val (.int (5 : Int32)), .val (.ref w_ALL), .val (.int (5 : Int32)), .val (.int (2 : Int32)), .val (.ref w_INT)] [])) _
    refine XS.iloadN X6.here hx rfl (hb hby d1_9) rfl ?_
    show Steps p.tables e below (T6.setTop (mkF m 10 #[.val (.int (5 : Int32)), .val (.ref w_ALL), .val (.int (5 : Int32)), .val (.int (2 : Int32)), .val (.ref w_INT)] [(.int (2 : Int32))])) _
    refine XS.iloadN X6.here hx rfl (hb hby d1_10) rfl ?_
    show Steps p.tables e below (T6.setTop (mkF m 11 #[.val (.int (5 : Int32)), .val (.ref w_ALL), .val (.int (5 : Int32)), .val (.int (2 : Int32)), .val (.ref w_INT)] [(.int (5 : Int32)), (.int (2 : Int32))])) _
    refine XS.icmpNo X6.here hx rfl (hb hby d1_11) rfl (tlt (by decide : (2 : Int32) < (5 : Int32))).2.1 ?_
    show Steps p.tables e below (T6.setTop (mkF m 14 #[.val (.int (5 : Int32)), .val (.ref w_ALL), .val (.int (5 : Int32)), .val (.int (2 : Int32)), .val (.ref w_INT)] [])) _
    refine XS.aloadN X6.here hx rfl (hb hby d1_14) rfl rfl ?_
    show Steps p.tables e below (T6.setTop (mkF m 15 #[.val (.int (5 : Int32)), .val (.ref w_ALL), .val (.int (5 : Int32)), .val (.int (2 : Int32)), .val (.ref w_INT)] [(.ref w_ALL)])) _
    refine XS.iloadN X6.here hx rfl (hb hby d1_15) rfl ?_
    show Steps p.tables e below (T6.setTop (mkF m 16 #[.val (.int (5 : Int32)), .val (.ref w_ALL), .val (.int (5 : Int32)), .val (.int (2 : Int32)), .val (.ref w_INT)] [(.int (2 : Int32)), (.ref w_ALL)])) _
    refine X6.aaload hx (j := (2 : Int32)) (v := (.ref w_BIGINT)) (by rw [e6]; exact Ar7.1) (State.isArrayOf_alike hZ.alike Ar7.2.1) rfl Ar7.2.2 hin7 hat7 (g := (mkF m 16 #[.val (.int (5 : Int32)), .val (.ref w_ALL), .val (.int (5 : Int32)), .val (.int (2 : Int32)), .val (.ref w_INT)] [(.int (2 : Int32)), (.ref w_ALL)])) rfl rfl (hb hby d1_16) _ ?_
    show Steps p.tables e below (T6.setTop (mkF m 17 #[.val (.int (5 : Int32)), .val (.ref w_ALL), .val (.int (5 : Int32)), .val (.int (2 : Int32)), .val (.ref w_INT)] [(.ref w_BIGINT)])) _
    refine XS.astore X6.here hx rfl (hb hby d1_17) rfl rfl (l' := #[.val (.int (5 : Int32)), .val (.ref w_ALL), .val (.int (5 : Int32)), .val (.int (2 : Int32)), .val (.ref w_BIGINT)]) rfl ?_
    show Steps p.tables e below (T6.setTop (mkF m 19 #[.val (.int (5 : Int32)), .val (.ref w_ALL), .val (.int (5 : Int32)), .val (.int (2 : Int32)), .val (.ref w_BIGINT)] [])) _
    refine XS.aload X6.here hx rfl (hb hby d1_19) rfl rfl ?_
    show Steps p.tables e below (T6.setTop (mkF m 21 #[.val (.int (5 : Int32)), .val (.ref w_ALL), .val (.int (5 : Int32)), .val (.int (2 : Int32)), .val (.ref w_BIGINT)] [(.ref w_BIGINT)])) _
    refine st8 _ ?_
    show Steps p.tables e below (T8.setTop (mkF m 24 #[.val (.int (5 : Int32)), .val (.ref w_ALL), .val (.int (5 : Int32)), .val (.int (2 : Int32)), .val (.ref w_BIGINT)] [(.int (3 : Int32))])) _
    refine XS.iloadN X8.here hx rfl (hb hby d1_24) rfl ?_
    show Steps p.tables e below (T8.setTop (mkF m 25 #[.val (.int (5 : Int32)), .val (.ref w_ALL), .val (.int (5 : Int32)), .val (.int (2 : Int32)), .val (.ref w_BIGINT)] [(.int (5 : Int32)), (.int (3 : Int32))])) _
    refine XS.icmpYes X8.here hx rfl (pc0 := 25) (pc' := 31) rfl (hb hby d1_25) rfl (feq (by decide : ¬ ((3 : Int32) = (5 : Int32)))).2 (by decide) (by decide) ?_
    show Steps p.tables e below (T8.setTop (mkF m 31 #[.val (.int (5 : Int32)), .val (.ref w_ALL), .val (.int (5 : Int32)), .val (.int (2 : Int32)), .val (.ref w_BIGINT)] [])) _
    refine XS.iinc X8.here hx rfl (hb hby d1_31) rfl (l' := #[.val (.int (5 : Int32)), .val (.ref w_ALL), .val (.int (5 : Int32)), .val (.int (3 : Int32)), .val (.ref w_BIGINT)]) rfl ?_
    show Steps p.tables e below (T8.setTop (mkF m 34 #[.val (.int (5 : Int32)), .val (.ref w_ALL), .val (.int (5 : Int32)), .val (.int (3 : Int32)), .val (.ref w_BIGINT)] [])) _
    refine XS.goto X8.here hx rfl (pc0 := 34) (pc' := 9) rfl (hb hby d1_34) (by decide) (by decide) ?_
    show Steps p.tables e below (T8.setTop (mkF m 9 #[.val (.int (5 : Int32)), .val (.ref w_ALL), .val (.int (5 : Int32)), .val (.int (3 : Int32)), .val (.ref w_BIGINT)] [])) _
    refine XS.iloadN X8.here hx rfl (hb hby d1_9) rfl ?_
    show Steps p.tables e below (T8.setTop (mkF m 10 #[.val (.int (5 : Int32)), .val (.ref w_ALL), .val (.int (5 : Int32)), .val (.int (3 : Int32)), .val (.ref w_BIGINT)] [(.int (3 : Int32))])) _
    refine XS.iloadN X8.here hx rfl (hb hby d1_10) rfl ?_
    show Steps p.tables e below (T8.setTop (mkF m 11 #[.val (.int (5 : Int32)), .val (.ref w_ALL), .val (.int (5 : Int32)), .val (.int (3 : Int32)), .val (.ref w_BIGINT)] [(.int (5 : Int32)), (.int (3 : Int32))])) _
    refine XS.icmpNo X8.here hx rfl (hb hby d1_11) rfl (tlt (by decide : (3 : Int32) < (5 : Int32))).2.1 ?_
    show Steps p.tables e below (T8.setTop (mkF m 14 #[.val (.int (5 : Int32)), .val (.ref w_ALL), .val (.int (5 : Int32)), .val (.int (3 : Int32)), .val (.ref w_BIGINT)] [])) _
    refine XS.aloadN X8.here hx rfl (hb hby d1_14) rfl rfl ?_
    show Steps p.tables e below (T8.setTop (mkF m 15 #[.val (.int (5 : Int32)), .val (.ref w_ALL), .val (.int (5 : Int32)), .val (.int (3 : Int32)), .val (.ref w_BIGINT)] [(.ref w_ALL)])) _
    refine XS.iloadN X8.here hx rfl (hb hby d1_15) rfl ?_
    show Steps p.tables e below (T8.setTop (mkF m 16 #[.val (.int (5 : Int32)), .val (.ref w_ALL), .val (.int (5 : Int32)), .val (.int (3 : Int32)), .val (.ref w_BIGINT)] [(.int (3 : Int32)), (.ref w_ALL)])) _
    refine X8.aaload hx (j := (3 : Int32)) (v := (.ref w_DOUBLE)) (by rw [e8]; exact Ar9.1) (State.isArrayOf_alike hZ.alike Ar9.2.1) rfl Ar9.2.2 hin9 hat9 (g := (mkF m 16 #[.val (.int (5 : Int32)), .val (.ref w_ALL), .val (.int (5 : Int32)), .val (.int (3 : Int32)), .val (.ref w_BIGINT)] [(.int (3 : Int32)), (.ref w_ALL)])) rfl rfl (hb hby d1_16) _ ?_
    show Steps p.tables e below (T8.setTop (mkF m 17 #[.val (.int (5 : Int32)), .val (.ref w_ALL), .val (.int (5 : Int32)), .val (.int (3 : Int32)), .val (.ref w_BIGINT)] [(.ref w_DOUBLE)])) _
    refine XS.astore X8.here hx rfl (hb hby d1_17) rfl rfl (l' := #[.val (.int (5 : Int32)), .val (.ref w_ALL), .val (.int (5 : Int32)), .val (.int (3 : Int32)), .val (.ref w_DOUBLE)]) rfl ?_
    show Steps p.tables e below (T8.setTop (mkF m 19 #[.val (.int (5 : Int32)), .val (.ref w_ALL), .val (.int (5 : Int32)), .val (.int (3 : Int32)), .val (.ref w_DOUBLE)] [])) _
    refine XS.aload X8.here hx rfl (hb hby d1_19) rfl rfl ?_
    show Steps p.tables e below (T8.setTop (mkF m 21 #[.val (.int (5 : Int32)), .val (.ref w_ALL), .val (.int (5 : Int32)), .val (.int (3 : Int32)), .val (.ref w_DOUBLE)] [(.ref w_DOUBLE)])) _
    refine st10 _ ?_
    show Steps p.tables e below (T10.setTop (mkF m 24 #[.val (.int (5 : Int32)), .val (.ref w_ALL), .val (.int (5 : Int32)), .val (.int (3 : Int32)), .val (.ref w_DOUBLE)] [(.int (4 : Int32))])) _
    refine XS.iloadN X10.here hx rfl (hb hby d1_24) rfl ?_
    show Steps p.tables e below (T10.setTop (mkF m 25 #[.val (.int (5 : Int32)), .val (.ref w_ALL), .val (.int (5 : Int32)), .val (.int (3 : Int32)), .val (.ref w_DOUBLE)] [(.int (5 : Int32)), (.int (4 : Int32))])) _
    refine XS.icmpYes X10.here hx rfl (pc0 := 25) (pc' := 31) rfl (hb hby d1_25) rfl (feq (by decide : ¬ ((4 : Int32) = (5 : Int32)))).2 (by decide) (by decide) ?_
    show Steps p.tables e below (T10.setTop (mkF m 31 #[.val (.int (5 : Int32)), .val (.ref w_ALL), .val (.int (5 : Int32)), .val (.int (3 : Int32)), .val (.ref w_DOUBLE)] [])) _
    refine XS.iinc X10.here hx rfl (hb hby d1_31) rfl (l' := #[.val (.int (5 : Int32)), .val (.ref w_ALL), .val (.int (5 : Int32)), .val (.int (4 : Int32)), .val (.ref w_DOUBLE)]) rfl ?_
    show Steps p.tables e below (T10.setTop (mkF m 34 #[.val (.int (5 : Int32)), .val (.ref w_ALL), .val (.int (5 : Int32)), .val (.int (4 : Int32)), .val (.ref w_DOUBLE)] [])) _
    refine XS.goto X10.here hx rfl (pc0 := 34) (pc' := 9) rfl (hb hby d1_34) (by decide) (by decide) ?_
    show Steps p.tables e below (T10.setTop (mkF m 9 #[.val (.int (5 : Int32)), .val (.ref w_ALL), .val (.int (5 : Int32)), .val (.int (4 : Int32)), .val (.ref w_DOUBLE)] [])) _
    refine XS.iloadN X10.here hx rfl (hb hby d1_9) rfl ?_
    show Steps p.tables e below (T10.setTop (mkF m 10 #[.val (.int (5 : Int32)), .val (.ref w_ALL), .val (.int (5 : Int32)), .val (.int (4 : Int32)), .val (.ref w_DOUBLE)] [(.int (4 : Int32))])) _
    refine XS.iloadN X10.here hx rfl (hb hby d1_10) rfl ?_
    show Steps p.tables e below (T10.setTop (mkF m 11 #[.val (.int (5 : Int32)), .val (.ref w_ALL), .val (.int (5 : Int32)), .val (.int (4 : Int32)), .val (.ref w_DOUBLE)] [(.int (5 : Int32)), (.int (4 : Int32))])) _
    refine XS.icmpNo X10.here hx rfl (hb hby d1_11) rfl (tlt (by decide : (4 : Int32) < (5 : Int32))).2.1 ?_
    show Steps p.tables e below (T10.setTop (mkF m 14 #[.val (.int (5 : Int32)), .val (.ref w_ALL), .val (.int (5 : Int32)), .val (.int (4 : Int32)), .val (.ref w_DOUBLE)] [])) _
    refine XS.aloadN X10.here hx rfl (hb hby d1_14) rfl rfl ?_
    show Steps p.tables e below (T10.setTop (mkF m 15 #[.val (.int (5 : Int32)), .val (.ref w_ALL), .val (.int (5 : Int32)), .val (.int (4 : Int32)), .val (.ref w_DOUBLE)] [(.ref w_ALL)])) _
    refine XS.iloadN X10.here hx rfl (hb hby d1_15) rfl ?_
    show Steps p.tables e below (T10.setTop (mkF m 16 #[.val (.int (5 : Int32)), .val (.ref w_ALL), .val (.int (5 : Int32)), .val (.int (4 : Int32)), .val (.ref w_DOUBLE)] [(.int (4 : Int32)), (.ref w_ALL)])) _
    refine X10.aaload hx (j := (4 : Int32)) (v := (.ref w_BOOLEAN)) (by rw [e10]; exact Ar11.1) (State.isArrayOf_alike hZ.alike Ar11.2.1) rfl Ar11.2.2 hin11 hat11 (g := (mkF m 16 #[.val (.int (5 : Int32)), .val (.ref w_ALL), .val (.int (5 : Int32)), .val (.int (4 : Int32)), .val (.ref w_DOUBLE)] [(.int (4 : Int32)), (.ref w_ALL)])) rfl rfl (hb hby d1_16) _ ?_
    show Steps p.tables e below (T10.setTop (mkF m 17 #[.val (.int (5 : Int32)), .val (.ref w_ALL), .val (.int (5 : Int32)), .val (.int (4 : Int32)), .val (.ref w_DOUBLE)] [(.ref w_BOOLEAN)])) _
    refine XS.astore X10.here hx rfl (hb hby d1_17) rfl rfl (l' := #[.val (.int (5 : Int32)), .val (.ref w_ALL), .val (.int (5 : Int32)), .val (.int (4 : Int32)), .val (.ref w_BOOLEAN)]) rfl ?_
    show Steps p.tables e below (T10.setTop (mkF m 19 #[.val (.int (5 : Int32)), .val (.ref w_ALL), .val (.int (5 : Int32)), .val (.int (4 : Int32)), .val (.ref w_BOOLEAN)] [])) _
    refine XS.aload X10.here hx rfl (hb hby d1_19) rfl rfl ?_
    show Steps p.tables e below (T10.setTop (mkF m 21 #[.val (.int (5 : Int32)), .val (.ref w_ALL), .val (.int (5 : Int32)), .val (.int (4 : Int32)), .val (.ref w_BOOLEAN)] [(.ref w_BOOLEAN)])) _
    refine st12 _ ?_
    show Steps p.tables e below (T12.setTop (mkF m 24 #[.val (.int (5 : Int32)), .val (.ref w_ALL), .val (.int (5 : Int32)), .val (.int (4 : Int32)), .val (.ref w_BOOLEAN)] [(.int (5 : Int32))])) _
    refine XS.iloadN X12.here hx rfl (hb hby d1_24) rfl ?_
    show Steps p.tables e below (T12.setTop (mkF m 25 #[.val (.int (5 : Int32)), .val (.ref w_ALL), .val (.int (5 : Int32)), .val (.int (4 : Int32)), .val (.ref w_BOOLEAN)] [(.int (5 : Int32)), (.int (5 : Int32))])) _
    refine XS.icmpNo X12.here hx rfl (hb hby d1_25) rfl (teq (by decide : (5 : Int32) = (5 : Int32))).2 ?_
    show Steps p.tables e below (T12.setTop (mkF m 28 #[.val (.int (5 : Int32)), .val (.ref w_ALL), .val (.int (5 : Int32)), .val (.int (4 : Int32)), .val (.ref w_BOOLEAN)] [])) _
    refine XS.aload X12.here hx rfl (hb hby d1_28) rfl rfl ?_
    show Steps p.tables e below (T12.setTop (mkF m 30 #[.val (.int (5 : Int32)), .val (.ref w_ALL), .val (.int (5 : Int32)), .val (.int (4 : Int32)), .val (.ref w_BOOLEAN)] [(.ref w_BOOLEAN)])) _
    exact retOut X12 hx Bd.returns rfl (Or.inr (Or.inr (Or.inr (Or.inr ⟨rfl, rfl, rfl⟩)))) (hb hby d1_30) hr
  · exact ⟨rfl, N0, e12⟩
set_option maxRecDepth 65536 in
set_option maxHeartbeats 40000000 in
theorem rm1_o (l : Launch) (Z : State) (a0 : Array Value) (hw : ∀ d ∈ tables_1, d.before a0 Z = true) (ws : List Jvm.Cond) (n0 : Nat) (h0 : Heap) (O : Old Z n0 h0) (w_ALL : Addr) (w_STRING : Addr) (w_INT : Addr) (w_BIGINT : Addr) (w_DOUBLE : Addr) (w_BOOLEAN : Addr) (k_w_ALL : ClassId) (W : OwW Z w_ALL w_STRING w_INT w_BIGINT w_DOUBLE w_BOOLEAN k_w_ALL) (cx : Int32) (h1 : ¬ (1 : Int32) = cx) (h2 : ¬ (2 : Int32) = cx) (h3 : ¬ (3 : Int32) = cx) (h4 : ¬ (4 : Int32) = cx) (h5 : ¬ (5 : Int32) = cx) :
    OwCon l (⟨"com/example/lamina/lamina/engine/ColumnType", "ofCode", "(I)Lcom/example/lamina/lamina/engine/ColumnType;"⟩ : MethodName) prog_7_method_7_code 5 (some (.object "com/example/lamina/lamina/engine/ColumnType")) ws ({ frames := 0, cells := 0, slots := 0, locals := 0 } : Room) #[(.int cx)] Z h0 (OwQ (some .null) h0 n0) := by
  refine MetFree.of_bodySF (plainFor_of_name owpn1) hisR ?_
  intro p e s m args below meth c s₁ Bd hml0 hP hK
  obtain ⟨rfl, hZ, hh⟩ := hP
  have hx := Bd.exec
  have hby := Bd.bytes
  have hml : c.maxLocals = 5 := hml0
  have hown : s.vm.findClass "com/example/lamina/lamina/engine/ColumnType" = some m.cls := findClass_of_methodNamed Bd.named
  have hnm := (name_of_methodNamed Bd.named Bd.method).1
  have X0 : Stand p l e ({ frames := 0, cells := 0, slots := 0, locals := 0 } : Room) s m #[(.int cx)] below meth c s₁ [] 0 0 := Stand.of_body Bd
  have e0 : s₁.heap = h0 := by rw [← hh, Bd.state]; rfl
  have N0 := Fr.nil n0
  have WW := W
  obtain ⟨E_w_STRING, E_w_INT, E_w_BIGINT, E_w_DOUBLE, E_w_BOOLEAN, S_ColumnType_ALL, S_ColumnType_STRING, F_w_STRING_code, S_ColumnType_INT, F_w_INT_code, S_ColumnType_BIGINT, F_w_BIGINT_code, S_ColumnType_DOUBLE, F_w_DOUBLE_code, S_ColumnType_BOOLEAN, F_w_BOOLEAN_code, V_w_ALL, -⟩ := WW
  have ef : entryFrame m #[(.int cx)] 5 = mkF m 0 #[.val (.int cx), .unset, .unset, .unset, .unset] [] := by first | rfl | (simp [entryFrame, mkF, argsToLocals, Value.category]; done)
  have pre0 : ∀ t, Steps p.tables e below (s₁.setTop (mkF m 0 #[.val (.int cx), .unset, .unset, .unset, .unset] [])) t → Steps p.tables e below (s₁.setTop (entryFrame m #[(.int cx)] 5)) t := fun t k => castTop ef k
  obtain ⟨T1, X1, e1, st1⟩ := getS2 X0 hx hZ hown (host := "") (Or.inl (hw _ (List.mem_of_getElem? (i := 4) rfl))) Via.refl e0 (S_ColumnType_ALL.ext O.2) (g := (mkF m 0 #[.val (.int cx), .unset, .unset, .unset, .unset] [])) rfl (hb hby d1_0)
  obtain ⟨cl2, Ar2, q2, Sz2, Nn2, Hs2, -⟩ := (V_w_ALL.ext O.2)
  obtain ⟨cl3, Ar3, q3, Sz3, Nn3, Hs3, -⟩ := (V_w_ALL.ext O.2)
  have hin3 : ¬ ((0 : Int32) < 0 ∨ cl3.slots.size ≤ ((0 : Int32)).toNatClampNeg) := inb_of Sz3 ⟨by decide, by decide⟩
  have hat3 : cl3.slots[((0 : Int32)).toNatClampNeg]? = some (.ref w_STRING) := Has.at Hs3 hin3 rfl
  obtain ⟨T4, X4, e4, st4⟩ := getF X1 hx hZ hown (host := "") (Or.inl (hw _ (List.mem_of_getElem? (i := 7) rfl))) Via.refl e1 (F_w_STRING_code.ext O.2) (g := (mkF m 21 #[.val (.int cx), .val (.ref w_ALL), .val (.int (5 : Int32)), .val (.int (0 : Int32)), .val (.ref w_STRING)] [(.ref w_STRING)])) rfl rfl (hb hby d1_21)
  obtain ⟨cl5, Ar5, q5, Sz5, Nn5, Hs5, -⟩ := (V_w_ALL.ext O.2)
  have hin5 : ¬ ((1 : Int32) < 0 ∨ cl5.slots.size ≤ ((1 : Int32)).toNatClampNeg) := inb_of Sz5 ⟨by decide, by decide⟩
  have hat5 : cl5.slots[((1 : Int32)).toNatClampNeg]? = some (.ref w_INT) := Has.at Hs5 hin5 rfl
  obtain ⟨T6, X6, e6, st6⟩ := getF X4 hx hZ hown (host := "") (Or.inl (hw _ (List.mem_of_getElem? (i := 7) rfl))) Via.refl e4 (F_w_INT_code.ext O.2) (g := (mkF m 21 #[.val (.int cx), .val (.ref w_ALL), .val (.int (5 : Int32)), .val (.int (1 : Int32)), .val (.ref w_INT)] [(.ref w_INT)])) rfl rfl (hb hby d1_21)
  obtain ⟨cl7, Ar7, q7, Sz7, Nn7, Hs7, -⟩ := (V_w_ALL.ext O.2)
  have hin7 : ¬ ((2 : Int32) < 0 ∨ cl7.slots.size ≤ ((2 : Int32)).toNatClampNeg) := inb_of Sz7 ⟨by decide, by decide⟩
  have hat7 : cl7.slots[((2 : Int32)).toNatClampNeg]? = some (.ref w_BIGINT) := Has.at Hs7 hin7 rfl
  obtain ⟨T8, X8, e8, st8⟩ := getF X6 hx hZ hown (host := "") (Or.inl (hw _ (List.mem_of_getElem? (i := 7) rfl))) Via.refl e6 (F_w_BIGINT_code.ext O.2) (g := (mkF m 21 #[.val (.int cx), .val (.ref w_ALL), .val (.int (5 : Int32)), .val (.int (2 : Int32)), .val (.ref w_BIGINT)] [(.ref w_BIGINT)])) rfl rfl (hb hby d1_21)
  obtain ⟨cl9, Ar9, q9, Sz9, Nn9, Hs9, -⟩ := (V_w_ALL.ext O.2)
  have hin9 : ¬ ((3 : Int32) < 0 ∨ cl9.slots.size ≤ ((3 : Int32)).toNatClampNeg) := inb_of Sz9 ⟨by decide, by decide⟩
  have hat9 : cl9.slots[((3 : Int32)).toNatClampNeg]? = some (.ref w_DOUBLE) := Has.at Hs9 hin9 rfl
  obtain ⟨T10, X10, e10, st10⟩ := getF X8 hx hZ hown (host := "") (Or.inl (hw _ (List.mem_of_getElem? (i := 7) rfl))) Via.refl e8 (F_w_DOUBLE_code.ext O.2) (g := (mkF m 21 #[.val (.int cx), .val (.ref w_ALL), .val (.int (5 : Int32)), .val (.int (3 : Int32)), .val (.ref w_DOUBLE)] [(.ref w_DOUBLE)])) rfl rfl (hb hby d1_21)
  obtain ⟨cl11, Ar11, q11, Sz11, Nn11, Hs11, -⟩ := (V_w_ALL.ext O.2)
  have hin11 : ¬ ((4 : Int32) < 0 ∨ cl11.slots.size ≤ ((4 : Int32)).toNatClampNeg) := inb_of Sz11 ⟨by decide, by decide⟩
  have hat11 : cl11.slots[((4 : Int32)).toNatClampNeg]? = some (.ref w_BOOLEAN) := Has.at Hs11 hin11 rfl
  obtain ⟨T12, X12, e12, st12⟩ := getF X10 hx hZ hown (host := "") (Or.inl (hw _ (List.mem_of_getElem? (i := 7) rfl))) Via.refl e10 (F_w_BOOLEAN_code.ext O.2) (g := (mkF m 21 #[.val (.int cx), .val (.ref w_ALL), .val (.int (5 : Int32)), .val (.int (4 : Int32)), .val (.ref w_BOOLEAN)] [(.ref w_BOOLEAN)])) rfl rfl (hb hby d1_21)
  obtain ⟨fs, hr, hrun, hended, hW, hsame⟩ := X12.leave (v := some .null) (fun h => by rw [Bd.returns] at h; cases h)
  refine ⟨_, _, pre0 _ ?_, hrun, hended, _, _, rfl, ?_, ⟨_, rfl⟩, hW, hsame.mono (by decide) (by decide)⟩
  · show Steps p.tables e below (s₁.setTop (mkF m 0 #[.val (.int cx), .unset, .unset, .unset, .unset] [])) _
    refine st1 _ ?_
    show Steps p.tables e below (T1.setTop (mkF m 3 #[.val (.int cx), .unset, .unset, .unset, .unset] [(.ref w_ALL)])) _
    refine XS.astoreN X1.here hx rfl (hb hby d1_3) rfl rfl (l' := #[.val (.int cx), .val (.ref w_ALL), .unset, .unset, .unset]) rfl ?_
    show Steps p.tables e below (T1.setTop (mkF m 4 #[.val (.int cx), .val (.ref w_ALL), .unset, .unset, .unset] [])) _
    refine XS.aloadN X1.here hx rfl (hb hby d1_4) rfl rfl ?_
    show Steps p.tables e below (T1.setTop (mkF m 5 #[.val (.int cx), .val (.ref w_ALL), .unset, .unset, .unset] [(.ref w_ALL)])) _
    refine X1.arraylength hx (by rw [e1]; exact Ar2.1) (State.isArrayOf_alike hZ.alike Ar2.2.1) (g := (mkF m 5 #[.val (.int cx), .val (.ref w_ALL), .unset, .unset, .unset] [(.ref w_ALL)])) rfl rfl (hb hby d1_5) _ ?_
    rw [len_of Sz2 Nn2]
    show Steps p.tables e below (T1.setTop (mkF m 6 #[.val (.int cx), .val (.ref w_ALL), .unset, .unset, .unset] [(.int (5 : Int32))])) _
    refine XS.istoreN X1.here hx rfl (hb hby d1_6) rfl (l' := #[.val (.int cx), .val (.ref w_ALL), .val (.int (5 : Int32)), .unset, .unset]) rfl ?_
    show Steps p.tables e below (T1.setTop (mkF m 7 #[.val (.int cx), .val (.ref w_ALL), .val (.int (5 : Int32)), .unset, .unset] [])) _
    refine XS.iconst X1.here hx rfl (hb hby d1_7) ?_
    show Steps p.tables e below (T1.setTop (mkF m 8 #[.val (.int cx), .val (.ref w_ALL), .val (.int (5 : Int32)), .unset, .unset] [(.int (0 : Int32))])) _
    refine XS.istoreN X1.here hx rfl (hb hby d1_8) rfl (l' := #[.val (.int cx), .val (.ref w_ALL), .val (.int (5 : Int32)), .val (.int (0 : Int32)), .unset]) rfl ?_
    show Steps p.tables e below (T1.setTop (mkF m 9 #[.val (.int cx), .val (.ref w_ALL), .val (.int (5 : Int32)), .val (.int (0 : Int32)), .unset] [])) _
    refine XS.iloadN X1.here hx rfl (hb hby d1_9) rfl ?_
    show Steps p.tables e below (T1.setTop (mkF m 10 #[.val (.int cx), .val (.ref w_ALL), .val (.int (5 : Int32)), .val (.int (0 : Int32)), .unset] [(.int (0 : Int32))])) _
    refine XS.iloadN X1.here hx rfl (hb hby d1_10) rfl ?_
    show Steps p.tables e below (T1.setTop (mkF m 11 #[.val (.int cx), .val (.ref w_ALL), .val (.int (5 : Int32)), .val (.int (0 : Int32)), .unset] [(.int (5 : Int32)), (.int (0 : Int32))])) _
    refine XS.icmpNo X1.here hx rfl (hb hby d1_11) rfl (tlt (by decide : (0 : Int32) < (5 : Int32))).2.1 ?_
    show Steps p.tables e below (T1.setTop (mkF m 14 #[.val (.int cx), .val (.ref w_ALL), .val (.int (5 : Int32)), .val (.int (0 : Int32)), .unset] [])) _
    refine XS.aloadN X1.here hx rfl (hb hby d1_14) rfl rfl ?_
    show Steps p.tables e below (T1.setTop (mkF m 15 #[.val (.int cx), .val (.ref w_ALL), .val (.int (5 : Int32)), .val (.int (0 : Int32)), .unset] [(.ref w_ALL)])) _
    refine XS.iloadN X1.here hx rfl (hb hby d1_15) rfl ?_
    show Steps p.tables e below (T1.setTop (mkF m 16 #[.val (.int cx), .val (.ref w_ALL), .val (.int (5 : Int32)), .val (.int (0 : Int32)), .unset] [(.int (0 : Int32)), (.ref w_ALL)])) _
    refine X1.aaload hx (j := (0 : Int32)) (v := (.ref w_STRING)) (by rw [e1]; exact Ar3.1) (State.isArrayOf_alike hZ.alike Ar3.2.1) rfl Ar3.2.2 hin3 hat3 (g := (mkF m 16 #[.val (.int cx), .val (.ref w_ALL), .val (.int (5 : Int32)), .val (.int (0 : Int32)), .unset] [(.int (0 : Int32)), (.ref w_ALL)])) rfl rfl (hb hby d1_16) _ ?_
    show Steps p.tables e below (T1.setTop (mkF m 17 #[.val (.int cx), .val (.ref w_ALL), .val (.int (5 : Int32)), .val (.int (0 : Int32)), .unset] [(.ref w_STRING)])) _
    refine XS.astore X1.here hx rfl (hb hby d1_17) rfl rfl (l' := #[.val (.int cx), .val (.ref w_ALL), .val (.int (5 : Int32)), .val (.int (0 : Int32)), .val (.ref w_STRING)]) rfl ?_
    show Steps p.tables e below (T1.setTop (mkF m 19 #[.val (.int cx), .val (.ref w_ALL), .val (.int (5 : Int32)), .val (.int (0 : Int32)), .val (.ref w_STRING)] [])) _
    refine XS.aload X1.here hx rfl (hb hby d1_19) rfl rfl ?_
    show Steps p.tables e below (T1.setTop (mkF m 21 #[.val (.int cx), .val (.ref w_ALL), .val (.int (5 : Int32)), .val (.int (0 : Int32)), .val (.ref w_STRING)] [(.ref w_STRING)])) _
    refine st4 _ ?_
    show Steps p.tables e below (T4.setTop (mkF m 24 #[.val (.int cx), .val (.ref w_ALL), .val (.int (5 : Int32)), .val (.int (0 : Int32)), .val (.ref w_STRING)] [(.int (1 : Int32))])) _
    refine XS.iloadN X4.here hx rfl (hb hby d1_24) rfl ?_
    show Steps p.tables e below (T4.setTop (mkF m 25 #[.val (.int cx), .val (.ref w_ALL), .val (.int (5 : Int32)), .val (.int (0 : Int32)), .val (.ref w_STRING)] [(.int cx), (.int (1 : Int32))])) _
    refine XS.icmpYes X4.here hx rfl (pc0 := 25) (pc' := 31) rfl (hb hby d1_25) rfl (feq h1).2 (by decide) (by decide) ?_
    show Steps p.tables e below (T4.setTop (mkF m 31 #[.val (.int cx), .val (.ref w_ALL), .val (.int (5 : Int32)), .val (.int (0 : Int32)), .val (.ref w_STRING)] [])) _
    refine XS.iinc X4.here hx rfl (hb hby d1_31) rfl (l' := #[.val (.int cx), .val (.ref w_ALL), .val (.int (5 : Int32)), .val (.int (1 : Int32)), .val (.ref w_STRING)]) rfl ?_
    show Steps p.tables e below (T4.setTop (mkF m 34 #[.val (.int cx), .val (.ref w_ALL), .val (.int (5 : Int32)), .val (.int (1 : Int32)), .val (.ref w_STRING)] [])) _
    refine XS.goto X4.here hx rfl (pc0 := 34) (pc' := 9) rfl (hb hby d1_34) (by decide) (by decide) ?_
    show Steps p.tables e below (T4.setTop (mkF m 9 #[.val (.int cx), .val (.ref w_ALL), .val (.int (5 : Int32)), .val (.int (1 : Int32)), .val (.ref w_STRING)] [])) _
    refine XS.iloadN X4.here hx rfl (hb hby d1_9) rfl ?_
    show Steps p.tables e below (T4.setTop (mkF m 10 #[.val (.int cx), .val (.ref w_ALL), .val (.int (5 : Int32)), .val (.int (1 : Int32)), .val (.ref w_STRING)] [(.int (1 : Int32))])) _
    refine XS.iloadN X4.here hx rfl (hb hby d1_10) rfl ?_
    show Steps p.tables e below (T4.setTop (mkF m 11 #[.val (.int cx), .val (.ref w_ALL), .val (.int (5 : Int32)), .val (.int (1 : Int32)), .val (.ref w_STRING)] [(.int (5 : Int32)), (.int (1 : Int32))])) _
    refine XS.icmpNo X4.here hx rfl (hb hby d1_11) rfl (tlt (by decide : (1 : Int32) < (5 : Int32))).2.1 ?_
    show Steps p.tables e below (T4.setTop (mkF m 14 #[.val (.int cx), .val (.ref w_ALL), .val (.int (5 : Int32)), .val (.int (1 : Int32)), .val (.ref w_STRING)] [])) _
    refine XS.aloadN X4.here hx rfl (hb hby d1_14) rfl rfl ?_
    show Steps p.tables e below (T4.setTop (mkF m 15 #[.val (.int cx), .val (.ref w_ALL), .val (.int (5 : Int32)), .val (.int (1 : Int32)), .val (.ref w_STRING)] [(.ref w_ALL)])) _
    refine XS.iloadN X4.here hx rfl (hb hby d1_15) rfl ?_
    show Steps p.tables e below (T4.setTop (mkF m 16 #[.val (.int cx), .val (.ref w_ALL), .val (.int (5 : Int32)), .val (.int (1 : Int32)), .val (.ref w_STRING)] [(.int (1 : Int32)), (.ref w_ALL)])) _
    refine X4.aaload hx (j := (1 : Int32)) (v := (.ref w_INT)) (by rw [e4]; exact Ar5.1) (State.isArrayOf_alike hZ.alike Ar5.2.1) rfl Ar5.2.2 hin5 hat5 (g := (mkF m 16 #[.val (.int cx), .val (.ref w_ALL), .val (.int (5 : Int32)), .val (.int (1 : Int32)), .val (.ref w_STRING)] [(.int (1 : Int32)), (.ref w_ALL)])) rfl rfl (hb hby d1_16) _ ?_
    show Steps p.tables e below (T4.setTop (mkF m 17 #[.val (.int cx), .val (.ref w_ALL), .val (.int (5 : Int32)), .val (.int (1 : Int32)), .val (.ref w_STRING)] [(.ref w_INT)])) _
    refine XS.astore X4.here hx rfl (hb hby d1_17) rfl rfl (l' := #[.val (.int cx), .val (.ref w_ALL), .val (.int (5 : Int32)), .val (.int (1 : Int32)), .val (.ref w_INT)]) rfl ?_
    show Steps p.tables e below (T4.setTop (mkF m 19 #[.val (.int cx), .val (.ref w_ALL), .val (.int (5 : Int32)), .val (.int (1 : Int32)), .val (.ref w_INT)] [])) _
    refine XS.aload X4.here hx rfl (hb hby d1_19) rfl rfl ?_
    show Steps p.tables e below (T4.setTop (mkF m 21 #[.val (.int cx), .val (.ref w_ALL), .val (.int (5 : Int32)), .val (.int (1 : Int32)), .val (.ref w_INT)] [(.ref w_INT)])) _
    refine st6 _ ?_
    show Steps p.tables e below (T6.setTop (mkF m 24 #[.val (.int cx), .val (.ref w_ALL), .val (.int (5 : Int32)), .val (.int (1 : Int32)), .val (.ref w_INT)] [(.int (2 : Int32))])) _
    refine XS.iloadN X6.here hx rfl (hb hby d1_24) rfl ?_
    show Steps p.tables e below (T6.setTop (mkF m 25 #[.val (.int cx), .val (.ref w_ALL), .val (.int (5 : Int32)), .val (.int (1 : Int32)), .val (.ref w_INT)] [(.int cx), (.int (2 : Int32))])) _
    refine XS.icmpYes X6.here hx rfl (pc0 := 25) (pc' := 31) rfl (hb hby d1_25) rfl (feq h2).2 (by decide) (by decide) ?_
    show Steps p.tables e below (T6.setTop (mkF m 31 #[.val (.int cx), .val (.ref w_ALL), .val (.int (5 : Int32)), .val (.int (1 : Int32)), .val (.ref w_INT)] [])) _
    refine XS.iinc X6.here hx rfl (hb hby d1_31) rfl (l' := #[.val (.int cx), .val (.ref w_ALL), .val (.int (5 : Int32)), .val (.int (2 : Int32)), .val (.ref w_INT)]) rfl ?_
    show Steps p.tables e below (T6.setTop (mkF m 34 #[.val (.int cx), .val (.ref w_ALL), .val (.int (5 : Int32)), .val (.int (2 : Int32)), .val (.ref w_INT)] [])) _
    refine XS.goto X6.here hx rfl (pc0 := 34) (pc' := 9) rfl (hb hby d1_34) (by decide) (by decide) ?_
    show Steps p.tables e below (T6.setTop (mkF m 9 #[.val (.int cx), .val (.ref w_ALL), .val (.int (5 : Int32)), .val (.int (2 : Int32)), .val (.ref w_INT)] [])) _
    refine XS.iloadN X6.here hx rfl (hb hby d1_9) rfl ?_
    show Steps p.tables e below (T6.setTop (mkF m 10 #[.val (.int cx), .val (.ref w_ALL), .val (.int (5 : Int32)), .val (.int (2 : Int32)), .val (.ref w_INT)] [(.int (2 : Int32))])) _
    refine XS.iloadN X6.here hx rfl (hb hby d1_10) rfl ?_
    show Steps p.tables e below (T6.setTop (mkF m 11 #[.val (.int cx), .val (.ref w_ALL), .val (.int (5 : Int32)), .val (.int (2 : Int32)), .val (.ref w_INT)] [(.int (5 : Int32)), (.int (2 : Int32))])) _
    refine XS.icmpNo X6.here hx rfl (hb hby d1_11) rfl (tlt (by decide : (2 : Int32) < (5 : Int32))).2.1 ?_
    show Steps p.tables e below (T6.setTop (mkF m 14 #[.val (.int cx), .val (.ref w_ALL), .val (.int (5 : Int32)), .val (.int (2 : Int32)), .val (.ref w_INT)] [])) _
    refine XS.aloadN X6.here hx rfl (hb hby d1_14) rfl rfl ?_
    show Steps p.tables e below (T6.setTop (mkF m 15 #[.val (.int cx), .val (.ref w_ALL), .val (.int (5 : Int32)), .val (.int (2 : Int32)), .val (.ref w_INT)] [(.ref w_ALL)])) _
    refine XS.iloadN X6.here hx rfl (hb hby d1_15) rfl ?_
    show Steps p.tables e below (T6.setTop (mkF m 16 #[.val (.int cx), .val (.ref w_ALL), .val (.int (5 : Int32)), .val (.int (2 : Int32)), .val (.ref w_INT)] [(.int (2 : Int32)), (.ref w_ALL)])) _
    refine X6.aaload hx (j := (2 : Int32)) (v := (.ref w_BIGINT)) (by rw [e6]; exact Ar7.1) (State.isArrayOf_alike hZ.alike Ar7.2.1) rfl Ar7.2.2 hin7 hat7 (g := (mkF m 16 #[.val (.int cx), .val (.ref w_ALL), .val (.int (5 : Int32)), .val (.int (2 : Int32)), .val (.ref w_INT)] [(.int (2 : Int32)), (.ref w_ALL)])) rfl rfl (hb hby d1_16) _ ?_
    show Steps p.tables e below (T6.setTop (mkF m 17 #[.val (.int cx), .val (.ref w_ALL), .val (.int (5 : Int32)), .val (.int (2 : Int32)), .val (.ref w_INT)] [(.ref w_BIGINT)])) _
    refine XS.astore X6.here hx rfl (hb hby d1_17) rfl rfl (l' := #[.val (.int cx), .val (.ref w_ALL), .val (.int (5 : Int32)), .val (.int (2 : Int32)), .val (.ref w_BIGINT)]) rfl ?_
    show Steps p.tables e below (T6.setTop (mkF m 19 #[.val (.int cx), .val (.ref w_ALL), .val (.int (5 : Int32)), .val (.int (2 : Int32)), .val (.ref w_BIGINT)] [])) _
    refine XS.aload X6.here hx rfl (hb hby d1_19) rfl rfl ?_
    show Steps p.tables e below (T6.setTop (mkF m 21 #[.val (.int cx), .val (.ref w_ALL), .val (.int (5 : Int32)), .val (.int (2 : Int32)), .val (.ref w_BIGINT)] [(.ref w_BIGINT)])) _
    refine st8 _ ?_
    show Steps p.tables e below (T8.setTop (mkF m 24 #[.val (.int cx), .val (.ref w_ALL), .val (.int (5 : Int32)), .val (.int (2 : Int32)), .val (.ref w_BIGINT)] [(.int (3 : Int32))])) _
    refine XS.iloadN X8.here hx rfl (hb hby d1_24) rfl ?_
    show Steps p.tables e below (T8.setTop (mkF m 25 #[.val (.int cx), .val (.ref w_ALL), .val (.int (5 : Int32)), .val (.int (2 : Int32)), .val (.ref w_BIGINT)] [(.int cx), (.int (3 : Int32))])) _
    refine XS.icmpYes X8.here hx rfl (pc0 := 25) (pc' := 31) rfl (hb hby d1_25) rfl (feq h3).2 (by decide) (by decide) ?_
    show Steps p.tables e below (T8.setTop (mkF m 31 #[.val (.int cx), .val (.ref w_ALL), .val (.int (5 : Int32)), .val (.int (2 : Int32)), .val (.ref w_BIGINT)] [])) _
    refine XS.iinc X8.here hx rfl (hb hby d1_31) rfl (l' := #[.val (.int cx), .val (.ref w_ALL), .val (.int (5 : Int32)), .val (.int (3 : Int32)), .val (.ref w_BIGINT)]) rfl ?_
    show Steps p.tables e below (T8.setTop (mkF m 34 #[.val (.int cx), .val (.ref w_ALL), .val (.int (5 : Int32)), .val (.int (3 : Int32)), .val (.ref w_BIGINT)] [])) _
    refine XS.goto X8.here hx rfl (pc0 := 34) (pc' := 9) rfl (hb hby d1_34) (by decide) (by decide) ?_
    show Steps p.tables e below (T8.setTop (mkF m 9 #[.val (.int cx), .val (.ref w_ALL), .val (.int (5 : Int32)), .val (.int (3 : Int32)), .val (.ref w_BIGINT)] [])) _
    refine XS.iloadN X8.here hx rfl (hb hby d1_9) rfl ?_
    show Steps p.tables e below (T8.setTop (mkF m 10 #[.val (.int cx), .val (.ref w_ALL), .val (.int (5 : Int32)), .val (.int (3 : Int32)), .val (.ref w_BIGINT)] [(.int (3 : Int32))])) _
    refine XS.iloadN X8.here hx rfl (hb hby d1_10) rfl ?_
    show Steps p.tables e below (T8.setTop (mkF m 11 #[.val (.int cx), .val (.ref w_ALL), .val (.int (5 : Int32)), .val (.int (3 : Int32)), .val (.ref w_BIGINT)] [(.int (5 : Int32)), (.int (3 : Int32))])) _
    refine XS.icmpNo X8.here hx rfl (hb hby d1_11) rfl (tlt (by decide : (3 : Int32) < (5 : Int32))).2.1 ?_
    show Steps p.tables e below (T8.setTop (mkF m 14 #[.val (.int cx), .val (.ref w_ALL), .val (.int (5 : Int32)), .val (.int (3 : Int32)), .val (.ref w_BIGINT)] [])) _
    refine XS.aloadN X8.here hx rfl (hb hby d1_14) rfl rfl ?_
    show Steps p.tables e below (T8.setTop (mkF m 15 #[.val (.int cx), .val (.ref w_ALL), .val (.int (5 : Int32)), .val (.int (3 : Int32)), .val (.ref w_BIGINT)] [(.ref w_ALL)])) _
    refine XS.iloadN X8.here hx rfl (hb hby d1_15) rfl ?_
    show Steps p.tables e below (T8.setTop (mkF m 16 #[.val (.int cx), .val (.ref w_ALL), .val (.int (5 : Int32)), .val (.int (3 : Int32)), .val (.ref w_BIGINT)] [(.int (3 : Int32)), (.ref w_ALL)])) _
    refine X8.aaload hx (j := (3 : Int32)) (v := (.ref w_DOUBLE)) (by rw [e8]; exact Ar9.1) (State.isArrayOf_alike hZ.alike Ar9.2.1) rfl Ar9.2.2 hin9 hat9 (g := (mkF m 16 #[.val (.int cx), .val (.ref w_ALL), .val (.int (5 : Int32)), .val (.int (3 : Int32)), .val (.ref w_BIGINT)] [(.int (3 : Int32)), (.ref w_ALL)])) rfl rfl (hb hby d1_16) _ ?_
    show Steps p.tables e below (T8.setTop (mkF m 17 #[.val (.int cx), .val (.ref w_ALL), .val (.int (5 : Int32)), .val (.int (3 : Int32)), .val (.ref w_BIGINT)] [(.ref w_DOUBLE)])) _
    refine XS.astore X8.here hx rfl (hb hby d1_17) rfl rfl (l' := #[.val (.int cx), .val (.ref w_ALL), .val (.int (5 : Int32)), .val (.int (3 : Int32)), .val (.ref w_DOUBLE)]) rfl ?_
    show Steps p.tables e below (T8.setTop (mkF m 19 #[.val (.int cx), .val (.ref w_ALL), .val (.int (5 : Int32)), .val (.int (3 : Int32)), .val (.ref w_DOUBLE)] [])) _
    refine XS.aload X8.here hx rfl (hb hby d1_19) rfl rfl ?_
    show Steps p.tables e below (T8.setTop (mkF m 21 #[.val (.int cx), .val (.ref w_ALL), .val (.int (5 : Int32)), .val (.int (3 : Int32)), .val (.ref w_DOUBLE)] [(.ref w_DOUBLE)])) _
    refine st10 _ ?_
    show Steps p.tables e below (T10.setTop (mkF m 24 #[.val (.int cx), .val (.ref w_ALL), .val (.int (5 : Int32)), .val (.int (3 : Int32)), .val (.ref w_DOUBLE)] [(.int (4 : Int32))])) _
    refine XS.iloadN X10.here hx rfl (hb hby d1_24) rfl ?_
    show Steps p.tables e below (T10.setTop (mkF m 25 #[.val (.int cx), .val (.ref w_ALL), .val (.int (5 : Int32)), .val (.int (3 : Int32)), .val (.ref w_DOUBLE)] [(.int cx), (.int (4 : Int32))])) _
    refine XS.icmpYes X10.here hx rfl (pc0 := 25) (pc' := 31) rfl (hb hby d1_25) rfl (feq h4).2 (by decide) (by decide) ?_
    show Steps p.tables e below (T10.setTop (mkF m 31 #[.val (.int cx), .val (.ref w_ALL), .val (.int (5 : Int32)), .val (.int (3 : Int32)), .val (.ref w_DOUBLE)] [])) _
    refine XS.iinc X10.here hx rfl (hb hby d1_31) rfl (l' := #[.val (.int cx), .val (.ref w_ALL), .val (.int (5 : Int32)), .val (.int (4 : Int32)), .val (.ref w_DOUBLE)]) rfl ?_
    show Steps p.tables e below (T10.setTop (mkF m 34 #[.val (.int cx), .val (.ref w_ALL), .val (.int (5 : Int32)), .val (.int (4 : Int32)), .val (.ref w_DOUBLE)] [])) _
    refine XS.goto X10.here hx rfl (pc0 := 34) (pc' := 9) rfl (hb hby d1_34) (by decide) (by decide) ?_
    show Steps p.tables e below (T10.setTop (mkF m 9 #[.val (.int cx), .val (.ref w_ALL), .val (.int (5 : Int32)), .val (.int (4 : Int32)), .val (.ref w_DOUBLE)] [])) _
    refine XS.iloadN X10.here hx rfl (hb hby d1_9) rfl ?_
    show Steps p.tables e below (T10.setTop (mkF m 10 #[.val (.int cx), .val (.ref w_ALL), .val (.int (5 : Int32)), .val (.int (4 : Int32)), .val (.ref w_DOUBLE)] [(.int (4 : Int32))])) _
    refine XS.iloadN X10.here hx rfl (hb hby d1_10) rfl ?_
    show Steps p.tables e below (T10.setTop (mkF m 11 #[.val (.int cx), .val (.ref w_ALL), .val (.int (5 : Int32)), .val (.int (4 : Int32)), .val (.ref w_DOUBLE)] [(.int (5 : Int32)), (.int (4 : Int32))])) _
    refine XS.icmpNo X10.here hx rfl (hb hby d1_11) rfl (tlt (by decide : (4 : Int32) < (5 : Int32))).2.1 ?_
    show Steps p.tables e below (T10.setTop (mkF m 14 #[.val (.int cx), .val (.ref w_ALL), .val (.int (5 : Int32)), .val (.int (4 : Int32)), .val (.ref w_DOUBLE)] [])) _
    refine XS.aloadN X10.here hx rfl (hb hby d1_14) rfl rfl ?_
    show Steps p.tables e below (T10.setTop (mkF m 15 #[.val (.int cx), .val (.ref w_ALL), .val (.int (5 : Int32)), .val (.int (4 : Int32)), .val (.ref w_DOUBLE)] [(.ref w_ALL)])) _
    refine XS.iloadN X10.here hx rfl (hb hby d1_15) rfl ?_
    show Steps p.tables e below (T10.setTop (mkF m 16 #[.val (.int cx), .val (.ref w_ALL), .val (.int (5 : Int32)), .val (.int (4 : Int32)), .val (.ref w_DOUBLE)] [(.int (4 : Int32)), (.ref w_ALL)])) _
    refine X10.aaload hx (j := (4 : Int32)) (v := (.ref w_BOOLEAN)) (by rw [e10]; exact Ar11.1) (State.isArrayOf_alike hZ.alike Ar11.2.1) rfl Ar11.2.2 hin11 hat11 (g := (mkF m 16 #[.val (.int cx), .val (.ref w_ALL), .val (.int (5 : Int32)), .val (.int (4 : Int32)), .val (.ref w_DOUBLE)] [(.int (4 : Int32)), (.ref w_ALL)])) rfl rfl (hb hby d1_16) _ ?_
    show Steps p.tables e below (T10.setTop (mkF m 17 #[.val (.int cx), .val (.ref w_ALL), .val (.int (5 : Int32)), .val (.int (4 : Int32)), .val (.ref w_DOUBLE)] [(.ref w_BOOLEAN)])) _
    refine XS.astore X10.here hx rfl (hb hby d1_17) rfl rfl (l' := #[.val (.int cx), .val (.ref w_ALL), .val (.int (5 : Int32)), .val (.int (4 : Int32)), .val (.ref w_BOOLEAN)]) rfl ?_
    show Steps p.tables e below (T10.setTop (mkF m 19 #[.val (.int cx), .val (.ref w_ALL), .val (.int (5 : Int32)), .val (.int (4 : Int32)), .val (.ref w_BOOLEAN)] [])) _
    refine XS.aload X10.here hx rfl (hb hby d1_19) rfl rfl ?_
    show Steps p.tables e below (T10.setTop (mkF m 21 #[.val (.int cx), .val (.ref w_ALL), .val (.int (5 : Int32)), .val (.int (4 : Int32)), .val (.ref w_BOOLEAN)] [(.ref w_BOOLEAN)])) _
    refine st12 _ ?_
    show Steps p.tables e below (T12.setTop (mkF m 24 #[.val (.int cx), .val (.ref w_ALL), .val (.int (5 : Int32)), .val (.int (4 : Int32)), .val (.ref w_BOOLEAN)] [(.int (5 : Int32))])) _
    refine XS.iloadN X12.here hx rfl (hb hby d1_24) rfl ?_
    show Steps p.tables e below (T12.setTop (mkF m 25 #[.val (.int cx), .val (.ref w_ALL), .val (.int (5 : Int32)), .val (.int (4 : Int32)), .val (.ref w_BOOLEAN)] [(.int cx), (.int (5 : Int32))])) _
    refine XS.icmpYes X12.here hx rfl (pc0 := 25) (pc' := 31) rfl (hb hby d1_25) rfl (feq h5).2 (by decide) (by decide) ?_
    show Steps p.tables e below (T12.setTop (mkF m 31 #[.val (.int cx), .val (.ref w_ALL), .val (.int (5 : Int32)), .val (.int (4 : Int32)), .val (.ref w_BOOLEAN)] [])) _
    refine XS.iinc X12.here hx rfl (hb hby d1_31) rfl (l' := #[.val (.int cx), .val (.ref w_ALL), .val (.int (5 : Int32)), .val (.int (5 : Int32)), .val (.ref w_BOOLEAN)]) rfl ?_
    show Steps p.tables e below (T12.setTop (mkF m 34 #[.val (.int cx), .val (.ref w_ALL), .val (.int (5 : Int32)), .val (.int (5 : Int32)), .val (.ref w_BOOLEAN)] [])) _
    refine XS.goto X12.here hx rfl (pc0 := 34) (pc' := 9) rfl (hb hby d1_34) (by decide) (by decide) ?_
    show Steps p.tables e below (T12.setTop (mkF m 9 #[.val (.int cx), .val (.ref w_ALL), .val (.int (5 : Int32)), .val (.int (5 : Int32)), .val (.ref w_BOOLEAN)] [])) _
    refine XS.iloadN X12.here hx rfl (hb hby d1_9) rfl ?_
    show Steps p.tables e below (T12.setTop (mkF m 10 #[.val (.int cx), .val (.ref w_ALL), .val (.int (5 : Int32)), .val (.int (5 : Int32)), .val (.ref w_BOOLEAN)] [(.int (5 : Int32))])) _
    refine XS.iloadN X12.here hx rfl (hb hby d1_10) rfl ?_
    show Steps p.tables e below (T12.setTop (mkF m 11 #[.val (.int cx), .val (.ref w_ALL), .val (.int (5 : Int32)), .val (.int (5 : Int32)), .val (.ref w_BOOLEAN)] [(.int (5 : Int32)), (.int (5 : Int32))])) _
    refine XS.icmpYes X12.here hx rfl (pc0 := 11) (pc' := 37) rfl (hb hby d1_11) rfl (flt (by decide : ¬ ((5 : Int32) < (5 : Int32)))).2.1 (by decide) (by decide) ?_
    show Steps p.tables e below (T12.setTop (mkF m 37 #[.val (.int cx), .val (.ref w_ALL), .val (.int (5 : Int32)), .val (.int (5 : Int32)), .val (.ref w_BOOLEAN)] [])) _
    refine XS.aconstNull X12.here hx rfl (hb hby d1_37) ?_
    show Steps p.tables e below (T12.setTop (mkF m 38 #[.val (.int cx), .val (.ref w_ALL), .val (.int (5 : Int32)), .val (.int (5 : Int32)), .val (.ref w_BOOLEAN)] [.null])) _
    exact retOut X12 hx Bd.returns rfl (Or.inr (Or.inr (Or.inr (Or.inr ⟨rfl, rfl, rfl⟩)))) (hb hby d1_38) hr
  · exact ⟨rfl, N0, e12⟩
theorem rm1 (l : Launch) (Z : State) (a0 : Array Value) (hw : ∀ d ∈ tables_1, d.before a0 Z = true) (ws : List Jvm.Cond) (n0 : Nat) (h0 : Heap) (O : Old Z n0 h0) (w_ALL : Addr) (w_STRING : Addr) (w_INT : Addr) (w_BIGINT : Addr) (w_DOUBLE : Addr) (w_BOOLEAN : Addr) (k_w_ALL : ClassId) (W : OwW Z w_ALL w_STRING w_INT w_BIGINT w_DOUBLE w_BOOLEAN k_w_ALL) (c : Int32) :
    OwCon l (⟨"com/example/lamina/lamina/engine/ColumnType", "ofCode", "(I)Lcom/example/lamina/lamina/engine/ColumnType;"⟩ : MethodName) prog_7_method_7_code 5 (some (.object "com/example/lamina/lamina/engine/ColumnType")) ws ({ frames := 0, cells := 0, slots := 0, locals := 0 } : Room) #[.int c] Z h0 (OwQ (some (owF w_STRING w_INT w_BIGINT w_DOUBLE w_BOOLEAN c)) h0 n0) := by
  by_cases h1 : (1 : Int32) = c
  · subst h1; rw [owF_1]; exact rm1_1 l Z a0 hw ws n0 h0 O w_ALL w_STRING w_INT w_BIGINT w_DOUBLE w_BOOLEAN k_w_ALL W
  by_cases h2 : (2 : Int32) = c
  · subst h2; rw [owF_2]; exact rm1_2 l Z a0 hw ws n0 h0 O w_ALL w_STRING w_INT w_BIGINT w_DOUBLE w_BOOLEAN k_w_ALL W
  by_cases h3 : (3 : Int32) = c
  · subst h3; rw [owF_3]; exact rm1_3 l Z a0 hw ws n0 h0 O w_ALL w_STRING w_INT w_BIGINT w_DOUBLE w_BOOLEAN k_w_ALL W
  by_cases h4 : (4 : Int32) = c
  · subst h4; rw [owF_4]; exact rm1_4 l Z a0 hw ws n0 h0 O w_ALL w_STRING w_INT w_BIGINT w_DOUBLE w_BOOLEAN k_w_ALL W
  by_cases h5 : (5 : Int32) = c
  · subst h5; rw [owF_5]; exact rm1_5 l Z a0 hw ws n0 h0 O w_ALL w_STRING w_INT w_BIGINT w_DOUBLE w_BOOLEAN k_w_ALL W
  rw [owF_o w_STRING w_INT w_BIGINT w_DOUBLE w_BOOLEAN h1 h2 h3 h4 h5]; exact rm1_o l Z a0 hw ws n0 h0 O w_ALL w_STRING w_INT w_BIGINT w_DOUBLE w_BOOLEAN k_w_ALL W c h1 h2 h3 h4 h5

set_option maxRecDepth 65536 in
set_option maxHeartbeats 40000000 in
theorem rm2_1 (l : Launch) (Z : State) (a0 : Array Value) (hw : ∀ d ∈ tables_1, d.before a0 Z = true) (ws : List Jvm.Cond) (n0 : Nat) (h0 : Heap) (O : Old Z n0 h0) (w_ALL : Addr) (w_STRING : Addr) (w_INT : Addr) (w_BIGINT : Addr) (w_DOUBLE : Addr) (w_BOOLEAN : Addr) (k_w_ALL : ClassId) (W : OwW Z w_ALL w_STRING w_INT w_BIGINT w_DOUBLE w_BOOLEAN k_w_ALL)  :
    OwCon l (⟨"com/example/lamina/lamina/engine/ColumnTypeOfCodePinLaw", "expected", "(I)Lcom/example/lamina/lamina/engine/ColumnType;"⟩ : MethodName) method_2_code 1 (some (.object "com/example/lamina/lamina/engine/ColumnType")) ws ({ frames := 0, cells := 0, slots := 0, locals := 0 } : Room) #[(.int (1 : Int32))] Z h0 (OwQ (some (.ref w_STRING)) h0 n0) := by
  refine MetFree.of_bodySF (plainFor_of_name owpn2) hisR ?_
  intro p e s m args below meth c s₁ Bd hml0 hP hK
  obtain ⟨rfl, hZ, hh⟩ := hP
  have hx := Bd.exec
  have hby := Bd.bytes
  have hml : c.maxLocals = 1 := hml0
  have hown : s.vm.findClass "com/example/lamina/lamina/engine/ColumnTypeOfCodePinLaw" = some m.cls := findClass_of_methodNamed Bd.named
  have hnm := (name_of_methodNamed Bd.named Bd.method).1
  have X0 : Stand p l e ({ frames := 0, cells := 0, slots := 0, locals := 0 } : Room) s m #[(.int (1 : Int32))] below meth c s₁ [] 0 0 := Stand.of_body Bd
  have e0 : s₁.heap = h0 := by rw [← hh, Bd.state]; rfl
  have N0 := Fr.nil n0
  have WW := W
  obtain ⟨E_w_STRING, E_w_INT, E_w_BIGINT, E_w_DOUBLE, E_w_BOOLEAN, S_ColumnType_ALL, S_ColumnType_STRING, F_w_STRING_code, S_ColumnType_INT, F_w_INT_code, S_ColumnType_BIGINT, F_w_BIGINT_code, S_ColumnType_DOUBLE, F_w_DOUBLE_code, S_ColumnType_BOOLEAN, F_w_BOOLEAN_code, V_w_ALL, -⟩ := WW
  have ef : entryFrame m #[(.int (1 : Int32))] 1 = mkF m 0 #[.val (.int (1 : Int32))] [] := by first | rfl | (simp [entryFrame, mkF, argsToLocals, Value.category]; done)
  have pre0 : ∀ t, Steps p.tables e below (s₁.setTop (mkF m 0 #[.val (.int (1 : Int32))] [])) t → Steps p.tables e below (s₁.setTop (entryFrame m #[(.int (1 : Int32))] 1)) t := fun t k => castTop ef k
  obtain ⟨T1, X1, e1, st1⟩ := getS2 X0 hx hZ hown (host := "") (Or.inl (hw _ (List.mem_of_getElem? (i := 21) rfl))) Via.refl e0 (S_ColumnType_STRING.ext O.2) (g := (mkF m 5 #[.val (.int (1 : Int32))] [])) rfl (hb hby d2_5)
  obtain ⟨fs, hr, hrun, hended, hW, hsame⟩ := X1.leave (v := some (.ref w_STRING)) (fun h => by rw [Bd.returns] at h; cases h)
  refine ⟨_, _, pre0 _ ?_, hrun, hended, _, _, rfl, ?_, ⟨_, rfl⟩, hW, hsame.mono (by decide) (by decide)⟩
  · show Steps p.tables e below (s₁.setTop (mkF m 0 #[.val (.int (1 : Int32))] [])) _
    refine XS.iloadN X0.here hx rfl (hb hby d2_0) rfl ?_
    show Steps p.tables e below (s₁.setTop (mkF m 1 #[.val (.int (1 : Int32))] [(.int (1 : Int32))])) _
    refine XS.iconst X0.here hx rfl (hb hby d2_1) ?_
    show Steps p.tables e below (s₁.setTop (mkF m 2 #[.val (.int (1 : Int32))] [(.int (1 : Int32)), (.int (1 : Int32))])) _
    refine XS.icmpNo X0.here hx rfl (hb hby d2_2) rfl (teq (by decide : (1 : Int32) = (1 : Int32))).2 ?_
    show Steps p.tables e below (s₁.setTop (mkF m 5 #[.val (.int (1 : Int32))] [])) _
    refine st1 _ ?_
    show Steps p.tables e below (T1.setTop (mkF m 8 #[.val (.int (1 : Int32))] [(.ref w_STRING)])) _
    exact retOut X1 hx Bd.returns rfl (Or.inr (Or.inr (Or.inr (Or.inr ⟨rfl, rfl, rfl⟩)))) (hb hby d2_8) hr
  · exact ⟨rfl, N0, e1⟩
set_option maxRecDepth 65536 in
set_option maxHeartbeats 40000000 in
theorem rm2_2 (l : Launch) (Z : State) (a0 : Array Value) (hw : ∀ d ∈ tables_1, d.before a0 Z = true) (ws : List Jvm.Cond) (n0 : Nat) (h0 : Heap) (O : Old Z n0 h0) (w_ALL : Addr) (w_STRING : Addr) (w_INT : Addr) (w_BIGINT : Addr) (w_DOUBLE : Addr) (w_BOOLEAN : Addr) (k_w_ALL : ClassId) (W : OwW Z w_ALL w_STRING w_INT w_BIGINT w_DOUBLE w_BOOLEAN k_w_ALL)  :
    OwCon l (⟨"com/example/lamina/lamina/engine/ColumnTypeOfCodePinLaw", "expected", "(I)Lcom/example/lamina/lamina/engine/ColumnType;"⟩ : MethodName) method_2_code 1 (some (.object "com/example/lamina/lamina/engine/ColumnType")) ws ({ frames := 0, cells := 0, slots := 0, locals := 0 } : Room) #[(.int (2 : Int32))] Z h0 (OwQ (some (.ref w_INT)) h0 n0) := by
  refine MetFree.of_bodySF (plainFor_of_name owpn2) hisR ?_
  intro p e s m args below meth c s₁ Bd hml0 hP hK
  obtain ⟨rfl, hZ, hh⟩ := hP
  have hx := Bd.exec
  have hby := Bd.bytes
  have hml : c.maxLocals = 1 := hml0
  have hown : s.vm.findClass "com/example/lamina/lamina/engine/ColumnTypeOfCodePinLaw" = some m.cls := findClass_of_methodNamed Bd.named
  have hnm := (name_of_methodNamed Bd.named Bd.method).1
  have X0 : Stand p l e ({ frames := 0, cells := 0, slots := 0, locals := 0 } : Room) s m #[(.int (2 : Int32))] below meth c s₁ [] 0 0 := Stand.of_body Bd
  have e0 : s₁.heap = h0 := by rw [← hh, Bd.state]; rfl
  have N0 := Fr.nil n0
  have WW := W
  obtain ⟨E_w_STRING, E_w_INT, E_w_BIGINT, E_w_DOUBLE, E_w_BOOLEAN, S_ColumnType_ALL, S_ColumnType_STRING, F_w_STRING_code, S_ColumnType_INT, F_w_INT_code, S_ColumnType_BIGINT, F_w_BIGINT_code, S_ColumnType_DOUBLE, F_w_DOUBLE_code, S_ColumnType_BOOLEAN, F_w_BOOLEAN_code, V_w_ALL, -⟩ := WW
  have ef : entryFrame m #[(.int (2 : Int32))] 1 = mkF m 0 #[.val (.int (2 : Int32))] [] := by first | rfl | (simp [entryFrame, mkF, argsToLocals, Value.category]; done)
  have pre0 : ∀ t, Steps p.tables e below (s₁.setTop (mkF m 0 #[.val (.int (2 : Int32))] [])) t → Steps p.tables e below (s₁.setTop (entryFrame m #[(.int (2 : Int32))] 1)) t := fun t k => castTop ef k
  obtain ⟨T1, X1, e1, st1⟩ := getS2 X0 hx hZ hown (host := "") (Or.inl (hw _ (List.mem_of_getElem? (i := 17) rfl))) Via.refl e0 (S_ColumnType_INT.ext O.2) (g := (mkF m 14 #[.val (.int (2 : Int32))] [])) rfl (hb hby d2_14)
  obtain ⟨fs, hr, hrun, hended, hW, hsame⟩ := X1.leave (v := some (.ref w_INT)) (fun h => by rw [Bd.returns] at h; cases h)
  refine ⟨_, _, pre0 _ ?_, hrun, hended, _, _, rfl, ?_, ⟨_, rfl⟩, hW, hsame.mono (by decide) (by decide)⟩
  · show Steps p.tables e below (s₁.setTop (mkF m 0 #[.val (.int (2 : Int32))] [])) _
    refine XS.iloadN X0.here hx rfl (hb hby d2_0) rfl ?_
    show Steps p.tables e below (s₁.setTop (mkF m 1 #[.val (.int (2 : Int32))] [(.int (2 : Int32))])) _
    refine XS.iconst X0.here hx rfl (hb hby d2_1) ?_
    show Steps p.tables e below (s₁.setTop (mkF m 2 #[.val (.int (2 : Int32))] [(.int (1 : Int32)), (.int (2 : Int32))])) _
    refine XS.icmpYes X0.here hx rfl (pc0 := 2) (pc' := 9) rfl (hb hby d2_2) rfl (feq (by decide : ¬ ((2 : Int32) = (1 : Int32)))).2 (by decide) (by decide) ?_
    show Steps p.tables e below (s₁.setTop (mkF m 9 #[.val (.int (2 : Int32))] [])) _
    refine XS.iloadN X0.here hx rfl (hb hby d2_9) rfl ?_
    show Steps p.tables e below (s₁.setTop (mkF m 10 #[.val (.int (2 : Int32))] [(.int (2 : Int32))])) _
    refine XS.iconst X0.here hx rfl (hb hby d2_10) ?_
    show Steps p.tables e below (s₁.setTop (mkF m 11 #[.val (.int (2 : Int32))] [(.int (2 : Int32)), (.int (2 : Int32))])) _
    refine XS.icmpNo X0.here hx rfl (hb hby d2_11) rfl (teq (by decide : (2 : Int32) = (2 : Int32))).2 ?_
    show Steps p.tables e below (s₁.setTop (mkF m 14 #[.val (.int (2 : Int32))] [])) _
    refine st1 _ ?_
    show Steps p.tables e below (T1.setTop (mkF m 17 #[.val (.int (2 : Int32))] [(.ref w_INT)])) _
    exact retOut X1 hx Bd.returns rfl (Or.inr (Or.inr (Or.inr (Or.inr ⟨rfl, rfl, rfl⟩)))) (hb hby d2_17) hr
  · exact ⟨rfl, N0, e1⟩
set_option maxRecDepth 65536 in
set_option maxHeartbeats 40000000 in
theorem rm2_3 (l : Launch) (Z : State) (a0 : Array Value) (hw : ∀ d ∈ tables_1, d.before a0 Z = true) (ws : List Jvm.Cond) (n0 : Nat) (h0 : Heap) (O : Old Z n0 h0) (w_ALL : Addr) (w_STRING : Addr) (w_INT : Addr) (w_BIGINT : Addr) (w_DOUBLE : Addr) (w_BOOLEAN : Addr) (k_w_ALL : ClassId) (W : OwW Z w_ALL w_STRING w_INT w_BIGINT w_DOUBLE w_BOOLEAN k_w_ALL)  :
    OwCon l (⟨"com/example/lamina/lamina/engine/ColumnTypeOfCodePinLaw", "expected", "(I)Lcom/example/lamina/lamina/engine/ColumnType;"⟩ : MethodName) method_2_code 1 (some (.object "com/example/lamina/lamina/engine/ColumnType")) ws ({ frames := 0, cells := 0, slots := 0, locals := 0 } : Room) #[(.int (3 : Int32))] Z h0 (OwQ (some (.ref w_BIGINT)) h0 n0) := by
  refine MetFree.of_bodySF (plainFor_of_name owpn2) hisR ?_
  intro p e s m args below meth c s₁ Bd hml0 hP hK
  obtain ⟨rfl, hZ, hh⟩ := hP
  have hx := Bd.exec
  have hby := Bd.bytes
  have hml : c.maxLocals = 1 := hml0
  have hown : s.vm.findClass "com/example/lamina/lamina/engine/ColumnTypeOfCodePinLaw" = some m.cls := findClass_of_methodNamed Bd.named
  have hnm := (name_of_methodNamed Bd.named Bd.method).1
  have X0 : Stand p l e ({ frames := 0, cells := 0, slots := 0, locals := 0 } : Room) s m #[(.int (3 : Int32))] below meth c s₁ [] 0 0 := Stand.of_body Bd
  have e0 : s₁.heap = h0 := by rw [← hh, Bd.state]; rfl
  have N0 := Fr.nil n0
  have WW := W
  obtain ⟨E_w_STRING, E_w_INT, E_w_BIGINT, E_w_DOUBLE, E_w_BOOLEAN, S_ColumnType_ALL, S_ColumnType_STRING, F_w_STRING_code, S_ColumnType_INT, F_w_INT_code, S_ColumnType_BIGINT, F_w_BIGINT_code, S_ColumnType_DOUBLE, F_w_DOUBLE_code, S_ColumnType_BOOLEAN, F_w_BOOLEAN_code, V_w_ALL, -⟩ := WW
  have ef : entryFrame m #[(.int (3 : Int32))] 1 = mkF m 0 #[.val (.int (3 : Int32))] [] := by first | rfl | (simp [entryFrame, mkF, argsToLocals, Value.category]; done)
  have pre0 : ∀ t, Steps p.tables e below (s₁.setTop (mkF m 0 #[.val (.int (3 : Int32))] [])) t → Steps p.tables e below (s₁.setTop (entryFrame m #[(.int (3 : Int32))] 1)) t := fun t k => castTop ef k
  obtain ⟨T1, X1, e1, st1⟩ := getS2 X0 hx hZ hown (host := "") (Or.inl (hw _ (List.mem_of_getElem? (i := 18) rfl))) Via.refl e0 (S_ColumnType_BIGINT.ext O.2) (g := (mkF m 23 #[.val (.int (3 : Int32))] [])) rfl (hb hby d2_23)
  obtain ⟨fs, hr, hrun, hended, hW, hsame⟩ := X1.leave (v := some (.ref w_BIGINT)) (fun h => by rw [Bd.returns] at h; cases h)
  refine ⟨_, _, pre0 _ ?_, hrun, hended, _, _, rfl, ?_, ⟨_, rfl⟩, hW, hsame.mono (by decide) (by decide)⟩
  · show Steps p.tables e below (s₁.setTop (mkF m 0 #[.val (.int (3 : Int32))] [])) _
    refine XS.iloadN X0.here hx rfl (hb hby d2_0) rfl ?_
    show Steps p.tables e below (s₁.setTop (mkF m 1 #[.val (.int (3 : Int32))] [(.int (3 : Int32))])) _
    refine XS.iconst X0.here hx rfl (hb hby d2_1) ?_
    show Steps p.tables e below (s₁.setTop (mkF m 2 #[.val (.int (3 : Int32))] [(.int (1 : Int32)), (.int (3 : Int32))])) _
    refine XS.icmpYes X0.here hx rfl (pc0 := 2) (pc' := 9) rfl (hb hby d2_2) rfl (feq (by decide : ¬ ((3 : Int32) = (1 : Int32)))).2 (by decide) (by decide) ?_
    show Steps p.tables e below (s₁.setTop (mkF m 9 #[.val (.int (3 : Int32))] [])) _
    refine XS.iloadN X0.here hx rfl (hb hby d2_9) rfl ?_
    show Steps p.tables e below (s₁.setTop (mkF m 10 #[.val (.int (3 : Int32))] [(.int (3 : Int32))])) _
    refine XS.iconst X0.here hx rfl (hb hby d2_10) ?_
    show Steps p.tables e below (s₁.setTop (mkF m 11 #[.val (.int (3 : Int32))] [(.int (2 : Int32)), (.int (3 : Int32))])) _
    refine XS.icmpYes X0.here hx rfl (pc0 := 11) (pc' := 18) rfl (hb hby d2_11) rfl (feq (by decide : ¬ ((3 : Int32) = (2 : Int32)))).2 (by decide) (by decide) ?_
    show Steps p.tables e below (s₁.setTop (mkF m 18 #[.val (.int (3 : Int32))] [])) _
    refine XS.iloadN X0.here hx rfl (hb hby d2_18) rfl ?_
    show Steps p.tables e below (s₁.setTop (mkF m 19 #[.val (.int (3 : Int32))] [(.int (3 : Int32))])) _
    refine XS.iconst X0.here hx rfl (hb hby d2_19) ?_
    show Steps p.tables e below (s₁.setTop (mkF m 20 #[.val (.int (3 : Int32))] [(.int (3 : Int32)), (.int (3 : Int32))])) _
    refine XS.icmpNo X0.here hx rfl (hb hby d2_20) rfl (teq (by decide : (3 : Int32) = (3 : Int32))).2 ?_
    show Steps p.tables e below (s₁.setTop (mkF m 23 #[.val (.int (3 : Int32))] [])) _
    refine st1 _ ?_
    show Steps p.tables e below (T1.setTop (mkF m 26 #[.val (.int (3 : Int32))] [(.ref w_BIGINT)])) _
    exact retOut X1 hx Bd.returns rfl (Or.inr (Or.inr (Or.inr (Or.inr ⟨rfl, rfl, rfl⟩)))) (hb hby d2_26) hr
  · exact ⟨rfl, N0, e1⟩
set_option maxRecDepth 65536 in
set_option maxHeartbeats 40000000 in
theorem rm2_4 (l : Launch) (Z : State) (a0 : Array Value) (hw : ∀ d ∈ tables_1, d.before a0 Z = true) (ws : List Jvm.Cond) (n0 : Nat) (h0 : Heap) (O : Old Z n0 h0) (w_ALL : Addr) (w_STRING : Addr) (w_INT : Addr) (w_BIGINT : Addr) (w_DOUBLE : Addr) (w_BOOLEAN : Addr) (k_w_ALL : ClassId) (W : OwW Z w_ALL w_STRING w_INT w_BIGINT w_DOUBLE w_BOOLEAN k_w_ALL)  :
    OwCon l (⟨"com/example/lamina/lamina/engine/ColumnTypeOfCodePinLaw", "expected", "(I)Lcom/example/lamina/lamina/engine/ColumnType;"⟩ : MethodName) method_2_code 1 (some (.object "com/example/lamina/lamina/engine/ColumnType")) ws ({ frames := 0, cells := 0, slots := 0, locals := 0 } : Room) #[(.int (4 : Int32))] Z h0 (OwQ (some (.ref w_DOUBLE)) h0 n0) := by
  refine MetFree.of_bodySF (plainFor_of_name owpn2) hisR ?_
  intro p e s m args below meth c s₁ Bd hml0 hP hK
  obtain ⟨rfl, hZ, hh⟩ := hP
  have hx := Bd.exec
  have hby := Bd.bytes
  have hml : c.maxLocals = 1 := hml0
  have hown : s.vm.findClass "com/example/lamina/lamina/engine/ColumnTypeOfCodePinLaw" = some m.cls := findClass_of_methodNamed Bd.named
  have hnm := (name_of_methodNamed Bd.named Bd.method).1
  have X0 : Stand p l e ({ frames := 0, cells := 0, slots := 0, locals := 0 } : Room) s m #[(.int (4 : Int32))] below meth c s₁ [] 0 0 := Stand.of_body Bd
  have e0 : s₁.heap = h0 := by rw [← hh, Bd.state]; rfl
  have N0 := Fr.nil n0
  have WW := W
  obtain ⟨E_w_STRING, E_w_INT, E_w_BIGINT, E_w_DOUBLE, E_w_BOOLEAN, S_ColumnType_ALL, S_ColumnType_STRING, F_w_STRING_code, S_ColumnType_INT, F_w_INT_code, S_ColumnType_BIGINT, F_w_BIGINT_code, S_ColumnType_DOUBLE, F_w_DOUBLE_code, S_ColumnType_BOOLEAN, F_w_BOOLEAN_code, V_w_ALL, -⟩ := WW
  have ef : entryFrame m #[(.int (4 : Int32))] 1 = mkF m 0 #[.val (.int (4 : Int32))] [] := by first | rfl | (simp [entryFrame, mkF, argsToLocals, Value.category]; done)
  have pre0 : ∀ t, Steps p.tables e below (s₁.setTop (mkF m 0 #[.val (.int (4 : Int32))] [])) t → Steps p.tables e below (s₁.setTop (entryFrame m #[(.int (4 : Int32))] 1)) t := fun t k => castTop ef k
  obtain ⟨T1, X1, e1, st1⟩ := getS2 X0 hx hZ hown (host := "") (Or.inl (hw _ (List.mem_of_getElem? (i := 19) rfl))) Via.refl e0 (S_ColumnType_DOUBLE.ext O.2) (g := (mkF m 32 #[.val (.int (4 : Int32))] [])) rfl (hb hby d2_32)
  obtain ⟨fs, hr, hrun, hended, hW, hsame⟩ := X1.leave (v := some (.ref w_DOUBLE)) (fun h => by rw [Bd.returns] at h; cases h)
  refine ⟨_, _, pre0 _ ?_, hrun, hended, _, _, rfl, ?_, ⟨_, rfl⟩, hW, hsame.mono (by decide) (by decide)⟩
  · show Steps p.tables e below (s₁.setTop (mkF m 0 #[.val (.int (4 : Int32))] [])) _
    refine XS.iloadN X0.here hx rfl (hb hby d2_0) rfl ?_
    show Steps p.tables e below (s₁.setTop (mkF m 1 #[.val (.int (4 : Int32))] [(.int (4 : Int32))])) _
    refine XS.iconst X0.here hx rfl (hb hby d2_1) ?_
    show Steps p.tables e below (s₁.setTop (mkF m 2 #[.val (.int (4 : Int32))] [(.int (1 : Int32)), (.int (4 : Int32))])) _
    refine XS.icmpYes X0.here hx rfl (pc0 := 2) (pc' := 9) rfl (hb hby d2_2) rfl (feq (by decide : ¬ ((4 : Int32) = (1 : Int32)))).2 (by decide) (by decide) ?_
    show Steps p.tables e below (s₁.setTop (mkF m 9 #[.val (.int (4 : Int32))] [])) _
    refine XS.iloadN X0.here hx rfl (hb hby d2_9) rfl ?_
    show Steps p.tables e below (s₁.setTop (mkF m 10 #[.val (.int (4 : Int32))] [(.int (4 : Int32))])) _
    refine XS.iconst X0.here hx rfl (hb hby d2_10) ?_
    show Steps p.tables e below (s₁.setTop (mkF m 11 #[.val (.int (4 : Int32))] [(.int (2 : Int32)), (.int (4 : Int32))])) _
    refine XS.icmpYes X0.here hx rfl (pc0 := 11) (pc' := 18) rfl (hb hby d2_11) rfl (feq (by decide : ¬ ((4 : Int32) = (2 : Int32)))).2 (by decide) (by decide) ?_
    show Steps p.tables e below (s₁.setTop (mkF m 18 #[.val (.int (4 : Int32))] [])) _
    refine XS.iloadN X0.here hx rfl (hb hby d2_18) rfl ?_
    show Steps p.tables e below (s₁.setTop (mkF m 19 #[.val (.int (4 : Int32))] [(.int (4 : Int32))])) _
    refine XS.iconst X0.here hx rfl (hb hby d2_19) ?_
    show Steps p.tables e below (s₁.setTop (mkF m 20 #[.val (.int (4 : Int32))] [(.int (3 : Int32)), (.int (4 : Int32))])) _
    refine XS.icmpYes X0.here hx rfl (pc0 := 20) (pc' := 27) rfl (hb hby d2_20) rfl (feq (by decide : ¬ ((4 : Int32) = (3 : Int32)))).2 (by decide) (by decide) ?_
    show Steps p.tables e below (s₁.setTop (mkF m 27 #[.val (.int (4 : Int32))] [])) _
    refine XS.iloadN X0.here hx rfl (hb hby d2_27) rfl ?_
    show Steps p.tables e below (s₁.setTop (mkF m 28 #[.val (.int (4 : Int32))] [(.int (4 : Int32))])) _
    refine XS.iconst X0.here hx rfl (hb hby d2_28) ?_
    show Steps p.tables e below (s₁.setTop (mkF m 29 #[.val (.int (4 : Int32))] [(.int (4 : Int32)), (.int (4 : Int32))])) _
    refine XS.icmpNo X0.here hx rfl (hb hby d2_29) rfl (teq (by decide : (4 : Int32) = (4 : Int32))).2 ?_
    show Steps p.tables e below (s₁.setTop (mkF m 32 #[.val (.int (4 : Int32))] [])) _
    refine st1 _ ?_
    show Steps p.tables e below (T1.setTop (mkF m 35 #[.val (.int (4 : Int32))] [(.ref w_DOUBLE)])) _
    exact retOut X1 hx Bd.returns rfl (Or.inr (Or.inr (Or.inr (Or.inr ⟨rfl, rfl, rfl⟩)))) (hb hby d2_35) hr
  · exact ⟨rfl, N0, e1⟩
set_option maxRecDepth 65536 in
set_option maxHeartbeats 40000000 in
theorem rm2_5 (l : Launch) (Z : State) (a0 : Array Value) (hw : ∀ d ∈ tables_1, d.before a0 Z = true) (ws : List Jvm.Cond) (n0 : Nat) (h0 : Heap) (O : Old Z n0 h0) (w_ALL : Addr) (w_STRING : Addr) (w_INT : Addr) (w_BIGINT : Addr) (w_DOUBLE : Addr) (w_BOOLEAN : Addr) (k_w_ALL : ClassId) (W : OwW Z w_ALL w_STRING w_INT w_BIGINT w_DOUBLE w_BOOLEAN k_w_ALL)  :
    OwCon l (⟨"com/example/lamina/lamina/engine/ColumnTypeOfCodePinLaw", "expected", "(I)Lcom/example/lamina/lamina/engine/ColumnType;"⟩ : MethodName) method_2_code 1 (some (.object "com/example/lamina/lamina/engine/ColumnType")) ws ({ frames := 0, cells := 0, slots := 0, locals := 0 } : Room) #[(.int (5 : Int32))] Z h0 (OwQ (some (.ref w_BOOLEAN)) h0 n0) := by
  refine MetFree.of_bodySF (plainFor_of_name owpn2) hisR ?_
  intro p e s m args below meth c s₁ Bd hml0 hP hK
  obtain ⟨rfl, hZ, hh⟩ := hP
  have hx := Bd.exec
  have hby := Bd.bytes
  have hml : c.maxLocals = 1 := hml0
  have hown : s.vm.findClass "com/example/lamina/lamina/engine/ColumnTypeOfCodePinLaw" = some m.cls := findClass_of_methodNamed Bd.named
  have hnm := (name_of_methodNamed Bd.named Bd.method).1
  have X0 : Stand p l e ({ frames := 0, cells := 0, slots := 0, locals := 0 } : Room) s m #[(.int (5 : Int32))] below meth c s₁ [] 0 0 := Stand.of_body Bd
  have e0 : s₁.heap = h0 := by rw [← hh, Bd.state]; rfl
  have N0 := Fr.nil n0
  have WW := W
  obtain ⟨E_w_STRING, E_w_INT, E_w_BIGINT, E_w_DOUBLE, E_w_BOOLEAN, S_ColumnType_ALL, S_ColumnType_STRING, F_w_STRING_code, S_ColumnType_INT, F_w_INT_code, S_ColumnType_BIGINT, F_w_BIGINT_code, S_ColumnType_DOUBLE, F_w_DOUBLE_code, S_ColumnType_BOOLEAN, F_w_BOOLEAN_code, V_w_ALL, -⟩ := WW
  have ef : entryFrame m #[(.int (5 : Int32))] 1 = mkF m 0 #[.val (.int (5 : Int32))] [] := by first | rfl | (simp [entryFrame, mkF, argsToLocals, Value.category]; done)
  have pre0 : ∀ t, Steps p.tables e below (s₁.setTop (mkF m 0 #[.val (.int (5 : Int32))] [])) t → Steps p.tables e below (s₁.setTop (entryFrame m #[(.int (5 : Int32))] 1)) t := fun t k => castTop ef k
  obtain ⟨T1, X1, e1, st1⟩ := getS2 X0 hx hZ hown (host := "") (Or.inl (hw _ (List.mem_of_getElem? (i := 20) rfl))) Via.refl e0 (S_ColumnType_BOOLEAN.ext O.2) (g := (mkF m 41 #[.val (.int (5 : Int32))] [])) rfl (hb hby d2_41)
  obtain ⟨fs, hr, hrun, hended, hW, hsame⟩ := X1.leave (v := some (.ref w_BOOLEAN)) (fun h => by rw [Bd.returns] at h; cases h)
  refine ⟨_, _, pre0 _ ?_, hrun, hended, _, _, rfl, ?_, ⟨_, rfl⟩, hW, hsame.mono (by decide) (by decide)⟩
  · show Steps p.tables e below (s₁.setTop (mkF m 0 #[.val (.int (5 : Int32))] [])) _
    refine XS.iloadN X0.here hx rfl (hb hby d2_0) rfl ?_
    show Steps p.tables e below (s₁.setTop (mkF m 1 #[.val (.int (5 : Int32))] [(.int (5 : Int32))])) _
    refine XS.iconst X0.here hx rfl (hb hby d2_1) ?_
    show Steps p.tables e below (s₁.setTop (mkF m 2 #[.val (.int (5 : Int32))] [(.int (1 : Int32)), (.int (5 : Int32))])) _
    refine XS.icmpYes X0.here hx rfl (pc0 := 2) (pc' := 9) rfl (hb hby d2_2) rfl (feq (by decide : ¬ ((5 : Int32) = (1 : Int32)))).2 (by decide) (by decide) ?_
    show Steps p.tables e below (s₁.setTop (mkF m 9 #[.val (.int (5 : Int32))] [])) _
    refine XS.iloadN X0.here hx rfl (hb hby d2_9) rfl ?_
    show Steps p.tables e below (s₁.setTop (mkF m 10 #[.val (.int (5 : Int32))] [(.int (5 : Int32))])) _
    refine XS.iconst X0.here hx rfl (hb hby d2_10) ?_
    show Steps p.tables e below (s₁.setTop (mkF m 11 #[.val (.int (5 : Int32))] [(.int (2 : Int32)), (.int (5 : Int32))])) _
    refine XS.icmpYes X0.here hx rfl (pc0 := 11) (pc' := 18) rfl (hb hby d2_11) rfl (feq (by decide : ¬ ((5 : Int32) = (2 : Int32)))).2 (by decide) (by decide) ?_
    show Steps p.tables e below (s₁.setTop (mkF m 18 #[.val (.int (5 : Int32))] [])) _
    refine XS.iloadN X0.here hx rfl (hb hby d2_18) rfl ?_
    show Steps p.tables e below (s₁.setTop (mkF m 19 #[.val (.int (5 : Int32))] [(.int (5 : Int32))])) _
    refine XS.iconst X0.here hx rfl (hb hby d2_19) ?_
    show Steps p.tables e below (s₁.setTop (mkF m 20 #[.val (.int (5 : Int32))] [(.int (3 : Int32)), (.int (5 : Int32))])) _
    refine XS.icmpYes X0.here hx rfl (pc0 := 20) (pc' := 27) rfl (hb hby d2_20) rfl (feq (by decide : ¬ ((5 : Int32) = (3 : Int32)))).2 (by decide) (by decide) ?_
    show Steps p.tables e below (s₁.setTop (mkF m 27 #[.val (.int (5 : Int32))] [])) _
    refine XS.iloadN X0.here hx rfl (hb hby d2_27) rfl ?_
    show Steps p.tables e below (s₁.setTop (mkF m 28 #[.val (.int (5 : Int32))] [(.int (5 : Int32))])) _
    refine XS.iconst X0.here hx rfl (hb hby d2_28) ?_
    show Steps p.tables e below (s₁.setTop (mkF m 29 #[.val (.int (5 : Int32))] [(.int (4 : Int32)), (.int (5 : Int32))])) _
    refine XS.icmpYes X0.here hx rfl (pc0 := 29) (pc' := 36) rfl (hb hby d2_29) rfl (feq (by decide : ¬ ((5 : Int32) = (4 : Int32)))).2 (by decide) (by decide) ?_
    show Steps p.tables e below (s₁.setTop (mkF m 36 #[.val (.int (5 : Int32))] [])) _
    refine XS.iloadN X0.here hx rfl (hb hby d2_36) rfl ?_
    show Steps p.tables e below (s₁.setTop (mkF m 37 #[.val (.int (5 : Int32))] [(.int (5 : Int32))])) _
    refine XS.iconst X0.here hx rfl (hb hby d2_37) ?_
    show Steps p.tables e below (s₁.setTop (mkF m 38 #[.val (.int (5 : Int32))] [(.int (5 : Int32)), (.int (5 : Int32))])) _
    refine XS.icmpNo X0.here hx rfl (hb hby d2_38) rfl (teq (by decide : (5 : Int32) = (5 : Int32))).2 ?_
    show Steps p.tables e below (s₁.setTop (mkF m 41 #[.val (.int (5 : Int32))] [])) _
    refine st1 _ ?_
    show Steps p.tables e below (T1.setTop (mkF m 44 #[.val (.int (5 : Int32))] [(.ref w_BOOLEAN)])) _
    exact retOut X1 hx Bd.returns rfl (Or.inr (Or.inr (Or.inr (Or.inr ⟨rfl, rfl, rfl⟩)))) (hb hby d2_44) hr
  · exact ⟨rfl, N0, e1⟩
set_option maxRecDepth 65536 in
set_option maxHeartbeats 40000000 in
theorem rm2_o (l : Launch) (Z : State) (a0 : Array Value) (hw : ∀ d ∈ tables_1, d.before a0 Z = true) (ws : List Jvm.Cond) (n0 : Nat) (h0 : Heap) (O : Old Z n0 h0) (w_ALL : Addr) (w_STRING : Addr) (w_INT : Addr) (w_BIGINT : Addr) (w_DOUBLE : Addr) (w_BOOLEAN : Addr) (k_w_ALL : ClassId) (W : OwW Z w_ALL w_STRING w_INT w_BIGINT w_DOUBLE w_BOOLEAN k_w_ALL) (cx : Int32) (h1 : ¬ (1 : Int32) = cx) (h2 : ¬ (2 : Int32) = cx) (h3 : ¬ (3 : Int32) = cx) (h4 : ¬ (4 : Int32) = cx) (h5 : ¬ (5 : Int32) = cx) :
    OwCon l (⟨"com/example/lamina/lamina/engine/ColumnTypeOfCodePinLaw", "expected", "(I)Lcom/example/lamina/lamina/engine/ColumnType;"⟩ : MethodName) method_2_code 1 (some (.object "com/example/lamina/lamina/engine/ColumnType")) ws ({ frames := 0, cells := 0, slots := 0, locals := 0 } : Room) #[(.int cx)] Z h0 (OwQ (some .null) h0 n0) := by
  refine MetFree.of_bodySF (plainFor_of_name owpn2) hisR ?_
  intro p e s m args below meth c s₁ Bd hml0 hP hK
  obtain ⟨rfl, hZ, hh⟩ := hP
  have hx := Bd.exec
  have hby := Bd.bytes
  have hml : c.maxLocals = 1 := hml0
  have hown : s.vm.findClass "com/example/lamina/lamina/engine/ColumnTypeOfCodePinLaw" = some m.cls := findClass_of_methodNamed Bd.named
  have hnm := (name_of_methodNamed Bd.named Bd.method).1
  have X0 : Stand p l e ({ frames := 0, cells := 0, slots := 0, locals := 0 } : Room) s m #[(.int cx)] below meth c s₁ [] 0 0 := Stand.of_body Bd
  have e0 : s₁.heap = h0 := by rw [← hh, Bd.state]; rfl
  have N0 := Fr.nil n0
  have WW := W
  obtain ⟨E_w_STRING, E_w_INT, E_w_BIGINT, E_w_DOUBLE, E_w_BOOLEAN, S_ColumnType_ALL, S_ColumnType_STRING, F_w_STRING_code, S_ColumnType_INT, F_w_INT_code, S_ColumnType_BIGINT, F_w_BIGINT_code, S_ColumnType_DOUBLE, F_w_DOUBLE_code, S_ColumnType_BOOLEAN, F_w_BOOLEAN_code, V_w_ALL, -⟩ := WW
  have ef : entryFrame m #[(.int cx)] 1 = mkF m 0 #[.val (.int cx)] [] := by first | rfl | (simp [entryFrame, mkF, argsToLocals, Value.category]; done)
  have pre0 : ∀ t, Steps p.tables e below (s₁.setTop (mkF m 0 #[.val (.int cx)] [])) t → Steps p.tables e below (s₁.setTop (entryFrame m #[(.int cx)] 1)) t := fun t k => castTop ef k
  obtain ⟨fs, hr, hrun, hended, hW, hsame⟩ := X0.leave (v := some .null) (fun h => by rw [Bd.returns] at h; cases h)
  refine ⟨_, _, pre0 _ ?_, hrun, hended, _, _, rfl, ?_, ⟨_, rfl⟩, hW, hsame.mono (by decide) (by decide)⟩
  · show Steps p.tables e below (s₁.setTop (mkF m 0 #[.val (.int cx)] [])) _
    refine XS.iloadN X0.here hx rfl (hb hby d2_0) rfl ?_
    show Steps p.tables e below (s₁.setTop (mkF m 1 #[.val (.int cx)] [(.int cx)])) _
    refine XS.iconst X0.here hx rfl (hb hby d2_1) ?_
    show Steps p.tables e below (s₁.setTop (mkF m 2 #[.val (.int cx)] [(.int (1 : Int32)), (.int cx)])) _
    refine XS.icmpYes X0.here hx rfl (pc0 := 2) (pc' := 9) rfl (hb hby d2_2) rfl (feq (Ne.symm h1)).2 (by decide) (by decide) ?_
    show Steps p.tables e below (s₁.setTop (mkF m 9 #[.val (.int cx)] [])) _
    refine XS.iloadN X0.here hx rfl (hb hby d2_9) rfl ?_
    show Steps p.tables e below (s₁.setTop (mkF m 10 #[.val (.int cx)] [(.int cx)])) _
    refine XS.iconst X0.here hx rfl (hb hby d2_10) ?_
    show Steps p.tables e below (s₁.setTop (mkF m 11 #[.val (.int cx)] [(.int (2 : Int32)), (.int cx)])) _
    refine XS.icmpYes X0.here hx rfl (pc0 := 11) (pc' := 18) rfl (hb hby d2_11) rfl (feq (Ne.symm h2)).2 (by decide) (by decide) ?_
    show Steps p.tables e below (s₁.setTop (mkF m 18 #[.val (.int cx)] [])) _
    refine XS.iloadN X0.here hx rfl (hb hby d2_18) rfl ?_
    show Steps p.tables e below (s₁.setTop (mkF m 19 #[.val (.int cx)] [(.int cx)])) _
    refine XS.iconst X0.here hx rfl (hb hby d2_19) ?_
    show Steps p.tables e below (s₁.setTop (mkF m 20 #[.val (.int cx)] [(.int (3 : Int32)), (.int cx)])) _
    refine XS.icmpYes X0.here hx rfl (pc0 := 20) (pc' := 27) rfl (hb hby d2_20) rfl (feq (Ne.symm h3)).2 (by decide) (by decide) ?_
    show Steps p.tables e below (s₁.setTop (mkF m 27 #[.val (.int cx)] [])) _
    refine XS.iloadN X0.here hx rfl (hb hby d2_27) rfl ?_
    show Steps p.tables e below (s₁.setTop (mkF m 28 #[.val (.int cx)] [(.int cx)])) _
    refine XS.iconst X0.here hx rfl (hb hby d2_28) ?_
    show Steps p.tables e below (s₁.setTop (mkF m 29 #[.val (.int cx)] [(.int (4 : Int32)), (.int cx)])) _
    refine XS.icmpYes X0.here hx rfl (pc0 := 29) (pc' := 36) rfl (hb hby d2_29) rfl (feq (Ne.symm h4)).2 (by decide) (by decide) ?_
    show Steps p.tables e below (s₁.setTop (mkF m 36 #[.val (.int cx)] [])) _
    refine XS.iloadN X0.here hx rfl (hb hby d2_36) rfl ?_
    show Steps p.tables e below (s₁.setTop (mkF m 37 #[.val (.int cx)] [(.int cx)])) _
    refine XS.iconst X0.here hx rfl (hb hby d2_37) ?_
    show Steps p.tables e below (s₁.setTop (mkF m 38 #[.val (.int cx)] [(.int (5 : Int32)), (.int cx)])) _
    refine XS.icmpYes X0.here hx rfl (pc0 := 38) (pc' := 45) rfl (hb hby d2_38) rfl (feq (Ne.symm h5)).2 (by decide) (by decide) ?_
    show Steps p.tables e below (s₁.setTop (mkF m 45 #[.val (.int cx)] [])) _
    refine XS.aconstNull X0.here hx rfl (hb hby d2_45) ?_
    show Steps p.tables e below (s₁.setTop (mkF m 46 #[.val (.int cx)] [.null])) _
    exact retOut X0 hx Bd.returns rfl (Or.inr (Or.inr (Or.inr (Or.inr ⟨rfl, rfl, rfl⟩)))) (hb hby d2_46) hr
  · exact ⟨rfl, N0, e0⟩
theorem rm2 (l : Launch) (Z : State) (a0 : Array Value) (hw : ∀ d ∈ tables_1, d.before a0 Z = true) (ws : List Jvm.Cond) (n0 : Nat) (h0 : Heap) (O : Old Z n0 h0) (w_ALL : Addr) (w_STRING : Addr) (w_INT : Addr) (w_BIGINT : Addr) (w_DOUBLE : Addr) (w_BOOLEAN : Addr) (k_w_ALL : ClassId) (W : OwW Z w_ALL w_STRING w_INT w_BIGINT w_DOUBLE w_BOOLEAN k_w_ALL) (c : Int32) :
    OwCon l (⟨"com/example/lamina/lamina/engine/ColumnTypeOfCodePinLaw", "expected", "(I)Lcom/example/lamina/lamina/engine/ColumnType;"⟩ : MethodName) method_2_code 1 (some (.object "com/example/lamina/lamina/engine/ColumnType")) ws ({ frames := 0, cells := 0, slots := 0, locals := 0 } : Room) #[.int c] Z h0 (OwQ (some (owF w_STRING w_INT w_BIGINT w_DOUBLE w_BOOLEAN c)) h0 n0) := by
  by_cases h1 : (1 : Int32) = c
  · subst h1; rw [owF_1]; exact rm2_1 l Z a0 hw ws n0 h0 O w_ALL w_STRING w_INT w_BIGINT w_DOUBLE w_BOOLEAN k_w_ALL W
  by_cases h2 : (2 : Int32) = c
  · subst h2; rw [owF_2]; exact rm2_2 l Z a0 hw ws n0 h0 O w_ALL w_STRING w_INT w_BIGINT w_DOUBLE w_BOOLEAN k_w_ALL W
  by_cases h3 : (3 : Int32) = c
  · subst h3; rw [owF_3]; exact rm2_3 l Z a0 hw ws n0 h0 O w_ALL w_STRING w_INT w_BIGINT w_DOUBLE w_BOOLEAN k_w_ALL W
  by_cases h4 : (4 : Int32) = c
  · subst h4; rw [owF_4]; exact rm2_4 l Z a0 hw ws n0 h0 O w_ALL w_STRING w_INT w_BIGINT w_DOUBLE w_BOOLEAN k_w_ALL W
  by_cases h5 : (5 : Int32) = c
  · subst h5; rw [owF_5]; exact rm2_5 l Z a0 hw ws n0 h0 O w_ALL w_STRING w_INT w_BIGINT w_DOUBLE w_BOOLEAN k_w_ALL W
  rw [owF_o w_STRING w_INT w_BIGINT w_DOUBLE w_BOOLEAN h1 h2 h3 h4 h5]; exact rm2_o l Z a0 hw ws n0 h0 O w_ALL w_STRING w_INT w_BIGINT w_DOUBLE w_BOOLEAN k_w_ALL W c h1 h2 h3 h4 h5

set_option maxRecDepth 65536 in
set_option maxHeartbeats 40000000 in
theorem rm0 (l : Launch) (Z : State) (a0 : Array Value) (hw : ∀ d ∈ tables_1, d.before a0 Z = true) (ws : List Jvm.Cond) (n0 : Nat) (h0 : Heap) (O : Old Z n0 h0) (w_ALL : Addr) (w_STRING : Addr) (w_INT : Addr) (w_BIGINT : Addr) (w_DOUBLE : Addr) (w_BOOLEAN : Addr) (k_w_ALL : ClassId) (W : OwW Z w_ALL w_STRING w_INT w_BIGINT w_DOUBLE w_BOOLEAN k_w_ALL) (p0 : Int32) (p1 : Int32) :
    OwCon l x code maxLocals ret ws room_1 #[(.int p0), (.int p1)] Z h0 (OwP (fun v _ => v = some (.int 1)) n0) := by
  refine MetFree.of_bodySF (plainFor_of_name owpn0) hisR ?_
  intro p e s m args below meth c s₁ Bd hml0 hP hK
  obtain ⟨rfl, hZ, hh⟩ := hP
  have hx := Bd.exec
  have hby := Bd.bytes
  have hml : c.maxLocals = 5 := hml0
  have hown : s.vm.findClass "com/example/lamina/lamina/engine/ColumnTypeOfCodePinLaw" = some m.cls := findClass_of_methodNamed Bd.named
  have hnm := (name_of_methodNamed Bd.named Bd.method).1
  have X0 : Stand p l e room_1 s m #[(.int p0), (.int p1)] below meth c s₁ [] 0 0 := Stand.of_body Bd
  have e0 : s₁.heap = h0 := by rw [← hh, Bd.state]; rfl
  have N0 := Fr.nil n0
  have WW := W
  obtain ⟨E_w_STRING, E_w_INT, E_w_BIGINT, E_w_DOUBLE, E_w_BOOLEAN, S_ColumnType_ALL, S_ColumnType_STRING, F_w_STRING_code, S_ColumnType_INT, F_w_INT_code, S_ColumnType_BIGINT, F_w_BIGINT_code, S_ColumnType_DOUBLE, F_w_DOUBLE_code, S_ColumnType_BOOLEAN, F_w_BOOLEAN_code, V_w_ALL, -⟩ := WW
  have ef : entryFrame m #[(.int p0), (.int p1)] maxLocals = mkF m 0 #[.val (.int p0), .val (.int p1), .unset, .unset, .unset] [] := by first | rfl | (simp [entryFrame, mkF, argsToLocals, Value.category, maxLocals]; done)
  have pre0 : ∀ t, Steps p.tables e below (s₁.setTop (mkF m 0 #[.val (.int p0), .val (.int p1), .unset, .unset, .unset] [])) t → Steps p.tables e below (s₁.setTop (entryFrame m #[(.int p0), (.int p1)] maxLocals)) t := fun t k => castTop ef k
  obtain ⟨_, _, ⟨T1, L1, k1, n1⟩, -, X1, ⟨Lc1, hQ1, l1, y1, z1⟩, st1⟩ := Jvm.LawKit.callS X0 hx (y := (⟨"com/example/lamina/lamina/engine/ColumnType", "ofCode", "(I)Lcom/example/lamina/lamina/engine/ColumnType;"⟩ : MethodName)) hown (mvT hZ (hw _ (List.mem_of_getElem? (i := 0) rfl))) (mvT hZ (hw _ (List.mem_of_getElem? (i := 1) rfl))) (mvT hZ (hw _ (List.mem_of_getElem? (i := 2) rfl))) (mvT hZ (hw _ (List.mem_of_getElem? (i := 3) rfl))) (by decide) (backOf (W := 0) (rm1 l Z a0 hw [] n0 h0 O w_ALL w_STRING w_INT w_BIGINT w_DOUBLE w_BOOLEAN k_w_ALL W p0) hZ (hw _ (List.mem_of_getElem? (i := 3) rfl)) (hw _ (List.mem_of_getElem? (i := 2) rfl)) (by decide) (by decide)) (g := (mkF m 8 #[.val (.int p0), .val (.int p1), .val (.int ((p1 &&& (7 : Int32)) - (1 : Int32))), .unset, .unset] [(.int p0)])) rfl (by rw [hml]; rfl) (argsL := [(.int p0)]) (rest := []) (lenOf owpd0 rfl) rfl (by show 2 * 0 + _ ≤ _; exact Nat.le_of_eq rfl) (hb hby at_8) (fun _ _ => ⟨rfl, e0, (by decide : 0 + 0 ≤ _), (by decide : 0 + 0 ≤ _)⟩)
  dsimp only [Pt.U, Pt.locs, Pt.cells, Pt.slots] at X1 l1 y1 z1 st1 hQ1
  subst l1 y1 z1
  obtain ⟨rfl, Nq1, e1⟩ := hQ1
  have N1 := Fr.app N0 Nq1
  obtain ⟨_, _, ⟨T2, L2, k2, n2⟩, -, X2, ⟨Lc2, hQ2, l2, y2, z2⟩, st2⟩ := Jvm.LawKit.callS X1 hx (y := (⟨"com/example/lamina/lamina/engine/ColumnType", "ofCode", "(I)Lcom/example/lamina/lamina/engine/ColumnType;"⟩ : MethodName)) hown (mvT hZ (hw _ (List.mem_of_getElem? (i := 0) rfl))) (mvT hZ (hw _ (List.mem_of_getElem? (i := 1) rfl))) (mvT hZ (hw _ (List.mem_of_getElem? (i := 2) rfl))) (mvT hZ (hw _ (List.mem_of_getElem? (i := 3) rfl))) (by decide) (backOf (W := 0) (rm1 l Z a0 hw [] n0 h0 O w_ALL w_STRING w_INT w_BIGINT w_DOUBLE w_BOOLEAN k_w_ALL W ((p1 &&& (7 : Int32)) - (1 : Int32))) hZ (hw _ (List.mem_of_getElem? (i := 3) rfl)) (hw _ (List.mem_of_getElem? (i := 2) rfl)) (by decide) (by decide)) (g := (mkF m 13 #[.val (.int p0), .val (.int p1), .val (.int ((p1 &&& (7 : Int32)) - (1 : Int32))), .val (owF w_STRING w_INT w_BIGINT w_DOUBLE w_BOOLEAN p0), .unset] [(.int ((p1 &&& (7 : Int32)) - (1 : Int32)))])) rfl (by rw [hml]; rfl) (argsL := [(.int ((p1 &&& (7 : Int32)) - (1 : Int32)))]) (rest := []) (lenOf owpd0 rfl) rfl (by show 2 * 0 + _ ≤ _; exact Nat.le_of_eq rfl) (hb hby at_13) (fun _ _ => ⟨rfl, e1, (by decide : 0 + 0 ≤ _), (by decide : 0 + 0 ≤ _)⟩)
  dsimp only [Pt.U, Pt.locs, Pt.cells, Pt.slots] at X2 l2 y2 z2 st2 hQ2
  subst l2 y2 z2
  obtain ⟨rfl, Nq2, e2⟩ := hQ2
  have N2 := Fr.app N1 Nq2
  obtain ⟨_, _, ⟨T3, L3, k3, n3⟩, -, X3, ⟨Lc3, hQ3, l3, y3, z3⟩, st3⟩ := Jvm.LawKit.callS X2 hx (y := (⟨"com/example/lamina/lamina/engine/ColumnTypeOfCodePinLaw", "expected", "(I)Lcom/example/lamina/lamina/engine/ColumnType;"⟩ : MethodName)) hown (mvT hZ (hw _ (List.mem_of_getElem? (i := 13) rfl))) (mvT hZ (hw _ (List.mem_of_getElem? (i := 14) rfl))) (mvT hZ (hw _ (List.mem_of_getElem? (i := 15) rfl))) (mvT hZ (hw _ (List.mem_of_getElem? (i := 16) rfl))) (by decide) (backOf (W := 1) (rm2 l Z a0 hw [] n0 h0 O w_ALL w_STRING w_INT w_BIGINT w_DOUBLE w_BOOLEAN k_w_ALL W p0) hZ (hw _ (List.mem_of_getElem? (i := 16) rfl)) (hw _ (List.mem_of_getElem? (i := 15) rfl)) (by decide) (by decide)) (g := (mkF m 20 #[.val (.int p0), .val (.int p1), .val (.int ((p1 &&& (7 : Int32)) - (1 : Int32))), .val (owF w_STRING w_INT w_BIGINT w_DOUBLE w_BOOLEAN p0), .val (owF w_STRING w_INT w_BIGINT w_DOUBLE w_BOOLEAN ((p1 &&& (7 : Int32)) - (1 : Int32)))] [(.int p0), (owF w_STRING w_INT w_BIGINT w_DOUBLE w_BOOLEAN p0)])) rfl (by rw [hml]; rfl) (argsL := [(.int p0)]) (rest := [(owF w_STRING w_INT w_BIGINT w_DOUBLE w_BOOLEAN p0)]) (lenOf owpd0 rfl) rfl (by show 2 * 0 + _ ≤ _; simp only [List.map_cons, List.map_nil, List.sum_cons, List.sum_nil, own_cat (owF_ref w_STRING w_INT w_BIGINT w_DOUBLE w_BOOLEAN p0)] <;> exact Nat.le_of_eq rfl) (hb hby at_20) (fun _ _ => ⟨rfl, e2, (by decide : 0 + 0 ≤ _), (by decide : 0 + 0 ≤ _)⟩)
  dsimp only [Pt.U, Pt.locs, Pt.cells, Pt.slots] at X3 l3 y3 z3 st3 hQ3
  subst l3 y3 z3
  obtain ⟨rfl, Nq3, e3⟩ := hQ3
  have N3 := Fr.app N2 Nq3
  obtain ⟨_, _, ⟨T4, L4, k4, n4⟩, -, X4, ⟨Lc4, hQ4, l4, y4, z4⟩, st4⟩ := Jvm.LawKit.callS X3 hx (y := (⟨"com/example/lamina/lamina/engine/ColumnTypeOfCodePinLaw", "expected", "(I)Lcom/example/lamina/lamina/engine/ColumnType;"⟩ : MethodName)) hown (mvT hZ (hw _ (List.mem_of_getElem? (i := 13) rfl))) (mvT hZ (hw _ (List.mem_of_getElem? (i := 14) rfl))) (mvT hZ (hw _ (List.mem_of_getElem? (i := 15) rfl))) (mvT hZ (hw _ (List.mem_of_getElem? (i := 16) rfl))) (by decide) (backOf (W := 1) (rm2 l Z a0 hw [] n0 h0 O w_ALL w_STRING w_INT w_BIGINT w_DOUBLE w_BOOLEAN k_w_ALL W ((p1 &&& (7 : Int32)) - (1 : Int32))) hZ (hw _ (List.mem_of_getElem? (i := 16) rfl)) (hw _ (List.mem_of_getElem? (i := 15) rfl)) (by decide) (by decide)) (g := (mkF m 29 #[.val (.int p0), .val (.int p1), .val (.int ((p1 &&& (7 : Int32)) - (1 : Int32))), .val (owF w_STRING w_INT w_BIGINT w_DOUBLE w_BOOLEAN p0), .val (owF w_STRING w_INT w_BIGINT w_DOUBLE w_BOOLEAN ((p1 &&& (7 : Int32)) - (1 : Int32)))] [(.int ((p1 &&& (7 : Int32)) - (1 : Int32))), (owF w_STRING w_INT w_BIGINT w_DOUBLE w_BOOLEAN ((p1 &&& (7 : Int32)) - (1 : Int32)))])) rfl (by rw [hml]; rfl) (argsL := [(.int ((p1 &&& (7 : Int32)) - (1 : Int32)))]) (rest := [(owF w_STRING w_INT w_BIGINT w_DOUBLE w_BOOLEAN ((p1 &&& (7 : Int32)) - (1 : Int32)))]) (lenOf owpd0 rfl) rfl (by show 2 * 0 + _ ≤ _; simp only [List.map_cons, List.map_nil, List.sum_cons, List.sum_nil, own_cat (owF_ref w_STRING w_INT w_BIGINT w_DOUBLE w_BOOLEAN ((p1 &&& (7 : Int32)) - (1 : Int32)))] <;> exact Nat.le_of_eq rfl) (hb hby at_29) (fun _ _ => ⟨rfl, e3, (by decide : 0 + 0 ≤ _), (by decide : 0 + 0 ≤ _)⟩)
  dsimp only [Pt.U, Pt.locs, Pt.cells, Pt.slots] at X4 l4 y4 z4 st4 hQ4
  subst l4 y4 z4
  obtain ⟨rfl, Nq4, e4⟩ := hQ4
  have N4 := Fr.app N3 Nq4
  obtain ⟨fs, hr, hrun, hended, hW, hsame⟩ := X4.leave (v := some (.int (1 : Int32))) (fun h => by rw [Bd.returns] at h; cases h)
  refine ⟨_, _, pre0 _ ?_, hrun, hended, _, _, rfl, ?_, ⟨_, rfl⟩, hW, hsame.mono (by decide) (by decide)⟩
  · show Steps p.tables e below (s₁.setTop (mkF m 0 #[.val (.int p0), .val (.int p1), .unset, .unset, .unset] [])) _
    refine XS.iloadN X0.here hx rfl (hb hby at_0) rfl ?_
    show Steps p.tables e below (s₁.setTop (mkF m 1 #[.val (.int p0), .val (.int p1), .unset, .unset, .unset] [(.int p1)])) _
    refine XS.bipush X0.here hx rfl (hb hby at_1) ?_
    show Steps p.tables e below (s₁.setTop (mkF m 3 #[.val (.int p0), .val (.int p1), .unset, .unset, .unset] [(.int (7 : Int32)), (.int p1)])) _
    refine XS.iand X0.here hx rfl (hb hby at_3) rfl ?_
    show Steps p.tables e below (s₁.setTop (mkF m 4 #[.val (.int p0), .val (.int p1), .unset, .unset, .unset] [(.int (p1 &&& (7 : Int32)))])) _
    refine XS.iconst X0.here hx rfl (hb hby at_4) ?_
    show Steps p.tables e below (s₁.setTop (mkF m 5 #[.val (.int p0), .val (.int p1), .unset, .unset, .unset] [(.int (1 : Int32)), (.int (p1 &&& (7 : Int32)))])) _
    refine XS.isub X0.here hx rfl (hb hby at_5) rfl ?_
    show Steps p.tables e below (s₁.setTop (mkF m 6 #[.val (.int p0), .val (.int p1), .unset, .unset, .unset] [(.int ((p1 &&& (7 : Int32)) - (1 : Int32)))])) _
    refine XS.istoreN X0.here hx rfl (hb hby at_6) rfl (l' := #[.val (.int p0), .val (.int p1), .val (.int ((p1 &&& (7 : Int32)) - (1 : Int32))), .unset, .unset]) rfl ?_
    show Steps p.tables e below (s₁.setTop (mkF m 7 #[.val (.int p0), .val (.int p1), .val (.int ((p1 &&& (7 : Int32)) - (1 : Int32))), .unset, .unset] [])) _
    refine XS.iloadN X0.here hx rfl (hb hby at_7) rfl ?_
    show Steps p.tables e below (s₁.setTop (mkF m 8 #[.val (.int p0), .val (.int p1), .val (.int ((p1 &&& (7 : Int32)) - (1 : Int32))), .unset, .unset] [(.int p0)])) _
    refine st1 _ ?_
    show Steps p.tables e below (T1.setTop (mkF m 11 #[.val (.int p0), .val (.int p1), .val (.int ((p1 &&& (7 : Int32)) - (1 : Int32))), .unset, .unset] [(owF w_STRING w_INT w_BIGINT w_DOUBLE w_BOOLEAN p0)])) _
    refine XS.astoreN X1.here hx rfl (hb hby at_11) rfl (owF_ref w_STRING w_INT w_BIGINT w_DOUBLE w_BOOLEAN p0) (l' := #[.val (.int p0), .val (.int p1), .val (.int ((p1 &&& (7 : Int32)) - (1 : Int32))), .val (owF w_STRING w_INT w_BIGINT w_DOUBLE w_BOOLEAN p0), .unset]) (by rcases ref_cases (owF_ref w_STRING w_INT w_BIGINT w_DOUBLE w_BOOLEAN p0) with h | ⟨_, h⟩ <;> rw [h] <;> rfl) ?_
    show Steps p.tables e below (T1.setTop (mkF m 12 #[.val (.int p0), .val (.int p1), .val (.int ((p1 &&& (7 : Int32)) - (1 : Int32))), .val (owF w_STRING w_INT w_BIGINT w_DOUBLE w_BOOLEAN p0), .unset] [])) _
    refine XS.iloadN X1.here hx rfl (hb hby at_12) rfl ?_
    show Steps p.tables e below (T1.setTop (mkF m 13 #[.val (.int p0), .val (.int p1), .val (.int ((p1 &&& (7 : Int32)) - (1 : Int32))), .val (owF w_STRING w_INT w_BIGINT w_DOUBLE w_BOOLEAN p0), .unset] [(.int ((p1 &&& (7 : Int32)) - (1 : Int32)))])) _
    refine st2 _ ?_
    show Steps p.tables e below (T2.setTop (mkF m 16 #[.val (.int p0), .val (.int p1), .val (.int ((p1 &&& (7 : Int32)) - (1 : Int32))), .val (owF w_STRING w_INT w_BIGINT w_DOUBLE w_BOOLEAN p0), .unset] [(owF w_STRING w_INT w_BIGINT w_DOUBLE w_BOOLEAN ((p1 &&& (7 : Int32)) - (1 : Int32)))])) _
    refine XS.astore X2.here hx rfl (hb hby at_16) rfl (owF_ref w_STRING w_INT w_BIGINT w_DOUBLE w_BOOLEAN ((p1 &&& (7 : Int32)) - (1 : Int32))) (l' := #[.val (.int p0), .val (.int p1), .val (.int ((p1 &&& (7 : Int32)) - (1 : Int32))), .val (owF w_STRING w_INT w_BIGINT w_DOUBLE w_BOOLEAN p0), .val (owF w_STRING w_INT w_BIGINT w_DOUBLE w_BOOLEAN ((p1 &&& (7 : Int32)) - (1 : Int32)))]) (by rcases ref_cases (owF_ref w_STRING w_INT w_BIGINT w_DOUBLE w_BOOLEAN ((p1 &&& (7 : Int32)) - (1 : Int32))) with h | ⟨_, h⟩ <;> rw [h] <;> rfl) ?_
    show Steps p.tables e below (T2.setTop (mkF m 18 #[.val (.int p0), .val (.int p1), .val (.int ((p1 &&& (7 : Int32)) - (1 : Int32))), .val (owF w_STRING w_INT w_BIGINT w_DOUBLE w_BOOLEAN p0), .val (owF w_STRING w_INT w_BIGINT w_DOUBLE w_BOOLEAN ((p1 &&& (7 : Int32)) - (1 : Int32)))] [])) _
    refine XS.aloadN X2.here hx rfl (hb hby at_18) rfl (owF_ref w_STRING w_INT w_BIGINT w_DOUBLE w_BOOLEAN p0) ?_
    show Steps p.tables e below (T2.setTop (mkF m 19 #[.val (.int p0), .val (.int p1), .val (.int ((p1 &&& (7 : Int32)) - (1 : Int32))), .val (owF w_STRING w_INT w_BIGINT w_DOUBLE w_BOOLEAN p0), .val (owF w_STRING w_INT w_BIGINT w_DOUBLE w_BOOLEAN ((p1 &&& (7 : Int32)) - (1 : Int32)))] [(owF w_STRING w_INT w_BIGINT w_DOUBLE w_BOOLEAN p0)])) _
    refine XS.iloadN X2.here hx rfl (hb hby at_19) rfl ?_
    show Steps p.tables e below (T2.setTop (mkF m 20 #[.val (.int p0), .val (.int p1), .val (.int ((p1 &&& (7 : Int32)) - (1 : Int32))), .val (owF w_STRING w_INT w_BIGINT w_DOUBLE w_BOOLEAN p0), .val (owF w_STRING w_INT w_BIGINT w_DOUBLE w_BOOLEAN ((p1 &&& (7 : Int32)) - (1 : Int32)))] [(.int p0), (owF w_STRING w_INT w_BIGINT w_DOUBLE w_BOOLEAN p0)])) _
    refine st3 _ ?_
    show Steps p.tables e below (T3.setTop (mkF m 23 #[.val (.int p0), .val (.int p1), .val (.int ((p1 &&& (7 : Int32)) - (1 : Int32))), .val (owF w_STRING w_INT w_BIGINT w_DOUBLE w_BOOLEAN p0), .val (owF w_STRING w_INT w_BIGINT w_DOUBLE w_BOOLEAN ((p1 &&& (7 : Int32)) - (1 : Int32)))] [(owF w_STRING w_INT w_BIGINT w_DOUBLE w_BOOLEAN p0), (owF w_STRING w_INT w_BIGINT w_DOUBLE w_BOOLEAN p0)])) _
    refine Jvm.RoadKit.acmp (g := (mkF m 23 #[.val (.int p0), .val (.int p1), .val (.int ((p1 &&& (7 : Int32)) - (1 : Int32))), .val (owF w_STRING w_INT w_BIGINT w_DOUBLE w_BOOLEAN p0), .val (owF w_STRING w_INT w_BIGINT w_DOUBLE w_BOOLEAN ((p1 &&& (7 : Int32)) - (1 : Int32)))] [(owF w_STRING w_INT w_BIGINT w_DOUBLE w_BOOLEAN p0), (owF w_STRING w_INT w_BIGINT w_DOUBLE w_BOOLEAN p0)])) X3 hx rfl (owF_ref w_STRING w_INT w_BIGINT w_DOUBLE w_BOOLEAN p0) (owF_ref w_STRING w_INT w_BIGINT w_DOUBLE w_BOOLEAN p0) (pc0 := 23) (pc' := 26) (same := true) rfl (hb hby at_23) rfl (decide_eq_true rfl) (by decide) (by decide) ?_
    show Steps p.tables e below (T3.setTop (mkF m 26 #[.val (.int p0), .val (.int p1), .val (.int ((p1 &&& (7 : Int32)) - (1 : Int32))), .val (owF w_STRING w_INT w_BIGINT w_DOUBLE w_BOOLEAN p0), .val (owF w_STRING w_INT w_BIGINT w_DOUBLE w_BOOLEAN ((p1 &&& (7 : Int32)) - (1 : Int32)))] [])) _
    refine XS.aload X3.here hx rfl (hb hby at_26) rfl (owF_ref w_STRING w_INT w_BIGINT w_DOUBLE w_BOOLEAN ((p1 &&& (7 : Int32)) - (1 : Int32))) ?_
    show Steps p.tables e below (T3.setTop (mkF m 28 #[.val (.int p0), .val (.int p1), .val (.int ((p1 &&& (7 : Int32)) - (1 : Int32))), .val (owF w_STRING w_INT w_BIGINT w_DOUBLE w_BOOLEAN p0), .val (owF w_STRING w_INT w_BIGINT w_DOUBLE w_BOOLEAN ((p1 &&& (7 : Int32)) - (1 : Int32)))] [(owF w_STRING w_INT w_BIGINT w_DOUBLE w_BOOLEAN ((p1 &&& (7 : Int32)) - (1 : Int32)))])) _
    refine XS.iloadN X3.here hx rfl (hb hby at_28) rfl ?_
    show Steps p.tables e below (T3.setTop (mkF m 29 #[.val (.int p0), .val (.int p1), .val (.int ((p1 &&& (7 : Int32)) - (1 : Int32))), .val (owF w_STRING w_INT w_BIGINT w_DOUBLE w_BOOLEAN p0), .val (owF w_STRING w_INT w_BIGINT w_DOUBLE w_BOOLEAN ((p1 &&& (7 : Int32)) - (1 : Int32)))] [(.int ((p1 &&& (7 : Int32)) - (1 : Int32))), (owF w_STRING w_INT w_BIGINT w_DOUBLE w_BOOLEAN ((p1 &&& (7 : Int32)) - (1 : Int32)))])) _
    refine st4 _ ?_
    show Steps p.tables e below (T4.setTop (mkF m 32 #[.val (.int p0), .val (.int p1), .val (.int ((p1 &&& (7 : Int32)) - (1 : Int32))), .val (owF w_STRING w_INT w_BIGINT w_DOUBLE w_BOOLEAN p0), .val (owF w_STRING w_INT w_BIGINT w_DOUBLE w_BOOLEAN ((p1 &&& (7 : Int32)) - (1 : Int32)))] [(owF w_STRING w_INT w_BIGINT w_DOUBLE w_BOOLEAN ((p1 &&& (7 : Int32)) - (1 : Int32))), (owF w_STRING w_INT w_BIGINT w_DOUBLE w_BOOLEAN ((p1 &&& (7 : Int32)) - (1 : Int32)))])) _
    refine Jvm.RoadKit.acmp (g := (mkF m 32 #[.val (.int p0), .val (.int p1), .val (.int ((p1 &&& (7 : Int32)) - (1 : Int32))), .val (owF w_STRING w_INT w_BIGINT w_DOUBLE w_BOOLEAN p0), .val (owF w_STRING w_INT w_BIGINT w_DOUBLE w_BOOLEAN ((p1 &&& (7 : Int32)) - (1 : Int32)))] [(owF w_STRING w_INT w_BIGINT w_DOUBLE w_BOOLEAN ((p1 &&& (7 : Int32)) - (1 : Int32))), (owF w_STRING w_INT w_BIGINT w_DOUBLE w_BOOLEAN ((p1 &&& (7 : Int32)) - (1 : Int32)))])) X4 hx rfl (owF_ref w_STRING w_INT w_BIGINT w_DOUBLE w_BOOLEAN ((p1 &&& (7 : Int32)) - (1 : Int32))) (owF_ref w_STRING w_INT w_BIGINT w_DOUBLE w_BOOLEAN ((p1 &&& (7 : Int32)) - (1 : Int32))) (pc0 := 32) (pc' := 35) (same := true) rfl (hb hby at_32) rfl (decide_eq_true rfl) (by decide) (by decide) ?_
    show Steps p.tables e below (T4.setTop (mkF m 35 #[.val (.int p0), .val (.int p1), .val (.int ((p1 &&& (7 : Int32)) - (1 : Int32))), .val (owF w_STRING w_INT w_BIGINT w_DOUBLE w_BOOLEAN p0), .val (owF w_STRING w_INT w_BIGINT w_DOUBLE w_BOOLEAN ((p1 &&& (7 : Int32)) - (1 : Int32)))] [])) _
    refine XS.iconst X4.here hx rfl (hb hby at_35) ?_
    show Steps p.tables e below (T4.setTop (mkF m 36 #[.val (.int p0), .val (.int p1), .val (.int ((p1 &&& (7 : Int32)) - (1 : Int32))), .val (owF w_STRING w_INT w_BIGINT w_DOUBLE w_BOOLEAN p0), .val (owF w_STRING w_INT w_BIGINT w_DOUBLE w_BOOLEAN ((p1 &&& (7 : Int32)) - (1 : Int32)))] [(.int (1 : Int32))])) _
    refine XS.goto X4.here hx rfl (pc0 := 36) (pc' := 40) rfl (hb hby at_36) (by decide) (by decide) ?_
    show Steps p.tables e below (T4.setTop (mkF m 40 #[.val (.int p0), .val (.int p1), .val (.int ((p1 &&& (7 : Int32)) - (1 : Int32))), .val (owF w_STRING w_INT w_BIGINT w_DOUBLE w_BOOLEAN p0), .val (owF w_STRING w_INT w_BIGINT w_DOUBLE w_BOOLEAN ((p1 &&& (7 : Int32)) - (1 : Int32)))] [(.int (1 : Int32))])) _
    exact retN X4 hx (t := .boolean) Bd.returns (by simp) (hb hby at_40) hr
  · exact ⟨N4, rfl⟩
set_option maxRecDepth 65536 in
set_option maxHeartbeats 40000000 in
theorem comes_1 {Post : Tables → Env → Array Value → State → Outcome → State → Prop} (hpost : ∀ tb e args s v u, (limb_1_1.after args s (.returned v) u = true ∧ limb_1_2.after args s (.returned v) u = true ∧ True) → FrameEnd s (.returned v) u (Jvm.fieldLocs frame_1_writes args s ++ Jvm.arrayLocs frame_1_arrays args s ++ Jvm.staticLocs frame_1_statics s) 0 0 → Post tb e args s (.returned v) u) :
    ArmFor flags0 classFile x code maxLocals ret World_1 tables_1 room_1 Calls_1 rest_1 Pre_1 Post := by
  intro l hfl _ _ p e ha hc hk s m args below hf hA hF happ hP
  obtain ⟨hcalls, hrest, hpre⟩ := hP
  obtain ⟨-, -, -, hnamed, -, -, -, hat⟩ := (Spec.applies_iff hf).mp happ
  obtain ⟨hg, hn⟩ := and_e (Cond.before_iff.mp (show (Jvm.Cond.and given_1 narrow_1).before args s = true from hpre))
  obtain ⟨ga1, gb1⟩ := and_e hg
  obtain ⟨ga2, gb2⟩ := and_e gb1
  obtain ⟨w0, w1, rfl⟩ : ∃ w0 w1 : Value, args = #[w0, w1] := by
    have hs : args.size = 2 := by simpa [Cond.value, given_1] using ga1
    obtain ⟨L⟩ := args
    match L, hs with
    | [w0, w1], _ => exact ⟨w0, w1, rfl⟩
  have hw := fun d (hd : d ∈ tables_1) => atoms_spec (ws := Jvm.Cond.code x code maxLocals ret :: tables_1) hat d (List.mem_cons_of_mem _ hd)
  have hfit : Fit s := fun {y c} hc i hi => by
    obtain ⟨ha, rfl⟩ := Array.getElem?_eq_some_iff.mp hc
    have q := List.all_eq_true.mp ((Array.all_eq_true_iff_forall_mem.mp hF) _ (Array.getElem_mem ha)) i (List.mem_range.mpr hi)
    simpa [Array.getElem?_eq_getElem hi] using q
  obtain ⟨i0, ei0⟩ := is_v ga2
  obtain rfl : w0 = (.int i0) := Option.some.inj ei0
  obtain ⟨i1, ei1⟩ := is_v gb2
  obtain rfl : w1 = (.int i1) := Option.some.inj ei1
  obtain ⟨nn1, nn2⟩ := and_e hn
  obtain ⟨nn3, nn4⟩ := and_e nn2
  obtain ⟨nn5, nn6⟩ := and_e nn4
  obtain ⟨nn7, nn8⟩ := and_e nn6
  obtain ⟨nn9, nn10⟩ := and_e nn8
  obtain ⟨nn11, nn12⟩ := and_e nn10
  obtain ⟨nn13, nn14⟩ := and_e nn12
  obtain ⟨nn15, nn16⟩ := and_e nn14
  obtain ⟨nn17, nn18⟩ := and_e nn16
  obtain ⟨nn19, nn20⟩ := and_e nn18
  obtain ⟨nn21, nn22⟩ := and_e nn20
  obtain ⟨nn23, nn24⟩ := and_e nn22
  obtain ⟨nn25, nn26⟩ := and_e nn24
  obtain ⟨nn27, nn28⟩ := and_e nn26
  obtain ⟨nn29, nn30⟩ := and_e nn28
  obtain ⟨nn31, nn32⟩ := and_e nn30
  obtain ⟨w_ALL, ev_w_ALL⟩ := arr_v nn1
  obtain ⟨cl_w_ALL, A_w_ALL⟩ := Arr.start ev_w_ALL nn1
  have ev33 := own_eqI nn3
  obtain ⟨w_STRING, ev_w_STRING⟩ := exa_v nn5
  have E_w_STRING : Exa s s.heap w_STRING "com/example/lamina/lamina/engine/ColumnType" := Exa.start ev_w_STRING nn5
  have ev34 := own_eqR nn7 ev_w_STRING
  have ev35 := own_eqI nn9
  obtain ⟨w_INT, ev_w_INT⟩ := exa_v nn11
  have E_w_INT : Exa s s.heap w_INT "com/example/lamina/lamina/engine/ColumnType" := Exa.start ev_w_INT nn11
  have ev36 := own_eqR nn13 ev_w_INT
  have ev37 := own_eqI nn15
  obtain ⟨w_BIGINT, ev_w_BIGINT⟩ := exa_v nn17
  have E_w_BIGINT : Exa s s.heap w_BIGINT "com/example/lamina/lamina/engine/ColumnType" := Exa.start ev_w_BIGINT nn17
  have ev38 := own_eqR nn19 ev_w_BIGINT
  have ev39 := own_eqI nn21
  obtain ⟨w_DOUBLE, ev_w_DOUBLE⟩ := exa_v nn23
  have E_w_DOUBLE : Exa s s.heap w_DOUBLE "com/example/lamina/lamina/engine/ColumnType" := Exa.start ev_w_DOUBLE nn23
  have ev40 := own_eqR nn25 ev_w_DOUBLE
  have ev41 := own_eqI nn27
  obtain ⟨w_BOOLEAN, ev_w_BOOLEAN⟩ := exa_v nn29
  have E_w_BOOLEAN : Exa s s.heap w_BOOLEAN "com/example/lamina/lamina/engine/ColumnType" := Exa.start ev_w_BOOLEAN nn29
  have ev42 := own_eqR nn31 ev_w_BOOLEAN
  have ev43 := own_eqI nn32
  have S_ColumnType_ALL : Sta s s.heap "com/example/lamina/lamina/engine/ColumnType" "ALL" "[Lcom/example/lamina/lamina/engine/ColumnType;" (.ref w_ALL) := Sta.start ev_w_ALL (Or.inr ⟨(hw _ (List.mem_of_getElem? (i := 2) rfl)), (hw _ (List.mem_of_getElem? (i := 5) rfl))⟩)
  have S_ColumnType_STRING : Sta s s.heap "com/example/lamina/lamina/engine/ColumnType" "STRING" "Lcom/example/lamina/lamina/engine/ColumnType;" (.ref w_STRING) := Sta.start ev_w_STRING (Or.inr ⟨(hw _ (List.mem_of_getElem? (i := 2) rfl)), (hw _ (List.mem_of_getElem? (i := 6) rfl))⟩)
  have F_w_STRING_code : Fld s s.heap w_STRING "com/example/lamina/lamina/engine/ColumnType" "code" "I" (.int (1 : Int32)) := own_fld ev_w_STRING ev35
  have S_ColumnType_INT : Sta s s.heap "com/example/lamina/lamina/engine/ColumnType" "INT" "Lcom/example/lamina/lamina/engine/ColumnType;" (.ref w_INT) := Sta.start ev_w_INT (Or.inr ⟨(hw _ (List.mem_of_getElem? (i := 2) rfl)), (hw _ (List.mem_of_getElem? (i := 9) rfl))⟩)
  have F_w_INT_code : Fld s s.heap w_INT "com/example/lamina/lamina/engine/ColumnType" "code" "I" (.int (2 : Int32)) := own_fld ev_w_INT ev37
  have S_ColumnType_BIGINT : Sta s s.heap "com/example/lamina/lamina/engine/ColumnType" "BIGINT" "Lcom/example/lamina/lamina/engine/ColumnType;" (.ref w_BIGINT) := Sta.start ev_w_BIGINT (Or.inr ⟨(hw _ (List.mem_of_getElem? (i := 2) rfl)), (hw _ (List.mem_of_getElem? (i := 10) rfl))⟩)
  have F_w_BIGINT_code : Fld s s.heap w_BIGINT "com/example/lamina/lamina/engine/ColumnType" "code" "I" (.int (3 : Int32)) := own_fld ev_w_BIGINT ev39
  have S_ColumnType_DOUBLE : Sta s s.heap "com/example/lamina/lamina/engine/ColumnType" "DOUBLE" "Lcom/example/lamina/lamina/engine/ColumnType;" (.ref w_DOUBLE) := Sta.start ev_w_DOUBLE (Or.inr ⟨(hw _ (List.mem_of_getElem? (i := 2) rfl)), (hw _ (List.mem_of_getElem? (i := 11) rfl))⟩)
  have F_w_DOUBLE_code : Fld s s.heap w_DOUBLE "com/example/lamina/lamina/engine/ColumnType" "code" "I" (.int (4 : Int32)) := own_fld ev_w_DOUBLE ev41
  have S_ColumnType_BOOLEAN : Sta s s.heap "com/example/lamina/lamina/engine/ColumnType" "BOOLEAN" "Lcom/example/lamina/lamina/engine/ColumnType;" (.ref w_BOOLEAN) := Sta.start ev_w_BOOLEAN (Or.inr ⟨(hw _ (List.mem_of_getElem? (i := 2) rfl)), (hw _ (List.mem_of_getElem? (i := 12) rfl))⟩)
  have F_w_BOOLEAN_code : Fld s s.heap w_BOOLEAN "com/example/lamina/lamina/engine/ColumnType" "code" "I" (.int (5 : Int32)) := own_fld ev_w_BOOLEAN ev43
  have Lq_w_ALL := own_len ev_w_ALL A_w_ALL ev33
  obtain ⟨k_w_ALL, V_w_ALL⟩ : ∃ k, Arv s s.heap w_ALL k (.object "com/example/lamina/lamina/engine/ColumnType") (5 : Int32) [(.ref w_STRING), (.ref w_INT), (.ref w_BIGINT), (.ref w_DOUBLE), (.ref w_BOOLEAN)] .null := ⟨_, Arv.start hfit A_w_ALL Lq_w_ALL.1 Lq_w_ALL.2 (by decide) rfl ⟨own_el ev_w_ALL A_w_ALL ev34, own_el ev_w_ALL A_w_ALL ev36, own_el ev_w_ALL A_w_ALL ev38, own_el ev_w_ALL A_w_ALL ev40, own_el ev_w_ALL A_w_ALL ev42, trivial⟩⟩
  have W : OwW s w_ALL w_STRING w_INT w_BIGINT w_DOUBLE w_BOOLEAN k_w_ALL := ⟨E_w_STRING, E_w_INT, E_w_BIGINT, E_w_DOUBLE, E_w_BOOLEAN, S_ColumnType_ALL, S_ColumnType_STRING, F_w_STRING_code, S_ColumnType_INT, F_w_INT_code, S_ColumnType_BIGINT, F_w_BIGINT_code, S_ColumnType_DOUBLE, F_w_DOUBLE_code, S_ColumnType_BOOLEAN, F_w_BOOLEAN_code, V_w_ALL, trivial⟩
  have fin : OwCon l x code maxLocals ret tables_1 room_1 #[(.int i0), (.int i1)] s s.heap (OwP (fun v _ => v = some (.int 1)) s.heap.size) := by
    exact rm0 l s _ hw tables_1 s.heap.size s.heap (Old.start s) w_ALL w_STRING w_INT w_BIGINT w_DOUBLE w_BOOLEAN k_w_ALL W i0 i1
  obtain ⟨n, o, h1, h2, h3, _, L, rfl, ⟨N, rfl⟩, hq⟩ := fin p e ha hc hk s m _ below hf ((Spec.applies_iff_loose hf).mp happ).1 ⟨rfl, State.Warmed39.refl s, rfl⟩ trivial
  refine ⟨n, _, h1, h2, h3, hpost _ _ _ _ _ _ ⟨Cond.after_iff.mpr rfl, Cond.after_iff.mpr (eq_i res_at (Term.int_eval (1)) rfl), trivial⟩ ⟨hq.1, hq.2.1, (hq.2.2.sift fun y hy => Or.inr (N y hy)).mono (by decide) (by decide)⟩⟩
theorem main_1_1 : Claimed_1_1 := comes_1 fun _ _ _ _ _ _ h hF => ⟨h.1, hF⟩
theorem main_1_2 : Claimed_1_2 := comes_1 fun _ _ _ _ _ _ h hF => ⟨h.2.1, hF⟩
end Jvm.Pilot.@@N@@
namespace Jvm.Pilot.@@N@@
open Jvm Jvm.ClassFile Sem Op Lib Jvm.Free Jvm.Stand Jvm.Pilot.@@N@@.Jvm.D
/-! MADE BY PROGRAM (witnessworld.py) out of the Statement's table words and the real class files: 13 classes; the members and pool entries that the words name. The judged class is class 1, her method 2. -/
namespace start1
open Jvm.ClassFile
def u (s : String) : CpInfo := .utf8 (stringToUtf16 s)
/-- a pool by its gaps: so many unusable entries, then the entry; so many at the end -/
def gap : Nat → List CpInfo → List CpInfo
  | 0, r => r
  | n + 1, r => .unusable :: gap n r
def poolList (es : List (Nat × CpInfo)) (last : Nat) : List CpInfo := es.foldr (fun e r => gap e.1 (e.2 :: r)) (gap last [])
def pool (es : List (Nat × CpInfo)) (last : Nat) : Array CpInfo := ⟨poolList es last⟩
def fileOf (pool : Array CpInfo) (this : Nat) (attrs : Array Attribute := #[]) (ms : Array MethodInfo := #[]) (fl : Nat := 33) (sup : Nat := 0) (ifs : Array Nat := #[]) (fds : Array FieldInfo := #[]) : ClassFile where
  minorVersion := 0
  majorVersion := 65
  constantPool := pool
  accessFlags := fl
  thisClass := this
  superClass := sup
  interfaces := ifs
  fields := fds
  methods := ms
  attributes := attrs
def plain (name : String) (sup : Option ClassId) : Class where
  name := name
  kind := .ordinary
  loader := none
  accessFlags := 33
  super := sup
  interfaces := #[]
  cf := none
  fields := #[]
  methods := #[]
  instanceTypes := #[]
  staticTypes := #[]
  resolved := #[]
  callSites := []
  init := .initialized
  statics := none
  mirror := none

def pool0 : Array CpInfo := pool [(5, u "<init>"), (0, u "()V"), (1, .class_ 10), (1, u "java/lang/Object")] 113

def k0m0 : Method := { name := "<init>", desc := "()V", sig := { parameters := [], returnType := none }, accessFlags := 1, code := none }
/-- java/lang/Object -/
def k0 : Class := { plain "java/lang/Object" none with
  accessFlags := 33
  interfaces := #[]
  cf := some (fileOf pool0 8 #[] #[{ accessFlags := 1, nameIndex := 5, descriptorIndex := 6, attributes := #[] }] 33 0 #[] #[])
  fields := #[]
  methods := #[k0m0]
  instanceTypes := #[]
  staticTypes := #[]
  resolved := Array.replicate 124 none
  statics := none }

def pool1 : Array CpInfo := pool [(2, .class_ 4), (1, u "java/lang/Object"), (0, u "<init>"), (0, u "()V"), (0, .fieldref 8 9), (0, .class_ 10), (0, .nameAndType 11 12), (0, u "com/example/lamina/lamina/engine/ColumnType"), (0, u "STRING"), (0, u "Lcom/example/lamina/lamina/engine/ColumnType;"), (0, .fieldref 8 14), (0, .nameAndType 15 12), (0, u "INT"), (0, .fieldref 8 17), (0, .nameAndType 18 12), (0, u "BIGINT"), (0, .fieldref 8 20), (0, .nameAndType 21 12), (0, u "DOUBLE"), (0, .fieldref 8 23), (0, .nameAndType 24 12), (0, u "BOOLEAN"), (0, .methodref 8 26), (0, .nameAndType 27 28), (0, u "ofCode"), (0, u "(I)Lcom/example/lamina/lamina/engine/ColumnType;"), (0, .methodref 30 31), (0, .class_ 32), (0, .nameAndType 33 28), (0, u "com/example/lamina/lamina/engine/ColumnTypeOfCodePinLaw"), (0, u "expected"), (3, u "law"), (0, u "(II)Z")] 2

def k1m0 : Method := { name := "<init>", desc := "()V", sig := { parameters := [], returnType := none }, accessFlags := 2, code := none }
def k1c1 : Code := { maxStack := 2, maxLocals := 1, code := method_2_code, exceptionTable := #[], attributes := #[] }
def k1m1 : Method := { name := "expected", desc := "(I)Lcom/example/lamina/lamina/engine/ColumnType;", sig := { parameters := [.int], returnType := some (.object "com/example/lamina/lamina/engine/ColumnType") }, accessFlags := 10, code := some k1c1 }
def k1c2 : Code := { maxStack := 2, maxLocals := 5, code := code, exceptionTable := #[], attributes := #[] }
def k1m2 : Method := { name := "law", desc := "(II)Z", sig := { parameters := [.int, .int], returnType := some .boolean }, accessFlags := 9, code := some k1c2 }
/-- com/example/lamina/lamina/engine/ColumnTypeOfCodePinLaw -/
def k1 : Class := { plain "com/example/lamina/lamina/engine/ColumnTypeOfCodePinLaw" (some 0) with
  accessFlags := 49
  interfaces := #[]
  cf := some (fileOf pool1 30 #[] #[{ accessFlags := 2, nameIndex := 5, descriptorIndex := 6, attributes := #[] }, { accessFlags := 10, nameIndex := 33, descriptorIndex := 28, attributes := #[] }, { accessFlags := 9, nameIndex := 37, descriptorIndex := 38, attributes := #[] }] 49 2 #[] #[])
  fields := #[]
  methods := #[k1m0, k1m1, k1m2]
  instanceTypes := #[]
  staticTypes := #[]
  resolved := Array.replicate 41 none
  statics := none }

def pool2 : Array CpInfo := pool [(1, .class_ 2), (0, u "java/lang/constant/Constable"), (0, .class_ 4), (0, u "java/lang/Object")] 6

/-- java/lang/constant/Constable -/
def k2 : Class := { plain "java/lang/constant/Constable" (some 0) with
  accessFlags := 1537
  interfaces := #[]
  cf := some (fileOf pool2 1 #[] #[] 1537 3 #[] #[])
  fields := #[]
  methods := #[]
  instanceTypes := #[]
  staticTypes := #[]
  resolved := Array.replicate 11 none
  statics := none }

def pool3 : Array CpInfo := pool [(1, .class_ 2), (0, u "java/lang/Comparable"), (0, .class_ 4), (0, u "java/lang/Object")] 7

/-- java/lang/Comparable -/
def k3 : Class := { plain "java/lang/Comparable" (some 0) with
  accessFlags := 1537
  interfaces := #[]
  cf := some (fileOf pool3 1 #[] #[] 1537 3 #[] #[])
  fields := #[]
  methods := #[]
  instanceTypes := #[]
  staticTypes := #[]
  resolved := Array.replicate 12 none
  statics := none }

def pool4 : Array CpInfo := pool [(1, .class_ 2), (0, u "java/io/Serializable"), (0, .class_ 4), (0, u "java/lang/Object")] 2

/-- java/io/Serializable -/
def k4 : Class := { plain "java/io/Serializable" (some 0) with
  accessFlags := 1537
  interfaces := #[]
  cf := some (fileOf pool4 1 #[] #[] 1537 3 #[] #[])
  fields := #[]
  methods := #[]
  instanceTypes := #[]
  staticTypes := #[]
  resolved := Array.replicate 7 none
  statics := none }

def pool5 : Array CpInfo := pool [(2, .class_ 4), (1, u "java/lang/Enum"), (0, u "name"), (0, u "Ljava/lang/String;"), (2, u "ordinal"), (0, u "I"), (1, .class_ 14), (1, u "java/lang/Object"), (4, u "hash"), (86, .class_ 108), (1, u "java/lang/Enum$EnumDesc"), (2, .class_ 112), (0, u "java/lang/constant/Constable"), (0, .class_ 114), (0, u "java/lang/Comparable"), (0, .class_ 116), (0, u "java/io/Serializable")] 87

/-- java/lang/Enum -/
def k5 : Class := { plain "java/lang/Enum" (some 0) with
  accessFlags := 1057
  interfaces := #[2, 3, 4]
  cf := some (fileOf pool5 2 #[.nestMembers #[106]] #[] 1057 12 #[111, 113, 115] #[{ accessFlags := 18, nameIndex := 5, descriptorIndex := 6, attributes := #[] }, { accessFlags := 18, nameIndex := 9, descriptorIndex := 10, attributes := #[] }, { accessFlags := 2, nameIndex := 19, descriptorIndex := 10, attributes := #[] }])
  fields := #[{ name := "name", type := (.object "java/lang/String"), accessFlags := 18, slot := 0, constantValue := 0 }, { name := "ordinal", type := .int, accessFlags := 18, slot := 1, constantValue := 0 }, { name := "hash", type := .int, accessFlags := 2, slot := 2, constantValue := 0 }]
  methods := #[]
  instanceTypes := #[(.object "java/lang/String"), .int, .int]
  staticTypes := #[]
  resolved := Array.replicate 204 none
  statics := none }

def pool6 : Array CpInfo := pool [(1, .class_ 2), (0, u "com/example/lamina/lamina/engine/ColumnType"), (2, u "STRING"), (0, u "Lcom/example/lamina/lamina/engine/ColumnType;"), (2, u "INT"), (2, u "BIGINT"), (2, u "DOUBLE"), (2, u "BOOLEAN"), (2, u "$VALUES"), (0, u "[Lcom/example/lamina/lamina/engine/ColumnType;"), (6, .class_ 31), (1, u "java/lang/Enum"), (6, .fieldref 1 39), (0, .nameAndType 40 41), (0, u "code"), (0, u "I"), (2, u "javaType"), (0, u "Ljava/lang/Class;"), (6, .fieldref 1 53), (0, .nameAndType 54 22), (0, u "ALL"), (38, u "ofCode"), (0, u "(I)Lcom/example/lamina/lamina/engine/ColumnType;")] 8

def k6c0 : Code := { maxStack := 2, maxLocals := 5, code := prog_7_method_7_code, exceptionTable := #[], attributes := #[] }
def k6m0 : Method := { name := "ofCode", desc := "(I)Lcom/example/lamina/lamina/engine/ColumnType;", sig := { parameters := [.int], returnType := some (.object "com/example/lamina/lamina/engine/ColumnType") }, accessFlags := 8, code := some k6c0 }
/-- com/example/lamina/lamina/engine/ColumnType -/
def k6 : Class := { plain "com/example/lamina/lamina/engine/ColumnType" (some 5) with
  accessFlags := 16433
  interfaces := #[]
  cf := some (fileOf pool6 1 #[] #[{ accessFlags := 8, nameIndex := 93, descriptorIndex := 94, attributes := #[] }] 16433 29 #[] #[{ accessFlags := 16409, nameIndex := 5, descriptorIndex := 6, attributes := #[] }, { accessFlags := 16409, nameIndex := 9, descriptorIndex := 6, attributes := #[] }, { accessFlags := 16409, nameIndex := 12, descriptorIndex := 6, attributes := #[] }, { accessFlags := 16409, nameIndex := 15, descriptorIndex := 6, attributes := #[] }, { accessFlags := 16409, nameIndex := 18, descriptorIndex := 6, attributes := #[] }, { accessFlags := 26, nameIndex := 54, descriptorIndex := 22, attributes := #[] }, { accessFlags := 18, nameIndex := 40, descriptorIndex := 41, attributes := #[] }, { accessFlags := 18, nameIndex := 44, descriptorIndex := 45, attributes := #[] }, { accessFlags := 4122, nameIndex := 21, descriptorIndex := 22, attributes := #[] }])
  fields := #[{ name := "STRING", type := (.object "com/example/lamina/lamina/engine/ColumnType"), accessFlags := 16409, slot := 0, constantValue := 0 }, { name := "INT", type := (.object "com/example/lamina/lamina/engine/ColumnType"), accessFlags := 16409, slot := 1, constantValue := 0 }, { name := "BIGINT", type := (.object "com/example/lamina/lamina/engine/ColumnType"), accessFlags := 16409, slot := 2, constantValue := 0 }, { name := "DOUBLE", type := (.object "com/example/lamina/lamina/engine/ColumnType"), accessFlags := 16409, slot := 3, constantValue := 0 }, { name := "BOOLEAN", type := (.object "com/example/lamina/lamina/engine/ColumnType"), accessFlags := 16409, slot := 4, constantValue := 0 }, { name := "ALL", type := (.array (.object "com/example/lamina/lamina/engine/ColumnType")), accessFlags := 26, slot := 5, constantValue := 0 }, { name := "code", type := .int, accessFlags := 18, slot := 3, constantValue := 0 }, { name := "javaType", type := (.object "java/lang/Class"), accessFlags := 18, slot := 4, constantValue := 0 }, { name := "$VALUES", type := (.array (.object "com/example/lamina/lamina/engine/ColumnType")), accessFlags := 4122, slot := 6, constantValue := 0 }]
  methods := #[k6m0]
  instanceTypes := #[(.object "java/lang/String"), .int, .int, .int, (.object "java/lang/Class")]
  staticTypes := #[(.object "com/example/lamina/lamina/engine/ColumnType"), (.object "com/example/lamina/lamina/engine/ColumnType"), (.object "com/example/lamina/lamina/engine/ColumnType"), (.object "com/example/lamina/lamina/engine/ColumnType"), (.object "com/example/lamina/lamina/engine/ColumnType"), (.array (.object "com/example/lamina/lamina/engine/ColumnType")), (.array (.object "com/example/lamina/lamina/engine/ColumnType"))]
  resolved := Array.replicate 103 none
  statics := some 0 }

def pool7 : Array CpInfo := pool [(1, u "java/lang/Cloneable"), (0, .class_ 1), (0, u "java/lang/Object"), (0, .class_ 3)] 3

/-- java/lang/Cloneable -/
def k7 : Class := { plain "java/lang/Cloneable" (some 0) with
  accessFlags := 1537
  interfaces := #[]
  cf := some (fileOf pool7 2 #[] #[] 1537 4 #[] #[])
  fields := #[]
  methods := #[]
  instanceTypes := #[]
  staticTypes := #[]
  resolved := Array.replicate 8 none
  statics := none }

/-- the primitive byte -/
def k8 : Class := { plain "byte" none with kind := .primitive 'B', accessFlags := 0x411 }
/-- [B -/
def k9 : Class := { plain "[B" (some 0) with kind := .array 8 .byte, interfaces := #[7, 4], accessFlags := 1041 }

/-- the primitive int -/
def k10 : Class := { plain "int" none with kind := .primitive 'I', accessFlags := 0x411 }
/-- [I -/
def k11 : Class := { plain "[I" (some 0) with kind := .array 10 .int, interfaces := #[7, 4], accessFlags := 1041 }

/-- [Lcom/example/lamina/lamina/engine/ColumnType; -/
def k12 : Class := { plain "[Lcom/example/lamina/lamina/engine/ColumnType;" (some 0) with kind := .array 6 (.object "com/example/lamina/lamina/engine/ColumnType"), interfaces := #[7, 4], accessFlags := 1041 }

def heap : Heap := #[{ cls := 6, slots := #[.ref 2, .ref 3, .ref 4, .ref 5, .ref 6, .ref 1, .null], vm := .statics 6 },
  { cls := 12, slots := #[.ref 2, .ref 3, .ref 4, .ref 5, .ref 6], vm := .none },
  { cls := 6, slots := #[.null, .int 0, .int 0, .int 1, .null], vm := .none },
  { cls := 6, slots := #[.null, .int 0, .int 0, .int 2, .null], vm := .none },
  { cls := 6, slots := #[.null, .int 0, .int 0, .int 3, .null], vm := .none },
  { cls := 6, slots := #[.null, .int 0, .int 0, .int 4, .null], vm := .none },
  { cls := 6, slots := #[.null, .int 0, .int 0, .int 5, .null], vm := .none }]
def classes : Array Class := #[k0, k1, k2, k3, k4, k5, k6, k7, k8, k9, k10, k11, k12]
def interned : List (Array UInt16 × Addr) := []
def slotsUsed : Nat := 37
def theMethod : MethodId := ⟨1, 2⟩
def args0 : Array Value := #[.int 7, .int 5]
def aboutOver (below : List Frame) : State where
  vm := { classes := classes, interned := interned.toArray }
  heap := heap
  slotsUsed := slotsUsed
  threads := #[{ frames := .invoking theMethod args0 :: below }]
def below0 : List Frame := [.native { method := ⟨0, 0⟩, args := #[] }]
def about1 : State := aboutOver below0
def p0 : Program := .bare "" "" ""
def e0 : Env := launch0.env 0 0 0
theorem w_frames : about1.frames = Frame.invoking theMethod args0 :: below0 := rfl
set_option maxRecDepth 65536 in
theorem w_args : argsFit about1.vm theMethod args0 = true := by decide +kernel
set_option maxRecDepth 65536 in
theorem w_heap : heapFits about1 = true := by decide +kernel
set_option maxRecDepth 65536 in
theorem w_runnable : about1.curStatus? = some .runnable := by decide +kernel
set_option maxRecDepth 65536 in
theorem w_alone : about1.alone = true := by decide +kernel
set_option maxRecDepth 65536 in
theorem w_named : about1.methodNamed? x = some theMethod := by decide +kernel
set_option maxRecDepth 65536 in
theorem w_hears : about1.hears theMethod below0 = true := by decide +kernel
set_option maxRecDepth 65536 in
theorem w_ripe : about1.ripe theMethod args0 below0 = true := by decide +kernel
theorem w_running : about1.status = .running := rfl
set_option maxRecDepth 65536 in
theorem w_room : about1.hasRoom e0.platform room_1 = true :=
  launch0.hasRoom_least _ room_1 (by decide +kernel) (by decide +kernel) (by decide +kernel) (by decide +kernel) (by decide +kernel) (by decide +kernel)
theorem allAtoms_all (ts : List Jvm.Cond) (a : Array Jvm.Value) (st : Jvm.State) : (allAtoms ts).before a st = ts.all (fun c => c.before a st) := by
  induction ts with
  | nil => rfl
  | cons c t ih =>
    show (Jvm.Cond.and c (allAtoms t)).before a st = _
    rw [Jvm.Cond.before_and, ih, List.all_cons]
def words1 : List Jvm.Cond := Jvm.Cond.code x code maxLocals ret :: tables_1
/-- a 'code' word, met by the world's own term for the bytes: nothing is compared byte by byte -/
theorem code_word {y : MethodName} {bytes : ByteArray} {mx : Nat} {rt : Option FieldType} {a : Array Value} {s : State} {m : MethodId} {meth : Method} {c : Code} (h1 : s.methodNamed? y = some m) (h2 : s.vm.method? m = some meth) (h3 : meth.code = some c) (h4 : c.code = bytes)
    (h5 : (c.maxLocals == mx && c.exceptionTable.isEmpty && decide (c.maxStack ≤ mostOperands) && decide (meth.sig.returnType = rt) && !meth.locks && decide (parseMethodDescriptor y.desc = some meth.sig)) = true) : (Jvm.Cond.code y bytes mx rt).before a s = true := by
  simp only [Bool.and_eq_true, beq_iff_eq, Bool.not_eq_true', decide_eq_true_eq] at h5
  obtain ⟨⟨⟨⟨⟨g1, g2⟩, g3⟩, g4⟩, g5⟩, g6⟩ := h5
  simp [Cond.before, Cond.holds, Cond.value, h1, h2, h3, h4, g1, g2, g3, g4, g5, g6]
def isCode : Jvm.Cond → Bool
  | .code _ _ _ _ => true
  | _ => false
theorem all_split {L : List Jvm.Cond} {P : Jvm.Cond → Bool} (h1 : L.all (fun c => isCode c || P c) = true) (h2 : ∀ c ∈ L.filter isCode, P c = true) : L.all P = true := by
  refine List.all_eq_true.mpr fun c hc => ?_
  have h := List.all_eq_true.mp h1 c hc
  rcases Bool.eq_false_or_eq_true (isCode c) with hi | hi
  · exact h2 c (List.mem_filter.mpr ⟨hc, hi⟩)
  · simpa [hi] using h
set_option maxRecDepth 65536 in
theorem w_c0 : (Jvm.Cond.code x code maxLocals ret).before args0 about1 = true := code_word (m := ⟨1, 2⟩) (meth := k1m2) (c := k1c2) (by decide +kernel) rfl rfl rfl (by decide +kernel)
set_option maxRecDepth 65536 in
theorem w_c1 : (Jvm.Cond.code ({ cls := "com/example/lamina/lamina/engine/ColumnType", name := "ofCode", desc := "(I)Lcom/example/lamina/lamina/engine/ColumnType;" } : Jvm.MethodName) prog_7_method_7_code (5 : Nat) (Option.some (Jvm.ClassFile.FieldType.object "com/example/lamina/lamina/engine/ColumnType"))).before args0 about1 = true := code_word (m := ⟨6, 0⟩) (meth := k6m0) (c := k6c0) (by decide +kernel) rfl rfl rfl (by decide +kernel)
set_option maxRecDepth 65536 in
theorem w_c2 : (Jvm.Cond.code ({ cls := "com/example/lamina/lamina/engine/ColumnTypeOfCodePinLaw", name := "expected", desc := "(I)Lcom/example/lamina/lamina/engine/ColumnType;" } : Jvm.MethodName) method_2_code (1 : Nat) (Option.some (Jvm.ClassFile.FieldType.object "com/example/lamina/lamina/engine/ColumnType"))).before args0 about1 = true := code_word (m := ⟨1, 1⟩) (meth := k1m1) (c := k1c1) (by decide +kernel) rfl rfl rfl (by decide +kernel)
def codes1 : List Jvm.Cond := [Jvm.Cond.code x code maxLocals ret, Jvm.Cond.code ({ cls := "com/example/lamina/lamina/engine/ColumnType", name := "ofCode", desc := "(I)Lcom/example/lamina/lamina/engine/ColumnType;" } : Jvm.MethodName) prog_7_method_7_code (5 : Nat) (Option.some (Jvm.ClassFile.FieldType.object "com/example/lamina/lamina/engine/ColumnType")), Jvm.Cond.code ({ cls := "com/example/lamina/lamina/engine/ColumnTypeOfCodePinLaw", name := "expected", desc := "(I)Lcom/example/lamina/lamina/engine/ColumnType;" } : Jvm.MethodName) method_2_code (1 : Nat) (Option.some (Jvm.ClassFile.FieldType.object "com/example/lamina/lamina/engine/ColumnType"))]
set_option maxRecDepth 65536 in
theorem codes_eq : words1.filter isCode = codes1 := rfl
theorem w_codes : ∀ c ∈ words1.filter isCode, c.before args0 about1 = true := by
  rw [codes_eq]
  intro c hc
  simp only [codes1, List.mem_cons, List.not_mem_nil, or_false] at hc
  rcases hc with rfl | rfl | rfl
  · exact w_c0
  · exact w_c1
  · exact w_c2
set_option maxRecDepth 65536 in
theorem w_t1 : words1.all (fun c => isCode c || c.before args0 about1) = true := by decide +kernel
theorem w_tables : (allAtoms (Jvm.Cond.code x code maxLocals ret :: tables_1)).before args0 about1 = true := by
  rw [allAtoms_all]
  show words1.all (fun c => c.before args0 about1) = true
  refine all_split ?_ w_codes
  rw [w_t1]
set_option maxRecDepth 65536 in
theorem w_case : (Jvm.Cond.and given_1 narrow_1).before args0 about1 = true := by decide +kernel
theorem w_applies : (headSpec (Jvm.Cond.code x code maxLocals ret :: tables_1) room_1).applies x e0.platform about1 = true :=
  (Spec.applies_iff w_frames).mpr ⟨w_running, w_runnable, w_alone, w_named, w_hears, w_ripe, w_room, w_tables⟩
theorem atStart : AtStart classFile x code maxLocals ret World_1 tables_1 room_1 Calls_1 rest_1 Pre_1 launch0 p0 e0 about1 theMethod args0 below0 :=
  ⟨lists_1, trivial, launch0.admits_env _ _ _, launch0.least_env, fairChoices_fair.cas, fairChoices_fair.clock, w_frames, w_args, w_heap, w_applies, trivial, trivial, w_case⟩
end start1
theorem witness_1 : WitnessClaimed_1 := ⟨start1.p0, start1.e0, start1.about1, start1.theMethod, start1.args0, start1.below0, start1.atStart⟩
end Jvm.Pilot.@@N@@
