import JvmDerived
import JvmDerived.Pilot.@@N@@Statement
import JvmDerived.Pilot.@@N@@Code
set_option linter.unusedVariables false
set_option linter.unusedSimpArgs false
namespace Jvm.RoadKit
open Sem ClassFile Op Lib Jvm.Stand Jvm.Free Jvm.LawKit
section New
variable {p : Program} {l : Launch} {e : Env} {R : Room} {s : State} {m : MethodId} {args : Array Value} {below : List Frame} {meth : Method} {c : Code} {T : State} {locs : List Loc} {cells slots : Nat}
theorem retI (X : Stand p l e R s m args below meth c T locs cells slots) (hx : p.tables.exec = Jvm.exec) {pc : Nat} {Ls : Array Slot} {z : Int32} {rest : List Value} (hret : meth.sig.returnType = some .int) (hd : decode c.code pc = .ok (.ireturn, 1)) {fs : List Frame}
    (hl : ∀ (f : JFrame) (acts : List Action), f.method = m → f.locked = none → f.entered = [] → (doReturn e (T.setTop f) acts (some (.int z))).1 = T.setFrames fs) : Steps p.tables e below (T.setTop (mkF m pc Ls (.int z :: rest))) (T.setFrames fs) := by
  have hm' : T.vm.method? m = some meth := X.method'
  have hn : narrow .int (.int z) = .int z := rfl
  show Steps p.tables e below (T.setTop { method := m, pc := pc, locals := Ls, stack := _ :: rest, locked := none }) _
  jvm_step X.here [X.here.top, hx, hd, hm', hret, hn]
  first | (intro acts; rw [hl _ acts rfl rfl rfl]) | rw [hl _ _ rfl rfl rfl]
  exact Steps.refl _
end New
end Jvm.RoadKit
namespace Jvm.Pilot.@@N@@
open Jvm Jvm.ClassFile Sem Op Lib Jvm.Free Jvm.Stand Jvm.LawKit Jvm.RoadKit Bundle Jvm.Pilot.@@N@@.Jvm.D
/-- a body's contract: from these arguments and this heap it returns, and Q says what it leaves -/
abbrev OwCon (l : Launch) (y : MethodName) (bytes : ByteArray) (ml : Nat) (ret : Option FieldType) (ws : List Jvm.Cond) (rm : Room) (as : Array Value) (Z : State) (h0 : Heap) (Q : Option Value → Heap → List Loc → Prop) : Prop :=
  MetFree l y (head1 (Jvm.Cond.code y bytes ml ret :: ws) rm) (fun a U => a = as ∧ Z.Warmed39 U.vm ∧ U.heap = h0) (fun _ _ _ _ _ => True) (fun _ U o U' => ∃ v L, o = .returned v ∧ Q v U'.heap L ∧ FrameEnd U o U' L rm.cells rm.slots)
/-- .. it may load literals that nobody loaded before -/
abbrev OwConW (l : Launch) (y : MethodName) (bytes : ByteArray) (ml : Nat) (ret : Option FieldType) (ws : List Jvm.Cond) (rm : Room) (as : Array Value) (Z : State) (h0 : Heap) (Q : Option Value → Heap → List Loc → Prop) : Prop :=
  MetFree l y (head1 (Jvm.Cond.code y bytes ml ret :: ws) rm) (fun a U => a = as ∧ Z.Warmed39 U.vm ∧ U.heap = h0) (fun _ _ _ _ _ => True) (fun _ U o U' => ∃ v L, o = .returned v ∧ Q v U'.heap L ∧ ReturnedEndW U o U' L rm.cells rm.slots)
/-- it returns val and leaves the heap as it was -/
def OwQ (val : Option Value) (h0 : Heap) (n0 : Nat) (v : Option Value) (h : Heap) (L : List Loc) : Prop := v = val ∧ Fr n0 L ∧ h = h0
/-- it writes nothing old, and P holds of what it returns and leaves -/
def OwP (P : Option Value → Heap → Prop) (n0 : Nat) (v : Option Value) (h : Heap) (L : List Loc) : Prop := Fr n0 L ∧ P v h
theorem own_eqI {args : Array Value} {s : State} {t : Term} {k : Int32} (h : (Jvm.Cond.eq t (.int k)).value args s none s [] = some true) : t.eval args s none [] s = some (.int k) := by
  obtain ⟨x, y, h1, h2, -, q⟩ := cmp_v (Or.inl h)
  cases h2
  obtain ⟨z, rfl⟩ := q
  rw [h1]; simp [Cond.value, h1, Term.eval] at h; rw [h]
theorem own_eqJ {args : Array Value} {s : State} {t : Term} {k : Int64} (h : (Jvm.Cond.eq t (.long k)).value args s none s [] = some true) : t.eval args s none [] s = some (.long k) := by
  obtain ⟨x, y, h1, h2, -, q⟩ := cmp_v (Or.inl h)
  cases h2
  obtain ⟨z, rfl⟩ := q
  rw [h1]; simp [Cond.value, h1, Term.eval] at h; rw [h]
theorem own_eqR {args : Array Value} {s : State} {t t' : Term} {a : Addr} (h : (Jvm.Cond.eq t t').value args s none s [] = some true) (e : t'.eval args s none [] s = some (.ref a)) : t.eval args s none [] s = some (.ref a) := by
  obtain ⟨x, y, h1, h2, q, -⟩ := cmp_v (Or.inl h)
  cases e.symm.trans h2
  cases x with
  | null => simp [Cond.value, h1, h2] at h
  | ref b => simp [Cond.value, h1, h2] at h; rw [h1, h]
  | _ => simp [Kin, Value.isRef] at q
theorem own_cat {v : Value} (h : v.isRef = true) : v.category = 1 := by rcases ref_cases h with rfl | ⟨a, rfl⟩ <;> rfl
theorem own_len {args : Array Value} {s : State} {t : Term} {a : Addr} {cl : Cell} {ty : FieldType} {n : Int32} (e : t.eval args s none [] s = some (.ref a)) (A : Arr s s.heap a cl ty) (h : (Term.length t).eval args s none [] s = some (.int n)) : cl.slots.size < 2 ^ 31 ∧ cl.slots.size.toInt32 = n := by
  have q := Arr.fin (Vm.Alike.refl _) A
  simpa [Term.eval, e, q] using h
theorem own_el {args : Array Value} {s : State} {t : Term} {a : Addr} {cl : Cell} {ty : FieldType} {j : Int32} {v : Value} (e : t.eval args s none [] s = some (.ref a)) (A : Arr s s.heap a cl ty) (h : (Term.elem t (.int j)).eval args s none [] s = some v) : cl.slots[j.toNatClampNeg]? = some v := (elem_in h e rfl A.1).2
theorem own_fld {args : Array Value} {s : State} {t : Term} {a : Addr} {C n d : String} {v : Value} (e : t.eval args s none [] s = some (.ref a)) (h : (Term.field t C n d).eval args s none [] s = some v) : Fld s s.heap a C n d v := Fld.start ((fld_at e).symm.trans h)

theorem d1_0 : decode prog_14_method_5_code 0 = .ok (.getstatic 36, 3) := by decide +kernel
theorem d1_3 : decode prog_14_method_5_code 3 = .ok (.astore_n 1, 1) := by decide +kernel
theorem d1_4 : decode prog_14_method_5_code 4 = .ok (.aload_n 1, 1) := by decide +kernel
theorem d1_5 : decode prog_14_method_5_code 5 = .ok (.arraylength, 1) := by decide +kernel
theorem d1_6 : decode prog_14_method_5_code 6 = .ok (.istore_n 2, 1) := by decide +kernel
theorem d1_7 : decode prog_14_method_5_code 7 = .ok (.iconst 0, 1) := by decide +kernel
theorem d1_8 : decode prog_14_method_5_code 8 = .ok (.istore_n 3, 1) := by decide +kernel
theorem d1_9 : decode prog_14_method_5_code 9 = .ok (.iload_n 3, 1) := by decide +kernel
theorem d1_10 : decode prog_14_method_5_code 10 = .ok (.iload_n 2, 1) := by decide +kernel
theorem d1_11 : decode prog_14_method_5_code 11 = .ok (.if_icmp .ge 26, 3) := by decide +kernel
theorem d1_14 : decode prog_14_method_5_code 14 = .ok (.aload_n 1, 1) := by decide +kernel
theorem d1_15 : decode prog_14_method_5_code 15 = .ok (.iload_n 3, 1) := by decide +kernel
theorem d1_16 : decode prog_14_method_5_code 16 = .ok (.aaload, 1) := by decide +kernel
theorem d1_17 : decode prog_14_method_5_code 17 = .ok (.astore 4, 2) := by decide +kernel
theorem d1_19 : decode prog_14_method_5_code 19 = .ok (.aload 4, 2) := by decide +kernel
theorem d1_21 : decode prog_14_method_5_code 21 = .ok (.getfield 32, 3) := by decide +kernel
theorem d1_24 : decode prog_14_method_5_code 24 = .ok (.iload_n 0, 1) := by decide +kernel
theorem d1_25 : decode prog_14_method_5_code 25 = .ok (.if_icmp .ne 6, 3) := by decide +kernel
theorem d1_28 : decode prog_14_method_5_code 28 = .ok (.aload 4, 2) := by decide +kernel
theorem d1_30 : decode prog_14_method_5_code 30 = .ok (.areturn, 1) := by decide +kernel
theorem d1_31 : decode prog_14_method_5_code 31 = .ok (.iinc 3 1, 3) := by decide +kernel
theorem d1_34 : decode prog_14_method_5_code 34 = .ok (.goto (-25), 3) := by decide +kernel
theorem d1_37 : decode prog_14_method_5_code 37 = .ok (.aconst_null, 1) := by decide +kernel
theorem d1_38 : decode prog_14_method_5_code 38 = .ok (.areturn, 1) := by decide +kernel
theorem owpn1 : plainName "com/example/lamina/lamina/engine/Operation" = true := by first | (simp [plainName, overriddenIn]; done) | decide +kernel
theorem d2_0 : decode method_2_code 0 = .ok (.iload_n 0, 1) := by decide +kernel
theorem d2_1 : decode method_2_code 1 = .ok (.iconst 1, 1) := by decide +kernel
theorem d2_2 : decode method_2_code 2 = .ok (.if_icmp .ne 7, 3) := by decide +kernel
theorem d2_5 : decode method_2_code 5 = .ok (.getstatic 7, 3) := by decide +kernel
theorem d2_8 : decode method_2_code 8 = .ok (.areturn, 1) := by decide +kernel
theorem d2_9 : decode method_2_code 9 = .ok (.iload_n 0, 1) := by decide +kernel
theorem d2_10 : decode method_2_code 10 = .ok (.iconst 2, 1) := by decide +kernel
theorem d2_11 : decode method_2_code 11 = .ok (.if_icmp .ne 7, 3) := by decide +kernel
theorem d2_14 : decode method_2_code 14 = .ok (.getstatic 13, 3) := by decide +kernel
theorem d2_17 : decode method_2_code 17 = .ok (.areturn, 1) := by decide +kernel
theorem d2_18 : decode method_2_code 18 = .ok (.iload_n 0, 1) := by decide +kernel
theorem d2_19 : decode method_2_code 19 = .ok (.iconst 3, 1) := by decide +kernel
theorem d2_20 : decode method_2_code 20 = .ok (.if_icmp .ne 7, 3) := by decide +kernel
theorem d2_23 : decode method_2_code 23 = .ok (.getstatic 16, 3) := by decide +kernel
theorem d2_26 : decode method_2_code 26 = .ok (.areturn, 1) := by decide +kernel
theorem d2_27 : decode method_2_code 27 = .ok (.aconst_null, 1) := by decide +kernel
theorem d2_28 : decode method_2_code 28 = .ok (.areturn, 1) := by decide +kernel
theorem owpn2 : plainName "com/example/lamina/lamina/engine/OperationOfCodePinLaw" = true := by first | (simp [plainName, overriddenIn]; done) | decide +kernel
theorem owpn0 : plainName "com/example/lamina/lamina/engine/OperationOfCodePinLaw" = true := by first | (simp [plainName, overriddenIn]; done) | decide +kernel
theorem owpd0 : parseMethodDescriptor "(I)Lcom/example/lamina/lamina/engine/Operation;" = some ⟨[.int], some (.object "com/example/lamina/lamina/engine/Operation")⟩ := by decide +kernel
def OwW (Z : State) (w_ALL : Addr) (w_INSERT : Addr) (w_UPDATE : Addr) (w_DELETE : Addr) (k_w_ALL : ClassId) : Prop := (Exa Z Z.heap w_INSERT "com/example/lamina/lamina/engine/Operation") ∧ (Exa Z Z.heap w_UPDATE "com/example/lamina/lamina/engine/Operation") ∧ (Exa Z Z.heap w_DELETE "com/example/lamina/lamina/engine/Operation") ∧ (Sta Z Z.heap "com/example/lamina/lamina/engine/Operation" "ALL" "[Lcom/example/lamina/lamina/engine/Operation;" (.ref w_ALL)) ∧ (Sta Z Z.heap "com/example/lamina/lamina/engine/Operation" "INSERT" "Lcom/example/lamina/lamina/engine/Operation;" (.ref w_INSERT)) ∧ (Fld Z Z.heap w_INSERT "com/example/lamina/lamina/engine/Operation" "code" "I" (.int (1 : Int32))) ∧ (Sta Z Z.heap "com/example/lamina/lamina/engine/Operation" "UPDATE" "Lcom/example/lamina/lamina/engine/Operation;" (.ref w_UPDATE)) ∧ (Fld Z Z.heap w_UPDATE "com/example/lamina/lamina/engine/Operation" "code" "I" (.int (2 : Int32))) ∧ (Sta Z Z.heap "com/example/lamina/lamina/engine/Operation" "DELETE" "Lcom/example/lamina/lamina/engine/Operation;" (.ref w_DELETE)) ∧ (Fld Z Z.heap w_DELETE "com/example/lamina/lamina/engine/Operation" "code" "I" (.int (3 : Int32))) ∧ (Arv Z Z.heap w_ALL k_w_ALL (.object "com/example/lamina/lamina/engine/Operation") (3 : Int32) [(.ref w_INSERT), (.ref w_UPDATE), (.ref w_DELETE)] .null) ∧ True
def owF (w_INSERT w_UPDATE w_DELETE : Addr) (c : Int32) : Value := if c = 1 then .ref w_INSERT else if c = 2 then .ref w_UPDATE else if c = 3 then .ref w_DELETE else .null
theorem owF_ref (w_INSERT w_UPDATE w_DELETE : Addr) (c : Int32) : (owF w_INSERT w_UPDATE w_DELETE c).isRef = true := by unfold owF; (repeat' split) <;> rfl
theorem owF_1 (w_INSERT w_UPDATE w_DELETE : Addr) : owF w_INSERT w_UPDATE w_DELETE (1 : Int32) = .ref w_INSERT := by simp [owF]
theorem owF_2 (w_INSERT w_UPDATE w_DELETE : Addr) : owF w_INSERT w_UPDATE w_DELETE (2 : Int32) = .ref w_UPDATE := by simp [owF]
theorem owF_3 (w_INSERT w_UPDATE w_DELETE : Addr) : owF w_INSERT w_UPDATE w_DELETE (3 : Int32) = .ref w_DELETE := by simp [owF]
theorem owF_o (w_INSERT w_UPDATE w_DELETE : Addr) {c : Int32} (h1 : ¬ (1 : Int32) = c) (h2 : ¬ (2 : Int32) = c) (h3 : ¬ (3 : Int32) = c) : owF w_INSERT w_UPDATE w_DELETE c = .null := by simp [owF, Ne.symm h1, Ne.symm h2, Ne.symm h3]

set_option maxRecDepth 65536 in
set_option maxHeartbeats 40000000 in
theorem rm1_1 (l : Launch) (Z : State) (a0 : Array Value) (hw : ∀ d ∈ tables_1, d.before a0 Z = true) (ws : List Jvm.Cond) (n0 : Nat) (h0 : Heap) (O : Old Z n0 h0) (w_ALL : Addr) (w_INSERT : Addr) (w_UPDATE : Addr) (w_DELETE : Addr) (k_w_ALL : ClassId) (W : OwW Z w_ALL w_INSERT w_UPDATE w_DELETE k_w_ALL)  :
    OwCon l (⟨"com/example/lamina/lamina/engine/Operation", "ofCode", "(I)Lcom/example/lamina/lamina/engine/Operation;"⟩ : MethodName) prog_14_method_5_code 5 (some (.object "com/example/lamina/lamina/engine/Operation")) ws ({ frames := 0, cells := 0, slots := 0, locals := 0 } : Room) #[(.int (1 : Int32))] Z h0 (OwQ (some (.ref w_INSERT)) h0 n0) := by
  refine MetFree.of_bodySF (plainFor_of_name owpn1) hisR ?_
  intro p e s m args below meth c s₁ Bd hml0 hP hK
  obtain ⟨rfl, hZ, hh⟩ := hP
  have hx := Bd.exec
  have hby := Bd.bytes
  have hml : c.maxLocals = 5 := hml0
  have hown : s.vm.findClass "com/example/lamina/lamina/engine/Operation" = some m.cls := findClass_of_methodNamed Bd.named
  have hnm := (name_of_methodNamed Bd.named Bd.method).1
  have X0 : Stand p l e ({ frames := 0, cells := 0, slots := 0, locals := 0 } : Room) s m #[(.int (1 : Int32))] below meth c s₁ [] 0 0 := Stand.of_body Bd
  have e0 : s₁.heap = h0 := by rw [← hh, Bd.state]; rfl
  have N0 := Fr.nil n0
  have WW := W
  obtain ⟨E_w_INSERT, E_w_UPDATE, E_w_DELETE, S_Operation_ALL, S_Operation_INSERT, F_w_INSERT_code, S_Operation_UPDATE, F_w_UPDATE_code, S_Operation_DELETE, F_w_DELETE_code, V_w_ALL, -⟩ := WW
  have ef : entryFrame m #[(.int (1 : Int32))] 5 = mkF m 0 #[.val (.int (1 : Int32)), .unset, .unset, .unset, .unset] [] := by first | rfl | (simp [entryFrame, mkF, argsToLocals, Value.category]; done)
  have pre0 : ∀ t, Steps p.tables e below (s₁.setTop (mkF m 0 #[.val (.int (1 : Int32)), .unset, .unset, .unset, .unset] [])) t → Steps p.tables e below (s₁.setTop (entryFrame m #[(.int (1 : Int32))] 5)) t := fun t k => castTop ef k
  obtain ⟨T1, X1, e1, st1⟩ := getS2 X0 hx hZ hown (host := "") (Or.inl (hw _ (List.mem_of_getElem? (i := 5) rfl))) Via.refl e0 (S_Operation_ALL.ext O.2) (g := (mkF m 0 #[.val (.int (1 : Int32)), .unset, .unset, .unset, .unset] [])) rfl (hb hby d1_0)
  obtain ⟨cl2, Ar2, q2, Sz2, Nn2, Hs2, -⟩ := (V_w_ALL.ext O.2)
  obtain ⟨cl3, Ar3, q3, Sz3, Nn3, Hs3, -⟩ := (V_w_ALL.ext O.2)
  have hin3 : ¬ ((0 : Int32) < 0 ∨ cl3.slots.size ≤ ((0 : Int32)).toNatClampNeg) := inb_of Sz3 ⟨by decide, by decide⟩
  have hat3 : cl3.slots[((0 : Int32)).toNatClampNeg]? = some (.ref w_INSERT) := Has.at Hs3 hin3 rfl
  obtain ⟨T4, X4, e4, st4⟩ := getF X1 hx hZ hown (host := "") (Or.inl (hw _ (List.mem_of_getElem? (i := 8) rfl))) Via.refl e1 (F_w_INSERT_code.ext O.2) (g := (mkF m 21 #[.val (.int (1 : Int32)), .val (.ref w_ALL), .val (.int (3 : Int32)), .val (.int (0 : Int32)), .val (.ref w_INSERT)] [(.ref w_INSERT)])) rfl rfl (hb hby d1_21)
  obtain ⟨fs, hr, hrun, hended, hW, hsame⟩ := X4.leave (v := some (.ref w_INSERT)) (fun h => by rw [Bd.returns] at h; cases h)
  refine ⟨_, _, pre0 _ ?_, hrun, hended, _, _, rfl, ?_, ⟨_, rfl⟩, hW, hsame.mono (by decide) (by decide)⟩
  · show Steps p.tables e below (s₁.setTop (mkF m 0 #[.val (.int (1 : Int32)), .unset, .unset, .unset, .unset] [])) _
    refine st1 _ ?_
    show Steps p.tables e below (T1.setTop (mkF m 3 #[.val (.int (1 : Int32)), .unset, .unset, .unset, .unset] [(.ref w_ALL)])) _
    refine XS.astoreN X1.here hx rfl (hb hby d1_3) rfl rfl (l' := #[.val (.int (1 : Int32)), .val (.ref w_ALL), .unset, .unset, .unset]) rfl ?_
    show Steps p.tables e below (T1.setTop (mkF m 4 #[.val (.int (1 : Int32)), .val (.ref w_ALL), .unset, .unset, .unset] [])) _
    refine XS.aloadN X1.here hx rfl (hb hby d1_4) rfl rfl ?_
    show Steps p.tables e below (T1.setTop (mkF m 5 #[.val (.int (1 : Int32)), .val (.ref w_ALL), .unset, .unset, .unset] [(.ref w_ALL)])) _
    refine X1.arraylength hx (by rw [e1]; exact Ar2.1) (State.isArrayOf_alike hZ.alike Ar2.2.1) (g := (mkF m 5 #[.val (.int (1 : Int32)), .val (.ref w_ALL), .unset, .unset, .unset] [(.ref w_ALL)])) rfl rfl (hb hby d1_5) _ ?_
    rw [len_of Sz2 Nn2]
    show Steps p.tables e below (T1.setTop (mkF m 6 #[.val (.int (1 : Int32)), .val (.ref w_ALL), .unset, .unset, .unset] [(.int (3 : Int32))])) _
    refine XS.istoreN X1.here hx rfl (hb hby d1_6) rfl (l' := #[.val (.int (1 : Int32)), .val (.ref w_ALL), .val (.int (3 : Int32)), .unset, .unset]) rfl ?_
    show Steps p.tables e below (T1.setTop (mkF m 7 #[.val (.int (1 : Int32)), .val (.ref w_ALL), .val (.int (3 : Int32)), .unset, .unset] [])) _
    refine XS.iconst X1.here hx rfl (hb hby d1_7) ?_
    show Steps p.tables e below (T1.setTop (mkF m 8 #[.val (.int (1 : Int32)), .val (.ref w_ALL), .val (.int (3 : Int32)), .unset, .unset] [(.int (0 : Int32))])) _
    refine XS.istoreN X1.here hx rfl (hb hby d1_8) rfl (l' := #[.val (.int (1 : Int32)), .val (.ref w_ALL), .val (.int (3 : Int32)), .val (.int (0 : Int32)), .unset]) rfl ?_
    show Steps p.tables e below (T1.setTop (mkF m 9 #[.val (.int (1 : Int32)), .val (.ref w_ALL), .val (.int (3 : Int32)), .val (.int (0 : Int32)), .unset] [])) _
    refine XS.iloadN X1.here hx rfl (hb hby d1_9) rfl ?_
    show Steps p.tables e below (T1.setTop (mkF m 10 #[.val (.int (1 : Int32)), .val (.ref w_ALL), .val (.int (3 : Int32)), .val (.int (0 : Int32)), .unset] [(.int (0 : Int32))])) _
    refine XS.iloadN X1.here hx rfl (hb hby d1_10) rfl ?_
    show Steps p.tables e below (T1.setTop (mkF m 11 #[.val (.int (1 : Int32)), .val (.ref w_ALL), .val (.int (3 : Int32)), .val (.int (0 : Int32)), .unset] [(.int (3 : Int32)), (.int (0 : Int32))])) _
    refine XS.icmpNo X1.here hx rfl (hb hby d1_11) rfl (tlt (by decide : (0 : Int32) < (3 : Int32))).2.1 ?_
    show Steps p.tables e below (T1.setTop (mkF m 14 #[.val (.int (1 : Int32)), .val (.ref w_ALL), .val (.int (3 : Int32)), .val (.int (0 : Int32)), .unset] [])) _
    refine XS.aloadN X1.here hx rfl (hb hby d1_14) rfl rfl ?_
    show Steps p.tables e below (T1.setTop (mkF m 15 #[.val (.int (1 : Int32)), .val (.ref w_ALL), .val (.int (3 : Int32)), .val (.int (0 : Int32)), .unset] [(.ref w_ALL)])) _
    refine XS.iloadN X1.here hx rfl (hb hby d1_15) rfl ?_
    show Steps p.tables e below (T1.setTop (mkF m 16 #[.val (.int (1 : Int32)), .val (.ref w_ALL), .val (.int (3 : Int32)), .val (.int (0 : Int32)), .unset] [(.int (0 : Int32)), (.ref w_ALL)])) _
    refine X1.aaload hx (j := (0 : Int32)) (v := (.ref w_INSERT)) (by rw [e1]; exact Ar3.1) (State.isArrayOf_alike hZ.alike Ar3.2.1) rfl Ar3.2.2 hin3 hat3 (g := (mkF m 16 #[.val (.int (1 : Int32)), .val (.ref w_ALL), .val (.int (3 : Int32)), .val (.int (0 : Int32)), .unset] [(.int (0 : Int32)), (.ref w_ALL)])) rfl rfl (hb hby d1_16) _ ?_
    show Steps p.tables e below (T1.setTop (mkF m 17 #[.val (.int (1 : Int32)), .val (.ref w_ALL), .val (.int (3 : Int32)), .val (.int (0 : Int32)), .unset] [(.ref w_INSERT)])) _
    refine XS.astore X1.here hx rfl (hb hby d1_17) rfl rfl (l' := #[.val (.int (1 : Int32)), .val (.ref w_ALL), .val (.int (3 : Int32)), .val (.int (0 : Int32)), .val (.ref w_INSERT)]) rfl ?_
    show Steps p.tables e below (T1.setTop (mkF m 19 #[.val (.int (1 : Int32)), .val (.ref w_ALL), .val (.int (3 : Int32)), .val (.int (0 : Int32)), .val (.ref w_INSERT)] [])) _
    refine XS.aload X1.here hx rfl (hb hby d1_19) rfl rfl ?_
    show Steps p.tables e below (T1.setTop (mkF m 21 #[.val (.int (1 : Int32)), .val (.ref w_ALL), .val (.int (3 : Int32)), .val (.int (0 : Int32)), .val (.ref w_INSERT)] [(.ref w_INSERT)])) _
    refine st4 _ ?_
    show Steps p.tables e below (T4.setTop (mkF m 24 #[.val (.int (1 : Int32)), .val (.ref w_ALL), .val (.int (3 : Int32)), .val (.int (0 : Int32)), .val (.ref w_INSERT)] [(.int (1 : Int32))])) _
    refine XS.iloadN X4.here hx rfl (hb hby d1_24) rfl ?_
    show Steps p.tables e below (T4.setTop (mkF m 25 #[.val (.int (1 : Int32)), .val (.ref w_ALL), .val (.int (3 : Int32)), .val (.int (0 : Int32)), .val (.ref w_INSERT)] [(.int (1 : Int32)), (.int (1 : Int32))])) _
    refine XS.icmpNo X4.here hx rfl (hb hby d1_25) rfl (teq (by decide : (1 : Int32) = (1 : Int32))).2 ?_
    show Steps p.tables e below (T4.setTop (mkF m 28 #[.val (.int (1 : Int32)), .val (.ref w_ALL), .val (.int (3 : Int32)), .val (.int (0 : Int32)), .val (.ref w_INSERT)] [])) _
    refine XS.aload X4.here hx rfl (hb hby d1_28) rfl rfl ?_
    show Steps p.tables e below (T4.setTop (mkF m 30 #[.val (.int (1 : Int32)), .val (.ref w_ALL), .val (.int (3 : Int32)), .val (.int (0 : Int32)), .val (.ref w_INSERT)] [(.ref w_INSERT)])) _
    exact retOut X4 hx Bd.returns rfl (Or.inr (Or.inr (Or.inr (Or.inr ⟨rfl, rfl, rfl⟩)))) (hb hby d1_30) hr
  · exact ⟨rfl, N0, e4⟩
set_option maxRecDepth 65536 in
set_option maxHeartbeats 40000000 in
theorem rm1_2 (l : Launch) (Z : State) (a0 : Array Value) (hw : ∀ d ∈ tables_1, d.before a0 Z = true) (ws : List Jvm.Cond) (n0 : Nat) (h0 : Heap) (O : Old Z n0 h0) (w_ALL : Addr) (w_INSERT : Addr) (w_UPDATE : Addr) (w_DELETE : Addr) (k_w_ALL : ClassId) (W : OwW Z w_ALL w_INSERT w_UPDATE w_DELETE k_w_ALL)  :
    OwCon l (⟨"com/example/lamina/lamina/engine/Operation", "ofCode", "(I)Lcom/example/lamina/lamina/engine/Operation;"⟩ : MethodName) prog_14_method_5_code 5 (some (.object "com/example/lamina/lamina/engine/Operation")) ws ({ frames := 0, cells := 0, slots := 0, locals := 0 } : Room) #[(.int (2 : Int32))] Z h0 (OwQ (some (.ref w_UPDATE)) h0 n0) := by
  refine MetFree.of_bodySF (plainFor_of_name owpn1) hisR ?_
  intro p e s m args below meth c s₁ Bd hml0 hP hK
  obtain ⟨rfl, hZ, hh⟩ := hP
  have hx := Bd.exec
  have hby := Bd.bytes
  have hml : c.maxLocals = 5 := hml0
  have hown : s.vm.findClass "com/example/lamina/lamina/engine/Operation" = some m.cls := findClass_of_methodNamed Bd.named
  have hnm := (name_of_methodNamed Bd.named Bd.method).1
  have X0 : Stand p l e ({ frames := 0, cells := 0, slots := 0, locals := 0 } : Room) s m #[(.int (2 : Int32))] below meth c s₁ [] 0 0 := Stand.of_body Bd
  have e0 : s₁.heap = h0 := by rw [← hh, Bd.state]; rfl
  have N0 := Fr.nil n0
  have WW := W
  obtain ⟨E_w_INSERT, E_w_UPDATE, E_w_DELETE, S_Operation_ALL, S_Operation_INSERT, F_w_INSERT_code, S_Operation_UPDATE, F_w_UPDATE_code, S_Operation_DELETE, F_w_DELETE_code, V_w_ALL, -⟩ := WW
  have ef : entryFrame m #[(.int (2 : Int32))] 5 = mkF m 0 #[.val (.int (2 : Int32)), .unset, .unset, .unset, .unset] [] := by first | rfl | (simp [entryFrame, mkF, argsToLocals, Value.category]; done)
  have pre0 : ∀ t, Steps p.tables e below (s₁.setTop (mkF m 0 #[.val (.int (2 : Int32)), .unset, .unset, .unset, .unset] [])) t → Steps p.tables e below (s₁.setTop (entryFrame m #[(.int (2 : Int32))] 5)) t := fun t k => castTop ef k
  obtain ⟨T1, X1, e1, st1⟩ := getS2 X0 hx hZ hown (host := "") (Or.inl (hw _ (List.mem_of_getElem? (i := 5) rfl))) Via.refl e0 (S_Operation_ALL.ext O.2) (g := (mkF m 0 #[.val (.int (2 : Int32)), .unset, .unset, .unset, .unset] [])) rfl (hb hby d1_0)
  obtain ⟨cl2, Ar2, q2, Sz2, Nn2, Hs2, -⟩ := (V_w_ALL.ext O.2)
  obtain ⟨cl3, Ar3, q3, Sz3, Nn3, Hs3, -⟩ := (V_w_ALL.ext O.2)
  have hin3 : ¬ ((0 : Int32) < 0 ∨ cl3.slots.size ≤ ((0 : Int32)).toNatClampNeg) := inb_of Sz3 ⟨by decide, by decide⟩
  have hat3 : cl3.slots[((0 : Int32)).toNatClampNeg]? = some (.ref w_INSERT) := Has.at Hs3 hin3 rfl
  obtain ⟨T4, X4, e4, st4⟩ := getF X1 hx hZ hown (host := "") (Or.inl (hw _ (List.mem_of_getElem? (i := 8) rfl))) Via.refl e1 (F_w_INSERT_code.ext O.2) (g := (mkF m 21 #[.val (.int (2 : Int32)), .val (.ref w_ALL), .val (.int (3 : Int32)), .val (.int (0 : Int32)), .val (.ref w_INSERT)] [(.ref w_INSERT)])) rfl rfl (hb hby d1_21)
  obtain ⟨cl5, Ar5, q5, Sz5, Nn5, Hs5, -⟩ := (V_w_ALL.ext O.2)
  have hin5 : ¬ ((1 : Int32) < 0 ∨ cl5.slots.size ≤ ((1 : Int32)).toNatClampNeg) := inb_of Sz5 ⟨by decide, by decide⟩
  have hat5 : cl5.slots[((1 : Int32)).toNatClampNeg]? = some (.ref w_UPDATE) := Has.at Hs5 hin5 rfl
  obtain ⟨T6, X6, e6, st6⟩ := getF X4 hx hZ hown (host := "") (Or.inl (hw _ (List.mem_of_getElem? (i := 8) rfl))) Via.refl e4 (F_w_UPDATE_code.ext O.2) (g := (mkF m 21 #[.val (.int (2 : Int32)), .val (.ref w_ALL), .val (.int (3 : Int32)), .val (.int (1 : Int32)), .val (.ref w_UPDATE)] [(.ref w_UPDATE)])) rfl rfl (hb hby d1_21)
  obtain ⟨fs, hr, hrun, hended, hW, hsame⟩ := X6.leave (v := some (.ref w_UPDATE)) (fun h => by rw [Bd.returns] at h; cases h)
  refine ⟨_, _, pre0 _ ?_, hrun, hended, _, _, rfl, ?_, ⟨_, rfl⟩, hW, hsame.mono (by decide) (by decide)⟩
  · show Steps p.tables e below (s₁.setTop (mkF m 0 #[.val (.int (2 : Int32)), .unset, .unset, .unset, .unset] [])) _
    refine st1 _ ?_
    show Steps p.tables e below (T1.setTop (mkF m 3 #[.val (.int (2 : Int32)), .unset, .unset, .unset, .unset] [(.ref w_ALL)])) _
    refine XS.astoreN X1.here hx rfl (hb hby d1_3) rfl rfl (l' := #[.val (.int (2 : Int32)), .val (.ref w_ALL), .unset, .unset, .unset]) rfl ?_
    show Steps p.tables e below (T1.setTop (mkF m 4 #[.val (.int (2 : Int32)), .val (.ref w_ALL), .unset, .unset, .unset] [])) _
    refine XS.aloadN X1.here hx rfl (hb hby d1_4) rfl rfl ?_
    show Steps p.tables e below (T1.setTop (mkF m 5 #[.val (.int (2 : Int32)), .val (.ref w_ALL), .unset, .unset, .unset] [(.ref w_ALL)])) _
    refine X1.arraylength hx (by rw [e1]; exact Ar2.1) (State.isArrayOf_alike hZ.alike Ar2.2.1) (g := (mkF m 5 #[.val (.int (2 : Int32)), .val (.ref w_ALL), .unset, .unset, .unset] [(.ref w_ALL)])) rfl rfl (hb hby d1_5) _ ?_
    rw [len_of Sz2 Nn2]
    show Steps p.tables e below (T1.setTop (mkF m 6 #[.val (.int (2 : Int32)), .val (.ref w_ALL), .unset, .unset, .unset] [(.int (3 : Int32))])) _
    refine XS.istoreN X1.here hx rfl (hb hby d1_6) rfl (l' := #[.val (.int (2 : Int32)), .val (.ref w_ALL), .val (.int (3 : Int32)), .unset, .unset]) rfl ?_
    show Steps p.tables e below (T1.setTop (mkF m 7 #[.val (.int (2 : Int32)), .val (.ref w_ALL), .val (.int (3 : Int32)), .unset, .unset] [])) _
    refine XS.iconst X1.here hx rfl (hb hby d1_7) ?_
    show Steps p.tables e below (T1.setTop (mkF m 8 #[.val (.int (2 : Int32)), .val (.ref w_ALL), .val (.int (3 : Int32)), .unset, .unset] [(.int (0 : Int32))])) _
    refine XS.istoreN X1.here hx rfl (hb hby d1_8) rfl (l' := #[.val (.int (2 : Int32)), .val (.ref w_ALL), .val (.int (3 : Int32)), .val (.int (0 : Int32)), .unset]) rfl ?_
    show Steps p.tables e below (T1.setTop (mkF m 9 #[.val (.int (2 : Int32)), .val (.ref w_ALL), .val (.int (3 : Int32)), .val (.int (0 : Int32)), .unset] [])) _
    refine XS.iloadN X1.here hx rfl (hb hby d1_9) rfl ?_
    show Steps p.tables e below (T1.setTop (mkF m 10 #[.val (.int (2 : Int32)), .val (.ref w_ALL), .val (.int (3 : Int32)), .val (.int (0 : Int32)), .unset] [(.int (0 : Int32))])) _
    refine XS.iloadN X1.here hx rfl (hb hby d1_10) rfl ?_
    show Steps p.tables e below (T1.setTop (mkF m 11 #[.val (.int (2 : Int32)), .val (.ref w_ALL), .val (.int (3 : Int32)), .val (.int (0 : Int32)), .unset] [(.int (3 : Int32)), (.int (0 : Int32))])) _
    refine XS.icmpNo X1.here hx rfl (hb hby d1_11) rfl (tlt (by decide : (0 : Int32) < (3 : Int32))).2.1 ?_
    show Steps p.tables e below (T1.setTop (mkF m 14 #[.val (.int (2 : Int32)), .val (.ref w_ALL), .val (.int (3 : Int32)), .val (.int (0 : Int32)), .unset] [])) _
    refine XS.aloadN X1.here hx rfl (hb hby d1_14) rfl rfl ?_
    show Steps p.tables e below (T1.setTop (mkF m 15 #[.val (.int (2 : Int32)), .val (.ref w_ALL), .val (.int (3 : Int32)), .val (.int (0 : Int32)), .unset] [(.ref w_ALL)])) _
    refine XS.iloadN X1.here hx rfl (hb hby d1_15) rfl ?_
    show Steps p.tables e below (T1.setTop (mkF m 16 #[.val (.int (2 : Int32)), .val (.ref w_ALL), .val (.int (3 : Int32)), .val (.int (0 : Int32)), .unset] [(.int (0 : Int32)), (.ref w_ALL)])) _
    refine X1.aaload hx (j := (0 : Int32)) (v := (.ref w_INSERT)) (by rw [e1]; exact Ar3.1) (State.isArrayOf_alike hZ.alike Ar3.2.1) rfl Ar3.2.2 hin3 hat3 (g := (mkF m 16 #[.val (.int (2 : Int32)), .val (.ref w_ALL), .val (.int (3 : Int32)), .val (.int (0 : Int32)), .unset] [(.int (0 : Int32)), (.ref w_ALL)])) rfl rfl (hb hby d1_16) _ ?_
    show Steps p.tables e below (T1.setTop (mkF m 17 #[.val (.int (2 : Int32)), .val (.ref w_ALL), .val (.int (3 : Int32)), .val (.int (0 : Int32)), .unset] [(.ref w_INSERT)])) _
    refine XS.astore X1.here hx rfl (hb hby d1_17) rfl rfl (l' := #[.val (.int (2 : Int32)), .val (.ref w_ALL), .val (.int (3 : Int32)), .val (.int (0 : Int32)), .val (.ref w_INSERT)]) rfl ?_
    show Steps p.tables e below (T1.setTop (mkF m 19 #[.val (.int (2 : Int32)), .val (.ref w_ALL), .val (.int (3 : Int32)), .val (.int (0 : Int32)), .val (.ref w_INSERT)] [])) _
    refine XS.aload X1.here hx rfl (hb hby d1_19) rfl rfl ?_
    show Steps p.tables e below (T1.setTop (mkF m 21 #[.val (.int (2 : Int32)), .val (.ref w_ALL), .val (.int (3 : Int32)), .val (.int (0 : Int32)), .val (.ref w_INSERT)] [(.ref w_INSERT)])) _
    refine st4 _ ?_
    show Steps p.tables e below (T4.setTop (mkF m 24 #[.val (.int (2 : Int32)), .val (.ref w_ALL), .val (.int (3 : Int32)), .val (.int (0 : Int32)), .val (.ref w_INSERT)] [(.int (1 : Int32))])) _
    refine XS.iloadN X4.here hx rfl (hb hby d1_24) rfl ?_
    show Steps p.tables e below (T4.setTop (mkF m 25 #[.val (.int (2 : Int32)), .val (.ref w_ALL), .val (.int (3 : Int32)), .val (.int (0 : Int32)), .val (.ref w_INSERT)] [(.int (2 : Int32)), (.int (1 : Int32))])) _
    refine XS.icmpYes X4.here hx rfl (pc0 := 25) (pc' := 31) rfl (hb hby d1_25) rfl (feq (by decide : ¬ ((1 : Int32) = (2 : Int32)))).2 (by decide) (by decide) ?_
    show Steps p.tables e below (T4.setTop (mkF m 31 #[.val (.int (2 : Int32)), .val (.ref w_ALL), .val (.int (3 : Int32)), .val (.int (0 : Int32)), .val (.ref w_INSERT)] [])) _
    refine XS.iinc X4.here hx rfl (hb hby d1_31) rfl (l' := #[.val (.int (2 : Int32)), .val (.ref w_ALL), .val (.int (3 : Int32)), .val (.int (1 : Int32)), .val (.ref w_INSERT)]) rfl ?_
    show Steps p.tables e below (T4.setTop (mkF m 34 #[.val (.int (2 : Int32)), .val (.ref w_ALL), .val (.int (3 : Int32)), .val (.int (1 : Int32)), .val (.ref w_INSERT)] [])) _
    refine XS.goto X4.here hx rfl (pc0 := 34) (pc' := 9) rfl (hb hby d1_34) (by decide) (by decide) ?_
    show Steps p.tables e below (T4.setTop (mkF m 9 #[.val (.int (2 : Int32)), .val (.ref w_ALL), .val (.int (3 : Int32)), .val (.int (1 : Int32)), .val (.ref w_INSERT)] [])) _
    refine XS.iloadN X4.here hx rfl (hb hby d1_9) rfl ?_
    show Steps p.tables e below (T4.setTop (mkF m 10 #[.val (.int (2 : Int32)), .val (.ref w_ALL), .val (.int (3 : Int32)), .val (.int (1 : Int32)), .val (.ref w_INSERT)] [(.int (1 : Int32))])) _
    refine XS.iloadN X4.here hx rfl (hb hby d1_10) rfl ?_
    show Steps p.tables e below (T4.setTop (mkF m 11 #[.val (.int (2 : Int32)), .val (.ref w_ALL), .val (.int (3 : Int32)), .val (.int (1 : Int32)), .val (.ref w_INSERT)] [(.int (3 : Int32)), (.int (1 : Int32))])) _
    refine XS.icmpNo X4.here hx rfl (hb hby d1_11) rfl (tlt (by decide : (1 : Int32) < (3 : Int32))).2.1 ?_
    show Steps p.tables e below (T4.setTop (mkF m 14 #[.val (.int (2 : Int32)), .val (.ref w_ALL), .val (.int (3 : Int32)), .val (.int (1 : Int32)), .val (.ref w_INSERT)] [])) _
    refine XS.aloadN X4.here hx rfl (hb hby d1_14) rfl rfl ?_
    show Steps p.tables e below (T4.setTop (mkF m 15 #[.val (.int (2 : Int32)), .val (.ref w_ALL), .val (.int (3 : Int32)), .val (.int (1 : Int32)), .val (.ref w_INSERT)] [(.ref w_ALL)])) _
    refine XS.iloadN X4.here hx rfl (hb hby d1_15) rfl ?_
    show Steps p.tables e below (T4.setTop (mkF m 16 #[.val (.int (2 : Int32)), .val (.ref w_ALL), .val (.int (3 : Int32)), .val (.int (1 : Int32)), .val (.ref w_INSERT)] [(.int (1 : Int32)), (.ref w_ALL)])) _
    refine X4.aaload hx (j := (1 : Int32)) (v := (.ref w_UPDATE)) (by rw [e4]; exact Ar5.1) (State.isArrayOf_alike hZ.alike Ar5.2.1) rfl Ar5.2.2 hin5 hat5 (g := (mkF m 16 #[.val (.int (2 : Int32)), .val (.ref w_ALL), .val (.int (3 : Int32)), .val (.int (1 : Int32)), .val (.ref w_INSERT)] [(.int (1 : Int32)), (.ref w_ALL)])) rfl rfl (hb hby d1_16) _ ?_
    show Steps p.tables e below (T4.setTop (mkF m 17 #[.val (.int (2 : Int32)), .val (.ref w_ALL), .val (.int (3 : Int32)), .val (.int (1 : Int32)), .val (.ref w_INSERT)] [(.ref w_UPDATE)])) _
    refine XS.astore X4.here hx rfl (hb hby d1_17) rfl rfl (l' := #[.val (.int (2 : Int32)), .val (.ref w_ALL), .val (.int (3 : Int32)), .val (.int (1 : Int32)), .val (.ref w_UPDATE)]) rfl ?_
    show Steps p.tables e below (T4.setTop (mkF m 19 #[.val (.int (2 : Int32)), .val (.ref w_ALL), .val (.int (3 : Int32)), .val (.int (1 : Int32)), .val (.ref w_UPDATE)] [])) _
    refine XS.aload X4.here hx rfl (hb hby d1_19) rfl rfl ?_
    show Steps p.tables e below (T4.setTop (mkF m 21 #[.val (.int (2 : Int32)), .val (.ref w_ALL), .val (.int (3 : Int32)), .val (.int (1 : Int32)), .val (.ref w_UPDATE)] [(.ref w_UPDATE)])) _
    refine st6 _ ?_
    show Steps p.tables e below (T6.setTop (mkF m 24 #[.val (.int (2 : Int32)), .val (.ref w_ALL), .val (.int (3 : Int32)), .val (.int (1 : Int32)), .val (.ref w_UPDATE)] [(.int (2 : Int32))])) _
    refine XS.iloadN X6.here hx rfl (hb hby d1_24) rfl ?_
    show Steps p.tables e below (T6.setTop (mkF m 25 #[.val (.int (2 : Int32)), .val (.ref w_ALL), .val (.int (3 : Int32)), .val (.int (1 : Int32)), .val (.ref w_UPDATE)] [(.int (2 : Int32)), (.int (2 : Int32))])) _
    refine XS.icmpNo X6.here hx rfl (hb hby d1_25) rfl (teq (by decide : (2 : Int32) = (2 : Int32))).2 ?_
    show Steps p.tables e below (T6.setTop (mkF m 28 #[.val (.int (2 : Int32)), .val (.ref w_ALL), .val (.int (3 : Int32)), .val (.int (1 : Int32)), .val (.ref w_UPDATE)] [])) _
    refine XS.aload X6.here hx rfl (hb hby d1_28) rfl rfl ?_
    show Steps p.tables e below (T6.setTop (mkF m 30 #[.val (.int (2 : Int32)), .val (.ref w_ALL), .val (.int (3 : Int32)), .val (.int (1 : Int32)), .val (.ref w_UPDATE)] [(.ref w_UPDATE)])) _
    exact retOut X6 hx Bd.returns rfl (Or.inr (Or.inr (Or.inr (Or.inr ⟨rfl, rfl, rfl⟩)))) (hb hby d1_30) hr
  · exact ⟨rfl, N0, e6⟩
set_option maxRecDepth 65536 in
set_option maxHeartbeats 40000000 in
theorem rm1_3 (l : Launch) (Z : State) (a0 : Array Value) (hw : ∀ d ∈ tables_1, d.before a0 Z = true) (ws : List Jvm.Cond) (n0 : Nat) (h0 : Heap) (O : Old Z n0 h0) (w_ALL : Addr) (w_INSERT : Addr) (w_UPDATE : Addr) (w_DELETE : Addr) (k_w_ALL : ClassId) (W : OwW Z w_ALL w_INSERT w_UPDATE w_DELETE k_w_ALL)  :
    OwCon l (⟨"com/example/lamina/lamina/engine/Operation", "ofCode", "(I)Lcom/example/lamina/lamina/engine/Operation;"⟩ : MethodName) prog_14_method_5_code 5 (some (.object "com/example/lamina/lamina/engine/Operation")) ws ({ frames := 0, cells := 0, slots := 0, locals := 0 } : Room) #[(.int (3 : Int32))] Z h0 (OwQ (some (.ref w_DELETE)) h0 n0) := by
  refine MetFree.of_bodySF (plainFor_of_name owpn1) hisR ?_
  intro p e s m args below meth c s₁ Bd hml0 hP hK
  obtain ⟨rfl, hZ, hh⟩ := hP
  have hx := Bd.exec
  have hby := Bd.bytes
  have hml : c.maxLocals = 5 := hml0
  have hown : s.vm.findClass "com/example/lamina/lamina/engine/Operation" = some m.cls := findClass_of_methodNamed Bd.named
  have hnm := (name_of_methodNamed Bd.named Bd.method).1
  have X0 : Stand p l e ({ frames := 0, cells := 0, slots := 0, locals := 0 } : Room) s m #[(.int (3 : Int32))] below meth c s₁ [] 0 0 := Stand.of_body Bd
  have e0 : s₁.heap = h0 := by rw [← hh, Bd.state]; rfl
  have N0 := Fr.nil n0
  have WW := W
  obtain ⟨E_w_INSERT, E_w_UPDATE, E_w_DELETE, S_Operation_ALL, S_Operation_INSERT, F_w_INSERT_code, S_Operation_UPDATE, F_w_UPDATE_code, S_Operation_DELETE, F_w_DELETE_code, V_w_ALL, -⟩ := WW
  have ef : entryFrame m #[(.int (3 : Int32))] 5 = mkF m 0 #[.val (.int (3 : Int32)), .unset, .unset, .unset, .unset] [] := by first | rfl | (simp [entryFrame, mkF, argsToLocals, Value.category]; done)
  have pre0 : ∀ t, Steps p.tables e below (s₁.setTop (mkF m 0 #[.val (.int (3 : Int32)), .unset, .unset, .unset, .unset] [])) t → Steps p.tables e below (s₁.setTop (entryFrame m #[(.int (3 : Int32))] 5)) t := fun t k => castTop ef k
  obtain ⟨T1, X1, e1, st1⟩ := getS2 X0 hx hZ hown (host := "") (Or.inl (hw _ (List.mem_of_getElem? (i := 5) rfl))) Via.refl e0 (S_Operation_ALL.ext O.2) (g := (mkF m 0 #[.val (.int (3 : Int32)), .unset, .unset, .unset, .unset] [])) rfl (hb hby d1_0)
  obtain ⟨cl2, Ar2, q2, Sz2, Nn2, Hs2, -⟩ := (V_w_ALL.ext O.2)
  obtain ⟨cl3, Ar3, q3, Sz3, Nn3, Hs3, -⟩ := (V_w_ALL.ext O.2)
  have hin3 : ¬ ((0 : Int32) < 0 ∨ cl3.slots.size ≤ ((0 : Int32)).toNatClampNeg) := inb_of Sz3 ⟨by decide, by decide⟩
  have hat3 : cl3.slots[((0 : Int32)).toNatClampNeg]? = some (.ref w_INSERT) := Has.at Hs3 hin3 rfl
  obtain ⟨T4, X4, e4, st4⟩ := getF X1 hx hZ hown (host := "") (Or.inl (hw _ (List.mem_of_getElem? (i := 8) rfl))) Via.refl e1 (F_w_INSERT_code.ext O.2) (g := (mkF m 21 #[.val (.int (3 : Int32)), .val (.ref w_ALL), .val (.int (3 : Int32)), .val (.int (0 : Int32)), .val (.ref w_INSERT)] [(.ref w_INSERT)])) rfl rfl (hb hby d1_21)
  obtain ⟨cl5, Ar5, q5, Sz5, Nn5, Hs5, -⟩ := (V_w_ALL.ext O.2)
  have hin5 : ¬ ((1 : Int32) < 0 ∨ cl5.slots.size ≤ ((1 : Int32)).toNatClampNeg) := inb_of Sz5 ⟨by decide, by decide⟩
  have hat5 : cl5.slots[((1 : Int32)).toNatClampNeg]? = some (.ref w_UPDATE) := Has.at Hs5 hin5 rfl
  obtain ⟨T6, X6, e6, st6⟩ := getF X4 hx hZ hown (host := "") (Or.inl (hw _ (List.mem_of_getElem? (i := 8) rfl))) Via.refl e4 (F_w_UPDATE_code.ext O.2) (g := (mkF m 21 #[.val (.int (3 : Int32)), .val (.ref w_ALL), .val (.int (3 : Int32)), .val (.int (1 : Int32)), .val (.ref w_UPDATE)] [(.ref w_UPDATE)])) rfl rfl (hb hby d1_21)
  obtain ⟨cl7, Ar7, q7, Sz7, Nn7, Hs7, -⟩ := (V_w_ALL.ext O.2)
  have hin7 : ¬ ((2 : Int32) < 0 ∨ cl7.slots.size ≤ ((2 : Int32)).toNatClampNeg) := inb_of Sz7 ⟨by decide, by decide⟩
  have hat7 : cl7.slots[((2 : Int32)).toNatClampNeg]? = some (.ref w_DELETE) := Has.at Hs7 hin7 rfl
  obtain ⟨T8, X8, e8, st8⟩ := getF X6 hx hZ hown (host := "") (Or.inl (hw _ (List.mem_of_getElem? (i := 8) rfl))) Via.refl e6 (F_w_DELETE_code.ext O.2) (g := (mkF m 21 #[.val (.int (3 : Int32)), .val (.ref w_ALL), .val (.int (3 : Int32)), .val (.int (2 : Int32)), .val (.ref w_DELETE)] [(.ref w_DELETE)])) rfl rfl (hb hby d1_21)
  obtain ⟨fs, hr, hrun, hended, hW, hsame⟩ := X8.leave (v := some (.ref w_DELETE)) (fun h => by rw [Bd.returns] at h; cases h)
  refine ⟨_, _, pre0 _ ?_, hrun, hended, _, _, rfl, ?_, ⟨_, rfl⟩, hW, hsame.mono (by decide) (by decide)⟩
  · show Steps p.tables e below (s₁.setTop (mkF m 0 #[.val (.int (3 : Int32)), .unset, .unset, .unset, .unset] [])) _
    refine st1 _ ?_
    show Steps p.tables e below (T1.setTop (mkF m 3 #[.val (.int (3 : Int32)), .unset, .unset, .unset, .unset] [(.ref w_ALL)])) _
    refine XS.astoreN X1.here hx rfl (hb hby d1_3) rfl rfl (l' := #[.val (.int (3 : Int32)), .val (.ref w_ALL), .unset, .unset, .unset]) rfl ?_
    show Steps p.tables e below (T1.setTop (mkF m 4 #[.val (.int (3 : Int32)), .val (.ref w_ALL), .unset, .unset, .unset] [])) _
    refine XS.aloadN X1.here hx rfl (hb hby d1_4) rfl rfl ?_
    show Steps p.tables e below (T1.setTop (mkF m 5 #[.val (.int (3 : Int32)), .val (.ref w_ALL), .unset, .unset, .unset] [(.ref w_ALL)])) _
    refine X1.arraylength hx (by rw [e1]; exact Ar2.1) (State.isArrayOf_alike hZ.alike Ar2.2.1) (g := (mkF m 5 #[.val (.int (3 : Int32)), .val (.ref w_ALL), .unset, .unset, .unset] [(.ref w_ALL)])) rfl rfl (hb hby d1_5) _ ?_
    rw [len_of Sz2 Nn2]
    show Steps p.tables e below (T1.setTop (mkF m 6 #[.val (.int (3 : Int32)), .val (.ref w_ALL), .unset, .unset, .unset] [(.int (3 : Int32))])) _
    refine XS.istoreN X1.here hx rfl (hb hby d1_6) rfl (l' := #[.val (.int (3 : Int32)), .val (.ref w_ALL), .val (.int (3 : Int32)), .unset, .unset]) rfl ?_
    show Steps p.tables e below (T1.setTop (mkF m 7 #[.val (.int (3 : Int32)), .val (.ref w_ALL), .val (.int (3 : Int32)), .unset, .unset] [])) _
    refine XS.iconst X1.here hx rfl (hb hby d1_7) ?_
    show Steps p.tables e below (T1.setTop (mkF m 8 #[.val (.int (3 : Int32)), .val (.ref w_ALL), .val (.int (3 : Int32)), .unset, .unset] [(.int (0 : Int32))])) _
    refine XS.istoreN X1.here hx rfl (hb hby d1_8) rfl (l' := #[.val (.int (3 : Int32)), .val (.ref w_ALL), .val (.int (3 : Int32)), .val (.int (0 : Int32)), .unset]) rfl ?_
    show Steps p.tables e below (T1.setTop (mkF m 9 #[.val (.int (3 : Int32)), .val (.ref w_ALL), .val (.int (3 : Int32)), .val (.int (0 : Int32)), .unset] [])) _
    refine XS.iloadN X1.here hx rfl (hb hby d1_9) rfl ?_
    show Steps p.tables e below (T1.setTop (mkF m 10 #[.val (.int (3 : Int32)), .val (.ref w_ALL), .val (.int (3 : Int32)), .val (.int (0 : Int32)), .unset] [(.int (0 : Int32))])) _
    refine XS.iloadN X1.here hx rfl (hb hby d1_10) rfl ?_
    show Steps p.tables e below (T1.setTop (mkF m 11 #[.val (.int (3 : Int32)), .val (.ref w_ALL), .val (.int (3 : Int32)), .val (.int (0 : Int32)), .unset] [(.int (3 : Int32)), (.int (0 : Int32))])) _
    refine XS.icmpNo X1.here hx rfl (hb hby d1_11) rfl (tlt (by decide : (0 : Int32) < (3 : Int32))).2.1 ?_
    show Steps p.tables e below (T1.setTop (mkF m 14 #[.val (.int (3 : Int32)), .val (.ref w_ALL), .val (.int (3 : Int32)), .val (.int (0 : Int32)), .unset] [])) _
    refine XS.aloadN X1.here hx rfl (hb hby d1_14) rfl rfl ?_
    show Steps p.tables e below (T1.setTop (mkF m 15 #[.val (.int (3 : Int32)), .val (.ref w_ALL), .val (.int (3 : Int32)), .val (.int (0 : Int32)), .unset] [(.ref w_ALL)])) _
    refine XS.iloadN X1.here hx rfl (hb hby d1_15) rfl ?_
    show Steps p.tables e below (T1.setTop (mkF m 16 #[.val (.int (3 : Int32)), .val (.ref w_ALL), .val (.int (3 : Int32)), .val (.int (0 : Int32)), .unset] [(.int (0 : Int32)), (.ref w_ALL)])) _
    refine X1.aaload hx (j := (0 : Int32)) (v := (.ref w_INSERT)) (by rw [e1]; exact Ar3.1) (State.isArrayOf_alike hZ.alike Ar3.2.1) rfl Ar3.2.2 hin3 hat3 (g := (mkF m 16 #[.val (.int (3 : Int32)), .val (.ref w_ALL), .val (.int (3 : Int32)), .val (.int (0 : Int32)), .unset] [(.int (0 : Int32)), (.ref w_ALL)])) rfl rfl (hb hby d1_16) _ ?_
    show Steps p.tables e below (T1.setTop (mkF m 17 #[.val (.int (3 : Int32)), .val (.ref w_ALL), .val (.int (3 : Int32)), .val (.int (0 : Int32)), .unset] [(.ref w_INSERT)])) _
    refine XS.astore X1.here hx rfl (hb hby d1_17) rfl rfl (l' := #[.val (.int (3 : Int32)), .val (.ref w_ALL), .val (.int (3 : Int32)), .val (.int (0 : Int32)), .val (.ref w_INSERT)]) rfl ?_
    show Steps p.tables e below (T1.setTop (mkF m 19 #[.val (.int (3 : Int32)), .val (.ref w_ALL), .val (.int (3 : Int32)), .val (.int (0 : Int32)), .val (.ref w_INSERT)] [])) _
    refine XS.aload X1.here hx rfl (hb hby d1_19) rfl rfl ?_
    show Steps p.tables e below (T1.setTop (mkF m 21 #[.val (.int (3 : Int32)), .val (.ref w_ALL), .val (.int (3 : Int32)), .val (.int (0 : Int32)), .val (.ref w_INSERT)] [(.ref w_INSERT)])) _
    refine st4 _ ?_
    show Steps p.tables e below (T4.setTop (mkF m 24 #[.val (.int (3 : Int32)), .val (.ref w_ALL), .val (.int (3 : Int32)), .val (.int (0 : Int32)), .val (.ref w_INSERT)] [(.int (1 : Int32))])) _
    refine XS.iloadN X4.here hx rfl (hb hby d1_24) rfl ?_
    show Steps p.tables e below (T4.setTop (mkF m 25 #[.val (.int (3 : Int32)), .val (.ref w_ALL), .val (.int (3 : Int32)), .val (.int (0 : Int32)), .val (.ref w_INSERT)] [(.int (3 : Int32)), (.int (1 : Int32))])) _
    refine XS.icmpYes X4.here hx rfl (pc0 := 25) (pc' := 31) rfl (hb hby d1_25) rfl (feq (by decide : ¬ ((1 : Int32) = (3 : Int32)))).2 (by decide) (by decide) ?_
    show Steps p.tables e below (T4.setTop (mkF m 31 #[.val (.int (3 : Int32)), .val (.ref w_ALL), .val (.int (3 : Int32)), .val (.int (0 : Int32)), .val (.ref w_INSERT)] [])) _
    refine XS.iinc X4.here hx rfl (hb hby d1_31) rfl (l' := #[.val (.int (3 : Int32)), .val (.ref w_ALL), .val (.int (3 : Int32)), .val (.int (1 : Int32)), .val (.ref w_INSERT)]) rfl ?_
    show Steps p.tables e below (T4.setTop (mkF m 34 #[.val (.int (3 : Int32)), .val (.ref w_ALL), .val (.int (3 : Int32)), .val (.int (1 : Int32)), .val (.ref w_INSERT)] [])) _
    refine XS.goto X4.here hx rfl (pc0 := 34) (pc' := 9) rfl (hb hby d1_34) (by decide) (by decide) ?_
    show Steps p.tables e below (T4.setTop (mkF m 9 #[.val (.int (3 : Int32)), .val (.ref w_ALL), .val (.int (3 : Int32)), .val (.int (1 : Int32)), .val (.ref w_INSERT)] [])) _
    refine XS.iloadN X4.here hx rfl (hb hby d1_9) rfl ?_
    show Steps p.tables e below (T4.setTop (mkF m 10 #[.val (.int (3 : Int32)), .val (.ref w_ALL), .val (.int (3 : Int32)), .val (.int (1 : Int32)), .val (.ref w_INSERT)] [(.int (1 : Int32))])) _
    refine XS.iloadN X4.here hx rfl (hb hby d1_10) rfl ?_
    show Steps p.tables e below (T4.setTop (mkF m 11 #[.val (.int (3 : Int32)), .val (.ref w_ALL), .val (.int (3 : Int32)), .val (.int (1 : Int32)), .val (.ref w_INSERT)] [(.int (3 : Int32)), (.int (1 : Int32))])) _
    refine XS.icmpNo X4.here hx rfl (hb hby d1_11) rfl (tlt (by decide : (1 : Int32) < (3 : Int32))).2.1 ?_
    show Steps p.tables e below (T4.setTop (mkF m 14 #[.val (.int (3 : Int32)), .val (.ref w_ALL), .val (.int (3 : Int32)), .val (.int (1 : Int32)), .val (.ref w_INSERT)] [])) _
    refine XS.aloadN X4.here hx rfl (hb hby d1_14) rfl rfl ?_
    show Steps p.tables e below (T4.setTop (mkF m 15 #[.val (.int (3 : Int32)), .val (.ref w_ALL), .val (.int (3 : Int32)), .val (.int (1 : Int32)), .val (.ref w_INSERT)] [(.ref w_ALL)])) _
    refine XS.iloadN X4.here hx rfl (hb hby d1_15) rfl ?_
    show Steps p.tables e below (T4.setTop (mkF m 16 #[.val (.int (3 : Int32)), .val (.ref w_ALL), .val (.int (3 : Int32)), .val (.int (1 : Int32)), .val (.ref w_INSERT)] [(.int (1 : Int32)), (.ref w_ALL)])) _
    refine X4.aaload hx (j := (1 : Int32)) (v := (.ref w_UPDATE)) (by rw [e4]; exact Ar5.1) (State.isArrayOf_alike hZ.alike Ar5.2.1) rfl Ar5.2.2 hin5 hat5 (g := (mkF m 16 #[.val (.int (3 : Int32)), .val (.ref w_ALL), .val (.int (3 : Int32)), .val (.int (1 : Int32)), .val (.ref w_INSERT)] [(.int (1 : Int32)), (.ref w_ALL)])) rfl rfl (hb hby d1_16) _ ?_
    show Steps p.tables e below (T4.setTop (mkF m 17 #[.val (.int (3 : Int32)), .val (.ref w_ALL), .val (.int (3 : Int32)), .val (.int (1 : Int32)), .val (.ref w_INSERT)] [(.ref w_UPDATE)])) _
    refine XS.astore X4.here hx rfl (hb hby d1_17) rfl rfl (l' := #[.val (.int (3 : Int32)), .val (.ref w_ALL), .val (.int (3 : Int32)), .val (.int (1 : Int32)), .val (.ref w_UPDATE)]) rfl ?_
    show Steps p.tables e below (T4.setTop (mkF m 19 #[.val (.int (3 : Int32)), .val (.ref w_ALL), .val (.int (3 : Int32)), .val (.int (1 : Int32)), .val (.ref w_UPDATE)] [])) _
    refine XS.aload X4.here hx rfl (hb hby d1_19) rfl rfl ?_
    show Steps p.tables e below (T4.setTop (mkF m 21 #[.val (.int (3 : Int32)), .val (.ref w_ALL), .val (.int (3 : Int32)), .val (.int (1 : Int32)), .val (.ref w_UPDATE)] [(.ref w_UPDATE)])) _
    refine st6 _ ?_
    show Steps p.tables e below (T6.setTop (mkF m 24 #[.val (.int (3 : Int32)), .val (.ref w_ALL), .val (.int (3 : Int32)), .val (.int (1 : Int32)), .val (.ref w_UPDATE)] [(.int (2 : Int32))])) _
    refine XS.iloadN X6.here hx rfl (hb hby d1_24) rfl ?_
    show Steps p.tables e below (T6.setTop (mkF m 25 #[.val (.int (3 : Int32)), .val (.ref w_ALL), .val (.int (3 : Int32)), .val (.int (1 : Int32)), .val (.ref w_UPDATE)] [(.int (3 : Int32)), (.int (2 : Int32))])) _
    refine XS.icmpYes X6.here hx rfl (pc0 := 25) (pc' := 31) rfl (hb hby d1_25) rfl (feq (by decide : ¬ ((2 : Int32) = (3 : Int32)))).2 (by decide) (by decide) ?_
    show Steps p.tables e below (T6.setTop (mkF m 31 #[.val (.int (3 : Int32)), .val (.ref w_ALL), .val (.int (3 : Int32)), .val (.int (1 : Int32)), .val (.ref w_UPDATE)] [])) _
    refine XS.iinc X6.here hx rfl (hb hby d1_31) rfl (l' := #[.val (.int (3 : Int32)), .val (.ref w_ALL), .val (.int (3 : Int32)), .val (.int (2 : Int32)), .val (.ref w_UPDATE)]) rfl ?_
    show Steps p.tables e below (T6.setTop (mkF m 34 #[.val (.int (3 : Int32)), .val (.ref w_ALL), .val (.int (3 : Int32)), .val (.int (2 : Int32)), .val (.ref w_UPDATE)] [])) _
    refine XS.goto X6.here hx rfl (pc0 := 34) (pc' := 9) rfl (hb hby d1_34) (by decide) (by decide) ?_
    show Steps p.tables e below (T6.setTop (mkF m 9 #[.val (.int (3 : Int32)), .val (.ref w_ALL), .val (.int (3 : Int32)), .val (.int (2 : Int32)), .val (.ref w_UPDATE)] [])) _
    refine XS.iloadN X6.here hx rfl (hb hby d1_9) rfl ?_
    show Steps p.tables e below (T6.setTop (mkF m 10 #[.val (.int (3 : Int32)), .val (.ref w_ALL), .val (.int (3 : Int32)), .val (.int (2 : Int32)), .val (.ref w_UPDATE)] [(.int (2 : Int32))])) _
    refine XS.iloadN X6.here hx rfl (hb hby d1_10) rfl ?_
    show Steps p.tables e below (T6.setTop (mkF m 11 #[.val (.int (3 : Int32)), .val (.ref w_ALL), .val (.int (3 : Int32)), .val (.int (2 : Int32)), .val (.ref w_UPDATE)] [(.int (3 : Int32)), (.int (2 : Int32))])) _
    refine XS.icmpNo X6.here hx rfl (hb hby d1_11) rfl (tlt (by decide : (2 : Int32) < (3 : Int32))).2.1 ?_
    show Steps p.tables e below (T6.setTop (mkF m 14 #[.val (.int (3 : Int32)), .val (.ref w_ALL), .val (.int (3 : Int32)), .val (.int (2 : Int32)), .val (.ref w_UPDATE)] [])) _
    refine XS.aloadN X6.here hx rfl (hb hby d1_14) rfl rfl ?_
    show Steps p.tables e below (T6.setTop (mkF m 15 #[.val (.int (3 : Int32)), .val (.ref w_ALL), .val (.int (3 : Int32)), .val (.int (2 : Int32)), .val (.ref w_UPDATE)] [(.ref w_ALL)])) _
    refine XS.iloadN X6.here hx rfl (hb hby d1_15) rfl ?_
    show Steps p.tables e below (T6.setTop (mkF m 16 #[.val (.int (3 : Int32)), .val (.ref w_ALL), .val (.int (3 : Int32)), .val (.int (2 : Int32)), .val (.ref w_UPDATE)] [(.int (2 : Int32)), (.ref w_ALL)])) _
    refine X6.aaload hx (j := (2 : Int32)) (v := (.ref w_DELETE)) (by rw [e6]; exact Ar7.1) (State.isArrayOf_alike hZ.alike Ar7.2.1) rfl Ar7.2.2 hin7 hat7 (g := (mkF m 16 #[.val (.int (3 : Int32)), .val (.ref w_ALL), .val (.int (3 : Int32)), .val (.int (2 : Int32)), .val (.ref w_UPDATE)] [(.int (2 : Int32)), (.ref w_ALL)])) rfl rfl (hb hby d1_16) _ ?_
    show Steps p.tables e below (T6.setTop (mkF m 17 #[.val (.int (3 : Int32)), .val (.ref w_ALL), .val (.int (3 : Int32)), .val (.int (2 : Int32)), .val (.ref w_UPDATE)] [(.ref w_DELETE)])) _
    refine XS.astore X6.here hx rfl (hb hby d1_17) rfl rfl (l' := #[.val (.int (3 : Int32)), .val (.ref w_ALL), .val (.int (3 : Int32)), .val (.int (2 : Int32)), .val (.ref w_DELETE)]) rfl ?_
    show Steps p.tables e below (T6.setTop (mkF m 19 #[.val (.int (3 : Int32)), .val (.ref w_ALL), .val (.int (3 : Int32)), .val (.int (2 : Int32)), .val (.ref w_DELETE)] [])) _
    refine XS.aload X6.here hx rfl (hb hby d1_19) rfl rfl ?_
    show Steps p.tables e below (T6.setTop (mkF m 21 #[.val (.int (3 : Int32)), .val (.ref w_ALL), .val (.int (3 : Int32)), .val (.int (2 : Int32)), .val (.ref w_DELETE)] [(.ref w_DELETE)])) _
    refine st8 _ ?_
    show Steps p.tables e below (T8.setTop (mkF m 24 #[.val (.int (3 : Int32)), .val (.ref w_ALL), .val (.int (3 : Int32)), .val (.int (2 : Int32)), .val (.ref w_DELETE)] [(.int (3 : Int32))])) _
    refine XS.iloadN X8.here hx rfl (hb hby d1_24) rfl ?_
    show Steps p.tables e below (T8.setTop (mkF m 25 #[.val (.int (3 : Int32)), .val (.ref w_ALL), .val (.int (3 : Int32)), .val (.int (2 : Int32)), .val (.ref w_DELETE)] [(.int (3 : Int32)), (.int (3 : Int32))])) _
    refine XS.icmpNo X8.here hx rfl (hb hby d1_25) rfl (teq (by decide : (3 : Int32) = (3 : Int32))).2 ?_
    show Steps p.tables e below (T8.setTop (mkF m 28 #[.val (.int (3 : Int32)), .val (.ref w_ALL), .val (.int (3 : Int32)), .val (.int (2 : Int32)), .val (.ref w_DELETE)] [])) _
    refine XS.aload X8.here hx rfl (hb hby d1_28) rfl rfl ?_
    show Steps p.tables e below (T8.setTop (mkF m 30 #[.val (.int (3 : Int32)), .val (.ref w_ALL), .val (.int (3 : Int32)), .val (.int (2 : Int32)), .val (.ref w_DELETE)] [(.ref w_DELETE)])) _
    exact retOut X8 hx Bd.returns rfl (Or.inr (Or.inr (Or.inr (Or.inr ⟨rfl, rfl, rfl⟩)))) (hb hby d1_30) hr
  · exact ⟨rfl, N0, e8⟩
set_option maxRecDepth 65536 in
set_option maxHeartbeats 40000000 in
theorem rm1_o (l : Launch) (Z : State) (a0 : Array Value) (hw : ∀ d ∈ tables_1, d.before a0 Z = true) (ws : List Jvm.Cond) (n0 : Nat) (h0 : Heap) (O : Old Z n0 h0) (w_ALL : Addr) (w_INSERT : Addr) (w_UPDATE : Addr) (w_DELETE : Addr) (k_w_ALL : ClassId) (W : OwW Z w_ALL w_INSERT w_UPDATE w_DELETE k_w_ALL) (cx : Int32) (h1 : ¬ (1 : Int32) = cx) (h2 : ¬ (2 : Int32) = cx) (h3 : ¬ (3 : Int32) = cx) :
    OwCon l (⟨"com/example/lamina/lamina/engine/Operation", "ofCode", "(I)Lcom/example/lamina/lamina/engine/Operation;"⟩ : MethodName) prog_14_method_5_code 5 (some (.object "com/example/lamina/lamina/engine/Operation")) ws ({ frames := 0, cells := 0, slots := 0, locals := 0 } : Room) #[(.int cx)] Z h0 (OwQ (some .null) h0 n0) := by
  refine MetFree.of_bodySF (plainFor_of_name owpn1) hisR ?_
  intro p e s m args below meth c s₁ Bd hml0 hP hK
  obtain ⟨rfl, hZ, hh⟩ := hP
  have hx := Bd.exec
  have hby := Bd.bytes
  have hml : c.maxLocals = 5 := hml0
  have hown : s.vm.findClass "com/example/lamina/lamina/engine/Operation" = some m.cls := findClass_of_methodNamed Bd.named
  have hnm := (name_of_methodNamed Bd.named Bd.method).1
  have X0 : Stand p l e ({ frames := 0, cells := 0, slots := 0, locals := 0 } : Room) s m #[(.int cx)] below meth c s₁ [] 0 0 := Stand.of_body Bd
  have e0 : s₁.heap = h0 := by rw [← hh, Bd.state]; rfl
  have N0 := Fr.nil n0
  have WW := W
  obtain ⟨E_w_INSERT, E_w_UPDATE, E_w_DELETE, S_Operation_ALL, S_Operation_INSERT, F_w_INSERT_code, S_Operation_UPDATE, F_w_UPDATE_code, S_Operation_DELETE, F_w_DELETE_code, V_w_ALL, -⟩ := WW
  have ef : entryFrame m #[(.int cx)] 5 = mkF m 0 #[.val (.int cx), .unset, .unset, .unset, .unset] [] := by first | rfl | (simp [entryFrame, mkF, argsToLocals, Value.category]; done)
  have pre0 : ∀ t, Steps p.tables e below (s₁.setTop (mkF m 0 #[.val (.int cx), .unset, .unset, .unset, .unset] [])) t → Steps p.tables e below (s₁.setTop (entryFrame m #[(.int cx)] 5)) t := fun t k => castTop ef k
  obtain ⟨T1, X1, e1, st1⟩ := getS2 X0 hx hZ hown (host := "") (Or.inl (hw _ (List.mem_of_getElem? (i := 5) rfl))) Via.refl e0 (S_Operation_ALL.ext O.2) (g := (mkF m 0 #[.val (.int cx), .unset, .unset, .unset, .unset] [])) rfl (hb hby d1_0)
  obtain ⟨cl2, Ar2, q2, Sz2, Nn2, Hs2, -⟩ := (V_w_ALL.ext O.2)
  obtain ⟨cl3, Ar3, q3, Sz3, Nn3, Hs3, -⟩ := (V_w_ALL.ext O.2)
  have hin3 : ¬ ((0 : Int32) < 0 ∨ cl3.slots.size ≤ ((0 : Int32)).toNatClampNeg) := inb_of Sz3 ⟨by decide, by decide⟩
  have hat3 : cl3.slots[((0 : Int32)).toNatClampNeg]? = some (.ref w_INSERT) := Has.at Hs3 hin3 rfl
  obtain ⟨T4, X4, e4, st4⟩ := getF X1 hx hZ hown (host := "") (Or.inl (hw _ (List.mem_of_getElem? (i := 8) rfl))) Via.refl e1 (F_w_INSERT_code.ext O.2) (g := (mkF m 21 #[.val (.int cx), .val (.ref w_ALL), .val (.int (3 : Int32)), .val (.int (0 : Int32)), .val (.ref w_INSERT)] [(.ref w_INSERT)])) rfl rfl (hb hby d1_21)
  obtain ⟨cl5, Ar5, q5, Sz5, Nn5, Hs5, -⟩ := (V_w_ALL.ext O.2)
  have hin5 : ¬ ((1 : Int32) < 0 ∨ cl5.slots.size ≤ ((1 : Int32)).toNatClampNeg) := inb_of Sz5 ⟨by decide, by decide⟩
  have hat5 : cl5.slots[((1 : Int32)).toNatClampNeg]? = some (.ref w_UPDATE) := Has.at Hs5 hin5 rfl
  obtain ⟨T6, X6, e6, st6⟩ := getF X4 hx hZ hown (host := "") (Or.inl (hw _ (List.mem_of_getElem? (i := 8) rfl))) Via.refl e4 (F_w_UPDATE_code.ext O.2) (g := (mkF m 21 #[.val (.int cx), .val (.ref w_ALL), .val (.int (3 : Int32)), .val (.int (1 : Int32)), .val (.ref w_UPDATE)] [(.ref w_UPDATE)])) rfl rfl (hb hby d1_21)
  obtain ⟨cl7, Ar7, q7, Sz7, Nn7, Hs7, -⟩ := (V_w_ALL.ext O.2)
  have hin7 : ¬ ((2 : Int32) < 0 ∨ cl7.slots.size ≤ ((2 : Int32)).toNatClampNeg) := inb_of Sz7 ⟨by decide, by decide⟩
  have hat7 : cl7.slots[((2 : Int32)).toNatClampNeg]? = some (.ref w_DELETE) := Has.at Hs7 hin7 rfl
  obtain ⟨T8, X8, e8, st8⟩ := getF X6 hx hZ hown (host := "") (Or.inl (hw _ (List.mem_of_getElem? (i := 8) rfl))) Via.refl e6 (F_w_DELETE_code.ext O.2) (g := (mkF m 21 #[.val (.int cx), .val (.ref w_ALL), .val (.int (3 : Int32)), .val (.int (2 : Int32)), .val (.ref w_DELETE)] [(.ref w_DELETE)])) rfl rfl (hb hby d1_21)
  obtain ⟨fs, hr, hrun, hended, hW, hsame⟩ := X8.leave (v := some .null) (fun h => by rw [Bd.returns] at h; cases h)
  refine ⟨_, _, pre0 _ ?_, hrun, hended, _, _, rfl, ?_, ⟨_, rfl⟩, hW, hsame.mono (by decide) (by decide)⟩
  · show Steps p.tables e below (s₁.setTop (mkF m 0 #[.val (.int cx), .unset, .unset, .unset, .unset] [])) _
    refine st1 _ ?_
    show Steps p.tables e below (T1.setTop (mkF m 3 #[.val (.int cx), .unset, .unset, .unset, .unset] [(.ref w_ALL)])) _
    refine XS.astoreN X1.here hx rfl (hb hby d1_3) rfl rfl (l' := #[.val (.int cx), .val (.ref w_ALL), .unset, .unset, .unset]) rfl ?_
    show Steps p.tables e below (T1.setTop (mkF m 4 #[.val (.int cx), .val (.ref w_ALL), .unset, .unset, .unset] [])) _
    refine XS.aloadN X1.here hx rfl (hb hby d1_4) rfl rfl ?_
    show Steps p.tables e below (T1.setTop (mkF m 5 #[.val (.int cx), .val (.ref w_ALL), .unset, .unset, .unset] [(.ref w_ALL)])) _
    refine X1.arraylength hx (by rw [e1]; exact Ar2.1) (State.isArrayOf_alike hZ.alike Ar2.2.1) (g := (mkF m 5 #[.val (.int cx), .val (.ref w_ALL), .unset, .unset, .unset] [(.ref w_ALL)])) rfl rfl (hb hby d1_5) _ ?_
    rw [len_of Sz2 Nn2]
    show Steps p.tables e below (T1.setTop (mkF m 6 #[.val (.int cx), .val (.ref w_ALL), .unset, .unset, .unset] [(.int (3 : Int32))])) _
    refine XS.istoreN X1.here hx rfl (hb hby d1_6) rfl (l' := #[.val (.int cx), .val (.ref w_ALL), .val (.int (3 : Int32)), .unset, .unset]) rfl ?_
    show Steps p.tables e below (T1.setTop (mkF m 7 #[.val (.int cx), .val (.ref w_ALL), .val (.int (3 : Int32)), .unset, .unset] [])) _
    refine XS.iconst X1.here hx rfl (hb hby d1_7) ?_
    show Steps p.tables e below (T1.setTop (mkF m 8 #[.val (.int cx), .val (.ref w_ALL), .val (.int (3 : Int32)), .unset, .unset] [(.int (0 : Int32))])) _
    refine XS.istoreN X1.here hx rfl (hb hby d1_8) rfl (l' := #[.val (.int cx), .val (.ref w_ALL), .val (.int (3 : Int32)), .val (.int (0 : Int32)), .unset]) rfl ?_
    show Steps p.tables e below (T1.setTop (mkF m 9 #[.val (.int cx), .val (.ref w_ALL), .val (.int (3 : Int32)), .val (.int (0 : Int32)), .unset] [])) _
    refine XS.iloadN X1.here hx rfl (hb hby d1_9) rfl ?_
    show Steps p.tables e below (T1.setTop (mkF m 10 #[.val (.int cx), .val (.ref w_ALL), .val (.int (3 : Int32)), .val (.int (0 : Int32)), .unset] [(.int (0 : Int32))])) _
    refine XS.iloadN X1.here hx rfl (hb hby d1_10) rfl ?_
    show Steps p.tables e below (T1.setTop (mkF m 11 #[.val (.int cx), .val (.ref w_ALL), .val (.int (3 : Int32)), .val (.int (0 : Int32)), .unset] [(.int (3 : Int32)), (.int (0 : Int32))])) _
    refine XS.icmpNo X1.here hx rfl (hb hby d1_11) rfl (tlt (by decide : (0 : Int32) < (3 : Int32))).2.1 ?_
    show Steps p.tables e below (T1.setTop (mkF m 14 #[.val (.int cx), .val (.ref w_ALL), .val (.int (3 : Int32)), .val (.int (0 : Int32)), .unset] [])) _
    refine XS.aloadN X1.here hx rfl (hb hby d1_14) rfl rfl ?_
    show Steps p.tables e below (T1.setTop (mkF m 15 #[.val (.int cx), .val (.ref w_ALL), .val (.int (3 : Int32)), .val (.int (0 : Int32)), .unset] [(.ref w_ALL)])) _
    refine XS.iloadN X1.here hx rfl (hb hby d1_15) rfl ?_
    show Steps p.tables e below (T1.setTop (mkF m 16 #[.val (.int cx), .val (.ref w_ALL), .val (.int (3 : Int32)), .val (.int (0 : Int32)), .unset] [(.int (0 : Int32)), (.ref w_ALL)])) _
    refine X1.aaload hx (j := (0 : Int32)) (v := (.ref w_INSERT)) (by rw [e1]; exact Ar3.1) (State.isArrayOf_alike hZ.alike Ar3.2.1) rfl Ar3.2.2 hin3 hat3 (g := (mkF m 16 #[.val (.int cx), .val (.ref w_ALL), .val (.int (3 : Int32)), .val (.int (0 : Int32)), .unset] [(.int (0 : Int32)), (.ref w_ALL)])) rfl rfl (hb hby d1_16) _ ?_
    show Steps p.tables e below (T1.setTop (mkF m 17 #[.val (.int cx), .val (.ref w_ALL), .val (.int (3 : Int32)), .val (.int (0 : Int32)), .unset] [(.ref w_INSERT)])) _
    refine XS.astore X1.here hx rfl (hb hby d1_17) rfl rfl (l' := #[.val (.int cx), .val (.ref w_ALL), .val (.int (3 : Int32)), .val (.int (0 : Int32)), .val (.ref w_INSERT)]) rfl ?_
    show Steps p.tables e below (T1.setTop (mkF m 19 #[.val (.int cx), .val (.ref w_ALL), .val (.int (3 : Int32)), .val (.int (0 : Int32)), .val (.ref w_INSERT)] [])) _
    refine XS.aload X1.here hx rfl (hb hby d1_19) rfl rfl ?_
    show Steps p.tables e below (T1.setTop (mkF m 21 #[.val (.int cx), .val (.ref w_ALL), .val (.int (3 : Int32)), .val (.int (0 : Int32)), .val (.ref w_INSERT)] [(.ref w_INSERT)])) _
    refine st4 _ ?_
    show Steps p.tables e below (T4.setTop (mkF m 24 #[.val (.int cx), .val (.ref w_ALL), .val (.int (3 : Int32)), .val (.int (0 : Int32)), .val (.ref w_INSERT)] [(.int (1 : Int32))])) _
    refine XS.iloadN X4.here hx rfl (hb hby d1_24) rfl ?_
    show Steps p.tables e below (T4.setTop (mkF m 25 #[.val (.int cx), .val (.ref w_ALL), .val (.int (3 : Int32)), .val (.int (0 : Int32)), .val (.ref w_INSERT)] [(.int cx), (.int (1 : Int32))])) _
    refine XS.icmpYes X4.here hx rfl (pc0 := 25) (pc' := 31) rfl (hb hby d1_25) rfl (feq h1).2 (by decide) (by decide) ?_
    show Steps p.tables e below (T4.setTop (mkF m 31 #[.val (.int cx), .val (.ref w_ALL), .val (.int (3 : Int32)), .val (.int (0 : Int32)), .val (.ref w_INSERT)] [])) _
    refine XS.iinc X4.here hx rfl (hb hby d1_31) rfl (l' := #[.val (.int cx), .val (.ref w_ALL), .val (.int (3 : Int32)), .val (.int (1 : Int32)), .val (.ref w_INSERT)]) rfl ?_
    show Steps p.tables e below (T4.setTop (mkF m 34 #[.val (.int cx), .val (.ref w_ALL), .val (.int (3 : Int32)), .val (.int (1 : Int32)), .val (.ref w_INSERT)] [])) _
    refine XS.goto X4.here hx rfl (pc0 := 34) (pc' := 9) rfl (hb hby d1_34) (by decide) (by decide) ?_
    show Steps p.tables e below (T4.setTop (mkF m 9 #[.val (.int cx), .val (.ref w_ALL), .val (.int (3 : Int32)), .val (.int (1 : Int32)), .val (.ref w_INSERT)] [])) _
    refine XS.iloadN X4.here hx rfl (hb hby d1_9) rfl ?_
    show Steps p.tables e below (T4.setTop (mkF m 10 #[.val (.int cx), .val (.ref w_ALL), .val (.int (3 : Int32)), .val (.int (1 : Int32)), .val (.ref w_INSERT)] [(.int (1 : Int32))])) _
    refine XS.iloadN X4.here hx rfl (hb hby d1_10) rfl ?_
    show Steps p.tables e below (T4.setTop (mkF m 11 #[.val (.int cx), .val (.ref w_ALL), .val (.int (3 : Int32)), .val (.int (1 : Int32)), .val (.ref w_INSERT)] [(.int (3 : Int32)), (.int (1 : Int32))])) _
    refine XS.icmpNo X4.here hx rfl (hb hby d1_11) rfl (tlt (by decide : (1 : Int32) < (3 : Int32))).2.1 ?_
    show Steps p.tables e below (T4.setTop (mkF m 14 #[.val (.int cx), .val (.ref w_ALL), .val (.int (3 : Int32)), .val (.int (1 : Int32)), .val (.ref w_INSERT)] [])) _
    refine XS.aloadN X4.here hx rfl (hb hby d1_14) rfl rfl ?_
    show Steps p.tables e below (T4.setTop (mkF m 15 #[.val (.int cx), .val (.ref w_ALL), .val (.int (3 : Int32)), .val (.int (1 : Int32)), .val (.ref w_INSERT)] [(.ref w_ALL)])) _
    refine XS.iloadN X4.here hx rfl (hb hby d1_15) rfl ?_
    show Steps p.tables e below (T4.setTop (mkF m 16 #[.val (.int cx), .val (.ref w_ALL), .val (.int (3 : Int32)), .val (.int (1 : Int32)), .val (.ref w_INSERT)] [(.int (1 : Int32)), (.ref w_ALL)])) _
    refine X4.aaload hx (j := (1 : Int32)) (v := (.ref w_UPDATE)) (by rw [e4]; exact Ar5.1) (State.isArrayOf_alike hZ.alike Ar5.2.1) rfl Ar5.2.2 hin5 hat5 (g := (mkF m 16 #[.val (.int cx), .val (.ref w_ALL), .val (.int (3 : Int32)), .val (.int (1 : Int32)), .val (.ref w_INSERT)] [(.int (1 : Int32)), (.ref w_ALL)])) rfl rfl (hb hby d1_16) _ ?_
    show Steps p.tables e below (T4.setTop (mkF m 17 #[.val (.int cx), .val (.ref w_ALL), .val (.int (3 : Int32)), .val (.int (1 : Int32)), .val (.ref w_INSERT)] [(.ref w_UPDATE)])) _
    refine XS.astore X4.here hx rfl (hb hby d1_17) rfl rfl (l' := #[.val (.int cx), .val (.ref w_ALL), .val (.int (3 : Int32)), .val (.int (1 : Int32)), .val (.ref w_UPDATE)]) rfl ?_
    show Steps p.tables e below (T4.setTop (mkF m 19 #[.val (.int cx), .val (.ref w_ALL), .val (.int (3 : Int32)), .val (.int (1 : Int32)), .val (.ref w_UPDATE)] [])) _
    refine XS.aload X4.here hx rfl (hb hby d1_19) rfl rfl ?_
    show Steps p.tables e below (T4.setTop (mkF m 21 #[.val (.int cx), .val (.ref w_ALL), .val (.int (3 : Int32)), .val (.int (1 : Int32)), .val (.ref w_UPDATE)] [(.ref w_UPDATE)])) _
    refine st6 _ ?_
    show Steps p.tables e below (T6.setTop (mkF m 24 #[.val (.int cx), .val (.ref w_ALL), .val (.int (3 : Int32)), .val (.int (1 : Int32)), .val (.ref w_UPDATE)] [(.int (2 : Int32))])) _
    refine XS.iloadN X6.here hx rfl (hb hby d1_24) rfl ?_
    show Steps p.tables e below (T6.setTop (mkF m 25 #[.val (.int cx), .val (.ref w_ALL), .val (.int (3 : Int32)), .val (.int (1 : Int32)), .val (.ref w_UPDATE)] [(.int cx), (.int (2 : Int32))])) _
    refine XS.icmpYes X6.here hx rfl (pc0 := 25) (pc' := 31) rfl (hb hby d1_25) rfl (feq h2).2 (by decide) (by decide) ?_
    show Steps p.tables e below (T6.setTop (mkF m 31 #[.val (.int cx), .val (.ref w_ALL), .val (.int (3 : Int32)), .val (.int (1 : Int32)), .val (.ref w_UPDATE)] [])) _
    refine XS.iinc X6.here hx rfl (hb hby d1_31) rfl (l' := #[.val (.int cx), .val (.ref w_ALL), .val (.int (3 : Int32)), .val (.int (2 : Int32)), .val (.ref w_UPDATE)]) rfl ?_
    show Steps p.tables e below (T6.setTop (mkF m 34 #[.val (.int cx), .val (.ref w_ALL), .val (.int (3 : Int32)), .val (.int (2 : Int32)), .val (.ref w_UPDATE)] [])) _
    refine XS.goto X6.here hx rfl (pc0 := 34) (pc' := 9) rfl (hb hby d1_34) (by decide) (by decide) ?_
    show Steps p.tables e below (T6.setTop (mkF m 9 #[.val (.int cx), .val (.ref w_ALL), .val (.int (3 : Int32)), .val (.int (2 : Int32)), .val (.ref w_UPDATE)] [])) _
    refine XS.iloadN X6.here hx rfl (hb hby d1_9) rfl ?_
    show Steps p.tables e below (T6.setTop (mkF m 10 #[.val (.int cx), .val (.ref w_ALL), .val (.int (3 : Int32)), .val (.int (2 : Int32)), .val (.ref w_UPDATE)] [(.int (2 : Int32))])) _
    refine XS.iloadN X6.here hx rfl (hb hby d1_10) rfl ?_
    show Steps p.tables e below (T6.setTop (mkF m 11 #[.val (.int cx), .val (.ref w_ALL), .val (.int (3 : Int32)), .val (.int (2 : Int32)), .val (.ref w_UPDATE)] [(.int (3 : Int32)), (.int (2 : Int32))])) _
    refine XS.icmpNo X6.here hx rfl (hb hby d1_11) rfl (tlt (by decide : (2 : Int32) < (3 : Int32))).2.1 ?_
    show Steps p.tables e below (T6.setTop (mkF m 14 #[.val (.int cx), .val (.ref w_ALL), .val (.int (3 : Int32)), .val (.int (2 : Int32)), .val (.ref w_UPDATE)] [])) _
    refine XS.aloadN X6.here hx rfl (hb hby d1_14) rfl rfl ?_
    show Steps p.tables e below (T6.setTop (mkF m 15 #[.val (.int cx), .val (.ref w_ALL), .val (.int (3 : Int32)), .val (.int (2 : Int32)), .val (.ref w_UPDATE)] [(.ref w_ALL)])) _
    refine XS.iloadN X6.here hx rfl (hb hby d1_15) rfl ?_
    show Steps p.tables e below (T6.setTop (mkF m 16 #[.val (.int cx), .val (.ref w_ALL), .val (.int (3 : Int32)), .val (.int (2 : Int32)), .val (.ref w_UPDATE)] [(.int (2 : Int32)), (.ref w_ALL)])) _
    refine X6.aaload hx (j := (2 : Int32)) (v := (.ref w_DELETE)) (by rw [e6]; exact Ar7.1) (State.isArrayOf_alike hZ.alike Ar7.2.1) rfl Ar7.2.2 hin7 hat7 (g := (mkF m 16 #[.val (.int cx), .val (.ref w_ALL), .val (.int (3 : Int32)), .val (.int (2 : Int32)), .val (.ref w_UPDATE)] [(.int (2 : Int32)), (.ref w_ALL)])) rfl rfl (hb hby d1_16) _ ?_
    show Steps p.tables e below (T6.setTop (mkF m 17 #[.val (.int cx), .val (.ref w_ALL), .val (.int (3 : Int32)), .val (.int (2 : Int32)), .val (.ref w_UPDATE)] [(.ref w_DELETE)])) _
    refine XS.astore X6.here hx rfl (hb hby d1_17) rfl rfl (l' := #[.val (.int cx), .val (.ref w_ALL), .val (.int (3 : Int32)), .val (.int (2 : Int32)), .val (.ref w_DELETE)]) rfl ?_
    show Steps p.tables e below (T6.setTop (mkF m 19 #[.val (.int cx), .val (.ref w_ALL), .val (.int (3 : Int32)), .val (.int (2 : Int32)), .val (.ref w_DELETE)] [])) _
    refine XS.aload X6.here hx rfl (hb hby d1_19) rfl rfl ?_
    show Steps p.tables e below (T6.setTop (mkF m 21 #[.val (.int cx), .val (.ref w_ALL), .val (.int (3 : Int32)), .val (.int (2 : Int32)), .val (.ref w_DELETE)] [(.ref w_DELETE)])) _
    refine st8 _ ?_
    show Steps p.tables e below (T8.setTop (mkF m 24 #[.val (.int cx), .val (.ref w_ALL), .val (.int (3 : Int32)), .val (.int (2 : Int32)), .val (.ref w_DELETE)] [(.int (3 : Int32))])) _
    refine XS.iloadN X8.here hx rfl (hb hby d1_24) rfl ?_
    show Steps p.tables e below (T8.setTop (mkF m 25 #[.val (.int cx), .val (.ref w_ALL), .val (.int (3 : Int32)), .val (.int (2 : Int32)), .val (.ref w_DELETE)] [(.int cx), (.int (3 : Int32))])) _
    refine XS.icmpYes X8.here hx rfl (pc0 := 25) (pc' := 31) rfl (hb hby d1_25) rfl (feq h3).2 (by decide) (by decide) ?_
    show Steps p.tables e below (T8.setTop (mkF m 31 #[.val (.int cx), .val (.ref w_ALL), .val (.int (3 : Int32)), .val (.int (2 : Int32)), .val (.ref w_DELETE)] [])) _
    refine XS.iinc X8.here hx rfl (hb hby d1_31) rfl (l' := #[.val (.int cx), .val (.ref w_ALL), .val (.int (3 : Int32)), .val (.int (3 : Int32)), .val (.ref w_DELETE)]) rfl ?_
    show Steps p.tables e below (T8.setTop (mkF m 34 #[.val (.int cx), .val (.ref w_ALL), .val (.int (3 : Int32)), .val (.int (3 : Int32)), .val (.ref w_DELETE)] [])) _
    refine XS.goto X8.here hx rfl (pc0 := 34) (pc' := 9) rfl (hb hby d1_34) (by decide) (by decide) ?_
    show Steps p.tables e below (T8.setTop (mkF m 9 #[.val (.int cx), .val (.ref w_ALL), .val (.int (3 : Int32)), .val (.int (3 : Int32)), .val (.ref w_DELETE)] [])) _
    refine XS.iloadN X8.here hx rfl (hb hby d1_9) rfl ?_
    show Steps p.tables e below (T8.setTop (mkF m 10 #[.val (.int cx), .val (.ref w_ALL), .val (.int (3 : Int32)), .val (.int (3 : Int32)), .val (.ref w_DELETE)] [(.int (3 : Int32))])) _
    refine XS.iloadN X8.here hx rfl (hb hby d1_10) rfl ?_
    show Steps p.tables e below (T8.setTop (mkF m 11 #[.val (.int cx), .val (.ref w_ALL), .val (.int (3 : Int32)), .val (.int (3 : Int32)), .val (.ref w_DELETE)] [(.int (3 : Int32)), (.int (3 : Int32))])) _
    refine XS.icmpYes X8.here hx rfl (pc0 := 11) (pc' := 37) rfl (hb hby d1_11) rfl (flt (by decide : ¬ ((3 : Int32) < (3 : Int32)))).2.1 (by decide) (by decide) ?_
    show Steps p.tables e below (T8.setTop (mkF m 37 #[.val (.int cx), .val (.ref w_ALL), .val (.int (3 : Int32)), .val (.int (3 : Int32)), .val (.ref w_DELETE)] [])) _
    refine XS.aconstNull X8.here hx rfl (hb hby d1_37) ?_
    show Steps p.tables e below (T8.setTop (mkF m 38 #[.val (.int cx), .val (.ref w_ALL), .val (.int (3 : Int32)), .val (.int (3 : Int32)), .val (.ref w_DELETE)] [.null])) _
    exact retOut X8 hx Bd.returns rfl (Or.inr (Or.inr (Or.inr (Or.inr ⟨rfl, rfl, rfl⟩)))) (hb hby d1_38) hr
  · exact ⟨rfl, N0, e8⟩
theorem rm1 (l : Launch) (Z : State) (a0 : Array Value) (hw : ∀ d ∈ tables_1, d.before a0 Z = true) (ws : List Jvm.Cond) (n0 : Nat) (h0 : Heap) (O : Old Z n0 h0) (w_ALL : Addr) (w_INSERT : Addr) (w_UPDATE : Addr) (w_DELETE : Addr) (k_w_ALL : ClassId) (W : OwW Z w_ALL w_INSERT w_UPDATE w_DELETE k_w_ALL) (c : Int32) :
    OwCon l (⟨"com/example/lamina/lamina/engine/Operation", "ofCode", "(I)Lcom/example/lamina/lamina/engine/Operation;"⟩ : MethodName) prog_14_method_5_code 5 (some (.object "com/example/lamina/lamina/engine/Operation")) ws ({ frames := 0, cells := 0, slots := 0, locals := 0 } : Room) #[.int c] Z h0 (OwQ (some (owF w_INSERT w_UPDATE w_DELETE c)) h0 n0) := by
  by_cases h1 : (1 : Int32) = c
  · subst h1; rw [owF_1]; exact rm1_1 l Z a0 hw ws n0 h0 O w_ALL w_INSERT w_UPDATE w_DELETE k_w_ALL W
  by_cases h2 : (2 : Int32) = c
  · subst h2; rw [owF_2]; exact rm1_2 l Z a0 hw ws n0 h0 O w_ALL w_INSERT w_UPDATE w_DELETE k_w_ALL W
  by_cases h3 : (3 : Int32) = c
  · subst h3; rw [owF_3]; exact rm1_3 l Z a0 hw ws n0 h0 O w_ALL w_INSERT w_UPDATE w_DELETE k_w_ALL W
  rw [owF_o w_INSERT w_UPDATE w_DELETE h1 h2 h3]; exact rm1_o l Z a0 hw ws n0 h0 O w_ALL w_INSERT w_UPDATE w_DELETE k_w_ALL W c h1 h2 h3

set_option maxRecDepth 65536 in
set_option maxHeartbeats 40000000 in
theorem rm2_1 (l : Launch) (Z : State) (a0 : Array Value) (hw : ∀ d ∈ tables_1, d.before a0 Z = true) (ws : List Jvm.Cond) (n0 : Nat) (h0 : Heap) (O : Old Z n0 h0) (w_ALL : Addr) (w_INSERT : Addr) (w_UPDATE : Addr) (w_DELETE : Addr) (k_w_ALL : ClassId) (W : OwW Z w_ALL w_INSERT w_UPDATE w_DELETE k_w_ALL)  :
    OwCon l (⟨"com/example/lamina/lamina/engine/OperationOfCodePinLaw", "expected", "(I)Lcom/example/lamina/lamina/engine/Operation;"⟩ : MethodName) method_2_code 1 (some (.object "com/example/lamina/lamina/engine/Operation")) ws ({ frames := 0, cells := 0, slots := 0, locals := 0 } : Room) #[(.int (1 : Int32))] Z h0 (OwQ (some (.ref w_INSERT)) h0 n0) := by
  refine MetFree.of_bodySF (plainFor_of_name owpn2) hisR ?_
  intro p e s m args below meth c s₁ Bd hml0 hP hK
  obtain ⟨rfl, hZ, hh⟩ := hP
  have hx := Bd.exec
  have hby := Bd.bytes
  have hml : c.maxLocals = 1 := hml0
  have hown : s.vm.findClass "com/example/lamina/lamina/engine/OperationOfCodePinLaw" = some m.cls := findClass_of_methodNamed Bd.named
  have hnm := (name_of_methodNamed Bd.named Bd.method).1
  have X0 : Stand p l e ({ frames := 0, cells := 0, slots := 0, locals := 0 } : Room) s m #[(.int (1 : Int32))] below meth c s₁ [] 0 0 := Stand.of_body Bd
  have e0 : s₁.heap = h0 := by rw [← hh, Bd.state]; rfl
  have N0 := Fr.nil n0
  have WW := W
  obtain ⟨E_w_INSERT, E_w_UPDATE, E_w_DELETE, S_Operation_ALL, S_Operation_INSERT, F_w_INSERT_code, S_Operation_UPDATE, F_w_UPDATE_code, S_Operation_DELETE, F_w_DELETE_code, V_w_ALL, -⟩ := WW
  have ef : entryFrame m #[(.int (1 : Int32))] 1 = mkF m 0 #[.val (.int (1 : Int32))] [] := by first | rfl | (simp [entryFrame, mkF, argsToLocals, Value.category]; done)
  have pre0 : ∀ t, Steps p.tables e below (s₁.setTop (mkF m 0 #[.val (.int (1 : Int32))] [])) t → Steps p.tables e below (s₁.setTop (entryFrame m #[(.int (1 : Int32))] 1)) t := fun t k => castTop ef k
  obtain ⟨T1, X1, e1, st1⟩ := getS2 X0 hx hZ hown (host := "") (Or.inl (hw _ (List.mem_of_getElem? (i := 18) rfl))) Via.refl e0 (S_Operation_INSERT.ext O.2) (g := (mkF m 5 #[.val (.int (1 : Int32))] [])) rfl (hb hby d2_5)
  obtain ⟨fs, hr, hrun, hended, hW, hsame⟩ := X1.leave (v := some (.ref w_INSERT)) (fun h => by rw [Bd.returns] at h; cases h)
  refine ⟨_, _, pre0 _ ?_, hrun, hended, _, _, rfl, ?_, ⟨_, rfl⟩, hW, hsame.mono (by decide) (by decide)⟩
  · show Steps p.tables e below (s₁.setTop (mkF m 0 #[.val (.int (1 : Int32))] [])) _
    refine XS.iloadN X0.here hx rfl (hb hby d2_0) rfl ?_
    show Steps p.tables e below (s₁.setTop (mkF m 1 #[.val (.int (1 : Int32))] [(.int (1 : Int32))])) _
    refine XS.iconst X0.here hx rfl (hb hby d2_1) ?_
    show Steps p.tables e below (s₁.setTop (mkF m 2 #[.val (.int (1 : Int32))] [(.int (1 : Int32)), (.int (1 : Int32))])) _
    refine XS.icmpNo X0.here hx rfl (hb hby d2_2) rfl (teq (by decide : (1 : Int32) = (1 : Int32))).2 ?_
    show Steps p.tables e below (s₁.setTop (mkF m 5 #[.val (.int (1 : Int32))] [])) _
    refine st1 _ ?_
    show Steps p.tables e below (T1.setTop (mkF m 8 #[.val (.int (1 : Int32))] [(.ref w_INSERT)])) _
    exact retOut X1 hx Bd.returns rfl (Or.inr (Or.inr (Or.inr (Or.inr ⟨rfl, rfl, rfl⟩)))) (hb hby d2_8) hr
  · exact ⟨rfl, N0, e1⟩
set_option maxRecDepth 65536 in
set_option maxHeartbeats 40000000 in
theorem rm2_2 (l : Launch) (Z : State) (a0 : Array Value) (hw : ∀ d ∈ tables_1, d.before a0 Z = true) (ws : List Jvm.Cond) (n0 : Nat) (h0 : Heap) (O : Old Z n0 h0) (w_ALL : Addr) (w_INSERT : Addr) (w_UPDATE : Addr) (w_DELETE : Addr) (k_w_ALL : ClassId) (W : OwW Z w_ALL w_INSERT w_UPDATE w_DELETE k_w_ALL)  :
    OwCon l (⟨"com/example/lamina/lamina/engine/OperationOfCodePinLaw", "expected", "(I)Lcom/example/lamina/lamina/engine/Operation;"⟩ : MethodName) method_2_code 1 (some (.object "com/example/lamina/lamina/engine/Operation")) ws ({ frames := 0, cells := 0, slots := 0, locals := 0 } : Room) #[(.int (2 : Int32))] Z h0 (OwQ (some (.ref w_UPDATE)) h0 n0) := by
  refine MetFree.of_bodySF (plainFor_of_name owpn2) hisR ?_
  intro p e s m args below meth c s₁ Bd hml0 hP hK
  obtain ⟨rfl, hZ, hh⟩ := hP
  have hx := Bd.exec
  have hby := Bd.bytes
  have hml : c.maxLocals = 1 := hml0
  have hown : s.vm.findClass "com/example/lamina/lamina/engine/OperationOfCodePinLaw" = some m.cls := findClass_of_methodNamed Bd.named
  have hnm := (name_of_methodNamed Bd.named Bd.method).1
  have X0 : Stand p l e ({ frames := 0, cells := 0, slots := 0, locals := 0 } : Room) s m #[(.int (2 : Int32))] below meth c s₁ [] 0 0 := Stand.of_body Bd
  have e0 : s₁.heap = h0 := by rw [← hh, Bd.state]; rfl
  have N0 := Fr.nil n0
  have WW := W
  obtain ⟨E_w_INSERT, E_w_UPDATE, E_w_DELETE, S_Operation_ALL, S_Operation_INSERT, F_w_INSERT_code, S_Operation_UPDATE, F_w_UPDATE_code, S_Operation_DELETE, F_w_DELETE_code, V_w_ALL, -⟩ := WW
  have ef : entryFrame m #[(.int (2 : Int32))] 1 = mkF m 0 #[.val (.int (2 : Int32))] [] := by first | rfl | (simp [entryFrame, mkF, argsToLocals, Value.category]; done)
  have pre0 : ∀ t, Steps p.tables e below (s₁.setTop (mkF m 0 #[.val (.int (2 : Int32))] [])) t → Steps p.tables e below (s₁.setTop (entryFrame m #[(.int (2 : Int32))] 1)) t := fun t k => castTop ef k
  obtain ⟨T1, X1, e1, st1⟩ := getS2 X0 hx hZ hown (host := "") (Or.inl (hw _ (List.mem_of_getElem? (i := 17) rfl))) Via.refl e0 (S_Operation_UPDATE.ext O.2) (g := (mkF m 14 #[.val (.int (2 : Int32))] [])) rfl (hb hby d2_14)
  obtain ⟨fs, hr, hrun, hended, hW, hsame⟩ := X1.leave (v := some (.ref w_UPDATE)) (fun h => by rw [Bd.returns] at h; cases h)
  refine ⟨_, _, pre0 _ ?_, hrun, hended, _, _, rfl, ?_, ⟨_, rfl⟩, hW, hsame.mono (by decide) (by decide)⟩
  · show Steps p.tables e below (s₁.setTop (mkF m 0 #[.val (.int (2 : Int32))] [])) _
    refine XS.iloadN X0.here hx rfl (hb hby d2_0) rfl ?_
    show Steps p.tables e below (s₁.setTop (mkF m 1 #[.val (.int (2 : Int32))] [(.int (2 : Int32))])) _
    refine XS.iconst X0.here hx rfl (hb hby d2_1) ?_
    show Steps p.tables e below (s₁.setTop (mkF m 2 #[.val (.int (2 : Int32))] [(.int (1 : Int32)), (.int (2 : Int32))])) _
    refine XS.icmpYes X0.here hx rfl (pc0 := 2) (pc' := 9) rfl (hb hby d2_2) rfl (feq (by decide : ¬ ((2 : Int32) = (1 : Int32)))).2 (by decide) (by decide) ?_
    show Steps p.tables e below (s₁.setTop (mkF m 9 #[.val (.int (2 : Int32))] [])) _
    refine XS.iloadN X0.here hx rfl (hb hby d2_9) rfl ?_
    show Steps p.tables e below (s₁.setTop (mkF m 10 #[.val (.int (2 : Int32))] [(.int (2 : Int32))])) _
    refine XS.iconst X0.here hx rfl (hb hby d2_10) ?_
    show Steps p.tables e below (s₁.setTop (mkF m 11 #[.val (.int (2 : Int32))] [(.int (2 : Int32)), (.int (2 : Int32))])) _
    refine XS.icmpNo X0.here hx rfl (hb hby d2_11) rfl (teq (by decide : (2 : Int32) = (2 : Int32))).2 ?_
    show Steps p.tables e below (s₁.setTop (mkF m 14 #[.val (.int (2 : Int32))] [])) _
    refine st1 _ ?_
    show Steps p.tables e below (T1.setTop (mkF m 17 #[.val (.int (2 : Int32))] [(.ref w_UPDATE)])) _
    exact retOut X1 hx Bd.returns rfl (Or.inr (Or.inr (Or.inr (Or.inr ⟨rfl, rfl, rfl⟩)))) (hb hby d2_17) hr
  · exact ⟨rfl, N0, e1⟩
set_option maxRecDepth 65536 in
set_option maxHeartbeats 40000000 in
theorem rm2_3 (l : Launch) (Z : State) (a0 : Array Value) (hw : ∀ d ∈ tables_1, d.before a0 Z = true) (ws : List Jvm.Cond) (n0 : Nat) (h0 : Heap) (O : Old Z n0 h0) (w_ALL : Addr) (w_INSERT : Addr) (w_UPDATE : Addr) (w_DELETE : Addr) (k_w_ALL : ClassId) (W : OwW Z w_ALL w_INSERT w_UPDATE w_DELETE k_w_ALL)  :
    OwCon l (⟨"com/example/lamina/lamina/engine/OperationOfCodePinLaw", "expected", "(I)Lcom/example/lamina/lamina/engine/Operation;"⟩ : MethodName) method_2_code 1 (some (.object "com/example/lamina/lamina/engine/Operation")) ws ({ frames := 0, cells := 0, slots := 0, locals := 0 } : Room) #[(.int (3 : Int32))] Z h0 (OwQ (some (.ref w_DELETE)) h0 n0) := by
  refine MetFree.of_bodySF (plainFor_of_name owpn2) hisR ?_
  intro p e s m args below meth c s₁ Bd hml0 hP hK
  obtain ⟨rfl, hZ, hh⟩ := hP
  have hx := Bd.exec
  have hby := Bd.bytes
  have hml : c.maxLocals = 1 := hml0
  have hown : s.vm.findClass "com/example/lamina/lamina/engine/OperationOfCodePinLaw" = some m.cls := findClass_of_methodNamed Bd.named
  have hnm := (name_of_methodNamed Bd.named Bd.method).1
  have X0 : Stand p l e ({ frames := 0, cells := 0, slots := 0, locals := 0 } : Room) s m #[(.int (3 : Int32))] below meth c s₁ [] 0 0 := Stand.of_body Bd
  have e0 : s₁.heap = h0 := by rw [← hh, Bd.state]; rfl
  have N0 := Fr.nil n0
  have WW := W
  obtain ⟨E_w_INSERT, E_w_UPDATE, E_w_DELETE, S_Operation_ALL, S_Operation_INSERT, F_w_INSERT_code, S_Operation_UPDATE, F_w_UPDATE_code, S_Operation_DELETE, F_w_DELETE_code, V_w_ALL, -⟩ := WW
  have ef : entryFrame m #[(.int (3 : Int32))] 1 = mkF m 0 #[.val (.int (3 : Int32))] [] := by first | rfl | (simp [entryFrame, mkF, argsToLocals, Value.category]; done)
  have pre0 : ∀ t, Steps p.tables e below (s₁.setTop (mkF m 0 #[.val (.int (3 : Int32))] [])) t → Steps p.tables e below (s₁.setTop (entryFrame m #[(.int (3 : Int32))] 1)) t := fun t k => castTop ef k
  obtain ⟨T1, X1, e1, st1⟩ := getS2 X0 hx hZ hown (host := "") (Or.inl (hw _ (List.mem_of_getElem? (i := 16) rfl))) Via.refl e0 (S_Operation_DELETE.ext O.2) (g := (mkF m 23 #[.val (.int (3 : Int32))] [])) rfl (hb hby d2_23)
  obtain ⟨fs, hr, hrun, hended, hW, hsame⟩ := X1.leave (v := some (.ref w_DELETE)) (fun h => by rw [Bd.returns] at h; cases h)
  refine ⟨_, _, pre0 _ ?_, hrun, hended, _, _, rfl, ?_, ⟨_, rfl⟩, hW, hsame.mono (by decide) (by decide)⟩
  · show Steps p.tables e below (s₁.setTop (mkF m 0 #[.val (.int (3 : Int32))] [])) _
    refine XS.iloadN X0.here hx rfl (hb hby d2_0) rfl ?_
    show Steps p.tables e below (s₁.setTop (mkF m 1 #[.val (.int (3 : Int32))] [(.int (3 : Int32))])) _
    refine XS.iconst X0.here hx rfl (hb hby d2_1) ?_
    show Steps p.tables e below (s₁.setTop (mkF m 2 #[.val (.int (3 : Int32))] [(.int (1 : Int32)), (.int (3 : Int32))])) _
    refine XS.icmpYes X0.here hx rfl (pc0 := 2) (pc' := 9) rfl (hb hby d2_2) rfl (feq (by decide : ¬ ((3 : Int32) = (1 : Int32)))).2 (by decide) (by decide) ?_
    show Steps p.tables e below (s₁.setTop (mkF m 9 #[.val (.int (3 : Int32))] [])) _
    refine XS.iloadN X0.here hx rfl (hb hby d2_9) rfl ?_
    show Steps p.tables e below (s₁.setTop (mkF m 10 #[.val (.int (3 : Int32))] [(.int (3 : Int32))])) _
    refine XS.iconst X0.here hx rfl (hb hby d2_10) ?_
    show Steps p.tables e below (s₁.setTop (mkF m 11 #[.val (.int (3 : Int32))] [(.int (2 : Int32)), (.int (3 : Int32))])) _
    refine XS.icmpYes X0.here hx rfl (pc0 := 11) (pc' := 18) rfl (hb hby d2_11) rfl (feq (by decide : ¬ ((3 : Int32) = (2 : Int32)))).2 (by decide) (by decide) ?_
    show Steps p.tables e below (s₁.setTop (mkF m 18 #[.val (.int (3 : Int32))] [])) _
    refine XS.iloadN X0.here hx rfl (hb hby d2_18) rfl ?_
    show Steps p.tables e below (s₁.setTop (mkF m 19 #[.val (.int (3 : Int32))] [(.int (3 : Int32))])) _
    refine XS.iconst X0.here hx rfl (hb hby d2_19) ?_
    show Steps p.tables e below (s₁.setTop (mkF m 20 #[.val (.int (3 : Int32))] [(.int (3 : Int32)), (.int (3 : Int32))])) _
    refine XS.icmpNo X0.here hx rfl (hb hby d2_20) rfl (teq (by decide : (3 : Int32) = (3 : Int32))).2 ?_
    show Steps p.tables e below (s₁.setTop (mkF m 23 #[.val (.int (3 : Int32))] [])) _
    refine st1 _ ?_
    show Steps p.tables e below (T1.setTop (mkF m 26 #[.val (.int (3 : Int32))] [(.ref w_DELETE)])) _
    exact retOut X1 hx Bd.returns rfl (Or.inr (Or.inr (Or.inr (Or.inr ⟨rfl, rfl, rfl⟩)))) (hb hby d2_26) hr
  · exact ⟨rfl, N0, e1⟩
set_option maxRecDepth 65536 in
set_option maxHeartbeats 40000000 in
theorem rm2_o (l : Launch) (Z : State) (a0 : Array Value) (hw : ∀ d ∈ tables_1, d.before a0 Z = true) (ws : List Jvm.Cond) (n0 : Nat) (h0 : Heap) (O : Old Z n0 h0) (w_ALL : Addr) (w_INSERT : Addr) (w_UPDATE : Addr) (w_DELETE : Addr) (k_w_ALL : ClassId) (W : OwW Z w_ALL w_INSERT w_UPDATE w_DELETE k_w_ALL) (cx : Int32) (h1 : ¬ (1 : Int32) = cx) (h2 : ¬ (2 : Int32) = cx) (h3 : ¬ (3 : Int32) = cx) :
    OwCon l (⟨"com/example/lamina/lamina/engine/OperationOfCodePinLaw", "expected", "(I)Lcom/example/lamina/lamina/engine/Operation;"⟩ : MethodName) method_2_code 1 (some (.object "com/example/lamina/lamina/engine/Operation")) ws ({ frames := 0, cells := 0, slots := 0, locals := 0 } : Room) #[(.int cx)] Z h0 (OwQ (some .null) h0 n0) := by
  refine MetFree.of_bodySF (plainFor_of_name owpn2) hisR ?_
  intro p e s m args below meth c s₁ Bd hml0 hP hK
  obtain ⟨rfl, hZ, hh⟩ := hP
  have hx := Bd.exec
  have hby := Bd.bytes
  have hml : c.maxLocals = 1 := hml0
  have hown : s.vm.findClass "com/example/lamina/lamina/engine/OperationOfCodePinLaw" = some m.cls := findClass_of_methodNamed Bd.named
  have hnm := (name_of_methodNamed Bd.named Bd.method).1
  have X0 : Stand p l e ({ frames := 0, cells := 0, slots := 0, locals := 0 } : Room) s m #[(.int cx)] below meth c s₁ [] 0 0 := Stand.of_body Bd
  have e0 : s₁.heap = h0 := by rw [← hh, Bd.state]; rfl
  have N0 := Fr.nil n0
  have WW := W
  obtain ⟨E_w_INSERT, E_w_UPDATE, E_w_DELETE, S_Operation_ALL, S_Operation_INSERT, F_w_INSERT_code, S_Operation_UPDATE, F_w_UPDATE_code, S_Operation_DELETE, F_w_DELETE_code, V_w_ALL, -⟩ := WW
  have ef : entryFrame m #[(.int cx)] 1 = mkF m 0 #[.val (.int cx)] [] := by first | rfl | (simp [entryFrame, mkF, argsToLocals, Value.category]; done)
  have pre0 : ∀ t, Steps p.tables e below (s₁.setTop (mkF m 0 #[.val (.int cx)] [])) t → Steps p.tables e below (s₁.setTop (entryFrame m #[(.int cx)] 1)) t := fun t k => castTop ef k
  obtain ⟨fs, hr, hrun, hended, hW, hsame⟩ := X0.leave (v := some .null) (fun h => by rw [Bd.returns] at h; cases h)
  refine ⟨_, _, pre0 _ ?_, hrun, hended, _, _, rfl, ?_, ⟨_, rfl⟩, hW, hsame.mono (by decide) (by decide)⟩
  · show Steps p.tables e below (s₁.setTop (mkF m 0 #[.val (.int cx)] [])) _
    refine XS.iloadN X0.here hx rfl (hb hby d2_0) rfl ?_
    show Steps p.tables e below (s₁.setTop (mkF m 1 #[.val (.int cx)] [(.int cx)])) _
    refine XS.iconst X0.here hx rfl (hb hby d2_1) ?_
    show Steps p.tables e below (s₁.setTop (mkF m 2 #[.val (.int cx)] [(.int (1 : Int32)), (.int cx)])) _
    refine XS.icmpYes X0.here hx rfl (pc0 := 2) (pc' := 9) rfl (hb hby d2_2) rfl (feq (Ne.symm h1)).2 (by decide) (by decide) ?_
    show Steps p.tables e below (s₁.setTop (mkF m 9 #[.val (.int cx)] [])) _
    refine XS.iloadN X0.here hx rfl (hb hby d2_9) rfl ?_
    show Steps p.tables e below (s₁.setTop (mkF m 10 #[.val (.int cx)] [(.int cx)])) _
    refine XS.iconst X0.here hx rfl (hb hby d2_10) ?_
    show Steps p.tables e below (s₁.setTop (mkF m 11 #[.val (.int cx)] [(.int (2 : Int32)), (.int cx)])) _
    refine XS.icmpYes X0.here hx rfl (pc0 := 11) (pc' := 18) rfl (hb hby d2_11) rfl (feq (Ne.symm h2)).2 (by decide) (by decide) ?_
    show Steps p.tables e below (s₁.setTop (mkF m 18 #[.val (.int cx)] [])) _
    refine XS.iloadN X0.here hx rfl (hb hby d2_18) rfl ?_
    show Steps p.tables e below (s₁.setTop (mkF m 19 #[.val (.int cx)] [(.int cx)])) _
    refine XS.iconst X0.here hx rfl (hb hby d2_19) ?_
    show Steps p.tables e below (s₁.setTop (mkF m 20 #[.val (.int cx)] [(.int (3 : Int32)), (.int cx)])) _
    refine XS.icmpYes X0.here hx rfl (pc0 := 20) (pc' := 27) rfl (hb hby d2_20) rfl (feq (Ne.symm h3)).2 (by decide) (by decide) ?_
    show Steps p.tables e below (s₁.setTop (mkF m 27 #[.val (.int cx)] [])) _
    refine XS.aconstNull X0.here hx rfl (hb hby d2_27) ?_
    show Steps p.tables e below (s₁.setTop (mkF m 28 #[.val (.int cx)] [.null])) _
    exact retOut X0 hx Bd.returns rfl (Or.inr (Or.inr (Or.inr (Or.inr ⟨rfl, rfl, rfl⟩)))) (hb hby d2_28) hr
  · exact ⟨rfl, N0, e0⟩
theorem rm2 (l : Launch) (Z : State) (a0 : Array Value) (hw : ∀ d ∈ tables_1, d.before a0 Z = true) (ws : List Jvm.Cond) (n0 : Nat) (h0 : Heap) (O : Old Z n0 h0) (w_ALL : Addr) (w_INSERT : Addr) (w_UPDATE : Addr) (w_DELETE : Addr) (k_w_ALL : ClassId) (W : OwW Z w_ALL w_INSERT w_UPDATE w_DELETE k_w_ALL) (c : Int32) :
    OwCon l (⟨"com/example/lamina/lamina/engine/OperationOfCodePinLaw", "expected", "(I)Lcom/example/lamina/lamina/engine/Operation;"⟩ : MethodName) method_2_code 1 (some (.object "com/example/lamina/lamina/engine/Operation")) ws ({ frames := 0, cells := 0, slots := 0, locals := 0 } : Room) #[.int c] Z h0 (OwQ (some (owF w_INSERT w_UPDATE w_DELETE c)) h0 n0) := by
  by_cases h1 : (1 : Int32) = c
  · subst h1; rw [owF_1]; exact rm2_1 l Z a0 hw ws n0 h0 O w_ALL w_INSERT w_UPDATE w_DELETE k_w_ALL W
  by_cases h2 : (2 : Int32) = c
  · subst h2; rw [owF_2]; exact rm2_2 l Z a0 hw ws n0 h0 O w_ALL w_INSERT w_UPDATE w_DELETE k_w_ALL W
  by_cases h3 : (3 : Int32) = c
  · subst h3; rw [owF_3]; exact rm2_3 l Z a0 hw ws n0 h0 O w_ALL w_INSERT w_UPDATE w_DELETE k_w_ALL W
  rw [owF_o w_INSERT w_UPDATE w_DELETE h1 h2 h3]; exact rm2_o l Z a0 hw ws n0 h0 O w_ALL w_INSERT w_UPDATE w_DELETE k_w_ALL W c h1 h2 h3

set_option maxRecDepth 65536 in
set_option maxHeartbeats 40000000 in
theorem rm0 (l : Launch) (Z : State) (a0 : Array Value) (hw : ∀ d ∈ tables_1, d.before a0 Z = true) (ws : List Jvm.Cond) (n0 : Nat) (h0 : Heap) (O : Old Z n0 h0) (w_ALL : Addr) (w_INSERT : Addr) (w_UPDATE : Addr) (w_DELETE : Addr) (k_w_ALL : ClassId) (W : OwW Z w_ALL w_INSERT w_UPDATE w_DELETE k_w_ALL) (p0 : Int32) (p1 : Int32) :
    OwCon l x code maxLocals ret ws room_1 #[(.int p0), (.int p1)] Z h0 (OwP (fun v _ => v = some (.int 1)) n0) := by
  refine MetFree.of_bodySF (plainFor_of_name owpn0) hisR ?_
  intro p e s m args below meth c s₁ Bd hml0 hP hK
  obtain ⟨rfl, hZ, hh⟩ := hP
  have hx := Bd.exec
  have hby := Bd.bytes
  have hml : c.maxLocals = 4 := hml0
  have hown : s.vm.findClass "com/example/lamina/lamina/engine/OperationOfCodePinLaw" = some m.cls := findClass_of_methodNamed Bd.named
  have hnm := (name_of_methodNamed Bd.named Bd.method).1
  have X0 : Stand p l e room_1 s m #[(.int p0), (.int p1)] below meth c s₁ [] 0 0 := Stand.of_body Bd
  have e0 : s₁.heap = h0 := by rw [← hh, Bd.state]; rfl
  have N0 := Fr.nil n0
  have WW := W
  obtain ⟨E_w_INSERT, E_w_UPDATE, E_w_DELETE, S_Operation_ALL, S_Operation_INSERT, F_w_INSERT_code, S_Operation_UPDATE, F_w_UPDATE_code, S_Operation_DELETE, F_w_DELETE_code, V_w_ALL, -⟩ := WW
  have ef : entryFrame m #[(.int p0), (.int p1)] maxLocals = mkF m 0 #[.val (.int p0), .val (.int p1), .unset, .unset] [] := by first | rfl | (simp [entryFrame, mkF, argsToLocals, Value.category, maxLocals]; done)
  have pre0 : ∀ t, Steps p.tables e below (s₁.setTop (mkF m 0 #[.val (.int p0), .val (.int p1), .unset, .unset] [])) t → Steps p.tables e below (s₁.setTop (entryFrame m #[(.int p0), (.int p1)] maxLocals)) t := fun t k => castTop ef k
  have sg1 : ∀ target, Steps p.tables e below (s₁.setTop (mkF m 16 #[.val (.int p0), .val (.int p1), .unset, .unset] [(.int (if (p1 &&& (1 : Int32)) = (0 : Int32) then p0 else ((p0 &&& (2147483647 : Int32)) % (5 : Int32))))])) target → Steps p.tables e below (s₁.setTop (mkF m 3 #[.val (.int p0), .val (.int p1), .unset, .unset] [(.int (p1 &&& (1 : Int32)))])) target := by
    intro target kt
    by_cases hd1_0 : (p1 &&& (1 : Int32)) = (0 : Int32)
    · show Steps p.tables e below (s₁.setTop (mkF m 3 #[.val (.int p0), .val (.int p1), .unset, .unset] [(.int (p1 &&& (1 : Int32)))])) _
      refine XS.ifYes X0.here hx rfl (pc0 := 3) (pc' := 15) rfl (hb hby at_3) rfl ((if0 _ _).trans (teq hd1_0).1) (by decide) (by decide) ?_
      show Steps p.tables e below (s₁.setTop (mkF m 15 #[.val (.int p0), .val (.int p1), .unset, .unset] [])) _
      refine XS.iloadN X0.here hx rfl (hb hby at_15) rfl ?_
      exact (by simpa only [if_pos hd1_0] using kt)
    · show Steps p.tables e below (s₁.setTop (mkF m 3 #[.val (.int p0), .val (.int p1), .unset, .unset] [(.int (p1 &&& (1 : Int32)))])) _
      refine XS.ifNo X0.here hx rfl (hb hby at_3) rfl ((if0 _ _).trans (feq hd1_0).1) ?_
      show Steps p.tables e below (s₁.setTop (mkF m 6 #[.val (.int p0), .val (.int p1), .unset, .unset] [])) _
      refine XS.iloadN X0.here hx rfl (hb hby at_6) rfl ?_
      show Steps p.tables e below (s₁.setTop (mkF m 7 #[.val (.int p0), .val (.int p1), .unset, .unset] [(.int p0)])) _
      refine X0.ldcInt hx hown (mvT hZ (hw _ (List.mem_of_getElem? (i := 0) rfl))) (g := (mkF m 7 #[.val (.int p0), .val (.int p1), .unset, .unset] [(.int p0)])) rfl (hb hby at_7) _ ?_
      show Steps p.tables e below (s₁.setTop (mkF m 9 #[.val (.int p0), .val (.int p1), .unset, .unset] [(.int (2147483647 : Int32)), (.int p0)])) _
      refine XS.iand X0.here hx rfl (hb hby at_9) rfl ?_
      show Steps p.tables e below (s₁.setTop (mkF m 10 #[.val (.int p0), .val (.int p1), .unset, .unset] [(.int (p0 &&& (2147483647 : Int32)))])) _
      refine XS.iconst X0.here hx rfl (hb hby at_10) ?_
      show Steps p.tables e below (s₁.setTop (mkF m 11 #[.val (.int p0), .val (.int p1), .unset, .unset] [(.int (5 : Int32)), (.int (p0 &&& (2147483647 : Int32)))])) _
      refine iremM X0 hx rfl (hb hby at_11) rfl (by decide) ?_
      show Steps p.tables e below (s₁.setTop (mkF m 12 #[.val (.int p0), .val (.int p1), .unset, .unset] [(.int ((p0 &&& (2147483647 : Int32)) % (5 : Int32)))])) _
      refine XS.goto X0.here hx rfl (pc0 := 12) (pc' := 16) rfl (hb hby at_12) (by decide) (by decide) ?_
      exact (by simpa only [if_neg hd1_0] using kt)
  obtain ⟨_, _, ⟨T2, L2, k2, n2⟩, -, X2, ⟨Lc2, hQ2, l2, y2, z2⟩, st2⟩ := Jvm.LawKit.callS X0 hx (y := (⟨"com/example/lamina/lamina/engine/Operation", "ofCode", "(I)Lcom/example/lamina/lamina/engine/Operation;"⟩ : MethodName)) hown (mvT hZ (hw _ (List.mem_of_getElem? (i := 1) rfl))) (mvT hZ (hw _ (List.mem_of_getElem? (i := 2) rfl))) (mvT hZ (hw _ (List.mem_of_getElem? (i := 3) rfl))) (mvT hZ (hw _ (List.mem_of_getElem? (i := 4) rfl))) (by decide) (backOf (W := 0) (rm1 l Z a0 hw [] n0 h0 O w_ALL w_INSERT w_UPDATE w_DELETE k_w_ALL W (if (p1 &&& (1 : Int32)) = (0 : Int32) then p0 else ((p0 &&& (2147483647 : Int32)) % (5 : Int32)))) hZ (hw _ (List.mem_of_getElem? (i := 4) rfl)) (hw _ (List.mem_of_getElem? (i := 3) rfl)) (by decide) (by decide)) (g := (mkF m 18 #[.val (.int p0), .val (.int p1), .val (.int (if (p1 &&& (1 : Int32)) = (0 : Int32) then p0 else ((p0 &&& (2147483647 : Int32)) % (5 : Int32)))), .unset] [(.int (if (p1 &&& (1 : Int32)) = (0 : Int32) then p0 else ((p0 &&& (2147483647 : Int32)) % (5 : Int32))))])) rfl (by rw [hml]; rfl) (argsL := [(.int (if (p1 &&& (1 : Int32)) = (0 : Int32) then p0 else ((p0 &&& (2147483647 : Int32)) % (5 : Int32))))]) (rest := []) (lenOf owpd0 rfl) rfl (by show 2 * 0 + _ ≤ _; exact Nat.le_of_eq rfl) (hb hby at_18) (fun _ _ => ⟨rfl, e0, (by decide : 0 + 0 ≤ _), (by decide : 0 + 0 ≤ _)⟩)
  dsimp only [Pt.U, Pt.locs, Pt.cells, Pt.slots] at X2 l2 y2 z2 st2 hQ2
  subst l2 y2 z2
  obtain ⟨rfl, Nq2, e2⟩ := hQ2
  have N2 := Fr.app N0 Nq2
  obtain ⟨_, _, ⟨T3, L3, k3, n3⟩, -, X3, ⟨Lc3, hQ3, l3, y3, z3⟩, st3⟩ := Jvm.LawKit.callS X2 hx (y := (⟨"com/example/lamina/lamina/engine/OperationOfCodePinLaw", "expected", "(I)Lcom/example/lamina/lamina/engine/Operation;"⟩ : MethodName)) hown (mvT hZ (hw _ (List.mem_of_getElem? (i := 12) rfl))) (mvT hZ (hw _ (List.mem_of_getElem? (i := 13) rfl))) (mvT hZ (hw _ (List.mem_of_getElem? (i := 14) rfl))) (mvT hZ (hw _ (List.mem_of_getElem? (i := 15) rfl))) (by decide) (backOf (W := 1) (rm2 l Z a0 hw [] n0 h0 O w_ALL w_INSERT w_UPDATE w_DELETE k_w_ALL W (if (p1 &&& (1 : Int32)) = (0 : Int32) then p0 else ((p0 &&& (2147483647 : Int32)) % (5 : Int32)))) hZ (hw _ (List.mem_of_getElem? (i := 15) rfl)) (hw _ (List.mem_of_getElem? (i := 14) rfl)) (by decide) (by decide)) (g := (mkF m 24 #[.val (.int p0), .val (.int p1), .val (.int (if (p1 &&& (1 : Int32)) = (0 : Int32) then p0 else ((p0 &&& (2147483647 : Int32)) % (5 : Int32)))), .val (owF w_INSERT w_UPDATE w_DELETE (if (p1 &&& (1 : Int32)) = (0 : Int32) then p0 else ((p0 &&& (2147483647 : Int32)) % (5 : Int32))))] [(.int (if (p1 &&& (1 : Int32)) = (0 : Int32) then p0 else ((p0 &&& (2147483647 : Int32)) % (5 : Int32)))), (owF w_INSERT w_UPDATE w_DELETE (if (p1 &&& (1 : Int32)) = (0 : Int32) then p0 else ((p0 &&& (2147483647 : Int32)) % (5 : Int32))))])) rfl (by rw [hml]; rfl) (argsL := [(.int (if (p1 &&& (1 : Int32)) = (0 : Int32) then p0 else ((p0 &&& (2147483647 : Int32)) % (5 : Int32))))]) (rest := [(owF w_INSERT w_UPDATE w_DELETE (if (p1 &&& (1 : Int32)) = (0 : Int32) then p0 else ((p0 &&& (2147483647 : Int32)) % (5 : Int32))))]) (lenOf owpd0 rfl) rfl (by show 2 * 0 + _ ≤ _; simp only [List.map_cons, List.map_nil, List.sum_cons, List.sum_nil, own_cat (owF_ref w_INSERT w_UPDATE w_DELETE (if (p1 &&& (1 : Int32)) = (0 : Int32) then p0 else ((p0 &&& (2147483647 : Int32)) % (5 : Int32))))] <;> exact Nat.le_of_eq rfl) (hb hby at_24) (fun _ _ => ⟨rfl, e2, (by decide : 0 + 0 ≤ _), (by decide : 0 + 0 ≤ _)⟩)
  dsimp only [Pt.U, Pt.locs, Pt.cells, Pt.slots] at X3 l3 y3 z3 st3 hQ3
  subst l3 y3 z3
  obtain ⟨rfl, Nq3, e3⟩ := hQ3
  have N3 := Fr.app N2 Nq3
  obtain ⟨fs, hr, hrun, hended, hW, hsame⟩ := X3.leave (v := some (.int (1 : Int32))) (fun h => by rw [Bd.returns] at h; cases h)
  refine ⟨_, _, pre0 _ ?_, hrun, hended, _, _, rfl, ?_, ⟨_, rfl⟩, hW, hsame.mono (by decide) (by decide)⟩
  · show Steps p.tables e below (s₁.setTop (mkF m 0 #[.val (.int p0), .val (.int p1), .unset, .unset] [])) _
    refine XS.iloadN X0.here hx rfl (hb hby at_0) rfl ?_
    show Steps p.tables e below (s₁.setTop (mkF m 1 #[.val (.int p0), .val (.int p1), .unset, .unset] [(.int p1)])) _
    refine XS.iconst X0.here hx rfl (hb hby at_1) ?_
    show Steps p.tables e below (s₁.setTop (mkF m 2 #[.val (.int p0), .val (.int p1), .unset, .unset] [(.int (1 : Int32)), (.int p1)])) _
    refine XS.iand X0.here hx rfl (hb hby at_2) rfl ?_
    show Steps p.tables e below (s₁.setTop (mkF m 3 #[.val (.int p0), .val (.int p1), .unset, .unset] [(.int (p1 &&& (1 : Int32)))])) _
    refine sg1 _ ?_
    show Steps p.tables e below (s₁.setTop (mkF m 16 #[.val (.int p0), .val (.int p1), .unset, .unset] [(.int (if (p1 &&& (1 : Int32)) = (0 : Int32) then p0 else ((p0 &&& (2147483647 : Int32)) % (5 : Int32))))])) _
    refine XS.istoreN X0.here hx rfl (hb hby at_16) rfl (l' := #[.val (.int p0), .val (.int p1), .val (.int (if (p1 &&& (1 : Int32)) = (0 : Int32) then p0 else ((p0 &&& (2147483647 : Int32)) % (5 : Int32)))), .unset]) rfl ?_
    show Steps p.tables e below (s₁.setTop (mkF m 17 #[.val (.int p0), .val (.int p1), .val (.int (if (p1 &&& (1 : Int32)) = (0 : Int32) then p0 else ((p0 &&& (2147483647 : Int32)) % (5 : Int32)))), .unset] [])) _
    refine XS.iloadN X0.here hx rfl (hb hby at_17) rfl ?_
    show Steps p.tables e below (s₁.setTop (mkF m 18 #[.val (.int p0), .val (.int p1), .val (.int (if (p1 &&& (1 : Int32)) = (0 : Int32) then p0 else ((p0 &&& (2147483647 : Int32)) % (5 : Int32)))), .unset] [(.int (if (p1 &&& (1 : Int32)) = (0 : Int32) then p0 else ((p0 &&& (2147483647 : Int32)) % (5 : Int32))))])) _
    refine st2 _ ?_
    show Steps p.tables e below (T2.setTop (mkF m 21 #[.val (.int p0), .val (.int p1), .val (.int (if (p1 &&& (1 : Int32)) = (0 : Int32) then p0 else ((p0 &&& (2147483647 : Int32)) % (5 : Int32)))), .unset] [(owF w_INSERT w_UPDATE w_DELETE (if (p1 &&& (1 : Int32)) = (0 : Int32) then p0 else ((p0 &&& (2147483647 : Int32)) % (5 : Int32))))])) _
    refine XS.astoreN X2.here hx rfl (hb hby at_21) rfl (owF_ref w_INSERT w_UPDATE w_DELETE (if (p1 &&& (1 : Int32)) = (0 : Int32) then p0 else ((p0 &&& (2147483647 : Int32)) % (5 : Int32)))) (l' := #[.val (.int p0), .val (.int p1), .val (.int (if (p1 &&& (1 : Int32)) = (0 : Int32) then p0 else ((p0 &&& (2147483647 : Int32)) % (5 : Int32)))), .val (owF w_INSERT w_UPDATE w_DELETE (if (p1 &&& (1 : Int32)) = (0 : Int32) then p0 else ((p0 &&& (2147483647 : Int32)) % (5 : Int32))))]) (by rcases ref_cases (owF_ref w_INSERT w_UPDATE w_DELETE (if (p1 &&& (1 : Int32)) = (0 : Int32) then p0 else ((p0 &&& (2147483647 : Int32)) % (5 : Int32)))) with h | ⟨_, h⟩ <;> rw [h] <;> rfl) ?_
    show Steps p.tables e below (T2.setTop (mkF m 22 #[.val (.int p0), .val (.int p1), .val (.int (if (p1 &&& (1 : Int32)) = (0 : Int32) then p0 else ((p0 &&& (2147483647 : Int32)) % (5 : Int32)))), .val (owF w_INSERT w_UPDATE w_DELETE (if (p1 &&& (1 : Int32)) = (0 : Int32) then p0 else ((p0 &&& (2147483647 : Int32)) % (5 : Int32))))] [])) _
    refine XS.aloadN X2.here hx rfl (hb hby at_22) rfl (owF_ref w_INSERT w_UPDATE w_DELETE (if (p1 &&& (1 : Int32)) = (0 : Int32) then p0 else ((p0 &&& (2147483647 : Int32)) % (5 : Int32)))) ?_
    show Steps p.tables e below (T2.setTop (mkF m 23 #[.val (.int p0), .val (.int p1), .val (.int (if (p1 &&& (1 : Int32)) = (0 : Int32) then p0 else ((p0 &&& (2147483647 : Int32)) % (5 : Int32)))), .val (owF w_INSERT w_UPDATE w_DELETE (if (p1 &&& (1 : Int32)) = (0 : Int32) then p0 else ((p0 &&& (2147483647 : Int32)) % (5 : Int32))))] [(owF w_INSERT w_UPDATE w_DELETE (if (p1 &&& (1 : Int32)) = (0 : Int32) then p0 else ((p0 &&& (2147483647 : Int32)) % (5 : Int32))))])) _
    refine XS.iloadN X2.here hx rfl (hb hby at_23) rfl ?_
    show Steps p.tables e below (T2.setTop (mkF m 24 #[.val (.int p0), .val (.int p1), .val (.int (if (p1 &&& (1 : Int32)) = (0 : Int32) then p0 else ((p0 &&& (2147483647 : Int32)) % (5 : Int32)))), .val (owF w_INSERT w_UPDATE w_DELETE (if (p1 &&& (1 : Int32)) = (0 : Int32) then p0 else ((p0 &&& (2147483647 : Int32)) % (5 : Int32))))] [(.int (if (p1 &&& (1 : Int32)) = (0 : Int32) then p0 else ((p0 &&& (2147483647 : Int32)) % (5 : Int32)))), (owF w_INSERT w_UPDATE w_DELETE (if (p1 &&& (1 : Int32)) = (0 : Int32) then p0 else ((p0 &&& (2147483647 : Int32)) % (5 : Int32))))])) _
    refine st3 _ ?_
    show Steps p.tables e below (T3.setTop (mkF m 27 #[.val (.int p0), .val (.int p1), .val (.int (if (p1 &&& (1 : Int32)) = (0 : Int32) then p0 else ((p0 &&& (2147483647 : Int32)) % (5 : Int32)))), .val (owF w_INSERT w_UPDATE w_DELETE (if (p1 &&& (1 : Int32)) = (0 : Int32) then p0 else ((p0 &&& (2147483647 : Int32)) % (5 : Int32))))] [(owF w_INSERT w_UPDATE w_DELETE (if (p1 &&& (1 : Int32)) = (0 : Int32) then p0 else ((p0 &&& (2147483647 : Int32)) % (5 : Int32)))), (owF w_INSERT w_UPDATE w_DELETE (if (p1 &&& (1 : Int32)) = (0 : Int32) then p0 else ((p0 &&& (2147483647 : Int32)) % (5 : Int32))))])) _
    refine Jvm.RoadKit.acmp (g := (mkF m 27 #[.val (.int p0), .val (.int p1), .val (.int (if (p1 &&& (1 : Int32)) = (0 : Int32) then p0 else ((p0 &&& (2147483647 : Int32)) % (5 : Int32)))), .val (owF w_INSERT w_UPDATE w_DELETE (if (p1 &&& (1 : Int32)) = (0 : Int32) then p0 else ((p0 &&& (2147483647 : Int32)) % (5 : Int32))))] [(owF w_INSERT w_UPDATE w_DELETE (if (p1 &&& (1 : Int32)) = (0 : Int32) then p0 else ((p0 &&& (2147483647 : Int32)) % (5 : Int32)))), (owF w_INSERT w_UPDATE w_DELETE (if (p1 &&& (1 : Int32)) = (0 : Int32) then p0 else ((p0 &&& (2147483647 : Int32)) % (5 : Int32))))])) X3 hx rfl (owF_ref w_INSERT w_UPDATE w_DELETE (if (p1 &&& (1 : Int32)) = (0 : Int32) then p0 else ((p0 &&& (2147483647 : Int32)) % (5 : Int32)))) (owF_ref w_INSERT w_UPDATE w_DELETE (if (p1 &&& (1 : Int32)) = (0 : Int32) then p0 else ((p0 &&& (2147483647 : Int32)) % (5 : Int32)))) (pc0 := 27) (pc' := 30) (same := true) rfl (hb hby at_27) rfl (decide_eq_true rfl) (by decide) (by decide) ?_
    show Steps p.tables e below (T3.setTop (mkF m 30 #[.val (.int p0), .val (.int p1), .val (.int (if (p1 &&& (1 : Int32)) = (0 : Int32) then p0 else ((p0 &&& (2147483647 : Int32)) % (5 : Int32)))), .val (owF w_INSERT w_UPDATE w_DELETE (if (p1 &&& (1 : Int32)) = (0 : Int32) then p0 else ((p0 &&& (2147483647 : Int32)) % (5 : Int32))))] [])) _
    refine XS.iconst X3.here hx rfl (hb hby at_30) ?_
    show Steps p.tables e below (T3.setTop (mkF m 31 #[.val (.int p0), .val (.int p1), .val (.int (if (p1 &&& (1 : Int32)) = (0 : Int32) then p0 else ((p0 &&& (2147483647 : Int32)) % (5 : Int32)))), .val (owF w_INSERT w_UPDATE w_DELETE (if (p1 &&& (1 : Int32)) = (0 : Int32) then p0 else ((p0 &&& (2147483647 : Int32)) % (5 : Int32))))] [(.int (1 : Int32))])) _
    refine XS.goto X3.here hx rfl (pc0 := 31) (pc' := 35) rfl (hb hby at_31) (by decide) (by decide) ?_
    show Steps p.tables e below (T3.setTop (mkF m 35 #[.val (.int p0), .val (.int p1), .val (.int (if (p1 &&& (1 : Int32)) = (0 : Int32) then p0 else ((p0 &&& (2147483647 : Int32)) % (5 : Int32)))), .val (owF w_INSERT w_UPDATE w_DELETE (if (p1 &&& (1 : Int32)) = (0 : Int32) then p0 else ((p0 &&& (2147483647 : Int32)) % (5 : Int32))))] [(.int (1 : Int32))])) _
    exact retN X3 hx (t := .boolean) Bd.returns (by simp) (hb hby at_35) hr
  · exact ⟨N3, rfl⟩
set_option maxRecDepth 65536 in
set_option maxHeartbeats 40000000 in
theorem comes_1 {Post : Tables → Env → Array Value → State → Outcome → State → Prop} (hpost : ∀ tb e args s v u, (limb_1_1.after args s (.returned v) u = true ∧ limb_1_2.after args s (.returned v) u = true ∧ True) → FrameEnd s (.returned v) u (Jvm.fieldLocs frame_1_writes args s ++ Jvm.arrayLocs frame_1_arrays args s ++ Jvm.staticLocs frame_1_statics s) 0 0 → Post tb e args s (.returned v) u) :
    ArmFor flags0 classFile x code maxLocals ret World_1 tables_1 room_1 Calls_1 rest_1 Pre_1 Post := by
  intro l hfl _ _ p e ha hc hk s m args below hf hA hF happ hP
  obtain ⟨hcalls, hrest, hpre⟩ := hP
  obtain ⟨-, -, -, hnamed, -, -, -, hat⟩ := (Spec.applies_iff hf).mp happ
  obtain ⟨hg, hn⟩ := and_e (Cond.before_iff.mp (show (Jvm.Cond.and given_1 narrow_1).before args s = true from hpre))
  obtain ⟨ga1, gb1⟩ := and_e hg
  obtain ⟨ga2, gb2⟩ := and_e gb1
  obtain ⟨w0, w1, rfl⟩ : ∃ w0 w1 : Value, args = #[w0, w1] := by
    have hs : args.size = 2 := by simpa [Cond.value, given_1] using ga1
    obtain ⟨L⟩ := args
    match L, hs with
    | [w0, w1], _ => exact ⟨w0, w1, rfl⟩
  have hw := fun d (hd : d ∈ tables_1) => atoms_spec (ws := Jvm.Cond.code x code maxLocals ret :: tables_1) hat d (List.mem_cons_of_mem _ hd)
  have hfit : Fit s := fun {y c} hc i hi => by
    obtain ⟨ha, rfl⟩ := Array.getElem?_eq_some_iff.mp hc
    have q := List.all_eq_true.mp ((Array.all_eq_true_iff_forall_mem.mp hF) _ (Array.getElem_mem ha)) i (List.mem_range.mpr hi)
    simpa [Array.getElem?_eq_getElem hi] using q
  obtain ⟨i0, ei0⟩ := is_v ga2
  obtain rfl : w0 = (.int i0) := Option.some.inj ei0
  obtain ⟨i1, ei1⟩ := is_v gb2
  obtain rfl : w1 = (.int i1) := Option.some.inj ei1
  obtain ⟨nn1, nn2⟩ := and_e hn
  obtain ⟨nn3, nn4⟩ := and_e nn2
  obtain ⟨nn5, nn6⟩ := and_e nn4
  obtain ⟨nn7, nn8⟩ := and_e nn6
  obtain ⟨nn9, nn10⟩ := and_e nn8
  obtain ⟨nn11, nn12⟩ := and_e nn10
  obtain ⟨nn13, nn14⟩ := and_e nn12
  obtain ⟨nn15, nn16⟩ := and_e nn14
  obtain ⟨nn17, nn18⟩ := and_e nn16
  obtain ⟨nn19, nn20⟩ := and_e nn18
  obtain ⟨w_ALL, ev_w_ALL⟩ := arr_v nn1
  obtain ⟨cl_w_ALL, A_w_ALL⟩ := Arr.start ev_w_ALL nn1
  have ev21 := own_eqI nn3
  obtain ⟨w_INSERT, ev_w_INSERT⟩ := exa_v nn5
  have E_w_INSERT : Exa s s.heap w_INSERT "com/example/lamina/lamina/engine/Operation" := Exa.start ev_w_INSERT nn5
  have ev22 := own_eqR nn7 ev_w_INSERT
  have ev23 := own_eqI nn9
  obtain ⟨w_UPDATE, ev_w_UPDATE⟩ := exa_v nn11
  have E_w_UPDATE : Exa s s.heap w_UPDATE "com/example/lamina/lamina/engine/Operation" := Exa.start ev_w_UPDATE nn11
  have ev24 := own_eqR nn13 ev_w_UPDATE
  have ev25 := own_eqI nn15
  obtain ⟨w_DELETE, ev_w_DELETE⟩ := exa_v nn17
  have E_w_DELETE : Exa s s.heap w_DELETE "com/example/lamina/lamina/engine/Operation" := Exa.start ev_w_DELETE nn17
  have ev26 := own_eqR nn19 ev_w_DELETE
  have ev27 := own_eqI nn20
  have S_Operation_ALL : Sta s s.heap "com/example/lamina/lamina/engine/Operation" "ALL" "[Lcom/example/lamina/lamina/engine/Operation;" (.ref w_ALL) := Sta.start ev_w_ALL (Or.inr ⟨(hw _ (List.mem_of_getElem? (i := 3) rfl)), (hw _ (List.mem_of_getElem? (i := 6) rfl))⟩)
  have S_Operation_INSERT : Sta s s.heap "com/example/lamina/lamina/engine/Operation" "INSERT" "Lcom/example/lamina/lamina/engine/Operation;" (.ref w_INSERT) := Sta.start ev_w_INSERT (Or.inr ⟨(hw _ (List.mem_of_getElem? (i := 3) rfl)), (hw _ (List.mem_of_getElem? (i := 7) rfl))⟩)
  have F_w_INSERT_code : Fld s s.heap w_INSERT "com/example/lamina/lamina/engine/Operation" "code" "I" (.int (1 : Int32)) := own_fld ev_w_INSERT ev23
  have S_Operation_UPDATE : Sta s s.heap "com/example/lamina/lamina/engine/Operation" "UPDATE" "Lcom/example/lamina/lamina/engine/Operation;" (.ref w_UPDATE) := Sta.start ev_w_UPDATE (Or.inr ⟨(hw _ (List.mem_of_getElem? (i := 3) rfl)), (hw _ (List.mem_of_getElem? (i := 10) rfl))⟩)
  have F_w_UPDATE_code : Fld s s.heap w_UPDATE "com/example/lamina/lamina/engine/Operation" "code" "I" (.int (2 : Int32)) := own_fld ev_w_UPDATE ev25
  have S_Operation_DELETE : Sta s s.heap "com/example/lamina/lamina/engine/Operation" "DELETE" "Lcom/example/lamina/lamina/engine/Operation;" (.ref w_DELETE) := Sta.start ev_w_DELETE (Or.inr ⟨(hw _ (List.mem_of_getElem? (i := 3) rfl)), (hw _ (List.mem_of_getElem? (i := 11) rfl))⟩)
  have F_w_DELETE_code : Fld s s.heap w_DELETE "com/example/lamina/lamina/engine/Operation" "code" "I" (.int (3 : Int32)) := own_fld ev_w_DELETE ev27
  have Lq_w_ALL := own_len ev_w_ALL A_w_ALL ev21
  obtain ⟨k_w_ALL, V_w_ALL⟩ : ∃ k, Arv s s.heap w_ALL k (.object "com/example/lamina/lamina/engine/Operation") (3 : Int32) [(.ref w_INSERT), (.ref w_UPDATE), (.ref w_DELETE)] .null := ⟨_, Arv.start hfit A_w_ALL Lq_w_ALL.1 Lq_w_ALL.2 (by decide) rfl ⟨own_el ev_w_ALL A_w_ALL ev22, own_el ev_w_ALL A_w_ALL ev24, own_el ev_w_ALL A_w_ALL ev26, trivial⟩⟩
  have W : OwW s w_ALL w_INSERT w_UPDATE w_DELETE k_w_ALL := ⟨E_w_INSERT, E_w_UPDATE, E_w_DELETE, S_Operation_ALL, S_Operation_INSERT, F_w_INSERT_code, S_Operation_UPDATE, F_w_UPDATE_code, S_Operation_DELETE, F_w_DELETE_code, V_w_ALL, trivial⟩
  have fin : OwCon l x code maxLocals ret tables_1 room_1 #[(.int i0), (.int i1)] s s.heap (OwP (fun v _ => v = some (.int 1)) s.heap.size) := by
    exact rm0 l s _ hw tables_1 s.heap.size s.heap (Old.start s) w_ALL w_INSERT w_UPDATE w_DELETE k_w_ALL W i0 i1
  obtain ⟨n, o, h1, h2, h3, _, L, rfl, ⟨N, rfl⟩, hq⟩ := fin p e ha hc hk s m _ below hf ((Spec.applies_iff_loose hf).mp happ).1 ⟨rfl, State.Warmed39.refl s, rfl⟩ trivial
  refine ⟨n, _, h1, h2, h3, hpost _ _ _ _ _ _ ⟨Cond.after_iff.mpr rfl, Cond.after_iff.mpr (eq_i res_at (Term.int_eval (1)) rfl), trivial⟩ ⟨hq.1, hq.2.1, (hq.2.2.sift fun y hy => Or.inr (N y hy)).mono (by decide) (by decide)⟩⟩
theorem main_1_1 : Claimed_1_1 := comes_1 fun _ _ _ _ _ _ h hF => ⟨h.1, hF⟩
theorem main_1_2 : Claimed_1_2 := comes_1 fun _ _ _ _ _ _ h hF => ⟨h.2.1, hF⟩
end Jvm.Pilot.@@N@@
namespace Jvm.Pilot.@@N@@
open Jvm Jvm.ClassFile Sem Op Lib Jvm.Free Jvm.Stand Jvm.Pilot.@@N@@.Jvm.D
/-! MADE BY PROGRAM (witnessworld.py) out of the Statement's table words and the real class files: 13 classes; the members and pool entries that the words name. The judged class is class 1, her method 2. -/
namespace start1
open Jvm.ClassFile
def u (s : String) : CpInfo := .utf8 (stringToUtf16 s)
/-- a pool by its gaps: so many unusable entries, then the entry; so many at the end -/
def gap : Nat → List CpInfo → List CpInfo
  | 0, r => r
  | n + 1, r => .unusable :: gap n r
def poolList (es : List (Nat × CpInfo)) (last : Nat) : List CpInfo := es.foldr (fun e r => gap e.1 (e.2 :: r)) (gap last [])
def pool (es : List (Nat × CpInfo)) (last : Nat) : Array CpInfo := ⟨poolList es last⟩
def fileOf (pool : Array CpInfo) (this : Nat) (attrs : Array Attribute := #[]) (ms : Array MethodInfo := #[]) (fl : Nat := 33) (sup : Nat := 0) (ifs : Array Nat := #[]) (fds : Array FieldInfo := #[]) : ClassFile where
  minorVersion := 0
  majorVersion := 65
  constantPool := pool
  accessFlags := fl
  thisClass := this
  superClass := sup
  interfaces := ifs
  fields := fds
  methods := ms
  attributes := attrs
def plain (name : String) (sup : Option ClassId) : Class where
  name := name
  kind := .ordinary
  loader := none
  accessFlags := 33
  super := sup
  interfaces := #[]
  cf := none
  fields := #[]
  methods := #[]
  instanceTypes := #[]
  staticTypes := #[]
  resolved := #[]
  callSites := []
  init := .initialized
  statics := none
  mirror := none

def pool0 : Array CpInfo := pool [(5, u "<init>"), (0, u "()V"), (1, .class_ 10), (1, u "java/lang/Object")] 113

def k0m0 : Method := { name := "<init>", desc := "()V", sig := { parameters := [], returnType := none }, accessFlags := 1, code := none }
/-- java/lang/Object -/
def k0 : Class := { plain "java/lang/Object" none with
  accessFlags := 33
  interfaces := #[]
  cf := some (fileOf pool0 8 #[] #[{ accessFlags := 1, nameIndex := 5, descriptorIndex := 6, attributes := #[] }] 33 0 #[] #[])
  fields := #[]
  methods := #[k0m0]
  instanceTypes := #[]
  staticTypes := #[]
  resolved := Array.replicate 124 none
  statics := none }

def pool1 : Array CpInfo := pool [(2, .class_ 4), (1, u "java/lang/Object"), (0, u "<init>"), (0, u "()V"), (0, .fieldref 8 9), (0, .class_ 10), (0, .nameAndType 11 12), (0, u "com/example/lamina/lamina/engine/Operation"), (0, u "INSERT"), (0, u "Lcom/example/lamina/lamina/engine/Operation;"), (0, .fieldref 8 14), (0, .nameAndType 15 12), (0, u "UPDATE"), (0, .fieldref 8 17), (0, .nameAndType 18 12), (0, u "DELETE"), (0, .integer 2147483647), (0, .methodref 8 21), (0, .nameAndType 22 23), (0, u "ofCode"), (0, u "(I)Lcom/example/lamina/lamina/engine/Operation;"), (0, .methodref 25 26), (0, .class_ 27), (0, .nameAndType 28 23), (0, u "com/example/lamina/lamina/engine/OperationOfCodePinLaw"), (0, u "expected"), (3, u "law"), (0, u "(II)Z")] 2

def k1m0 : Method := { name := "<init>", desc := "()V", sig := { parameters := [], returnType := none }, accessFlags := 2, code := none }
def k1c1 : Code := { maxStack := 2, maxLocals := 1, code := method_2_code, exceptionTable := #[], attributes := #[] }
def k1m1 : Method := { name := "expected", desc := "(I)Lcom/example/lamina/lamina/engine/Operation;", sig := { parameters := [.int], returnType := some (.object "com/example/lamina/lamina/engine/Operation") }, accessFlags := 10, code := some k1c1 }
def k1c2 : Code := { maxStack := 2, maxLocals := 4, code := code, exceptionTable := #[], attributes := #[] }
def k1m2 : Method := { name := "law", desc := "(II)Z", sig := { parameters := [.int, .int], returnType := some .boolean }, accessFlags := 9, code := some k1c2 }
/-- com/example/lamina/lamina/engine/OperationOfCodePinLaw -/
def k1 : Class := { plain "com/example/lamina/lamina/engine/OperationOfCodePinLaw" (some 0) with
  accessFlags := 49
  interfaces := #[]
  cf := some (fileOf pool1 25 #[] #[{ accessFlags := 2, nameIndex := 5, descriptorIndex := 6, attributes := #[] }, { accessFlags := 10, nameIndex := 28, descriptorIndex := 23, attributes := #[] }, { accessFlags := 9, nameIndex := 32, descriptorIndex := 33, attributes := #[] }] 49 2 #[] #[])
  fields := #[]
  methods := #[k1m0, k1m1, k1m2]
  instanceTypes := #[]
  staticTypes := #[]
  resolved := Array.replicate 36 none
  statics := none }

def pool2 : Array CpInfo := pool [(1, .class_ 2), (0, u "java/lang/constant/Constable"), (0, .class_ 4), (0, u "java/lang/Object")] 6

/-- java/lang/constant/Constable -/
def k2 : Class := { plain "java/lang/constant/Constable" (some 0) with
  accessFlags := 1537
  interfaces := #[]
  cf := some (fileOf pool2 1 #[] #[] 1537 3 #[] #[])
  fields := #[]
  methods := #[]
  instanceTypes := #[]
  staticTypes := #[]
  resolved := Array.replicate 11 none
  statics := none }

def pool3 : Array CpInfo := pool [(1, .class_ 2), (0, u "java/lang/Comparable"), (0, .class_ 4), (0, u "java/lang/Object")] 7

/-- java/lang/Comparable -/
def k3 : Class := { plain "java/lang/Comparable" (some 0) with
  accessFlags := 1537
  interfaces := #[]
  cf := some (fileOf pool3 1 #[] #[] 1537 3 #[] #[])
  fields := #[]
  methods := #[]
  instanceTypes := #[]
  staticTypes := #[]
  resolved := Array.replicate 12 none
  statics := none }

def pool4 : Array CpInfo := pool [(1, .class_ 2), (0, u "java/io/Serializable"), (0, .class_ 4), (0, u "java/lang/Object")] 2

/-- java/io/Serializable -/
def k4 : Class := { plain "java/io/Serializable" (some 0) with
  accessFlags := 1537
  interfaces := #[]
  cf := some (fileOf pool4 1 #[] #[] 1537 3 #[] #[])
  fields := #[]
  methods := #[]
  instanceTypes := #[]
  staticTypes := #[]
  resolved := Array.replicate 7 none
  statics := none }

def pool5 : Array CpInfo := pool [(2, .class_ 4), (1, u "java/lang/Enum"), (0, u "name"), (0, u "Ljava/lang/String;"), (2, u "ordinal"), (0, u "I"), (1, .class_ 14), (1, u "java/lang/Object"), (4, u "hash"), (86, .class_ 108), (1, u "java/lang/Enum$EnumDesc"), (2, .class_ 112), (0, u "java/lang/constant/Constable"), (0, .class_ 114), (0, u "java/lang/Comparable"), (0, .class_ 116), (0, u "java/io/Serializable")] 87

/-- java/lang/Enum -/
def k5 : Class := { plain "java/lang/Enum" (some 0) with
  accessFlags := 1057
  interfaces := #[2, 3, 4]
  cf := some (fileOf pool5 2 #[.nestMembers #[106]] #[] 1057 12 #[111, 113, 115] #[{ accessFlags := 18, nameIndex := 5, descriptorIndex := 6, attributes := #[] }, { accessFlags := 18, nameIndex := 9, descriptorIndex := 10, attributes := #[] }, { accessFlags := 2, nameIndex := 19, descriptorIndex := 10, attributes := #[] }])
  fields := #[{ name := "name", type := (.object "java/lang/String"), accessFlags := 18, slot := 0, constantValue := 0 }, { name := "ordinal", type := .int, accessFlags := 18, slot := 1, constantValue := 0 }, { name := "hash", type := .int, accessFlags := 2, slot := 2, constantValue := 0 }]
  methods := #[]
  instanceTypes := #[(.object "java/lang/String"), .int, .int]
  staticTypes := #[]
  resolved := Array.replicate 204 none
  statics := none }

def pool6 : Array CpInfo := pool [(1, .class_ 2), (0, u "com/example/lamina/lamina/engine/Operation"), (2, u "INSERT"), (0, u "Lcom/example/lamina/lamina/engine/Operation;"), (2, u "UPDATE"), (2, u "DELETE"), (2, u "$VALUES"), (0, u "[Lcom/example/lamina/lamina/engine/Operation;"), (6, .class_ 25), (1, u "java/lang/Enum"), (6, .fieldref 1 33), (0, .nameAndType 34 35), (0, u "code"), (0, u "I"), (0, .fieldref 1 37), (0, .nameAndType 38 16), (0, u "ALL"), (20, u "ofCode"), (0, u "(I)Lcom/example/lamina/lamina/engine/Operation;")] 6

def k6c0 : Code := { maxStack := 2, maxLocals := 5, code := prog_14_method_5_code, exceptionTable := #[], attributes := #[] }
def k6m0 : Method := { name := "ofCode", desc := "(I)Lcom/example/lamina/lamina/engine/Operation;", sig := { parameters := [.int], returnType := some (.object "com/example/lamina/lamina/engine/Operation") }, accessFlags := 8, code := some k6c0 }
/-- com/example/lamina/lamina/engine/Operation -/
def k6 : Class := { plain "com/example/lamina/lamina/engine/Operation" (some 5) with
  accessFlags := 16433
  interfaces := #[]
  cf := some (fileOf pool6 1 #[] #[{ accessFlags := 8, nameIndex := 59, descriptorIndex := 60, attributes := #[] }] 16433 23 #[] #[{ accessFlags := 16409, nameIndex := 5, descriptorIndex := 6, attributes := #[] }, { accessFlags := 16409, nameIndex := 9, descriptorIndex := 6, attributes := #[] }, { accessFlags := 16409, nameIndex := 12, descriptorIndex := 6, attributes := #[] }, { accessFlags := 26, nameIndex := 38, descriptorIndex := 16, attributes := #[] }, { accessFlags := 18, nameIndex := 34, descriptorIndex := 35, attributes := #[] }, { accessFlags := 4122, nameIndex := 15, descriptorIndex := 16, attributes := #[] }])
  fields := #[{ name := "INSERT", type := (.object "com/example/lamina/lamina/engine/Operation"), accessFlags := 16409, slot := 0, constantValue := 0 }, { name := "UPDATE", type := (.object "com/example/lamina/lamina/engine/Operation"), accessFlags := 16409, slot := 1, constantValue := 0 }, { name := "DELETE", type := (.object "com/example/lamina/lamina/engine/Operation"), accessFlags := 16409, slot := 2, constantValue := 0 }, { name := "ALL", type := (.array (.object "com/example/lamina/lamina/engine/Operation")), accessFlags := 26, slot := 3, constantValue := 0 }, { name := "code", type := .int, accessFlags := 18, slot := 3, constantValue := 0 }, { name := "$VALUES", type := (.array (.object "com/example/lamina/lamina/engine/Operation")), accessFlags := 4122, slot := 4, constantValue := 0 }]
  methods := #[k6m0]
  instanceTypes := #[(.object "java/lang/String"), .int, .int, .int]
  staticTypes := #[(.object "com/example/lamina/lamina/engine/Operation"), (.object "com/example/lamina/lamina/engine/Operation"), (.object "com/example/lamina/lamina/engine/Operation"), (.array (.object "com/example/lamina/lamina/engine/Operation")), (.array (.object "com/example/lamina/lamina/engine/Operation"))]
  resolved := Array.replicate 67 none
  statics := some 0 }

def pool7 : Array CpInfo := pool [(1, u "java/lang/Cloneable"), (0, .class_ 1), (0, u "java/lang/Object"), (0, .class_ 3)] 3

/-- java/lang/Cloneable -/
def k7 : Class := { plain "java/lang/Cloneable" (some 0) with
  accessFlags := 1537
  interfaces := #[]
  cf := some (fileOf pool7 2 #[] #[] 1537 4 #[] #[])
  fields := #[]
  methods := #[]
  instanceTypes := #[]
  staticTypes := #[]
  resolved := Array.replicate 8 none
  statics := none }

/-- the primitive byte -/
def k8 : Class := { plain "byte" none with kind := .primitive 'B', accessFlags := 0x411 }
/-- [B -/
def k9 : Class := { plain "[B" (some 0) with kind := .array 8 .byte, interfaces := #[7, 4], accessFlags := 1041 }

/-- the primitive int -/
def k10 : Class := { plain "int" none with kind := .primitive 'I', accessFlags := 0x411 }
/-- [I -/
def k11 : Class := { plain "[I" (some 0) with kind := .array 10 .int, interfaces := #[7, 4], accessFlags := 1041 }

/-- [Lcom/example/lamina/lamina/engine/Operation; -/
def k12 : Class := { plain "[Lcom/example/lamina/lamina/engine/Operation;" (some 0) with kind := .array 6 (.object "com/example/lamina/lamina/engine/Operation"), interfaces := #[7, 4], accessFlags := 1041 }

def heap : Heap := #[{ cls := 6, slots := #[.ref 2, .ref 3, .ref 4, .ref 1, .null], vm := .statics 6 },
  { cls := 12, slots := #[.ref 2, .ref 3, .ref 4], vm := .none },
  { cls := 6, slots := #[.null, .int 0, .int 0, .int 1], vm := .none },
  { cls := 6, slots := #[.null, .int 0, .int 0, .int 2], vm := .none },
  { cls := 6, slots := #[.null, .int 0, .int 0, .int 3], vm := .none }]
def classes : Array Class := #[k0, k1, k2, k3, k4, k5, k6, k7, k8, k9, k10, k11, k12]
def interned : List (Array UInt16 × Addr) := []
def slotsUsed : Nat := 20
def theMethod : MethodId := ⟨1, 2⟩
def args0 : Array Value := #[.int 7, .int 5]
def aboutOver (below : List Frame) : State where
  vm := { classes := classes, interned := interned.toArray }
  heap := heap
  slotsUsed := slotsUsed
  threads := #[{ frames := .invoking theMethod args0 :: below }]
def below0 : List Frame := [.native { method := ⟨0, 0⟩, args := #[] }]
def about1 : State := aboutOver below0
def p0 : Program := .bare "" "" ""
def e0 : Env := launch0.env 0 0 0
theorem w_frames : about1.frames = Frame.invoking theMethod args0 :: below0 := rfl
set_option maxRecDepth 65536 in
theorem w_args : argsFit about1.vm theMethod args0 = true := by decide +kernel
set_option maxRecDepth 65536 in
theorem w_heap : heapFits about1 = true := by decide +kernel
set_option maxRecDepth 65536 in
theorem w_runnable : about1.curStatus? = some .runnable := by decide +kernel
set_option maxRecDepth 65536 in
theorem w_alone : about1.alone = true := by decide +kernel
set_option maxRecDepth 65536 in
theorem w_named : about1.methodNamed? x = some theMethod := by decide +kernel
set_option maxRecDepth 65536 in
theorem w_hears : about1.hears theMethod below0 = true := by decide +kernel
set_option maxRecDepth 65536 in
theorem w_ripe : about1.ripe theMethod args0 below0 = true := by decide +kernel
theorem w_running : about1.status = .running := rfl
set_option maxRecDepth 65536 in
theorem w_room : about1.hasRoom e0.platform room_1 = true :=
  launch0.hasRoom_least _ room_1 (by decide +kernel) (by decide +kernel) (by decide +kernel) (by decide +kernel) (by decide +kernel) (by decide +kernel)
theorem allAtoms_all (ts : List Jvm.Cond) (a : Array Jvm.Value) (st : Jvm.State) : (allAtoms ts).before a st = ts.all (fun c => c.before a st) := by
  induction ts with
  | nil => rfl
  | cons c t ih =>
    show (Jvm.Cond.and c (allAtoms t)).before a st = _
    rw [Jvm.Cond.before_and, ih, List.all_cons]
def words1 : List Jvm.Cond := Jvm.Cond.code x code maxLocals ret :: tables_1
/-- a 'code' word, met by the world's own term for the bytes: nothing is compared byte by byte -/
theorem code_word {y : MethodName} {bytes : ByteArray} {mx : Nat} {rt : Option FieldType} {a : Array Value} {s : State} {m : MethodId} {meth : Method} {c : Code} (h1 : s.methodNamed? y = some m) (h2 : s.vm.method? m = some meth) (h3 : meth.code = some c) (h4 : c.code = bytes)
    (h5 : (c.maxLocals == mx && c.exceptionTable.isEmpty && decide (c.maxStack ≤ mostOperands) && decide (meth.sig.returnType = rt) && !meth.locks && decide (parseMethodDescriptor y.desc = some meth.sig)) = true) : (Jvm.Cond.code y bytes mx rt).before a s = true := by
  simp only [Bool.and_eq_true, beq_iff_eq, Bool.not_eq_true', decide_eq_true_eq] at h5
  obtain ⟨⟨⟨⟨⟨g1, g2⟩, g3⟩, g4⟩, g5⟩, g6⟩ := h5
  simp [Cond.before, Cond.holds, Cond.value, h1, h2, h3, h4, g1, g2, g3, g4, g5, g6]
def isCode : Jvm.Cond → Bool
  | .code _ _ _ _ => true
  | _ => false
theorem all_split {L : List Jvm.Cond} {P : Jvm.Cond → Bool} (h1 : L.all (fun c => isCode c || P c) = true) (h2 : ∀ c ∈ L.filter isCode, P c = true) : L.all P = true := by
  refine List.all_eq_true.mpr fun c hc => ?_
  have h := List.all_eq_true.mp h1 c hc
  rcases Bool.eq_false_or_eq_true (isCode c) with hi | hi
  · exact h2 c (List.mem_filter.mpr ⟨hc, hi⟩)
  · simpa [hi] using h
set_option maxRecDepth 65536 in
theorem w_c0 : (Jvm.Cond.code x code maxLocals ret).before args0 about1 = true := code_word (m := ⟨1, 2⟩) (meth := k1m2) (c := k1c2) (by decide +kernel) rfl rfl rfl (by decide +kernel)
set_option maxRecDepth 65536 in
theorem w_c1 : (Jvm.Cond.code ({ cls := "com/example/lamina/lamina/engine/Operation", name := "ofCode", desc := "(I)Lcom/example/lamina/lamina/engine/Operation;" } : Jvm.MethodName) prog_14_method_5_code (5 : Nat) (Option.some (Jvm.ClassFile.FieldType.object "com/example/lamina/lamina/engine/Operation"))).before args0 about1 = true := code_word (m := ⟨6, 0⟩) (meth := k6m0) (c := k6c0) (by decide +kernel) rfl rfl rfl (by decide +kernel)
set_option maxRecDepth 65536 in
theorem w_c2 : (Jvm.Cond.code ({ cls := "com/example/lamina/lamina/engine/OperationOfCodePinLaw", name := "expected", desc := "(I)Lcom/example/lamina/lamina/engine/Operation;" } : Jvm.MethodName) method_2_code (1 : Nat) (Option.some (Jvm.ClassFile.FieldType.object "com/example/lamina/lamina/engine/Operation"))).before args0 about1 = true := code_word (m := ⟨1, 1⟩) (meth := k1m1) (c := k1c1) (by decide +kernel) rfl rfl rfl (by decide +kernel)
def codes1 : List Jvm.Cond := [Jvm.Cond.code x code maxLocals ret, Jvm.Cond.code ({ cls := "com/example/lamina/lamina/engine/Operation", name := "ofCode", desc := "(I)Lcom/example/lamina/lamina/engine/Operation;" } : Jvm.MethodName) prog_14_method_5_code (5 : Nat) (Option.some (Jvm.ClassFile.FieldType.object "com/example/lamina/lamina/engine/Operation")), Jvm.Cond.code ({ cls := "com/example/lamina/lamina/engine/OperationOfCodePinLaw", name := "expected", desc := "(I)Lcom/example/lamina/lamina/engine/Operation;" } : Jvm.MethodName) method_2_code (1 : Nat) (Option.some (Jvm.ClassFile.FieldType.object "com/example/lamina/lamina/engine/Operation"))]
set_option maxRecDepth 65536 in
theorem codes_eq : words1.filter isCode = codes1 := rfl
theorem w_codes : ∀ c ∈ words1.filter isCode, c.before args0 about1 = true := by
  rw [codes_eq]
  intro c hc
  simp only [codes1, List.mem_cons, List.not_mem_nil, or_false] at hc
  rcases hc with rfl | rfl | rfl
  · exact w_c0
  · exact w_c1
  · exact w_c2
set_option maxRecDepth 65536 in
theorem w_t1 : words1.all (fun c => isCode c || c.before args0 about1) = true := by decide +kernel
theorem w_tables : (allAtoms (Jvm.Cond.code x code maxLocals ret :: tables_1)).before args0 about1 = true := by
  rw [allAtoms_all]
  show words1.all (fun c => c.before args0 about1) = true
  refine all_split ?_ w_codes
  rw [w_t1]
set_option maxRecDepth 65536 in
theorem w_case : (Jvm.Cond.and given_1 narrow_1).before args0 about1 = true := by decide +kernel
theorem w_applies : (headSpec (Jvm.Cond.code x code maxLocals ret :: tables_1) room_1).applies x e0.platform about1 = true :=
  (Spec.applies_iff w_frames).mpr ⟨w_running, w_runnable, w_alone, w_named, w_hears, w_ripe, w_room, w_tables⟩
theorem atStart : AtStart classFile x code maxLocals ret World_1 tables_1 room_1 Calls_1 rest_1 Pre_1 launch0 p0 e0 about1 theMethod args0 below0 :=
  ⟨lists_1, trivial, launch0.admits_env _ _ _, launch0.least_env, fairChoices_fair.cas, fairChoices_fair.clock, w_frames, w_args, w_heap, w_applies, trivial, trivial, w_case⟩
end start1
theorem witness_1 : WitnessClaimed_1 := ⟨start1.p0, start1.e0, start1.about1, start1.theMethod, start1.args0, start1.below0, start1.atStart⟩
end Jvm.Pilot.@@N@@
