import JvmDerived
import JvmDerived.Pilot.@@N@@Statement
import JvmDerived.Pilot.@@N@@Code
set_option linter.unusedVariables false
set_option linter.unusedSimpArgs false
namespace Jvm.RoadKit
open Sem ClassFile Op Lib Jvm.Stand Jvm.Free Jvm.LawKit
section New
variable {p : Program} {l : Launch} {e : Env} {R : Room} {s : State} {m : MethodId} {args : Array Value} {below : List Frame} {meth : Method} {c : Code} {T : State} {locs : List Loc} {cells slots : Nat}
theorem retI (X : Stand p l e R s m args below meth c T locs cells slots) (hx : p.tables.exec = Jvm.exec) {pc : Nat} {Ls : Array Slot} {z : Int32} {rest : List Value} (hret : meth.sig.returnType = some .int) (hd : decode c.code pc = .ok (.ireturn, 1)) {fs : List Frame}
    (hl : ∀ (f : JFrame) (acts : List Action), f.method = m → f.locked = none → f.entered = [] → (doReturn e (T.setTop f) acts (some (.int z))).1 = T.setFrames fs) : Steps p.tables e below (T.setTop (mkF m pc Ls (.int z :: rest))) (T.setFrames fs) := by
  have hm' : T.vm.method? m = some meth := X.method'
  have hn : narrow .int (.int z) = .int z := rfl
  show Steps p.tables e below (T.setTop { method := m, pc := pc, locals := Ls, stack := _ :: rest, locked := none }) _
  jvm_step X.here [X.here.top, hx, hd, hm', hret, hn]
  first | (intro acts; rw [hl _ acts rfl rfl rfl]) | rw [hl _ _ rfl rfl rfl]
  exact Steps.refl _
end New
end Jvm.RoadKit
namespace Jvm.Pilot.@@N@@
open Jvm Jvm.ClassFile Sem Op Lib Jvm.Free Jvm.Stand Jvm.LawKit Jvm.RoadKit Bundle Jvm.Pilot.@@N@@.Jvm.D
/-- a body's contract: from these arguments and this heap it returns, and Q says what it leaves -/
abbrev OwCon (l : Launch) (y : MethodName) (bytes : ByteArray) (ml : Nat) (ret : Option FieldType) (ws : List Jvm.Cond) (rm : Room) (as : Array Value) (Z : State) (h0 : Heap) (Q : Option Value → Heap → List Loc → Prop) : Prop :=
  MetFree l y (head1 (Jvm.Cond.code y bytes ml ret :: ws) rm) (fun a U => a = as ∧ Z.Warmed39 U.vm ∧ U.heap = h0) (fun _ _ _ _ _ => True) (fun _ U o U' => ∃ v L, o = .returned v ∧ Q v U'.heap L ∧ FrameEnd U o U' L rm.cells rm.slots)
/-- .. it may load literals that nobody loaded before -/
abbrev OwConW (l : Launch) (y : MethodName) (bytes : ByteArray) (ml : Nat) (ret : Option FieldType) (ws : List Jvm.Cond) (rm : Room) (as : Array Value) (Z : State) (h0 : Heap) (Q : Option Value → Heap → List Loc → Prop) : Prop :=
  MetFree l y (head1 (Jvm.Cond.code y bytes ml ret :: ws) rm) (fun a U => a = as ∧ Z.Warmed39 U.vm ∧ U.heap = h0) (fun _ _ _ _ _ => True) (fun _ U o U' => ∃ v L, o = .returned v ∧ Q v U'.heap L ∧ ReturnedEndW U o U' L rm.cells rm.slots)
/-- it returns val and leaves the heap as it was -/
def OwQ (val : Option Value) (h0 : Heap) (n0 : Nat) (v : Option Value) (h : Heap) (L : List Loc) : Prop := v = val ∧ Fr n0 L ∧ h = h0
/-- it writes nothing old, and P holds of what it returns and leaves -/
def OwP (P : Option Value → Heap → Prop) (n0 : Nat) (v : Option Value) (h : Heap) (L : List Loc) : Prop := Fr n0 L ∧ P v h
theorem own_eqI {args : Array Value} {s : State} {t : Term} {k : Int32} (h : (Jvm.Cond.eq t (.int k)).value args s none s [] = some true) : t.eval args s none [] s = some (.int k) := by
  obtain ⟨x, y, h1, h2, -, q⟩ := cmp_v (Or.inl h)
  cases h2
  obtain ⟨z, rfl⟩ := q
  rw [h1]; simp [Cond.value, h1, Term.eval] at h; rw [h]
theorem own_eqJ {args : Array Value} {s : State} {t : Term} {k : Int64} (h : (Jvm.Cond.eq t (.long k)).value args s none s [] = some true) : t.eval args s none [] s = some (.long k) := by
  obtain ⟨x, y, h1, h2, -, q⟩ := cmp_v (Or.inl h)
  cases h2
  obtain ⟨z, rfl⟩ := q
  rw [h1]; simp [Cond.value, h1, Term.eval] at h; rw [h]
theorem own_eqR {args : Array Value} {s : State} {t t' : Term} {a : Addr} (h : (Jvm.Cond.eq t t').value args s none s [] = some true) (e : t'.eval args s none [] s = some (.ref a)) : t.eval args s none [] s = some (.ref a) := by
  obtain ⟨x, y, h1, h2, q, -⟩ := cmp_v (Or.inl h)
  cases e.symm.trans h2
  cases x with
  | null => simp [Cond.value, h1, h2] at h
  | ref b => simp [Cond.value, h1, h2] at h; rw [h1, h]
  | _ => simp [Kin, Value.isRef] at q
theorem own_cat {v : Value} (h : v.isRef = true) : v.category = 1 := by rcases ref_cases h with rfl | ⟨a, rfl⟩ <;> rfl
theorem own_len {args : Array Value} {s : State} {t : Term} {a : Addr} {cl : Cell} {ty : FieldType} {n : Int32} (e : t.eval args s none [] s = some (.ref a)) (A : Arr s s.heap a cl ty) (h : (Term.length t).eval args s none [] s = some (.int n)) : cl.slots.size < 2 ^ 31 ∧ cl.slots.size.toInt32 = n := by
  have q := Arr.fin (Vm.Alike.refl _) A
  simpa [Term.eval, e, q] using h
theorem own_el {args : Array Value} {s : State} {t : Term} {a : Addr} {cl : Cell} {ty : FieldType} {j : Int32} {v : Value} (e : t.eval args s none [] s = some (.ref a)) (A : Arr s s.heap a cl ty) (h : (Term.elem t (.int j)).eval args s none [] s = some v) : cl.slots[j.toNatClampNeg]? = some v := (elem_in h e rfl A.1).2
theorem own_fld {args : Array Value} {s : State} {t : Term} {a : Addr} {C n d : String} {v : Value} (e : t.eval args s none [] s = some (.ref a)) (h : (Term.field t C n d).eval args s none [] s = some v) : Fld s s.heap a C n d v := Fld.start ((fld_at e).symm.trans h)
theorem own_i4 (x : Int32) : (x &&& (3 : Int32)) = 0 ∨ (x &&& (3 : Int32)) = 1 ∨ (x &&& (3 : Int32)) = 2 ∨ (x &&& (3 : Int32)) = 3 := by
  have h1 := c_mask x (3 : Int32) 2 (by decide) (by decide)
  generalize (x &&& (3 : Int32)) = y at h1 ⊢
  simp only [← Int32.toInt_inj]
  show y.toInt = 0 ∨ y.toInt = 1 ∨ y.toInt = 2 ∨ y.toInt = 3
  omega

theorem d1_0 : decode prog_42_method_7_code 0 = .ok (.aload_n 0, 1) := by decide +kernel
theorem d1_1 : decode prog_42_method_7_code 1 = .ok (.getstatic 3, 3) := by decide +kernel
theorem d1_4 : decode prog_42_method_7_code 4 = .ok (.if_acmp .ne 12, 3) := by decide +kernel
theorem d1_7 : decode prog_42_method_7_code 7 = .ok (.getstatic 3, 3) := by decide +kernel
theorem d1_10 : decode prog_42_method_7_code 10 = .ok (.invokestatic 59, 3) := by decide +kernel
theorem d1_13 : decode prog_42_method_7_code 13 = .ok (.goto 9, 3) := by decide +kernel
theorem d1_16 : decode prog_42_method_7_code 16 = .ok (.getstatic 45, 3) := by decide +kernel
theorem d1_19 : decode prog_42_method_7_code 19 = .ok (.invokevirtual 65, 3) := by decide +kernel
theorem d1_22 : decode prog_42_method_7_code 22 = .ok (.areturn, 1) := by decide +kernel
theorem owpn1 : plainName "com/example/quittance/quittance/signing/ValueEncoding" = true := by first | (simp [plainName, overriddenIn]; done) | decide +kernel
theorem d2_0 : decode jdk_40_method_37_code 0 = .ok (.new 96, 3) := by decide +kernel
theorem d2_3 : decode jdk_40_method_37_code 3 = .ok (.dup, 1) := by decide +kernel
theorem d2_4 : decode jdk_40_method_37_code 4 = .ok (.aload_n 0, 1) := by decide +kernel
theorem d2_5 : decode jdk_40_method_37_code 5 = .ok (.invokespecial 98, 3) := by decide +kernel
theorem d2_8 : decode jdk_40_method_37_code 8 = .ok (.areturn, 1) := by decide +kernel
theorem owpn2 : plainName "java/util/List" = true := by first | (simp [plainName, overriddenIn]; done) | decide +kernel
theorem d3_0 : decode jdk_44_method_1_code 0 = .ok (.aload_n 0, 1) := by decide +kernel
theorem d3_1 : decode jdk_44_method_1_code 1 = .ok (.invokespecial 1, 3) := by decide +kernel
theorem d3_4 : decode jdk_44_method_1_code 4 = .ok (.aload_n 0, 1) := by decide +kernel
theorem d3_5 : decode jdk_44_method_1_code 5 = .ok (.aload_n 1, 1) := by decide +kernel
theorem d3_6 : decode jdk_44_method_1_code 6 = .ok (.invokestatic 7, 3) := by decide +kernel
theorem d3_9 : decode jdk_44_method_1_code 9 = .ok (.putfield 13, 3) := by decide +kernel
theorem d3_12 : decode jdk_44_method_1_code 12 = .ok (.aload_n 0, 1) := by decide +kernel
theorem d3_13 : decode jdk_44_method_1_code 13 = .ok (.getstatic 19, 3) := by decide +kernel
theorem d3_16 : decode jdk_44_method_1_code 16 = .ok (.putfield 24, 3) := by decide +kernel
theorem d3_19 : decode jdk_44_method_1_code 19 = .ok (.return_, 1) := by decide +kernel
theorem owpn3 : plainName "java/util/ImmutableCollections$List12" = true := by first | (simp [plainName, overriddenIn]; done) | decide +kernel
theorem d4_0 : decode jdk_46_method_1_code 0 = .ok (.aload_n 0, 1) := by decide +kernel
theorem d4_1 : decode jdk_46_method_1_code 1 = .ok (.invokespecial 1, 3) := by decide +kernel
theorem d4_4 : decode jdk_46_method_1_code 4 = .ok (.return_, 1) := by decide +kernel
theorem owpn4 : plainName "java/util/ImmutableCollections$AbstractImmutableList" = true := by first | (simp [plainName, overriddenIn]; done) | decide +kernel
theorem d5_0 : decode jdk_47_method_1_code 0 = .ok (.aload_n 0, 1) := by decide +kernel
theorem d5_1 : decode jdk_47_method_1_code 1 = .ok (.invokespecial 1, 3) := by decide +kernel
theorem d5_4 : decode jdk_47_method_1_code 4 = .ok (.return_, 1) := by decide +kernel
theorem owpn5 : plainName "java/util/ImmutableCollections$AbstractImmutableCollection" = true := by first | (simp [plainName, overriddenIn]; done) | decide +kernel
theorem d6_0 : decode jdk_22_method_1_code 0 = .ok (.aload_n 0, 1) := by decide +kernel
theorem d6_1 : decode jdk_22_method_1_code 1 = .ok (.invokespecial 1, 3) := by decide +kernel
theorem d6_4 : decode jdk_22_method_1_code 4 = .ok (.return_, 1) := by decide +kernel
theorem owpn6 : plainName "java/util/AbstractCollection" = true := by first | (simp [plainName, overriddenIn]; done) | decide +kernel
theorem d8_0 : decode jdk_31_method_10_code 0 = .ok (.aload_n 0, 1) := by decide +kernel
theorem d8_1 : decode jdk_31_method_10_code 1 = .ok (.ifnonnull 11, 3) := by decide +kernel
theorem d8_4 : decode jdk_31_method_10_code 4 = .ok (.new 84, 3) := by decide +kernel
theorem d8_7 : decode jdk_31_method_10_code 7 = .ok (.dup, 1) := by decide +kernel
theorem d8_8 : decode jdk_31_method_10_code 8 = .ok (.invokespecial 86, 3) := by decide +kernel
theorem d8_11 : decode jdk_31_method_10_code 11 = .ok (.athrow, 1) := by decide +kernel
theorem d8_12 : decode jdk_31_method_10_code 12 = .ok (.aload_n 0, 1) := by decide +kernel
theorem d8_13 : decode jdk_31_method_10_code 13 = .ok (.areturn, 1) := by decide +kernel
theorem owpn8 : plainName "java/util/Objects" = true := by first | (simp [plainName, overriddenIn]; done) | decide +kernel
theorem d9_0 : decode jdk_44_method_3_code 0 = .ok (.aload_n 0, 1) := by decide +kernel
theorem d9_1 : decode jdk_44_method_3_code 1 = .ok (.getfield 24, 3) := by decide +kernel
theorem d9_4 : decode jdk_44_method_3_code 4 = .ok (.getstatic 19, 3) := by decide +kernel
theorem d9_7 : decode jdk_44_method_3_code 7 = .ok (.if_acmp .eq 7, 3) := by decide +kernel
theorem d9_10 : decode jdk_44_method_3_code 10 = .ok (.iconst 2, 1) := by decide +kernel
theorem d9_11 : decode jdk_44_method_3_code 11 = .ok (.goto 4, 3) := by decide +kernel
theorem d9_14 : decode jdk_44_method_3_code 14 = .ok (.iconst 1, 1) := by decide +kernel
theorem d9_15 : decode jdk_44_method_3_code 15 = .ok (.ireturn, 1) := by decide +kernel
theorem owpn9 : plainName "java/util/ImmutableCollections$List12" = true := by first | (simp [plainName, overriddenIn]; done) | decide +kernel
theorem d10_0 : decode jdk_44_method_5_code 0 = .ok (.iload_n 1, 1) := by decide +kernel
theorem d10_1 : decode jdk_44_method_5_code 1 = .ok (.ifCond .ne 8, 3) := by decide +kernel
theorem d10_4 : decode jdk_44_method_5_code 4 = .ok (.aload_n 0, 1) := by decide +kernel
theorem d10_5 : decode jdk_44_method_5_code 5 = .ok (.getfield 13, 3) := by decide +kernel
theorem d10_8 : decode jdk_44_method_5_code 8 = .ok (.areturn, 1) := by decide +kernel
theorem d10_9 : decode jdk_44_method_5_code 9 = .ok (.iload_n 1, 1) := by decide +kernel
theorem d10_10 : decode jdk_44_method_5_code 10 = .ok (.iconst 1, 1) := by decide +kernel
theorem d10_11 : decode jdk_44_method_5_code 11 = .ok (.if_icmp .ne 18, 3) := by decide +kernel
theorem d10_14 : decode jdk_44_method_5_code 14 = .ok (.aload_n 0, 1) := by decide +kernel
theorem d10_15 : decode jdk_44_method_5_code 15 = .ok (.getfield 24, 3) := by decide +kernel
theorem d10_18 : decode jdk_44_method_5_code 18 = .ok (.getstatic 19, 3) := by decide +kernel
theorem d10_21 : decode jdk_44_method_5_code 21 = .ok (.if_acmp .eq 8, 3) := by decide +kernel
theorem d10_24 : decode jdk_44_method_5_code 24 = .ok (.aload_n 0, 1) := by decide +kernel
theorem d10_25 : decode jdk_44_method_5_code 25 = .ok (.getfield 24, 3) := by decide +kernel
theorem d10_28 : decode jdk_44_method_5_code 28 = .ok (.areturn, 1) := by decide +kernel
theorem d10_29 : decode jdk_44_method_5_code 29 = .ok (.aload_n 0, 1) := by decide +kernel
theorem d10_30 : decode jdk_44_method_5_code 30 = .ok (.iload_n 1, 1) := by decide +kernel
theorem d10_31 : decode jdk_44_method_5_code 31 = .ok (.invokevirtual 27, 3) := by decide +kernel
theorem d10_34 : decode jdk_44_method_5_code 34 = .ok (.athrow, 1) := by decide +kernel
theorem owpn10 : plainName "java/util/ImmutableCollections$List12" = true := by first | (simp [plainName, overriddenIn]; done) | decide +kernel
theorem d11_0 : decode prog_1_method_2_code 0 = .ok (.aload_n 0, 1) := by decide +kernel
theorem d11_1 : decode prog_1_method_2_code 1 = .ok (.getfield 21, 3) := by decide +kernel
theorem d11_4 : decode prog_1_method_2_code 4 = .ok (.areturn, 1) := by decide +kernel
theorem owpn11 : plainName "com/example/quittance/quittance/Catalog" = true := by first | (simp [plainName, overriddenIn]; done) | decide +kernel
theorem d12_0 : decode jdk_45_method_3_code 0 = .ok (.aload_n 0, 1) := by decide +kernel
theorem d12_1 : decode jdk_45_method_3_code 1 = .ok (.getfield 7, 3) := by decide +kernel
theorem d12_4 : decode jdk_45_method_3_code 4 = .ok (.arraylength, 1) := by decide +kernel
theorem d12_5 : decode jdk_45_method_3_code 5 = .ok (.ireturn, 1) := by decide +kernel
theorem owpn12 : plainName "java/util/ImmutableCollections$ListN" = true := by first | (simp [plainName, overriddenIn]; done) | decide +kernel
theorem d13_0 : decode jdk_45_method_4_code 0 = .ok (.aload_n 0, 1) := by decide +kernel
theorem d13_1 : decode jdk_45_method_4_code 1 = .ok (.getfield 7, 3) := by decide +kernel
theorem d13_4 : decode jdk_45_method_4_code 4 = .ok (.iload_n 1, 1) := by decide +kernel
theorem d13_5 : decode jdk_45_method_4_code 5 = .ok (.aaload, 1) := by decide +kernel
theorem d13_6 : decode jdk_45_method_4_code 6 = .ok (.areturn, 1) := by decide +kernel
theorem owpn13 : plainName "java/util/ImmutableCollections$ListN" = true := by first | (simp [plainName, overriddenIn]; done) | decide +kernel
theorem d14_0 : decode method_3_code 0 = .ok (.aload_n 0, 1) := by decide +kernel
theorem d14_1 : decode method_3_code 1 = .ok (.getstatic 13, 3) := by decide +kernel
theorem d14_4 : decode method_3_code 4 = .ok (.if_acmp .eq 17, 3) := by decide +kernel
theorem d14_7 : decode method_3_code 7 = .ok (.aload_n 0, 1) := by decide +kernel
theorem d14_8 : decode method_3_code 8 = .ok (.getstatic 16, 3) := by decide +kernel
theorem d14_11 : decode method_3_code 11 = .ok (.if_acmp .eq 10, 3) := by decide +kernel
theorem d14_14 : decode method_3_code 14 = .ok (.aload_n 0, 1) := by decide +kernel
theorem d14_15 : decode method_3_code 15 = .ok (.getstatic 19, 3) := by decide +kernel
theorem d14_18 : decode method_3_code 18 = .ok (.if_acmp .ne 7, 3) := by decide +kernel
theorem d14_21 : decode method_3_code 21 = .ok (.iconst 1, 1) := by decide +kernel
theorem d14_22 : decode method_3_code 22 = .ok (.goto 4, 3) := by decide +kernel
theorem d14_25 : decode method_3_code 25 = .ok (.iconst 0, 1) := by decide +kernel
theorem d14_26 : decode method_3_code 26 = .ok (.ireturn, 1) := by decide +kernel
theorem owpn14 : plainName "com/example/quittance/quittance/signing/ValueEncodingCheckedUnderPinLaw" = true := by first | (simp [plainName, overriddenIn]; done) | decide +kernel
theorem owpn0 : plainName "com/example/quittance/quittance/signing/ValueEncodingCheckedUnderPinLaw" = true := by first | (simp [plainName, overriddenIn]; done) | decide +kernel
theorem owpd0 : parseMethodDescriptor "()V" = some ⟨[], none⟩ := by decide +kernel
theorem owpd1 : parseMethodDescriptor "(Ljava/lang/Object;)Ljava/lang/Object;" = some ⟨[(.object "java/lang/Object")], some (.object "java/lang/Object")⟩ := by decide +kernel
theorem owpd2 : parseMethodDescriptor "(Ljava/lang/Object;)V" = some ⟨[(.object "java/lang/Object")], none⟩ := by decide +kernel
theorem owpd3 : parseMethodDescriptor "(Ljava/lang/Object;)Ljava/util/List;" = some ⟨[(.object "java/lang/Object")], some (.object "java/util/List")⟩ := by decide +kernel
theorem owpd4 : parseMethodDescriptor "()Ljava/util/List;" = some ⟨[], some (.object "java/util/List")⟩ := by decide +kernel
theorem owpd5 : parseMethodDescriptor "()I" = some ⟨[], some .int⟩ := by decide +kernel
theorem owpd6 : parseMethodDescriptor "(I)Ljava/lang/Object;" = some ⟨[.int], some (.object "java/lang/Object")⟩ := by decide +kernel
theorem owpd7 : parseMethodDescriptor "(Lcom/example/quittance/quittance/signing/ValueEncoding;)Z" = some ⟨[(.object "com/example/quittance/quittance/signing/ValueEncoding")], some .boolean⟩ := by decide +kernel
def OwW (Z : State) (w_NONE : Addr) (w_RFC3986 : Addr) (w_URL_ENCODINGS : Addr) (w_URL_ENCODINGS_entries : Addr) (w_URL_ENCODINGS_entries_elements : Addr) (w_PHP : Addr) (w_JAVA : Addr) (w_EMPTY : Addr) (w_EMPTY_LIST : Addr) (k_w_URL_ENCODINGS_entries_elements : ClassId) : Prop := (Exa Z Z.heap w_NONE "com/example/quittance/quittance/signing/ValueEncoding$1") ∧ (Exa Z Z.heap w_RFC3986 "com/example/quittance/quittance/signing/ValueEncoding") ∧ (Exa Z Z.heap w_URL_ENCODINGS "com/example/quittance/quittance/Catalog") ∧ (Exa Z Z.heap w_URL_ENCODINGS_entries "java/util/ImmutableCollections$ListN") ∧ (Exa Z Z.heap w_PHP "com/example/quittance/quittance/signing/ValueEncoding") ∧ (Exa Z Z.heap w_JAVA "com/example/quittance/quittance/signing/ValueEncoding") ∧ (Exa Z Z.heap w_EMPTY "java/lang/Object") ∧ (Exa Z Z.heap w_EMPTY_LIST "java/util/ImmutableCollections$ListN") ∧ (Sta Z Z.heap "com/example/quittance/quittance/signing/ValueEncoding" "NONE" "Lcom/example/quittance/quittance/signing/ValueEncoding;" (.ref w_NONE)) ∧ (Sta Z Z.heap "com/example/quittance/quittance/signing/ValueEncoding" "RFC3986" "Lcom/example/quittance/quittance/signing/ValueEncoding;" (.ref w_RFC3986)) ∧ (Sta Z Z.heap "com/example/quittance/quittance/signing/ValueEncoding" "URL_ENCODINGS" "Lcom/example/quittance/quittance/Catalog;" (.ref w_URL_ENCODINGS)) ∧ (Fld Z Z.heap w_URL_ENCODINGS "com/example/quittance/quittance/Catalog" "entries" "Ljava/util/List;" (.ref w_URL_ENCODINGS_entries)) ∧ (Fld Z Z.heap w_URL_ENCODINGS_entries "java/util/ImmutableCollections$ListN" "elements" "[Ljava/lang/Object;" (.ref w_URL_ENCODINGS_entries_elements)) ∧ (Sta Z Z.heap "com/example/quittance/quittance/signing/ValueEncoding" "PHP" "Lcom/example/quittance/quittance/signing/ValueEncoding;" (.ref w_PHP)) ∧ (Sta Z Z.heap "com/example/quittance/quittance/signing/ValueEncoding" "JAVA" "Lcom/example/quittance/quittance/signing/ValueEncoding;" (.ref w_JAVA)) ∧ (Fld Z Z.heap w_JAVA "java/lang/Enum" "ordinal" "I" (.int (2 : Int32))) ∧ (Fld Z Z.heap w_PHP "java/lang/Enum" "ordinal" "I" (.int (1 : Int32))) ∧ (Fld Z Z.heap w_RFC3986 "java/lang/Enum" "ordinal" "I" (.int (3 : Int32))) ∧ (Sta Z Z.heap "java/util/ImmutableCollections" "EMPTY" "Ljava/lang/Object;" (.ref w_EMPTY)) ∧ (Sta Z Z.heap "java/util/ImmutableCollections" "$assertionsDisabled" "Z" (.int (1 : Int32))) ∧ (Sta Z Z.heap "java/util/ImmutableCollections" "EMPTY_LIST" "Ljava/util/ImmutableCollections$ListN;" (.ref w_EMPTY_LIST)) ∧ (Arv Z Z.heap w_URL_ENCODINGS_entries_elements k_w_URL_ENCODINGS_entries_elements (.object "java/lang/Object") (3 : Int32) [(.ref w_PHP), (.ref w_JAVA), (.ref w_RFC3986)] .null) ∧ (w_PHP ≠ w_NONE) ∧ (w_JAVA ≠ w_NONE) ∧ (w_RFC3986 ≠ w_NONE) ∧ (w_PHP ≠ w_JAVA) ∧ (w_PHP ≠ w_RFC3986) ∧ (w_JAVA ≠ w_RFC3986) ∧ True
set_option maxRecDepth 65536 in
set_option maxHeartbeats 40000000 in
theorem rm6 (l : Launch) (Z : State) (a0 : Array Value) (hw : ∀ d ∈ tables_1, d.before a0 Z = true) (ws : List Jvm.Cond) (n0 : Nat) (h0 : Heap) (O : Old Z n0 h0) (w_NONE : Addr) (w_RFC3986 : Addr) (w_URL_ENCODINGS : Addr) (w_URL_ENCODINGS_entries : Addr) (w_URL_ENCODINGS_entries_elements : Addr) (w_PHP : Addr) (w_JAVA : Addr) (w_EMPTY : Addr) (w_EMPTY_LIST : Addr) (k_w_URL_ENCODINGS_entries_elements : ClassId) (W : OwW Z w_NONE w_RFC3986 w_URL_ENCODINGS w_URL_ENCODINGS_entries w_URL_ENCODINGS_entries_elements w_PHP w_JAVA w_EMPTY w_EMPTY_LIST k_w_URL_ENCODINGS_entries_elements) (a : Addr) :
    OwCon l (⟨"java/util/AbstractCollection", "<init>", "()V"⟩ : MethodName) jdk_22_method_1_code 1 none ws ({ frames := 1, cells := 0, slots := 0, locals := 12 } : Room) #[(.ref a)] Z h0 (OwQ none h0 n0) := by
  refine MetFree.of_bodySF (plainFor_of_name owpn6) hisR ?_
  intro p e s m args below meth c s₁ Bd hml0 hP hK
  obtain ⟨rfl, hZ, hh⟩ := hP
  have hx := Bd.exec
  have hby := Bd.bytes
  have hml : c.maxLocals = 1 := hml0
  have hown : s.vm.findClass "java/util/AbstractCollection" = some m.cls := findClass_of_methodNamed Bd.named
  have hnm := (name_of_methodNamed Bd.named Bd.method).1
  have X0 : Stand p l e ({ frames := 1, cells := 0, slots := 0, locals := 12 } : Room) s m #[(.ref a)] below meth c s₁ [] 0 0 := Stand.of_body Bd
  have e0 : s₁.heap = h0 := by rw [← hh, Bd.state]; rfl
  have N0 := Fr.nil n0
  have WW := W
  obtain ⟨E_w_NONE, E_w_RFC3986, E_w_URL_ENCODINGS, E_w_URL_ENCODINGS_entries, E_w_PHP, E_w_JAVA, E_w_EMPTY, E_w_EMPTY_LIST, S_ValueEncoding_NONE, S_ValueEncoding_RFC3986, S_ValueEncoding_URL_ENCODINGS, F_w_URL_ENCODINGS_entries, F_w_URL_ENCODINGS_entries_elements, S_ValueEncoding_PHP, S_ValueEncoding_JAVA, F_w_JAVA_ordinal, F_w_PHP_ordinal, F_w_RFC3986_ordinal, S_ImmutableCollections_EMPTY, S_ImmutableCollections__assertionsDisabled, S_ImmutableCollections_EMPTY_LIST, V_w_URL_ENCODINGS_entries_elements, ne_w_PHP_w_NONE, ne_w_JAVA_w_NONE, ne_w_RFC3986_w_NONE, ne_w_PHP_w_JAVA, ne_w_PHP_w_RFC3986, ne_w_JAVA_w_RFC3986, -⟩ := WW
  have ef : entryFrame m #[(.ref a)] 1 = mkF m 0 #[.val (.ref a)] [] := by first | rfl | (simp [entryFrame, mkF, argsToLocals, Value.category]; done)
  have pre0 : ∀ t, Steps p.tables e below (s₁.setTop (mkF m 0 #[.val (.ref a)] [])) t → Steps p.tables e below (s₁.setTop (entryFrame m #[(.ref a)] 1)) t := fun t k => castTop ef k
  obtain ⟨T1, X1, e1, st1⟩ := initO X0 hx hZ hown (hw _ (List.mem_of_getElem? (i := 38) rfl)) (hw _ (List.mem_of_getElem? (i := 39) rfl)) (hw _ (List.mem_of_getElem? (i := 40) rfl)) e0 (g := (mkF m 1 #[.val (.ref a)] [(.ref a)])) rfl (by rw [hml]; rfl) rfl (hb hby d6_1) (by decide) (W := 0) (by show 2 * 0 + _ ≤ _; exact Nat.le_of_eq rfl) (by decide)
  obtain ⟨fs, hr, hrun, hended, hW, hsame⟩ := X1.leave (v := none) (fun _ => rfl)
  refine ⟨_, _, pre0 _ ?_, hrun, hended, _, _, rfl, ?_, ⟨_, rfl⟩, hW, hsame.mono (by decide) (by decide)⟩
  · show Steps p.tables e below (s₁.setTop (mkF m 0 #[.val (.ref a)] [])) _
    refine XS.aloadN X0.here hx rfl (hb hby d6_0) rfl rfl ?_
    show Steps p.tables e below (s₁.setTop (mkF m 1 #[.val (.ref a)] [(.ref a)])) _
    refine st1 _ ?_
    show Steps p.tables e below (T1.setTop (mkF m 4 #[.val (.ref a)] [])) _
    exact X1.returnOut hx Bd.returns (hb hby d6_4) hr
  · have eF : (T1.setFrames fs).heap = h0 := e1
    exact ⟨rfl, N0, eF⟩
set_option maxRecDepth 65536 in
set_option maxHeartbeats 40000000 in
theorem rm5 (l : Launch) (Z : State) (a0 : Array Value) (hw : ∀ d ∈ tables_1, d.before a0 Z = true) (ws : List Jvm.Cond) (n0 : Nat) (h0 : Heap) (O : Old Z n0 h0) (w_NONE : Addr) (w_RFC3986 : Addr) (w_URL_ENCODINGS : Addr) (w_URL_ENCODINGS_entries : Addr) (w_URL_ENCODINGS_entries_elements : Addr) (w_PHP : Addr) (w_JAVA : Addr) (w_EMPTY : Addr) (w_EMPTY_LIST : Addr) (k_w_URL_ENCODINGS_entries_elements : ClassId) (W : OwW Z w_NONE w_RFC3986 w_URL_ENCODINGS w_URL_ENCODINGS_entries w_URL_ENCODINGS_entries_elements w_PHP w_JAVA w_EMPTY w_EMPTY_LIST k_w_URL_ENCODINGS_entries_elements) (a : Addr) :
    OwCon l (⟨"java/util/ImmutableCollections$AbstractImmutableCollection", "<init>", "()V"⟩ : MethodName) jdk_47_method_1_code 1 none ws ({ frames := 2, cells := 0, slots := 0, locals := 24 } : Room) #[(.ref a)] Z h0 (OwQ none h0 n0) := by
  refine MetFree.of_bodySF (plainFor_of_name owpn5) hisR ?_
  intro p e s m args below meth c s₁ Bd hml0 hP hK
  obtain ⟨rfl, hZ, hh⟩ := hP
  have hx := Bd.exec
  have hby := Bd.bytes
  have hml : c.maxLocals = 1 := hml0
  have hown : s.vm.findClass "java/util/ImmutableCollections$AbstractImmutableCollection" = some m.cls := findClass_of_methodNamed Bd.named
  have hnm := (name_of_methodNamed Bd.named Bd.method).1
  have X0 : Stand p l e ({ frames := 2, cells := 0, slots := 0, locals := 24 } : Room) s m #[(.ref a)] below meth c s₁ [] 0 0 := Stand.of_body Bd
  have e0 : s₁.heap = h0 := by rw [← hh, Bd.state]; rfl
  have N0 := Fr.nil n0
  have WW := W
  obtain ⟨E_w_NONE, E_w_RFC3986, E_w_URL_ENCODINGS, E_w_URL_ENCODINGS_entries, E_w_PHP, E_w_JAVA, E_w_EMPTY, E_w_EMPTY_LIST, S_ValueEncoding_NONE, S_ValueEncoding_RFC3986, S_ValueEncoding_URL_ENCODINGS, F_w_URL_ENCODINGS_entries, F_w_URL_ENCODINGS_entries_elements, S_ValueEncoding_PHP, S_ValueEncoding_JAVA, F_w_JAVA_ordinal, F_w_PHP_ordinal, F_w_RFC3986_ordinal, S_ImmutableCollections_EMPTY, S_ImmutableCollections__assertionsDisabled, S_ImmutableCollections_EMPTY_LIST, V_w_URL_ENCODINGS_entries_elements, ne_w_PHP_w_NONE, ne_w_JAVA_w_NONE, ne_w_RFC3986_w_NONE, ne_w_PHP_w_JAVA, ne_w_PHP_w_RFC3986, ne_w_JAVA_w_RFC3986, -⟩ := WW
  have ef : entryFrame m #[(.ref a)] 1 = mkF m 0 #[.val (.ref a)] [] := by first | rfl | (simp [entryFrame, mkF, argsToLocals, Value.category]; done)
  have pre0 : ∀ t, Steps p.tables e below (s₁.setTop (mkF m 0 #[.val (.ref a)] [])) t → Steps p.tables e below (s₁.setTop (entryFrame m #[(.ref a)] 1)) t := fun t k => castTop ef k
  obtain ⟨_, _, ⟨T1, L1, k1, n1⟩, -, X1, ⟨Lc1, hQ1, l1, y1, z1⟩, st1⟩ := X0.specialBack hx (y := (⟨"java/util/AbstractCollection", "<init>", "()V"⟩ : MethodName)) rfl hown (mvT hZ (hw _ (List.mem_of_getElem? (i := 32) rfl))) (mvT hZ (hw _ (List.mem_of_getElem? (i := 33) rfl))) (mvT hZ (hw _ (List.mem_of_getElem? (i := 37) rfl))) (by decide) (backOf (W := 0) (rm6 l Z a0 hw [] n0 h0 O w_NONE w_RFC3986 w_URL_ENCODINGS w_URL_ENCODINGS_entries w_URL_ENCODINGS_entries_elements w_PHP w_JAVA w_EMPTY w_EMPTY_LIST k_w_URL_ENCODINGS_entries_elements W a) hZ (hw _ (List.mem_of_getElem? (i := 37) rfl)) (hw _ (List.mem_of_getElem? (i := 36) rfl)) (by decide) (by decide)) (g := (mkF m 1 #[.val (.ref a)] [(.ref a)])) rfl (by rw [hml]; rfl) (Steps.refl _) (a := a) (argsL := []) (rest := []) (lenOf owpd0 rfl) rfl (by show 2 * 0 + _ ≤ _; exact Nat.le_of_eq rfl) (hb hby d5_1) (fun _ _ => ⟨rfl, e0, (by decide : 0 + 0 ≤ _), (by decide : 0 + 0 ≤ _)⟩)
  dsimp only [Pt.U, Pt.locs, Pt.cells, Pt.slots] at X1 l1 y1 z1 st1 hQ1
  subst l1 y1 z1
  obtain ⟨rfl, Nq1, e1⟩ := hQ1
  have N1 := Fr.app N0 Nq1
  obtain ⟨fs, hr, hrun, hended, hW, hsame⟩ := X1.leave (v := none) (fun _ => rfl)
  refine ⟨_, _, pre0 _ ?_, hrun, hended, _, _, rfl, ?_, ⟨_, rfl⟩, hW, hsame.mono (by decide) (by decide)⟩
  · show Steps p.tables e below (s₁.setTop (mkF m 0 #[.val (.ref a)] [])) _
    refine XS.aloadN X0.here hx rfl (hb hby d5_0) rfl rfl ?_
    show Steps p.tables e below (s₁.setTop (mkF m 1 #[.val (.ref a)] [(.ref a)])) _
    refine st1.trans ?_
    show Steps p.tables e below (T1.setTop (mkF m 4 #[.val (.ref a)] [])) _
    exact X1.returnOut hx Bd.returns (hb hby d5_4) hr
  · have eF : (T1.setFrames fs).heap = h0 := e1
    exact ⟨rfl, N1, eF⟩
set_option maxRecDepth 65536 in
set_option maxHeartbeats 40000000 in
theorem rm4 (l : Launch) (Z : State) (a0 : Array Value) (hw : ∀ d ∈ tables_1, d.before a0 Z = true) (ws : List Jvm.Cond) (n0 : Nat) (h0 : Heap) (O : Old Z n0 h0) (w_NONE : Addr) (w_RFC3986 : Addr) (w_URL_ENCODINGS : Addr) (w_URL_ENCODINGS_entries : Addr) (w_URL_ENCODINGS_entries_elements : Addr) (w_PHP : Addr) (w_JAVA : Addr) (w_EMPTY : Addr) (w_EMPTY_LIST : Addr) (k_w_URL_ENCODINGS_entries_elements : ClassId) (W : OwW Z w_NONE w_RFC3986 w_URL_ENCODINGS w_URL_ENCODINGS_entries w_URL_ENCODINGS_entries_elements w_PHP w_JAVA w_EMPTY w_EMPTY_LIST k_w_URL_ENCODINGS_entries_elements) (a : Addr) :
    OwCon l (⟨"java/util/ImmutableCollections$AbstractImmutableList", "<init>", "()V"⟩ : MethodName) jdk_46_method_1_code 1 none ws ({ frames := 3, cells := 0, slots := 0, locals := 36 } : Room) #[(.ref a)] Z h0 (OwQ none h0 n0) := by
  refine MetFree.of_bodySF (plainFor_of_name owpn4) hisR ?_
  intro p e s m args below meth c s₁ Bd hml0 hP hK
  obtain ⟨rfl, hZ, hh⟩ := hP
  have hx := Bd.exec
  have hby := Bd.bytes
  have hml : c.maxLocals = 1 := hml0
  have hown : s.vm.findClass "java/util/ImmutableCollections$AbstractImmutableList" = some m.cls := findClass_of_methodNamed Bd.named
  have hnm := (name_of_methodNamed Bd.named Bd.method).1
  have X0 : Stand p l e ({ frames := 3, cells := 0, slots := 0, locals := 36 } : Room) s m #[(.ref a)] below meth c s₁ [] 0 0 := Stand.of_body Bd
  have e0 : s₁.heap = h0 := by rw [← hh, Bd.state]; rfl
  have N0 := Fr.nil n0
  have WW := W
  obtain ⟨E_w_NONE, E_w_RFC3986, E_w_URL_ENCODINGS, E_w_URL_ENCODINGS_entries, E_w_PHP, E_w_JAVA, E_w_EMPTY, E_w_EMPTY_LIST, S_ValueEncoding_NONE, S_ValueEncoding_RFC3986, S_ValueEncoding_URL_ENCODINGS, F_w_URL_ENCODINGS_entries, F_w_URL_ENCODINGS_entries_elements, S_ValueEncoding_PHP, S_ValueEncoding_JAVA, F_w_JAVA_ordinal, F_w_PHP_ordinal, F_w_RFC3986_ordinal, S_ImmutableCollections_EMPTY, S_ImmutableCollections__assertionsDisabled, S_ImmutableCollections_EMPTY_LIST, V_w_URL_ENCODINGS_entries_elements, ne_w_PHP_w_NONE, ne_w_JAVA_w_NONE, ne_w_RFC3986_w_NONE, ne_w_PHP_w_JAVA, ne_w_PHP_w_RFC3986, ne_w_JAVA_w_RFC3986, -⟩ := WW
  have ef : entryFrame m #[(.ref a)] 1 = mkF m 0 #[.val (.ref a)] [] := by first | rfl | (simp [entryFrame, mkF, argsToLocals, Value.category]; done)
  have pre0 : ∀ t, Steps p.tables e below (s₁.setTop (mkF m 0 #[.val (.ref a)] [])) t → Steps p.tables e below (s₁.setTop (entryFrame m #[(.ref a)] 1)) t := fun t k => castTop ef k
  obtain ⟨_, _, ⟨T1, L1, k1, n1⟩, -, X1, ⟨Lc1, hQ1, l1, y1, z1⟩, st1⟩ := X0.specialBack hx (y := (⟨"java/util/ImmutableCollections$AbstractImmutableCollection", "<init>", "()V"⟩ : MethodName)) rfl hown (mvT hZ (hw _ (List.mem_of_getElem? (i := 26) rfl))) (mvT hZ (hw _ (List.mem_of_getElem? (i := 27) rfl))) (mvT hZ (hw _ (List.mem_of_getElem? (i := 31) rfl))) (by decide) (backOf (W := 0) (rm5 l Z a0 hw [] n0 h0 O w_NONE w_RFC3986 w_URL_ENCODINGS w_URL_ENCODINGS_entries w_URL_ENCODINGS_entries_elements w_PHP w_JAVA w_EMPTY w_EMPTY_LIST k_w_URL_ENCODINGS_entries_elements W a) hZ (hw _ (List.mem_of_getElem? (i := 31) rfl)) (hw _ (List.mem_of_getElem? (i := 30) rfl)) (by decide) (by decide)) (g := (mkF m 1 #[.val (.ref a)] [(.ref a)])) rfl (by rw [hml]; rfl) (Steps.refl _) (a := a) (argsL := []) (rest := []) (lenOf owpd0 rfl) rfl (by show 2 * 0 + _ ≤ _; exact Nat.le_of_eq rfl) (hb hby d4_1) (fun _ _ => ⟨rfl, e0, (by decide : 0 + 0 ≤ _), (by decide : 0 + 0 ≤ _)⟩)
  dsimp only [Pt.U, Pt.locs, Pt.cells, Pt.slots] at X1 l1 y1 z1 st1 hQ1
  subst l1 y1 z1
  obtain ⟨rfl, Nq1, e1⟩ := hQ1
  have N1 := Fr.app N0 Nq1
  obtain ⟨fs, hr, hrun, hended, hW, hsame⟩ := X1.leave (v := none) (fun _ => rfl)
  refine ⟨_, _, pre0 _ ?_, hrun, hended, _, _, rfl, ?_, ⟨_, rfl⟩, hW, hsame.mono (by decide) (by decide)⟩
  · show Steps p.tables e below (s₁.setTop (mkF m 0 #[.val (.ref a)] [])) _
    refine XS.aloadN X0.here hx rfl (hb hby d4_0) rfl rfl ?_
    show Steps p.tables e below (s₁.setTop (mkF m 1 #[.val (.ref a)] [(.ref a)])) _
    refine st1.trans ?_
    show Steps p.tables e below (T1.setTop (mkF m 4 #[.val (.ref a)] [])) _
    exact X1.returnOut hx Bd.returns (hb hby d4_4) hr
  · have eF : (T1.setFrames fs).heap = h0 := e1
    exact ⟨rfl, N1, eF⟩
set_option maxRecDepth 65536 in
set_option maxHeartbeats 40000000 in
theorem rm8 (l : Launch) (Z : State) (a0 : Array Value) (hw : ∀ d ∈ tables_1, d.before a0 Z = true) (ws : List Jvm.Cond) (n0 : Nat) (h0 : Heap) (O : Old Z n0 h0) (w_NONE : Addr) (w_RFC3986 : Addr) (w_URL_ENCODINGS : Addr) (w_URL_ENCODINGS_entries : Addr) (w_URL_ENCODINGS_entries_elements : Addr) (w_PHP : Addr) (w_JAVA : Addr) (w_EMPTY : Addr) (w_EMPTY_LIST : Addr) (k_w_URL_ENCODINGS_entries_elements : ClassId) (W : OwW Z w_NONE w_RFC3986 w_URL_ENCODINGS w_URL_ENCODINGS_entries w_URL_ENCODINGS_entries_elements w_PHP w_JAVA w_EMPTY w_EMPTY_LIST k_w_URL_ENCODINGS_entries_elements) (a : Addr) :
    OwCon l (⟨"java/util/Objects", "requireNonNull", "(Ljava/lang/Object;)Ljava/lang/Object;"⟩ : MethodName) jdk_31_method_10_code 1 (some (.object "java/lang/Object")) ws ({ frames := 0, cells := 0, slots := 0, locals := 0 } : Room) #[(.ref a)] Z h0 (OwQ (some (.ref a)) h0 n0) := by
  refine MetFree.of_bodySF (plainFor_of_name owpn8) hisR ?_
  intro p e s m args below meth c s₁ Bd hml0 hP hK
  obtain ⟨rfl, hZ, hh⟩ := hP
  have hx := Bd.exec
  have hby := Bd.bytes
  have hml : c.maxLocals = 1 := hml0
  have hown : s.vm.findClass "java/util/Objects" = some m.cls := findClass_of_methodNamed Bd.named
  have hnm := (name_of_methodNamed Bd.named Bd.method).1
  have X0 : Stand p l e ({ frames := 0, cells := 0, slots := 0, locals := 0 } : Room) s m #[(.ref a)] below meth c s₁ [] 0 0 := Stand.of_body Bd
  have e0 : s₁.heap = h0 := by rw [← hh, Bd.state]; rfl
  have N0 := Fr.nil n0
  have WW := W
  obtain ⟨E_w_NONE, E_w_RFC3986, E_w_URL_ENCODINGS, E_w_URL_ENCODINGS_entries, E_w_PHP, E_w_JAVA, E_w_EMPTY, E_w_EMPTY_LIST, S_ValueEncoding_NONE, S_ValueEncoding_RFC3986, S_ValueEncoding_URL_ENCODINGS, F_w_URL_ENCODINGS_entries, F_w_URL_ENCODINGS_entries_elements, S_ValueEncoding_PHP, S_ValueEncoding_JAVA, F_w_JAVA_ordinal, F_w_PHP_ordinal, F_w_RFC3986_ordinal, S_ImmutableCollections_EMPTY, S_ImmutableCollections__assertionsDisabled, S_ImmutableCollections_EMPTY_LIST, V_w_URL_ENCODINGS_entries_elements, ne_w_PHP_w_NONE, ne_w_JAVA_w_NONE, ne_w_RFC3986_w_NONE, ne_w_PHP_w_JAVA, ne_w_PHP_w_RFC3986, ne_w_JAVA_w_RFC3986, -⟩ := WW
  have ef : entryFrame m #[(.ref a)] 1 = mkF m 0 #[.val (.ref a)] [] := by first | rfl | (simp [entryFrame, mkF, argsToLocals, Value.category]; done)
  have pre0 : ∀ t, Steps p.tables e below (s₁.setTop (mkF m 0 #[.val (.ref a)] [])) t → Steps p.tables e below (s₁.setTop (entryFrame m #[(.ref a)] 1)) t := fun t k => castTop ef k
  obtain ⟨fs, hr, hrun, hended, hW, hsame⟩ := X0.leave (v := some (.ref a)) (fun h => by rw [Bd.returns] at h; cases h)
  refine ⟨_, _, pre0 _ ?_, hrun, hended, _, _, rfl, ?_, ⟨_, rfl⟩, hW, hsame.mono (by decide) (by decide)⟩
  · show Steps p.tables e below (s₁.setTop (mkF m 0 #[.val (.ref a)] [])) _
    refine XS.aloadN X0.here hx rfl (hb hby d8_0) rfl rfl ?_
    show Steps p.tables e below (s₁.setTop (mkF m 1 #[.val (.ref a)] [(.ref a)])) _
    refine XS.ifnonnullYes X0.here hx rfl (pc0 := 1) (pc' := 12) rfl (hb hby d8_1) rfl (by decide) (by decide) ?_
    show Steps p.tables e below (s₁.setTop (mkF m 12 #[.val (.ref a)] [])) _
    refine XS.aloadN X0.here hx rfl (hb hby d8_12) rfl rfl ?_
    show Steps p.tables e below (s₁.setTop (mkF m 13 #[.val (.ref a)] [(.ref a)])) _
    exact retOut X0 hx Bd.returns rfl (Or.inr (Or.inr (Or.inr (Or.inr ⟨rfl, rfl, rfl⟩)))) (hb hby d8_13) hr
  · have eF : (s₁.setFrames fs).heap = h0 := e0
    exact ⟨rfl, N0, eF⟩
set_option maxRecDepth 65536 in
set_option maxHeartbeats 40000000 in
theorem rm3 (l : Launch) (Z : State) (a0 : Array Value) (hw : ∀ d ∈ tables_1, d.before a0 Z = true) (ws : List Jvm.Cond) (n0 : Nat) (h0 : Heap) (O : Old Z n0 h0) (w_NONE : Addr) (w_RFC3986 : Addr) (w_URL_ENCODINGS : Addr) (w_URL_ENCODINGS_entries : Addr) (w_URL_ENCODINGS_entries_elements : Addr) (w_PHP : Addr) (w_JAVA : Addr) (w_EMPTY : Addr) (w_EMPTY_LIST : Addr) (k_w_URL_ENCODINGS_entries_elements : ClassId) (W : OwW Z w_NONE w_RFC3986 w_URL_ENCODINGS w_URL_ENCODINGS_entries w_URL_ENCODINGS_entries_elements w_PHP w_JAVA w_EMPTY w_EMPTY_LIST k_w_URL_ENCODINGS_entries_elements) (a x0 : Addr) (Ea : Exa Z h0 a "java/util/ImmutableCollections$List12") (F0 : Fld Z h0 a "java/util/ImmutableCollections$List12" "e0" "Ljava/lang/Object;" .null) (F1 : Fld Z h0 a "java/util/ImmutableCollections$List12" "e1" "Ljava/lang/Object;" .null) (ga : n0 ≤ a) :
    OwCon l (⟨"java/util/ImmutableCollections$List12", "<init>", "(Ljava/lang/Object;)V"⟩ : MethodName) jdk_44_method_1_code 2 none ws ({ frames := 4, cells := 0, slots := 0, locals := 48 } : Room) #[(.ref a), (.ref x0)] Z h0 (OwP (fun v h => v = none ∧ Old Z n0 h ∧ Keep h0 h [a] ∧ Exa Z h a "java/util/ImmutableCollections$List12" ∧ Fld Z h a "java/util/ImmutableCollections$List12" "e0" "Ljava/lang/Object;" (.ref x0) ∧ Fld Z h a "java/util/ImmutableCollections$List12" "e1" "Ljava/lang/Object;" (.ref w_EMPTY)) n0) := by
  refine MetFree.of_bodySF (plainFor_of_name owpn3) hisR ?_
  intro p e s m args below meth c s₁ Bd hml0 hP hK
  obtain ⟨rfl, hZ, hh⟩ := hP
  have hx := Bd.exec
  have hby := Bd.bytes
  have hml : c.maxLocals = 2 := hml0
  have hown : s.vm.findClass "java/util/ImmutableCollections$List12" = some m.cls := findClass_of_methodNamed Bd.named
  have hnm := (name_of_methodNamed Bd.named Bd.method).1
  have X0 : Stand p l e ({ frames := 4, cells := 0, slots := 0, locals := 48 } : Room) s m #[(.ref a), (.ref x0)] below meth c s₁ [] 0 0 := Stand.of_body Bd
  have e0 : s₁.heap = h0 := by rw [← hh, Bd.state]; rfl
  have N0 := Fr.nil n0
  have WW := W
  obtain ⟨E_w_NONE, E_w_RFC3986, E_w_URL_ENCODINGS, E_w_URL_ENCODINGS_entries, E_w_PHP, E_w_JAVA, E_w_EMPTY, E_w_EMPTY_LIST, S_ValueEncoding_NONE, S_ValueEncoding_RFC3986, S_ValueEncoding_URL_ENCODINGS, F_w_URL_ENCODINGS_entries, F_w_URL_ENCODINGS_entries_elements, S_ValueEncoding_PHP, S_ValueEncoding_JAVA, F_w_JAVA_ordinal, F_w_PHP_ordinal, F_w_RFC3986_ordinal, S_ImmutableCollections_EMPTY, S_ImmutableCollections__assertionsDisabled, S_ImmutableCollections_EMPTY_LIST, V_w_URL_ENCODINGS_entries_elements, ne_w_PHP_w_NONE, ne_w_JAVA_w_NONE, ne_w_RFC3986_w_NONE, ne_w_PHP_w_JAVA, ne_w_PHP_w_RFC3986, ne_w_JAVA_w_RFC3986, -⟩ := WW
  have ef : entryFrame m #[(.ref a), (.ref x0)] 2 = mkF m 0 #[.val (.ref a), .val (.ref x0)] [] := by first | rfl | (simp [entryFrame, mkF, argsToLocals, Value.category]; done)
  have pre0 : ∀ t, Steps p.tables e below (s₁.setTop (mkF m 0 #[.val (.ref a), .val (.ref x0)] [])) t → Steps p.tables e below (s₁.setTop (entryFrame m #[(.ref a), (.ref x0)] 2)) t := fun t k => castTop ef k
  obtain ⟨_, _, ⟨T1, L1, k1, n1⟩, -, X1, ⟨Lc1, hQ1, l1, y1, z1⟩, st1⟩ := X0.specialBack hx (y := (⟨"java/util/ImmutableCollections$AbstractImmutableList", "<init>", "()V"⟩ : MethodName)) rfl hown (mvT hZ (hw _ (List.mem_of_getElem? (i := 20) rfl))) (mvT hZ (hw _ (List.mem_of_getElem? (i := 21) rfl))) (mvT hZ (hw _ (List.mem_of_getElem? (i := 25) rfl))) (by decide) (backOf (W := 0) (rm4 l Z a0 hw [] n0 h0 O w_NONE w_RFC3986 w_URL_ENCODINGS w_URL_ENCODINGS_entries w_URL_ENCODINGS_entries_elements w_PHP w_JAVA w_EMPTY w_EMPTY_LIST k_w_URL_ENCODINGS_entries_elements W a) hZ (hw _ (List.mem_of_getElem? (i := 25) rfl)) (hw _ (List.mem_of_getElem? (i := 24) rfl)) (by decide) (by decide)) (g := (mkF m 1 #[.val (.ref a), .val (.ref x0)] [(.ref a)])) rfl (by rw [hml]; rfl) (Steps.refl _) (a := a) (argsL := []) (rest := []) (lenOf owpd0 rfl) rfl (by show 2 * 0 + _ ≤ _; exact Nat.le_of_eq rfl) (hb hby d3_1) (fun _ _ => ⟨rfl, e0, (by decide : 0 + 0 ≤ _), (by decide : 0 + 0 ≤ _)⟩)
  dsimp only [Pt.U, Pt.locs, Pt.cells, Pt.slots] at X1 l1 y1 z1 st1 hQ1
  subst l1 y1 z1
  obtain ⟨rfl, Nq1, e1⟩ := hQ1
  have N1 := Fr.app N0 Nq1
  obtain ⟨_, _, ⟨T2, L2, k2, n2⟩, -, X2, ⟨Lc2, hQ2, l2, y2, z2⟩, st2⟩ := Jvm.LawKit.callS X1 hx (y := (⟨"java/util/Objects", "requireNonNull", "(Ljava/lang/Object;)Ljava/lang/Object;"⟩ : MethodName)) hown (mvT hZ (hw _ (List.mem_of_getElem? (i := 41) rfl))) (mvT hZ (hw _ (List.mem_of_getElem? (i := 42) rfl))) (mvT hZ (hw _ (List.mem_of_getElem? (i := 43) rfl))) (mvT hZ (hw _ (List.mem_of_getElem? (i := 44) rfl))) (by decide) (backOf (W := 1) (rm8 l Z a0 hw [] n0 h0 O w_NONE w_RFC3986 w_URL_ENCODINGS w_URL_ENCODINGS_entries w_URL_ENCODINGS_entries_elements w_PHP w_JAVA w_EMPTY w_EMPTY_LIST k_w_URL_ENCODINGS_entries_elements W x0) hZ (hw _ (List.mem_of_getElem? (i := 44) rfl)) (hw _ (List.mem_of_getElem? (i := 43) rfl)) (by decide) (by decide)) (g := (mkF m 6 #[.val (.ref a), .val (.ref x0)] [(.ref x0), (.ref a)])) rfl (by rw [hml]; rfl) (argsL := [(.ref x0)]) (rest := [(.ref a)]) (lenOf owpd1 rfl) rfl (by show 2 * 0 + _ ≤ _; exact Nat.le_of_eq rfl) (hb hby d3_6) (fun _ _ => ⟨rfl, e1, (by decide : 0 + 0 ≤ _), (by decide : 0 + 0 ≤ _)⟩)
  dsimp only [Pt.U, Pt.locs, Pt.cells, Pt.slots] at X2 l2 y2 z2 st2 hQ2
  subst l2 y2 z2
  obtain ⟨rfl, Nq2, e2⟩ := hQ2
  have N2 := Fr.app N1 Nq2
  obtain ⟨T3, h3, X3, e3, W3, st3⟩ := putF X2 hx hZ hown (host := "") (Or.inl (hw _ (List.mem_of_getElem? (i := 45) rfl))) Via.refl e2 F0 Ea (Or.inr ⟨(hw _ (List.mem_of_getElem? (i := 46) rfl)), rfl, hnm⟩) (hw _ (List.mem_of_getElem? (i := 14) rfl)) (ty := (.object "java/lang/Object")) (by decide) rfl rfl (g := (mkF m 9 #[.val (.ref a), .val (.ref x0)] [(.ref x0), (.ref a)])) rfl rfl (hb hby d3_9)
  have Fw3 := F0.same W3
  have N3 := Fr.snoc X3 N2 ga
  have O3 := O.wr W3 ga
  have Kp3 : Keep h0 h3 [a] := (Keep.refl h0 [a]).wr W3 (Or.inl (List.mem_of_getElem? (i := 0) rfl))
  obtain ⟨T4, X4, e4, st4⟩ := getS2 X3 hx hZ hown (Or.inr (hw _ (List.mem_of_getElem? (i := 47) rfl))) Via.refl e3 (S_ImmutableCollections_EMPTY.ext O3.2) (g := (mkF m 13 #[.val (.ref a), .val (.ref x0)] [(.ref a)])) rfl (hb hby d3_13)
  have fa5 := (F1.other W3 (Or.inr (slot_ne (Or.inr (hw _ (List.mem_of_getElem? (i := 50) rfl))) (Or.inr (hw _ (List.mem_of_getElem? (i := 46) rfl))) (by decide) (t := (.object "java/lang/Object")) (t' := (.object "java/lang/Object")) (by decide) (by decide))))
  have fa6 := (Ea.wr W3)
  obtain ⟨T7, h7, X7, e7, W7, st7⟩ := putF X4 hx hZ hown (host := "") (Or.inl (hw _ (List.mem_of_getElem? (i := 49) rfl))) Via.refl e4 fa5 fa6 (Or.inr ⟨(hw _ (List.mem_of_getElem? (i := 50) rfl)), rfl, hnm⟩) (hw _ (List.mem_of_getElem? (i := 14) rfl)) (ty := (.object "java/lang/Object")) (by decide) rfl rfl (g := (mkF m 16 #[.val (.ref a), .val (.ref x0)] [(.ref w_EMPTY), (.ref a)])) rfl rfl (hb hby d3_16)
  have Fw7 := fa5.same W7
  have N7 := Fr.snoc X7 N3 ga
  have O7 := O3.wr W7 ga
  have Kp7 : Keep h0 h7 [a] := Kp3.wr W7 (Or.inl (List.mem_of_getElem? (i := 0) rfl))
  have fa8 := (Fw3.other W7 (Or.inr (slot_ne (Or.inr (hw _ (List.mem_of_getElem? (i := 46) rfl))) (Or.inr (hw _ (List.mem_of_getElem? (i := 50) rfl))) (by decide) (t := (.object "java/lang/Object")) (t' := (.object "java/lang/Object")) (by decide) (by decide))))
  have fa9 := (fa6.wr W7)
  obtain ⟨fs, hr, hrun, hended, hW, hsame⟩ := X7.leave (v := none) (fun _ => rfl)
  refine ⟨_, _, pre0 _ ?_, hrun, hended, _, _, rfl, ?_, ⟨_, rfl⟩, hW, hsame.mono (by decide) (by decide)⟩
  · show Steps p.tables e below (s₁.setTop (mkF m 0 #[.val (.ref a), .val (.ref x0)] [])) _
    refine XS.aloadN X0.here hx rfl (hb hby d3_0) rfl rfl ?_
    show Steps p.tables e below (s₁.setTop (mkF m 1 #[.val (.ref a), .val (.ref x0)] [(.ref a)])) _
    refine st1.trans ?_
    show Steps p.tables e below (T1.setTop (mkF m 4 #[.val (.ref a), .val (.ref x0)] [])) _
    refine XS.aloadN X1.here hx rfl (hb hby d3_4) rfl rfl ?_
    show Steps p.tables e below (T1.setTop (mkF m 5 #[.val (.ref a), .val (.ref x0)] [(.ref a)])) _
    refine XS.aloadN X1.here hx rfl (hb hby d3_5) rfl rfl ?_
    show Steps p.tables e below (T1.setTop (mkF m 6 #[.val (.ref a), .val (.ref x0)] [(.ref x0), (.ref a)])) _
    refine st2 _ ?_
    show Steps p.tables e below (T2.setTop (mkF m 9 #[.val (.ref a), .val (.ref x0)] [(.ref x0), (.ref a)])) _
    refine st3 _ ?_
    show Steps p.tables e below (T3.setTop (mkF m 12 #[.val (.ref a), .val (.ref x0)] [])) _
    refine XS.aloadN X3.here hx rfl (hb hby d3_12) rfl rfl ?_
    show Steps p.tables e below (T3.setTop (mkF m 13 #[.val (.ref a), .val (.ref x0)] [(.ref a)])) _
    refine st4 _ ?_
    show Steps p.tables e below (T4.setTop (mkF m 16 #[.val (.ref a), .val (.ref x0)] [(.ref w_EMPTY), (.ref a)])) _
    refine st7 _ ?_
    show Steps p.tables e below (T7.setTop (mkF m 19 #[.val (.ref a), .val (.ref x0)] [])) _
    exact X7.returnOut hx Bd.returns (hb hby d3_19) hr
  · have eF : (T7.setFrames fs).heap = h7 := e7
    exact ⟨N7, rfl, by rw [eF]; exact ⟨O7, Kp7, fa9, fa8, Fw7⟩⟩
set_option maxRecDepth 65536 in
set_option maxHeartbeats 40000000 in
theorem rm2 (l : Launch) (Z : State) (a0 : Array Value) (hw : ∀ d ∈ tables_1, d.before a0 Z = true) (ws : List Jvm.Cond) (n0 : Nat) (h0 : Heap) (O : Old Z n0 h0) (w_NONE : Addr) (w_RFC3986 : Addr) (w_URL_ENCODINGS : Addr) (w_URL_ENCODINGS_entries : Addr) (w_URL_ENCODINGS_entries_elements : Addr) (w_PHP : Addr) (w_JAVA : Addr) (w_EMPTY : Addr) (w_EMPTY_LIST : Addr) (k_w_URL_ENCODINGS_entries_elements : ClassId) (W : OwW Z w_NONE w_RFC3986 w_URL_ENCODINGS w_URL_ENCODINGS_entries w_URL_ENCODINGS_entries_elements w_PHP w_JAVA w_EMPTY w_EMPTY_LIST k_w_URL_ENCODINGS_entries_elements) (a : Addr) :
    OwCon l (⟨"java/util/List", "of", "(Ljava/lang/Object;)Ljava/util/List;"⟩ : MethodName) jdk_40_method_37_code 1 (some (.object "java/util/List")) ws ({ frames := 5, cells := 1, slots := 2, locals := 62 } : Room) #[(.ref a)] Z h0 (OwP (fun v h => ∃ b : Addr, v = some (.ref b) ∧ Old Z n0 h ∧ Exa Z h b "java/util/ImmutableCollections$List12" ∧ Fld Z h b "java/util/ImmutableCollections$List12" "e0" "Ljava/lang/Object;" (.ref a) ∧ Fld Z h b "java/util/ImmutableCollections$List12" "e1" "Ljava/lang/Object;" (.ref w_EMPTY)) n0) := by
  refine MetFree.of_bodySF (plainFor_of_name owpn2) hisR ?_
  intro p e s m args below meth c s₁ Bd hml0 hP hK
  obtain ⟨rfl, hZ, hh⟩ := hP
  have hx := Bd.exec
  have hby := Bd.bytes
  have hml : c.maxLocals = 1 := hml0
  have hown : s.vm.findClass "java/util/List" = some m.cls := findClass_of_methodNamed Bd.named
  have hnm := (name_of_methodNamed Bd.named Bd.method).1
  have X0 : Stand p l e ({ frames := 5, cells := 1, slots := 2, locals := 62 } : Room) s m #[(.ref a)] below meth c s₁ [] 0 0 := Stand.of_body Bd
  have e0 : s₁.heap = h0 := by rw [← hh, Bd.state]; rfl
  have N0 := Fr.nil n0
  have WW := W
  obtain ⟨E_w_NONE, E_w_RFC3986, E_w_URL_ENCODINGS, E_w_URL_ENCODINGS_entries, E_w_PHP, E_w_JAVA, E_w_EMPTY, E_w_EMPTY_LIST, S_ValueEncoding_NONE, S_ValueEncoding_RFC3986, S_ValueEncoding_URL_ENCODINGS, F_w_URL_ENCODINGS_entries, F_w_URL_ENCODINGS_entries_elements, S_ValueEncoding_PHP, S_ValueEncoding_JAVA, F_w_JAVA_ordinal, F_w_PHP_ordinal, F_w_RFC3986_ordinal, S_ImmutableCollections_EMPTY, S_ImmutableCollections__assertionsDisabled, S_ImmutableCollections_EMPTY_LIST, V_w_URL_ENCODINGS_entries_elements, ne_w_PHP_w_NONE, ne_w_JAVA_w_NONE, ne_w_RFC3986_w_NONE, ne_w_PHP_w_JAVA, ne_w_PHP_w_RFC3986, ne_w_JAVA_w_RFC3986, -⟩ := WW
  have ef : entryFrame m #[(.ref a)] 1 = mkF m 0 #[.val (.ref a)] [] := by first | rfl | (simp [entryFrame, mkF, argsToLocals, Value.category]; done)
  have pre0 : ∀ t, Steps p.tables e below (s₁.setTop (mkF m 0 #[.val (.ref a)] [])) t → Steps p.tables e below (s₁.setTop (entryFrame m #[(.ref a)] 1)) t := fun t k => castTop ef k
  obtain ⟨T1, h1, X1, e1, E1, A1, D1, -, st1⟩ := newO X0 hx hZ hown (hw _ (List.mem_of_getElem? (i := 13) rfl)) (hw _ (List.mem_of_getElem? (i := 14) rfl)) (hw _ (List.mem_of_getElem? (i := 15) rfl)) e0 (g := (mkF m 0 #[.val (.ref a)] [])) rfl (hb hby d2_0) (by decide) (by decide)
  obtain ⟨b1, g1⟩ : ∃ z, z = h0.size := ⟨_, rfl⟩
  rw [← g1] at A1 D1 st1
  have gx1 : n0 ≤ b1 := Nat.le_trans (Nat.le_trans (Nat.le_of_eq O.1.symm) O.2.1) (Nat.le_of_eq g1.symm)
  have O1 := O.ext E1
  have Fn1_e0 : Fld Z h1 b1 "java/util/ImmutableCollections$List12" "e0" "Ljava/lang/Object;" .null := D1 (Or.inr (hw _ (List.mem_of_getElem? (i := 46) rfl))) (ty := (.object "java/lang/Object")) (by decide)
  have Fn1_e1 : Fld Z h1 b1 "java/util/ImmutableCollections$List12" "e1" "Ljava/lang/Object;" .null := D1 (Or.inr (hw _ (List.mem_of_getElem? (i := 50) rfl))) (ty := (.object "java/lang/Object")) (by decide)
  obtain ⟨_, _, ⟨T2, L2, k2, n2⟩, -, X2, ⟨Lc2, hQ2, l2, y2, z2⟩, st2⟩ := X1.specialBack hx (y := (⟨"java/util/ImmutableCollections$List12", "<init>", "(Ljava/lang/Object;)V"⟩ : MethodName)) rfl hown (mvT hZ (hw _ (List.mem_of_getElem? (i := 16) rfl))) (mvT hZ (hw _ (List.mem_of_getElem? (i := 17) rfl))) (mvT hZ (hw _ (List.mem_of_getElem? (i := 19) rfl))) (by decide) (backOf (W := 1) (rm3 l Z a0 hw [] n0 h1 O1 w_NONE w_RFC3986 w_URL_ENCODINGS w_URL_ENCODINGS_entries w_URL_ENCODINGS_entries_elements w_PHP w_JAVA w_EMPTY w_EMPTY_LIST k_w_URL_ENCODINGS_entries_elements W b1 a A1 Fn1_e0 Fn1_e1 gx1) hZ (hw _ (List.mem_of_getElem? (i := 19) rfl)) (hw _ (List.mem_of_getElem? (i := 15) rfl)) (by decide) (by decide)) (g := (mkF m 5 #[.val (.ref a)] [(.ref a), (.ref b1), (.ref b1)])) rfl (by rw [hml]; rfl) (Steps.refl _) (a := b1) (argsL := [(.ref a)]) (rest := [(.ref b1)]) (lenOf owpd2 rfl) rfl (by show 2 * 0 + _ ≤ _; exact Nat.le_of_eq rfl) (hb hby d2_5) (fun _ _ => ⟨rfl, e1, (by decide : 1 + 0 ≤ _), (by decide : 2 + 0 ≤ _)⟩)
  dsimp only [Pt.U, Pt.locs, Pt.cells, Pt.slots] at X2 l2 y2 z2 st2 hQ2
  subst l2 y2 z2
  obtain ⟨Nq2, hP2⟩ := hQ2
  have N2 := Fr.app N0 Nq2
  have ee2 : T2.heap = T2.heap := rfl
  obtain ⟨rfl, O2, Kc2, Ec2, F0c2, F1c2⟩ := hP2
  obtain ⟨fs, hr, hrun, hended, hW, hsame⟩ := X2.leave (v := some (.ref b1)) (fun h => by rw [Bd.returns] at h; cases h)
  refine ⟨_, _, pre0 _ ?_, hrun, hended, _, _, rfl, ?_, ⟨_, rfl⟩, hW, hsame.mono (by decide) (by decide)⟩
  · show Steps p.tables e below (s₁.setTop (mkF m 0 #[.val (.ref a)] [])) _
    refine st1 _ ?_
    show Steps p.tables e below (T1.setTop (mkF m 3 #[.val (.ref a)] [(.ref b1)])) _
    refine XS.dup X1.here hx rfl (hb hby d2_3) rfl rfl ?_
    show Steps p.tables e below (T1.setTop (mkF m 4 #[.val (.ref a)] [(.ref b1), (.ref b1)])) _
    refine XS.aloadN X1.here hx rfl (hb hby d2_4) rfl rfl ?_
    show Steps p.tables e below (T1.setTop (mkF m 5 #[.val (.ref a)] [(.ref a), (.ref b1), (.ref b1)])) _
    refine st2.trans ?_
    show Steps p.tables e below (T2.setTop (mkF m 8 #[.val (.ref a)] [(.ref b1)])) _
    exact retOut X2 hx Bd.returns rfl (Or.inr (Or.inr (Or.inr (Or.inr ⟨rfl, rfl, rfl⟩)))) (hb hby d2_8) hr
  · have eF : (T2.setFrames fs).heap = T2.heap := ee2
    exact ⟨N2, b1, rfl, by rw [eF]; exact ⟨O2, Ec2, F0c2, F1c2⟩⟩
set_option maxRecDepth 65536 in
set_option maxHeartbeats 40000000 in
theorem rm11 (l : Launch) (Z : State) (a0 : Array Value) (hw : ∀ d ∈ tables_1, d.before a0 Z = true) (ws : List Jvm.Cond) (n0 : Nat) (h0 : Heap) (O : Old Z n0 h0) (w_NONE : Addr) (w_RFC3986 : Addr) (w_URL_ENCODINGS : Addr) (w_URL_ENCODINGS_entries : Addr) (w_URL_ENCODINGS_entries_elements : Addr) (w_PHP : Addr) (w_JAVA : Addr) (w_EMPTY : Addr) (w_EMPTY_LIST : Addr) (k_w_URL_ENCODINGS_entries_elements : ClassId) (W : OwW Z w_NONE w_RFC3986 w_URL_ENCODINGS w_URL_ENCODINGS_entries w_URL_ENCODINGS_entries_elements w_PHP w_JAVA w_EMPTY w_EMPTY_LIST k_w_URL_ENCODINGS_entries_elements)  :
    OwCon l (⟨"com/example/quittance/quittance/Catalog", "entries", "()Ljava/util/List;"⟩ : MethodName) prog_1_method_2_code 1 (some (.object "java/util/List")) ws ({ frames := 0, cells := 0, slots := 0, locals := 0 } : Room) #[(.ref w_URL_ENCODINGS)] Z h0 (OwQ (some (.ref w_URL_ENCODINGS_entries)) h0 n0) := by
  refine MetFree.of_bodySF (plainFor_of_name owpn11) hisR ?_
  intro p e s m args below meth c s₁ Bd hml0 hP hK
  obtain ⟨rfl, hZ, hh⟩ := hP
  have hx := Bd.exec
  have hby := Bd.bytes
  have hml : c.maxLocals = 1 := hml0
  have hown : s.vm.findClass "com/example/quittance/quittance/Catalog" = some m.cls := findClass_of_methodNamed Bd.named
  have hnm := (name_of_methodNamed Bd.named Bd.method).1
  have X0 : Stand p l e ({ frames := 0, cells := 0, slots := 0, locals := 0 } : Room) s m #[(.ref w_URL_ENCODINGS)] below meth c s₁ [] 0 0 := Stand.of_body Bd
  have e0 : s₁.heap = h0 := by rw [← hh, Bd.state]; rfl
  have N0 := Fr.nil n0
  have WW := W
  obtain ⟨E_w_NONE, E_w_RFC3986, E_w_URL_ENCODINGS, E_w_URL_ENCODINGS_entries, E_w_PHP, E_w_JAVA, E_w_EMPTY, E_w_EMPTY_LIST, S_ValueEncoding_NONE, S_ValueEncoding_RFC3986, S_ValueEncoding_URL_ENCODINGS, F_w_URL_ENCODINGS_entries, F_w_URL_ENCODINGS_entries_elements, S_ValueEncoding_PHP, S_ValueEncoding_JAVA, F_w_JAVA_ordinal, F_w_PHP_ordinal, F_w_RFC3986_ordinal, S_ImmutableCollections_EMPTY, S_ImmutableCollections__assertionsDisabled, S_ImmutableCollections_EMPTY_LIST, V_w_URL_ENCODINGS_entries_elements, ne_w_PHP_w_NONE, ne_w_JAVA_w_NONE, ne_w_RFC3986_w_NONE, ne_w_PHP_w_JAVA, ne_w_PHP_w_RFC3986, ne_w_JAVA_w_RFC3986, -⟩ := WW
  have ef : entryFrame m #[(.ref w_URL_ENCODINGS)] 1 = mkF m 0 #[.val (.ref w_URL_ENCODINGS)] [] := by first | rfl | (simp [entryFrame, mkF, argsToLocals, Value.category]; done)
  have pre0 : ∀ t, Steps p.tables e below (s₁.setTop (mkF m 0 #[.val (.ref w_URL_ENCODINGS)] [])) t → Steps p.tables e below (s₁.setTop (entryFrame m #[(.ref w_URL_ENCODINGS)] 1)) t := fun t k => castTop ef k
  obtain ⟨T1, X1, e1, st1⟩ := getF X0 hx hZ hown (host := "") (Or.inl (hw _ (List.mem_of_getElem? (i := 79) rfl))) Via.refl e0 (F_w_URL_ENCODINGS_entries.ext O.2) (g := (mkF m 1 #[.val (.ref w_URL_ENCODINGS)] [(.ref w_URL_ENCODINGS)])) rfl rfl (hb hby d11_1)
  obtain ⟨fs, hr, hrun, hended, hW, hsame⟩ := X1.leave (v := some (.ref w_URL_ENCODINGS_entries)) (fun h => by rw [Bd.returns] at h; cases h)
  refine ⟨_, _, pre0 _ ?_, hrun, hended, _, _, rfl, ?_, ⟨_, rfl⟩, hW, hsame.mono (by decide) (by decide)⟩
  · show Steps p.tables e below (s₁.setTop (mkF m 0 #[.val (.ref w_URL_ENCODINGS)] [])) _
    refine XS.aloadN X0.here hx rfl (hb hby d11_0) rfl rfl ?_
    show Steps p.tables e below (s₁.setTop (mkF m 1 #[.val (.ref w_URL_ENCODINGS)] [(.ref w_URL_ENCODINGS)])) _
    refine st1 _ ?_
    show Steps p.tables e below (T1.setTop (mkF m 4 #[.val (.ref w_URL_ENCODINGS)] [(.ref w_URL_ENCODINGS_entries)])) _
    exact retOut X1 hx Bd.returns rfl (Or.inr (Or.inr (Or.inr (Or.inr ⟨rfl, rfl, rfl⟩)))) (hb hby d11_4) hr
  · have eF : (T1.setFrames fs).heap = h0 := e1
    exact ⟨rfl, N0, eF⟩
set_option maxRecDepth 65536 in
set_option maxHeartbeats 40000000 in
theorem rm1_n (l : Launch) (Z : State) (a0 : Array Value) (hw : ∀ d ∈ tables_1, d.before a0 Z = true) (ws : List Jvm.Cond) (n0 : Nat) (h0 : Heap) (O : Old Z n0 h0) (w_NONE : Addr) (w_RFC3986 : Addr) (w_URL_ENCODINGS : Addr) (w_URL_ENCODINGS_entries : Addr) (w_URL_ENCODINGS_entries_elements : Addr) (w_PHP : Addr) (w_JAVA : Addr) (w_EMPTY : Addr) (w_EMPTY_LIST : Addr) (k_w_URL_ENCODINGS_entries_elements : ClassId) (W : OwW Z w_NONE w_RFC3986 w_URL_ENCODINGS w_URL_ENCODINGS_entries w_URL_ENCODINGS_entries_elements w_PHP w_JAVA w_EMPTY w_EMPTY_LIST k_w_URL_ENCODINGS_entries_elements)  :
    OwCon l (⟨"com/example/quittance/quittance/signing/ValueEncoding", "checkedUnder", "()Ljava/util/List;"⟩ : MethodName) prog_42_method_7_code 1 (some (.object "java/util/List")) ws ({ frames := 6, cells := 1, slots := 2, locals := 74 } : Room) #[(.ref w_NONE)] Z h0 (OwP (fun v h => ∃ b : Addr, v = some (.ref b) ∧ Old Z n0 h ∧ Exa Z h b "java/util/ImmutableCollections$List12" ∧ Fld Z h b "java/util/ImmutableCollections$List12" "e0" "Ljava/lang/Object;" (.ref w_NONE) ∧ Fld Z h b "java/util/ImmutableCollections$List12" "e1" "Ljava/lang/Object;" (.ref w_EMPTY)) n0) := by
  refine MetFree.of_bodySF (plainFor_of_name owpn1) hisR ?_
  intro p e s m args below meth c s₁ Bd hml0 hP hK
  obtain ⟨rfl, hZ, hh⟩ := hP
  have hx := Bd.exec
  have hby := Bd.bytes
  have hml : c.maxLocals = 1 := hml0
  have hown : s.vm.findClass "com/example/quittance/quittance/signing/ValueEncoding" = some m.cls := findClass_of_methodNamed Bd.named
  have hnm := (name_of_methodNamed Bd.named Bd.method).1
  have X0 : Stand p l e ({ frames := 6, cells := 1, slots := 2, locals := 74 } : Room) s m #[(.ref w_NONE)] below meth c s₁ [] 0 0 := Stand.of_body Bd
  have e0 : s₁.heap = h0 := by rw [← hh, Bd.state]; rfl
  have N0 := Fr.nil n0
  have WW := W
  obtain ⟨E_w_NONE, E_w_RFC3986, E_w_URL_ENCODINGS, E_w_URL_ENCODINGS_entries, E_w_PHP, E_w_JAVA, E_w_EMPTY, E_w_EMPTY_LIST, S_ValueEncoding_NONE, S_ValueEncoding_RFC3986, S_ValueEncoding_URL_ENCODINGS, F_w_URL_ENCODINGS_entries, F_w_URL_ENCODINGS_entries_elements, S_ValueEncoding_PHP, S_ValueEncoding_JAVA, F_w_JAVA_ordinal, F_w_PHP_ordinal, F_w_RFC3986_ordinal, S_ImmutableCollections_EMPTY, S_ImmutableCollections__assertionsDisabled, S_ImmutableCollections_EMPTY_LIST, V_w_URL_ENCODINGS_entries_elements, ne_w_PHP_w_NONE, ne_w_JAVA_w_NONE, ne_w_RFC3986_w_NONE, ne_w_PHP_w_JAVA, ne_w_PHP_w_RFC3986, ne_w_JAVA_w_RFC3986, -⟩ := WW
  have ef : entryFrame m #[(.ref w_NONE)] 1 = mkF m 0 #[.val (.ref w_NONE)] [] := by first | rfl | (simp [entryFrame, mkF, argsToLocals, Value.category]; done)
  have pre0 : ∀ t, Steps p.tables e below (s₁.setTop (mkF m 0 #[.val (.ref w_NONE)] [])) t → Steps p.tables e below (s₁.setTop (entryFrame m #[(.ref w_NONE)] 1)) t := fun t k => castTop ef k
  obtain ⟨T1, X1, e1, st1⟩ := getS2 X0 hx hZ hown (host := "") (Or.inl (hw _ (List.mem_of_getElem? (i := 8) rfl))) Via.refl e0 (S_ValueEncoding_NONE.ext O.2) (g := (mkF m 1 #[.val (.ref w_NONE)] [(.ref w_NONE)])) rfl (hb hby d1_1)
  obtain ⟨T2, X2, e2, st2⟩ := getS2 X1 hx hZ hown (host := "") (Or.inl (hw _ (List.mem_of_getElem? (i := 8) rfl))) Via.refl e1 (S_ValueEncoding_NONE.ext O.2) (g := (mkF m 7 #[.val (.ref w_NONE)] [])) rfl (hb hby d1_7)
  obtain ⟨_, _, ⟨T3, L3, k3, n3⟩, -, X3, ⟨Lc3, hQ3, l3, y3, z3⟩, st3⟩ := Jvm.LawKit.callS X2 hx (y := (⟨"java/util/List", "of", "(Ljava/lang/Object;)Ljava/util/List;"⟩ : MethodName)) hown (mvT hZ (hw _ (List.mem_of_getElem? (i := 9) rfl))) (mvT hZ (hw _ (List.mem_of_getElem? (i := 10) rfl))) (mvT hZ (hw _ (List.mem_of_getElem? (i := 11) rfl))) (mvT hZ (hw _ (List.mem_of_getElem? (i := 12) rfl))) (by decide) (backOf (W := 0) (rm2 l Z a0 hw [] n0 h0 O w_NONE w_RFC3986 w_URL_ENCODINGS w_URL_ENCODINGS_entries w_URL_ENCODINGS_entries_elements w_PHP w_JAVA w_EMPTY w_EMPTY_LIST k_w_URL_ENCODINGS_entries_elements W w_NONE) hZ (hw _ (List.mem_of_getElem? (i := 12) rfl)) (hw _ (List.mem_of_getElem? (i := 11) rfl)) (by decide) (by decide)) (g := (mkF m 10 #[.val (.ref w_NONE)] [(.ref w_NONE)])) rfl (by rw [hml]; rfl) (argsL := [(.ref w_NONE)]) (rest := []) (lenOf owpd3 rfl) rfl (by show 2 * 0 + _ ≤ _; exact Nat.le_of_eq rfl) (hb hby d1_10) (fun _ _ => ⟨rfl, e2, (by decide : 0 + 1 ≤ _), (by decide : 0 + 2 ≤ _)⟩)
  dsimp only [Pt.U, Pt.locs, Pt.cells, Pt.slots] at X3 l3 y3 z3 st3 hQ3
  subst l3 y3 z3
  obtain ⟨Nq3, hP3⟩ := hQ3
  have N3 := Fr.app N0 Nq3
  have ee3 : T3.heap = T3.heap := rfl
  obtain ⟨b3, rfl, O3, Ec3, F0c3, F1c3⟩ := hP3
  obtain ⟨fs, hr, hrun, hended, hW, hsame⟩ := X3.leave (v := some (.ref b3)) (fun h => by rw [Bd.returns] at h; cases h)
  refine ⟨_, _, pre0 _ ?_, hrun, hended, _, _, rfl, ?_, ⟨_, rfl⟩, hW, hsame.mono (by decide) (by decide)⟩
  · show Steps p.tables e below (s₁.setTop (mkF m 0 #[.val (.ref w_NONE)] [])) _
    refine XS.aloadN X0.here hx rfl (hb hby d1_0) rfl rfl ?_
    show Steps p.tables e below (s₁.setTop (mkF m 1 #[.val (.ref w_NONE)] [(.ref w_NONE)])) _
    refine st1 _ ?_
    show Steps p.tables e below (T1.setTop (mkF m 4 #[.val (.ref w_NONE)] [(.ref w_NONE), (.ref w_NONE)])) _
    refine Jvm.RoadKit.acmp (g := (mkF m 4 #[.val (.ref w_NONE)] [(.ref w_NONE), (.ref w_NONE)])) X1 hx rfl rfl rfl (pc0 := 4) (pc' := 7) (same := true) rfl (hb hby d1_4) rfl (decide_eq_true rfl) (by decide) (by decide) ?_
    show Steps p.tables e below (T1.setTop (mkF m 7 #[.val (.ref w_NONE)] [])) _
    refine st2 _ ?_
    show Steps p.tables e below (T2.setTop (mkF m 10 #[.val (.ref w_NONE)] [(.ref w_NONE)])) _
    refine st3 _ ?_
    show Steps p.tables e below (T3.setTop (mkF m 13 #[.val (.ref w_NONE)] [(.ref b3)])) _
    refine XS.goto X3.here hx rfl (pc0 := 13) (pc' := 22) rfl (hb hby d1_13) (by decide) (by decide) ?_
    show Steps p.tables e below (T3.setTop (mkF m 22 #[.val (.ref w_NONE)] [(.ref b3)])) _
    exact retOut X3 hx Bd.returns rfl (Or.inr (Or.inr (Or.inr (Or.inr ⟨rfl, rfl, rfl⟩)))) (hb hby d1_22) hr
  · have eF : (T3.setFrames fs).heap = T3.heap := ee3
    exact ⟨N3, b3, rfl, by rw [eF]; exact ⟨O3, Ec3, F0c3, F1c3⟩⟩
set_option maxRecDepth 65536 in
set_option maxHeartbeats 40000000 in
theorem rm1_o (l : Launch) (Z : State) (a0 : Array Value) (hw : ∀ d ∈ tables_1, d.before a0 Z = true) (ws : List Jvm.Cond) (n0 : Nat) (h0 : Heap) (O : Old Z n0 h0) (w_NONE : Addr) (w_RFC3986 : Addr) (w_URL_ENCODINGS : Addr) (w_URL_ENCODINGS_entries : Addr) (w_URL_ENCODINGS_entries_elements : Addr) (w_PHP : Addr) (w_JAVA : Addr) (w_EMPTY : Addr) (w_EMPTY_LIST : Addr) (k_w_URL_ENCODINGS_entries_elements : ClassId) (W : OwW Z w_NONE w_RFC3986 w_URL_ENCODINGS w_URL_ENCODINGS_entries w_URL_ENCODINGS_entries_elements w_PHP w_JAVA w_EMPTY w_EMPTY_LIST k_w_URL_ENCODINGS_entries_elements) (a : Addr) (hne : a ≠ w_NONE) :
    OwCon l (⟨"com/example/quittance/quittance/signing/ValueEncoding", "checkedUnder", "()Ljava/util/List;"⟩ : MethodName) prog_42_method_7_code 1 (some (.object "java/util/List")) ws ({ frames := 1, cells := 0, slots := 0, locals := 12 } : Room) #[(.ref a)] Z h0 (OwQ (some (.ref w_URL_ENCODINGS_entries)) h0 n0) := by
  refine MetFree.of_bodySF (plainFor_of_name owpn1) hisR ?_
  intro p e s m args below meth c s₁ Bd hml0 hP hK
  obtain ⟨rfl, hZ, hh⟩ := hP
  have hx := Bd.exec
  have hby := Bd.bytes
  have hml : c.maxLocals = 1 := hml0
  have hown : s.vm.findClass "com/example/quittance/quittance/signing/ValueEncoding" = some m.cls := findClass_of_methodNamed Bd.named
  have hnm := (name_of_methodNamed Bd.named Bd.method).1
  have X0 : Stand p l e ({ frames := 1, cells := 0, slots := 0, locals := 12 } : Room) s m #[(.ref a)] below meth c s₁ [] 0 0 := Stand.of_body Bd
  have e0 : s₁.heap = h0 := by rw [← hh, Bd.state]; rfl
  have N0 := Fr.nil n0
  have WW := W
  obtain ⟨E_w_NONE, E_w_RFC3986, E_w_URL_ENCODINGS, E_w_URL_ENCODINGS_entries, E_w_PHP, E_w_JAVA, E_w_EMPTY, E_w_EMPTY_LIST, S_ValueEncoding_NONE, S_ValueEncoding_RFC3986, S_ValueEncoding_URL_ENCODINGS, F_w_URL_ENCODINGS_entries, F_w_URL_ENCODINGS_entries_elements, S_ValueEncoding_PHP, S_ValueEncoding_JAVA, F_w_JAVA_ordinal, F_w_PHP_ordinal, F_w_RFC3986_ordinal, S_ImmutableCollections_EMPTY, S_ImmutableCollections__assertionsDisabled, S_ImmutableCollections_EMPTY_LIST, V_w_URL_ENCODINGS_entries_elements, ne_w_PHP_w_NONE, ne_w_JAVA_w_NONE, ne_w_RFC3986_w_NONE, ne_w_PHP_w_JAVA, ne_w_PHP_w_RFC3986, ne_w_JAVA_w_RFC3986, -⟩ := WW
  have ef : entryFrame m #[(.ref a)] 1 = mkF m 0 #[.val (.ref a)] [] := by first | rfl | (simp [entryFrame, mkF, argsToLocals, Value.category]; done)
  have pre0 : ∀ t, Steps p.tables e below (s₁.setTop (mkF m 0 #[.val (.ref a)] [])) t → Steps p.tables e below (s₁.setTop (entryFrame m #[(.ref a)] 1)) t := fun t k => castTop ef k
  obtain ⟨T1, X1, e1, st1⟩ := getS2 X0 hx hZ hown (host := "") (Or.inl (hw _ (List.mem_of_getElem? (i := 8) rfl))) Via.refl e0 (S_ValueEncoding_NONE.ext O.2) (g := (mkF m 1 #[.val (.ref a)] [(.ref a)])) rfl (hb hby d1_1)
  obtain ⟨T2, X2, e2, st2⟩ := getS2 X1 hx hZ hown (host := "") (Or.inl (hw _ (List.mem_of_getElem? (i := 71) rfl))) Via.refl e1 (S_ValueEncoding_URL_ENCODINGS.ext O.2) (g := (mkF m 16 #[.val (.ref a)] [])) rfl (hb hby d1_16)
  obtain ⟨cq3, kq3, q3a, q3b, q3c⟩ := isOf hZ e2 (E_w_URL_ENCODINGS.ext O.2)
  obtain ⟨_, _, ⟨T3, L3, k3, n3⟩, -, X3, ⟨Lc3, hQ3, l3, y3, z3⟩, st3⟩ := X2.virtualBack hx (y := (⟨"com/example/quittance/quittance/Catalog", "entries", "()Ljava/util/List;"⟩ : MethodName)) (z := (⟨"com/example/quittance/quittance/Catalog", "entries", "()Ljava/util/List;"⟩ : MethodName)) hown (mvT hZ (hw _ (List.mem_of_getElem? (i := 73) rfl))) (mvT hZ (hw _ (List.mem_of_getElem? (i := 74) rfl))) (notFace_of_selects (args := #[]) (mvT hZ (hw _ (List.mem_of_getElem? (i := 76) rfl)))) (mvT hZ (hw _ (List.mem_of_getElem? (i := 76) rfl))) (mvT hZ (hw _ (List.mem_of_getElem? (i := 75) rfl))) (by decide) (backOf (W := 0) (rm11 l Z a0 hw [] n0 h0 O w_NONE w_RFC3986 w_URL_ENCODINGS w_URL_ENCODINGS_entries w_URL_ENCODINGS_entries_elements w_PHP w_JAVA w_EMPTY w_EMPTY_LIST k_w_URL_ENCODINGS_entries_elements W  ) hZ (hw _ (List.mem_of_getElem? (i := 78) rfl)) (hw _ (List.mem_of_getElem? (i := 77) rfl)) (by decide) (by decide)) q3a q3c (g := (mkF m 19 #[.val (.ref a)] [(.ref w_URL_ENCODINGS)])) rfl (by rw [hml]; rfl) (Steps.refl _) (argsL := []) (rest := []) (lenOf owpd4 rfl) rfl (by show 2 * 0 + _ ≤ _; exact Nat.le_of_eq rfl) (hb hby d1_19) (fun _ _ => ⟨rfl, e2, (by decide : 0 + 0 ≤ _), (by decide : 0 + 0 ≤ _)⟩)
  dsimp only [Pt.U, Pt.locs, Pt.cells, Pt.slots] at X3 l3 y3 z3 st3 hQ3
  subst l3 y3 z3
  obtain ⟨rfl, Nq3, e3⟩ := hQ3
  have N3 := Fr.app N0 Nq3
  obtain ⟨fs, hr, hrun, hended, hW, hsame⟩ := X3.leave (v := some (.ref w_URL_ENCODINGS_entries)) (fun h => by rw [Bd.returns] at h; cases h)
  refine ⟨_, _, pre0 _ ?_, hrun, hended, _, _, rfl, ?_, ⟨_, rfl⟩, hW, hsame.mono (by decide) (by decide)⟩
  · show Steps p.tables e below (s₁.setTop (mkF m 0 #[.val (.ref a)] [])) _
    refine XS.aloadN X0.here hx rfl (hb hby d1_0) rfl rfl ?_
    show Steps p.tables e below (s₁.setTop (mkF m 1 #[.val (.ref a)] [(.ref a)])) _
    refine st1 _ ?_
    show Steps p.tables e below (T1.setTop (mkF m 4 #[.val (.ref a)] [(.ref w_NONE), (.ref a)])) _
    refine Jvm.RoadKit.acmp (g := (mkF m 4 #[.val (.ref a)] [(.ref w_NONE), (.ref a)])) X1 hx rfl rfl rfl (pc0 := 4) (pc' := 16) (same := false) rfl (hb hby d1_4) rfl (decide_eq_false fun q => hne (Value.ref.inj q)) (by decide) (by decide) ?_
    show Steps p.tables e below (T1.setTop (mkF m 16 #[.val (.ref a)] [])) _
    refine st2 _ ?_
    show Steps p.tables e below (T2.setTop (mkF m 19 #[.val (.ref a)] [(.ref w_URL_ENCODINGS)])) _
    refine st3.trans ?_
    show Steps p.tables e below (T3.setTop (mkF m 22 #[.val (.ref a)] [(.ref w_URL_ENCODINGS_entries)])) _
    exact retOut X3 hx Bd.returns rfl (Or.inr (Or.inr (Or.inr (Or.inr ⟨rfl, rfl, rfl⟩)))) (hb hby d1_22) hr
  · have eF : (T3.setFrames fs).heap = h0 := e3
    exact ⟨rfl, N3, eF⟩
set_option maxRecDepth 65536 in
set_option maxHeartbeats 40000000 in
theorem rm9 (l : Launch) (Z : State) (a0 : Array Value) (hw : ∀ d ∈ tables_1, d.before a0 Z = true) (ws : List Jvm.Cond) (n0 : Nat) (h0 : Heap) (O : Old Z n0 h0) (w_NONE : Addr) (w_RFC3986 : Addr) (w_URL_ENCODINGS : Addr) (w_URL_ENCODINGS_entries : Addr) (w_URL_ENCODINGS_entries_elements : Addr) (w_PHP : Addr) (w_JAVA : Addr) (w_EMPTY : Addr) (w_EMPTY_LIST : Addr) (k_w_URL_ENCODINGS_entries_elements : ClassId) (W : OwW Z w_NONE w_RFC3986 w_URL_ENCODINGS w_URL_ENCODINGS_entries w_URL_ENCODINGS_entries_elements w_PHP w_JAVA w_EMPTY w_EMPTY_LIST k_w_URL_ENCODINGS_entries_elements) (a : Addr) (Fa : Fld Z h0 a "java/util/ImmutableCollections$List12" "e1" "Ljava/lang/Object;" (.ref w_EMPTY)) :
    OwCon l (⟨"java/util/ImmutableCollections$List12", "size", "()I"⟩ : MethodName) jdk_44_method_3_code 1 (some .int) ws ({ frames := 0, cells := 0, slots := 0, locals := 0 } : Room) #[(.ref a)] Z h0 (OwQ (some (.int (1 : Int32))) h0 n0) := by
  refine MetFree.of_bodySF (plainFor_of_name owpn9) hisR ?_
  intro p e s m args below meth c s₁ Bd hml0 hP hK
  obtain ⟨rfl, hZ, hh⟩ := hP
  have hx := Bd.exec
  have hby := Bd.bytes
  have hml : c.maxLocals = 1 := hml0
  have hown : s.vm.findClass "java/util/ImmutableCollections$List12" = some m.cls := findClass_of_methodNamed Bd.named
  have hnm := (name_of_methodNamed Bd.named Bd.method).1
  have X0 : Stand p l e ({ frames := 0, cells := 0, slots := 0, locals := 0 } : Room) s m #[(.ref a)] below meth c s₁ [] 0 0 := Stand.of_body Bd
  have e0 : s₁.heap = h0 := by rw [← hh, Bd.state]; rfl
  have N0 := Fr.nil n0
  have WW := W
  obtain ⟨E_w_NONE, E_w_RFC3986, E_w_URL_ENCODINGS, E_w_URL_ENCODINGS_entries, E_w_PHP, E_w_JAVA, E_w_EMPTY, E_w_EMPTY_LIST, S_ValueEncoding_NONE, S_ValueEncoding_RFC3986, S_ValueEncoding_URL_ENCODINGS, F_w_URL_ENCODINGS_entries, F_w_URL_ENCODINGS_entries_elements, S_ValueEncoding_PHP, S_ValueEncoding_JAVA, F_w_JAVA_ordinal, F_w_PHP_ordinal, F_w_RFC3986_ordinal, S_ImmutableCollections_EMPTY, S_ImmutableCollections__assertionsDisabled, S_ImmutableCollections_EMPTY_LIST, V_w_URL_ENCODINGS_entries_elements, ne_w_PHP_w_NONE, ne_w_JAVA_w_NONE, ne_w_RFC3986_w_NONE, ne_w_PHP_w_JAVA, ne_w_PHP_w_RFC3986, ne_w_JAVA_w_RFC3986, -⟩ := WW
  have ef : entryFrame m #[(.ref a)] 1 = mkF m 0 #[.val (.ref a)] [] := by first | rfl | (simp [entryFrame, mkF, argsToLocals, Value.category]; done)
  have pre0 : ∀ t, Steps p.tables e below (s₁.setTop (mkF m 0 #[.val (.ref a)] [])) t → Steps p.tables e below (s₁.setTop (entryFrame m #[(.ref a)] 1)) t := fun t k => castTop ef k
  obtain ⟨T1, X1, e1, st1⟩ := getF X0 hx hZ hown (host := "") (Or.inl (hw _ (List.mem_of_getElem? (i := 49) rfl))) Via.refl e0 Fa (g := (mkF m 1 #[.val (.ref a)] [(.ref a)])) rfl rfl (hb hby d9_1)
  obtain ⟨T2, X2, e2, st2⟩ := getS2 X1 hx hZ hown (Or.inr (hw _ (List.mem_of_getElem? (i := 47) rfl))) Via.refl e1 (S_ImmutableCollections_EMPTY.ext O.2) (g := (mkF m 4 #[.val (.ref a)] [(.ref w_EMPTY)])) rfl (hb hby d9_4)
  obtain ⟨fs, hr, hrun, hended, hW, hsame⟩ := X2.leave (v := some (.int (1 : Int32))) (fun h => by rw [Bd.returns] at h; cases h)
  refine ⟨_, _, pre0 _ ?_, hrun, hended, _, _, rfl, ?_, ⟨_, rfl⟩, hW, hsame.mono (by decide) (by decide)⟩
  · show Steps p.tables e below (s₁.setTop (mkF m 0 #[.val (.ref a)] [])) _
    refine XS.aloadN X0.here hx rfl (hb hby d9_0) rfl rfl ?_
    show Steps p.tables e below (s₁.setTop (mkF m 1 #[.val (.ref a)] [(.ref a)])) _
    refine st1 _ ?_
    show Steps p.tables e below (T1.setTop (mkF m 4 #[.val (.ref a)] [(.ref w_EMPTY)])) _
    refine st2 _ ?_
    show Steps p.tables e below (T2.setTop (mkF m 7 #[.val (.ref a)] [(.ref w_EMPTY), (.ref w_EMPTY)])) _
    refine Jvm.RoadKit.acmp (g := (mkF m 7 #[.val (.ref a)] [(.ref w_EMPTY), (.ref w_EMPTY)])) X2 hx rfl rfl rfl (pc0 := 7) (pc' := 14) (same := true) rfl (hb hby d9_7) rfl (decide_eq_true rfl) (by decide) (by decide) ?_
    show Steps p.tables e below (T2.setTop (mkF m 14 #[.val (.ref a)] [])) _
    refine XS.iconst X2.here hx rfl (hb hby d9_14) ?_
    show Steps p.tables e below (T2.setTop (mkF m 15 #[.val (.ref a)] [(.int (1 : Int32))])) _
    exact retI X2 hx Bd.returns (hb hby d9_15) hr
  · have eF : (T2.setFrames fs).heap = h0 := e2
    exact ⟨rfl, N0, eF⟩
set_option maxRecDepth 65536 in
set_option maxHeartbeats 40000000 in
theorem rm10 (l : Launch) (Z : State) (a0 : Array Value) (hw : ∀ d ∈ tables_1, d.before a0 Z = true) (ws : List Jvm.Cond) (n0 : Nat) (h0 : Heap) (O : Old Z n0 h0) (w_NONE : Addr) (w_RFC3986 : Addr) (w_URL_ENCODINGS : Addr) (w_URL_ENCODINGS_entries : Addr) (w_URL_ENCODINGS_entries_elements : Addr) (w_PHP : Addr) (w_JAVA : Addr) (w_EMPTY : Addr) (w_EMPTY_LIST : Addr) (k_w_URL_ENCODINGS_entries_elements : ClassId) (W : OwW Z w_NONE w_RFC3986 w_URL_ENCODINGS w_URL_ENCODINGS_entries w_URL_ENCODINGS_entries_elements w_PHP w_JAVA w_EMPTY w_EMPTY_LIST k_w_URL_ENCODINGS_entries_elements) (a x : Addr) (Fa : Fld Z h0 a "java/util/ImmutableCollections$List12" "e0" "Ljava/lang/Object;" (.ref x)) :
    OwCon l (⟨"java/util/ImmutableCollections$List12", "get", "(I)Ljava/lang/Object;"⟩ : MethodName) jdk_44_method_5_code 2 (some (.object "java/lang/Object")) ws ({ frames := 0, cells := 0, slots := 0, locals := 0 } : Room) #[(.ref a), (.int (0 : Int32))] Z h0 (OwQ (some (.ref x)) h0 n0) := by
  refine MetFree.of_bodySF (plainFor_of_name owpn10) hisR ?_
  intro p e s m args below meth c s₁ Bd hml0 hP hK
  obtain ⟨rfl, hZ, hh⟩ := hP
  have hx := Bd.exec
  have hby := Bd.bytes
  have hml : c.maxLocals = 2 := hml0
  have hown : s.vm.findClass "java/util/ImmutableCollections$List12" = some m.cls := findClass_of_methodNamed Bd.named
  have hnm := (name_of_methodNamed Bd.named Bd.method).1
  have X0 : Stand p l e ({ frames := 0, cells := 0, slots := 0, locals := 0 } : Room) s m #[(.ref a), (.int (0 : Int32))] below meth c s₁ [] 0 0 := Stand.of_body Bd
  have e0 : s₁.heap = h0 := by rw [← hh, Bd.state]; rfl
  have N0 := Fr.nil n0
  have WW := W
  obtain ⟨E_w_NONE, E_w_RFC3986, E_w_URL_ENCODINGS, E_w_URL_ENCODINGS_entries, E_w_PHP, E_w_JAVA, E_w_EMPTY, E_w_EMPTY_LIST, S_ValueEncoding_NONE, S_ValueEncoding_RFC3986, S_ValueEncoding_URL_ENCODINGS, F_w_URL_ENCODINGS_entries, F_w_URL_ENCODINGS_entries_elements, S_ValueEncoding_PHP, S_ValueEncoding_JAVA, F_w_JAVA_ordinal, F_w_PHP_ordinal, F_w_RFC3986_ordinal, S_ImmutableCollections_EMPTY, S_ImmutableCollections__assertionsDisabled, S_ImmutableCollections_EMPTY_LIST, V_w_URL_ENCODINGS_entries_elements, ne_w_PHP_w_NONE, ne_w_JAVA_w_NONE, ne_w_RFC3986_w_NONE, ne_w_PHP_w_JAVA, ne_w_PHP_w_RFC3986, ne_w_JAVA_w_RFC3986, -⟩ := WW
  have ef : entryFrame m #[(.ref a), (.int (0 : Int32))] 2 = mkF m 0 #[.val (.ref a), .val (.int (0 : Int32))] [] := by first | rfl | (simp [entryFrame, mkF, argsToLocals, Value.category]; done)
  have pre0 : ∀ t, Steps p.tables e below (s₁.setTop (mkF m 0 #[.val (.ref a), .val (.int (0 : Int32))] [])) t → Steps p.tables e below (s₁.setTop (entryFrame m #[(.ref a), (.int (0 : Int32))] 2)) t := fun t k => castTop ef k
  obtain ⟨T1, X1, e1, st1⟩ := getF X0 hx hZ hown (host := "") (Or.inl (hw _ (List.mem_of_getElem? (i := 45) rfl))) Via.refl e0 Fa (g := (mkF m 5 #[.val (.ref a), .val (.int (0 : Int32))] [(.ref a)])) rfl rfl (hb hby d10_5)
  obtain ⟨fs, hr, hrun, hended, hW, hsame⟩ := X1.leave (v := some (.ref x)) (fun h => by rw [Bd.returns] at h; cases h)
  refine ⟨_, _, pre0 _ ?_, hrun, hended, _, _, rfl, ?_, ⟨_, rfl⟩, hW, hsame.mono (by decide) (by decide)⟩
  · show Steps p.tables e below (s₁.setTop (mkF m 0 #[.val (.ref a), .val (.int (0 : Int32))] [])) _
    refine XS.iloadN X0.here hx rfl (hb hby d10_0) rfl ?_
    show Steps p.tables e below (s₁.setTop (mkF m 1 #[.val (.ref a), .val (.int (0 : Int32))] [(.int (0 : Int32))])) _
    refine XS.ifNo X0.here hx rfl (hb hby d10_1) rfl ((if0 _ _).trans (teq (by decide : (0 : Int32) = (0 : Int32))).2) ?_
    show Steps p.tables e below (s₁.setTop (mkF m 4 #[.val (.ref a), .val (.int (0 : Int32))] [])) _
    refine XS.aloadN X0.here hx rfl (hb hby d10_4) rfl rfl ?_
    show Steps p.tables e below (s₁.setTop (mkF m 5 #[.val (.ref a), .val (.int (0 : Int32))] [(.ref a)])) _
    refine st1 _ ?_
    show Steps p.tables e below (T1.setTop (mkF m 8 #[.val (.ref a), .val (.int (0 : Int32))] [(.ref x)])) _
    exact retOut X1 hx Bd.returns rfl (Or.inr (Or.inr (Or.inr (Or.inr ⟨rfl, rfl, rfl⟩)))) (hb hby d10_8) hr
  · have eF : (T1.setFrames fs).heap = h0 := e1
    exact ⟨rfl, N0, eF⟩
set_option maxRecDepth 65536 in
set_option maxHeartbeats 40000000 in
theorem rm12 (l : Launch) (Z : State) (a0 : Array Value) (hw : ∀ d ∈ tables_1, d.before a0 Z = true) (ws : List Jvm.Cond) (n0 : Nat) (h0 : Heap) (O : Old Z n0 h0) (w_NONE : Addr) (w_RFC3986 : Addr) (w_URL_ENCODINGS : Addr) (w_URL_ENCODINGS_entries : Addr) (w_URL_ENCODINGS_entries_elements : Addr) (w_PHP : Addr) (w_JAVA : Addr) (w_EMPTY : Addr) (w_EMPTY_LIST : Addr) (k_w_URL_ENCODINGS_entries_elements : ClassId) (W : OwW Z w_NONE w_RFC3986 w_URL_ENCODINGS w_URL_ENCODINGS_entries w_URL_ENCODINGS_entries_elements w_PHP w_JAVA w_EMPTY w_EMPTY_LIST k_w_URL_ENCODINGS_entries_elements)  :
    OwCon l (⟨"java/util/ImmutableCollections$ListN", "size", "()I"⟩ : MethodName) jdk_45_method_3_code 1 (some .int) ws ({ frames := 0, cells := 0, slots := 0, locals := 0 } : Room) #[(.ref w_URL_ENCODINGS_entries)] Z h0 (OwQ (some (.int (3 : Int32))) h0 n0) := by
  refine MetFree.of_bodySF (plainFor_of_name owpn12) hisR ?_
  intro p e s m args below meth c s₁ Bd hml0 hP hK
  obtain ⟨rfl, hZ, hh⟩ := hP
  have hx := Bd.exec
  have hby := Bd.bytes
  have hml : c.maxLocals = 1 := hml0
  have hown : s.vm.findClass "java/util/ImmutableCollections$ListN" = some m.cls := findClass_of_methodNamed Bd.named
  have hnm := (name_of_methodNamed Bd.named Bd.method).1
  have X0 : Stand p l e ({ frames := 0, cells := 0, slots := 0, locals := 0 } : Room) s m #[(.ref w_URL_ENCODINGS_entries)] below meth c s₁ [] 0 0 := Stand.of_body Bd
  have e0 : s₁.heap = h0 := by rw [← hh, Bd.state]; rfl
  have N0 := Fr.nil n0
  have WW := W
  obtain ⟨E_w_NONE, E_w_RFC3986, E_w_URL_ENCODINGS, E_w_URL_ENCODINGS_entries, E_w_PHP, E_w_JAVA, E_w_EMPTY, E_w_EMPTY_LIST, S_ValueEncoding_NONE, S_ValueEncoding_RFC3986, S_ValueEncoding_URL_ENCODINGS, F_w_URL_ENCODINGS_entries, F_w_URL_ENCODINGS_entries_elements, S_ValueEncoding_PHP, S_ValueEncoding_JAVA, F_w_JAVA_ordinal, F_w_PHP_ordinal, F_w_RFC3986_ordinal, S_ImmutableCollections_EMPTY, S_ImmutableCollections__assertionsDisabled, S_ImmutableCollections_EMPTY_LIST, V_w_URL_ENCODINGS_entries_elements, ne_w_PHP_w_NONE, ne_w_JAVA_w_NONE, ne_w_RFC3986_w_NONE, ne_w_PHP_w_JAVA, ne_w_PHP_w_RFC3986, ne_w_JAVA_w_RFC3986, -⟩ := WW
  have ef : entryFrame m #[(.ref w_URL_ENCODINGS_entries)] 1 = mkF m 0 #[.val (.ref w_URL_ENCODINGS_entries)] [] := by first | rfl | (simp [entryFrame, mkF, argsToLocals, Value.category]; done)
  have pre0 : ∀ t, Steps p.tables e below (s₁.setTop (mkF m 0 #[.val (.ref w_URL_ENCODINGS_entries)] [])) t → Steps p.tables e below (s₁.setTop (entryFrame m #[(.ref w_URL_ENCODINGS_entries)] 1)) t := fun t k => castTop ef k
  obtain ⟨T1, X1, e1, st1⟩ := getF X0 hx hZ hown (host := "") (Or.inl (hw _ (List.mem_of_getElem? (i := 88) rfl))) Via.refl e0 (F_w_URL_ENCODINGS_entries_elements.ext O.2) (g := (mkF m 1 #[.val (.ref w_URL_ENCODINGS_entries)] [(.ref w_URL_ENCODINGS_entries)])) rfl rfl (hb hby d12_1)
  obtain ⟨cl2, Ar2, q2, Sz2, Nn2, Hs2, -⟩ := id (V_w_URL_ENCODINGS_entries_elements.ext O.2)
  obtain ⟨fs, hr, hrun, hended, hW, hsame⟩ := X1.leave (v := some (.int (3 : Int32))) (fun h => by rw [Bd.returns] at h; cases h)
  refine ⟨_, _, pre0 _ ?_, hrun, hended, _, _, rfl, ?_, ⟨_, rfl⟩, hW, hsame.mono (by decide) (by decide)⟩
  · show Steps p.tables e below (s₁.setTop (mkF m 0 #[.val (.ref w_URL_ENCODINGS_entries)] [])) _
    refine XS.aloadN X0.here hx rfl (hb hby d12_0) rfl rfl ?_
    show Steps p.tables e below (s₁.setTop (mkF m 1 #[.val (.ref w_URL_ENCODINGS_entries)] [(.ref w_URL_ENCODINGS_entries)])) _
    refine st1 _ ?_
    show Steps p.tables e below (T1.setTop (mkF m 4 #[.val (.ref w_URL_ENCODINGS_entries)] [(.ref w_URL_ENCODINGS_entries_elements)])) _
    refine X1.arraylength hx (by rw [e1]; exact Ar2.1) (State.isArrayOf_alike hZ.alike Ar2.2.1) (g := (mkF m 4 #[.val (.ref w_URL_ENCODINGS_entries)] [(.ref w_URL_ENCODINGS_entries_elements)])) rfl rfl (hb hby d12_4) _ ?_
    rw [len_of Sz2 Nn2]
    show Steps p.tables e below (T1.setTop (mkF m 5 #[.val (.ref w_URL_ENCODINGS_entries)] [(.int (3 : Int32))])) _
    exact retI X1 hx Bd.returns (hb hby d12_5) hr
  · have eF : (T1.setFrames fs).heap = h0 := e1
    exact ⟨rfl, N0, eF⟩
set_option maxRecDepth 65536 in
set_option maxHeartbeats 40000000 in
theorem rm13_0 (l : Launch) (Z : State) (a0 : Array Value) (hw : ∀ d ∈ tables_1, d.before a0 Z = true) (ws : List Jvm.Cond) (n0 : Nat) (h0 : Heap) (O : Old Z n0 h0) (w_NONE : Addr) (w_RFC3986 : Addr) (w_URL_ENCODINGS : Addr) (w_URL_ENCODINGS_entries : Addr) (w_URL_ENCODINGS_entries_elements : Addr) (w_PHP : Addr) (w_JAVA : Addr) (w_EMPTY : Addr) (w_EMPTY_LIST : Addr) (k_w_URL_ENCODINGS_entries_elements : ClassId) (W : OwW Z w_NONE w_RFC3986 w_URL_ENCODINGS w_URL_ENCODINGS_entries w_URL_ENCODINGS_entries_elements w_PHP w_JAVA w_EMPTY w_EMPTY_LIST k_w_URL_ENCODINGS_entries_elements)  :
    OwCon l (⟨"java/util/ImmutableCollections$ListN", "get", "(I)Ljava/lang/Object;"⟩ : MethodName) jdk_45_method_4_code 2 (some (.object "java/lang/Object")) ws ({ frames := 0, cells := 0, slots := 0, locals := 0 } : Room) #[(.ref w_URL_ENCODINGS_entries), (.int (0 : Int32))] Z h0 (OwQ (some (.ref w_PHP)) h0 n0) := by
  refine MetFree.of_bodySF (plainFor_of_name owpn13) hisR ?_
  intro p e s m args below meth c s₁ Bd hml0 hP hK
  obtain ⟨rfl, hZ, hh⟩ := hP
  have hx := Bd.exec
  have hby := Bd.bytes
  have hml : c.maxLocals = 2 := hml0
  have hown : s.vm.findClass "java/util/ImmutableCollections$ListN" = some m.cls := findClass_of_methodNamed Bd.named
  have hnm := (name_of_methodNamed Bd.named Bd.method).1
  have X0 : Stand p l e ({ frames := 0, cells := 0, slots := 0, locals := 0 } : Room) s m #[(.ref w_URL_ENCODINGS_entries), (.int (0 : Int32))] below meth c s₁ [] 0 0 := Stand.of_body Bd
  have e0 : s₁.heap = h0 := by rw [← hh, Bd.state]; rfl
  have N0 := Fr.nil n0
  have WW := W
  obtain ⟨E_w_NONE, E_w_RFC3986, E_w_URL_ENCODINGS, E_w_URL_ENCODINGS_entries, E_w_PHP, E_w_JAVA, E_w_EMPTY, E_w_EMPTY_LIST, S_ValueEncoding_NONE, S_ValueEncoding_RFC3986, S_ValueEncoding_URL_ENCODINGS, F_w_URL_ENCODINGS_entries, F_w_URL_ENCODINGS_entries_elements, S_ValueEncoding_PHP, S_ValueEncoding_JAVA, F_w_JAVA_ordinal, F_w_PHP_ordinal, F_w_RFC3986_ordinal, S_ImmutableCollections_EMPTY, S_ImmutableCollections__assertionsDisabled, S_ImmutableCollections_EMPTY_LIST, V_w_URL_ENCODINGS_entries_elements, ne_w_PHP_w_NONE, ne_w_JAVA_w_NONE, ne_w_RFC3986_w_NONE, ne_w_PHP_w_JAVA, ne_w_PHP_w_RFC3986, ne_w_JAVA_w_RFC3986, -⟩ := WW
  have ef : entryFrame m #[(.ref w_URL_ENCODINGS_entries), (.int (0 : Int32))] 2 = mkF m 0 #[.val (.ref w_URL_ENCODINGS_entries), .val (.int (0 : Int32))] [] := by first | rfl | (simp [entryFrame, mkF, argsToLocals, Value.category]; done)
  have pre0 : ∀ t, Steps p.tables e below (s₁.setTop (mkF m 0 #[.val (.ref w_URL_ENCODINGS_entries), .val (.int (0 : Int32))] [])) t → Steps p.tables e below (s₁.setTop (entryFrame m #[(.ref w_URL_ENCODINGS_entries), (.int (0 : Int32))] 2)) t := fun t k => castTop ef k
  obtain ⟨T1, X1, e1, st1⟩ := getF X0 hx hZ hown (host := "") (Or.inl (hw _ (List.mem_of_getElem? (i := 88) rfl))) Via.refl e0 (F_w_URL_ENCODINGS_entries_elements.ext O.2) (g := (mkF m 1 #[.val (.ref w_URL_ENCODINGS_entries), .val (.int (0 : Int32))] [(.ref w_URL_ENCODINGS_entries)])) rfl rfl (hb hby d13_1)
  obtain ⟨cl2, Ar2, q2, Sz2, Nn2, Hs2, -⟩ := id (V_w_URL_ENCODINGS_entries_elements.ext O.2)
  have hin2 : ¬ ((0 : Int32) < 0 ∨ cl2.slots.size ≤ ((0 : Int32)).toNatClampNeg) := inb_of Sz2 ⟨by decide, by decide⟩
  have hat2 : cl2.slots[((0 : Int32)).toNatClampNeg]? = some (.ref w_PHP) := Has.at Hs2 hin2 rfl
  obtain ⟨fs, hr, hrun, hended, hW, hsame⟩ := X1.leave (v := some (.ref w_PHP)) (fun h => by rw [Bd.returns] at h; cases h)
  refine ⟨_, _, pre0 _ ?_, hrun, hended, _, _, rfl, ?_, ⟨_, rfl⟩, hW, hsame.mono (by decide) (by decide)⟩
  · show Steps p.tables e below (s₁.setTop (mkF m 0 #[.val (.ref w_URL_ENCODINGS_entries), .val (.int (0 : Int32))] [])) _
    refine XS.aloadN X0.here hx rfl (hb hby d13_0) rfl rfl ?_
    show Steps p.tables e below (s₁.setTop (mkF m 1 #[.val (.ref w_URL_ENCODINGS_entries), .val (.int (0 : Int32))] [(.ref w_URL_ENCODINGS_entries)])) _
    refine st1 _ ?_
    show Steps p.tables e below (T1.setTop (mkF m 4 #[.val (.ref w_URL_ENCODINGS_entries), .val (.int (0 : Int32))] [(.ref w_URL_ENCODINGS_entries_elements)])) _
    refine XS.iloadN X1.here hx rfl (hb hby d13_4) rfl ?_
    show Steps p.tables e below (T1.setTop (mkF m 5 #[.val (.ref w_URL_ENCODINGS_entries), .val (.int (0 : Int32))] [(.int (0 : Int32)), (.ref w_URL_ENCODINGS_entries_elements)])) _
    refine X1.aaload hx (j := (0 : Int32)) (v := (.ref w_PHP)) (by rw [e1]; exact Ar2.1) (State.isArrayOf_alike hZ.alike Ar2.2.1) rfl Ar2.2.2 hin2 hat2 (g := (mkF m 5 #[.val (.ref w_URL_ENCODINGS_entries), .val (.int (0 : Int32))] [(.int (0 : Int32)), (.ref w_URL_ENCODINGS_entries_elements)])) rfl rfl (hb hby d13_5) _ ?_
    show Steps p.tables e below (T1.setTop (mkF m 6 #[.val (.ref w_URL_ENCODINGS_entries), .val (.int (0 : Int32))] [(.ref w_PHP)])) _
    exact retOut X1 hx Bd.returns rfl (Or.inr (Or.inr (Or.inr (Or.inr ⟨rfl, rfl, rfl⟩)))) (hb hby d13_6) hr
  · have eF : (T1.setFrames fs).heap = h0 := e1
    exact ⟨rfl, N0, eF⟩
set_option maxRecDepth 65536 in
set_option maxHeartbeats 40000000 in
theorem rm13_1 (l : Launch) (Z : State) (a0 : Array Value) (hw : ∀ d ∈ tables_1, d.before a0 Z = true) (ws : List Jvm.Cond) (n0 : Nat) (h0 : Heap) (O : Old Z n0 h0) (w_NONE : Addr) (w_RFC3986 : Addr) (w_URL_ENCODINGS : Addr) (w_URL_ENCODINGS_entries : Addr) (w_URL_ENCODINGS_entries_elements : Addr) (w_PHP : Addr) (w_JAVA : Addr) (w_EMPTY : Addr) (w_EMPTY_LIST : Addr) (k_w_URL_ENCODINGS_entries_elements : ClassId) (W : OwW Z w_NONE w_RFC3986 w_URL_ENCODINGS w_URL_ENCODINGS_entries w_URL_ENCODINGS_entries_elements w_PHP w_JAVA w_EMPTY w_EMPTY_LIST k_w_URL_ENCODINGS_entries_elements)  :
    OwCon l (⟨"java/util/ImmutableCollections$ListN", "get", "(I)Ljava/lang/Object;"⟩ : MethodName) jdk_45_method_4_code 2 (some (.object "java/lang/Object")) ws ({ frames := 0, cells := 0, slots := 0, locals := 0 } : Room) #[(.ref w_URL_ENCODINGS_entries), (.int (1 : Int32))] Z h0 (OwQ (some (.ref w_JAVA)) h0 n0) := by
  refine MetFree.of_bodySF (plainFor_of_name owpn13) hisR ?_
  intro p e s m args below meth c s₁ Bd hml0 hP hK
  obtain ⟨rfl, hZ, hh⟩ := hP
  have hx := Bd.exec
  have hby := Bd.bytes
  have hml : c.maxLocals = 2 := hml0
  have hown : s.vm.findClass "java/util/ImmutableCollections$ListN" = some m.cls := findClass_of_methodNamed Bd.named
  have hnm := (name_of_methodNamed Bd.named Bd.method).1
  have X0 : Stand p l e ({ frames := 0, cells := 0, slots := 0, locals := 0 } : Room) s m #[(.ref w_URL_ENCODINGS_entries), (.int (1 : Int32))] below meth c s₁ [] 0 0 := Stand.of_body Bd
  have e0 : s₁.heap = h0 := by rw [← hh, Bd.state]; rfl
  have N0 := Fr.nil n0
  have WW := W
  obtain ⟨E_w_NONE, E_w_RFC3986, E_w_URL_ENCODINGS, E_w_URL_ENCODINGS_entries, E_w_PHP, E_w_JAVA, E_w_EMPTY, E_w_EMPTY_LIST, S_ValueEncoding_NONE, S_ValueEncoding_RFC3986, S_ValueEncoding_URL_ENCODINGS, F_w_URL_ENCODINGS_entries, F_w_URL_ENCODINGS_entries_elements, S_ValueEncoding_PHP, S_ValueEncoding_JAVA, F_w_JAVA_ordinal, F_w_PHP_ordinal, F_w_RFC3986_ordinal, S_ImmutableCollections_EMPTY, S_ImmutableCollections__assertionsDisabled, S_ImmutableCollections_EMPTY_LIST, V_w_URL_ENCODINGS_entries_elements, ne_w_PHP_w_NONE, ne_w_JAVA_w_NONE, ne_w_RFC3986_w_NONE, ne_w_PHP_w_JAVA, ne_w_PHP_w_RFC3986, ne_w_JAVA_w_RFC3986, -⟩ := WW
  have ef : entryFrame m #[(.ref w_URL_ENCODINGS_entries), (.int (1 : Int32))] 2 = mkF m 0 #[.val (.ref w_URL_ENCODINGS_entries), .val (.int (1 : Int32))] [] := by first | rfl | (simp [entryFrame, mkF, argsToLocals, Value.category]; done)
  have pre0 : ∀ t, Steps p.tables e below (s₁.setTop (mkF m 0 #[.val (.ref w_URL_ENCODINGS_entries), .val (.int (1 : Int32))] [])) t → Steps p.tables e below (s₁.setTop (entryFrame m #[(.ref w_URL_ENCODINGS_entries), (.int (1 : Int32))] 2)) t := fun t k => castTop ef k
  obtain ⟨T1, X1, e1, st1⟩ := getF X0 hx hZ hown (host := "") (Or.inl (hw _ (List.mem_of_getElem? (i := 88) rfl))) Via.refl e0 (F_w_URL_ENCODINGS_entries_elements.ext O.2) (g := (mkF m 1 #[.val (.ref w_URL_ENCODINGS_entries), .val (.int (1 : Int32))] [(.ref w_URL_ENCODINGS_entries)])) rfl rfl (hb hby d13_1)
  obtain ⟨cl2, Ar2, q2, Sz2, Nn2, Hs2, -⟩ := id (V_w_URL_ENCODINGS_entries_elements.ext O.2)
  have hin2 : ¬ ((1 : Int32) < 0 ∨ cl2.slots.size ≤ ((1 : Int32)).toNatClampNeg) := inb_of Sz2 ⟨by decide, by decide⟩
  have hat2 : cl2.slots[((1 : Int32)).toNatClampNeg]? = some (.ref w_JAVA) := Has.at Hs2 hin2 rfl
  obtain ⟨fs, hr, hrun, hended, hW, hsame⟩ := X1.leave (v := some (.ref w_JAVA)) (fun h => by rw [Bd.returns] at h; cases h)
  refine ⟨_, _, pre0 _ ?_, hrun, hended, _, _, rfl, ?_, ⟨_, rfl⟩, hW, hsame.mono (by decide) (by decide)⟩
  · show Steps p.tables e below (s₁.setTop (mkF m 0 #[.val (.ref w_URL_ENCODINGS_entries), .val (.int (1 : Int32))] [])) _
    refine XS.aloadN X0.here hx rfl (hb hby d13_0) rfl rfl ?_
    show Steps p.tables e below (s₁.setTop (mkF m 1 #[.val (.ref w_URL_ENCODINGS_entries), .val (.int (1 : Int32))] [(.ref w_URL_ENCODINGS_entries)])) _
    refine st1 _ ?_
    show Steps p.tables e below (T1.setTop (mkF m 4 #[.val (.ref w_URL_ENCODINGS_entries), .val (.int (1 : Int32))] [(.ref w_URL_ENCODINGS_entries_elements)])) _
    refine XS.iloadN X1.here hx rfl (hb hby d13_4) rfl ?_
    show Steps p.tables e below (T1.setTop (mkF m 5 #[.val (.ref w_URL_ENCODINGS_entries), .val (.int (1 : Int32))] [(.int (1 : Int32)), (.ref w_URL_ENCODINGS_entries_elements)])) _
    refine X1.aaload hx (j := (1 : Int32)) (v := (.ref w_JAVA)) (by rw [e1]; exact Ar2.1) (State.isArrayOf_alike hZ.alike Ar2.2.1) rfl Ar2.2.2 hin2 hat2 (g := (mkF m 5 #[.val (.ref w_URL_ENCODINGS_entries), .val (.int (1 : Int32))] [(.int (1 : Int32)), (.ref w_URL_ENCODINGS_entries_elements)])) rfl rfl (hb hby d13_5) _ ?_
    show Steps p.tables e below (T1.setTop (mkF m 6 #[.val (.ref w_URL_ENCODINGS_entries), .val (.int (1 : Int32))] [(.ref w_JAVA)])) _
    exact retOut X1 hx Bd.returns rfl (Or.inr (Or.inr (Or.inr (Or.inr ⟨rfl, rfl, rfl⟩)))) (hb hby d13_6) hr
  · have eF : (T1.setFrames fs).heap = h0 := e1
    exact ⟨rfl, N0, eF⟩
set_option maxRecDepth 65536 in
set_option maxHeartbeats 40000000 in
theorem rm13_2 (l : Launch) (Z : State) (a0 : Array Value) (hw : ∀ d ∈ tables_1, d.before a0 Z = true) (ws : List Jvm.Cond) (n0 : Nat) (h0 : Heap) (O : Old Z n0 h0) (w_NONE : Addr) (w_RFC3986 : Addr) (w_URL_ENCODINGS : Addr) (w_URL_ENCODINGS_entries : Addr) (w_URL_ENCODINGS_entries_elements : Addr) (w_PHP : Addr) (w_JAVA : Addr) (w_EMPTY : Addr) (w_EMPTY_LIST : Addr) (k_w_URL_ENCODINGS_entries_elements : ClassId) (W : OwW Z w_NONE w_RFC3986 w_URL_ENCODINGS w_URL_ENCODINGS_entries w_URL_ENCODINGS_entries_elements w_PHP w_JAVA w_EMPTY w_EMPTY_LIST k_w_URL_ENCODINGS_entries_elements)  :
    OwCon l (⟨"java/util/ImmutableCollections$ListN", "get", "(I)Ljava/lang/Object;"⟩ : MethodName) jdk_45_method_4_code 2 (some (.object "java/lang/Object")) ws ({ frames := 0, cells := 0, slots := 0, locals := 0 } : Room) #[(.ref w_URL_ENCODINGS_entries), (.int (2 : Int32))] Z h0 (OwQ (some (.ref w_RFC3986)) h0 n0) := by
  refine MetFree.of_bodySF (plainFor_of_name owpn13) hisR ?_
  intro p e s m args below meth c s₁ Bd hml0 hP hK
  obtain ⟨rfl, hZ, hh⟩ := hP
  have hx := Bd.exec
  have hby := Bd.bytes
  have hml : c.maxLocals = 2 := hml0
  have hown : s.vm.findClass "java/util/ImmutableCollections$ListN" = some m.cls := findClass_of_methodNamed Bd.named
  have hnm := (name_of_methodNamed Bd.named Bd.method).1
  have X0 : Stand p l e ({ frames := 0, cells := 0, slots := 0, locals := 0 } : Room) s m #[(.ref w_URL_ENCODINGS_entries), (.int (2 : Int32))] below meth c s₁ [] 0 0 := Stand.of_body Bd
  have e0 : s₁.heap = h0 := by rw [← hh, Bd.state]; rfl
  have N0 := Fr.nil n0
  have WW := W
  obtain ⟨E_w_NONE, E_w_RFC3986, E_w_URL_ENCODINGS, E_w_URL_ENCODINGS_entries, E_w_PHP, E_w_JAVA, E_w_EMPTY, E_w_EMPTY_LIST, S_ValueEncoding_NONE, S_ValueEncoding_RFC3986, S_ValueEncoding_URL_ENCODINGS, F_w_URL_ENCODINGS_entries, F_w_URL_ENCODINGS_entries_elements, S_ValueEncoding_PHP, S_ValueEncoding_JAVA, F_w_JAVA_ordinal, F_w_PHP_ordinal, F_w_RFC3986_ordinal, S_ImmutableCollections_EMPTY, S_ImmutableCollections__assertionsDisabled, S_ImmutableCollections_EMPTY_LIST, V_w_URL_ENCODINGS_entries_elements, ne_w_PHP_w_NONE, ne_w_JAVA_w_NONE, ne_w_RFC3986_w_NONE, ne_w_PHP_w_JAVA, ne_w_PHP_w_RFC3986, ne_w_JAVA_w_RFC3986, -⟩ := WW
  have ef : entryFrame m #[(.ref w_URL_ENCODINGS_entries), (.int (2 : Int32))] 2 = mkF m 0 #[.val (.ref w_URL_ENCODINGS_entries), .val (.int (2 : Int32))] [] := by first | rfl | (simp [entryFrame, mkF, argsToLocals, Value.category]; done)
  have pre0 : ∀ t, Steps p.tables e below (s₁.setTop (mkF m 0 #[.val (.ref w_URL_ENCODINGS_entries), .val (.int (2 : Int32))] [])) t → Steps p.tables e below (s₁.setTop (entryFrame m #[(.ref w_URL_ENCODINGS_entries), (.int (2 : Int32))] 2)) t := fun t k => castTop ef k
  obtain ⟨T1, X1, e1, st1⟩ := getF X0 hx hZ hown (host := "") (Or.inl (hw _ (List.mem_of_getElem? (i := 88) rfl))) Via.refl e0 (F_w_URL_ENCODINGS_entries_elements.ext O.2) (g := (mkF m 1 #[.val (.ref w_URL_ENCODINGS_entries), .val (.int (2 : Int32))] [(.ref w_URL_ENCODINGS_entries)])) rfl rfl (hb hby d13_1)
  obtain ⟨cl2, Ar2, q2, Sz2, Nn2, Hs2, -⟩ := id (V_w_URL_ENCODINGS_entries_elements.ext O.2)
  have hin2 : ¬ ((2 : Int32) < 0 ∨ cl2.slots.size ≤ ((2 : Int32)).toNatClampNeg) := inb_of Sz2 ⟨by decide, by decide⟩
  have hat2 : cl2.slots[((2 : Int32)).toNatClampNeg]? = some (.ref w_RFC3986) := Has.at Hs2 hin2 rfl
  obtain ⟨fs, hr, hrun, hended, hW, hsame⟩ := X1.leave (v := some (.ref w_RFC3986)) (fun h => by rw [Bd.returns] at h; cases h)
  refine ⟨_, _, pre0 _ ?_, hrun, hended, _, _, rfl, ?_, ⟨_, rfl⟩, hW, hsame.mono (by decide) (by decide)⟩
  · show Steps p.tables e below (s₁.setTop (mkF m 0 #[.val (.ref w_URL_ENCODINGS_entries), .val (.int (2 : Int32))] [])) _
    refine XS.aloadN X0.here hx rfl (hb hby d13_0) rfl rfl ?_
    show Steps p.tables e below (s₁.setTop (mkF m 1 #[.val (.ref w_URL_ENCODINGS_entries), .val (.int (2 : Int32))] [(.ref w_URL_ENCODINGS_entries)])) _
    refine st1 _ ?_
    show Steps p.tables e below (T1.setTop (mkF m 4 #[.val (.ref w_URL_ENCODINGS_entries), .val (.int (2 : Int32))] [(.ref w_URL_ENCODINGS_entries_elements)])) _
    refine XS.iloadN X1.here hx rfl (hb hby d13_4) rfl ?_
    show Steps p.tables e below (T1.setTop (mkF m 5 #[.val (.ref w_URL_ENCODINGS_entries), .val (.int (2 : Int32))] [(.int (2 : Int32)), (.ref w_URL_ENCODINGS_entries_elements)])) _
    refine X1.aaload hx (j := (2 : Int32)) (v := (.ref w_RFC3986)) (by rw [e1]; exact Ar2.1) (State.isArrayOf_alike hZ.alike Ar2.2.1) rfl Ar2.2.2 hin2 hat2 (g := (mkF m 5 #[.val (.ref w_URL_ENCODINGS_entries), .val (.int (2 : Int32))] [(.int (2 : Int32)), (.ref w_URL_ENCODINGS_entries_elements)])) rfl rfl (hb hby d13_5) _ ?_
    show Steps p.tables e below (T1.setTop (mkF m 6 #[.val (.ref w_URL_ENCODINGS_entries), .val (.int (2 : Int32))] [(.ref w_RFC3986)])) _
    exact retOut X1 hx Bd.returns rfl (Or.inr (Or.inr (Or.inr (Or.inr ⟨rfl, rfl, rfl⟩)))) (hb hby d13_6) hr
  · have eF : (T1.setFrames fs).heap = h0 := e1
    exact ⟨rfl, N0, eF⟩
set_option maxRecDepth 65536 in
set_option maxHeartbeats 40000000 in
theorem rm14_PHP (l : Launch) (Z : State) (a0 : Array Value) (hw : ∀ d ∈ tables_1, d.before a0 Z = true) (ws : List Jvm.Cond) (n0 : Nat) (h0 : Heap) (O : Old Z n0 h0) (w_NONE : Addr) (w_RFC3986 : Addr) (w_URL_ENCODINGS : Addr) (w_URL_ENCODINGS_entries : Addr) (w_URL_ENCODINGS_entries_elements : Addr) (w_PHP : Addr) (w_JAVA : Addr) (w_EMPTY : Addr) (w_EMPTY_LIST : Addr) (k_w_URL_ENCODINGS_entries_elements : ClassId) (W : OwW Z w_NONE w_RFC3986 w_URL_ENCODINGS w_URL_ENCODINGS_entries w_URL_ENCODINGS_entries_elements w_PHP w_JAVA w_EMPTY w_EMPTY_LIST k_w_URL_ENCODINGS_entries_elements)  :
    OwCon l (⟨"com/example/quittance/quittance/signing/ValueEncodingCheckedUnderPinLaw", "isUrl", "(Lcom/example/quittance/quittance/signing/ValueEncoding;)Z"⟩ : MethodName) method_3_code 1 (some .boolean) ws ({ frames := 0, cells := 0, slots := 0, locals := 0 } : Room) #[(.ref w_PHP)] Z h0 (OwQ (some (.int (1 : Int32))) h0 n0) := by
  refine MetFree.of_bodySF (plainFor_of_name owpn14) hisR ?_
  intro p e s m args below meth c s₁ Bd hml0 hP hK
  obtain ⟨rfl, hZ, hh⟩ := hP
  have hx := Bd.exec
  have hby := Bd.bytes
  have hml : c.maxLocals = 1 := hml0
  have hown : s.vm.findClass "com/example/quittance/quittance/signing/ValueEncodingCheckedUnderPinLaw" = some m.cls := findClass_of_methodNamed Bd.named
  have hnm := (name_of_methodNamed Bd.named Bd.method).1
  have X0 : Stand p l e ({ frames := 0, cells := 0, slots := 0, locals := 0 } : Room) s m #[(.ref w_PHP)] below meth c s₁ [] 0 0 := Stand.of_body Bd
  have e0 : s₁.heap = h0 := by rw [← hh, Bd.state]; rfl
  have N0 := Fr.nil n0
  have WW := W
  obtain ⟨E_w_NONE, E_w_RFC3986, E_w_URL_ENCODINGS, E_w_URL_ENCODINGS_entries, E_w_PHP, E_w_JAVA, E_w_EMPTY, E_w_EMPTY_LIST, S_ValueEncoding_NONE, S_ValueEncoding_RFC3986, S_ValueEncoding_URL_ENCODINGS, F_w_URL_ENCODINGS_entries, F_w_URL_ENCODINGS_entries_elements, S_ValueEncoding_PHP, S_ValueEncoding_JAVA, F_w_JAVA_ordinal, F_w_PHP_ordinal, F_w_RFC3986_ordinal, S_ImmutableCollections_EMPTY, S_ImmutableCollections__assertionsDisabled, S_ImmutableCollections_EMPTY_LIST, V_w_URL_ENCODINGS_entries_elements, ne_w_PHP_w_NONE, ne_w_JAVA_w_NONE, ne_w_RFC3986_w_NONE, ne_w_PHP_w_JAVA, ne_w_PHP_w_RFC3986, ne_w_JAVA_w_RFC3986, -⟩ := WW
  have ef : entryFrame m #[(.ref w_PHP)] 1 = mkF m 0 #[.val (.ref w_PHP)] [] := by first | rfl | (simp [entryFrame, mkF, argsToLocals, Value.category]; done)
  have pre0 : ∀ t, Steps p.tables e below (s₁.setTop (mkF m 0 #[.val (.ref w_PHP)] [])) t → Steps p.tables e below (s₁.setTop (entryFrame m #[(.ref w_PHP)] 1)) t := fun t k => castTop ef k
  obtain ⟨T1, X1, e1, st1⟩ := getS2 X0 hx hZ hown (host := "") (Or.inl (hw _ (List.mem_of_getElem? (i := 103) rfl))) Via.refl e0 (S_ValueEncoding_PHP.ext O.2) (g := (mkF m 1 #[.val (.ref w_PHP)] [(.ref w_PHP)])) rfl (hb hby d14_1)
  obtain ⟨fs, hr, hrun, hended, hW, hsame⟩ := X1.leave (v := some (.int (1 : Int32))) (fun h => by rw [Bd.returns] at h; cases h)
  refine ⟨_, _, pre0 _ ?_, hrun, hended, _, _, rfl, ?_, ⟨_, rfl⟩, hW, hsame.mono (by decide) (by decide)⟩
  · show Steps p.tables e below (s₁.setTop (mkF m 0 #[.val (.ref w_PHP)] [])) _
    refine XS.aloadN X0.here hx rfl (hb hby d14_0) rfl rfl ?_
    show Steps p.tables e below (s₁.setTop (mkF m 1 #[.val (.ref w_PHP)] [(.ref w_PHP)])) _
    refine st1 _ ?_
    show Steps p.tables e below (T1.setTop (mkF m 4 #[.val (.ref w_PHP)] [(.ref w_PHP), (.ref w_PHP)])) _
    refine Jvm.RoadKit.acmp (g := (mkF m 4 #[.val (.ref w_PHP)] [(.ref w_PHP), (.ref w_PHP)])) X1 hx rfl rfl rfl (pc0 := 4) (pc' := 21) (same := true) rfl (hb hby d14_4) rfl (decide_eq_true rfl) (by decide) (by decide) ?_
    show Steps p.tables e below (T1.setTop (mkF m 21 #[.val (.ref w_PHP)] [])) _
    refine XS.iconst X1.here hx rfl (hb hby d14_21) ?_
    show Steps p.tables e below (T1.setTop (mkF m 22 #[.val (.ref w_PHP)] [(.int (1 : Int32))])) _
    refine XS.goto X1.here hx rfl (pc0 := 22) (pc' := 26) rfl (hb hby d14_22) (by decide) (by decide) ?_
    show Steps p.tables e below (T1.setTop (mkF m 26 #[.val (.ref w_PHP)] [(.int (1 : Int32))])) _
    exact retN X1 hx (t := .boolean) Bd.returns (by simp) (hb hby d14_26) hr
  · have eF : (T1.setFrames fs).heap = h0 := e1
    exact ⟨rfl, N0, eF⟩
set_option maxRecDepth 65536 in
set_option maxHeartbeats 40000000 in
theorem rm14_JAVA (l : Launch) (Z : State) (a0 : Array Value) (hw : ∀ d ∈ tables_1, d.before a0 Z = true) (ws : List Jvm.Cond) (n0 : Nat) (h0 : Heap) (O : Old Z n0 h0) (w_NONE : Addr) (w_RFC3986 : Addr) (w_URL_ENCODINGS : Addr) (w_URL_ENCODINGS_entries : Addr) (w_URL_ENCODINGS_entries_elements : Addr) (w_PHP : Addr) (w_JAVA : Addr) (w_EMPTY : Addr) (w_EMPTY_LIST : Addr) (k_w_URL_ENCODINGS_entries_elements : ClassId) (W : OwW Z w_NONE w_RFC3986 w_URL_ENCODINGS w_URL_ENCODINGS_entries w_URL_ENCODINGS_entries_elements w_PHP w_JAVA w_EMPTY w_EMPTY_LIST k_w_URL_ENCODINGS_entries_elements)  :
    OwCon l (⟨"com/example/quittance/quittance/signing/ValueEncodingCheckedUnderPinLaw", "isUrl", "(Lcom/example/quittance/quittance/signing/ValueEncoding;)Z"⟩ : MethodName) method_3_code 1 (some .boolean) ws ({ frames := 0, cells := 0, slots := 0, locals := 0 } : Room) #[(.ref w_JAVA)] Z h0 (OwQ (some (.int (1 : Int32))) h0 n0) := by
  refine MetFree.of_bodySF (plainFor_of_name owpn14) hisR ?_
  intro p e s m args below meth c s₁ Bd hml0 hP hK
  obtain ⟨rfl, hZ, hh⟩ := hP
  have hx := Bd.exec
  have hby := Bd.bytes
  have hml : c.maxLocals = 1 := hml0
  have hown : s.vm.findClass "com/example/quittance/quittance/signing/ValueEncodingCheckedUnderPinLaw" = some m.cls := findClass_of_methodNamed Bd.named
  have hnm := (name_of_methodNamed Bd.named Bd.method).1
  have X0 : Stand p l e ({ frames := 0, cells := 0, slots := 0, locals := 0 } : Room) s m #[(.ref w_JAVA)] below meth c s₁ [] 0 0 := Stand.of_body Bd
  have e0 : s₁.heap = h0 := by rw [← hh, Bd.state]; rfl
  have N0 := Fr.nil n0
  have WW := W
  obtain ⟨E_w_NONE, E_w_RFC3986, E_w_URL_ENCODINGS, E_w_URL_ENCODINGS_entries, E_w_PHP, E_w_JAVA, E_w_EMPTY, E_w_EMPTY_LIST, S_ValueEncoding_NONE, S_ValueEncoding_RFC3986, S_ValueEncoding_URL_ENCODINGS, F_w_URL_ENCODINGS_entries, F_w_URL_ENCODINGS_entries_elements, S_ValueEncoding_PHP, S_ValueEncoding_JAVA, F_w_JAVA_ordinal, F_w_PHP_ordinal, F_w_RFC3986_ordinal, S_ImmutableCollections_EMPTY, S_ImmutableCollections__assertionsDisabled, S_ImmutableCollections_EMPTY_LIST, V_w_URL_ENCODINGS_entries_elements, ne_w_PHP_w_NONE, ne_w_JAVA_w_NONE, ne_w_RFC3986_w_NONE, ne_w_PHP_w_JAVA, ne_w_PHP_w_RFC3986, ne_w_JAVA_w_RFC3986, -⟩ := WW
  have ef : entryFrame m #[(.ref w_JAVA)] 1 = mkF m 0 #[.val (.ref w_JAVA)] [] := by first | rfl | (simp [entryFrame, mkF, argsToLocals, Value.category]; done)
  have pre0 : ∀ t, Steps p.tables e below (s₁.setTop (mkF m 0 #[.val (.ref w_JAVA)] [])) t → Steps p.tables e below (s₁.setTop (entryFrame m #[(.ref w_JAVA)] 1)) t := fun t k => castTop ef k
  obtain ⟨T1, X1, e1, st1⟩ := getS2 X0 hx hZ hown (host := "") (Or.inl (hw _ (List.mem_of_getElem? (i := 103) rfl))) Via.refl e0 (S_ValueEncoding_PHP.ext O.2) (g := (mkF m 1 #[.val (.ref w_JAVA)] [(.ref w_JAVA)])) rfl (hb hby d14_1)
  obtain ⟨T2, X2, e2, st2⟩ := getS2 X1 hx hZ hown (host := "") (Or.inl (hw _ (List.mem_of_getElem? (i := 104) rfl))) Via.refl e1 (S_ValueEncoding_JAVA.ext O.2) (g := (mkF m 8 #[.val (.ref w_JAVA)] [(.ref w_JAVA)])) rfl (hb hby d14_8)
  obtain ⟨fs, hr, hrun, hended, hW, hsame⟩ := X2.leave (v := some (.int (1 : Int32))) (fun h => by rw [Bd.returns] at h; cases h)
  refine ⟨_, _, pre0 _ ?_, hrun, hended, _, _, rfl, ?_, ⟨_, rfl⟩, hW, hsame.mono (by decide) (by decide)⟩
  · show Steps p.tables e below (s₁.setTop (mkF m 0 #[.val (.ref w_JAVA)] [])) _
    refine XS.aloadN X0.here hx rfl (hb hby d14_0) rfl rfl ?_
    show Steps p.tables e below (s₁.setTop (mkF m 1 #[.val (.ref w_JAVA)] [(.ref w_JAVA)])) _
    refine st1 _ ?_
    show Steps p.tables e below (T1.setTop (mkF m 4 #[.val (.ref w_JAVA)] [(.ref w_PHP), (.ref w_JAVA)])) _
    refine Jvm.RoadKit.acmp (g := (mkF m 4 #[.val (.ref w_JAVA)] [(.ref w_PHP), (.ref w_JAVA)])) X1 hx rfl rfl rfl (pc0 := 4) (pc' := 7) (same := false) rfl (hb hby d14_4) rfl (decide_eq_false fun q => (Ne.symm ne_w_PHP_w_JAVA) (Value.ref.inj q)) (by decide) (by decide) ?_
    show Steps p.tables e below (T1.setTop (mkF m 7 #[.val (.ref w_JAVA)] [])) _
    refine XS.aloadN X1.here hx rfl (hb hby d14_7) rfl rfl ?_
    show Steps p.tables e below (T1.setTop (mkF m 8 #[.val (.ref w_JAVA)] [(.ref w_JAVA)])) _
    refine st2 _ ?_
    show Steps p.tables e below (T2.setTop (mkF m 11 #[.val (.ref w_JAVA)] [(.ref w_JAVA), (.ref w_JAVA)])) _
    refine Jvm.RoadKit.acmp (g := (mkF m 11 #[.val (.ref w_JAVA)] [(.ref w_JAVA), (.ref w_JAVA)])) X2 hx rfl rfl rfl (pc0 := 11) (pc' := 21) (same := true) rfl (hb hby d14_11) rfl (decide_eq_true rfl) (by decide) (by decide) ?_
    show Steps p.tables e below (T2.setTop (mkF m 21 #[.val (.ref w_JAVA)] [])) _
    refine XS.iconst X2.here hx rfl (hb hby d14_21) ?_
    show Steps p.tables e below (T2.setTop (mkF m 22 #[.val (.ref w_JAVA)] [(.int (1 : Int32))])) _
    refine XS.goto X2.here hx rfl (pc0 := 22) (pc' := 26) rfl (hb hby d14_22) (by decide) (by decide) ?_
    show Steps p.tables e below (T2.setTop (mkF m 26 #[.val (.ref w_JAVA)] [(.int (1 : Int32))])) _
    exact retN X2 hx (t := .boolean) Bd.returns (by simp) (hb hby d14_26) hr
  · have eF : (T2.setFrames fs).heap = h0 := e2
    exact ⟨rfl, N0, eF⟩
set_option maxRecDepth 65536 in
set_option maxHeartbeats 40000000 in
theorem rm14_RFC3986 (l : Launch) (Z : State) (a0 : Array Value) (hw : ∀ d ∈ tables_1, d.before a0 Z = true) (ws : List Jvm.Cond) (n0 : Nat) (h0 : Heap) (O : Old Z n0 h0) (w_NONE : Addr) (w_RFC3986 : Addr) (w_URL_ENCODINGS : Addr) (w_URL_ENCODINGS_entries : Addr) (w_URL_ENCODINGS_entries_elements : Addr) (w_PHP : Addr) (w_JAVA : Addr) (w_EMPTY : Addr) (w_EMPTY_LIST : Addr) (k_w_URL_ENCODINGS_entries_elements : ClassId) (W : OwW Z w_NONE w_RFC3986 w_URL_ENCODINGS w_URL_ENCODINGS_entries w_URL_ENCODINGS_entries_elements w_PHP w_JAVA w_EMPTY w_EMPTY_LIST k_w_URL_ENCODINGS_entries_elements)  :
    OwCon l (⟨"com/example/quittance/quittance/signing/ValueEncodingCheckedUnderPinLaw", "isUrl", "(Lcom/example/quittance/quittance/signing/ValueEncoding;)Z"⟩ : MethodName) method_3_code 1 (some .boolean) ws ({ frames := 0, cells := 0, slots := 0, locals := 0 } : Room) #[(.ref w_RFC3986)] Z h0 (OwQ (some (.int (1 : Int32))) h0 n0) := by
  refine MetFree.of_bodySF (plainFor_of_name owpn14) hisR ?_
  intro p e s m args below meth c s₁ Bd hml0 hP hK
  obtain ⟨rfl, hZ, hh⟩ := hP
  have hx := Bd.exec
  have hby := Bd.bytes
  have hml : c.maxLocals = 1 := hml0
  have hown : s.vm.findClass "com/example/quittance/quittance/signing/ValueEncodingCheckedUnderPinLaw" = some m.cls := findClass_of_methodNamed Bd.named
  have hnm := (name_of_methodNamed Bd.named Bd.method).1
  have X0 : Stand p l e ({ frames := 0, cells := 0, slots := 0, locals := 0 } : Room) s m #[(.ref w_RFC3986)] below meth c s₁ [] 0 0 := Stand.of_body Bd
  have e0 : s₁.heap = h0 := by rw [← hh, Bd.state]; rfl
  have N0 := Fr.nil n0
  have WW := W
  obtain ⟨E_w_NONE, E_w_RFC3986, E_w_URL_ENCODINGS, E_w_URL_ENCODINGS_entries, E_w_PHP, E_w_JAVA, E_w_EMPTY, E_w_EMPTY_LIST, S_ValueEncoding_NONE, S_ValueEncoding_RFC3986, S_ValueEncoding_URL_ENCODINGS, F_w_URL_ENCODINGS_entries, F_w_URL_ENCODINGS_entries_elements, S_ValueEncoding_PHP, S_ValueEncoding_JAVA, F_w_JAVA_ordinal, F_w_PHP_ordinal, F_w_RFC3986_ordinal, S_ImmutableCollections_EMPTY, S_ImmutableCollections__assertionsDisabled, S_ImmutableCollections_EMPTY_LIST, V_w_URL_ENCODINGS_entries_elements, ne_w_PHP_w_NONE, ne_w_JAVA_w_NONE, ne_w_RFC3986_w_NONE, ne_w_PHP_w_JAVA, ne_w_PHP_w_RFC3986, ne_w_JAVA_w_RFC3986, -⟩ := WW
  have ef : entryFrame m #[(.ref w_RFC3986)] 1 = mkF m 0 #[.val (.ref w_RFC3986)] [] := by first | rfl | (simp [entryFrame, mkF, argsToLocals, Value.category]; done)
  have pre0 : ∀ t, Steps p.tables e below (s₁.setTop (mkF m 0 #[.val (.ref w_RFC3986)] [])) t → Steps p.tables e below (s₁.setTop (entryFrame m #[(.ref w_RFC3986)] 1)) t := fun t k => castTop ef k
  obtain ⟨T1, X1, e1, st1⟩ := getS2 X0 hx hZ hown (host := "") (Or.inl (hw _ (List.mem_of_getElem? (i := 103) rfl))) Via.refl e0 (S_ValueEncoding_PHP.ext O.2) (g := (mkF m 1 #[.val (.ref w_RFC3986)] [(.ref w_RFC3986)])) rfl (hb hby d14_1)
  obtain ⟨T2, X2, e2, st2⟩ := getS2 X1 hx hZ hown (host := "") (Or.inl (hw _ (List.mem_of_getElem? (i := 104) rfl))) Via.refl e1 (S_ValueEncoding_JAVA.ext O.2) (g := (mkF m 8 #[.val (.ref w_RFC3986)] [(.ref w_RFC3986)])) rfl (hb hby d14_8)
  obtain ⟨T3, X3, e3, st3⟩ := getS2 X2 hx hZ hown (host := "") (Or.inl (hw _ (List.mem_of_getElem? (i := 68) rfl))) Via.refl e2 (S_ValueEncoding_RFC3986.ext O.2) (g := (mkF m 15 #[.val (.ref w_RFC3986)] [(.ref w_RFC3986)])) rfl (hb hby d14_15)
  obtain ⟨fs, hr, hrun, hended, hW, hsame⟩ := X3.leave (v := some (.int (1 : Int32))) (fun h => by rw [Bd.returns] at h; cases h)
  refine ⟨_, _, pre0 _ ?_, hrun, hended, _, _, rfl, ?_, ⟨_, rfl⟩, hW, hsame.mono (by decide) (by decide)⟩
  · show Steps p.tables e below (s₁.setTop (mkF m 0 #[.val (.ref w_RFC3986)] [])) _
    refine XS.aloadN X0.here hx rfl (hb hby d14_0) rfl rfl ?_
    show Steps p.tables e below (s₁.setTop (mkF m 1 #[.val (.ref w_RFC3986)] [(.ref w_RFC3986)])) _
    refine st1 _ ?_
    show Steps p.tables e below (T1.setTop (mkF m 4 #[.val (.ref w_RFC3986)] [(.ref w_PHP), (.ref w_RFC3986)])) _
    refine Jvm.RoadKit.acmp (g := (mkF m 4 #[.val (.ref w_RFC3986)] [(.ref w_PHP), (.ref w_RFC3986)])) X1 hx rfl rfl rfl (pc0 := 4) (pc' := 7) (same := false) rfl (hb hby d14_4) rfl (decide_eq_false fun q => (Ne.symm ne_w_PHP_w_RFC3986) (Value.ref.inj q)) (by decide) (by decide) ?_
    show Steps p.tables e below (T1.setTop (mkF m 7 #[.val (.ref w_RFC3986)] [])) _
    refine XS.aloadN X1.here hx rfl (hb hby d14_7) rfl rfl ?_
    show Steps p.tables e below (T1.setTop (mkF m 8 #[.val (.ref w_RFC3986)] [(.ref w_RFC3986)])) _
    refine st2 _ ?_
    show Steps p.tables e below (T2.setTop (mkF m 11 #[.val (.ref w_RFC3986)] [(.ref w_JAVA), (.ref w_RFC3986)])) _
    refine Jvm.RoadKit.acmp (g := (mkF m 11 #[.val (.ref w_RFC3986)] [(.ref w_JAVA), (.ref w_RFC3986)])) X2 hx rfl rfl rfl (pc0 := 11) (pc' := 14) (same := false) rfl (hb hby d14_11) rfl (decide_eq_false fun q => (Ne.symm ne_w_JAVA_w_RFC3986) (Value.ref.inj q)) (by decide) (by decide) ?_
    show Steps p.tables e below (T2.setTop (mkF m 14 #[.val (.ref w_RFC3986)] [])) _
    refine XS.aloadN X2.here hx rfl (hb hby d14_14) rfl rfl ?_
    show Steps p.tables e below (T2.setTop (mkF m 15 #[.val (.ref w_RFC3986)] [(.ref w_RFC3986)])) _
    refine st3 _ ?_
    show Steps p.tables e below (T3.setTop (mkF m 18 #[.val (.ref w_RFC3986)] [(.ref w_RFC3986), (.ref w_RFC3986)])) _
    refine Jvm.RoadKit.acmp (g := (mkF m 18 #[.val (.ref w_RFC3986)] [(.ref w_RFC3986), (.ref w_RFC3986)])) X3 hx rfl rfl rfl (pc0 := 18) (pc' := 21) (same := true) rfl (hb hby d14_18) rfl (decide_eq_true rfl) (by decide) (by decide) ?_
    show Steps p.tables e below (T3.setTop (mkF m 21 #[.val (.ref w_RFC3986)] [])) _
    refine XS.iconst X3.here hx rfl (hb hby d14_21) ?_
    show Steps p.tables e below (T3.setTop (mkF m 22 #[.val (.ref w_RFC3986)] [(.int (1 : Int32))])) _
    refine XS.goto X3.here hx rfl (pc0 := 22) (pc' := 26) rfl (hb hby d14_22) (by decide) (by decide) ?_
    show Steps p.tables e below (T3.setTop (mkF m 26 #[.val (.ref w_RFC3986)] [(.int (1 : Int32))])) _
    exact retN X3 hx (t := .boolean) Bd.returns (by simp) (hb hby d14_26) hr
  · have eF : (T3.setFrames fs).heap = h0 := e3
    exact ⟨rfl, N0, eF⟩
set_option maxRecDepth 65536 in
set_option maxHeartbeats 40000000 in
theorem rm0_0 (l : Launch) (Z : State) (a0 : Array Value) (hw : ∀ d ∈ tables_1, d.before a0 Z = true) (ws : List Jvm.Cond) (n0 : Nat) (h0 : Heap) (O : Old Z n0 h0) (w_NONE : Addr) (w_RFC3986 : Addr) (w_URL_ENCODINGS : Addr) (w_URL_ENCODINGS_entries : Addr) (w_URL_ENCODINGS_entries_elements : Addr) (w_PHP : Addr) (w_JAVA : Addr) (w_EMPTY : Addr) (w_EMPTY_LIST : Addr) (k_w_URL_ENCODINGS_entries_elements : ClassId) (W : OwW Z w_NONE w_RFC3986 w_URL_ENCODINGS w_URL_ENCODINGS_entries w_URL_ENCODINGS_entries_elements w_PHP w_JAVA w_EMPTY w_EMPTY_LIST k_w_URL_ENCODINGS_entries_elements) (p0 : Int32) (hi : p0 &&& (3 : Int32) = (0 : Int32)) :
    OwCon l x code maxLocals ret ws room_1 #[(.int p0)] Z h0 (OwP (fun v _ => v = some (.int 1)) n0) := by
  refine MetFree.of_bodySF (plainFor_of_name owpn0) hisR ?_
  intro p e s m args below meth c s₁ Bd hml0 hP hK
  obtain ⟨rfl, hZ, hh⟩ := hP
  have hx := Bd.exec
  have hby := Bd.bytes
  have hml : c.maxLocals = 7 := hml0
  have hown : s.vm.findClass "com/example/quittance/quittance/signing/ValueEncodingCheckedUnderPinLaw" = some m.cls := findClass_of_methodNamed Bd.named
  have hnm := (name_of_methodNamed Bd.named Bd.method).1
  have X0 : Stand p l e room_1 s m #[(.int p0)] below meth c s₁ [] 0 0 := Stand.of_body Bd
  have e0 : s₁.heap = h0 := by rw [← hh, Bd.state]; rfl
  have N0 := Fr.nil n0
  have WW := W
  obtain ⟨E_w_NONE, E_w_RFC3986, E_w_URL_ENCODINGS, E_w_URL_ENCODINGS_entries, E_w_PHP, E_w_JAVA, E_w_EMPTY, E_w_EMPTY_LIST, S_ValueEncoding_NONE, S_ValueEncoding_RFC3986, S_ValueEncoding_URL_ENCODINGS, F_w_URL_ENCODINGS_entries, F_w_URL_ENCODINGS_entries_elements, S_ValueEncoding_PHP, S_ValueEncoding_JAVA, F_w_JAVA_ordinal, F_w_PHP_ordinal, F_w_RFC3986_ordinal, S_ImmutableCollections_EMPTY, S_ImmutableCollections__assertionsDisabled, S_ImmutableCollections_EMPTY_LIST, V_w_URL_ENCODINGS_entries_elements, ne_w_PHP_w_NONE, ne_w_JAVA_w_NONE, ne_w_RFC3986_w_NONE, ne_w_PHP_w_JAVA, ne_w_PHP_w_RFC3986, ne_w_JAVA_w_RFC3986, -⟩ := WW
  have ef : entryFrame m #[(.int p0)] maxLocals = mkF m 0 #[.val (.int p0), .unset, .unset, .unset, .unset, .unset, .unset] [] := by first | rfl | (simp [entryFrame, mkF, argsToLocals, Value.category, maxLocals]; done)
  have pre0 : ∀ t, Steps p.tables e below (s₁.setTop (mkF m 0 #[.val (.int p0), .unset, .unset, .unset, .unset, .unset, .unset] [])) t → Steps p.tables e below (s₁.setTop (entryFrame m #[(.int p0)] maxLocals)) t := fun t k => castTop ef k
  obtain ⟨T1, X1, e1, st1⟩ := getS2 X0 hx hZ hown (host := "") (Or.inl (hw _ (List.mem_of_getElem? (i := 0) rfl))) Via.refl e0 (S_ValueEncoding_NONE.ext O.2) (g := (mkF m 8 #[.val (.int p0), .val (.int (0 : Int32)), .unset, .unset, .unset, .unset, .unset] [])) rfl (hb hby at_8)
  obtain ⟨cq2, kq2, q2a, q2b, q2c⟩ := isOf hZ e1 (E_w_NONE.ext O.2)
  obtain ⟨_, _, ⟨T2, L2, k2, n2⟩, -, X2, ⟨Lc2, hQ2, l2, y2, z2⟩, st2⟩ := X1.virtualBack hx (y := (⟨"com/example/quittance/quittance/signing/ValueEncoding", "checkedUnder", "()Ljava/util/List;"⟩ : MethodName)) (z := (⟨"com/example/quittance/quittance/signing/ValueEncoding", "checkedUnder", "()Ljava/util/List;"⟩ : MethodName)) hown (mvT hZ (hw _ (List.mem_of_getElem? (i := 3) rfl))) (mvT hZ (hw _ (List.mem_of_getElem? (i := 4) rfl))) (notFace_of_selects (args := #[]) (mvT hZ (hw _ (List.mem_of_getElem? (i := 6) rfl)))) (mvT hZ (hw _ (List.mem_of_getElem? (i := 6) rfl))) (mvT hZ (hw _ (List.mem_of_getElem? (i := 5) rfl))) (by decide) (backOf (W := 0) (rm1_n l Z a0 hw [] n0 h0 O w_NONE w_RFC3986 w_URL_ENCODINGS w_URL_ENCODINGS_entries w_URL_ENCODINGS_entries_elements w_PHP w_JAVA w_EMPTY w_EMPTY_LIST k_w_URL_ENCODINGS_entries_elements W  ) hZ (hw _ (List.mem_of_getElem? (i := 7) rfl)) (hw _ (List.mem_of_getElem? (i := 1) rfl)) (by decide) (by decide)) q2a q2c (g := (mkF m 44 #[.val (.int p0), .val (.int (0 : Int32)), .val (.ref w_NONE), .unset, .unset, .unset, .unset] [(.ref w_NONE)])) rfl (by rw [hml]; rfl) (Steps.refl _) (argsL := []) (rest := []) (lenOf owpd4 rfl) rfl (by show 2 * 0 + _ ≤ _; exact Nat.le_of_eq rfl) (hb hby at_44) (fun _ _ => ⟨rfl, e1, (by decide : 0 + 1 ≤ _), (by decide : 0 + 2 ≤ _)⟩)
  dsimp only [Pt.U, Pt.locs, Pt.cells, Pt.slots] at X2 l2 y2 z2 st2 hQ2
  subst l2 y2 z2
  obtain ⟨Nq2, hP2⟩ := hQ2
  have N2 := Fr.app N0 Nq2
  have ee2 : T2.heap = T2.heap := rfl
  obtain ⟨b2, rfl, O2, Ec2, F0c2, F1c2⟩ := hP2
  obtain ⟨T3, X3, e3, st3⟩ := getS2 X2 hx hZ hown (host := "") (Or.inl (hw _ (List.mem_of_getElem? (i := 0) rfl))) Via.refl ee2 (S_ValueEncoding_NONE.ext O2.2) (g := (mkF m 55 #[.val (.int p0), .val (.int (0 : Int32)), .val (.ref w_NONE), .val (.ref b2), .unset, .unset, .unset] [(.ref w_NONE)])) rfl (hb hby at_55)
  obtain ⟨cq4, kq4, q4a, q4b, q4c⟩ := isOf hZ e3 Ec2
  obtain ⟨_, _, ⟨T4, L4, k4, n4⟩, -, X4, ⟨Lc4, hQ4, l4, y4, z4⟩, st4⟩ := X3.interfaceBack hx (xi := (⟨"java/util/List", "size", "()I"⟩ : MethodName)) (y := (⟨"java/util/ImmutableCollections$List12", "size", "()I"⟩ : MethodName)) hown (mvT hZ (hw _ (List.mem_of_getElem? (i := 51) rfl))) (mvT hZ (hw _ (List.mem_of_getElem? (i := 52) rfl))) (mvT hZ (hw _ (List.mem_of_getElem? (i := 53) rfl))) (mvT hZ (hw _ (List.mem_of_getElem? (i := 54) rfl))) (mvT hZ (hw _ (List.mem_of_getElem? (i := 55) rfl))) (mvT hZ (hw _ (List.mem_of_getElem? (i := 56) rfl))) (mvT hZ (hw _ (List.mem_of_getElem? (i := 57) rfl))) (mvT hZ (hw _ (List.mem_of_getElem? (i := 58) rfl))) (by decide) (backOf (W := 0) (rm9 l Z a0 hw [] n0 T2.heap O2 w_NONE w_RFC3986 w_URL_ENCODINGS w_URL_ENCODINGS_entries w_URL_ENCODINGS_entries_elements w_PHP w_JAVA w_EMPTY w_EMPTY_LIST k_w_URL_ENCODINGS_entries_elements W b2 F1c2) hZ (hw _ (List.mem_of_getElem? (i := 59) rfl)) (hw _ (List.mem_of_getElem? (i := 15) rfl)) (by decide) (by decide)) q4a q4b q4c (g := (mkF m 62 #[.val (.int p0), .val (.int (0 : Int32)), .val (.ref w_NONE), .val (.ref b2), .unset, .unset, .unset] [(.ref b2)])) rfl (by rw [hml]; rfl) (Steps.refl _) (argsL := []) (rest := []) (lenOf owpd5 rfl) rfl (by show 2 * 0 + _ ≤ _; exact Nat.le_of_eq rfl) (hb hby at_62) (fun _ _ => ⟨rfl, e3, (by decide : 1 + 0 ≤ _), (by decide : 2 + 0 ≤ _)⟩)
  dsimp only [Pt.U, Pt.locs, Pt.cells, Pt.slots] at X4 l4 y4 z4 st4 hQ4
  subst l4 y4 z4
  obtain ⟨rfl, Nq4, e4⟩ := hQ4
  have N4 := Fr.app N2 Nq4
  obtain ⟨cq5, kq5, q5a, q5b, q5c⟩ := isOf hZ e4 Ec2
  obtain ⟨_, _, ⟨T5, L5, k5, n5⟩, -, X5, ⟨Lc5, hQ5, l5, y5, z5⟩, st5⟩ := X4.interfaceBack hx (xi := (⟨"java/util/List", "get", "(I)Ljava/lang/Object;"⟩ : MethodName)) (y := (⟨"java/util/ImmutableCollections$List12", "get", "(I)Ljava/lang/Object;"⟩ : MethodName)) hown (mvT hZ (hw _ (List.mem_of_getElem? (i := 60) rfl))) (mvT hZ (hw _ (List.mem_of_getElem? (i := 61) rfl))) (mvT hZ (hw _ (List.mem_of_getElem? (i := 62) rfl))) (mvT hZ (hw _ (List.mem_of_getElem? (i := 63) rfl))) (mvT hZ (hw _ (List.mem_of_getElem? (i := 64) rfl))) (mvT hZ (hw _ (List.mem_of_getElem? (i := 65) rfl))) (mvT hZ (hw _ (List.mem_of_getElem? (i := 66) rfl))) (mvT hZ (hw _ (List.mem_of_getElem? (i := 58) rfl))) (by decide) (backOf (W := 0) (rm10 l Z a0 hw [] n0 T2.heap O2 w_NONE w_RFC3986 w_URL_ENCODINGS w_URL_ENCODINGS_entries w_URL_ENCODINGS_entries_elements w_PHP w_JAVA w_EMPTY w_EMPTY_LIST k_w_URL_ENCODINGS_entries_elements W b2 w_NONE F0c2) hZ (hw _ (List.mem_of_getElem? (i := 67) rfl)) (hw _ (List.mem_of_getElem? (i := 15) rfl)) (by decide) (by decide)) q5a q5b q5c (g := (mkF m 73 #[.val (.int p0), .val (.int (0 : Int32)), .val (.ref w_NONE), .val (.ref b2), .unset, .unset, .unset] [(.int (0 : Int32)), (.ref b2)])) rfl (by rw [hml]; rfl) (Steps.refl _) (argsL := [(.int (0 : Int32))]) (rest := []) (lenOf owpd6 rfl) rfl (by show 2 * 0 + _ ≤ _; exact Nat.le_of_eq rfl) (hb hby at_73) (fun _ _ => ⟨rfl, e4, (by decide : 1 + 0 ≤ _), (by decide : 2 + 0 ≤ _)⟩)
  dsimp only [Pt.U, Pt.locs, Pt.cells, Pt.slots] at X5 l5 y5 z5 st5 hQ5
  subst l5 y5 z5
  obtain ⟨rfl, Nq5, e5⟩ := hQ5
  have N5 := Fr.app N4 Nq5
  obtain ⟨T6, X6, e6, st6⟩ := getS2 X5 hx hZ hown (host := "") (Or.inl (hw _ (List.mem_of_getElem? (i := 0) rfl))) Via.refl e5 (S_ValueEncoding_NONE.ext O2.2) (g := (mkF m 78 #[.val (.int p0), .val (.int (0 : Int32)), .val (.ref w_NONE), .val (.ref b2), .unset, .unset, .unset] [(.ref w_NONE)])) rfl (hb hby at_78)
  obtain ⟨fs, hr, hrun, hended, hW, hsame⟩ := X6.leave (v := some (.int (1 : Int32))) (fun h => by rw [Bd.returns] at h; cases h)
  refine ⟨_, _, pre0 _ ?_, hrun, hended, _, _, rfl, ?_, ⟨_, rfl⟩, hW, hsame.mono (by decide) (by decide)⟩
  · show Steps p.tables e below (s₁.setTop (mkF m 0 #[.val (.int p0), .unset, .unset, .unset, .unset, .unset, .unset] [])) _
    refine XS.iloadN X0.here hx rfl (hb hby at_0) rfl ?_
    show Steps p.tables e below (s₁.setTop (mkF m 1 #[.val (.int p0), .unset, .unset, .unset, .unset, .unset, .unset] [(.int p0)])) _
    refine XS.iconst X0.here hx rfl (hb hby at_1) ?_
    show Steps p.tables e below (s₁.setTop (mkF m 2 #[.val (.int p0), .unset, .unset, .unset, .unset, .unset, .unset] [(.int (3 : Int32)), (.int p0)])) _
    refine XS.iand X0.here hx rfl (hb hby at_2) rfl ?_
    show Steps p.tables e below (s₁.setTop (mkF m 3 #[.val (.int p0), .unset, .unset, .unset, .unset, .unset, .unset] [(.int (p0 &&& (3 : Int32)))])) _
    rw [hi]
    show Steps p.tables e below (s₁.setTop (mkF m 3 #[.val (.int p0), .unset, .unset, .unset, .unset, .unset, .unset] [(.int (0 : Int32))])) _
    refine XS.istoreN X0.here hx rfl (hb hby at_3) rfl (l' := #[.val (.int p0), .val (.int (0 : Int32)), .unset, .unset, .unset, .unset, .unset]) rfl ?_
    show Steps p.tables e below (s₁.setTop (mkF m 4 #[.val (.int p0), .val (.int (0 : Int32)), .unset, .unset, .unset, .unset, .unset] [])) _
    refine XS.iloadN X0.here hx rfl (hb hby at_4) rfl ?_
    show Steps p.tables e below (s₁.setTop (mkF m 5 #[.val (.int p0), .val (.int (0 : Int32)), .unset, .unset, .unset, .unset, .unset] [(.int (0 : Int32))])) _
    refine XS.ifNo X0.here hx rfl (hb hby at_5) rfl ((if0 _ _).trans (teq (by decide : (0 : Int32) = (0 : Int32))).2) ?_
    show Steps p.tables e below (s₁.setTop (mkF m 8 #[.val (.int p0), .val (.int (0 : Int32)), .unset, .unset, .unset, .unset, .unset] [])) _
    refine st1 _ ?_
    show Steps p.tables e below (T1.setTop (mkF m 11 #[.val (.int p0), .val (.int (0 : Int32)), .unset, .unset, .unset, .unset, .unset] [(.ref w_NONE)])) _
    refine XS.astoreN X1.here hx rfl (hb hby at_11) rfl rfl (l' := #[.val (.int p0), .val (.int (0 : Int32)), .val (.ref w_NONE), .unset, .unset, .unset, .unset]) rfl ?_
    show Steps p.tables e below (T1.setTop (mkF m 12 #[.val (.int p0), .val (.int (0 : Int32)), .val (.ref w_NONE), .unset, .unset, .unset, .unset] [])) _
    refine XS.goto X1.here hx rfl (pc0 := 12) (pc' := 43) rfl (hb hby at_12) (by decide) (by decide) ?_
    show Steps p.tables e below (T1.setTop (mkF m 43 #[.val (.int p0), .val (.int (0 : Int32)), .val (.ref w_NONE), .unset, .unset, .unset, .unset] [])) _
    refine XS.aloadN X1.here hx rfl (hb hby at_43) rfl rfl ?_
    show Steps p.tables e below (T1.setTop (mkF m 44 #[.val (.int p0), .val (.int (0 : Int32)), .val (.ref w_NONE), .unset, .unset, .unset, .unset] [(.ref w_NONE)])) _
    refine st2.trans ?_
    show Steps p.tables e below (T2.setTop (mkF m 47 #[.val (.int p0), .val (.int (0 : Int32)), .val (.ref w_NONE), .unset, .unset, .unset, .unset] [(.ref b2)])) _
    refine XS.astoreN X2.here hx rfl (hb hby at_47) rfl rfl (l' := #[.val (.int p0), .val (.int (0 : Int32)), .val (.ref w_NONE), .val (.ref b2), .unset, .unset, .unset]) rfl ?_
    show Steps p.tables e below (T2.setTop (mkF m 48 #[.val (.int p0), .val (.int (0 : Int32)), .val (.ref w_NONE), .val (.ref b2), .unset, .unset, .unset] [])) _
    refine XS.aloadN X2.here hx rfl (hb hby at_48) rfl rfl ?_
    show Steps p.tables e below (T2.setTop (mkF m 49 #[.val (.int p0), .val (.int (0 : Int32)), .val (.ref w_NONE), .val (.ref b2), .unset, .unset, .unset] [(.ref b2)])) _
    refine XS.ifnonnullYes X2.here hx rfl (pc0 := 49) (pc' := 54) rfl (hb hby at_49) rfl (by decide) (by decide) ?_
    show Steps p.tables e below (T2.setTop (mkF m 54 #[.val (.int p0), .val (.int (0 : Int32)), .val (.ref w_NONE), .val (.ref b2), .unset, .unset, .unset] [])) _
    refine XS.aloadN X2.here hx rfl (hb hby at_54) rfl rfl ?_
    show Steps p.tables e below (T2.setTop (mkF m 55 #[.val (.int p0), .val (.int (0 : Int32)), .val (.ref w_NONE), .val (.ref b2), .unset, .unset, .unset] [(.ref w_NONE)])) _
    refine st3 _ ?_
    show Steps p.tables e below (T3.setTop (mkF m 58 #[.val (.int p0), .val (.int (0 : Int32)), .val (.ref w_NONE), .val (.ref b2), .unset, .unset, .unset] [(.ref w_NONE), (.ref w_NONE)])) _
    refine Jvm.RoadKit.acmp (g := (mkF m 58 #[.val (.int p0), .val (.int (0 : Int32)), .val (.ref w_NONE), .val (.ref b2), .unset, .unset, .unset] [(.ref w_NONE), (.ref w_NONE)])) X3 hx rfl rfl rfl (pc0 := 58) (pc' := 61) (same := true) rfl (hb hby at_58) rfl (decide_eq_true rfl) (by decide) (by decide) ?_
    show Steps p.tables e below (T3.setTop (mkF m 61 #[.val (.int p0), .val (.int (0 : Int32)), .val (.ref w_NONE), .val (.ref b2), .unset, .unset, .unset] [])) _
    refine XS.aloadN X3.here hx rfl (hb hby at_61) rfl rfl ?_
    show Steps p.tables e below (T3.setTop (mkF m 62 #[.val (.int p0), .val (.int (0 : Int32)), .val (.ref w_NONE), .val (.ref b2), .unset, .unset, .unset] [(.ref b2)])) _
    refine st4.trans ?_
    show Steps p.tables e below (T4.setTop (mkF m 67 #[.val (.int p0), .val (.int (0 : Int32)), .val (.ref w_NONE), .val (.ref b2), .unset, .unset, .unset] [(.int (1 : Int32))])) _
    refine XS.iconst X4.here hx rfl (hb hby at_67) ?_
    show Steps p.tables e below (T4.setTop (mkF m 68 #[.val (.int p0), .val (.int (0 : Int32)), .val (.ref w_NONE), .val (.ref b2), .unset, .unset, .unset] [(.int (1 : Int32)), (.int (1 : Int32))])) _
    refine XS.icmpNo X4.here hx rfl (hb hby at_68) rfl (teq (by decide : (1 : Int32) = (1 : Int32))).2 ?_
    show Steps p.tables e below (T4.setTop (mkF m 71 #[.val (.int p0), .val (.int (0 : Int32)), .val (.ref w_NONE), .val (.ref b2), .unset, .unset, .unset] [])) _
    refine XS.aloadN X4.here hx rfl (hb hby at_71) rfl rfl ?_
    show Steps p.tables e below (T4.setTop (mkF m 72 #[.val (.int p0), .val (.int (0 : Int32)), .val (.ref w_NONE), .val (.ref b2), .unset, .unset, .unset] [(.ref b2)])) _
    refine XS.iconst X4.here hx rfl (hb hby at_72) ?_
    show Steps p.tables e below (T4.setTop (mkF m 73 #[.val (.int p0), .val (.int (0 : Int32)), .val (.ref w_NONE), .val (.ref b2), .unset, .unset, .unset] [(.int (0 : Int32)), (.ref b2)])) _
    refine st5.trans ?_
    show Steps p.tables e below (T5.setTop (mkF m 78 #[.val (.int p0), .val (.int (0 : Int32)), .val (.ref w_NONE), .val (.ref b2), .unset, .unset, .unset] [(.ref w_NONE)])) _
    refine st6 _ ?_
    show Steps p.tables e below (T6.setTop (mkF m 81 #[.val (.int p0), .val (.int (0 : Int32)), .val (.ref w_NONE), .val (.ref b2), .unset, .unset, .unset] [(.ref w_NONE), (.ref w_NONE)])) _
    refine Jvm.RoadKit.acmp (g := (mkF m 81 #[.val (.int p0), .val (.int (0 : Int32)), .val (.ref w_NONE), .val (.ref b2), .unset, .unset, .unset] [(.ref w_NONE), (.ref w_NONE)])) X6 hx rfl rfl rfl (pc0 := 81) (pc' := 84) (same := true) rfl (hb hby at_81) rfl (decide_eq_true rfl) (by decide) (by decide) ?_
    show Steps p.tables e below (T6.setTop (mkF m 84 #[.val (.int p0), .val (.int (0 : Int32)), .val (.ref w_NONE), .val (.ref b2), .unset, .unset, .unset] [])) _
    refine XS.iconst X6.here hx rfl (hb hby at_84) ?_
    show Steps p.tables e below (T6.setTop (mkF m 85 #[.val (.int p0), .val (.int (0 : Int32)), .val (.ref w_NONE), .val (.ref b2), .unset, .unset, .unset] [(.int (1 : Int32))])) _
    refine XS.goto X6.here hx rfl (pc0 := 85) (pc' := 89) rfl (hb hby at_85) (by decide) (by decide) ?_
    show Steps p.tables e below (T6.setTop (mkF m 89 #[.val (.int p0), .val (.int (0 : Int32)), .val (.ref w_NONE), .val (.ref b2), .unset, .unset, .unset] [(.int (1 : Int32))])) _
    exact retN X6 hx (t := .boolean) Bd.returns (by simp) (hb hby at_89) hr
  · have eF : (T6.setFrames fs).heap = T2.heap := e6
    exact ⟨N5, rfl⟩
set_option maxRecDepth 65536 in
set_option maxHeartbeats 40000000 in
theorem rm0_1 (l : Launch) (Z : State) (a0 : Array Value) (hw : ∀ d ∈ tables_1, d.before a0 Z = true) (ws : List Jvm.Cond) (n0 : Nat) (h0 : Heap) (O : Old Z n0 h0) (w_NONE : Addr) (w_RFC3986 : Addr) (w_URL_ENCODINGS : Addr) (w_URL_ENCODINGS_entries : Addr) (w_URL_ENCODINGS_entries_elements : Addr) (w_PHP : Addr) (w_JAVA : Addr) (w_EMPTY : Addr) (w_EMPTY_LIST : Addr) (k_w_URL_ENCODINGS_entries_elements : ClassId) (W : OwW Z w_NONE w_RFC3986 w_URL_ENCODINGS w_URL_ENCODINGS_entries w_URL_ENCODINGS_entries_elements w_PHP w_JAVA w_EMPTY w_EMPTY_LIST k_w_URL_ENCODINGS_entries_elements) (p0 : Int32) (hi : p0 &&& (3 : Int32) = (1 : Int32)) :
    OwCon l x code maxLocals ret ws room_1 #[(.int p0)] Z h0 (OwP (fun v _ => v = some (.int 1)) n0) := by
  refine MetFree.of_bodySF (plainFor_of_name owpn0) hisR ?_
  intro p e s m args below meth c s₁ Bd hml0 hP hK
  obtain ⟨rfl, hZ, hh⟩ := hP
  have hx := Bd.exec
  have hby := Bd.bytes
  have hml : c.maxLocals = 7 := hml0
  have hown : s.vm.findClass "com/example/quittance/quittance/signing/ValueEncodingCheckedUnderPinLaw" = some m.cls := findClass_of_methodNamed Bd.named
  have hnm := (name_of_methodNamed Bd.named Bd.method).1
  have X0 : Stand p l e room_1 s m #[(.int p0)] below meth c s₁ [] 0 0 := Stand.of_body Bd
  have e0 : s₁.heap = h0 := by rw [← hh, Bd.state]; rfl
  have N0 := Fr.nil n0
  have WW := W
  obtain ⟨E_w_NONE, E_w_RFC3986, E_w_URL_ENCODINGS, E_w_URL_ENCODINGS_entries, E_w_PHP, E_w_JAVA, E_w_EMPTY, E_w_EMPTY_LIST, S_ValueEncoding_NONE, S_ValueEncoding_RFC3986, S_ValueEncoding_URL_ENCODINGS, F_w_URL_ENCODINGS_entries, F_w_URL_ENCODINGS_entries_elements, S_ValueEncoding_PHP, S_ValueEncoding_JAVA, F_w_JAVA_ordinal, F_w_PHP_ordinal, F_w_RFC3986_ordinal, S_ImmutableCollections_EMPTY, S_ImmutableCollections__assertionsDisabled, S_ImmutableCollections_EMPTY_LIST, V_w_URL_ENCODINGS_entries_elements, ne_w_PHP_w_NONE, ne_w_JAVA_w_NONE, ne_w_RFC3986_w_NONE, ne_w_PHP_w_JAVA, ne_w_PHP_w_RFC3986, ne_w_JAVA_w_RFC3986, -⟩ := WW
  have ef : entryFrame m #[(.int p0)] maxLocals = mkF m 0 #[.val (.int p0), .unset, .unset, .unset, .unset, .unset, .unset] [] := by first | rfl | (simp [entryFrame, mkF, argsToLocals, Value.category, maxLocals]; done)
  have pre0 : ∀ t, Steps p.tables e below (s₁.setTop (mkF m 0 #[.val (.int p0), .unset, .unset, .unset, .unset, .unset, .unset] [])) t → Steps p.tables e below (s₁.setTop (entryFrame m #[(.int p0)] maxLocals)) t := fun t k => castTop ef k
  obtain ⟨T1, X1, e1, st1⟩ := getS2 X0 hx hZ hown (host := "") (Or.inl (hw _ (List.mem_of_getElem? (i := 103) rfl))) Via.refl e0 (S_ValueEncoding_PHP.ext O.2) (g := (mkF m 20 #[.val (.int p0), .val (.int (1 : Int32)), .unset, .unset, .unset, .unset, .unset] [])) rfl (hb hby at_20)
  obtain ⟨cq2, kq2, q2a, q2b, q2c⟩ := isOf hZ e1 (E_w_PHP.ext O.2)
  obtain ⟨_, _, ⟨T2, L2, k2, n2⟩, -, X2, ⟨Lc2, hQ2, l2, y2, z2⟩, st2⟩ := X1.virtualBack hx (y := (⟨"com/example/quittance/quittance/signing/ValueEncoding", "checkedUnder", "()Ljava/util/List;"⟩ : MethodName)) (z := (⟨"com/example/quittance/quittance/signing/ValueEncoding", "checkedUnder", "()Ljava/util/List;"⟩ : MethodName)) hown (mvT hZ (hw _ (List.mem_of_getElem? (i := 3) rfl))) (mvT hZ (hw _ (List.mem_of_getElem? (i := 4) rfl))) (notFace_of_selects (args := #[]) (mvT hZ (hw _ (List.mem_of_getElem? (i := 70) rfl)))) (mvT hZ (hw _ (List.mem_of_getElem? (i := 70) rfl))) (mvT hZ (hw _ (List.mem_of_getElem? (i := 5) rfl))) (by decide) (backOf (W := 0) (rm1_o l Z a0 hw [] n0 h0 O w_NONE w_RFC3986 w_URL_ENCODINGS w_URL_ENCODINGS_entries w_URL_ENCODINGS_entries_elements w_PHP w_JAVA w_EMPTY w_EMPTY_LIST k_w_URL_ENCODINGS_entries_elements W w_PHP ne_w_PHP_w_NONE) hZ (hw _ (List.mem_of_getElem? (i := 7) rfl)) (hw _ (List.mem_of_getElem? (i := 1) rfl)) (by decide) (by decide)) q2a q2c (g := (mkF m 44 #[.val (.int p0), .val (.int (1 : Int32)), .val (.ref w_PHP), .unset, .unset, .unset, .unset] [(.ref w_PHP)])) rfl (by rw [hml]; rfl) (Steps.refl _) (argsL := []) (rest := []) (lenOf owpd4 rfl) rfl (by show 2 * 0 + _ ≤ _; exact Nat.le_of_eq rfl) (hb hby at_44) (fun _ _ => ⟨rfl, e1, (by decide : 0 + 0 ≤ _), (by decide : 0 + 0 ≤ _)⟩)
  dsimp only [Pt.U, Pt.locs, Pt.cells, Pt.slots] at X2 l2 y2 z2 st2 hQ2
  subst l2 y2 z2
  obtain ⟨rfl, Nq2, e2⟩ := hQ2
  have N2 := Fr.app N0 Nq2
  obtain ⟨T3, X3, e3, st3⟩ := getS2 X2 hx hZ hown (host := "") (Or.inl (hw _ (List.mem_of_getElem? (i := 0) rfl))) Via.refl e2 (S_ValueEncoding_NONE.ext O.2) (g := (mkF m 55 #[.val (.int p0), .val (.int (1 : Int32)), .val (.ref w_PHP), .val (.ref w_URL_ENCODINGS_entries), .unset, .unset, .unset] [(.ref w_PHP)])) rfl (hb hby at_55)
  obtain ⟨cq4, kq4, q4a, q4b, q4c⟩ := isOf hZ e3 (E_w_URL_ENCODINGS_entries.ext O.2)
  obtain ⟨_, _, ⟨T4, L4, k4, n4⟩, -, X4, ⟨Lc4, hQ4, l4, y4, z4⟩, st4⟩ := X3.interfaceBack hx (xi := (⟨"java/util/List", "size", "()I"⟩ : MethodName)) (y := (⟨"java/util/ImmutableCollections$ListN", "size", "()I"⟩ : MethodName)) hown (mvT hZ (hw _ (List.mem_of_getElem? (i := 51) rfl))) (mvT hZ (hw _ (List.mem_of_getElem? (i := 52) rfl))) (mvT hZ (hw _ (List.mem_of_getElem? (i := 53) rfl))) (mvT hZ (hw _ (List.mem_of_getElem? (i := 81) rfl))) (mvT hZ (hw _ (List.mem_of_getElem? (i := 82) rfl))) (mvT hZ (hw _ (List.mem_of_getElem? (i := 83) rfl))) (mvT hZ (hw _ (List.mem_of_getElem? (i := 84) rfl))) (mvT hZ (hw _ (List.mem_of_getElem? (i := 85) rfl))) (by decide) (backOf (W := 0) (rm12 l Z a0 hw [] n0 h0 O w_NONE w_RFC3986 w_URL_ENCODINGS w_URL_ENCODINGS_entries w_URL_ENCODINGS_entries_elements w_PHP w_JAVA w_EMPTY w_EMPTY_LIST k_w_URL_ENCODINGS_entries_elements W  ) hZ (hw _ (List.mem_of_getElem? (i := 87) rfl)) (hw _ (List.mem_of_getElem? (i := 86) rfl)) (by decide) (by decide)) q4a q4b q4c (g := (mkF m 91 #[.val (.int p0), .val (.int (1 : Int32)), .val (.ref w_PHP), .val (.ref w_URL_ENCODINGS_entries), .unset, .unset, .unset] [(.ref w_URL_ENCODINGS_entries)])) rfl (by rw [hml]; rfl) (Steps.refl _) (argsL := []) (rest := []) (lenOf owpd5 rfl) rfl (by show 2 * 0 + _ ≤ _; exact Nat.le_of_eq rfl) (hb hby at_91) (fun _ _ => ⟨rfl, e3, (by decide : 0 + 0 ≤ _), (by decide : 0 + 0 ≤ _)⟩)
  dsimp only [Pt.U, Pt.locs, Pt.cells, Pt.slots] at X4 l4 y4 z4 st4 hQ4
  subst l4 y4 z4
  obtain ⟨rfl, Nq4, e4⟩ := hQ4
  have N4 := Fr.app N2 Nq4
  obtain ⟨cq5, kq5, q5a, q5b, q5c⟩ := isOf hZ e4 (E_w_URL_ENCODINGS_entries.ext O.2)
  obtain ⟨_, _, ⟨T5, L5, k5, n5⟩, -, X5, ⟨Lc5, hQ5, l5, y5, z5⟩, st5⟩ := X4.interfaceBack hx (xi := (⟨"java/util/List", "get", "(I)Ljava/lang/Object;"⟩ : MethodName)) (y := (⟨"java/util/ImmutableCollections$ListN", "get", "(I)Ljava/lang/Object;"⟩ : MethodName)) hown (mvT hZ (hw _ (List.mem_of_getElem? (i := 60) rfl))) (mvT hZ (hw _ (List.mem_of_getElem? (i := 61) rfl))) (mvT hZ (hw _ (List.mem_of_getElem? (i := 62) rfl))) (mvT hZ (hw _ (List.mem_of_getElem? (i := 90) rfl))) (mvT hZ (hw _ (List.mem_of_getElem? (i := 91) rfl))) (mvT hZ (hw _ (List.mem_of_getElem? (i := 92) rfl))) (mvT hZ (hw _ (List.mem_of_getElem? (i := 93) rfl))) (mvT hZ (hw _ (List.mem_of_getElem? (i := 85) rfl))) (by decide) (backOf (W := 0) (rm13_0 l Z a0 hw [] n0 h0 O w_NONE w_RFC3986 w_URL_ENCODINGS w_URL_ENCODINGS_entries w_URL_ENCODINGS_entries_elements w_PHP w_JAVA w_EMPTY w_EMPTY_LIST k_w_URL_ENCODINGS_entries_elements W  ) hZ (hw _ (List.mem_of_getElem? (i := 94) rfl)) (hw _ (List.mem_of_getElem? (i := 86) rfl)) (by decide) (by decide)) q5a q5b q5c (g := (mkF m 104 #[.val (.int p0), .val (.int (1 : Int32)), .val (.ref w_PHP), .val (.ref w_URL_ENCODINGS_entries), .unset, .unset, .unset] [(.int (0 : Int32)), (.ref w_URL_ENCODINGS_entries)])) rfl (by rw [hml]; rfl) (Steps.refl _) (argsL := [(.int (0 : Int32))]) (rest := []) (lenOf owpd6 rfl) rfl (by show 2 * 0 + _ ≤ _; exact Nat.le_of_eq rfl) (hb hby at_104) (fun _ _ => ⟨rfl, e4, (by decide : 0 + 0 ≤ _), (by decide : 0 + 0 ≤ _)⟩)
  dsimp only [Pt.U, Pt.locs, Pt.cells, Pt.slots] at X5 l5 y5 z5 st5 hQ5
  subst l5 y5 z5
  obtain ⟨rfl, Nq5, e5⟩ := hQ5
  have N5 := Fr.app N4 Nq5
  obtain ⟨T6, X6, e6, st6⟩ := castY X5 hx hZ hown (hw _ (List.mem_of_getElem? (i := 96) rfl)) e5 (Ins.self (E_w_PHP.ext O.2)) (g := (mkF m 109 #[.val (.int p0), .val (.int (1 : Int32)), .val (.ref w_PHP), .val (.ref w_URL_ENCODINGS_entries), .unset, .unset, .unset] [(.ref w_PHP)])) rfl rfl (hb hby at_109)
  obtain ⟨cq7, kq7, q7a, q7b, q7c⟩ := isOf hZ e6 (E_w_URL_ENCODINGS_entries.ext O.2)
  obtain ⟨_, _, ⟨T7, L7, k7, n7⟩, -, X7, ⟨Lc7, hQ7, l7, y7, z7⟩, st7⟩ := X6.interfaceBack hx (xi := (⟨"java/util/List", "get", "(I)Ljava/lang/Object;"⟩ : MethodName)) (y := (⟨"java/util/ImmutableCollections$ListN", "get", "(I)Ljava/lang/Object;"⟩ : MethodName)) hown (mvT hZ (hw _ (List.mem_of_getElem? (i := 60) rfl))) (mvT hZ (hw _ (List.mem_of_getElem? (i := 61) rfl))) (mvT hZ (hw _ (List.mem_of_getElem? (i := 62) rfl))) (mvT hZ (hw _ (List.mem_of_getElem? (i := 90) rfl))) (mvT hZ (hw _ (List.mem_of_getElem? (i := 91) rfl))) (mvT hZ (hw _ (List.mem_of_getElem? (i := 92) rfl))) (mvT hZ (hw _ (List.mem_of_getElem? (i := 93) rfl))) (mvT hZ (hw _ (List.mem_of_getElem? (i := 85) rfl))) (by decide) (backOf (W := 0) (rm13_1 l Z a0 hw [] n0 h0 O w_NONE w_RFC3986 w_URL_ENCODINGS w_URL_ENCODINGS_entries w_URL_ENCODINGS_entries_elements w_PHP w_JAVA w_EMPTY w_EMPTY_LIST k_w_URL_ENCODINGS_entries_elements W  ) hZ (hw _ (List.mem_of_getElem? (i := 94) rfl)) (hw _ (List.mem_of_getElem? (i := 86) rfl)) (by decide) (by decide)) q7a q7b q7c (g := (mkF m 116 #[.val (.int p0), .val (.int (1 : Int32)), .val (.ref w_PHP), .val (.ref w_URL_ENCODINGS_entries), .val (.ref w_PHP), .unset, .unset] [(.int (1 : Int32)), (.ref w_URL_ENCODINGS_entries)])) rfl (by rw [hml]; rfl) (Steps.refl _) (argsL := [(.int (1 : Int32))]) (rest := []) (lenOf owpd6 rfl) rfl (by show 2 * 0 + _ ≤ _; exact Nat.le_of_eq rfl) (hb hby at_116) (fun _ _ => ⟨rfl, e6, (by decide : 0 + 0 ≤ _), (by decide : 0 + 0 ≤ _)⟩)
  dsimp only [Pt.U, Pt.locs, Pt.cells, Pt.slots] at X7 l7 y7 z7 st7 hQ7
  subst l7 y7 z7
  obtain ⟨rfl, Nq7, e7⟩ := hQ7
  have N7 := Fr.app N5 Nq7
  obtain ⟨T8, X8, e8, st8⟩ := castY X7 hx hZ hown (hw _ (List.mem_of_getElem? (i := 96) rfl)) e7 (Ins.self (E_w_JAVA.ext O.2)) (g := (mkF m 121 #[.val (.int p0), .val (.int (1 : Int32)), .val (.ref w_PHP), .val (.ref w_URL_ENCODINGS_entries), .val (.ref w_PHP), .unset, .unset] [(.ref w_JAVA)])) rfl rfl (hb hby at_121)
  obtain ⟨cq9, kq9, q9a, q9b, q9c⟩ := isOf hZ e8 (E_w_URL_ENCODINGS_entries.ext O.2)
  obtain ⟨_, _, ⟨T9, L9, k9, n9⟩, -, X9, ⟨Lc9, hQ9, l9, y9, z9⟩, st9⟩ := X8.interfaceBack hx (xi := (⟨"java/util/List", "get", "(I)Ljava/lang/Object;"⟩ : MethodName)) (y := (⟨"java/util/ImmutableCollections$ListN", "get", "(I)Ljava/lang/Object;"⟩ : MethodName)) hown (mvT hZ (hw _ (List.mem_of_getElem? (i := 60) rfl))) (mvT hZ (hw _ (List.mem_of_getElem? (i := 61) rfl))) (mvT hZ (hw _ (List.mem_of_getElem? (i := 62) rfl))) (mvT hZ (hw _ (List.mem_of_getElem? (i := 90) rfl))) (mvT hZ (hw _ (List.mem_of_getElem? (i := 91) rfl))) (mvT hZ (hw _ (List.mem_of_getElem? (i := 92) rfl))) (mvT hZ (hw _ (List.mem_of_getElem? (i := 93) rfl))) (mvT hZ (hw _ (List.mem_of_getElem? (i := 85) rfl))) (by decide) (backOf (W := 0) (rm13_2 l Z a0 hw [] n0 h0 O w_NONE w_RFC3986 w_URL_ENCODINGS w_URL_ENCODINGS_entries w_URL_ENCODINGS_entries_elements w_PHP w_JAVA w_EMPTY w_EMPTY_LIST k_w_URL_ENCODINGS_entries_elements W  ) hZ (hw _ (List.mem_of_getElem? (i := 94) rfl)) (hw _ (List.mem_of_getElem? (i := 86) rfl)) (by decide) (by decide)) q9a q9b q9c (g := (mkF m 128 #[.val (.int p0), .val (.int (1 : Int32)), .val (.ref w_PHP), .val (.ref w_URL_ENCODINGS_entries), .val (.ref w_PHP), .val (.ref w_JAVA), .unset] [(.int (2 : Int32)), (.ref w_URL_ENCODINGS_entries)])) rfl (by rw [hml]; rfl) (Steps.refl _) (argsL := [(.int (2 : Int32))]) (rest := []) (lenOf owpd6 rfl) rfl (by show 2 * 0 + _ ≤ _; exact Nat.le_of_eq rfl) (hb hby at_128) (fun _ _ => ⟨rfl, e8, (by decide : 0 + 0 ≤ _), (by decide : 0 + 0 ≤ _)⟩)
  dsimp only [Pt.U, Pt.locs, Pt.cells, Pt.slots] at X9 l9 y9 z9 st9 hQ9
  subst l9 y9 z9
  obtain ⟨rfl, Nq9, e9⟩ := hQ9
  have N9 := Fr.app N7 Nq9
  obtain ⟨T10, X10, e10, st10⟩ := castY X9 hx hZ hown (hw _ (List.mem_of_getElem? (i := 96) rfl)) e9 (Ins.self (E_w_RFC3986.ext O.2)) (g := (mkF m 133 #[.val (.int p0), .val (.int (1 : Int32)), .val (.ref w_PHP), .val (.ref w_URL_ENCODINGS_entries), .val (.ref w_PHP), .val (.ref w_JAVA), .unset] [(.ref w_RFC3986)])) rfl rfl (hb hby at_133)
  obtain ⟨_, _, ⟨T11, L11, k11, n11⟩, -, X11, ⟨Lc11, hQ11, l11, y11, z11⟩, st11⟩ := Jvm.LawKit.callS X10 hx (y := (⟨"com/example/quittance/quittance/signing/ValueEncodingCheckedUnderPinLaw", "isUrl", "(Lcom/example/quittance/quittance/signing/ValueEncoding;)Z"⟩ : MethodName)) hown (mvT hZ (hw _ (List.mem_of_getElem? (i := 99) rfl))) (mvT hZ (hw _ (List.mem_of_getElem? (i := 100) rfl))) (mvT hZ (hw _ (List.mem_of_getElem? (i := 101) rfl))) (mvT hZ (hw _ (List.mem_of_getElem? (i := 102) rfl))) (by decide) (backOf (W := 0) (rm14_PHP l Z a0 hw [] n0 h0 O w_NONE w_RFC3986 w_URL_ENCODINGS w_URL_ENCODINGS_entries w_URL_ENCODINGS_entries_elements w_PHP w_JAVA w_EMPTY w_EMPTY_LIST k_w_URL_ENCODINGS_entries_elements W  ) hZ (hw _ (List.mem_of_getElem? (i := 102) rfl)) (hw _ (List.mem_of_getElem? (i := 101) rfl)) (by decide) (by decide)) (g := (mkF m 140 #[.val (.int p0), .val (.int (1 : Int32)), .val (.ref w_PHP), .val (.ref w_URL_ENCODINGS_entries), .val (.ref w_PHP), .val (.ref w_JAVA), .val (.ref w_RFC3986)] [(.ref w_PHP)])) rfl (by rw [hml]; rfl) (argsL := [(.ref w_PHP)]) (rest := []) (lenOf owpd7 rfl) rfl (by show 2 * 0 + _ ≤ _; exact Nat.le_of_eq rfl) (hb hby at_140) (fun _ _ => ⟨rfl, e10, (by decide : 0 + 0 ≤ _), (by decide : 0 + 0 ≤ _)⟩)
  dsimp only [Pt.U, Pt.locs, Pt.cells, Pt.slots] at X11 l11 y11 z11 st11 hQ11
  subst l11 y11 z11
  obtain ⟨rfl, Nq11, e11⟩ := hQ11
  have N11 := Fr.app N9 Nq11
  obtain ⟨_, _, ⟨T12, L12, k12, n12⟩, -, X12, ⟨Lc12, hQ12, l12, y12, z12⟩, st12⟩ := Jvm.LawKit.callS X11 hx (y := (⟨"com/example/quittance/quittance/signing/ValueEncodingCheckedUnderPinLaw", "isUrl", "(Lcom/example/quittance/quittance/signing/ValueEncoding;)Z"⟩ : MethodName)) hown (mvT hZ (hw _ (List.mem_of_getElem? (i := 99) rfl))) (mvT hZ (hw _ (List.mem_of_getElem? (i := 100) rfl))) (mvT hZ (hw _ (List.mem_of_getElem? (i := 101) rfl))) (mvT hZ (hw _ (List.mem_of_getElem? (i := 102) rfl))) (by decide) (backOf (W := 0) (rm14_JAVA l Z a0 hw [] n0 h0 O w_NONE w_RFC3986 w_URL_ENCODINGS w_URL_ENCODINGS_entries w_URL_ENCODINGS_entries_elements w_PHP w_JAVA w_EMPTY w_EMPTY_LIST k_w_URL_ENCODINGS_entries_elements W  ) hZ (hw _ (List.mem_of_getElem? (i := 102) rfl)) (hw _ (List.mem_of_getElem? (i := 101) rfl)) (by decide) (by decide)) (g := (mkF m 148 #[.val (.int p0), .val (.int (1 : Int32)), .val (.ref w_PHP), .val (.ref w_URL_ENCODINGS_entries), .val (.ref w_PHP), .val (.ref w_JAVA), .val (.ref w_RFC3986)] [(.ref w_JAVA)])) rfl (by rw [hml]; rfl) (argsL := [(.ref w_JAVA)]) (rest := []) (lenOf owpd7 rfl) rfl (by show 2 * 0 + _ ≤ _; exact Nat.le_of_eq rfl) (hb hby at_148) (fun _ _ => ⟨rfl, e11, (by decide : 0 + 0 ≤ _), (by decide : 0 + 0 ≤ _)⟩)
  dsimp only [Pt.U, Pt.locs, Pt.cells, Pt.slots] at X12 l12 y12 z12 st12 hQ12
  subst l12 y12 z12
  obtain ⟨rfl, Nq12, e12⟩ := hQ12
  have N12 := Fr.app N11 Nq12
  obtain ⟨_, _, ⟨T13, L13, k13, n13⟩, -, X13, ⟨Lc13, hQ13, l13, y13, z13⟩, st13⟩ := Jvm.LawKit.callS X12 hx (y := (⟨"com/example/quittance/quittance/signing/ValueEncodingCheckedUnderPinLaw", "isUrl", "(Lcom/example/quittance/quittance/signing/ValueEncoding;)Z"⟩ : MethodName)) hown (mvT hZ (hw _ (List.mem_of_getElem? (i := 99) rfl))) (mvT hZ (hw _ (List.mem_of_getElem? (i := 100) rfl))) (mvT hZ (hw _ (List.mem_of_getElem? (i := 101) rfl))) (mvT hZ (hw _ (List.mem_of_getElem? (i := 102) rfl))) (by decide) (backOf (W := 0) (rm14_RFC3986 l Z a0 hw [] n0 h0 O w_NONE w_RFC3986 w_URL_ENCODINGS w_URL_ENCODINGS_entries w_URL_ENCODINGS_entries_elements w_PHP w_JAVA w_EMPTY w_EMPTY_LIST k_w_URL_ENCODINGS_entries_elements W  ) hZ (hw _ (List.mem_of_getElem? (i := 102) rfl)) (hw _ (List.mem_of_getElem? (i := 101) rfl)) (by decide) (by decide)) (g := (mkF m 156 #[.val (.int p0), .val (.int (1 : Int32)), .val (.ref w_PHP), .val (.ref w_URL_ENCODINGS_entries), .val (.ref w_PHP), .val (.ref w_JAVA), .val (.ref w_RFC3986)] [(.ref w_RFC3986)])) rfl (by rw [hml]; rfl) (argsL := [(.ref w_RFC3986)]) (rest := []) (lenOf owpd7 rfl) rfl (by show 2 * 0 + _ ≤ _; exact Nat.le_of_eq rfl) (hb hby at_156) (fun _ _ => ⟨rfl, e12, (by decide : 0 + 0 ≤ _), (by decide : 0 + 0 ≤ _)⟩)
  dsimp only [Pt.U, Pt.locs, Pt.cells, Pt.slots] at X13 l13 y13 z13 st13 hQ13
  subst l13 y13 z13
  obtain ⟨rfl, Nq13, e13⟩ := hQ13
  have N13 := Fr.app N12 Nq13
  obtain ⟨fs, hr, hrun, hended, hW, hsame⟩ := X13.leave (v := some (.int (1 : Int32))) (fun h => by rw [Bd.returns] at h; cases h)
  refine ⟨_, _, pre0 _ ?_, hrun, hended, _, _, rfl, ?_, ⟨_, rfl⟩, hW, hsame.mono (by decide) (by decide)⟩
  · show Steps p.tables e below (s₁.setTop (mkF m 0 #[.val (.int p0), .unset, .unset, .unset, .unset, .unset, .unset] [])) _
    refine XS.iloadN X0.here hx rfl (hb hby at_0) rfl ?_
    show Steps p.tables e below (s₁.setTop (mkF m 1 #[.val (.int p0), .unset, .unset, .unset, .unset, .unset, .unset] [(.int p0)])) _
    refine XS.iconst X0.here hx rfl (hb hby at_1) ?_
    show Steps p.tables e below (s₁.setTop (mkF m 2 #[.val (.int p0), .unset, .unset, .unset, .unset, .unset, .unset] [(.int (3 : Int32)), (.int p0)])) _
    refine XS.iand X0.here hx rfl (hb hby at_2) rfl ?_
    show Steps p.tables e below (s₁.setTop (mkF m 3 #[.val (.int p0), .unset, .unset, .unset, .unset, .unset, .unset] [(.int (p0 &&& (3 : Int32)))])) _
    rw [hi]
    show Steps p.tables e below (s₁.setTop (mkF m 3 #[.val (.int p0), .unset, .unset, .unset, .unset, .unset, .unset] [(.int (1 : Int32))])) _
    refine XS.istoreN X0.here hx rfl (hb hby at_3) rfl (l' := #[.val (.int p0), .val (.int (1 : Int32)), .unset, .unset, .unset, .unset, .unset]) rfl ?_
    show Steps p.tables e below (s₁.setTop (mkF m 4 #[.val (.int p0), .val (.int (1 : Int32)), .unset, .unset, .unset, .unset, .unset] [])) _
    refine XS.iloadN X0.here hx rfl (hb hby at_4) rfl ?_
    show Steps p.tables e below (s₁.setTop (mkF m 5 #[.val (.int p0), .val (.int (1 : Int32)), .unset, .unset, .unset, .unset, .unset] [(.int (1 : Int32))])) _
    refine XS.ifYes X0.here hx rfl (pc0 := 5) (pc' := 15) rfl (hb hby at_5) rfl ((if0 _ _).trans (feq (by decide : ¬ ((1 : Int32) = (0 : Int32)))).2) (by decide) (by decide) ?_
    show Steps p.tables e below (s₁.setTop (mkF m 15 #[.val (.int p0), .val (.int (1 : Int32)), .unset, .unset, .unset, .unset, .unset] [])) _
    refine XS.iloadN X0.here hx rfl (hb hby at_15) rfl ?_
    show Steps p.tables e below (s₁.setTop (mkF m 16 #[.val (.int p0), .val (.int (1 : Int32)), .unset, .unset, .unset, .unset, .unset] [(.int (1 : Int32))])) _
    refine XS.iconst X0.here hx rfl (hb hby at_16) ?_
    show Steps p.tables e below (s₁.setTop (mkF m 17 #[.val (.int p0), .val (.int (1 : Int32)), .unset, .unset, .unset, .unset, .unset] [(.int (1 : Int32)), (.int (1 : Int32))])) _
    refine XS.icmpNo X0.here hx rfl (hb hby at_17) rfl (teq (by decide : (1 : Int32) = (1 : Int32))).2 ?_
    show Steps p.tables e below (s₁.setTop (mkF m 20 #[.val (.int p0), .val (.int (1 : Int32)), .unset, .unset, .unset, .unset, .unset] [])) _
    refine st1 _ ?_
    show Steps p.tables e below (T1.setTop (mkF m 23 #[.val (.int p0), .val (.int (1 : Int32)), .unset, .unset, .unset, .unset, .unset] [(.ref w_PHP)])) _
    refine XS.astoreN X1.here hx rfl (hb hby at_23) rfl rfl (l' := #[.val (.int p0), .val (.int (1 : Int32)), .val (.ref w_PHP), .unset, .unset, .unset, .unset]) rfl ?_
    show Steps p.tables e below (T1.setTop (mkF m 24 #[.val (.int p0), .val (.int (1 : Int32)), .val (.ref w_PHP), .unset, .unset, .unset, .unset] [])) _
    refine XS.goto X1.here hx rfl (pc0 := 24) (pc' := 43) rfl (hb hby at_24) (by decide) (by decide) ?_
    show Steps p.tables e below (T1.setTop (mkF m 43 #[.val (.int p0), .val (.int (1 : Int32)), .val (.ref w_PHP), .unset, .unset, .unset, .unset] [])) _
    refine XS.aloadN X1.here hx rfl (hb hby at_43) rfl rfl ?_
    show Steps p.tables e below (T1.setTop (mkF m 44 #[.val (.int p0), .val (.int (1 : Int32)), .val (.ref w_PHP), .unset, .unset, .unset, .unset] [(.ref w_PHP)])) _
    refine st2.trans ?_
    show Steps p.tables e below (T2.setTop (mkF m 47 #[.val (.int p0), .val (.int (1 : Int32)), .val (.ref w_PHP), .unset, .unset, .unset, .unset] [(.ref w_URL_ENCODINGS_entries)])) _
    refine XS.astoreN X2.here hx rfl (hb hby at_47) rfl rfl (l' := #[.val (.int p0), .val (.int (1 : Int32)), .val (.ref w_PHP), .val (.ref w_URL_ENCODINGS_entries), .unset, .unset, .unset]) rfl ?_
    show Steps p.tables e below (T2.setTop (mkF m 48 #[.val (.int p0), .val (.int (1 : Int32)), .val (.ref w_PHP), .val (.ref w_URL_ENCODINGS_entries), .unset, .unset, .unset] [])) _
    refine XS.aloadN X2.here hx rfl (hb hby at_48) rfl rfl ?_
    show Steps p.tables e below (T2.setTop (mkF m 49 #[.val (.int p0), .val (.int (1 : Int32)), .val (.ref w_PHP), .val (.ref w_URL_ENCODINGS_entries), .unset, .unset, .unset] [(.ref w_URL_ENCODINGS_entries)])) _
    refine XS.ifnonnullYes X2.here hx rfl (pc0 := 49) (pc' := 54) rfl (hb hby at_49) rfl (by decide) (by decide) ?_
    show Steps p.tables e below (T2.setTop (mkF m 54 #[.val (.int p0), .val (.int (1 : Int32)), .val (.ref w_PHP), .val (.ref w_URL_ENCODINGS_entries), .unset, .unset, .unset] [])) _
    refine XS.aloadN X2.here hx rfl (hb hby at_54) rfl rfl ?_
    show Steps p.tables e below (T2.setTop (mkF m 55 #[.val (.int p0), .val (.int (1 : Int32)), .val (.ref w_PHP), .val (.ref w_URL_ENCODINGS_entries), .unset, .unset, .unset] [(.ref w_PHP)])) _
    refine st3 _ ?_
    show Steps p.tables e below (T3.setTop (mkF m 58 #[.val (.int p0), .val (.int (1 : Int32)), .val (.ref w_PHP), .val (.ref w_URL_ENCODINGS_entries), .unset, .unset, .unset] [(.ref w_NONE), (.ref w_PHP)])) _
    refine Jvm.RoadKit.acmp (g := (mkF m 58 #[.val (.int p0), .val (.int (1 : Int32)), .val (.ref w_PHP), .val (.ref w_URL_ENCODINGS_entries), .unset, .unset, .unset] [(.ref w_NONE), (.ref w_PHP)])) X3 hx rfl rfl rfl (pc0 := 58) (pc' := 90) (same := false) rfl (hb hby at_58) rfl (decide_eq_false fun q => ne_w_PHP_w_NONE (Value.ref.inj q)) (by decide) (by decide) ?_
    show Steps p.tables e below (T3.setTop (mkF m 90 #[.val (.int p0), .val (.int (1 : Int32)), .val (.ref w_PHP), .val (.ref w_URL_ENCODINGS_entries), .unset, .unset, .unset] [])) _
    refine XS.aloadN X3.here hx rfl (hb hby at_90) rfl rfl ?_
    show Steps p.tables e below (T3.setTop (mkF m 91 #[.val (.int p0), .val (.int (1 : Int32)), .val (.ref w_PHP), .val (.ref w_URL_ENCODINGS_entries), .unset, .unset, .unset] [(.ref w_URL_ENCODINGS_entries)])) _
    refine st4.trans ?_
    show Steps p.tables e below (T4.setTop (mkF m 96 #[.val (.int p0), .val (.int (1 : Int32)), .val (.ref w_PHP), .val (.ref w_URL_ENCODINGS_entries), .unset, .unset, .unset] [(.int (3 : Int32))])) _
    refine XS.iconst X4.here hx rfl (hb hby at_96) ?_
    show Steps p.tables e below (T4.setTop (mkF m 97 #[.val (.int p0), .val (.int (1 : Int32)), .val (.ref w_PHP), .val (.ref w_URL_ENCODINGS_entries), .unset, .unset, .unset] [(.int (3 : Int32)), (.int (3 : Int32))])) _
    refine XS.icmpYes X4.here hx rfl (pc0 := 97) (pc' := 102) rfl (hb hby at_97) rfl (teq (by decide : (3 : Int32) = (3 : Int32))).1 (by decide) (by decide) ?_
    show Steps p.tables e below (T4.setTop (mkF m 102 #[.val (.int p0), .val (.int (1 : Int32)), .val (.ref w_PHP), .val (.ref w_URL_ENCODINGS_entries), .unset, .unset, .unset] [])) _
    refine XS.aloadN X4.here hx rfl (hb hby at_102) rfl rfl ?_
    show Steps p.tables e below (T4.setTop (mkF m 103 #[.val (.int p0), .val (.int (1 : Int32)), .val (.ref w_PHP), .val (.ref w_URL_ENCODINGS_entries), .unset, .unset, .unset] [(.ref w_URL_ENCODINGS_entries)])) _
    refine XS.iconst X4.here hx rfl (hb hby at_103) ?_
    show Steps p.tables e below (T4.setTop (mkF m 104 #[.val (.int p0), .val (.int (1 : Int32)), .val (.ref w_PHP), .val (.ref w_URL_ENCODINGS_entries), .unset, .unset, .unset] [(.int (0 : Int32)), (.ref w_URL_ENCODINGS_entries)])) _
    refine st5.trans ?_
    show Steps p.tables e below (T5.setTop (mkF m 109 #[.val (.int p0), .val (.int (1 : Int32)), .val (.ref w_PHP), .val (.ref w_URL_ENCODINGS_entries), .unset, .unset, .unset] [(.ref w_PHP)])) _
    refine st6 _ ?_
    show Steps p.tables e below (T6.setTop (mkF m 112 #[.val (.int p0), .val (.int (1 : Int32)), .val (.ref w_PHP), .val (.ref w_URL_ENCODINGS_entries), .unset, .unset, .unset] [(.ref w_PHP)])) _
    refine XS.astore X6.here hx rfl (hb hby at_112) rfl rfl (l' := #[.val (.int p0), .val (.int (1 : Int32)), .val (.ref w_PHP), .val (.ref w_URL_ENCODINGS_entries), .val (.ref w_PHP), .unset, .unset]) rfl ?_
    show Steps p.tables e below (T6.setTop (mkF m 114 #[.val (.int p0), .val (.int (1 : Int32)), .val (.ref w_PHP), .val (.ref w_URL_ENCODINGS_entries), .val (.ref w_PHP), .unset, .unset] [])) _
    refine XS.aloadN X6.here hx rfl (hb hby at_114) rfl rfl ?_
    show Steps p.tables e below (T6.setTop (mkF m 115 #[.val (.int p0), .val (.int (1 : Int32)), .val (.ref w_PHP), .val (.ref w_URL_ENCODINGS_entries), .val (.ref w_PHP), .unset, .unset] [(.ref w_URL_ENCODINGS_entries)])) _
    refine XS.iconst X6.here hx rfl (hb hby at_115) ?_
    show Steps p.tables e below (T6.setTop (mkF m 116 #[.val (.int p0), .val (.int (1 : Int32)), .val (.ref w_PHP), .val (.ref w_URL_ENCODINGS_entries), .val (.ref w_PHP), .unset, .unset] [(.int (1 : Int32)), (.ref w_URL_ENCODINGS_entries)])) _
    refine st7.trans ?_
    show Steps p.tables e below (T7.setTop (mkF m 121 #[.val (.int p0), .val (.int (1 : Int32)), .val (.ref w_PHP), .val (.ref w_URL_ENCODINGS_entries), .val (.ref w_PHP), .unset, .unset] [(.ref w_JAVA)])) _
    refine st8 _ ?_
    show Steps p.tables e below (T8.setTop (mkF m 124 #[.val (.int p0), .val (.int (1 : Int32)), .val (.ref w_PHP), .val (.ref w_URL_ENCODINGS_entries), .val (.ref w_PHP), .unset, .unset] [(.ref w_JAVA)])) _
    refine XS.astore X8.here hx rfl (hb hby at_124) rfl rfl (l' := #[.val (.int p0), .val (.int (1 : Int32)), .val (.ref w_PHP), .val (.ref w_URL_ENCODINGS_entries), .val (.ref w_PHP), .val (.ref w_JAVA), .unset]) rfl ?_
    show Steps p.tables e below (T8.setTop (mkF m 126 #[.val (.int p0), .val (.int (1 : Int32)), .val (.ref w_PHP), .val (.ref w_URL_ENCODINGS_entries), .val (.ref w_PHP), .val (.ref w_JAVA), .unset] [])) _
    refine XS.aloadN X8.here hx rfl (hb hby at_126) rfl rfl ?_
    show Steps p.tables e below (T8.setTop (mkF m 127 #[.val (.int p0), .val (.int (1 : Int32)), .val (.ref w_PHP), .val (.ref w_URL_ENCODINGS_entries), .val (.ref w_PHP), .val (.ref w_JAVA), .unset] [(.ref w_URL_ENCODINGS_entries)])) _
    refine XS.iconst X8.here hx rfl (hb hby at_127) ?_
    show Steps p.tables e below (T8.setTop (mkF m 128 #[.val (.int p0), .val (.int (1 : Int32)), .val (.ref w_PHP), .val (.ref w_URL_ENCODINGS_entries), .val (.ref w_PHP), .val (.ref w_JAVA), .unset] [(.int (2 : Int32)), (.ref w_URL_ENCODINGS_entries)])) _
    refine st9.trans ?_
    show Steps p.tables e below (T9.setTop (mkF m 133 #[.val (.int p0), .val (.int (1 : Int32)), .val (.ref w_PHP), .val (.ref w_URL_ENCODINGS_entries), .val (.ref w_PHP), .val (.ref w_JAVA), .unset] [(.ref w_RFC3986)])) _
    refine st10 _ ?_
    show Steps p.tables e below (T10.setTop (mkF m 136 #[.val (.int p0), .val (.int (1 : Int32)), .val (.ref w_PHP), .val (.ref w_URL_ENCODINGS_entries), .val (.ref w_PHP), .val (.ref w_JAVA), .unset] [(.ref w_RFC3986)])) _
    refine XS.astore X10.here hx rfl (hb hby at_136) rfl rfl (l' := #[.val (.int p0), .val (.int (1 : Int32)), .val (.ref w_PHP), .val (.ref w_URL_ENCODINGS_entries), .val (.ref w_PHP), .val (.ref w_JAVA), .val (.ref w_RFC3986)]) rfl ?_
    show Steps p.tables e below (T10.setTop (mkF m 138 #[.val (.int p0), .val (.int (1 : Int32)), .val (.ref w_PHP), .val (.ref w_URL_ENCODINGS_entries), .val (.ref w_PHP), .val (.ref w_JAVA), .val (.ref w_RFC3986)] [])) _
    refine XS.aload X10.here hx rfl (hb hby at_138) rfl rfl ?_
    show Steps p.tables e below (T10.setTop (mkF m 140 #[.val (.int p0), .val (.int (1 : Int32)), .val (.ref w_PHP), .val (.ref w_URL_ENCODINGS_entries), .val (.ref w_PHP), .val (.ref w_JAVA), .val (.ref w_RFC3986)] [(.ref w_PHP)])) _
    refine st11 _ ?_
    show Steps p.tables e below (T11.setTop (mkF m 143 #[.val (.int p0), .val (.int (1 : Int32)), .val (.ref w_PHP), .val (.ref w_URL_ENCODINGS_entries), .val (.ref w_PHP), .val (.ref w_JAVA), .val (.ref w_RFC3986)] [(.int (1 : Int32))])) _
    refine XS.ifNo X11.here hx rfl (hb hby at_143) rfl ((if0 _ _).trans (feq (by decide : ¬ ((1 : Int32) = (0 : Int32)))).1) ?_
    show Steps p.tables e below (T11.setTop (mkF m 146 #[.val (.int p0), .val (.int (1 : Int32)), .val (.ref w_PHP), .val (.ref w_URL_ENCODINGS_entries), .val (.ref w_PHP), .val (.ref w_JAVA), .val (.ref w_RFC3986)] [])) _
    refine XS.aload X11.here hx rfl (hb hby at_146) rfl rfl ?_
    show Steps p.tables e below (T11.setTop (mkF m 148 #[.val (.int p0), .val (.int (1 : Int32)), .val (.ref w_PHP), .val (.ref w_URL_ENCODINGS_entries), .val (.ref w_PHP), .val (.ref w_JAVA), .val (.ref w_RFC3986)] [(.ref w_JAVA)])) _
    refine st12 _ ?_
    show Steps p.tables e below (T12.setTop (mkF m 151 #[.val (.int p0), .val (.int (1 : Int32)), .val (.ref w_PHP), .val (.ref w_URL_ENCODINGS_entries), .val (.ref w_PHP), .val (.ref w_JAVA), .val (.ref w_RFC3986)] [(.int (1 : Int32))])) _
    refine XS.ifNo X12.here hx rfl (hb hby at_151) rfl ((if0 _ _).trans (feq (by decide : ¬ ((1 : Int32) = (0 : Int32)))).1) ?_
    show Steps p.tables e below (T12.setTop (mkF m 154 #[.val (.int p0), .val (.int (1 : Int32)), .val (.ref w_PHP), .val (.ref w_URL_ENCODINGS_entries), .val (.ref w_PHP), .val (.ref w_JAVA), .val (.ref w_RFC3986)] [])) _
    refine XS.aload X12.here hx rfl (hb hby at_154) rfl rfl ?_
    show Steps p.tables e below (T12.setTop (mkF m 156 #[.val (.int p0), .val (.int (1 : Int32)), .val (.ref w_PHP), .val (.ref w_URL_ENCODINGS_entries), .val (.ref w_PHP), .val (.ref w_JAVA), .val (.ref w_RFC3986)] [(.ref w_RFC3986)])) _
    refine st13 _ ?_
    show Steps p.tables e below (T13.setTop (mkF m 159 #[.val (.int p0), .val (.int (1 : Int32)), .val (.ref w_PHP), .val (.ref w_URL_ENCODINGS_entries), .val (.ref w_PHP), .val (.ref w_JAVA), .val (.ref w_RFC3986)] [(.int (1 : Int32))])) _
    refine XS.ifNo X13.here hx rfl (hb hby at_159) rfl ((if0 _ _).trans (feq (by decide : ¬ ((1 : Int32) = (0 : Int32)))).1) ?_
    show Steps p.tables e below (T13.setTop (mkF m 162 #[.val (.int p0), .val (.int (1 : Int32)), .val (.ref w_PHP), .val (.ref w_URL_ENCODINGS_entries), .val (.ref w_PHP), .val (.ref w_JAVA), .val (.ref w_RFC3986)] [])) _
    refine XS.aload X13.here hx rfl (hb hby at_162) rfl rfl ?_
    show Steps p.tables e below (T13.setTop (mkF m 164 #[.val (.int p0), .val (.int (1 : Int32)), .val (.ref w_PHP), .val (.ref w_URL_ENCODINGS_entries), .val (.ref w_PHP), .val (.ref w_JAVA), .val (.ref w_RFC3986)] [(.ref w_PHP)])) _
    refine XS.aload X13.here hx rfl (hb hby at_164) rfl rfl ?_
    show Steps p.tables e below (T13.setTop (mkF m 166 #[.val (.int p0), .val (.int (1 : Int32)), .val (.ref w_PHP), .val (.ref w_URL_ENCODINGS_entries), .val (.ref w_PHP), .val (.ref w_JAVA), .val (.ref w_RFC3986)] [(.ref w_JAVA), (.ref w_PHP)])) _
    refine Jvm.RoadKit.acmp (g := (mkF m 166 #[.val (.int p0), .val (.int (1 : Int32)), .val (.ref w_PHP), .val (.ref w_URL_ENCODINGS_entries), .val (.ref w_PHP), .val (.ref w_JAVA), .val (.ref w_RFC3986)] [(.ref w_JAVA), (.ref w_PHP)])) X13 hx rfl rfl rfl (pc0 := 166) (pc' := 169) (same := false) rfl (hb hby at_166) rfl (decide_eq_false fun q => ne_w_PHP_w_JAVA (Value.ref.inj q)) (by decide) (by decide) ?_
    show Steps p.tables e below (T13.setTop (mkF m 169 #[.val (.int p0), .val (.int (1 : Int32)), .val (.ref w_PHP), .val (.ref w_URL_ENCODINGS_entries), .val (.ref w_PHP), .val (.ref w_JAVA), .val (.ref w_RFC3986)] [])) _
    refine XS.aload X13.here hx rfl (hb hby at_169) rfl rfl ?_
    show Steps p.tables e below (T13.setTop (mkF m 171 #[.val (.int p0), .val (.int (1 : Int32)), .val (.ref w_PHP), .val (.ref w_URL_ENCODINGS_entries), .val (.ref w_PHP), .val (.ref w_JAVA), .val (.ref w_RFC3986)] [(.ref w_PHP)])) _
    refine XS.aload X13.here hx rfl (hb hby at_171) rfl rfl ?_
    show Steps p.tables e below (T13.setTop (mkF m 173 #[.val (.int p0), .val (.int (1 : Int32)), .val (.ref w_PHP), .val (.ref w_URL_ENCODINGS_entries), .val (.ref w_PHP), .val (.ref w_JAVA), .val (.ref w_RFC3986)] [(.ref w_RFC3986), (.ref w_PHP)])) _
    refine Jvm.RoadKit.acmp (g := (mkF m 173 #[.val (.int p0), .val (.int (1 : Int32)), .val (.ref w_PHP), .val (.ref w_URL_ENCODINGS_entries), .val (.ref w_PHP), .val (.ref w_JAVA), .val (.ref w_RFC3986)] [(.ref w_RFC3986), (.ref w_PHP)])) X13 hx rfl rfl rfl (pc0 := 173) (pc' := 176) (same := false) rfl (hb hby at_173) rfl (decide_eq_false fun q => ne_w_PHP_w_RFC3986 (Value.ref.inj q)) (by decide) (by decide) ?_
    show Steps p.tables e below (T13.setTop (mkF m 176 #[.val (.int p0), .val (.int (1 : Int32)), .val (.ref w_PHP), .val (.ref w_URL_ENCODINGS_entries), .val (.ref w_PHP), .val (.ref w_JAVA), .val (.ref w_RFC3986)] [])) _
    refine XS.aload X13.here hx rfl (hb hby at_176) rfl rfl ?_
    show Steps p.tables e below (T13.setTop (mkF m 178 #[.val (.int p0), .val (.int (1 : Int32)), .val (.ref w_PHP), .val (.ref w_URL_ENCODINGS_entries), .val (.ref w_PHP), .val (.ref w_JAVA), .val (.ref w_RFC3986)] [(.ref w_JAVA)])) _
    refine XS.aload X13.here hx rfl (hb hby at_178) rfl rfl ?_
    show Steps p.tables e below (T13.setTop (mkF m 180 #[.val (.int p0), .val (.int (1 : Int32)), .val (.ref w_PHP), .val (.ref w_URL_ENCODINGS_entries), .val (.ref w_PHP), .val (.ref w_JAVA), .val (.ref w_RFC3986)] [(.ref w_RFC3986), (.ref w_JAVA)])) _
    refine Jvm.RoadKit.acmp (g := (mkF m 180 #[.val (.int p0), .val (.int (1 : Int32)), .val (.ref w_PHP), .val (.ref w_URL_ENCODINGS_entries), .val (.ref w_PHP), .val (.ref w_JAVA), .val (.ref w_RFC3986)] [(.ref w_RFC3986), (.ref w_JAVA)])) X13 hx rfl rfl rfl (pc0 := 180) (pc' := 183) (same := false) rfl (hb hby at_180) rfl (decide_eq_false fun q => ne_w_JAVA_w_RFC3986 (Value.ref.inj q)) (by decide) (by decide) ?_
    show Steps p.tables e below (T13.setTop (mkF m 183 #[.val (.int p0), .val (.int (1 : Int32)), .val (.ref w_PHP), .val (.ref w_URL_ENCODINGS_entries), .val (.ref w_PHP), .val (.ref w_JAVA), .val (.ref w_RFC3986)] [])) _
    refine XS.iconst X13.here hx rfl (hb hby at_183) ?_
    show Steps p.tables e below (T13.setTop (mkF m 184 #[.val (.int p0), .val (.int (1 : Int32)), .val (.ref w_PHP), .val (.ref w_URL_ENCODINGS_entries), .val (.ref w_PHP), .val (.ref w_JAVA), .val (.ref w_RFC3986)] [(.int (1 : Int32))])) _
    refine XS.goto X13.here hx rfl (pc0 := 184) (pc' := 188) rfl (hb hby at_184) (by decide) (by decide) ?_
    show Steps p.tables e below (T13.setTop (mkF m 188 #[.val (.int p0), .val (.int (1 : Int32)), .val (.ref w_PHP), .val (.ref w_URL_ENCODINGS_entries), .val (.ref w_PHP), .val (.ref w_JAVA), .val (.ref w_RFC3986)] [(.int (1 : Int32))])) _
    exact retN X13 hx (t := .boolean) Bd.returns (by simp) (hb hby at_188) hr
  · have eF : (T13.setFrames fs).heap = h0 := e13
    exact ⟨N13, rfl⟩
set_option maxRecDepth 65536 in
set_option maxHeartbeats 40000000 in
theorem rm0_2 (l : Launch) (Z : State) (a0 : Array Value) (hw : ∀ d ∈ tables_1, d.before a0 Z = true) (ws : List Jvm.Cond) (n0 : Nat) (h0 : Heap) (O : Old Z n0 h0) (w_NONE : Addr) (w_RFC3986 : Addr) (w_URL_ENCODINGS : Addr) (w_URL_ENCODINGS_entries : Addr) (w_URL_ENCODINGS_entries_elements : Addr) (w_PHP : Addr) (w_JAVA : Addr) (w_EMPTY : Addr) (w_EMPTY_LIST : Addr) (k_w_URL_ENCODINGS_entries_elements : ClassId) (W : OwW Z w_NONE w_RFC3986 w_URL_ENCODINGS w_URL_ENCODINGS_entries w_URL_ENCODINGS_entries_elements w_PHP w_JAVA w_EMPTY w_EMPTY_LIST k_w_URL_ENCODINGS_entries_elements) (p0 : Int32) (hi : p0 &&& (3 : Int32) = (2 : Int32)) :
    OwCon l x code maxLocals ret ws room_1 #[(.int p0)] Z h0 (OwP (fun v _ => v = some (.int 1)) n0) := by
  refine MetFree.of_bodySF (plainFor_of_name owpn0) hisR ?_
  intro p e s m args below meth c s₁ Bd hml0 hP hK
  obtain ⟨rfl, hZ, hh⟩ := hP
  have hx := Bd.exec
  have hby := Bd.bytes
  have hml : c.maxLocals = 7 := hml0
  have hown : s.vm.findClass "com/example/quittance/quittance/signing/ValueEncodingCheckedUnderPinLaw" = some m.cls := findClass_of_methodNamed Bd.named
  have hnm := (name_of_methodNamed Bd.named Bd.method).1
  have X0 : Stand p l e room_1 s m #[(.int p0)] below meth c s₁ [] 0 0 := Stand.of_body Bd
  have e0 : s₁.heap = h0 := by rw [← hh, Bd.state]; rfl
  have N0 := Fr.nil n0
  have WW := W
  obtain ⟨E_w_NONE, E_w_RFC3986, E_w_URL_ENCODINGS, E_w_URL_ENCODINGS_entries, E_w_PHP, E_w_JAVA, E_w_EMPTY, E_w_EMPTY_LIST, S_ValueEncoding_NONE, S_ValueEncoding_RFC3986, S_ValueEncoding_URL_ENCODINGS, F_w_URL_ENCODINGS_entries, F_w_URL_ENCODINGS_entries_elements, S_ValueEncoding_PHP, S_ValueEncoding_JAVA, F_w_JAVA_ordinal, F_w_PHP_ordinal, F_w_RFC3986_ordinal, S_ImmutableCollections_EMPTY, S_ImmutableCollections__assertionsDisabled, S_ImmutableCollections_EMPTY_LIST, V_w_URL_ENCODINGS_entries_elements, ne_w_PHP_w_NONE, ne_w_JAVA_w_NONE, ne_w_RFC3986_w_NONE, ne_w_PHP_w_JAVA, ne_w_PHP_w_RFC3986, ne_w_JAVA_w_RFC3986, -⟩ := WW
  have ef : entryFrame m #[(.int p0)] maxLocals = mkF m 0 #[.val (.int p0), .unset, .unset, .unset, .unset, .unset, .unset] [] := by first | rfl | (simp [entryFrame, mkF, argsToLocals, Value.category, maxLocals]; done)
  have pre0 : ∀ t, Steps p.tables e below (s₁.setTop (mkF m 0 #[.val (.int p0), .unset, .unset, .unset, .unset, .unset, .unset] [])) t → Steps p.tables e below (s₁.setTop (entryFrame m #[(.int p0)] maxLocals)) t := fun t k => castTop ef k
  obtain ⟨T1, X1, e1, st1⟩ := getS2 X0 hx hZ hown (host := "") (Or.inl (hw _ (List.mem_of_getElem? (i := 104) rfl))) Via.refl e0 (S_ValueEncoding_JAVA.ext O.2) (g := (mkF m 32 #[.val (.int p0), .val (.int (2 : Int32)), .unset, .unset, .unset, .unset, .unset] [])) rfl (hb hby at_32)
  obtain ⟨cq2, kq2, q2a, q2b, q2c⟩ := isOf hZ e1 (E_w_JAVA.ext O.2)
  obtain ⟨_, _, ⟨T2, L2, k2, n2⟩, -, X2, ⟨Lc2, hQ2, l2, y2, z2⟩, st2⟩ := X1.virtualBack hx (y := (⟨"com/example/quittance/quittance/signing/ValueEncoding", "checkedUnder", "()Ljava/util/List;"⟩ : MethodName)) (z := (⟨"com/example/quittance/quittance/signing/ValueEncoding", "checkedUnder", "()Ljava/util/List;"⟩ : MethodName)) hown (mvT hZ (hw _ (List.mem_of_getElem? (i := 3) rfl))) (mvT hZ (hw _ (List.mem_of_getElem? (i := 4) rfl))) (notFace_of_selects (args := #[]) (mvT hZ (hw _ (List.mem_of_getElem? (i := 70) rfl)))) (mvT hZ (hw _ (List.mem_of_getElem? (i := 70) rfl))) (mvT hZ (hw _ (List.mem_of_getElem? (i := 5) rfl))) (by decide) (backOf (W := 0) (rm1_o l Z a0 hw [] n0 h0 O w_NONE w_RFC3986 w_URL_ENCODINGS w_URL_ENCODINGS_entries w_URL_ENCODINGS_entries_elements w_PHP w_JAVA w_EMPTY w_EMPTY_LIST k_w_URL_ENCODINGS_entries_elements W w_JAVA ne_w_JAVA_w_NONE) hZ (hw _ (List.mem_of_getElem? (i := 7) rfl)) (hw _ (List.mem_of_getElem? (i := 1) rfl)) (by decide) (by decide)) q2a q2c (g := (mkF m 44 #[.val (.int p0), .val (.int (2 : Int32)), .val (.ref w_JAVA), .unset, .unset, .unset, .unset] [(.ref w_JAVA)])) rfl (by rw [hml]; rfl) (Steps.refl _) (argsL := []) (rest := []) (lenOf owpd4 rfl) rfl (by show 2 * 0 + _ ≤ _; exact Nat.le_of_eq rfl) (hb hby at_44) (fun _ _ => ⟨rfl, e1, (by decide : 0 + 0 ≤ _), (by decide : 0 + 0 ≤ _)⟩)
  dsimp only [Pt.U, Pt.locs, Pt.cells, Pt.slots] at X2 l2 y2 z2 st2 hQ2
  subst l2 y2 z2
  obtain ⟨rfl, Nq2, e2⟩ := hQ2
  have N2 := Fr.app N0 Nq2
  obtain ⟨T3, X3, e3, st3⟩ := getS2 X2 hx hZ hown (host := "") (Or.inl (hw _ (List.mem_of_getElem? (i := 0) rfl))) Via.refl e2 (S_ValueEncoding_NONE.ext O.2) (g := (mkF m 55 #[.val (.int p0), .val (.int (2 : Int32)), .val (.ref w_JAVA), .val (.ref w_URL_ENCODINGS_entries), .unset, .unset, .unset] [(.ref w_JAVA)])) rfl (hb hby at_55)
  obtain ⟨cq4, kq4, q4a, q4b, q4c⟩ := isOf hZ e3 (E_w_URL_ENCODINGS_entries.ext O.2)
  obtain ⟨_, _, ⟨T4, L4, k4, n4⟩, -, X4, ⟨Lc4, hQ4, l4, y4, z4⟩, st4⟩ := X3.interfaceBack hx (xi := (⟨"java/util/List", "size", "()I"⟩ : MethodName)) (y := (⟨"java/util/ImmutableCollections$ListN", "size", "()I"⟩ : MethodName)) hown (mvT hZ (hw _ (List.mem_of_getElem? (i := 51) rfl))) (mvT hZ (hw _ (List.mem_of_getElem? (i := 52) rfl))) (mvT hZ (hw _ (List.mem_of_getElem? (i := 53) rfl))) (mvT hZ (hw _ (List.mem_of_getElem? (i := 81) rfl))) (mvT hZ (hw _ (List.mem_of_getElem? (i := 82) rfl))) (mvT hZ (hw _ (List.mem_of_getElem? (i := 83) rfl))) (mvT hZ (hw _ (List.mem_of_getElem? (i := 84) rfl))) (mvT hZ (hw _ (List.mem_of_getElem? (i := 85) rfl))) (by decide) (backOf (W := 0) (rm12 l Z a0 hw [] n0 h0 O w_NONE w_RFC3986 w_URL_ENCODINGS w_URL_ENCODINGS_entries w_URL_ENCODINGS_entries_elements w_PHP w_JAVA w_EMPTY w_EMPTY_LIST k_w_URL_ENCODINGS_entries_elements W  ) hZ (hw _ (List.mem_of_getElem? (i := 87) rfl)) (hw _ (List.mem_of_getElem? (i := 86) rfl)) (by decide) (by decide)) q4a q4b q4c (g := (mkF m 91 #[.val (.int p0), .val (.int (2 : Int32)), .val (.ref w_JAVA), .val (.ref w_URL_ENCODINGS_entries), .unset, .unset, .unset] [(.ref w_URL_ENCODINGS_entries)])) rfl (by rw [hml]; rfl) (Steps.refl _) (argsL := []) (rest := []) (lenOf owpd5 rfl) rfl (by show 2 * 0 + _ ≤ _; exact Nat.le_of_eq rfl) (hb hby at_91) (fun _ _ => ⟨rfl, e3, (by decide : 0 + 0 ≤ _), (by decide : 0 + 0 ≤ _)⟩)
  dsimp only [Pt.U, Pt.locs, Pt.cells, Pt.slots] at X4 l4 y4 z4 st4 hQ4
  subst l4 y4 z4
  obtain ⟨rfl, Nq4, e4⟩ := hQ4
  have N4 := Fr.app N2 Nq4
  obtain ⟨cq5, kq5, q5a, q5b, q5c⟩ := isOf hZ e4 (E_w_URL_ENCODINGS_entries.ext O.2)
  obtain ⟨_, _, ⟨T5, L5, k5, n5⟩, -, X5, ⟨Lc5, hQ5, l5, y5, z5⟩, st5⟩ := X4.interfaceBack hx (xi := (⟨"java/util/List", "get", "(I)Ljava/lang/Object;"⟩ : MethodName)) (y := (⟨"java/util/ImmutableCollections$ListN", "get", "(I)Ljava/lang/Object;"⟩ : MethodName)) hown (mvT hZ (hw _ (List.mem_of_getElem? (i := 60) rfl))) (mvT hZ (hw _ (List.mem_of_getElem? (i := 61) rfl))) (mvT hZ (hw _ (List.mem_of_getElem? (i := 62) rfl))) (mvT hZ (hw _ (List.mem_of_getElem? (i := 90) rfl))) (mvT hZ (hw _ (List.mem_of_getElem? (i := 91) rfl))) (mvT hZ (hw _ (List.mem_of_getElem? (i := 92) rfl))) (mvT hZ (hw _ (List.mem_of_getElem? (i := 93) rfl))) (mvT hZ (hw _ (List.mem_of_getElem? (i := 85) rfl))) (by decide) (backOf (W := 0) (rm13_0 l Z a0 hw [] n0 h0 O w_NONE w_RFC3986 w_URL_ENCODINGS w_URL_ENCODINGS_entries w_URL_ENCODINGS_entries_elements w_PHP w_JAVA w_EMPTY w_EMPTY_LIST k_w_URL_ENCODINGS_entries_elements W  ) hZ (hw _ (List.mem_of_getElem? (i := 94) rfl)) (hw _ (List.mem_of_getElem? (i := 86) rfl)) (by decide) (by decide)) q5a q5b q5c (g := (mkF m 104 #[.val (.int p0), .val (.int (2 : Int32)), .val (.ref w_JAVA), .val (.ref w_URL_ENCODINGS_entries), .unset, .unset, .unset] [(.int (0 : Int32)), (.ref w_URL_ENCODINGS_entries)])) rfl (by rw [hml]; rfl) (Steps.refl _) (argsL := [(.int (0 : Int32))]) (rest := []) (lenOf owpd6 rfl) rfl (by show 2 * 0 + _ ≤ _; exact Nat.le_of_eq rfl) (hb hby at_104) (fun _ _ => ⟨rfl, e4, (by decide : 0 + 0 ≤ _), (by decide : 0 + 0 ≤ _)⟩)
  dsimp only [Pt.U, Pt.locs, Pt.cells, Pt.slots] at X5 l5 y5 z5 st5 hQ5
  subst l5 y5 z5
  obtain ⟨rfl, Nq5, e5⟩ := hQ5
  have N5 := Fr.app N4 Nq5
  obtain ⟨T6, X6, e6, st6⟩ := castY X5 hx hZ hown (hw _ (List.mem_of_getElem? (i := 96) rfl)) e5 (Ins.self (E_w_PHP.ext O.2)) (g := (mkF m 109 #[.val (.int p0), .val (.int (2 : Int32)), .val (.ref w_JAVA), .val (.ref w_URL_ENCODINGS_entries), .unset, .unset, .unset] [(.ref w_PHP)])) rfl rfl (hb hby at_109)
  obtain ⟨cq7, kq7, q7a, q7b, q7c⟩ := isOf hZ e6 (E_w_URL_ENCODINGS_entries.ext O.2)
  obtain ⟨_, _, ⟨T7, L7, k7, n7⟩, -, X7, ⟨Lc7, hQ7, l7, y7, z7⟩, st7⟩ := X6.interfaceBack hx (xi := (⟨"java/util/List", "get", "(I)Ljava/lang/Object;"⟩ : MethodName)) (y := (⟨"java/util/ImmutableCollections$ListN", "get", "(I)Ljava/lang/Object;"⟩ : MethodName)) hown (mvT hZ (hw _ (List.mem_of_getElem? (i := 60) rfl))) (mvT hZ (hw _ (List.mem_of_getElem? (i := 61) rfl))) (mvT hZ (hw _ (List.mem_of_getElem? (i := 62) rfl))) (mvT hZ (hw _ (List.mem_of_getElem? (i := 90) rfl))) (mvT hZ (hw _ (List.mem_of_getElem? (i := 91) rfl))) (mvT hZ (hw _ (List.mem_of_getElem? (i := 92) rfl))) (mvT hZ (hw _ (List.mem_of_getElem? (i := 93) rfl))) (mvT hZ (hw _ (List.mem_of_getElem? (i := 85) rfl))) (by decide) (backOf (W := 0) (rm13_1 l Z a0 hw [] n0 h0 O w_NONE w_RFC3986 w_URL_ENCODINGS w_URL_ENCODINGS_entries w_URL_ENCODINGS_entries_elements w_PHP w_JAVA w_EMPTY w_EMPTY_LIST k_w_URL_ENCODINGS_entries_elements W  ) hZ (hw _ (List.mem_of_getElem? (i := 94) rfl)) (hw _ (List.mem_of_getElem? (i := 86) rfl)) (by decide) (by decide)) q7a q7b q7c (g := (mkF m 116 #[.val (.int p0), .val (.int (2 : Int32)), .val (.ref w_JAVA), .val (.ref w_URL_ENCODINGS_entries), .val (.ref w_PHP), .unset, .unset] [(.int (1 : Int32)), (.ref w_URL_ENCODINGS_entries)])) rfl (by rw [hml]; rfl) (Steps.refl _) (argsL := [(.int (1 : Int32))]) (rest := []) (lenOf owpd6 rfl) rfl (by show 2 * 0 + _ ≤ _; exact Nat.le_of_eq rfl) (hb hby at_116) (fun _ _ => ⟨rfl, e6, (by decide : 0 + 0 ≤ _), (by decide : 0 + 0 ≤ _)⟩)
  dsimp only [Pt.U, Pt.locs, Pt.cells, Pt.slots] at X7 l7 y7 z7 st7 hQ7
  subst l7 y7 z7
  obtain ⟨rfl, Nq7, e7⟩ := hQ7
  have N7 := Fr.app N5 Nq7
  obtain ⟨T8, X8, e8, st8⟩ := castY X7 hx hZ hown (hw _ (List.mem_of_getElem? (i := 96) rfl)) e7 (Ins.self (E_w_JAVA.ext O.2)) (g := (mkF m 121 #[.val (.int p0), .val (.int (2 : Int32)), .val (.ref w_JAVA), .val (.ref w_URL_ENCODINGS_entries), .val (.ref w_PHP), .unset, .unset] [(.ref w_JAVA)])) rfl rfl (hb hby at_121)
  obtain ⟨cq9, kq9, q9a, q9b, q9c⟩ := isOf hZ e8 (E_w_URL_ENCODINGS_entries.ext O.2)
  obtain ⟨_, _, ⟨T9, L9, k9, n9⟩, -, X9, ⟨Lc9, hQ9, l9, y9, z9⟩, st9⟩ := X8.interfaceBack hx (xi := (⟨"java/util/List", "get", "(I)Ljava/lang/Object;"⟩ : MethodName)) (y := (⟨"java/util/ImmutableCollections$ListN", "get", "(I)Ljava/lang/Object;"⟩ : MethodName)) hown (mvT hZ (hw _ (List.mem_of_getElem? (i := 60) rfl))) (mvT hZ (hw _ (List.mem_of_getElem? (i := 61) rfl))) (mvT hZ (hw _ (List.mem_of_getElem? (i := 62) rfl))) (mvT hZ (hw _ (List.mem_of_getElem? (i := 90) rfl))) (mvT hZ (hw _ (List.mem_of_getElem? (i := 91) rfl))) (mvT hZ (hw _ (List.mem_of_getElem? (i := 92) rfl))) (mvT hZ (hw _ (List.mem_of_getElem? (i := 93) rfl))) (mvT hZ (hw _ (List.mem_of_getElem? (i := 85) rfl))) (by decide) (backOf (W := 0) (rm13_2 l Z a0 hw [] n0 h0 O w_NONE w_RFC3986 w_URL_ENCODINGS w_URL_ENCODINGS_entries w_URL_ENCODINGS_entries_elements w_PHP w_JAVA w_EMPTY w_EMPTY_LIST k_w_URL_ENCODINGS_entries_elements W  ) hZ (hw _ (List.mem_of_getElem? (i := 94) rfl)) (hw _ (List.mem_of_getElem? (i := 86) rfl)) (by decide) (by decide)) q9a q9b q9c (g := (mkF m 128 #[.val (.int p0), .val (.int (2 : Int32)), .val (.ref w_JAVA), .val (.ref w_URL_ENCODINGS_entries), .val (.ref w_PHP), .val (.ref w_JAVA), .unset] [(.int (2 : Int32)), (.ref w_URL_ENCODINGS_entries)])) rfl (by rw [hml]; rfl) (Steps.refl _) (argsL := [(.int (2 : Int32))]) (rest := []) (lenOf owpd6 rfl) rfl (by show 2 * 0 + _ ≤ _; exact Nat.le_of_eq rfl) (hb hby at_128) (fun _ _ => ⟨rfl, e8, (by decide : 0 + 0 ≤ _), (by decide : 0 + 0 ≤ _)⟩)
  dsimp only [Pt.U, Pt.locs, Pt.cells, Pt.slots] at X9 l9 y9 z9 st9 hQ9
  subst l9 y9 z9
  obtain ⟨rfl, Nq9, e9⟩ := hQ9
  have N9 := Fr.app N7 Nq9
  obtain ⟨T10, X10, e10, st10⟩ := castY X9 hx hZ hown (hw _ (List.mem_of_getElem? (i := 96) rfl)) e9 (Ins.self (E_w_RFC3986.ext O.2)) (g := (mkF m 133 #[.val (.int p0), .val (.int (2 : Int32)), .val (.ref w_JAVA), .val (.ref w_URL_ENCODINGS_entries), .val (.ref w_PHP), .val (.ref w_JAVA), .unset] [(.ref w_RFC3986)])) rfl rfl (hb hby at_133)
  obtain ⟨_, _, ⟨T11, L11, k11, n11⟩, -, X11, ⟨Lc11, hQ11, l11, y11, z11⟩, st11⟩ := Jvm.LawKit.callS X10 hx (y := (⟨"com/example/quittance/quittance/signing/ValueEncodingCheckedUnderPinLaw", "isUrl", "(Lcom/example/quittance/quittance/signing/ValueEncoding;)Z"⟩ : MethodName)) hown (mvT hZ (hw _ (List.mem_of_getElem? (i := 99) rfl))) (mvT hZ (hw _ (List.mem_of_getElem? (i := 100) rfl))) (mvT hZ (hw _ (List.mem_of_getElem? (i := 101) rfl))) (mvT hZ (hw _ (List.mem_of_getElem? (i := 102) rfl))) (by decide) (backOf (W := 0) (rm14_PHP l Z a0 hw [] n0 h0 O w_NONE w_RFC3986 w_URL_ENCODINGS w_URL_ENCODINGS_entries w_URL_ENCODINGS_entries_elements w_PHP w_JAVA w_EMPTY w_EMPTY_LIST k_w_URL_ENCODINGS_entries_elements W  ) hZ (hw _ (List.mem_of_getElem? (i := 102) rfl)) (hw _ (List.mem_of_getElem? (i := 101) rfl)) (by decide) (by decide)) (g := (mkF m 140 #[.val (.int p0), .val (.int (2 : Int32)), .val (.ref w_JAVA), .val (.ref w_URL_ENCODINGS_entries), .val (.ref w_PHP), .val (.ref w_JAVA), .val (.ref w_RFC3986)] [(.ref w_PHP)])) rfl (by rw [hml]; rfl) (argsL := [(.ref w_PHP)]) (rest := []) (lenOf owpd7 rfl) rfl (by show 2 * 0 + _ ≤ _; exact Nat.le_of_eq rfl) (hb hby at_140) (fun _ _ => ⟨rfl, e10, (by decide : 0 + 0 ≤ _), (by decide : 0 + 0 ≤ _)⟩)
  dsimp only [Pt.U, Pt.locs, Pt.cells, Pt.slots] at X11 l11 y11 z11 st11 hQ11
  subst l11 y11 z11
  obtain ⟨rfl, Nq11, e11⟩ := hQ11
  have N11 := Fr.app N9 Nq11
  obtain ⟨_, _, ⟨T12, L12, k12, n12⟩, -, X12, ⟨Lc12, hQ12, l12, y12, z12⟩, st12⟩ := Jvm.LawKit.callS X11 hx (y := (⟨"com/example/quittance/quittance/signing/ValueEncodingCheckedUnderPinLaw", "isUrl", "(Lcom/example/quittance/quittance/signing/ValueEncoding;)Z"⟩ : MethodName)) hown (mvT hZ (hw _ (List.mem_of_getElem? (i := 99) rfl))) (mvT hZ (hw _ (List.mem_of_getElem? (i := 100) rfl))) (mvT hZ (hw _ (List.mem_of_getElem? (i := 101) rfl))) (mvT hZ (hw _ (List.mem_of_getElem? (i := 102) rfl))) (by decide) (backOf (W := 0) (rm14_JAVA l Z a0 hw [] n0 h0 O w_NONE w_RFC3986 w_URL_ENCODINGS w_URL_ENCODINGS_entries w_URL_ENCODINGS_entries_elements w_PHP w_JAVA w_EMPTY w_EMPTY_LIST k_w_URL_ENCODINGS_entries_elements W  ) hZ (hw _ (List.mem_of_getElem? (i := 102) rfl)) (hw _ (List.mem_of_getElem? (i := 101) rfl)) (by decide) (by decide)) (g := (mkF m 148 #[.val (.int p0), .val (.int (2 : Int32)), .val (.ref w_JAVA), .val (.ref w_URL_ENCODINGS_entries), .val (.ref w_PHP), .val (.ref w_JAVA), .val (.ref w_RFC3986)] [(.ref w_JAVA)])) rfl (by rw [hml]; rfl) (argsL := [(.ref w_JAVA)]) (rest := []) (lenOf owpd7 rfl) rfl (by show 2 * 0 + _ ≤ _; exact Nat.le_of_eq rfl) (hb hby at_148) (fun _ _ => ⟨rfl, e11, (by decide : 0 + 0 ≤ _), (by decide : 0 + 0 ≤ _)⟩)
  dsimp only [Pt.U, Pt.locs, Pt.cells, Pt.slots] at X12 l12 y12 z12 st12 hQ12
  subst l12 y12 z12
  obtain ⟨rfl, Nq12, e12⟩ := hQ12
  have N12 := Fr.app N11 Nq12
  obtain ⟨_, _, ⟨T13, L13, k13, n13⟩, -, X13, ⟨Lc13, hQ13, l13, y13, z13⟩, st13⟩ := Jvm.LawKit.callS X12 hx (y := (⟨"com/example/quittance/quittance/signing/ValueEncodingCheckedUnderPinLaw", "isUrl", "(Lcom/example/quittance/quittance/signing/ValueEncoding;)Z"⟩ : MethodName)) hown (mvT hZ (hw _ (List.mem_of_getElem? (i := 99) rfl))) (mvT hZ (hw _ (List.mem_of_getElem? (i := 100) rfl))) (mvT hZ (hw _ (List.mem_of_getElem? (i := 101) rfl))) (mvT hZ (hw _ (List.mem_of_getElem? (i := 102) rfl))) (by decide) (backOf (W := 0) (rm14_RFC3986 l Z a0 hw [] n0 h0 O w_NONE w_RFC3986 w_URL_ENCODINGS w_URL_ENCODINGS_entries w_URL_ENCODINGS_entries_elements w_PHP w_JAVA w_EMPTY w_EMPTY_LIST k_w_URL_ENCODINGS_entries_elements W  ) hZ (hw _ (List.mem_of_getElem? (i := 102) rfl)) (hw _ (List.mem_of_getElem? (i := 101) rfl)) (by decide) (by decide)) (g := (mkF m 156 #[.val (.int p0), .val (.int (2 : Int32)), .val (.ref w_JAVA), .val (.ref w_URL_ENCODINGS_entries), .val (.ref w_PHP), .val (.ref w_JAVA), .val (.ref w_RFC3986)] [(.ref w_RFC3986)])) rfl (by rw [hml]; rfl) (argsL := [(.ref w_RFC3986)]) (rest := []) (lenOf owpd7 rfl) rfl (by show 2 * 0 + _ ≤ _; exact Nat.le_of_eq rfl) (hb hby at_156) (fun _ _ => ⟨rfl, e12, (by decide : 0 + 0 ≤ _), (by decide : 0 + 0 ≤ _)⟩)
  dsimp only [Pt.U, Pt.locs, Pt.cells, Pt.slots] at X13 l13 y13 z13 st13 hQ13
  subst l13 y13 z13
  obtain ⟨rfl, Nq13, e13⟩ := hQ13
  have N13 := Fr.app N12 Nq13
  obtain ⟨fs, hr, hrun, hended, hW, hsame⟩ := X13.leave (v := some (.int (1 : Int32))) (fun h => by rw [Bd.returns] at h; cases h)
  refine ⟨_, _, pre0 _ ?_, hrun, hended, _, _, rfl, ?_, ⟨_, rfl⟩, hW, hsame.mono (by decide) (by decide)⟩
  · show Steps p.tables e below (s₁.setTop (mkF m 0 #[.val (.int p0), .unset, .unset, .unset, .unset, .unset, .unset] [])) _
    refine XS.iloadN X0.here hx rfl (hb hby at_0) rfl ?_
    show Steps p.tables e below (s₁.setTop (mkF m 1 #[.val (.int p0), .unset, .unset, .unset, .unset, .unset, .unset] [(.int p0)])) _
    refine XS.iconst X0.here hx rfl (hb hby at_1) ?_
    show Steps p.tables e below (s₁.setTop (mkF m 2 #[.val (.int p0), .unset, .unset, .unset, .unset, .unset, .unset] [(.int (3 : Int32)), (.int p0)])) _
    refine XS.iand X0.here hx rfl (hb hby at_2) rfl ?_
    show Steps p.tables e below (s₁.setTop (mkF m 3 #[.val (.int p0), .unset, .unset, .unset, .unset, .unset, .unset] [(.int (p0 &&& (3 : Int32)))])) _
    rw [hi]
    show Steps p.tables e below (s₁.setTop (mkF m 3 #[.val (.int p0), .unset, .unset, .unset, .unset, .unset, .unset] [(.int (2 : Int32))])) _
    refine XS.istoreN X0.here hx rfl (hb hby at_3) rfl (l' := #[.val (.int p0), .val (.int (2 : Int32)), .unset, .unset, .unset, .unset, .unset]) rfl ?_
    show Steps p.tables e below (s₁.setTop (mkF m 4 #[.val (.int p0), .val (.int (2 : Int32)), .unset, .unset, .unset, .unset, .unset] [])) _
    refine XS.iloadN X0.here hx rfl (hb hby at_4) rfl ?_
    show Steps p.tables e below (s₁.setTop (mkF m 5 #[.val (.int p0), .val (.int (2 : Int32)), .unset, .unset, .unset, .unset, .unset] [(.int (2 : Int32))])) _
    refine XS.ifYes X0.here hx rfl (pc0 := 5) (pc' := 15) rfl (hb hby at_5) rfl ((if0 _ _).trans (feq (by decide : ¬ ((2 : Int32) = (0 : Int32)))).2) (by decide) (by decide) ?_
    show Steps p.tables e below (s₁.setTop (mkF m 15 #[.val (.int p0), .val (.int (2 : Int32)), .unset, .unset, .unset, .unset, .unset] [])) _
    refine XS.iloadN X0.here hx rfl (hb hby at_15) rfl ?_
    show Steps p.tables e below (s₁.setTop (mkF m 16 #[.val (.int p0), .val (.int (2 : Int32)), .unset, .unset, .unset, .unset, .unset] [(.int (2 : Int32))])) _
    refine XS.iconst X0.here hx rfl (hb hby at_16) ?_
    show Steps p.tables e below (s₁.setTop (mkF m 17 #[.val (.int p0), .val (.int (2 : Int32)), .unset, .unset, .unset, .unset, .unset] [(.int (1 : Int32)), (.int (2 : Int32))])) _
    refine XS.icmpYes X0.here hx rfl (pc0 := 17) (pc' := 27) rfl (hb hby at_17) rfl (feq (by decide : ¬ ((2 : Int32) = (1 : Int32)))).2 (by decide) (by decide) ?_
    show Steps p.tables e below (s₁.setTop (mkF m 27 #[.val (.int p0), .val (.int (2 : Int32)), .unset, .unset, .unset, .unset, .unset] [])) _
    refine XS.iloadN X0.here hx rfl (hb hby at_27) rfl ?_
    show Steps p.tables e below (s₁.setTop (mkF m 28 #[.val (.int p0), .val (.int (2 : Int32)), .unset, .unset, .unset, .unset, .unset] [(.int (2 : Int32))])) _
    refine XS.iconst X0.here hx rfl (hb hby at_28) ?_
    show Steps p.tables e below (s₁.setTop (mkF m 29 #[.val (.int p0), .val (.int (2 : Int32)), .unset, .unset, .unset, .unset, .unset] [(.int (2 : Int32)), (.int (2 : Int32))])) _
    refine XS.icmpNo X0.here hx rfl (hb hby at_29) rfl (teq (by decide : (2 : Int32) = (2 : Int32))).2 ?_
    show Steps p.tables e below (s₁.setTop (mkF m 32 #[.val (.int p0), .val (.int (2 : Int32)), .unset, .unset, .unset, .unset, .unset] [])) _
    refine st1 _ ?_
    show Steps p.tables e below (T1.setTop (mkF m 35 #[.val (.int p0), .val (.int (2 : Int32)), .unset, .unset, .unset, .unset, .unset] [(.ref w_JAVA)])) _
    refine XS.astoreN X1.here hx rfl (hb hby at_35) rfl rfl (l' := #[.val (.int p0), .val (.int (2 : Int32)), .val (.ref w_JAVA), .unset, .unset, .unset, .unset]) rfl ?_
    show Steps p.tables e below (T1.setTop (mkF m 36 #[.val (.int p0), .val (.int (2 : Int32)), .val (.ref w_JAVA), .unset, .unset, .unset, .unset] [])) _
    refine XS.goto X1.here hx rfl (pc0 := 36) (pc' := 43) rfl (hb hby at_36) (by decide) (by decide) ?_
    show Steps p.tables e below (T1.setTop (mkF m 43 #[.val (.int p0), .val (.int (2 : Int32)), .val (.ref w_JAVA), .unset, .unset, .unset, .unset] [])) _
    refine XS.aloadN X1.here hx rfl (hb hby at_43) rfl rfl ?_
    show Steps p.tables e below (T1.setTop (mkF m 44 #[.val (.int p0), .val (.int (2 : Int32)), .val (.ref w_JAVA), .unset, .unset, .unset, .unset] [(.ref w_JAVA)])) _
    refine st2.trans ?_
    show Steps p.tables e below (T2.setTop (mkF m 47 #[.val (.int p0), .val (.int (2 : Int32)), .val (.ref w_JAVA), .unset, .unset, .unset, .unset] [(.ref w_URL_ENCODINGS_entries)])) _
    refine XS.astoreN X2.here hx rfl (hb hby at_47) rfl rfl (l' := #[.val (.int p0), .val (.int (2 : Int32)), .val (.ref w_JAVA), .val (.ref w_URL_ENCODINGS_entries), .unset, .unset, .unset]) rfl ?_
    show Steps p.tables e below (T2.setTop (mkF m 48 #[.val (.int p0), .val (.int (2 : Int32)), .val (.ref w_JAVA), .val (.ref w_URL_ENCODINGS_entries), .unset, .unset, .unset] [])) _
    refine XS.aloadN X2.here hx rfl (hb hby at_48) rfl rfl ?_
    show Steps p.tables e below (T2.setTop (mkF m 49 #[.val (.int p0), .val (.int (2 : Int32)), .val (.ref w_JAVA), .val (.ref w_URL_ENCODINGS_entries), .unset, .unset, .unset] [(.ref w_URL_ENCODINGS_entries)])) _
    refine XS.ifnonnullYes X2.here hx rfl (pc0 := 49) (pc' := 54) rfl (hb hby at_49) rfl (by decide) (by decide) ?_
    show Steps p.tables e below (T2.setTop (mkF m 54 #[.val (.int p0), .val (.int (2 : Int32)), .val (.ref w_JAVA), .val (.ref w_URL_ENCODINGS_entries), .unset, .unset, .unset] [])) _
    refine XS.aloadN X2.here hx rfl (hb hby at_54) rfl rfl ?_
    show Steps p.tables e below (T2.setTop (mkF m 55 #[.val (.int p0), .val (.int (2 : Int32)), .val (.ref w_JAVA), .val (.ref w_URL_ENCODINGS_entries), .unset, .unset, .unset] [(.ref w_JAVA)])) _
    refine st3 _ ?_
    show Steps p.tables e below (T3.setTop (mkF m 58 #[.val (.int p0), .val (.int (2 : Int32)), .val (.ref w_JAVA), .val (.ref w_URL_ENCODINGS_entries), .unset, .unset, .unset] [(.ref w_NONE), (.ref w_JAVA)])) _
    refine Jvm.RoadKit.acmp (g := (mkF m 58 #[.val (.int p0), .val (.int (2 : Int32)), .val (.ref w_JAVA), .val (.ref w_URL_ENCODINGS_entries), .unset, .unset, .unset] [(.ref w_NONE), (.ref w_JAVA)])) X3 hx rfl rfl rfl (pc0 := 58) (pc' := 90) (same := false) rfl (hb hby at_58) rfl (decide_eq_false fun q => ne_w_JAVA_w_NONE (Value.ref.inj q)) (by decide) (by decide) ?_
    show Steps p.tables e below (T3.setTop (mkF m 90 #[.val (.int p0), .val (.int (2 : Int32)), .val (.ref w_JAVA), .val (.ref w_URL_ENCODINGS_entries), .unset, .unset, .unset] [])) _
    refine XS.aloadN X3.here hx rfl (hb hby at_90) rfl rfl ?_
    show Steps p.tables e below (T3.setTop (mkF m 91 #[.val (.int p0), .val (.int (2 : Int32)), .val (.ref w_JAVA), .val (.ref w_URL_ENCODINGS_entries), .unset, .unset, .unset] [(.ref w_URL_ENCODINGS_entries)])) _
    refine st4.trans ?_
    show Steps p.tables e below (T4.setTop (mkF m 96 #[.val (.int p0), .val (.int (2 : Int32)), .val (.ref w_JAVA), .val (.ref w_URL_ENCODINGS_entries), .unset, .unset, .unset] [(.int (3 : Int32))])) _
    refine XS.iconst X4.here hx rfl (hb hby at_96) ?_
    show Steps p.tables e below (T4.setTop (mkF m 97 #[.val (.int p0), .val (.int (2 : Int32)), .val (.ref w_JAVA), .val (.ref w_URL_ENCODINGS_entries), .unset, .unset, .unset] [(.int (3 : Int32)), (.int (3 : Int32))])) _
    refine XS.icmpYes X4.here hx rfl (pc0 := 97) (pc' := 102) rfl (hb hby at_97) rfl (teq (by decide : (3 : Int32) = (3 : Int32))).1 (by decide) (by decide) ?_
    show Steps p.tables e below (T4.setTop (mkF m 102 #[.val (.int p0), .val (.int (2 : Int32)), .val (.ref w_JAVA), .val (.ref w_URL_ENCODINGS_entries), .unset, .unset, .unset] [])) _
    refine XS.aloadN X4.here hx rfl (hb hby at_102) rfl rfl ?_
    show Steps p.tables e below (T4.setTop (mkF m 103 #[.val (.int p0), .val (.int (2 : Int32)), .val (.ref w_JAVA), .val (.ref w_URL_ENCODINGS_entries), .unset, .unset, .unset] [(.ref w_URL_ENCODINGS_entries)])) _
    refine XS.iconst X4.here hx rfl (hb hby at_103) ?_
    show Steps p.tables e below (T4.setTop (mkF m 104 #[.val (.int p0), .val (.int (2 : Int32)), .val (.ref w_JAVA), .val (.ref w_URL_ENCODINGS_entries), .unset, .unset, .unset] [(.int (0 : Int32)), (.ref w_URL_ENCODINGS_entries)])) _
    refine st5.trans ?_
    show Steps p.tables e below (T5.setTop (mkF m 109 #[.val (.int p0), .val (.int (2 : Int32)), .val (.ref w_JAVA), .val (.ref w_URL_ENCODINGS_entries), .unset, .unset, .unset] [(.ref w_PHP)])) _
    refine st6 _ ?_
    show Steps p.tables e below (T6.setTop (mkF m 112 #[.val (.int p0), .val (.int (2 : Int32)), .val (.ref w_JAVA), .val (.ref w_URL_ENCODINGS_entries), .unset, .unset, .unset] [(.ref w_PHP)])) _
    refine XS.astore X6.here hx rfl (hb hby at_112) rfl rfl (l' := #[.val (.int p0), .val (.int (2 : Int32)), .val (.ref w_JAVA), .val (.ref w_URL_ENCODINGS_entries), .val (.ref w_PHP), .unset, .unset]) rfl ?_
    show Steps p.tables e below (T6.setTop (mkF m 114 #[.val (.int p0), .val (.int (2 : Int32)), .val (.ref w_JAVA), .val (.ref w_URL_ENCODINGS_entries), .val (.ref w_PHP), .unset, .unset] [])) _
    refine XS.aloadN X6.here hx rfl (hb hby at_114) rfl rfl ?_
    show Steps p.tables e below (T6.setTop (mkF m 115 #[.val (.int p0), .val (.int (2 : Int32)), .val (.ref w_JAVA), .val (.ref w_URL_ENCODINGS_entries), .val (.ref w_PHP), .unset, .unset] [(.ref w_URL_ENCODINGS_entries)])) _
    refine XS.iconst X6.here hx rfl (hb hby at_115) ?_
    show Steps p.tables e below (T6.setTop (mkF m 116 #[.val (.int p0), .val (.int (2 : Int32)), .val (.ref w_JAVA), .val (.ref w_URL_ENCODINGS_entries), .val (.ref w_PHP), .unset, .unset] [(.int (1 : Int32)), (.ref w_URL_ENCODINGS_entries)])) _
    refine st7.trans ?_
    show Steps p.tables e below (T7.setTop (mkF m 121 #[.val (.int p0), .val (.int (2 : Int32)), .val (.ref w_JAVA), .val (.ref w_URL_ENCODINGS_entries), .val (.ref w_PHP), .unset, .unset] [(.ref w_JAVA)])) _
    refine st8 _ ?_
    show Steps p.tables e below (T8.setTop (mkF m 124 #[.val (.int p0), .val (.int (2 : Int32)), .val (.ref w_JAVA), .val (.ref w_URL_ENCODINGS_entries), .val (.ref w_PHP), .unset, .unset] [(.ref w_JAVA)])) _
    refine XS.astore X8.here hx rfl (hb hby at_124) rfl rfl (l' := #[.val (.int p0), .val (.int (2 : Int32)), .val (.ref w_JAVA), .val (.ref w_URL_ENCODINGS_entries), .val (.ref w_PHP), .val (.ref w_JAVA), .unset]) rfl ?_
    show Steps p.tables e below (T8.setTop (mkF m 126 #[.val (.int p0), .val (.int (2 : Int32)), .val (.ref w_JAVA), .val (.ref w_URL_ENCODINGS_entries), .val (.ref w_PHP), .val (.ref w_JAVA), .unset] [])) _
    refine XS.aloadN X8.here hx rfl (hb hby at_126) rfl rfl ?_
    show Steps p.tables e below (T8.setTop (mkF m 127 #[.val (.int p0), .val (.int (2 : Int32)), .val (.ref w_JAVA), .val (.ref w_URL_ENCODINGS_entries), .val (.ref w_PHP), .val (.ref w_JAVA), .unset] [(.ref w_URL_ENCODINGS_entries)])) _
    refine XS.iconst X8.here hx rfl (hb hby at_127) ?_
    show Steps p.tables e below (T8.setTop (mkF m 128 #[.val (.int p0), .val (.int (2 : Int32)), .val (.ref w_JAVA), .val (.ref w_URL_ENCODINGS_entries), .val (.ref w_PHP), .val (.ref w_JAVA), .unset] [(.int (2 : Int32)), (.ref w_URL_ENCODINGS_entries)])) _
    refine st9.trans ?_
    show Steps p.tables e below (T9.setTop (mkF m 133 #[.val (.int p0), .val (.int (2 : Int32)), .val (.ref w_JAVA), .val (.ref w_URL_ENCODINGS_entries), .val (.ref w_PHP), .val (.ref w_JAVA), .unset] [(.ref w_RFC3986)])) _
    refine st10 _ ?_
    show Steps p.tables e below (T10.setTop (mkF m 136 #[.val (.int p0), .val (.int (2 : Int32)), .val (.ref w_JAVA), .val (.ref w_URL_ENCODINGS_entries), .val (.ref w_PHP), .val (.ref w_JAVA), .unset] [(.ref w_RFC3986)])) _
    refine XS.astore X10.here hx rfl (hb hby at_136) rfl rfl (l' := #[.val (.int p0), .val (.int (2 : Int32)), .val (.ref w_JAVA), .val (.ref w_URL_ENCODINGS_entries), .val (.ref w_PHP), .val (.ref w_JAVA), .val (.ref w_RFC3986)]) rfl ?_
    show Steps p.tables e below (T10.setTop (mkF m 138 #[.val (.int p0), .val (.int (2 : Int32)), .val (.ref w_JAVA), .val (.ref w_URL_ENCODINGS_entries), .val (.ref w_PHP), .val (.ref w_JAVA), .val (.ref w_RFC3986)] [])) _
    refine XS.aload X10.here hx rfl (hb hby at_138) rfl rfl ?_
    show Steps p.tables e below (T10.setTop (mkF m 140 #[.val (.int p0), .val (.int (2 : Int32)), .val (.ref w_JAVA), .val (.ref w_URL_ENCODINGS_entries), .val (.ref w_PHP), .val (.ref w_JAVA), .val (.ref w_RFC3986)] [(.ref w_PHP)])) _
    refine st11 _ ?_
    show Steps p.tables e below (T11.setTop (mkF m 143 #[.val (.int p0), .val (.int (2 : Int32)), .val (.ref w_JAVA), .val (.ref w_URL_ENCODINGS_entries), .val (.ref w_PHP), .val (.ref w_JAVA), .val (.ref w_RFC3986)] [(.int (1 : Int32))])) _
    refine XS.ifNo X11.here hx rfl (hb hby at_143) rfl ((if0 _ _).trans (feq (by decide : ¬ ((1 : Int32) = (0 : Int32)))).1) ?_
    show Steps p.tables e below (T11.setTop (mkF m 146 #[.val (.int p0), .val (.int (2 : Int32)), .val (.ref w_JAVA), .val (.ref w_URL_ENCODINGS_entries), .val (.ref w_PHP), .val (.ref w_JAVA), .val (.ref w_RFC3986)] [])) _
    refine XS.aload X11.here hx rfl (hb hby at_146) rfl rfl ?_
    show Steps p.tables e below (T11.setTop (mkF m 148 #[.val (.int p0), .val (.int (2 : Int32)), .val (.ref w_JAVA), .val (.ref w_URL_ENCODINGS_entries), .val (.ref w_PHP), .val (.ref w_JAVA), .val (.ref w_RFC3986)] [(.ref w_JAVA)])) _
    refine st12 _ ?_
    show Steps p.tables e below (T12.setTop (mkF m 151 #[.val (.int p0), .val (.int (2 : Int32)), .val (.ref w_JAVA), .val (.ref w_URL_ENCODINGS_entries), .val (.ref w_PHP), .val (.ref w_JAVA), .val (.ref w_RFC3986)] [(.int (1 : Int32))])) _
    refine XS.ifNo X12.here hx rfl (hb hby at_151) rfl ((if0 _ _).trans (feq (by decide : ¬ ((1 : Int32) = (0 : Int32)))).1) ?_
    show Steps p.tables e below (T12.setTop (mkF m 154 #[.val (.int p0), .val (.int (2 : Int32)), .val (.ref w_JAVA), .val (.ref w_URL_ENCODINGS_entries), .val (.ref w_PHP), .val (.ref w_JAVA), .val (.ref w_RFC3986)] [])) _
    refine XS.aload X12.here hx rfl (hb hby at_154) rfl rfl ?_
    show Steps p.tables e below (T12.setTop (mkF m 156 #[.val (.int p0), .val (.int (2 : Int32)), .val (.ref w_JAVA), .val (.ref w_URL_ENCODINGS_entries), .val (.ref w_PHP), .val (.ref w_JAVA), .val (.ref w_RFC3986)] [(.ref w_RFC3986)])) _
    refine st13 _ ?_
    show Steps p.tables e below (T13.setTop (mkF m 159 #[.val (.int p0), .val (.int (2 : Int32)), .val (.ref w_JAVA), .val (.ref w_URL_ENCODINGS_entries), .val (.ref w_PHP), .val (.ref w_JAVA), .val (.ref w_RFC3986)] [(.int (1 : Int32))])) _
    refine XS.ifNo X13.here hx rfl (hb hby at_159) rfl ((if0 _ _).trans (feq (by decide : ¬ ((1 : Int32) = (0 : Int32)))).1) ?_
    show Steps p.tables e below (T13.setTop (mkF m 162 #[.val (.int p0), .val (.int (2 : Int32)), .val (.ref w_JAVA), .val (.ref w_URL_ENCODINGS_entries), .val (.ref w_PHP), .val (.ref w_JAVA), .val (.ref w_RFC3986)] [])) _
    refine XS.aload X13.here hx rfl (hb hby at_162) rfl rfl ?_
    show Steps p.tables e below (T13.setTop (mkF m 164 #[.val (.int p0), .val (.int (2 : Int32)), .val (.ref w_JAVA), .val (.ref w_URL_ENCODINGS_entries), .val (.ref w_PHP), .val (.ref w_JAVA), .val (.ref w_RFC3986)] [(.ref w_PHP)])) _
    refine XS.aload X13.here hx rfl (hb hby at_164) rfl rfl ?_
    show Steps p.tables e below (T13.setTop (mkF m 166 #[.val (.int p0), .val (.int (2 : Int32)), .val (.ref w_JAVA), .val (.ref w_URL_ENCODINGS_entries), .val (.ref w_PHP), .val (.ref w_JAVA), .val (.ref w_RFC3986)] [(.ref w_JAVA), (.ref w_PHP)])) _
    refine Jvm.RoadKit.acmp (g := (mkF m 166 #[.val (.int p0), .val (.int (2 : Int32)), .val (.ref w_JAVA), .val (.ref w_URL_ENCODINGS_entries), .val (.ref w_PHP), .val (.ref w_JAVA), .val (.ref w_RFC3986)] [(.ref w_JAVA), (.ref w_PHP)])) X13 hx rfl rfl rfl (pc0 := 166) (pc' := 169) (same := false) rfl (hb hby at_166) rfl (decide_eq_false fun q => ne_w_PHP_w_JAVA (Value.ref.inj q)) (by decide) (by decide) ?_
    show Steps p.tables e below (T13.setTop (mkF m 169 #[.val (.int p0), .val (.int (2 : Int32)), .val (.ref w_JAVA), .val (.ref w_URL_ENCODINGS_entries), .val (.ref w_PHP), .val (.ref w_JAVA), .val (.ref w_RFC3986)] [])) _
    refine XS.aload X13.here hx rfl (hb hby at_169) rfl rfl ?_
    show Steps p.tables e below (T13.setTop (mkF m 171 #[.val (.int p0), .val (.int (2 : Int32)), .val (.ref w_JAVA), .val (.ref w_URL_ENCODINGS_entries), .val (.ref w_PHP), .val (.ref w_JAVA), .val (.ref w_RFC3986)] [(.ref w_PHP)])) _
    refine XS.aload X13.here hx rfl (hb hby at_171) rfl rfl ?_
    show Steps p.tables e below (T13.setTop (mkF m 173 #[.val (.int p0), .val (.int (2 : Int32)), .val (.ref w_JAVA), .val (.ref w_URL_ENCODINGS_entries), .val (.ref w_PHP), .val (.ref w_JAVA), .val (.ref w_RFC3986)] [(.ref w_RFC3986), (.ref w_PHP)])) _
    refine Jvm.RoadKit.acmp (g := (mkF m 173 #[.val (.int p0), .val (.int (2 : Int32)), .val (.ref w_JAVA), .val (.ref w_URL_ENCODINGS_entries), .val (.ref w_PHP), .val (.ref w_JAVA), .val (.ref w_RFC3986)] [(.ref w_RFC3986), (.ref w_PHP)])) X13 hx rfl rfl rfl (pc0 := 173) (pc' := 176) (same := false) rfl (hb hby at_173) rfl (decide_eq_false fun q => ne_w_PHP_w_RFC3986 (Value.ref.inj q)) (by decide) (by decide) ?_
    show Steps p.tables e below (T13.setTop (mkF m 176 #[.val (.int p0), .val (.int (2 : Int32)), .val (.ref w_JAVA), .val (.ref w_URL_ENCODINGS_entries), .val (.ref w_PHP), .val (.ref w_JAVA), .val (.ref w_RFC3986)] [])) _
    refine XS.aload X13.here hx rfl (hb hby at_176) rfl rfl ?_
    show Steps p.tables e below (T13.setTop (mkF m 178 #[.val (.int p0), .val (.int (2 : Int32)), .val (.ref w_JAVA), .val (.ref w_URL_ENCODINGS_entries), .val (.ref w_PHP), .val (.ref w_JAVA), .val (.ref w_RFC3986)] [(.ref w_JAVA)])) _
    refine XS.aload X13.here hx rfl (hb hby at_178) rfl rfl ?_
    show Steps p.tables e below (T13.setTop (mkF m 180 #[.val (.int p0), .val (.int (2 : Int32)), .val (.ref w_JAVA), .val (.ref w_URL_ENCODINGS_entries), .val (.ref w_PHP), .val (.ref w_JAVA), .val (.ref w_RFC3986)] [(.ref w_RFC3986), (.ref w_JAVA)])) _
    refine Jvm.RoadKit.acmp (g := (mkF m 180 #[.val (.int p0), .val (.int (2 : Int32)), .val (.ref w_JAVA), .val (.ref w_URL_ENCODINGS_entries), .val (.ref w_PHP), .val (.ref w_JAVA), .val (.ref w_RFC3986)] [(.ref w_RFC3986), (.ref w_JAVA)])) X13 hx rfl rfl rfl (pc0 := 180) (pc' := 183) (same := false) rfl (hb hby at_180) rfl (decide_eq_false fun q => ne_w_JAVA_w_RFC3986 (Value.ref.inj q)) (by decide) (by decide) ?_
    show Steps p.tables e below (T13.setTop (mkF m 183 #[.val (.int p0), .val (.int (2 : Int32)), .val (.ref w_JAVA), .val (.ref w_URL_ENCODINGS_entries), .val (.ref w_PHP), .val (.ref w_JAVA), .val (.ref w_RFC3986)] [])) _
    refine XS.iconst X13.here hx rfl (hb hby at_183) ?_
    show Steps p.tables e below (T13.setTop (mkF m 184 #[.val (.int p0), .val (.int (2 : Int32)), .val (.ref w_JAVA), .val (.ref w_URL_ENCODINGS_entries), .val (.ref w_PHP), .val (.ref w_JAVA), .val (.ref w_RFC3986)] [(.int (1 : Int32))])) _
    refine XS.goto X13.here hx rfl (pc0 := 184) (pc' := 188) rfl (hb hby at_184) (by decide) (by decide) ?_
    show Steps p.tables e below (T13.setTop (mkF m 188 #[.val (.int p0), .val (.int (2 : Int32)), .val (.ref w_JAVA), .val (.ref w_URL_ENCODINGS_entries), .val (.ref w_PHP), .val (.ref w_JAVA), .val (.ref w_RFC3986)] [(.int (1 : Int32))])) _
    exact retN X13 hx (t := .boolean) Bd.returns (by simp) (hb hby at_188) hr
  · have eF : (T13.setFrames fs).heap = h0 := e13
    exact ⟨N13, rfl⟩
set_option maxRecDepth 65536 in
set_option maxHeartbeats 40000000 in
theorem rm0_3 (l : Launch) (Z : State) (a0 : Array Value) (hw : ∀ d ∈ tables_1, d.before a0 Z = true) (ws : List Jvm.Cond) (n0 : Nat) (h0 : Heap) (O : Old Z n0 h0) (w_NONE : Addr) (w_RFC3986 : Addr) (w_URL_ENCODINGS : Addr) (w_URL_ENCODINGS_entries : Addr) (w_URL_ENCODINGS_entries_elements : Addr) (w_PHP : Addr) (w_JAVA : Addr) (w_EMPTY : Addr) (w_EMPTY_LIST : Addr) (k_w_URL_ENCODINGS_entries_elements : ClassId) (W : OwW Z w_NONE w_RFC3986 w_URL_ENCODINGS w_URL_ENCODINGS_entries w_URL_ENCODINGS_entries_elements w_PHP w_JAVA w_EMPTY w_EMPTY_LIST k_w_URL_ENCODINGS_entries_elements) (p0 : Int32) (hi : p0 &&& (3 : Int32) = (3 : Int32)) :
    OwCon l x code maxLocals ret ws room_1 #[(.int p0)] Z h0 (OwP (fun v _ => v = some (.int 1)) n0) := by
  refine MetFree.of_bodySF (plainFor_of_name owpn0) hisR ?_
  intro p e s m args below meth c s₁ Bd hml0 hP hK
  obtain ⟨rfl, hZ, hh⟩ := hP
  have hx := Bd.exec
  have hby := Bd.bytes
  have hml : c.maxLocals = 7 := hml0
  have hown : s.vm.findClass "com/example/quittance/quittance/signing/ValueEncodingCheckedUnderPinLaw" = some m.cls := findClass_of_methodNamed Bd.named
  have hnm := (name_of_methodNamed Bd.named Bd.method).1
  have X0 : Stand p l e room_1 s m #[(.int p0)] below meth c s₁ [] 0 0 := Stand.of_body Bd
  have e0 : s₁.heap = h0 := by rw [← hh, Bd.state]; rfl
  have N0 := Fr.nil n0
  have WW := W
  obtain ⟨E_w_NONE, E_w_RFC3986, E_w_URL_ENCODINGS, E_w_URL_ENCODINGS_entries, E_w_PHP, E_w_JAVA, E_w_EMPTY, E_w_EMPTY_LIST, S_ValueEncoding_NONE, S_ValueEncoding_RFC3986, S_ValueEncoding_URL_ENCODINGS, F_w_URL_ENCODINGS_entries, F_w_URL_ENCODINGS_entries_elements, S_ValueEncoding_PHP, S_ValueEncoding_JAVA, F_w_JAVA_ordinal, F_w_PHP_ordinal, F_w_RFC3986_ordinal, S_ImmutableCollections_EMPTY, S_ImmutableCollections__assertionsDisabled, S_ImmutableCollections_EMPTY_LIST, V_w_URL_ENCODINGS_entries_elements, ne_w_PHP_w_NONE, ne_w_JAVA_w_NONE, ne_w_RFC3986_w_NONE, ne_w_PHP_w_JAVA, ne_w_PHP_w_RFC3986, ne_w_JAVA_w_RFC3986, -⟩ := WW
  have ef : entryFrame m #[(.int p0)] maxLocals = mkF m 0 #[.val (.int p0), .unset, .unset, .unset, .unset, .unset, .unset] [] := by first | rfl | (simp [entryFrame, mkF, argsToLocals, Value.category, maxLocals]; done)
  have pre0 : ∀ t, Steps p.tables e below (s₁.setTop (mkF m 0 #[.val (.int p0), .unset, .unset, .unset, .unset, .unset, .unset] [])) t → Steps p.tables e below (s₁.setTop (entryFrame m #[(.int p0)] maxLocals)) t := fun t k => castTop ef k
  obtain ⟨T1, X1, e1, st1⟩ := getS2 X0 hx hZ hown (host := "") (Or.inl (hw _ (List.mem_of_getElem? (i := 68) rfl))) Via.refl e0 (S_ValueEncoding_RFC3986.ext O.2) (g := (mkF m 39 #[.val (.int p0), .val (.int (3 : Int32)), .unset, .unset, .unset, .unset, .unset] [])) rfl (hb hby at_39)
  obtain ⟨cq2, kq2, q2a, q2b, q2c⟩ := isOf hZ e1 (E_w_RFC3986.ext O.2)
  obtain ⟨_, _, ⟨T2, L2, k2, n2⟩, -, X2, ⟨Lc2, hQ2, l2, y2, z2⟩, st2⟩ := X1.virtualBack hx (y := (⟨"com/example/quittance/quittance/signing/ValueEncoding", "checkedUnder", "()Ljava/util/List;"⟩ : MethodName)) (z := (⟨"com/example/quittance/quittance/signing/ValueEncoding", "checkedUnder", "()Ljava/util/List;"⟩ : MethodName)) hown (mvT hZ (hw _ (List.mem_of_getElem? (i := 3) rfl))) (mvT hZ (hw _ (List.mem_of_getElem? (i := 4) rfl))) (notFace_of_selects (args := #[]) (mvT hZ (hw _ (List.mem_of_getElem? (i := 70) rfl)))) (mvT hZ (hw _ (List.mem_of_getElem? (i := 70) rfl))) (mvT hZ (hw _ (List.mem_of_getElem? (i := 5) rfl))) (by decide) (backOf (W := 0) (rm1_o l Z a0 hw [] n0 h0 O w_NONE w_RFC3986 w_URL_ENCODINGS w_URL_ENCODINGS_entries w_URL_ENCODINGS_entries_elements w_PHP w_JAVA w_EMPTY w_EMPTY_LIST k_w_URL_ENCODINGS_entries_elements W w_RFC3986 ne_w_RFC3986_w_NONE) hZ (hw _ (List.mem_of_getElem? (i := 7) rfl)) (hw _ (List.mem_of_getElem? (i := 1) rfl)) (by decide) (by decide)) q2a q2c (g := (mkF m 44 #[.val (.int p0), .val (.int (3 : Int32)), .val (.ref w_RFC3986), .unset, .unset, .unset, .unset] [(.ref w_RFC3986)])) rfl (by rw [hml]; rfl) (Steps.refl _) (argsL := []) (rest := []) (lenOf owpd4 rfl) rfl (by show 2 * 0 + _ ≤ _; exact Nat.le_of_eq rfl) (hb hby at_44) (fun _ _ => ⟨rfl, e1, (by decide : 0 + 0 ≤ _), (by decide : 0 + 0 ≤ _)⟩)
  dsimp only [Pt.U, Pt.locs, Pt.cells, Pt.slots] at X2 l2 y2 z2 st2 hQ2
  subst l2 y2 z2
  obtain ⟨rfl, Nq2, e2⟩ := hQ2
  have N2 := Fr.app N0 Nq2
  obtain ⟨T3, X3, e3, st3⟩ := getS2 X2 hx hZ hown (host := "") (Or.inl (hw _ (List.mem_of_getElem? (i := 0) rfl))) Via.refl e2 (S_ValueEncoding_NONE.ext O.2) (g := (mkF m 55 #[.val (.int p0), .val (.int (3 : Int32)), .val (.ref w_RFC3986), .val (.ref w_URL_ENCODINGS_entries), .unset, .unset, .unset] [(.ref w_RFC3986)])) rfl (hb hby at_55)
  obtain ⟨cq4, kq4, q4a, q4b, q4c⟩ := isOf hZ e3 (E_w_URL_ENCODINGS_entries.ext O.2)
  obtain ⟨_, _, ⟨T4, L4, k4, n4⟩, -, X4, ⟨Lc4, hQ4, l4, y4, z4⟩, st4⟩ := X3.interfaceBack hx (xi := (⟨"java/util/List", "size", "()I"⟩ : MethodName)) (y := (⟨"java/util/ImmutableCollections$ListN", "size", "()I"⟩ : MethodName)) hown (mvT hZ (hw _ (List.mem_of_getElem? (i := 51) rfl))) (mvT hZ (hw _ (List.mem_of_getElem? (i := 52) rfl))) (mvT hZ (hw _ (List.mem_of_getElem? (i := 53) rfl))) (mvT hZ (hw _ (List.mem_of_getElem? (i := 81) rfl))) (mvT hZ (hw _ (List.mem_of_getElem? (i := 82) rfl))) (mvT hZ (hw _ (List.mem_of_getElem? (i := 83) rfl))) (mvT hZ (hw _ (List.mem_of_getElem? (i := 84) rfl))) (mvT hZ (hw _ (List.mem_of_getElem? (i := 85) rfl))) (by decide) (backOf (W := 0) (rm12 l Z a0 hw [] n0 h0 O w_NONE w_RFC3986 w_URL_ENCODINGS w_URL_ENCODINGS_entries w_URL_ENCODINGS_entries_elements w_PHP w_JAVA w_EMPTY w_EMPTY_LIST k_w_URL_ENCODINGS_entries_elements W  ) hZ (hw _ (List.mem_of_getElem? (i := 87) rfl)) (hw _ (List.mem_of_getElem? (i := 86) rfl)) (by decide) (by decide)) q4a q4b q4c (g := (mkF m 91 #[.val (.int p0), .val (.int (3 : Int32)), .val (.ref w_RFC3986), .val (.ref w_URL_ENCODINGS_entries), .unset, .unset, .unset] [(.ref w_URL_ENCODINGS_entries)])) rfl (by rw [hml]; rfl) (Steps.refl _) (argsL := []) (rest := []) (lenOf owpd5 rfl) rfl (by show 2 * 0 + _ ≤ _; exact Nat.le_of_eq rfl) (hb hby at_91) (fun _ _ => ⟨rfl, e3, (by decide : 0 + 0 ≤ _), (by decide : 0 + 0 ≤ _)⟩)
  dsimp only [Pt.U, Pt.locs, Pt.cells, Pt.slots] at X4 l4 y4 z4 st4 hQ4
  subst l4 y4 z4
  obtain ⟨rfl, Nq4, e4⟩ := hQ4
  have N4 := Fr.app N2 Nq4
  obtain ⟨cq5, kq5, q5a, q5b, q5c⟩ := isOf hZ e4 (E_w_URL_ENCODINGS_entries.ext O.2)
  obtain ⟨_, _, ⟨T5, L5, k5, n5⟩, -, X5, ⟨Lc5, hQ5, l5, y5, z5⟩, st5⟩ := X4.interfaceBack hx (xi := (⟨"java/util/List", "get", "(I)Ljava/lang/Object;"⟩ : MethodName)) (y := (⟨"java/util/ImmutableCollections$ListN", "get", "(I)Ljava/lang/Object;"⟩ : MethodName)) hown (mvT hZ (hw _ (List.mem_of_getElem? (i := 60) rfl))) (mvT hZ (hw _ (List.mem_of_getElem? (i := 61) rfl))) (mvT hZ (hw _ (List.mem_of_getElem? (i := 62) rfl))) (mvT hZ (hw _ (List.mem_of_getElem? (i := 90) rfl))) (mvT hZ (hw _ (List.mem_of_getElem? (i := 91) rfl))) (mvT hZ (hw _ (List.mem_of_getElem? (i := 92) rfl))) (mvT hZ (hw _ (List.mem_of_getElem? (i := 93) rfl))) (mvT hZ (hw _ (List.mem_of_getElem? (i := 85) rfl))) (by decide) (backOf (W := 0) (rm13_0 l Z a0 hw [] n0 h0 O w_NONE w_RFC3986 w_URL_ENCODINGS w_URL_ENCODINGS_entries w_URL_ENCODINGS_entries_elements w_PHP w_JAVA w_EMPTY w_EMPTY_LIST k_w_URL_ENCODINGS_entries_elements W  ) hZ (hw _ (List.mem_of_getElem? (i := 94) rfl)) (hw _ (List.mem_of_getElem? (i := 86) rfl)) (by decide) (by decide)) q5a q5b q5c (g := (mkF m 104 #[.val (.int p0), .val (.int (3 : Int32)), .val (.ref w_RFC3986), .val (.ref w_URL_ENCODINGS_entries), .unset, .unset, .unset] [(.int (0 : Int32)), (.ref w_URL_ENCODINGS_entries)])) rfl (by rw [hml]; rfl) (Steps.refl _) (argsL := [(.int (0 : Int32))]) (rest := []) (lenOf owpd6 rfl) rfl (by show 2 * 0 + _ ≤ _; exact Nat.le_of_eq rfl) (hb hby at_104) (fun _ _ => ⟨rfl, e4, (by decide : 0 + 0 ≤ _), (by decide : 0 + 0 ≤ _)⟩)
  dsimp only [Pt.U, Pt.locs, Pt.cells, Pt.slots] at X5 l5 y5 z5 st5 hQ5
  subst l5 y5 z5
  obtain ⟨rfl, Nq5, e5⟩ := hQ5
  have N5 := Fr.app N4 Nq5
  obtain ⟨T6, X6, e6, st6⟩ := castY X5 hx hZ hown (hw _ (List.mem_of_getElem? (i := 96) rfl)) e5 (Ins.self (E_w_PHP.ext O.2)) (g := (mkF m 109 #[.val (.int p0), .val (.int (3 : Int32)), .val (.ref w_RFC3986), .val (.ref w_URL_ENCODINGS_entries), .unset, .unset, .unset] [(.ref w_PHP)])) rfl rfl (hb hby at_109)
  obtain ⟨cq7, kq7, q7a, q7b, q7c⟩ := isOf hZ e6 (E_w_URL_ENCODINGS_entries.ext O.2)
  obtain ⟨_, _, ⟨T7, L7, k7, n7⟩, -, X7, ⟨Lc7, hQ7, l7, y7, z7⟩, st7⟩ := X6.interfaceBack hx (xi := (⟨"java/util/List", "get", "(I)Ljava/lang/Object;"⟩ : MethodName)) (y := (⟨"java/util/ImmutableCollections$ListN", "get", "(I)Ljava/lang/Object;"⟩ : MethodName)) hown (mvT hZ (hw _ (List.mem_of_getElem? (i := 60) rfl))) (mvT hZ (hw _ (List.mem_of_getElem? (i := 61) rfl))) (mvT hZ (hw _ (List.mem_of_getElem? (i := 62) rfl))) (mvT hZ (hw _ (List.mem_of_getElem? (i := 90) rfl))) (mvT hZ (hw _ (List.mem_of_getElem? (i := 91) rfl))) (mvT hZ (hw _ (List.mem_of_getElem? (i := 92) rfl))) (mvT hZ (hw _ (List.mem_of_getElem? (i := 93) rfl))) (mvT hZ (hw _ (List.mem_of_getElem? (i := 85) rfl))) (by decide) (backOf (W := 0) (rm13_1 l Z a0 hw [] n0 h0 O w_NONE w_RFC3986 w_URL_ENCODINGS w_URL_ENCODINGS_entries w_URL_ENCODINGS_entries_elements w_PHP w_JAVA w_EMPTY w_EMPTY_LIST k_w_URL_ENCODINGS_entries_elements W  ) hZ (hw _ (List.mem_of_getElem? (i := 94) rfl)) (hw _ (List.mem_of_getElem? (i := 86) rfl)) (by decide) (by decide)) q7a q7b q7c (g := (mkF m 116 #[.val (.int p0), .val (.int (3 : Int32)), .val (.ref w_RFC3986), .val (.ref w_URL_ENCODINGS_entries), .val (.ref w_PHP), .unset, .unset] [(.int (1 : Int32)), (.ref w_URL_ENCODINGS_entries)])) rfl (by rw [hml]; rfl) (Steps.refl _) (argsL := [(.int (1 : Int32))]) (rest := []) (lenOf owpd6 rfl) rfl (by show 2 * 0 + _ ≤ _; exact Nat.le_of_eq rfl) (hb hby at_116) (fun _ _ => ⟨rfl, e6, (by decide : 0 + 0 ≤ _), (by decide : 0 + 0 ≤ _)⟩)
  dsimp only [Pt.U, Pt.locs, Pt.cells, Pt.slots] at X7 l7 y7 z7 st7 hQ7
  subst l7 y7 z7
  obtain ⟨rfl, Nq7, e7⟩ := hQ7
  have N7 := Fr.app N5 Nq7
  obtain ⟨T8, X8, e8, st8⟩ := castY X7 hx hZ hown (hw _ (List.mem_of_getElem? (i := 96) rfl)) e7 (Ins.self (E_w_JAVA.ext O.2)) (g := (mkF m 121 #[.val (.int p0), .val (.int (3 : Int32)), .val (.ref w_RFC3986), .val (.ref w_URL_ENCODINGS_entries), .val (.ref w_PHP), .unset, .unset] [(.ref w_JAVA)])) rfl rfl (hb hby at_121)
  obtain ⟨cq9, kq9, q9a, q9b, q9c⟩ := isOf hZ e8 (E_w_URL_ENCODINGS_entries.ext O.2)
  obtain ⟨_, _, ⟨T9, L9, k9, n9⟩, -, X9, ⟨Lc9, hQ9, l9, y9, z9⟩, st9⟩ := X8.interfaceBack hx (xi := (⟨"java/util/List", "get", "(I)Ljava/lang/Object;"⟩ : MethodName)) (y := (⟨"java/util/ImmutableCollections$ListN", "get", "(I)Ljava/lang/Object;"⟩ : MethodName)) hown (mvT hZ (hw _ (List.mem_of_getElem? (i := 60) rfl))) (mvT hZ (hw _ (List.mem_of_getElem? (i := 61) rfl))) (mvT hZ (hw _ (List.mem_of_getElem? (i := 62) rfl))) (mvT hZ (hw _ (List.mem_of_getElem? (i := 90) rfl))) (mvT hZ (hw _ (List.mem_of_getElem? (i := 91) rfl))) (mvT hZ (hw _ (List.mem_of_getElem? (i := 92) rfl))) (mvT hZ (hw _ (List.mem_of_getElem? (i := 93) rfl))) (mvT hZ (hw _ (List.mem_of_getElem? (i := 85) rfl))) (by decide) (backOf (W := 0) (rm13_2 l Z a0 hw [] n0 h0 O w_NONE w_RFC3986 w_URL_ENCODINGS w_URL_ENCODINGS_entries w_URL_ENCODINGS_entries_elements w_PHP w_JAVA w_EMPTY w_EMPTY_LIST k_w_URL_ENCODINGS_entries_elements W  ) hZ (hw _ (List.mem_of_getElem? (i := 94) rfl)) (hw _ (List.mem_of_getElem? (i := 86) rfl)) (by decide) (by decide)) q9a q9b q9c (g := (mkF m 128 #[.val (.int p0), .val (.int (3 : Int32)), .val (.ref w_RFC3986), .val (.ref w_URL_ENCODINGS_entries), .val (.ref w_PHP), .val (.ref w_JAVA), .unset] [(.int (2 : Int32)), (.ref w_URL_ENCODINGS_entries)])) rfl (by rw [hml]; rfl) (Steps.refl _) (argsL := [(.int (2 : Int32))]) (rest := []) (lenOf owpd6 rfl) rfl (by show 2 * 0 + _ ≤ _; exact Nat.le_of_eq rfl) (hb hby at_128) (fun _ _ => ⟨rfl, e8, (by decide : 0 + 0 ≤ _), (by decide : 0 + 0 ≤ _)⟩)
  dsimp only [Pt.U, Pt.locs, Pt.cells, Pt.slots] at X9 l9 y9 z9 st9 hQ9
  subst l9 y9 z9
  obtain ⟨rfl, Nq9, e9⟩ := hQ9
  have N9 := Fr.app N7 Nq9
  obtain ⟨T10, X10, e10, st10⟩ := castY X9 hx hZ hown (hw _ (List.mem_of_getElem? (i := 96) rfl)) e9 (Ins.self (E_w_RFC3986.ext O.2)) (g := (mkF m 133 #[.val (.int p0), .val (.int (3 : Int32)), .val (.ref w_RFC3986), .val (.ref w_URL_ENCODINGS_entries), .val (.ref w_PHP), .val (.ref w_JAVA), .unset] [(.ref w_RFC3986)])) rfl rfl (hb hby at_133)
  obtain ⟨_, _, ⟨T11, L11, k11, n11⟩, -, X11, ⟨Lc11, hQ11, l11, y11, z11⟩, st11⟩ := Jvm.LawKit.callS X10 hx (y := (⟨"com/example/quittance/quittance/signing/ValueEncodingCheckedUnderPinLaw", "isUrl", "(Lcom/example/quittance/quittance/signing/ValueEncoding;)Z"⟩ : MethodName)) hown (mvT hZ (hw _ (List.mem_of_getElem? (i := 99) rfl))) (mvT hZ (hw _ (List.mem_of_getElem? (i := 100) rfl))) (mvT hZ (hw _ (List.mem_of_getElem? (i := 101) rfl))) (mvT hZ (hw _ (List.mem_of_getElem? (i := 102) rfl))) (by decide) (backOf (W := 0) (rm14_PHP l Z a0 hw [] n0 h0 O w_NONE w_RFC3986 w_URL_ENCODINGS w_URL_ENCODINGS_entries w_URL_ENCODINGS_entries_elements w_PHP w_JAVA w_EMPTY w_EMPTY_LIST k_w_URL_ENCODINGS_entries_elements W  ) hZ (hw _ (List.mem_of_getElem? (i := 102) rfl)) (hw _ (List.mem_of_getElem? (i := 101) rfl)) (by decide) (by decide)) (g := (mkF m 140 #[.val (.int p0), .val (.int (3 : Int32)), .val (.ref w_RFC3986), .val (.ref w_URL_ENCODINGS_entries), .val (.ref w_PHP), .val (.ref w_JAVA), .val (.ref w_RFC3986)] [(.ref w_PHP)])) rfl (by rw [hml]; rfl) (argsL := [(.ref w_PHP)]) (rest := []) (lenOf owpd7 rfl) rfl (by show 2 * 0 + _ ≤ _; exact Nat.le_of_eq rfl) (hb hby at_140) (fun _ _ => ⟨rfl, e10, (by decide : 0 + 0 ≤ _), (by decide : 0 + 0 ≤ _)⟩)
  dsimp only [Pt.U, Pt.locs, Pt.cells, Pt.slots] at X11 l11 y11 z11 st11 hQ11
  subst l11 y11 z11
  obtain ⟨rfl, Nq11, e11⟩ := hQ11
  have N11 := Fr.app N9 Nq11
  obtain ⟨_, _, ⟨T12, L12, k12, n12⟩, -, X12, ⟨Lc12, hQ12, l12, y12, z12⟩, st12⟩ := Jvm.LawKit.callS X11 hx (y := (⟨"com/example/quittance/quittance/signing/ValueEncodingCheckedUnderPinLaw", "isUrl", "(Lcom/example/quittance/quittance/signing/ValueEncoding;)Z"⟩ : MethodName)) hown (mvT hZ (hw _ (List.mem_of_getElem? (i := 99) rfl))) (mvT hZ (hw _ (List.mem_of_getElem? (i := 100) rfl))) (mvT hZ (hw _ (List.mem_of_getElem? (i := 101) rfl))) (mvT hZ (hw _ (List.mem_of_getElem? (i := 102) rfl))) (by decide) (backOf (W := 0) (rm14_JAVA l Z a0 hw [] n0 h0 O w_NONE w_RFC3986 w_URL_ENCODINGS w_URL_ENCODINGS_entries w_URL_ENCODINGS_entries_elements w_PHP w_JAVA w_EMPTY w_EMPTY_LIST k_w_URL_ENCODINGS_entries_elements W  ) hZ (hw _ (List.mem_of_getElem? (i := 102) rfl)) (hw _ (List.mem_of_getElem? (i := 101) rfl)) (by decide) (by decide)) (g := (mkF m 148 #[.val (.int p0), .val (.int (3 : Int32)), .val (.ref w_RFC3986), .val (.ref w_URL_ENCODINGS_entries), .val (.ref w_PHP), .val (.ref w_JAVA), .val (.ref w_RFC3986)] [(.ref w_JAVA)])) rfl (by rw [hml]; rfl) (argsL := [(.ref w_JAVA)]) (rest := []) (lenOf owpd7 rfl) rfl (by show 2 * 0 + _ ≤ _; exact Nat.le_of_eq rfl) (hb hby at_148) (fun _ _ => ⟨rfl, e11, (by decide : 0 + 0 ≤ _), (by decide : 0 + 0 ≤ _)⟩)
  dsimp only [Pt.U, Pt.locs, Pt.cells, Pt.slots] at X12 l12 y12 z12 st12 hQ12
  subst l12 y12 z12
  obtain ⟨rfl, Nq12, e12⟩ := hQ12
  have N12 := Fr.app N11 Nq12
  obtain ⟨_, _, ⟨T13, L13, k13, n13⟩, -, X13, ⟨Lc13, hQ13, l13, y13, z13⟩, st13⟩ := Jvm.LawKit.callS X12 hx (y := (⟨"com/example/quittance/quittance/signing/ValueEncodingCheckedUnderPinLaw", "isUrl", "(Lcom/example/quittance/quittance/signing/ValueEncoding;)Z"⟩ : MethodName)) hown (mvT hZ (hw _ (List.mem_of_getElem? (i := 99) rfl))) (mvT hZ (hw _ (List.mem_of_getElem? (i := 100) rfl))) (mvT hZ (hw _ (List.mem_of_getElem? (i := 101) rfl))) (mvT hZ (hw _ (List.mem_of_getElem? (i := 102) rfl))) (by decide) (backOf (W := 0) (rm14_RFC3986 l Z a0 hw [] n0 h0 O w_NONE w_RFC3986 w_URL_ENCODINGS w_URL_ENCODINGS_entries w_URL_ENCODINGS_entries_elements w_PHP w_JAVA w_EMPTY w_EMPTY_LIST k_w_URL_ENCODINGS_entries_elements W  ) hZ (hw _ (List.mem_of_getElem? (i := 102) rfl)) (hw _ (List.mem_of_getElem? (i := 101) rfl)) (by decide) (by decide)) (g := (mkF m 156 #[.val (.int p0), .val (.int (3 : Int32)), .val (.ref w_RFC3986), .val (.ref w_URL_ENCODINGS_entries), .val (.ref w_PHP), .val (.ref w_JAVA), .val (.ref w_RFC3986)] [(.ref w_RFC3986)])) rfl (by rw [hml]; rfl) (argsL := [(.ref w_RFC3986)]) (rest := []) (lenOf owpd7 rfl) rfl (by show 2 * 0 + _ ≤ _; exact Nat.le_of_eq rfl) (hb hby at_156) (fun _ _ => ⟨rfl, e12, (by decide : 0 + 0 ≤ _), (by decide : 0 + 0 ≤ _)⟩)
  dsimp only [Pt.U, Pt.locs, Pt.cells, Pt.slots] at X13 l13 y13 z13 st13 hQ13
  subst l13 y13 z13
  obtain ⟨rfl, Nq13, e13⟩ := hQ13
  have N13 := Fr.app N12 Nq13
  obtain ⟨fs, hr, hrun, hended, hW, hsame⟩ := X13.leave (v := some (.int (1 : Int32))) (fun h => by rw [Bd.returns] at h; cases h)
  refine ⟨_, _, pre0 _ ?_, hrun, hended, _, _, rfl, ?_, ⟨_, rfl⟩, hW, hsame.mono (by decide) (by decide)⟩
  · show Steps p.tables e below (s₁.setTop (mkF m 0 #[.val (.int p0), .unset, .unset, .unset, .unset, .unset, .unset] [])) _
    refine XS.iloadN X0.here hx rfl (hb hby at_0) rfl ?_
    show Steps p.tables e below (s₁.setTop (mkF m 1 #[.val (.int p0), .unset, .unset, .unset, .unset, .unset, .unset] [(.int p0)])) _
    refine XS.iconst X0.here hx rfl (hb hby at_1) ?_
    show Steps p.tables e below (s₁.setTop (mkF m 2 #[.val (.int p0), .unset, .unset, .unset, .unset, .unset, .unset] [(.int (3 : Int32)), (.int p0)])) _
    refine XS.iand X0.here hx rfl (hb hby at_2) rfl ?_
    show Steps p.tables e below (s₁.setTop (mkF m 3 #[.val (.int p0), .unset, .unset, .unset, .unset, .unset, .unset] [(.int (p0 &&& (3 : Int32)))])) _
    rw [hi]
    show Steps p.tables e below (s₁.setTop (mkF m 3 #[.val (.int p0), .unset, .unset, .unset, .unset, .unset, .unset] [(.int (3 : Int32))])) _
    refine XS.istoreN X0.here hx rfl (hb hby at_3) rfl (l' := #[.val (.int p0), .val (.int (3 : Int32)), .unset, .unset, .unset, .unset, .unset]) rfl ?_
    show Steps p.tables e below (s₁.setTop (mkF m 4 #[.val (.int p0), .val (.int (3 : Int32)), .unset, .unset, .unset, .unset, .unset] [])) _
    refine XS.iloadN X0.here hx rfl (hb hby at_4) rfl ?_
    show Steps p.tables e below (s₁.setTop (mkF m 5 #[.val (.int p0), .val (.int (3 : Int32)), .unset, .unset, .unset, .unset, .unset] [(.int (3 : Int32))])) _
    refine XS.ifYes X0.here hx rfl (pc0 := 5) (pc' := 15) rfl (hb hby at_5) rfl ((if0 _ _).trans (feq (by decide : ¬ ((3 : Int32) = (0 : Int32)))).2) (by decide) (by decide) ?_
    show Steps p.tables e below (s₁.setTop (mkF m 15 #[.val (.int p0), .val (.int (3 : Int32)), .unset, .unset, .unset, .unset, .unset] [])) _
    refine XS.iloadN X0.here hx rfl (hb hby at_15) rfl ?_
    show Steps p.tables e below (s₁.setTop (mkF m 16 #[.val (.int p0), .val (.int (3 : Int32)), .unset, .unset, .unset, .unset, .unset] [(.int (3 : Int32))])) _
    refine XS.iconst X0.here hx rfl (hb hby at_16) ?_
    show Steps p.tables e below (s₁.setTop (mkF m 17 #[.val (.int p0), .val (.int (3 : Int32)), .unset, .unset, .unset, .unset, .unset] [(.int (1 : Int32)), (.int (3 : Int32))])) _
    refine XS.icmpYes X0.here hx rfl (pc0 := 17) (pc' := 27) rfl (hb hby at_17) rfl (feq (by decide : ¬ ((3 : Int32) = (1 : Int32)))).2 (by decide) (by decide) ?_
    show Steps p.tables e below (s₁.setTop (mkF m 27 #[.val (.int p0), .val (.int (3 : Int32)), .unset, .unset, .unset, .unset, .unset] [])) _
    refine XS.iloadN X0.here hx rfl (hb hby at_27) rfl ?_
    show Steps p.tables e below (s₁.setTop (mkF m 28 #[.val (.int p0), .val (.int (3 : Int32)), .unset, .unset, .unset, .unset, .unset] [(.int (3 : Int32))])) _
    refine XS.iconst X0.here hx rfl (hb hby at_28) ?_
    show Steps p.tables e below (s₁.setTop (mkF m 29 #[.val (.int p0), .val (.int (3 : Int32)), .unset, .unset, .unset, .unset, .unset] [(.int (2 : Int32)), (.int (3 : Int32))])) _
    refine XS.icmpYes X0.here hx rfl (pc0 := 29) (pc' := 39) rfl (hb hby at_29) rfl (feq (by decide : ¬ ((3 : Int32) = (2 : Int32)))).2 (by decide) (by decide) ?_
    show Steps p.tables e below (s₁.setTop (mkF m 39 #[.val (.int p0), .val (.int (3 : Int32)), .unset, .unset, .unset, .unset, .unset] [])) _
    refine st1 _ ?_
    show Steps p.tables e below (T1.setTop (mkF m 42 #[.val (.int p0), .val (.int (3 : Int32)), .unset, .unset, .unset, .unset, .unset] [(.ref w_RFC3986)])) _
    refine XS.astoreN X1.here hx rfl (hb hby at_42) rfl rfl (l' := #[.val (.int p0), .val (.int (3 : Int32)), .val (.ref w_RFC3986), .unset, .unset, .unset, .unset]) rfl ?_
    show Steps p.tables e below (T1.setTop (mkF m 43 #[.val (.int p0), .val (.int (3 : Int32)), .val (.ref w_RFC3986), .unset, .unset, .unset, .unset] [])) _
    refine XS.aloadN X1.here hx rfl (hb hby at_43) rfl rfl ?_
    show Steps p.tables e below (T1.setTop (mkF m 44 #[.val (.int p0), .val (.int (3 : Int32)), .val (.ref w_RFC3986), .unset, .unset, .unset, .unset] [(.ref w_RFC3986)])) _
    refine st2.trans ?_
    show Steps p.tables e below (T2.setTop (mkF m 47 #[.val (.int p0), .val (.int (3 : Int32)), .val (.ref w_RFC3986), .unset, .unset, .unset, .unset] [(.ref w_URL_ENCODINGS_entries)])) _
    refine XS.astoreN X2.here hx rfl (hb hby at_47) rfl rfl (l' := #[.val (.int p0), .val (.int (3 : Int32)), .val (.ref w_RFC3986), .val (.ref w_URL_ENCODINGS_entries), .unset, .unset, .unset]) rfl ?_
    show Steps p.tables e below (T2.setTop (mkF m 48 #[.val (.int p0), .val (.int (3 : Int32)), .val (.ref w_RFC3986), .val (.ref w_URL_ENCODINGS_entries), .unset, .unset, .unset] [])) _
    refine XS.aloadN X2.here hx rfl (hb hby at_48) rfl rfl ?_
    show Steps p.tables e below (T2.setTop (mkF m 49 #[.val (.int p0), .val (.int (3 : Int32)), .val (.ref w_RFC3986), .val (.ref w_URL_ENCODINGS_entries), .unset, .unset, .unset] [(.ref w_URL_ENCODINGS_entries)])) _
    refine XS.ifnonnullYes X2.here hx rfl (pc0 := 49) (pc' := 54) rfl (hb hby at_49) rfl (by decide) (by decide) ?_
    show Steps p.tables e below (T2.setTop (mkF m 54 #[.val (.int p0), .val (.int (3 : Int32)), .val (.ref w_RFC3986), .val (.ref w_URL_ENCODINGS_entries), .unset, .unset, .unset] [])) _
    refine XS.aloadN X2.here hx rfl (hb hby at_54) rfl rfl ?_
    show Steps p.tables e below (T2.setTop (mkF m 55 #[.val (.int p0), .val (.int (3 : Int32)), .val (.ref w_RFC3986), .val (.ref w_URL_ENCODINGS_entries), .unset, .unset, .unset] [(.ref w_RFC3986)])) _
    refine st3 _ ?_
    show Steps p.tables e below (T3.setTop (mkF m 58 #[.val (.int p0), .val (.int (3 : Int32)), .val (.ref w_RFC3986), .val (.ref w_URL_ENCODINGS_entries), .unset, .unset, .unset] [(.ref w_NONE), (.ref w_RFC3986)])) _
    refine Jvm.RoadKit.acmp (g := (mkF m 58 #[.val (.int p0), .val (.int (3 : Int32)), .val (.ref w_RFC3986), .val (.ref w_URL_ENCODINGS_entries), .unset, .unset, .unset] [(.ref w_NONE), (.ref w_RFC3986)])) X3 hx rfl rfl rfl (pc0 := 58) (pc' := 90) (same := false) rfl (hb hby at_58) rfl (decide_eq_false fun q => ne_w_RFC3986_w_NONE (Value.ref.inj q)) (by decide) (by decide) ?_
    show Steps p.tables e below (T3.setTop (mkF m 90 #[.val (.int p0), .val (.int (3 : Int32)), .val (.ref w_RFC3986), .val (.ref w_URL_ENCODINGS_entries), .unset, .unset, .unset] [])) _
    refine XS.aloadN X3.here hx rfl (hb hby at_90) rfl rfl ?_
    show Steps p.tables e below (T3.setTop (mkF m 91 #[.val (.int p0), .val (.int (3 : Int32)), .val (.ref w_RFC3986), .val (.ref w_URL_ENCODINGS_entries), .unset, .unset, .unset] [(.ref w_URL_ENCODINGS_entries)])) _
    refine st4.trans ?_
    show Steps p.tables e below (T4.setTop (mkF m 96 #[.val (.int p0), .val (.int (3 : Int32)), .val (.ref w_RFC3986), .val (.ref w_URL_ENCODINGS_entries), .unset, .unset, .unset] [(.int (3 : Int32))])) _
    refine XS.iconst X4.here hx rfl (hb hby at_96) ?_
    show Steps p.tables e below (T4.setTop (mkF m 97 #[.val (.int p0), .val (.int (3 : Int32)), .val (.ref w_RFC3986), .val (.ref w_URL_ENCODINGS_entries), .unset, .unset, .unset] [(.int (3 : Int32)), (.int (3 : Int32))])) _
    refine XS.icmpYes X4.here hx rfl (pc0 := 97) (pc' := 102) rfl (hb hby at_97) rfl (teq (by decide : (3 : Int32) = (3 : Int32))).1 (by decide) (by decide) ?_
    show Steps p.tables e below (T4.setTop (mkF m 102 #[.val (.int p0), .val (.int (3 : Int32)), .val (.ref w_RFC3986), .val (.ref w_URL_ENCODINGS_entries), .unset, .unset, .unset] [])) _
    refine XS.aloadN X4.here hx rfl (hb hby at_102) rfl rfl ?_
    show Steps p.tables e below (T4.setTop (mkF m 103 #[.val (.int p0), .val (.int (3 : Int32)), .val (.ref w_RFC3986), .val (.ref w_URL_ENCODINGS_entries), .unset, .unset, .unset] [(.ref w_URL_ENCODINGS_entries)])) _
    refine XS.iconst X4.here hx rfl (hb hby at_103) ?_
    show Steps p.tables e below (T4.setTop (mkF m 104 #[.val (.int p0), .val (.int (3 : Int32)), .val (.ref w_RFC3986), .val (.ref w_URL_ENCODINGS_entries), .unset, .unset, .unset] [(.int (0 : Int32)), (.ref w_URL_ENCODINGS_entries)])) _
    refine st5.trans ?_
    show Steps p.tables e below (T5.setTop (mkF m 109 #[.val (.int p0), .val (.int (3 : Int32)), .val (.ref w_RFC3986), .val (.ref w_URL_ENCODINGS_entries), .unset, .unset, .unset] [(.ref w_PHP)])) _
    refine st6 _ ?_
    show Steps p.tables e below (T6.setTop (mkF m 112 #[.val (.int p0), .val (.int (3 : Int32)), .val (.ref w_RFC3986), .val (.ref w_URL_ENCODINGS_entries), .unset, .unset, .unset] [(.ref w_PHP)])) _
    refine XS.astore X6.here hx rfl (hb hby at_112) rfl rfl (l' := #[.val (.int p0), .val (.int (3 : Int32)), .val (.ref w_RFC3986), .val (.ref w_URL_ENCODINGS_entries), .val (.ref w_PHP), .unset, .unset]) rfl ?_
    show Steps p.tables e below (T6.setTop (mkF m 114 #[.val (.int p0), .val (.int (3 : Int32)), .val (.ref w_RFC3986), .val (.ref w_URL_ENCODINGS_entries), .val (.ref w_PHP), .unset, .unset] [])) _
    refine XS.aloadN X6.here hx rfl (hb hby at_114) rfl rfl ?_
    show Steps p.tables e below (T6.setTop (mkF m 115 #[.val (.int p0), .val (.int (3 : Int32)), .val (.ref w_RFC3986), .val (.ref w_URL_ENCODINGS_entries), .val (.ref w_PHP), .unset, .unset] [(.ref w_URL_ENCODINGS_entries)])) _
    refine XS.iconst X6.here hx rfl (hb hby at_115) ?_
    show Steps p.tables e below (T6.setTop (mkF m 116 #[.val (.int p0), .val (.int (3 : Int32)), .val (.ref w_RFC3986), .val (.ref w_URL_ENCODINGS_entries), .val (.ref w_PHP), .unset, .unset] [(.int (1 : Int32)), (.ref w_URL_ENCODINGS_entries)])) _
    refine st7.trans ?_
    show Steps p.tables e below (T7.setTop (mkF m 121 #[.val (.int p0), .val (.int (3 : Int32)), .val (.ref w_RFC3986), .val (.ref w_URL_ENCODINGS_entries), .val (.ref w_PHP), .unset, .unset] [(.ref w_JAVA)])) _
    refine st8 _ ?_
    show Steps p.tables e below (T8.setTop (mkF m 124 #[.val (.int p0), .val (.int (3 : Int32)), .val (.ref w_RFC3986), .val (.ref w_URL_ENCODINGS_entries), .val (.ref w_PHP), .unset, .unset] [(.ref w_JAVA)])) _
    refine XS.astore X8.here hx rfl (hb hby at_124) rfl rfl (l' := #[.val (.int p0), .val (.int (3 : Int32)), .val (.ref w_RFC3986), .val (.ref w_URL_ENCODINGS_entries), .val (.ref w_PHP), .val (.ref w_JAVA), .unset]) rfl ?_
    show Steps p.tables e below (T8.setTop (mkF m 126 #[.val (.int p0), .val (.int (3 : Int32)), .val (.ref w_RFC3986), .val (.ref w_URL_ENCODINGS_entries), .val (.ref w_PHP), .val (.ref w_JAVA), .unset] [])) _
    refine XS.aloadN X8.here hx rfl (hb hby at_126) rfl rfl ?_
    show Steps p.tables e below (T8.setTop (mkF m 127 #[.val (.int p0), .val (.int (3 : Int32)), .val (.ref w_RFC3986), .val (.ref w_URL_ENCODINGS_entries), .val (.ref w_PHP), .val (.ref w_JAVA), .unset] [(.ref w_URL_ENCODINGS_entries)])) _
    refine XS.iconst X8.here hx rfl (hb hby at_127) ?_
    show Steps p.tables e below (T8.setTop (mkF m 128 #[.val (.int p0), .val (.int (3 : Int32)), .val (.ref w_RFC3986), .val (.ref w_URL_ENCODINGS_entries), .val (.ref w_PHP), .val (.ref w_JAVA), .unset] [(.int (2 : Int32)), (.ref w_URL_ENCODINGS_entries)])) _
    refine st9.trans ?_
    show Steps p.tables e below (T9.setTop (mkF m 133 #[.val (.int p0), .val (.int (3 : Int32)), .val (.ref w_RFC3986), .val (.ref w_URL_ENCODINGS_entries), .val (.ref w_PHP), .val (.ref w_JAVA), .unset] [(.ref w_RFC3986)])) _
    refine st10 _ ?_
    show Steps p.tables e below (T10.setTop (mkF m 136 #[.val (.int p0), .val (.int (3 : Int32)), .val (.ref w_RFC3986), .val (.ref w_URL_ENCODINGS_entries), .val (.ref w_PHP), .val (.ref w_JAVA), .unset] [(.ref w_RFC3986)])) _
    refine XS.astore X10.here hx rfl (hb hby at_136) rfl rfl (l' := #[.val (.int p0), .val (.int (3 : Int32)), .val (.ref w_RFC3986), .val (.ref w_URL_ENCODINGS_entries), .val (.ref w_PHP), .val (.ref w_JAVA), .val (.ref w_RFC3986)]) rfl ?_
    show Steps p.tables e below (T10.setTop (mkF m 138 #[.val (.int p0), .val (.int (3 : Int32)), .val (.ref w_RFC3986), .val (.ref w_URL_ENCODINGS_entries), .val (.ref w_PHP), .val (.ref w_JAVA), .val (.ref w_RFC3986)] [])) _
    refine XS.aload X10.here hx rfl (hb hby at_138) rfl rfl ?_
    show Steps p.tables e below (T10.setTop (mkF m 140 #[.val (.int p0), .val (.int (3 : Int32)), .val (.ref w_RFC3986), .val (.ref w_URL_ENCODINGS_entries), .val (.ref w_PHP), .val (.ref w_JAVA), .val (.ref w_RFC3986)] [(.ref w_PHP)])) _
    refine st11 _ ?_
    show Steps p.tables e below (T11.setTop (mkF m 143 #[.val (.int p0), .val (.int (3 : Int32)), .val (.ref w_RFC3986), .val (.ref w_URL_ENCODINGS_entries), .val (.ref w_PHP), .val (.ref w_JAVA), .val (.ref w_RFC3986)] [(.int (1 : Int32))])) _
    refine XS.ifNo X11.here hx rfl (hb hby at_143) rfl ((if0 _ _).trans (feq (by decide : ¬ ((1 : Int32) = (0 : Int32)))).1) ?_
    show Steps p.tables e below (T11.setTop (mkF m 146 #[.val (.int p0), .val (.int (3 : Int32)), .val (.ref w_RFC3986), .val (.ref w_URL_ENCODINGS_entries), .val (.ref w_PHP), .val (.ref w_JAVA), .val (.ref w_RFC3986)] [])) _
    refine XS.aload X11.here hx rfl (hb hby at_146) rfl rfl ?_
    show Steps p.tables e below (T11.setTop (mkF m 148 #[.val (.int p0), .val (.int (3 : Int32)), .val (.ref w_RFC3986), .val (.ref w_URL_ENCODINGS_entries), .val (.ref w_PHP), .val (.ref w_JAVA), .val (.ref w_RFC3986)] [(.ref w_JAVA)])) _
    refine st12 _ ?_
    show Steps p.tables e below (T12.setTop (mkF m 151 #[.val (.int p0), .val (.int (3 : Int32)), .val (.ref w_RFC3986), .val (.ref w_URL_ENCODINGS_entries), .val (.ref w_PHP), .val (.ref w_JAVA), .val (.ref w_RFC3986)] [(.int (1 : Int32))])) _
    refine XS.ifNo X12.here hx rfl (hb hby at_151) rfl ((if0 _ _).trans (feq (by decide : ¬ ((1 : Int32) = (0 : Int32)))).1) ?_
    show Steps p.tables e below (T12.setTop (mkF m 154 #[.val (.int p0), .val (.int (3 : Int32)), .val (.ref w_RFC3986), .val (.ref w_URL_ENCODINGS_entries), .val (.ref w_PHP), .val (.ref w_JAVA), .val (.ref w_RFC3986)] [])) _
    refine XS.aload X12.here hx rfl (hb hby at_154) rfl rfl ?_
    show Steps p.tables e below (T12.setTop (mkF m 156 #[.val (.int p0), .val (.int (3 : Int32)), .val (.ref w_RFC3986), .val (.ref w_URL_ENCODINGS_entries), .val (.ref w_PHP), .val (.ref w_JAVA), .val (.ref w_RFC3986)] [(.ref w_RFC3986)])) _
    refine st13 _ ?_
    show Steps p.tables e below (T13.setTop (mkF m 159 #[.val (.int p0), .val (.int (3 : Int32)), .val (.ref w_RFC3986), .val (.ref w_URL_ENCODINGS_entries), .val (.ref w_PHP), .val (.ref w_JAVA), .val (.ref w_RFC3986)] [(.int (1 : Int32))])) _
    refine XS.ifNo X13.here hx rfl (hb hby at_159) rfl ((if0 _ _).trans (feq (by decide : ¬ ((1 : Int32) = (0 : Int32)))).1) ?_
    show Steps p.tables e below (T13.setTop (mkF m 162 #[.val (.int p0), .val (.int (3 : Int32)), .val (.ref w_RFC3986), .val (.ref w_URL_ENCODINGS_entries), .val (.ref w_PHP), .val (.ref w_JAVA), .val (.ref w_RFC3986)] [])) _
    refine XS.aload X13.here hx rfl (hb hby at_162) rfl rfl ?_
    show Steps p.tables e below (T13.setTop (mkF m 164 #[.val (.int p0), .val (.int (3 : Int32)), .val (.ref w_RFC3986), .val (.ref w_URL_ENCODINGS_entries), .val (.ref w_PHP), .val (.ref w_JAVA), .val (.ref w_RFC3986)] [(.ref w_PHP)])) _
    refine XS.aload X13.here hx rfl (hb hby at_164) rfl rfl ?_
    show Steps p.tables e below (T13.setTop (mkF m 166 #[.val (.int p0), .val (.int (3 : Int32)), .val (.ref w_RFC3986), .val (.ref w_URL_ENCODINGS_entries), .val (.ref w_PHP), .val (.ref w_JAVA), .val (.ref w_RFC3986)] [(.ref w_JAVA), (.ref w_PHP)])) _
    refine Jvm.RoadKit.acmp (g := (mkF m 166 #[.val (.int p0), .val (.int (3 : Int32)), .val (.ref w_RFC3986), .val (.ref w_URL_ENCODINGS_entries), .val (.ref w_PHP), .val (.ref w_JAVA), .val (.ref w_RFC3986)] [(.ref w_JAVA), (.ref w_PHP)])) X13 hx rfl rfl rfl (pc0 := 166) (pc' := 169) (same := false) rfl (hb hby at_166) rfl (decide_eq_false fun q => ne_w_PHP_w_JAVA (Value.ref.inj q)) (by decide) (by decide) ?_
    show Steps p.tables e below (T13.setTop (mkF m 169 #[.val (.int p0), .val (.int (3 : Int32)), .val (.ref w_RFC3986), .val (.ref w_URL_ENCODINGS_entries), .val (.ref w_PHP), .val (.ref w_JAVA), .val (.ref w_RFC3986)] [])) _
    refine XS.aload X13.here hx rfl (hb hby at_169) rfl rfl ?_
    show Steps p.tables e below (T13.setTop (mkF m 171 #[.val (.int p0), .val (.int (3 : Int32)), .val (.ref w_RFC3986), .val (.ref w_URL_ENCODINGS_entries), .val (.ref w_PHP), .val (.ref w_JAVA), .val (.ref w_RFC3986)] [(.ref w_PHP)])) _
    refine XS.aload X13.here hx rfl (hb hby at_171) rfl rfl ?_
    show Steps p.tables e below (T13.setTop (mkF m 173 #[.val (.int p0), .val (.int (3 : Int32)), .val (.ref w_RFC3986), .val (.ref w_URL_ENCODINGS_entries), .val (.ref w_PHP), .val (.ref w_JAVA), .val (.ref w_RFC3986)] [(.ref w_RFC3986), (.ref w_PHP)])) _
    refine Jvm.RoadKit.acmp (g := (mkF m 173 #[.val (.int p0), .val (.int (3 : Int32)), .val (.ref w_RFC3986), .val (.ref w_URL_ENCODINGS_entries), .val (.ref w_PHP), .val (.ref w_JAVA), .val (.ref w_RFC3986)] [(.ref w_RFC3986), (.ref w_PHP)])) X13 hx rfl rfl rfl (pc0 := 173) (pc' := 176) (same := false) rfl (hb hby at_173) rfl (decide_eq_false fun q => ne_w_PHP_w_RFC3986 (Value.ref.inj q)) (by decide) (by decide) ?_
    show Steps p.tables e below (T13.setTop (mkF m 176 #[.val (.int p0), .val (.int (3 : Int32)), .val (.ref w_RFC3986), .val (.ref w_URL_ENCODINGS_entries), .val (.ref w_PHP), .val (.ref w_JAVA), .val (.ref w_RFC3986)] [])) _
    refine XS.aload X13.here hx rfl (hb hby at_176) rfl rfl ?_
    show Steps p.tables e below (T13.setTop (mkF m 178 #[.val (.int p0), .val (.int (3 : Int32)), .val (.ref w_RFC3986), .val (.ref w_URL_ENCODINGS_entries), .val (.ref w_PHP), .val (.ref w_JAVA), .val (.ref w_RFC3986)] [(.ref w_JAVA)])) _
    refine XS.aload X13.here hx rfl (hb hby at_178) rfl rfl ?_
    show Steps p.tables e below (T13.setTop (mkF m 180 #[.val (.int p0), .val (.int (3 : Int32)), .val (.ref w_RFC3986), .val (.ref w_URL_ENCODINGS_entries), .val (.ref w_PHP), .val (.ref w_JAVA), .val (.ref w_RFC3986)] [(.ref w_RFC3986), (.ref w_JAVA)])) _
    refine Jvm.RoadKit.acmp (g := (mkF m 180 #[.val (.int p0), .val (.int (3 : Int32)), .val (.ref w_RFC3986), .val (.ref w_URL_ENCODINGS_entries), .val (.ref w_PHP), .val (.ref w_JAVA), .val (.ref w_RFC3986)] [(.ref w_RFC3986), (.ref w_JAVA)])) X13 hx rfl rfl rfl (pc0 := 180) (pc' := 183) (same := false) rfl (hb hby at_180) rfl (decide_eq_false fun q => ne_w_JAVA_w_RFC3986 (Value.ref.inj q)) (by decide) (by decide) ?_
    show Steps p.tables e below (T13.setTop (mkF m 183 #[.val (.int p0), .val (.int (3 : Int32)), .val (.ref w_RFC3986), .val (.ref w_URL_ENCODINGS_entries), .val (.ref w_PHP), .val (.ref w_JAVA), .val (.ref w_RFC3986)] [])) _
    refine XS.iconst X13.here hx rfl (hb hby at_183) ?_
    show Steps p.tables e below (T13.setTop (mkF m 184 #[.val (.int p0), .val (.int (3 : Int32)), .val (.ref w_RFC3986), .val (.ref w_URL_ENCODINGS_entries), .val (.ref w_PHP), .val (.ref w_JAVA), .val (.ref w_RFC3986)] [(.int (1 : Int32))])) _
    refine XS.goto X13.here hx rfl (pc0 := 184) (pc' := 188) rfl (hb hby at_184) (by decide) (by decide) ?_
    show Steps p.tables e below (T13.setTop (mkF m 188 #[.val (.int p0), .val (.int (3 : Int32)), .val (.ref w_RFC3986), .val (.ref w_URL_ENCODINGS_entries), .val (.ref w_PHP), .val (.ref w_JAVA), .val (.ref w_RFC3986)] [(.int (1 : Int32))])) _
    exact retN X13 hx (t := .boolean) Bd.returns (by simp) (hb hby at_188) hr
  · have eF : (T13.setFrames fs).heap = h0 := e13
    exact ⟨N13, rfl⟩
set_option maxRecDepth 65536 in
set_option maxHeartbeats 40000000 in
theorem comes_1 {Post : Tables → Env → Array Value → State → Outcome → State → Prop} (hpost : ∀ tb e args s v u, (limb_1_1.after args s (.returned v) u = true ∧ limb_1_2.after args s (.returned v) u = true ∧ True) → FrameEnd s (.returned v) u (Jvm.fieldLocs frame_1_writes args s ++ Jvm.arrayLocs frame_1_arrays args s ++ Jvm.staticLocs frame_1_statics s) 16 128 → Post tb e args s (.returned v) u) :
    ArmFor flags0 classFile x code maxLocals ret World_1 tables_1 room_1 Calls_1 rest_1 Pre_1 Post := by
  intro l hfl _ _ p e ha hc hk s m args below hf hA hF happ hP
  obtain ⟨hcalls, hrest, hpre⟩ := hP
  obtain ⟨-, -, -, hnamed, -, -, -, hat⟩ := (Spec.applies_iff hf).mp happ
  obtain ⟨hg, hn⟩ := and_e (Cond.before_iff.mp (show (Jvm.Cond.and given_1 narrow_1).before args s = true from hpre))
  obtain ⟨ga1, gb1⟩ := and_e hg
  obtain ⟨w0, rfl⟩ : ∃ w0 : Value, args = #[w0] := by
    have hs : args.size = 1 := by simpa [Cond.value, given_1] using ga1
    obtain ⟨L⟩ := args
    match L, hs with
    | [w0], _ => exact ⟨w0, rfl⟩
  have hw := fun d (hd : d ∈ tables_1) => atoms_spec (ws := Jvm.Cond.code x code maxLocals ret :: tables_1) hat d (List.mem_cons_of_mem _ hd)
  have hfit : Fit s := fun {y c} hc i hi => by
    obtain ⟨ha, rfl⟩ := Array.getElem?_eq_some_iff.mp hc
    have q := List.all_eq_true.mp ((Array.all_eq_true_iff_forall_mem.mp hF) _ (Array.getElem_mem ha)) i (List.mem_range.mpr hi)
    simpa [Array.getElem?_eq_getElem hi] using q
  obtain ⟨i0, ei0⟩ := is_v gb1
  obtain rfl : w0 = (.int i0) := Option.some.inj ei0
  obtain ⟨nn1, nn2⟩ := and_e hn
  obtain ⟨nn3, nn4⟩ := and_e nn2
  obtain ⟨nn5, nn6⟩ := and_e nn4
  obtain ⟨nn7, nn8⟩ := and_e nn6
  obtain ⟨nn9, nn10⟩ := and_e nn8
  obtain ⟨nn11, nn12⟩ := and_e nn10
  obtain ⟨nn13, nn14⟩ := and_e nn12
  obtain ⟨nn15, nn16⟩ := and_e nn14
  obtain ⟨nn17, nn18⟩ := and_e nn16
  obtain ⟨nn19, nn20⟩ := and_e nn18
  obtain ⟨nn21, nn22⟩ := and_e nn20
  obtain ⟨nn23, nn24⟩ := and_e nn22
  obtain ⟨nn25, nn26⟩ := and_e nn24
  obtain ⟨hsets, hown0⟩ := atoms_of _ (rest_1_c_eq ▸ (show rest_1_c.before _ s = true from hrest))
  obtain ⟨w_NONE, ev_w_NONE⟩ := exa_v nn1
  have E_w_NONE : Exa s s.heap w_NONE "com/example/quittance/quittance/signing/ValueEncoding$1" := Exa.start ev_w_NONE nn1
  obtain ⟨w_RFC3986, ev_w_RFC3986⟩ := exa_v nn3
  have E_w_RFC3986 : Exa s s.heap w_RFC3986 "com/example/quittance/quittance/signing/ValueEncoding" := Exa.start ev_w_RFC3986 nn3
  obtain ⟨w_URL_ENCODINGS, ev_w_URL_ENCODINGS⟩ := exa_v nn5
  have E_w_URL_ENCODINGS : Exa s s.heap w_URL_ENCODINGS "com/example/quittance/quittance/Catalog" := Exa.start ev_w_URL_ENCODINGS nn5
  obtain ⟨w_URL_ENCODINGS_entries, ev_w_URL_ENCODINGS_entries⟩ := exa_v nn7
  have E_w_URL_ENCODINGS_entries : Exa s s.heap w_URL_ENCODINGS_entries "java/util/ImmutableCollections$ListN" := Exa.start ev_w_URL_ENCODINGS_entries nn7
  obtain ⟨w_URL_ENCODINGS_entries_elements, ev_w_URL_ENCODINGS_entries_elements⟩ := arr_v nn9
  obtain ⟨cl_w_URL_ENCODINGS_entries_elements, A_w_URL_ENCODINGS_entries_elements⟩ := Arr.start ev_w_URL_ENCODINGS_entries_elements nn9
  have ev27 := own_eqI nn11
  obtain ⟨w_PHP, ev_w_PHP⟩ := exa_v nn13
  have E_w_PHP : Exa s s.heap w_PHP "com/example/quittance/quittance/signing/ValueEncoding" := Exa.start ev_w_PHP nn13
  have ev28 := own_eqR nn15 ev_w_PHP
  obtain ⟨w_JAVA, ev_w_JAVA⟩ := exa_v nn17
  have E_w_JAVA : Exa s s.heap w_JAVA "com/example/quittance/quittance/signing/ValueEncoding" := Exa.start ev_w_JAVA nn17
  have ev29 := own_eqR nn19 ev_w_JAVA
  have ev30 := own_eqR nn21 ev_w_RFC3986
  have ev31 := own_eqI nn23
  have ev32 := own_eqI nn25
  have ev33 := own_eqI nn26
  obtain ⟨w_EMPTY, ev_w_EMPTY⟩ := exa_v (Cond.before_iff.mp (hsets _ (List.mem_of_getElem? (i := 2) rfl)))
  have E_w_EMPTY : Exa s s.heap w_EMPTY "java/lang/Object" := Exa.start ev_w_EMPTY (Cond.before_iff.mp (hsets _ (List.mem_of_getElem? (i := 2) rfl)))
  have ev34 := own_eqI (Cond.before_iff.mp (hsets _ (List.mem_of_getElem? (i := 5) rfl)))
  obtain ⟨w_EMPTY_LIST, ev_w_EMPTY_LIST⟩ := exa_v (Cond.before_iff.mp (hsets _ (List.mem_of_getElem? (i := 8) rfl)))
  have E_w_EMPTY_LIST : Exa s s.heap w_EMPTY_LIST "java/util/ImmutableCollections$ListN" := Exa.start ev_w_EMPTY_LIST (Cond.before_iff.mp (hsets _ (List.mem_of_getElem? (i := 8) rfl)))
  have S_ValueEncoding_NONE : Sta s s.heap "com/example/quittance/quittance/signing/ValueEncoding" "NONE" "Lcom/example/quittance/quittance/signing/ValueEncoding;" (.ref w_NONE) := Sta.start ev_w_NONE (Or.inr ⟨(hw _ (List.mem_of_getElem? (i := 1) rfl)), (hw _ (List.mem_of_getElem? (i := 2) rfl))⟩)
  have S_ValueEncoding_RFC3986 : Sta s s.heap "com/example/quittance/quittance/signing/ValueEncoding" "RFC3986" "Lcom/example/quittance/quittance/signing/ValueEncoding;" (.ref w_RFC3986) := Sta.start ev_w_RFC3986 (Or.inr ⟨(hw _ (List.mem_of_getElem? (i := 1) rfl)), (hw _ (List.mem_of_getElem? (i := 69) rfl))⟩)
  have S_ValueEncoding_URL_ENCODINGS : Sta s s.heap "com/example/quittance/quittance/signing/ValueEncoding" "URL_ENCODINGS" "Lcom/example/quittance/quittance/Catalog;" (.ref w_URL_ENCODINGS) := Sta.start ev_w_URL_ENCODINGS (Or.inr ⟨(hw _ (List.mem_of_getElem? (i := 1) rfl)), (hw _ (List.mem_of_getElem? (i := 72) rfl))⟩)
  have F_w_URL_ENCODINGS_entries : Fld s s.heap w_URL_ENCODINGS "com/example/quittance/quittance/Catalog" "entries" "Ljava/util/List;" (.ref w_URL_ENCODINGS_entries) := own_fld ev_w_URL_ENCODINGS ev_w_URL_ENCODINGS_entries
  have F_w_URL_ENCODINGS_entries_elements : Fld s s.heap w_URL_ENCODINGS_entries "java/util/ImmutableCollections$ListN" "elements" "[Ljava/lang/Object;" (.ref w_URL_ENCODINGS_entries_elements) := own_fld ev_w_URL_ENCODINGS_entries ev_w_URL_ENCODINGS_entries_elements
  have S_ValueEncoding_PHP : Sta s s.heap "com/example/quittance/quittance/signing/ValueEncoding" "PHP" "Lcom/example/quittance/quittance/signing/ValueEncoding;" (.ref w_PHP) := Sta.start ev_w_PHP (Or.inr ⟨(hw _ (List.mem_of_getElem? (i := 1) rfl)), (hw _ (List.mem_of_getElem? (i := 95) rfl))⟩)
  have S_ValueEncoding_JAVA : Sta s s.heap "com/example/quittance/quittance/signing/ValueEncoding" "JAVA" "Lcom/example/quittance/quittance/signing/ValueEncoding;" (.ref w_JAVA) := Sta.start ev_w_JAVA (Or.inr ⟨(hw _ (List.mem_of_getElem? (i := 1) rfl)), (hw _ (List.mem_of_getElem? (i := 98) rfl))⟩)
  have F_w_JAVA_ordinal : Fld s s.heap w_JAVA "java/lang/Enum" "ordinal" "I" (.int (2 : Int32)) := own_fld ev_w_JAVA ev31
  have F_w_PHP_ordinal : Fld s s.heap w_PHP "java/lang/Enum" "ordinal" "I" (.int (1 : Int32)) := own_fld ev_w_PHP ev32
  have F_w_RFC3986_ordinal : Fld s s.heap w_RFC3986 "java/lang/Enum" "ordinal" "I" (.int (3 : Int32)) := own_fld ev_w_RFC3986 ev33
  have S_ImmutableCollections_EMPTY : Sta s s.heap "java/util/ImmutableCollections" "EMPTY" "Ljava/lang/Object;" (.ref w_EMPTY) := Sta.start ev_w_EMPTY (Or.inl (Cond.before_iff.mpr (Cond.before_iff.mp (hsets _ (List.mem_of_getElem? (i := 1) rfl)))))
  have S_ImmutableCollections__assertionsDisabled : Sta s s.heap "java/util/ImmutableCollections" "$assertionsDisabled" "Z" (.int (1 : Int32)) := Sta.start ev34 (Or.inl (Cond.before_iff.mpr (Cond.before_iff.mp (hsets _ (List.mem_of_getElem? (i := 4) rfl)))))
  have S_ImmutableCollections_EMPTY_LIST : Sta s s.heap "java/util/ImmutableCollections" "EMPTY_LIST" "Ljava/util/ImmutableCollections$ListN;" (.ref w_EMPTY_LIST) := Sta.start ev_w_EMPTY_LIST (Or.inl (Cond.before_iff.mpr (Cond.before_iff.mp (hsets _ (List.mem_of_getElem? (i := 7) rfl)))))
  have Lq_w_URL_ENCODINGS_entries_elements := own_len ev_w_URL_ENCODINGS_entries_elements A_w_URL_ENCODINGS_entries_elements ev27
  obtain ⟨k_w_URL_ENCODINGS_entries_elements, V_w_URL_ENCODINGS_entries_elements⟩ : ∃ k, Arv s s.heap w_URL_ENCODINGS_entries_elements k (.object "java/lang/Object") (3 : Int32) [(.ref w_PHP), (.ref w_JAVA), (.ref w_RFC3986)] .null := ⟨_, Arv.start hfit A_w_URL_ENCODINGS_entries_elements Lq_w_URL_ENCODINGS_entries_elements.1 Lq_w_URL_ENCODINGS_entries_elements.2 (by decide) rfl ⟨own_el ev_w_URL_ENCODINGS_entries_elements A_w_URL_ENCODINGS_entries_elements ev28, own_el ev_w_URL_ENCODINGS_entries_elements A_w_URL_ENCODINGS_entries_elements ev29, own_el ev_w_URL_ENCODINGS_entries_elements A_w_URL_ENCODINGS_entries_elements ev30, trivial⟩⟩
  have ne_w_PHP_w_NONE : w_PHP ≠ w_NONE := Exa.ne E_w_PHP E_w_NONE (by decide)
  have ne_w_JAVA_w_NONE : w_JAVA ≠ w_NONE := Exa.ne E_w_JAVA E_w_NONE (by decide)
  have ne_w_RFC3986_w_NONE : w_RFC3986 ≠ w_NONE := Exa.ne E_w_RFC3986 E_w_NONE (by decide)
  have ne_w_PHP_w_JAVA : w_PHP ≠ w_JAVA := F_w_PHP_ordinal.ne F_w_JAVA_ordinal (by decide)
  have ne_w_PHP_w_RFC3986 : w_PHP ≠ w_RFC3986 := F_w_PHP_ordinal.ne F_w_RFC3986_ordinal (by decide)
  have ne_w_JAVA_w_RFC3986 : w_JAVA ≠ w_RFC3986 := F_w_JAVA_ordinal.ne F_w_RFC3986_ordinal (by decide)
  have W : OwW s w_NONE w_RFC3986 w_URL_ENCODINGS w_URL_ENCODINGS_entries w_URL_ENCODINGS_entries_elements w_PHP w_JAVA w_EMPTY w_EMPTY_LIST k_w_URL_ENCODINGS_entries_elements := ⟨E_w_NONE, E_w_RFC3986, E_w_URL_ENCODINGS, E_w_URL_ENCODINGS_entries, E_w_PHP, E_w_JAVA, E_w_EMPTY, E_w_EMPTY_LIST, S_ValueEncoding_NONE, S_ValueEncoding_RFC3986, S_ValueEncoding_URL_ENCODINGS, F_w_URL_ENCODINGS_entries, F_w_URL_ENCODINGS_entries_elements, S_ValueEncoding_PHP, S_ValueEncoding_JAVA, F_w_JAVA_ordinal, F_w_PHP_ordinal, F_w_RFC3986_ordinal, S_ImmutableCollections_EMPTY, S_ImmutableCollections__assertionsDisabled, S_ImmutableCollections_EMPTY_LIST, V_w_URL_ENCODINGS_entries_elements, ne_w_PHP_w_NONE, ne_w_JAVA_w_NONE, ne_w_RFC3986_w_NONE, ne_w_PHP_w_JAVA, ne_w_PHP_w_RFC3986, ne_w_JAVA_w_RFC3986, trivial⟩
  have fin : OwCon l x code maxLocals ret tables_1 room_1 #[(.int i0)] s s.heap (OwP (fun v _ => v = some (.int 1)) s.heap.size) := by
    rcases own_i4 i0 with h | h | h | h
    · exact rm0_0 l s _ hw tables_1 s.heap.size s.heap (Old.start s) w_NONE w_RFC3986 w_URL_ENCODINGS w_URL_ENCODINGS_entries w_URL_ENCODINGS_entries_elements w_PHP w_JAVA w_EMPTY w_EMPTY_LIST k_w_URL_ENCODINGS_entries_elements W i0 h
    · exact rm0_1 l s _ hw tables_1 s.heap.size s.heap (Old.start s) w_NONE w_RFC3986 w_URL_ENCODINGS w_URL_ENCODINGS_entries w_URL_ENCODINGS_entries_elements w_PHP w_JAVA w_EMPTY w_EMPTY_LIST k_w_URL_ENCODINGS_entries_elements W i0 h
    · exact rm0_2 l s _ hw tables_1 s.heap.size s.heap (Old.start s) w_NONE w_RFC3986 w_URL_ENCODINGS w_URL_ENCODINGS_entries w_URL_ENCODINGS_entries_elements w_PHP w_JAVA w_EMPTY w_EMPTY_LIST k_w_URL_ENCODINGS_entries_elements W i0 h
    · exact rm0_3 l s _ hw tables_1 s.heap.size s.heap (Old.start s) w_NONE w_RFC3986 w_URL_ENCODINGS w_URL_ENCODINGS_entries w_URL_ENCODINGS_entries_elements w_PHP w_JAVA w_EMPTY w_EMPTY_LIST k_w_URL_ENCODINGS_entries_elements W i0 h
  obtain ⟨n, o, h1, h2, h3, _, L, rfl, ⟨N, rfl⟩, hq⟩ := fin p e ha hc hk s m _ below hf ((Spec.applies_iff_loose hf).mp happ).1 ⟨rfl, State.Warmed39.refl s, rfl⟩ trivial
  refine ⟨n, _, h1, h2, h3, hpost _ _ _ _ _ _ ⟨Cond.after_iff.mpr rfl, Cond.after_iff.mpr (eq_i res_at (Term.int_eval (1)) rfl), trivial⟩ ⟨hq.1, hq.2.1, (hq.2.2.sift fun y hy => Or.inr (N y hy)).mono (by decide) (by decide)⟩⟩
theorem main_1_1 : Claimed_1_1 := comes_1 fun _ _ _ _ _ _ h hF => ⟨h.1, hF⟩
theorem main_1_2 : Claimed_1_2 := comes_1 fun _ _ _ _ _ _ h hF => ⟨h.2.1, hF⟩
end Jvm.Pilot.@@N@@
namespace Jvm.Pilot.@@N@@
open Jvm Jvm.ClassFile Sem Op Lib Jvm.Free Jvm.Stand Jvm.Pilot.@@N@@.Jvm.D
/-! MADE BY PROGRAM (witnessworld.py) out of the Statement's table words and the real class files: 27 classes; the members and pool entries that the words name. The judged class is class 1, her method 1. -/
namespace start1
open Jvm.ClassFile
def u (s : String) : CpInfo := .utf8 (stringToUtf16 s)
/-- a pool by its gaps: so many unusable entries, then the entry; so many at the end -/
def gap : Nat → List CpInfo → List CpInfo
  | 0, r => r
  | n + 1, r => .unusable :: gap n r
def poolList (es : List (Nat × CpInfo)) (last : Nat) : List CpInfo := es.foldr (fun e r => gap e.1 (e.2 :: r)) (gap last [])
def pool (es : List (Nat × CpInfo)) (last : Nat) : Array CpInfo := ⟨poolList es last⟩
def fileOf (pool : Array CpInfo) (this : Nat) (attrs : Array Attribute := #[]) (ms : Array MethodInfo := #[]) (fl : Nat := 33) (sup : Nat := 0) (ifs : Array Nat := #[]) (fds : Array FieldInfo := #[]) : ClassFile where
  minorVersion := 0
  majorVersion := 65
  constantPool := pool
  accessFlags := fl
  thisClass := this
  superClass := sup
  interfaces := ifs
  fields := fds
  methods := ms
  attributes := attrs
def plain (name : String) (sup : Option ClassId) : Class where
  name := name
  kind := .ordinary
  loader := none
  accessFlags := 33
  super := sup
  interfaces := #[]
  cf := none
  fields := #[]
  methods := #[]
  instanceTypes := #[]
  staticTypes := #[]
  resolved := #[]
  callSites := []
  init := .initialized
  statics := none
  mirror := none

def pool0 : Array CpInfo := pool [(5, u "<init>"), (0, u "()V"), (1, .class_ 10), (1, u "java/lang/Object")] 113

def k0c0 : Code := { maxStack := 0, maxLocals := 1, code := object_method_1_code, exceptionTable := #[], attributes := #[] }
def k0m0 : Method := { name := "<init>", desc := "()V", sig := { parameters := [], returnType := none }, accessFlags := 1, code := some k0c0 }
/-- java/lang/Object -/
def k0 : Class := { plain "java/lang/Object" none with
  accessFlags := 33
  interfaces := #[]
  cf := some (fileOf pool0 8 #[] #[{ accessFlags := 1, nameIndex := 5, descriptorIndex := 6, attributes := #[] }] 33 0 #[] #[])
  fields := #[]
  methods := #[k0m0]
  instanceTypes := #[]
  staticTypes := #[]
  resolved := Array.replicate 124 none
  statics := none }

def pool1 : Array CpInfo := pool [(2, .class_ 4), (1, u "java/lang/Object"), (0, u "<init>"), (0, u "()V"), (0, .fieldref 8 9), (0, .class_ 10), (0, .nameAndType 11 12), (0, u "com/example/quittance/quittance/signing/ValueEncoding"), (0, u "NONE"), (0, u "Lcom/example/quittance/quittance/signing/ValueEncoding;"), (0, .fieldref 8 14), (0, .nameAndType 15 12), (0, u "PHP"), (0, .fieldref 8 17), (0, .nameAndType 18 12), (0, u "JAVA"), (0, .fieldref 8 20), (0, .nameAndType 21 12), (0, u "RFC3986"), (0, .methodref 8 23), (0, .nameAndType 24 25), (0, u "checkedUnder"), (0, u "()Ljava/util/List;"), (0, .interfaceMethodref 27 28), (0, .class_ 29), (0, .nameAndType 30 31), (0, u "java/util/List"), (0, u "size"), (0, u "()I"), (0, .interfaceMethodref 27 33), (0, .nameAndType 34 35), (0, u "get"), (0, u "(I)Ljava/lang/Object;"), (0, .methodref 37 38), (0, .class_ 39), (0, .nameAndType 40 41), (0, u "com/example/quittance/quittance/signing/ValueEncodingCheckedUnderPinLaw"), (0, u "isUrl"), (0, u "(Lcom/example/quittance/quittance/signing/ValueEncoding;)Z"), (2, u "law"), (0, u "(I)Z")] 3

def k1m0 : Method := { name := "<init>", desc := "()V", sig := { parameters := [], returnType := none }, accessFlags := 1, code := none }
def k1c1 : Code := { maxStack := 2, maxLocals := 7, code := code, exceptionTable := #[], attributes := #[] }
def k1m1 : Method := { name := "law", desc := "(I)Z", sig := { parameters := [.int], returnType := some .boolean }, accessFlags := 9, code := some k1c1 }
def k1c2 : Code := { maxStack := 2, maxLocals := 1, code := method_3_code, exceptionTable := #[], attributes := #[] }
def k1m2 : Method := { name := "isUrl", desc := "(Lcom/example/quittance/quittance/signing/ValueEncoding;)Z", sig := { parameters := [(.object "com/example/quittance/quittance/signing/ValueEncoding")], returnType := some .boolean }, accessFlags := 10, code := some k1c2 }
/-- com/example/quittance/quittance/signing/ValueEncodingCheckedUnderPinLaw -/
def k1 : Class := { plain "com/example/quittance/quittance/signing/ValueEncodingCheckedUnderPinLaw" (some 0) with
  accessFlags := 49
  interfaces := #[]
  cf := some (fileOf pool1 37 #[] #[{ accessFlags := 1, nameIndex := 5, descriptorIndex := 6, attributes := #[] }, { accessFlags := 9, nameIndex := 44, descriptorIndex := 45, attributes := #[] }, { accessFlags := 10, nameIndex := 40, descriptorIndex := 41, attributes := #[] }] 49 2 #[] #[])
  fields := #[]
  methods := #[k1m0, k1m1, k1m2]
  instanceTypes := #[]
  staticTypes := #[]
  resolved := Array.replicate 49 none
  statics := none }

def pool2 : Array CpInfo := pool [(1, .class_ 2), (0, u "java/lang/constant/Constable"), (0, .class_ 4), (0, u "java/lang/Object")] 6

/-- java/lang/constant/Constable -/
def k2 : Class := { plain "java/lang/constant/Constable" (some 0) with
  accessFlags := 1537
  interfaces := #[]
  cf := some (fileOf pool2 1 #[] #[] 1537 3 #[] #[])
  fields := #[]
  methods := #[]
  instanceTypes := #[]
  staticTypes := #[]
  resolved := Array.replicate 11 none
  statics := none }

def pool3 : Array CpInfo := pool [(1, .class_ 2), (0, u "java/lang/Comparable"), (0, .class_ 4), (0, u "java/lang/Object")] 7

/-- java/lang/Comparable -/
def k3 : Class := { plain "java/lang/Comparable" (some 0) with
  accessFlags := 1537
  interfaces := #[]
  cf := some (fileOf pool3 1 #[] #[] 1537 3 #[] #[])
  fields := #[]
  methods := #[]
  instanceTypes := #[]
  staticTypes := #[]
  resolved := Array.replicate 12 none
  statics := none }

def pool4 : Array CpInfo := pool [(1, .class_ 2), (0, u "java/io/Serializable"), (0, .class_ 4), (0, u "java/lang/Object")] 2

/-- java/io/Serializable -/
def k4 : Class := { plain "java/io/Serializable" (some 0) with
  accessFlags := 1537
  interfaces := #[]
  cf := some (fileOf pool4 1 #[] #[] 1537 3 #[] #[])
  fields := #[]
  methods := #[]
  instanceTypes := #[]
  staticTypes := #[]
  resolved := Array.replicate 7 none
  statics := none }

def pool5 : Array CpInfo := pool [(2, .class_ 4), (1, u "java/lang/Enum"), (0, u "name"), (0, u "Ljava/lang/String;"), (2, u "ordinal"), (0, u "I"), (1, .class_ 14), (1, u "java/lang/Object"), (4, u "hash"), (86, .class_ 108), (1, u "java/lang/Enum$EnumDesc"), (2, .class_ 112), (0, u "java/lang/constant/Constable"), (0, .class_ 114), (0, u "java/lang/Comparable"), (0, .class_ 116), (0, u "java/io/Serializable")] 87

/-- java/lang/Enum -/
def k5 : Class := { plain "java/lang/Enum" (some 0) with
  accessFlags := 1057
  interfaces := #[2, 3, 4]
  cf := some (fileOf pool5 2 #[.nestMembers #[106]] #[] 1057 12 #[111, 113, 115] #[{ accessFlags := 18, nameIndex := 5, descriptorIndex := 6, attributes := #[] }, { accessFlags := 18, nameIndex := 9, descriptorIndex := 10, attributes := #[] }, { accessFlags := 2, nameIndex := 19, descriptorIndex := 10, attributes := #[] }])
  fields := #[{ name := "name", type := (.object "java/lang/String"), accessFlags := 18, slot := 0, constantValue := 0 }, { name := "ordinal", type := .int, accessFlags := 18, slot := 1, constantValue := 0 }, { name := "hash", type := .int, accessFlags := 2, slot := 2, constantValue := 0 }]
  methods := #[]
  instanceTypes := #[(.object "java/lang/String"), .int, .int]
  staticTypes := #[]
  resolved := Array.replicate 204 none
  statics := none }

def pool6 : Array CpInfo := pool [(1, .class_ 2), (0, u "com/example/quittance/quittance/signing/ValueEncoding"), (0, .fieldref 1 4), (0, .nameAndType 5 6), (0, u "NONE"), (0, u "Lcom/example/quittance/quittance/signing/ValueEncoding;"), (2, u "PHP"), (2, u "JAVA"), (2, u "RFC3986"), (2, u "$VALUES"), (0, u "[Lcom/example/quittance/quittance/signing/ValueEncoding;"), (6, .class_ 28), (1, u "java/lang/Enum"), (8, u "label"), (0, u "Ljava/lang/String;"), (2, u "kept"), (2, u "space"), (0, .fieldref 1 46), (0, .nameAndType 47 48), (0, u "URL_ENCODINGS"), (0, u "Lcom/example/quittance/quittance/Catalog;"), (1, .class_ 52), (1, u "com/example/quittance/quittance/Catalog"), (5, u "()Ljava/util/List;"), (0, .interfaceMethodref 60 61), (0, .class_ 62), (0, .nameAndType 63 64), (0, u "java/util/List"), (0, u "of"), (0, u "(Ljava/lang/Object;)Ljava/util/List;"), (0, .methodref 50 66), (0, .nameAndType 67 58), (0, u "entries"), (42, .class_ 111), (0, u "com/example/quittance/quittance/signing/ValueEncoding$1"), (42, u "HEX"), (13, u "checkedUnder")] 34

def k6c0 : Code := { maxStack := 2, maxLocals := 1, code := prog_42_method_7_code, exceptionTable := #[], attributes := #[] }
def k6m0 : Method := { name := "checkedUnder", desc := "()Ljava/util/List;", sig := { parameters := [], returnType := some (.object "java/util/List") }, accessFlags := 0, code := some k6c0 }
/-- com/example/quittance/quittance/signing/ValueEncoding -/
def k6 : Class := { plain "com/example/quittance/quittance/signing/ValueEncoding" (some 5) with
  accessFlags := 16417
  interfaces := #[]
  cf := some (fileOf pool6 1 #[.nestMembers #[110]] #[{ accessFlags := 0, nameIndex := 168, descriptorIndex := 58, attributes := #[] }] 16417 26 #[] #[{ accessFlags := 16409, nameIndex := 5, descriptorIndex := 6, attributes := #[] }, { accessFlags := 16409, nameIndex := 9, descriptorIndex := 6, attributes := #[] }, { accessFlags := 16409, nameIndex := 12, descriptorIndex := 6, attributes := #[] }, { accessFlags := 16409, nameIndex := 15, descriptorIndex := 6, attributes := #[] }, { accessFlags := 26, nameIndex := 154, descriptorIndex := 38, attributes := #[] }, { accessFlags := 26, nameIndex := 47, descriptorIndex := 48, attributes := #[] }, { accessFlags := 18, nameIndex := 37, descriptorIndex := 38, attributes := #[] }, { accessFlags := 18, nameIndex := 41, descriptorIndex := 38, attributes := #[] }, { accessFlags := 18, nameIndex := 44, descriptorIndex := 38, attributes := #[] }, { accessFlags := 4122, nameIndex := 18, descriptorIndex := 19, attributes := #[] }])
  fields := #[{ name := "NONE", type := (.object "com/example/quittance/quittance/signing/ValueEncoding"), accessFlags := 16409, slot := 0, constantValue := 0 }, { name := "PHP", type := (.object "com/example/quittance/quittance/signing/ValueEncoding"), accessFlags := 16409, slot := 1, constantValue := 0 }, { name := "JAVA", type := (.object "com/example/quittance/quittance/signing/ValueEncoding"), accessFlags := 16409, slot := 2, constantValue := 0 }, { name := "RFC3986", type := (.object "com/example/quittance/quittance/signing/ValueEncoding"), accessFlags := 16409, slot := 3, constantValue := 0 }, { name := "HEX", type := (.object "java/lang/String"), accessFlags := 26, slot := 4, constantValue := 0 }, { name := "URL_ENCODINGS", type := (.object "com/example/quittance/quittance/Catalog"), accessFlags := 26, slot := 5, constantValue := 0 }, { name := "label", type := (.object "java/lang/String"), accessFlags := 18, slot := 3, constantValue := 0 }, { name := "kept", type := (.object "java/lang/String"), accessFlags := 18, slot := 4, constantValue := 0 }, { name := "space", type := (.object "java/lang/String"), accessFlags := 18, slot := 5, constantValue := 0 }, { name := "$VALUES", type := (.array (.object "com/example/quittance/quittance/signing/ValueEncoding")), accessFlags := 4122, slot := 6, constantValue := 0 }]
  methods := #[k6m0]
  instanceTypes := #[(.object "java/lang/String"), .int, .int, (.object "java/lang/String"), (.object "java/lang/String"), (.object "java/lang/String")]
  staticTypes := #[(.object "com/example/quittance/quittance/signing/ValueEncoding"), (.object "com/example/quittance/quittance/signing/ValueEncoding"), (.object "com/example/quittance/quittance/signing/ValueEncoding"), (.object "com/example/quittance/quittance/signing/ValueEncoding"), (.object "java/lang/String"), (.object "com/example/quittance/quittance/Catalog"), (.array (.object "com/example/quittance/quittance/signing/ValueEncoding"))]
  resolved := Array.replicate 203 none
  statics := some 0 }

def pool7 : Array CpInfo := pool [(2, .class_ 4), (1, u "com/example/quittance/quittance/signing/ValueEncoding"), (2, .class_ 8), (0, u "com/example/quittance/quittance/signing/ValueEncoding$1")] 10

/-- com/example/quittance/quittance/signing/ValueEncoding$1 -/
def k7 : Class := { plain "com/example/quittance/quittance/signing/ValueEncoding$1" (some 6) with
  accessFlags := 16432
  interfaces := #[]
  cf := some (fileOf pool7 7 #[.nestHost 2] #[] 16432 2 #[] #[])
  fields := #[]
  methods := #[]
  instanceTypes := #[(.object "java/lang/String"), .int, .int, (.object "java/lang/String"), (.object "java/lang/String"), (.object "java/lang/String")]
  staticTypes := #[]
  resolved := Array.replicate 19 none
  statics := none }

def pool8 : Array CpInfo := pool [(8, .class_ 10), (1, u "java/lang/Iterable"), (24, .class_ 36), (0, u "java/lang/Object")] 25

/-- java/lang/Iterable -/
def k8 : Class := { plain "java/lang/Iterable" (some 0) with
  accessFlags := 1537
  interfaces := #[]
  cf := some (fileOf pool8 8 #[] #[] 1537 35 #[] #[])
  fields := #[]
  methods := #[]
  instanceTypes := #[]
  staticTypes := #[]
  resolved := Array.replicate 62 none
  statics := none }

def pool9 : Array CpInfo := pool [(10, .class_ 12), (1, u "java/util/Collection"), (47, .class_ 61), (0, u "java/lang/Object"), (0, .class_ 63), (0, u "java/lang/Iterable")] 51

/-- java/util/Collection -/
def k9 : Class := { plain "java/util/Collection" (some 0) with
  accessFlags := 1537
  interfaces := #[8]
  cf := some (fileOf pool9 10 #[] #[] 1537 60 #[62] #[])
  fields := #[]
  methods := #[]
  instanceTypes := #[]
  staticTypes := #[]
  resolved := Array.replicate 115 none
  statics := none }

def pool10 : Array CpInfo := pool [(8, .class_ 10), (1, u "java/util/SequencedCollection"), (15, .class_ 27), (0, u "java/lang/Object"), (0, .class_ 29), (0, u "java/util/Collection")] 27

/-- java/util/SequencedCollection -/
def k10 : Class := { plain "java/util/SequencedCollection" (some 0) with
  accessFlags := 1537
  interfaces := #[9]
  cf := some (fileOf pool10 8 #[] #[] 1537 26 #[28] #[])
  fields := #[]
  methods := #[]
  instanceTypes := #[]
  staticTypes := #[]
  resolved := Array.replicate 57 none
  statics := none }

def pool11 : Array CpInfo := pool [(8, .class_ 10), (1, u "java/util/List"), (20, u "(Ljava/lang/Object;)V"), (16, u "<init>"), (26, u "get"), (0, u "(I)Ljava/lang/Object;"), (2, u "size"), (0, u "()I"), (7, u "of"), (7, .class_ 97), (0, u "java/util/ImmutableCollections$List12"), (0, .methodref 96 99), (0, .nameAndType 48 31), (3, .class_ 104), (0, u "java/lang/Object"), (15, .class_ 121), (0, u "java/util/SequencedCollection"), (76, u "(Ljava/lang/Object;)Ljava/util/List;")] 52

def k11m0 : Method := { name := "size", desc := "()I", sig := { parameters := [], returnType := some .int }, accessFlags := 1025, code := none }
def k11m1 : Method := { name := "get", desc := "(I)Ljava/lang/Object;", sig := { parameters := [.int], returnType := some (.object "java/lang/Object") }, accessFlags := 1025, code := none }
def k11c2 : Code := { maxStack := 3, maxLocals := 1, code := jdk_40_method_37_code, exceptionTable := #[], attributes := #[] }
def k11m2 : Method := { name := "of", desc := "(Ljava/lang/Object;)Ljava/util/List;", sig := { parameters := [(.object "java/lang/Object")], returnType := some (.object "java/util/List") }, accessFlags := 9, code := some k11c2 }
/-- java/util/List -/
def k11 : Class := { plain "java/util/List" (some 0) with
  accessFlags := 1537
  interfaces := #[10]
  cf := some (fileOf pool11 8 #[] #[{ accessFlags := 1025, nameIndex := 79, descriptorIndex := 80, attributes := #[] }, { accessFlags := 1025, nameIndex := 75, descriptorIndex := 76, attributes := #[] }, { accessFlags := 9, nameIndex := 88, descriptorIndex := 198, attributes := #[] }] 1537 103 #[120] #[])
  fields := #[]
  methods := #[k11m0, k11m1, k11m2]
  instanceTypes := #[]
  staticTypes := #[]
  resolved := Array.replicate 251 none
  statics := none }

def pool12 : Array CpInfo := pool [(1, .methodref 2 3), (0, .class_ 4), (0, .nameAndType 5 6), (0, u "java/lang/Object"), (0, u "<init>"), (0, u "()V"), (1, .class_ 10), (1, u "java/util/AbstractCollection"), (66, .class_ 78), (0, u "java/util/Collection")] 81

def k12c0 : Code := { maxStack := 1, maxLocals := 1, code := jdk_22_method_1_code, exceptionTable := #[], attributes := #[] }
def k12m0 : Method := { name := "<init>", desc := "()V", sig := { parameters := [], returnType := none }, accessFlags := 4, code := some k12c0 }
/-- java/util/AbstractCollection -/
def k12 : Class := { plain "java/util/AbstractCollection" (some 0) with
  accessFlags := 1057
  interfaces := #[9]
  cf := some (fileOf pool12 8 #[] #[{ accessFlags := 4, nameIndex := 5, descriptorIndex := 6, attributes := #[] }] 1057 2 #[77] #[])
  fields := #[]
  methods := #[k12m0]
  instanceTypes := #[]
  staticTypes := #[]
  resolved := Array.replicate 160 none
  statics := none }

def pool13 : Array CpInfo := pool [(1, .methodref 2 3), (0, .class_ 4), (0, .nameAndType 5 6), (0, u "java/util/AbstractCollection"), (0, u "<init>"), (0, u "()V"), (1, .class_ 10), (1, u "java/util/ImmutableCollections"), (2, .class_ 14), (0, u "java/util/ImmutableCollections$AbstractImmutableCollection")] 41

def k13c0 : Code := { maxStack := 1, maxLocals := 1, code := jdk_47_method_1_code, exceptionTable := #[], attributes := #[] }
def k13m0 : Method := { name := "<init>", desc := "()V", sig := { parameters := [], returnType := none }, accessFlags := 0, code := some k13c0 }
/-- java/util/ImmutableCollections$AbstractImmutableCollection -/
def k13 : Class := { plain "java/util/ImmutableCollections$AbstractImmutableCollection" (some 12) with
  accessFlags := 1056
  interfaces := #[]
  cf := some (fileOf pool13 13 #[.nestHost 8] #[{ accessFlags := 0, nameIndex := 5, descriptorIndex := 6, attributes := #[] }] 1056 2 #[] #[])
  fields := #[]
  methods := #[k13m0]
  instanceTypes := #[]
  staticTypes := #[]
  resolved := Array.replicate 56 none
  statics := none }

def pool14 : Array CpInfo := pool [(1, .class_ 2), (0, u "java/util/RandomAccess"), (0, .class_ 4), (0, u "java/lang/Object")] 2

/-- java/util/RandomAccess -/
def k14 : Class := { plain "java/util/RandomAccess" (some 0) with
  accessFlags := 1537
  interfaces := #[]
  cf := some (fileOf pool14 1 #[] #[] 1537 3 #[] #[])
  fields := #[]
  methods := #[]
  instanceTypes := #[]
  staticTypes := #[]
  resolved := Array.replicate 7 none
  statics := none }

def pool15 : Array CpInfo := pool [(1, .methodref 2 3), (0, .class_ 4), (0, .nameAndType 5 6), (0, u "java/util/ImmutableCollections$AbstractImmutableCollection"), (0, u "<init>"), (0, u "()V"), (1, .class_ 10), (1, u "java/util/ImmutableCollections"), (3, .class_ 16), (1, u "java/util/ImmutableCollections$AbstractImmutableList"), (60, .class_ 78), (0, u "java/util/List"), (45, .class_ 125), (0, u "java/util/RandomAccess")] 70

def k15c0 : Code := { maxStack := 1, maxLocals := 1, code := jdk_46_method_1_code, exceptionTable := #[], attributes := #[] }
def k15m0 : Method := { name := "<init>", desc := "()V", sig := { parameters := [], returnType := none }, accessFlags := 0, code := some k15c0 }
/-- java/util/ImmutableCollections$AbstractImmutableList -/
def k15 : Class := { plain "java/util/ImmutableCollections$AbstractImmutableList" (some 13) with
  accessFlags := 1056
  interfaces := #[11, 14]
  cf := some (fileOf pool15 14 #[.nestHost 8] #[{ accessFlags := 0, nameIndex := 5, descriptorIndex := 6, attributes := #[] }] 1056 2 #[77, 124] #[])
  fields := #[]
  methods := #[k15m0]
  instanceTypes := #[]
  staticTypes := #[]
  resolved := Array.replicate 196 none
  statics := none }

def pool16 : Array CpInfo := pool [(1, .methodref 2 3), (0, .class_ 4), (0, .nameAndType 5 6), (0, u "java/util/ImmutableCollections$AbstractImmutableList"), (0, u "<init>"), (0, u "()V"), (0, .methodref 8 9), (0, .class_ 10), (0, .nameAndType 11 12), (0, u "java/util/Objects"), (0, u "requireNonNull"), (0, u "(Ljava/lang/Object;)Ljava/lang/Object;"), (0, .fieldref 14 15), (0, .class_ 16), (0, .nameAndType 17 18), (0, u "java/util/ImmutableCollections$List12"), (0, u "e0"), (0, u "Ljava/lang/Object;"), (0, .fieldref 20 21), (0, .class_ 22), (0, .nameAndType 23 18), (0, u "java/util/ImmutableCollections"), (0, u "EMPTY"), (0, .fieldref 14 25), (0, .nameAndType 26 18), (0, u "e1"), (24, u "size"), (0, u "()I"), (17, .class_ 71), (0, u "java/io/Serializable"), (4, u "(Ljava/lang/Object;)V"), (13, u "get"), (0, u "(I)Ljava/lang/Object;")] 33

def k16c0 : Code := { maxStack := 2, maxLocals := 2, code := jdk_44_method_1_code, exceptionTable := #[], attributes := #[] }
def k16m0 : Method := { name := "<init>", desc := "(Ljava/lang/Object;)V", sig := { parameters := [(.object "java/lang/Object")], returnType := none }, accessFlags := 0, code := some k16c0 }
def k16c1 : Code := { maxStack := 2, maxLocals := 1, code := jdk_44_method_3_code, exceptionTable := #[], attributes := #[] }
def k16m1 : Method := { name := "size", desc := "()I", sig := { parameters := [], returnType := some .int }, accessFlags := 1, code := some k16c1 }
def k16c2 : Code := { maxStack := 2, maxLocals := 2, code := jdk_44_method_5_code, exceptionTable := #[], attributes := #[] }
def k16m2 : Method := { name := "get", desc := "(I)Ljava/lang/Object;", sig := { parameters := [.int], returnType := some (.object "java/lang/Object") }, accessFlags := 1, code := some k16c2 }
/-- java/util/ImmutableCollections$List12 -/
def k16 : Class := { plain "java/util/ImmutableCollections$List12" (some 15) with
  accessFlags := 48
  interfaces := #[4]
  cf := some (fileOf pool16 14 #[.nestHost 20] #[{ accessFlags := 0, nameIndex := 5, descriptorIndex := 76, attributes := #[] }, { accessFlags := 1, nameIndex := 51, descriptorIndex := 52, attributes := #[] }, { accessFlags := 1, nameIndex := 90, descriptorIndex := 91, attributes := #[] }] 48 2 #[70] #[{ accessFlags := 18, nameIndex := 17, descriptorIndex := 18, attributes := #[] }, { accessFlags := 18, nameIndex := 26, descriptorIndex := 18, attributes := #[] }])
  fields := #[{ name := "e0", type := (.object "java/lang/Object"), accessFlags := 18, slot := 0, constantValue := 0 }, { name := "e1", type := (.object "java/lang/Object"), accessFlags := 18, slot := 1, constantValue := 0 }]
  methods := #[k16m0, k16m1, k16m2]
  instanceTypes := #[(.object "java/lang/Object"), (.object "java/lang/Object")]
  staticTypes := #[]
  resolved := Array.replicate 125 none
  statics := none }

def pool17 : Array CpInfo := pool [(2, .class_ 4), (1, u "java/lang/Object"), (0, u "<init>"), (0, u "()V"), (35, .class_ 44), (1, u "java/util/Objects"), (0, u "requireNonNull"), (0, u "(Ljava/lang/Object;)Ljava/lang/Object;")] 137

def k17m0 : Method := { name := "<init>", desc := "()V", sig := { parameters := [], returnType := none }, accessFlags := 2, code := none }
def k17c1 : Code := { maxStack := 2, maxLocals := 1, code := jdk_31_method_10_code, exceptionTable := #[], attributes := #[] }
def k17m1 : Method := { name := "requireNonNull", desc := "(Ljava/lang/Object;)Ljava/lang/Object;", sig := { parameters := [(.object "java/lang/Object")], returnType := some (.object "java/lang/Object") }, accessFlags := 9, code := some k17c1 }
/-- java/util/Objects -/
def k17 : Class := { plain "java/util/Objects" (some 0) with
  accessFlags := 49
  interfaces := #[]
  cf := some (fileOf pool17 42 #[] #[{ accessFlags := 2, nameIndex := 5, descriptorIndex := 6, attributes := #[] }, { accessFlags := 9, nameIndex := 45, descriptorIndex := 46, attributes := #[] }] 49 2 #[] #[])
  fields := #[]
  methods := #[k17m0, k17m1]
  instanceTypes := #[]
  staticTypes := #[]
  resolved := Array.replicate 184 none
  statics := none }

def pool18 : Array CpInfo := pool [(2, .class_ 4), (1, u "java/lang/Object"), (0, u "<init>"), (0, u "()V"), (3, .class_ 11), (0, u "java/util/ImmutableCollections$List12"), (0, .class_ 13), (0, u "java/util/ImmutableCollections$ListN"), (3, u "Z"), (29, .class_ 49), (1, u "java/util/ImmutableCollections"), (0, u "$assertionsDisabled"), (5, u "[Ljava/lang/Object;"), (5, u "EMPTY_LIST"), (0, u "Ljava/util/ImmutableCollections$ListN;"), (8, u "EMPTY_LIST_NULLS"), (22, u "SALT32L"), (0, u "J"), (2, u "REVERSE"), (6, u "archivedObjects"), (2, u "EMPTY"), (0, u "Ljava/lang/Object;"), (0, .class_ 112), (0, u "java/util/ImmutableCollections$SetN"), (5, u "EMPTY_SET"), (0, u "Ljava/util/ImmutableCollections$SetN;"), (0, .class_ 121), (0, u "java/util/ImmutableCollections$MapN"), (3, u "EMPTY_MAP"), (0, u "Ljava/util/ImmutableCollections$MapN;"), (4, u "EXPAND_FACTOR"), (0, u "I"), (36, .class_ 170), (0, u "java/util/ImmutableCollections$MapN$MapNIterator"), (0, .class_ 172), (0, u "java/util/ImmutableCollections$MapN$1"), (0, .class_ 174), (0, u "java/util/ImmutableCollections$Map1"), (0, .class_ 176), (0, u "java/util/ImmutableCollections$AbstractImmutableMap"), (0, .class_ 178), (0, u "java/util/ImmutableCollections$SetN$SetNIterator"), (0, .class_ 180), (0, u "java/util/ImmutableCollections$Set12"), (0, .class_ 182), (0, u "java/util/ImmutableCollections$Set12$1"), (0, .class_ 184), (0, u "java/util/ImmutableCollections$AbstractImmutableSet"), (0, .class_ 186), (0, u "java/util/ImmutableCollections$SubList"), (0, .class_ 188), (0, u "java/util/ImmutableCollections$ListItr"), (0, .class_ 190), (0, u "java/util/ImmutableCollections$AbstractImmutableList"), (0, .class_ 192), (0, u "java/util/ImmutableCollections$AbstractImmutableCollection"), (0, .class_ 194), (0, u "java/util/ImmutableCollections$Access"), (0, .class_ 196), (0, u "java/util/ImmutableCollections$Access$1")] 16

def k18m0 : Method := { name := "<init>", desc := "()V", sig := { parameters := [], returnType := none }, accessFlags := 2, code := none }
/-- java/util/ImmutableCollections -/
def k18 : Class := { plain "java/util/ImmutableCollections" (some 0) with
  accessFlags := 32
  interfaces := #[]
  cf := some (fileOf pool18 47 #[.nestMembers #[120, 169, 171, 173, 175, 111, 177, 179, 181, 183, 12, 10, 185, 187, 189, 191, 193, 195]] #[{ accessFlags := 2, nameIndex := 5, descriptorIndex := 6, attributes := #[] }] 32 2 #[] #[{ accessFlags := 26, nameIndex := 95, descriptorIndex := 96, attributes := #[] }, { accessFlags := 26, nameIndex := 99, descriptorIndex := 17, attributes := #[] }, { accessFlags := 10, nameIndex := 106, descriptorIndex := 56, attributes := #[] }, { accessFlags := 26, nameIndex := 109, descriptorIndex := 110, attributes := #[] }, { accessFlags := 24, nameIndex := 62, descriptorIndex := 63, attributes := #[] }, { accessFlags := 24, nameIndex := 72, descriptorIndex := 63, attributes := #[] }, { accessFlags := 24, nameIndex := 118, descriptorIndex := 119, attributes := #[] }, { accessFlags := 24, nameIndex := 125, descriptorIndex := 126, attributes := #[] }, { accessFlags := 24, nameIndex := 131, descriptorIndex := 132, attributes := #[] }, { accessFlags := 4120, nameIndex := 50, descriptorIndex := 17, attributes := #[] }])
  fields := #[{ name := "SALT32L", type := .long, accessFlags := 26, slot := 0, constantValue := 0 }, { name := "REVERSE", type := .boolean, accessFlags := 26, slot := 1, constantValue := 0 }, { name := "archivedObjects", type := (.array (.object "java/lang/Object")), accessFlags := 10, slot := 2, constantValue := 0 }, { name := "EMPTY", type := (.object "java/lang/Object"), accessFlags := 26, slot := 3, constantValue := 0 }, { name := "EMPTY_LIST", type := (.object "java/util/ImmutableCollections$ListN"), accessFlags := 24, slot := 4, constantValue := 0 }, { name := "EMPTY_LIST_NULLS", type := (.object "java/util/ImmutableCollections$ListN"), accessFlags := 24, slot := 5, constantValue := 0 }, { name := "EMPTY_SET", type := (.object "java/util/ImmutableCollections$SetN"), accessFlags := 24, slot := 6, constantValue := 0 }, { name := "EMPTY_MAP", type := (.object "java/util/ImmutableCollections$MapN"), accessFlags := 24, slot := 7, constantValue := 0 }, { name := "EXPAND_FACTOR", type := .int, accessFlags := 24, slot := 8, constantValue := 0 }, { name := "$assertionsDisabled", type := .boolean, accessFlags := 4120, slot := 9, constantValue := 0 }]
  methods := #[k18m0]
  instanceTypes := #[]
  staticTypes := #[.long, .boolean, (.array (.object "java/lang/Object")), (.object "java/lang/Object"), (.object "java/util/ImmutableCollections$ListN"), (.object "java/util/ImmutableCollections$ListN"), (.object "java/util/ImmutableCollections$SetN"), (.object "java/util/ImmutableCollections$MapN"), .int, .boolean]
  resolved := Array.replicate 213 none
  statics := some 1 }

def pool19 : Array CpInfo := pool [(2, .class_ 4), (1, u "java/lang/Object"), (16, .fieldref 22 23), (0, .class_ 24), (0, .nameAndType 25 26), (0, u "com/example/quittance/quittance/Catalog"), (0, u "entries"), (0, u "Ljava/util/List;"), (13, u "()Ljava/util/List;"), (2, u "labels")] 35

def k19c0 : Code := { maxStack := 1, maxLocals := 1, code := prog_1_method_2_code, exceptionTable := #[], attributes := #[] }
def k19m0 : Method := { name := "entries", desc := "()Ljava/util/List;", sig := { parameters := [], returnType := some (.object "java/util/List") }, accessFlags := 1, code := some k19c0 }
/-- com/example/quittance/quittance/Catalog -/
def k19 : Class := { plain "com/example/quittance/quittance/Catalog" (some 0) with
  accessFlags := 49
  interfaces := #[]
  cf := some (fileOf pool19 22 #[] #[{ accessFlags := 1, nameIndex := 25, descriptorIndex := 40, attributes := #[] }] 49 2 #[] #[{ accessFlags := 18, nameIndex := 25, descriptorIndex := 26, attributes := #[] }, { accessFlags := 18, nameIndex := 43, descriptorIndex := 26, attributes := #[] }])
  fields := #[{ name := "entries", type := (.object "java/util/List"), accessFlags := 18, slot := 0, constantValue := 0 }, { name := "labels", type := (.object "java/util/List"), accessFlags := 18, slot := 1, constantValue := 0 }]
  methods := #[k19m0]
  instanceTypes := #[(.object "java/util/List"), (.object "java/util/List")]
  staticTypes := #[]
  resolved := Array.replicate 79 none
  statics := none }

def pool20 : Array CpInfo := pool [(2, .class_ 4), (1, u "java/util/ImmutableCollections$AbstractImmutableList"), (2, .fieldref 8 9), (0, .class_ 10), (0, .nameAndType 11 12), (0, u "java/util/ImmutableCollections$ListN"), (0, u "elements"), (0, u "[Ljava/lang/Object;"), (2, u "allowNulls"), (0, u "Z"), (42, .class_ 60), (0, u "java/io/Serializable"), (16, u "size"), (0, u "()I"), (0, u "get"), (0, u "(I)Ljava/lang/Object;"), (33, .class_ 115), (0, u "java/util/ImmutableCollections")] 3

def k20c0 : Code := { maxStack := 1, maxLocals := 1, code := jdk_45_method_3_code, exceptionTable := #[], attributes := #[] }
def k20m0 : Method := { name := "size", desc := "()I", sig := { parameters := [], returnType := some .int }, accessFlags := 1, code := some k20c0 }
def k20c1 : Code := { maxStack := 2, maxLocals := 2, code := jdk_45_method_4_code, exceptionTable := #[], attributes := #[] }
def k20m1 : Method := { name := "get", desc := "(I)Ljava/lang/Object;", sig := { parameters := [.int], returnType := some (.object "java/lang/Object") }, accessFlags := 1, code := some k20c1 }
/-- java/util/ImmutableCollections$ListN -/
def k20 : Class := { plain "java/util/ImmutableCollections$ListN" (some 15) with
  accessFlags := 48
  interfaces := #[4]
  cf := some (fileOf pool20 8 #[.nestHost 114] #[{ accessFlags := 1, nameIndex := 77, descriptorIndex := 78, attributes := #[] }, { accessFlags := 1, nameIndex := 79, descriptorIndex := 80, attributes := #[] }] 48 2 #[59] #[{ accessFlags := 18, nameIndex := 11, descriptorIndex := 12, attributes := #[] }, { accessFlags := 18, nameIndex := 15, descriptorIndex := 16, attributes := #[] }])
  fields := #[{ name := "elements", type := (.array (.object "java/lang/Object")), accessFlags := 18, slot := 0, constantValue := 0 }, { name := "allowNulls", type := .boolean, accessFlags := 18, slot := 1, constantValue := 0 }]
  methods := #[k20m0, k20m1]
  instanceTypes := #[(.array (.object "java/lang/Object")), .boolean]
  staticTypes := #[]
  resolved := Array.replicate 119 none
  statics := none }

def pool21 : Array CpInfo := pool [(1, u "java/lang/Cloneable"), (0, .class_ 1), (0, u "java/lang/Object"), (0, .class_ 3)] 3

/-- java/lang/Cloneable -/
def k21 : Class := { plain "java/lang/Cloneable" (some 0) with
  accessFlags := 1537
  interfaces := #[]
  cf := some (fileOf pool21 2 #[] #[] 1537 4 #[] #[])
  fields := #[]
  methods := #[]
  instanceTypes := #[]
  staticTypes := #[]
  resolved := Array.replicate 8 none
  statics := none }

/-- the primitive byte -/
def k22 : Class := { plain "byte" none with kind := .primitive 'B', accessFlags := 0x411 }
/-- [B -/
def k23 : Class := { plain "[B" (some 0) with kind := .array 22 .byte, interfaces := #[21, 4], accessFlags := 1041 }

/-- the primitive int -/
def k24 : Class := { plain "int" none with kind := .primitive 'I', accessFlags := 0x411 }
/-- [I -/
def k25 : Class := { plain "[I" (some 0) with kind := .array 24 .int, interfaces := #[21, 4], accessFlags := 1041 }

/-- [Ljava/lang/Object; -/
def k26 : Class := { plain "[Ljava/lang/Object;" (some 0) with kind := .array 0 (.object "java/lang/Object"), interfaces := #[21, 4], accessFlags := 1041 }

def heap : Heap := #[{ cls := 6, slots := #[.ref 3, .ref 7, .ref 8, .ref 4, .null, .ref 5, .null], vm := .statics 6 },
  { cls := 18, slots := #[.long 0, .int 0, .null, .ref 9, .ref 10, .null, .null, .null, .int 0, .int 1], vm := .statics 18 },
  { cls := 26, slots := #[.ref 7, .ref 8, .ref 4], vm := .none },
  { cls := 7, slots := #[.null, .int 0, .int 0, .null, .null, .null], vm := .none },
  { cls := 6, slots := #[.null, .int 3, .int 0, .null, .null, .null], vm := .none },
  { cls := 19, slots := #[.ref 6, .null], vm := .none },
  { cls := 20, slots := #[.ref 2, .int 0], vm := .none },
  { cls := 6, slots := #[.null, .int 1, .int 0, .null, .null, .null], vm := .none },
  { cls := 6, slots := #[.null, .int 2, .int 0, .null, .null, .null], vm := .none },
  { cls := 0, slots := #[], vm := .none },
  { cls := 20, slots := #[.null, .int 0], vm := .none }]
def classes : Array Class := #[k0, k1, k2, k3, k4, k5, k6, k7, k8, k9, k10, k11, k12, k13, k14, k15, k16, k17, k18, k19, k20, k21, k22, k23, k24, k25, k26]
def interned : List (Array UInt16 × Addr) := []
def slotsUsed : Nat := 50
def theMethod : MethodId := ⟨1, 1⟩
def args0 : Array Value := #[.int 7]
def aboutOver (below : List Frame) : State where
  vm := { classes := classes, interned := interned.toArray }
  heap := heap
  slotsUsed := slotsUsed
  threads := #[{ frames := .invoking theMethod args0 :: below }]
def below0 : List Frame := [.native { method := ⟨0, 0⟩, args := #[] }]
def about1 : State := aboutOver below0
def p0 : Program := .bare "" "" ""
def e0 : Env := launch0.env 0 0 0
theorem w_frames : about1.frames = Frame.invoking theMethod args0 :: below0 := rfl
set_option maxRecDepth 65536 in
theorem w_args : argsFit about1.vm theMethod args0 = true := by decide +kernel
set_option maxRecDepth 65536 in
theorem w_heap : heapFits about1 = true := by decide +kernel
set_option maxRecDepth 65536 in
theorem w_runnable : about1.curStatus? = some .runnable := by decide +kernel
set_option maxRecDepth 65536 in
theorem w_alone : about1.alone = true := by decide +kernel
set_option maxRecDepth 65536 in
theorem w_named : about1.methodNamed? x = some theMethod := by decide +kernel
set_option maxRecDepth 65536 in
theorem w_hears : about1.hears theMethod below0 = true := by decide +kernel
set_option maxRecDepth 65536 in
theorem w_ripe : about1.ripe theMethod args0 below0 = true := by decide +kernel
theorem w_running : about1.status = .running := rfl
set_option maxRecDepth 65536 in
theorem w_room : about1.hasRoom e0.platform room_1 = true :=
  launch0.hasRoom_least _ room_1 (by decide +kernel) (by decide +kernel) (by decide +kernel) (by decide +kernel) (by decide +kernel) (by decide +kernel)
theorem allAtoms_all (ts : List Jvm.Cond) (a : Array Jvm.Value) (st : Jvm.State) : (allAtoms ts).before a st = ts.all (fun c => c.before a st) := by
  induction ts with
  | nil => rfl
  | cons c t ih =>
    show (Jvm.Cond.and c (allAtoms t)).before a st = _
    rw [Jvm.Cond.before_and, ih, List.all_cons]
def words1 : List Jvm.Cond := Jvm.Cond.code x code maxLocals ret :: tables_1
/-- a 'code' word, met by the world's own term for the bytes: nothing is compared byte by byte -/
theorem code_word {y : MethodName} {bytes : ByteArray} {mx : Nat} {rt : Option FieldType} {a : Array Value} {s : State} {m : MethodId} {meth : Method} {c : Code} (h1 : s.methodNamed? y = some m) (h2 : s.vm.method? m = some meth) (h3 : meth.code = some c) (h4 : c.code = bytes)
    (h5 : (c.maxLocals == mx && c.exceptionTable.isEmpty && decide (c.maxStack ≤ mostOperands) && decide (meth.sig.returnType = rt) && !meth.locks && decide (parseMethodDescriptor y.desc = some meth.sig)) = true) : (Jvm.Cond.code y bytes mx rt).before a s = true := by
  simp only [Bool.and_eq_true, beq_iff_eq, Bool.not_eq_true', decide_eq_true_eq] at h5
  obtain ⟨⟨⟨⟨⟨g1, g2⟩, g3⟩, g4⟩, g5⟩, g6⟩ := h5
  simp [Cond.before, Cond.holds, Cond.value, h1, h2, h3, h4, g1, g2, g3, g4, g5, g6]
def isCode : Jvm.Cond → Bool
  | .code _ _ _ _ => true
  | _ => false
theorem all_split {L : List Jvm.Cond} {P : Jvm.Cond → Bool} (h1 : L.all (fun c => isCode c || P c) = true) (h2 : ∀ c ∈ L.filter isCode, P c = true) : L.all P = true := by
  refine List.all_eq_true.mpr fun c hc => ?_
  have h := List.all_eq_true.mp h1 c hc
  rcases Bool.eq_false_or_eq_true (isCode c) with hi | hi
  · exact h2 c (List.mem_filter.mpr ⟨hc, hi⟩)
  · simpa [hi] using h
set_option maxRecDepth 65536 in
theorem w_c0 : (Jvm.Cond.code x code maxLocals ret).before args0 about1 = true := code_word (m := ⟨1, 1⟩) (meth := k1m1) (c := k1c1) (by decide +kernel) rfl rfl rfl (by decide +kernel)
set_option maxRecDepth 65536 in
theorem w_c1 : (Jvm.Cond.code ({ cls := "com/example/quittance/quittance/signing/ValueEncoding", name := "checkedUnder", desc := "()Ljava/util/List;" } : Jvm.MethodName) prog_42_method_7_code (1 : Nat) (Option.some (Jvm.ClassFile.FieldType.object "java/util/List"))).before args0 about1 = true := code_word (m := ⟨6, 0⟩) (meth := k6m0) (c := k6c0) (by decide +kernel) rfl rfl rfl (by decide +kernel)
set_option maxRecDepth 65536 in
theorem w_c2 : (Jvm.Cond.code ({ cls := "java/util/List", name := "of", desc := "(Ljava/lang/Object;)Ljava/util/List;" } : Jvm.MethodName) jdk_40_method_37_code (1 : Nat) (Option.some (Jvm.ClassFile.FieldType.object "java/util/List"))).before args0 about1 = true := code_word (m := ⟨11, 2⟩) (meth := k11m2) (c := k11c2) (by decide +kernel) rfl rfl rfl (by decide +kernel)
set_option maxRecDepth 65536 in
theorem w_c3 : (Jvm.Cond.code ({ cls := "java/util/ImmutableCollections$List12", name := "<init>", desc := "(Ljava/lang/Object;)V" } : Jvm.MethodName) jdk_44_method_1_code (2 : Nat) (Option.none : Option Jvm.ClassFile.FieldType)).before args0 about1 = true := code_word (m := ⟨16, 0⟩) (meth := k16m0) (c := k16c0) (by decide +kernel) rfl rfl rfl (by decide +kernel)
set_option maxRecDepth 65536 in
theorem w_c4 : (Jvm.Cond.code ({ cls := "java/util/ImmutableCollections$AbstractImmutableList", name := "<init>", desc := "()V" } : Jvm.MethodName) jdk_46_method_1_code (1 : Nat) (Option.none : Option Jvm.ClassFile.FieldType)).before args0 about1 = true := code_word (m := ⟨15, 0⟩) (meth := k15m0) (c := k15c0) (by decide +kernel) rfl rfl rfl (by decide +kernel)
set_option maxRecDepth 65536 in
theorem w_c5 : (Jvm.Cond.code ({ cls := "java/util/ImmutableCollections$AbstractImmutableCollection", name := "<init>", desc := "()V" } : Jvm.MethodName) jdk_47_method_1_code (1 : Nat) (Option.none : Option Jvm.ClassFile.FieldType)).before args0 about1 = true := code_word (m := ⟨13, 0⟩) (meth := k13m0) (c := k13c0) (by decide +kernel) rfl rfl rfl (by decide +kernel)
set_option maxRecDepth 65536 in
theorem w_c6 : (Jvm.Cond.code ({ cls := "java/util/AbstractCollection", name := "<init>", desc := "()V" } : Jvm.MethodName) jdk_22_method_1_code (1 : Nat) (Option.none : Option Jvm.ClassFile.FieldType)).before args0 about1 = true := code_word (m := ⟨12, 0⟩) (meth := k12m0) (c := k12c0) (by decide +kernel) rfl rfl rfl (by decide +kernel)
set_option maxRecDepth 65536 in
theorem w_c7 : (Jvm.Cond.code ({ cls := "java/lang/Object", name := "<init>", desc := "()V" } : Jvm.MethodName) object_method_1_code (1 : Nat) (Option.none : Option Jvm.ClassFile.FieldType)).before args0 about1 = true := code_word (m := ⟨0, 0⟩) (meth := k0m0) (c := k0c0) (by decide +kernel) rfl rfl rfl (by decide +kernel)
set_option maxRecDepth 65536 in
theorem w_c8 : (Jvm.Cond.code ({ cls := "java/util/Objects", name := "requireNonNull", desc := "(Ljava/lang/Object;)Ljava/lang/Object;" } : Jvm.MethodName) jdk_31_method_10_code (1 : Nat) (Option.some (Jvm.ClassFile.FieldType.object "java/lang/Object"))).before args0 about1 = true := code_word (m := ⟨17, 1⟩) (meth := k17m1) (c := k17c1) (by decide +kernel) rfl rfl rfl (by decide +kernel)
set_option maxRecDepth 65536 in
theorem w_c9 : (Jvm.Cond.code ({ cls := "java/util/ImmutableCollections$List12", name := "size", desc := "()I" } : Jvm.MethodName) jdk_44_method_3_code (1 : Nat) (Option.some Jvm.ClassFile.FieldType.int)).before args0 about1 = true := code_word (m := ⟨16, 1⟩) (meth := k16m1) (c := k16c1) (by decide +kernel) rfl rfl rfl (by decide +kernel)
set_option maxRecDepth 65536 in
theorem w_c10 : (Jvm.Cond.code ({ cls := "java/util/ImmutableCollections$List12", name := "get", desc := "(I)Ljava/lang/Object;" } : Jvm.MethodName) jdk_44_method_5_code (2 : Nat) (Option.some (Jvm.ClassFile.FieldType.object "java/lang/Object"))).before args0 about1 = true := code_word (m := ⟨16, 2⟩) (meth := k16m2) (c := k16c2) (by decide +kernel) rfl rfl rfl (by decide +kernel)
set_option maxRecDepth 65536 in
theorem w_c11 : (Jvm.Cond.code ({ cls := "com/example/quittance/quittance/Catalog", name := "entries", desc := "()Ljava/util/List;" } : Jvm.MethodName) prog_1_method_2_code (1 : Nat) (Option.some (Jvm.ClassFile.FieldType.object "java/util/List"))).before args0 about1 = true := code_word (m := ⟨19, 0⟩) (meth := k19m0) (c := k19c0) (by decide +kernel) rfl rfl rfl (by decide +kernel)
set_option maxRecDepth 65536 in
theorem w_c12 : (Jvm.Cond.code ({ cls := "java/util/ImmutableCollections$ListN", name := "size", desc := "()I" } : Jvm.MethodName) jdk_45_method_3_code (1 : Nat) (Option.some Jvm.ClassFile.FieldType.int)).before args0 about1 = true := code_word (m := ⟨20, 0⟩) (meth := k20m0) (c := k20c0) (by decide +kernel) rfl rfl rfl (by decide +kernel)
set_option maxRecDepth 65536 in
theorem w_c13 : (Jvm.Cond.code ({ cls := "java/util/ImmutableCollections$ListN", name := "get", desc := "(I)Ljava/lang/Object;" } : Jvm.MethodName) jdk_45_method_4_code (2 : Nat) (Option.some (Jvm.ClassFile.FieldType.object "java/lang/Object"))).before args0 about1 = true := code_word (m := ⟨20, 1⟩) (meth := k20m1) (c := k20c1) (by decide +kernel) rfl rfl rfl (by decide +kernel)
set_option maxRecDepth 65536 in
theorem w_c14 : (Jvm.Cond.code ({ cls := "com/example/quittance/quittance/signing/ValueEncodingCheckedUnderPinLaw", name := "isUrl", desc := "(Lcom/example/quittance/quittance/signing/ValueEncoding;)Z" } : Jvm.MethodName) method_3_code (1 : Nat) (Option.some Jvm.ClassFile.FieldType.boolean)).before args0 about1 = true := code_word (m := ⟨1, 2⟩) (meth := k1m2) (c := k1c2) (by decide +kernel) rfl rfl rfl (by decide +kernel)
def codes1 : List Jvm.Cond := [Jvm.Cond.code x code maxLocals ret, Jvm.Cond.code ({ cls := "com/example/quittance/quittance/signing/ValueEncoding", name := "checkedUnder", desc := "()Ljava/util/List;" } : Jvm.MethodName) prog_42_method_7_code (1 : Nat) (Option.some (Jvm.ClassFile.FieldType.object "java/util/List")), Jvm.Cond.code ({ cls := "java/util/List", name := "of", desc := "(Ljava/lang/Object;)Ljava/util/List;" } : Jvm.MethodName) jdk_40_method_37_code (1 : Nat) (Option.some (Jvm.ClassFile.FieldType.object "java/util/List")), Jvm.Cond.code ({ cls := "java/util/ImmutableCollections$List12", name := "<init>", desc := "(Ljava/lang/Object;)V" } : Jvm.MethodName) jdk_44_method_1_code (2 : Nat) (Option.none : Option Jvm.ClassFile.FieldType), Jvm.Cond.code ({ cls := "java/util/ImmutableCollections$AbstractImmutableList", name := "<init>", desc := "()V" } : Jvm.MethodName) jdk_46_method_1_code (1 : Nat) (Option.none : Option Jvm.ClassFile.FieldType), Jvm.Cond.code ({ cls := "java/util/ImmutableCollections$AbstractImmutableCollection", name := "<init>", desc := "()V" } : Jvm.MethodName) jdk_47_method_1_code (1 : Nat) (Option.none : Option Jvm.ClassFile.FieldType), Jvm.Cond.code ({ cls := "java/util/AbstractCollection", name := "<init>", desc := "()V" } : Jvm.MethodName) jdk_22_method_1_code (1 : Nat) (Option.none : Option Jvm.ClassFile.FieldType), Jvm.Cond.code ({ cls := "java/lang/Object", name := "<init>", desc := "()V" } : Jvm.MethodName) object_method_1_code (1 : Nat) (Option.none : Option Jvm.ClassFile.FieldType), Jvm.Cond.code ({ cls := "java/util/Objects", name := "requireNonNull", desc := "(Ljava/lang/Object;)Ljava/lang/Object;" } : Jvm.MethodName) jdk_31_method_10_code (1 : Nat) (Option.some (Jvm.ClassFile.FieldType.object "java/lang/Object")), Jvm.Cond.code ({ cls := "java/util/ImmutableCollections$List12", name := "size", desc := "()I" } : Jvm.MethodName) jdk_44_method_3_code (1 : Nat) (Option.some Jvm.ClassFile.FieldType.int), Jvm.Cond.code ({ cls := "java/util/ImmutableCollections$List12", name := "get", desc := "(I)Ljava/lang/Object;" } : Jvm.MethodName) jdk_44_method_5_code (2 : Nat) (Option.some (Jvm.ClassFile.FieldType.object "java/lang/Object")), Jvm.Cond.code ({ cls := "com/example/quittance/quittance/Catalog", name := "entries", desc := "()Ljava/util/List;" } : Jvm.MethodName) prog_1_method_2_code (1 : Nat) (Option.some (Jvm.ClassFile.FieldType.object "java/util/List")), Jvm.Cond.code ({ cls := "java/util/ImmutableCollections$ListN", name := "size", desc := "()I" } : Jvm.MethodName) jdk_45_method_3_code (1 : Nat) (Option.some Jvm.ClassFile.FieldType.int), Jvm.Cond.code ({ cls := "java/util/ImmutableCollections$ListN", name := "get", desc := "(I)Ljava/lang/Object;" } : Jvm.MethodName) jdk_45_method_4_code (2 : Nat) (Option.some (Jvm.ClassFile.FieldType.object "java/lang/Object")), Jvm.Cond.code ({ cls := "com/example/quittance/quittance/signing/ValueEncodingCheckedUnderPinLaw", name := "isUrl", desc := "(Lcom/example/quittance/quittance/signing/ValueEncoding;)Z" } : Jvm.MethodName) method_3_code (1 : Nat) (Option.some Jvm.ClassFile.FieldType.boolean)]
set_option maxRecDepth 65536 in
theorem codes_eq : words1.filter isCode = codes1 := rfl
theorem w_codes : ∀ c ∈ words1.filter isCode, c.before args0 about1 = true := by
  rw [codes_eq]
  intro c hc
  simp only [codes1, List.mem_cons, List.not_mem_nil, or_false] at hc
  rcases hc with rfl | rfl | rfl | rfl | rfl | rfl | rfl | rfl | rfl | rfl | rfl | rfl | rfl | rfl | rfl
  · exact w_c0
  · exact w_c1
  · exact w_c2
  · exact w_c3
  · exact w_c4
  · exact w_c5
  · exact w_c6
  · exact w_c7
  · exact w_c8
  · exact w_c9
  · exact w_c10
  · exact w_c11
  · exact w_c12
  · exact w_c13
  · exact w_c14
set_option maxRecDepth 65536 in
theorem w_t1 : (words1.take 24).all (fun c => isCode c || c.before args0 about1) = true := by decide +kernel
set_option maxRecDepth 65536 in
theorem w_t2 : ((words1.drop 24).take 24).all (fun c => isCode c || c.before args0 about1) = true := by decide +kernel
set_option maxRecDepth 65536 in
theorem w_t3 : (((words1.drop 24).drop 24).take 24).all (fun c => isCode c || c.before args0 about1) = true := by decide +kernel
set_option maxRecDepth 65536 in
theorem w_t4 : ((((words1.drop 24).drop 24).drop 24).take 24).all (fun c => isCode c || c.before args0 about1) = true := by decide +kernel
set_option maxRecDepth 65536 in
theorem w_t5 : ((((words1.drop 24).drop 24).drop 24).drop 24).all (fun c => isCode c || c.before args0 about1) = true := by decide +kernel
theorem w_tables : (allAtoms (Jvm.Cond.code x code maxLocals ret :: tables_1)).before args0 about1 = true := by
  rw [allAtoms_all]
  show words1.all (fun c => c.before args0 about1) = true
  refine all_split ?_ w_codes
  rw [← List.take_append_drop 24 words1, List.all_append, w_t1, ← List.take_append_drop 24 (words1.drop 24), List.all_append, w_t2, ← List.take_append_drop 24 ((words1.drop 24).drop 24), List.all_append, w_t3, ← List.take_append_drop 24 (((words1.drop 24).drop 24).drop 24), List.all_append, w_t4, w_t5]
  rfl
set_option maxRecDepth 65536 in
theorem w_rest : rest_1_c.before args0 about1 = true := by decide +kernel
set_option maxRecDepth 65536 in
theorem w_case : (Jvm.Cond.and given_1 narrow_1).before args0 about1 = true := by decide +kernel
theorem w_applies : (headSpec (Jvm.Cond.code x code maxLocals ret :: tables_1) room_1).applies x e0.platform about1 = true :=
  (Spec.applies_iff w_frames).mpr ⟨w_running, w_runnable, w_alone, w_named, w_hears, w_ripe, w_room, w_tables⟩
theorem atStart : AtStart classFile x code maxLocals ret World_1 tables_1 room_1 Calls_1 rest_1 Pre_1 launch0 p0 e0 about1 theMethod args0 below0 :=
  ⟨lists_1, trivial, launch0.admits_env _ _ _, launch0.least_env, fairChoices_fair.cas, fairChoices_fair.clock, w_frames, w_args, w_heap, w_applies, trivial, w_rest, w_case⟩
end start1
theorem witness_1 : WitnessClaimed_1 := ⟨start1.p0, start1.e0, start1.about1, start1.theMethod, start1.args0, start1.below0, start1.atStart⟩
end Jvm.Pilot.@@N@@
