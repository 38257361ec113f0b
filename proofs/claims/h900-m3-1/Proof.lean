import JvmDerived
import JvmDerived.Pilot.@@N@@Statement
import JvmDerived.Pilot.@@N@@Code
set_option linter.unusedVariables false
set_option linter.unusedSimpArgs false
namespace Jvm.RoadKit
open Sem ClassFile Op Lib Jvm.Stand Jvm.Free Jvm.LawKit
section New
variable {p : Program} {l : Launch} {e : Env} {R : Room} {s : State} {m : MethodId} {args : Array Value} {below : List Frame} {meth : Method} {c : Code} {T : State} {locs : List Loc} {cells slots : Nat}
theorem retI (X : Stand p l e R s m args below meth c T locs cells slots) (hx : p.tables.exec = Jvm.exec) {pc : Nat} {Ls : Array Slot} {z : Int32} {rest : List Value} (hret : meth.sig.returnType = some .int) (hd : decode c.code pc = .ok (.ireturn, 1)) {fs : List Frame}
    (hl : ∀ (f : JFrame) (acts : List Action), f.method = m → f.locked = none → f.entered = [] → (doReturn e (T.setTop f) acts (some (.int z))).1 = T.setFrames fs) : Steps p.tables e below (T.setTop (mkF m pc Ls (.int z :: rest))) (T.setFrames fs) := by
  have hm' : T.vm.method? m = some meth := X.method'
  have hn : narrow .int (.int z) = .int z := rfl
  show Steps p.tables e below (T.setTop { method := m, pc := pc, locals := Ls, stack := _ :: rest, locked := none }) _
  jvm_step X.here [X.here.top, hx, hd, hm', hret, hn]
  first | (intro acts; rw [hl _ acts rfl rfl rfl]) | rw [hl _ _ rfl rfl rfl]
  exact Steps.refl _
end New
end Jvm.RoadKit
namespace Jvm.Pilot.@@N@@
open Jvm Jvm.ClassFile Sem Op Lib Jvm.Free Jvm.Stand Jvm.LawKit Jvm.RoadKit Bundle Jvm.Pilot.@@N@@.Jvm.D
/-- a body's contract: from these arguments and this heap it returns, and Q says what it leaves -/
abbrev OwCon (l : Launch) (y : MethodName) (bytes : ByteArray) (ml : Nat) (ret : Option FieldType) (ws : List Jvm.Cond) (rm : Room) (as : Array Value) (Z : State) (h0 : Heap) (Q : Option Value → Heap → List Loc → Prop) : Prop :=
  MetFree l y (head1 (Jvm.Cond.code y bytes ml ret :: ws) rm) (fun a U => a = as ∧ Z.Warmed39 U.vm ∧ U.heap = h0) (fun _ _ _ _ _ => True) (fun _ U o U' => ∃ v L, o = .returned v ∧ Q v U'.heap L ∧ FrameEnd U o U' L rm.cells rm.slots)
/-- .. it may load literals that nobody loaded before -/
abbrev OwConW (l : Launch) (y : MethodName) (bytes : ByteArray) (ml : Nat) (ret : Option FieldType) (ws : List Jvm.Cond) (rm : Room) (as : Array Value) (Z : State) (h0 : Heap) (Q : Option Value → Heap → List Loc → Prop) : Prop :=
  MetFree l y (head1 (Jvm.Cond.code y bytes ml ret :: ws) rm) (fun a U => a = as ∧ Z.Warmed39 U.vm ∧ U.heap = h0) (fun _ _ _ _ _ => True) (fun _ U o U' => ∃ v L, o = .returned v ∧ Q v U'.heap L ∧ ReturnedEndW U o U' L rm.cells rm.slots)
/-- it returns val and leaves the heap as it was -/
def OwQ (val : Option Value) (h0 : Heap) (n0 : Nat) (v : Option Value) (h : Heap) (L : List Loc) : Prop := v = val ∧ Fr n0 L ∧ h = h0
/-- it writes nothing old, and P holds of what it returns and leaves -/
def OwP (P : Option Value → Heap → Prop) (n0 : Nat) (v : Option Value) (h : Heap) (L : List Loc) : Prop := Fr n0 L ∧ P v h
theorem own_eqI {args : Array Value} {s : State} {t : Term} {k : Int32} (h : (Jvm.Cond.eq t (.int k)).value args s none s [] = some true) : t.eval args s none [] s = some (.int k) := by
  obtain ⟨x, y, h1, h2, -, q⟩ := cmp_v (Or.inl h)
  cases h2
  obtain ⟨z, rfl⟩ := q
  rw [h1]; simp [Cond.value, h1, Term.eval] at h; rw [h]
theorem own_eqJ {args : Array Value} {s : State} {t : Term} {k : Int64} (h : (Jvm.Cond.eq t (.long k)).value args s none s [] = some true) : t.eval args s none [] s = some (.long k) := by
  obtain ⟨x, y, h1, h2, -, q⟩ := cmp_v (Or.inl h)
  cases h2
  obtain ⟨z, rfl⟩ := q
  rw [h1]; simp [Cond.value, h1, Term.eval] at h; rw [h]
theorem own_eqR {args : Array Value} {s : State} {t t' : Term} {a : Addr} (h : (Jvm.Cond.eq t t').value args s none s [] = some true) (e : t'.eval args s none [] s = some (.ref a)) : t.eval args s none [] s = some (.ref a) := by
  obtain ⟨x, y, h1, h2, q, -⟩ := cmp_v (Or.inl h)
  cases e.symm.trans h2
  cases x with
  | null => simp [Cond.value, h1, h2] at h
  | ref b => simp [Cond.value, h1, h2] at h; rw [h1, h]
  | _ => simp [Kin, Value.isRef] at q
theorem own_cat {v : Value} (h : v.isRef = true) : v.category = 1 := by rcases ref_cases h with rfl | ⟨a, rfl⟩ <;> rfl
theorem own_len {args : Array Value} {s : State} {t : Term} {a : Addr} {cl : Cell} {ty : FieldType} {n : Int32} (e : t.eval args s none [] s = some (.ref a)) (A : Arr s s.heap a cl ty) (h : (Term.length t).eval args s none [] s = some (.int n)) : cl.slots.size < 2 ^ 31 ∧ cl.slots.size.toInt32 = n := by
  have q := Arr.fin (Vm.Alike.refl _) A
  simpa [Term.eval, e, q] using h
theorem own_el {args : Array Value} {s : State} {t : Term} {a : Addr} {cl : Cell} {ty : FieldType} {j : Int32} {v : Value} (e : t.eval args s none [] s = some (.ref a)) (A : Arr s s.heap a cl ty) (h : (Term.elem t (.int j)).eval args s none [] s = some v) : cl.slots[j.toNatClampNeg]? = some v := (elem_in h e rfl A.1).2
theorem own_fld {args : Array Value} {s : State} {t : Term} {a : Addr} {C n d : String} {v : Value} (e : t.eval args s none [] s = some (.ref a)) (h : (Term.field t C n d).eval args s none [] s = some v) : Fld s s.heap a C n d v := Fld.start ((fld_at e).symm.trans h)
theorem own_exav {args : Array Value} {s : State} {t : Term} {idx : List Nat} {C : String} (h : (Jvm.Cond.exactly t C).value args s none s idx = some true) : ∃ b, t.eval args s none idx s = some (.ref b) := exa_v h
theorem own_idx {args : Array Value} {s : State} (i : Nat) (idx : List Nat) : (Term.index 0).eval args s none (i :: idx) s = some (.int i.toInt32) := rfl
theorem own_exai {args : Array Value} {s : State} {t : Term} {idx : List Nat} {C : String} {b : Addr} (ev : t.eval args s none idx s = some (.ref b)) (h : (Jvm.Cond.exactly t C).value args s none s idx = some true) : Exa s s.heap b C := by
  obtain ⟨a', c', cell, k, e1, e2, e3, e4, e5, rfl, e7⟩ := Cond.exactly_spec (beq_iff_eq.mpr h : (Jvm.Cond.exactly t C).holds args s none s idx = true)
  cases ev.symm.trans e1
  exact ⟨cell, k, e3, e2, e4, e5, e7⟩
theorem own_fldi {args : Array Value} {s : State} {t : Term} {i : Nat} {b : Addr} {C n d : String} (ev : t.eval args s none [i] s = some (.ref b)) (h : (Jvm.Cond.eq (Term.field t C n d) (Term.sub (Term.index 0) (Term.int 128))).value args s none s [i] = some true) : s.fieldOf? b C n d = some (.int (i.toInt32 - 128)) := by
  obtain ⟨x, y, h1, h2, -, q⟩ := cmp_v (Or.inl h)
  have e2 : y = .int (i.toInt32 - 128) := by simpa [Term.eval] using h2.symm
  subst e2
  obtain ⟨z, rfl⟩ := q
  rw [fld_at ev] at h1
  have h3 : (Term.field t C n d).eval args s none [i] s = some (.int z) := by rw [fld_at ev]; exact h1
  rw [h1]; simp [Cond.value, h3, h2] at h; rw [h]
def owCacheI (Z : State) (w : Addr) : Prop := ∃ cl : Cell, Arr Z Z.heap w cl (.object "java/lang/Integer") ∧ cl.slots.size = 256 ∧ ∀ i, i < 256 → ∃ b : Addr, cl.slots[i]? = some (.ref b) ∧ Exa Z Z.heap b "java/lang/Integer" ∧ Fld Z Z.heap b "java/lang/Integer" "value" "I" (.int (i.toInt32 - 128))
theorem own_strin : ∀ w ∈ Bundle.stringAtoms, w ∈ tables_1 := by decide +kernel
theorem own_max1 (x : Int32) : ¬ (if (1 : Int32) < x then x else (1 : Int32)) < (1 : Int32) := by
  split
  · rename_i h; rw [Int32.lt_iff_toInt_lt] at *; omega
  · decide
theorem own_max0 (x : Int32) : ¬ (if (0 : Int32) < x then x else (0 : Int32)) < (0 : Int32) := by
  split
  · rename_i h; rw [Int32.lt_iff_toInt_lt] at *; omega
  · decide
theorem own_maxlt (x f y : Int32) : x < (if f < y then y else f) ↔ (x < f ∨ x < y) := by
  split <;> rename_i h <;> simp only [Int32.lt_iff_toInt_lt] at * <;> omega
theorem own_fin (x1 x2 x3 p3 p4 p5 : Int32) : (if p3 < x1 then (if p4 < (if x2 < p3 then p3 else x2) then (if p5 < x3 then (0 : Int32) else (1 : Int32)) else (0 : Int32)) else (1 : Int32)) = (if (if p3 < x1 then (0 : Int32) else (1 : Int32)) = (0 : Int32) then (if (if p4 < x2 then (1 : Int32) else (if p4 < p3 then (1 : Int32) else (0 : Int32))) = (0 : Int32) then (0 : Int32) else (if (if p5 < x3 then (0 : Int32) else (1 : Int32)) = (0 : Int32) then (0 : Int32) else (1 : Int32))) else (1 : Int32)) := by
  have h := own_maxlt p4 x2 p3
  by_cases a1 : p3 < x1 <;> by_cases a2 : p4 < x2 <;> by_cases a3 : p4 < p3 <;> by_cases a4 : p5 < x3 <;> simp [h, a1, a2, a3, a4]

theorem d1_0 : decode jdk_29_method_65_code 0 = .ok (.iload_n 0, 1) := by decide +kernel
theorem d1_1 : decode jdk_29_method_65_code 1 = .ok (.iload_n 1, 1) := by decide +kernel
theorem d1_2 : decode jdk_29_method_65_code 2 = .ok (.if_icmp .lt 7, 3) := by decide +kernel
theorem d1_5 : decode jdk_29_method_65_code 5 = .ok (.iload_n 0, 1) := by decide +kernel
theorem d1_6 : decode jdk_29_method_65_code 6 = .ok (.goto 4, 3) := by decide +kernel
theorem d1_9 : decode jdk_29_method_65_code 9 = .ok (.iload_n 1, 1) := by decide +kernel
theorem d1_10 : decode jdk_29_method_65_code 10 = .ok (.ireturn, 1) := by decide +kernel
theorem d2_0 : decode jdk_33_method_22_code 0 = .ok (.iload_n 0, 1) := by decide +kernel
theorem d2_1 : decode jdk_33_method_22_code 1 = .ok (.bipush (-128), 2) := by decide +kernel
theorem d2_3 : decode jdk_33_method_22_code 3 = .ok (.if_icmp .lt 20, 3) := by decide +kernel
theorem d2_6 : decode jdk_33_method_22_code 6 = .ok (.iload_n 0, 1) := by decide +kernel
theorem d2_7 : decode jdk_33_method_22_code 7 = .ok (.getstatic 191, 3) := by decide +kernel
theorem d2_10 : decode jdk_33_method_22_code 10 = .ok (.if_icmp .gt 13, 3) := by decide +kernel
theorem d2_13 : decode jdk_33_method_22_code 13 = .ok (.getstatic 195, 3) := by decide +kernel
theorem d2_16 : decode jdk_33_method_22_code 16 = .ok (.iload_n 0, 1) := by decide +kernel
theorem d2_17 : decode jdk_33_method_22_code 17 = .ok (.sipush 128, 3) := by decide +kernel
theorem d2_20 : decode jdk_33_method_22_code 20 = .ok (.iadd, 1) := by decide +kernel
theorem d2_21 : decode jdk_33_method_22_code 21 = .ok (.aaload, 1) := by decide +kernel
theorem d2_22 : decode jdk_33_method_22_code 22 = .ok (.areturn, 1) := by decide +kernel
theorem d2_23 : decode jdk_33_method_22_code 23 = .ok (.new 1, 3) := by decide +kernel
theorem d2_26 : decode jdk_33_method_22_code 26 = .ok (.dup, 1) := by decide +kernel
theorem d2_27 : decode jdk_33_method_22_code 27 = .ok (.iload_n 0, 1) := by decide +kernel
theorem d2_28 : decode jdk_33_method_22_code 28 = .ok (.invokespecial 199, 3) := by decide +kernel
theorem d2_31 : decode jdk_33_method_22_code 31 = .ok (.areturn, 1) := by decide +kernel
theorem owpn2 : plainName "java/lang/Integer" = true := by first | (simp [plainName, overriddenIn]; done) | decide +kernel
theorem d3_0 : decode prog_57_method_1_code 0 = .ok (.aload_n 0, 1) := by decide +kernel
theorem d3_1 : decode prog_57_method_1_code 1 = .ok (.invokespecial 1, 3) := by decide +kernel
theorem d3_4 : decode prog_57_method_1_code 4 = .ok (.aload_n 1, 1) := by decide +kernel
theorem d3_5 : decode prog_57_method_1_code 5 = .ok (.iconst 1, 1) := by decide +kernel
theorem d3_6 : decode prog_57_method_1_code 6 = .ok (.ldc 7, 2) := by decide +kernel
theorem d3_8 : decode prog_57_method_1_code 8 = .ok (.invokestatic 9, 3) := by decide +kernel
theorem d3_11 : decode prog_57_method_1_code 11 = .ok (.aload_n 2, 1) := by decide +kernel
theorem d3_12 : decode prog_57_method_1_code 12 = .ok (.iconst 1, 1) := by decide +kernel
theorem d3_13 : decode prog_57_method_1_code 13 = .ok (.ldc 15, 2) := by decide +kernel
theorem d3_15 : decode prog_57_method_1_code 15 = .ok (.invokestatic 9, 3) := by decide +kernel
theorem d3_18 : decode prog_57_method_1_code 18 = .ok (.aload_n 3, 1) := by decide +kernel
theorem d3_19 : decode prog_57_method_1_code 19 = .ok (.iconst 0, 1) := by decide +kernel
theorem d3_20 : decode prog_57_method_1_code 20 = .ok (.ldc 17, 2) := by decide +kernel
theorem d3_22 : decode prog_57_method_1_code 22 = .ok (.invokestatic 9, 3) := by decide +kernel
theorem d3_25 : decode prog_57_method_1_code 25 = .ok (.aload_n 0, 1) := by decide +kernel
theorem d3_26 : decode prog_57_method_1_code 26 = .ok (.aload_n 1, 1) := by decide +kernel
theorem d3_27 : decode prog_57_method_1_code 27 = .ok (.putfield 19, 3) := by decide +kernel
theorem d3_30 : decode prog_57_method_1_code 30 = .ok (.aload_n 0, 1) := by decide +kernel
theorem d3_31 : decode prog_57_method_1_code 31 = .ok (.aload_n 2, 1) := by decide +kernel
theorem d3_32 : decode prog_57_method_1_code 32 = .ok (.putfield 25, 3) := by decide +kernel
theorem d3_35 : decode prog_57_method_1_code 35 = .ok (.aload_n 0, 1) := by decide +kernel
theorem d3_36 : decode prog_57_method_1_code 36 = .ok (.aload_n 3, 1) := by decide +kernel
theorem d3_37 : decode prog_57_method_1_code 37 = .ok (.putfield 28, 3) := by decide +kernel
theorem d3_40 : decode prog_57_method_1_code 40 = .ok (.return_, 1) := by decide +kernel
theorem owpn3 : plainName "com/example/vestwright/vestwright/plan/Plan$ServiceBeforeBreaks" = true := by first | (simp [plainName, overriddenIn]; done) | decide +kernel
theorem d4_0 : decode jdk_30_method_1_code 0 = .ok (.aload_n 0, 1) := by decide +kernel
theorem d4_1 : decode jdk_30_method_1_code 1 = .ok (.invokespecial 1, 3) := by decide +kernel
theorem d4_4 : decode jdk_30_method_1_code 4 = .ok (.return_, 1) := by decide +kernel
theorem owpn4 : plainName "java/lang/Record" = true := by first | (simp [plainName, overriddenIn]; done) | decide +kernel
theorem d6_0 : decode prog_27_method_12_code 0 = .ok (.aload_n 0, 1) := by decide +kernel
theorem d6_1 : decode prog_27_method_12_code 1 = .ok (.aload_n 2, 1) := by decide +kernel
theorem d6_2 : decode prog_27_method_12_code 2 = .ok (.invokestatic 9, 3) := by decide +kernel
theorem d6_5 : decode prog_27_method_12_code 5 = .ok (.checkcast 49, 3) := by decide +kernel
theorem d6_8 : decode prog_27_method_12_code 8 = .ok (.invokevirtual 48, 3) := by decide +kernel
theorem d6_11 : decode prog_27_method_12_code 11 = .ok (.iload_n 1, 1) := by decide +kernel
theorem d6_12 : decode prog_27_method_12_code 12 = .ok (.if_icmp .ge 18, 3) := by decide +kernel
theorem d6_15 : decode prog_27_method_12_code 15 = .ok (.new 27, 3) := by decide +kernel
theorem d6_18 : decode prog_27_method_12_code 18 = .ok (.dup, 1) := by decide +kernel
theorem d6_19 : decode prog_27_method_12_code 19 = .ok (.aload_n 2, 1) := by decide +kernel
theorem d6_20 : decode prog_27_method_12_code 20 = .ok (.iload_n 1, 1) := by decide +kernel
theorem d6_26 : decode prog_27_method_12_code 26 = .ok (.invokespecial 31, 3) := by decide +kernel
theorem d6_29 : decode prog_27_method_12_code 29 = .ok (.athrow, 1) := by decide +kernel
theorem d6_30 : decode prog_27_method_12_code 30 = .ok (.return_, 1) := by decide +kernel
theorem owpn6 : plainName "com/example/vestwright/vestwright/plan/Plan" = true := by first | (simp [plainName, overriddenIn]; done) | decide +kernel
theorem d7_0 : decode prog_27_method_8_code 0 = .ok (.aload_n 0, 1) := by decide +kernel
theorem d7_1 : decode prog_27_method_8_code 1 = .ok (.ifnonnull 17, 3) := by decide +kernel
theorem d7_4 : decode prog_27_method_8_code 4 = .ok (.new 27, 3) := by decide +kernel
theorem d7_7 : decode prog_27_method_8_code 7 = .ok (.dup, 1) := by decide +kernel
theorem d7_8 : decode prog_27_method_8_code 8 = .ok (.aload_n 1, 1) := by decide +kernel
theorem d7_14 : decode prog_27_method_8_code 14 = .ok (.invokespecial 31, 3) := by decide +kernel
theorem d7_17 : decode prog_27_method_8_code 17 = .ok (.athrow, 1) := by decide +kernel
theorem d7_18 : decode prog_27_method_8_code 18 = .ok (.aload_n 0, 1) := by decide +kernel
theorem d7_19 : decode prog_27_method_8_code 19 = .ok (.areturn, 1) := by decide +kernel
theorem owpn7 : plainName "com/example/vestwright/vestwright/plan/Plan" = true := by first | (simp [plainName, overriddenIn]; done) | decide +kernel
theorem d8_0 : decode jdk_33_method_27_code 0 = .ok (.aload_n 0, 1) := by decide +kernel
theorem d8_1 : decode jdk_33_method_27_code 1 = .ok (.getfield 205, 3) := by decide +kernel
theorem d8_4 : decode jdk_33_method_27_code 4 = .ok (.ireturn, 1) := by decide +kernel
theorem owpn8 : plainName "java/lang/Integer" = true := by first | (simp [plainName, overriddenIn]; done) | decide +kernel
theorem d9_0 : decode prog_57_method_2_code 0 = .ok (.iload_n 1, 1) := by decide +kernel
theorem d9_1 : decode prog_57_method_2_code 1 = .ok (.aload_n 0, 1) := by decide +kernel
theorem d9_2 : decode prog_57_method_2_code 2 = .ok (.getfield 19, 3) := by decide +kernel
theorem d9_5 : decode prog_57_method_2_code 5 = .ok (.invokevirtual 31, 3) := by decide +kernel
theorem d9_8 : decode prog_57_method_2_code 8 = .ok (.if_icmp .lt 5, 3) := by decide +kernel
theorem d9_11 : decode prog_57_method_2_code 11 = .ok (.iconst 1, 1) := by decide +kernel
theorem d9_12 : decode prog_57_method_2_code 12 = .ok (.ireturn, 1) := by decide +kernel
theorem d9_13 : decode prog_57_method_2_code 13 = .ok (.iload_n 2, 1) := by decide +kernel
theorem d9_14 : decode prog_57_method_2_code 14 = .ok (.aload_n 0, 1) := by decide +kernel
theorem d9_15 : decode prog_57_method_2_code 15 = .ok (.getfield 25, 3) := by decide +kernel
theorem d9_18 : decode prog_57_method_2_code 18 = .ok (.invokevirtual 31, 3) := by decide +kernel
theorem d9_21 : decode prog_57_method_2_code 21 = .ok (.iload_n 1, 1) := by decide +kernel
theorem d9_22 : decode prog_57_method_2_code 22 = .ok (.invokestatic 37, 3) := by decide +kernel
theorem d9_25 : decode prog_57_method_2_code 25 = .ok (.if_icmp .ge 18, 3) := by decide +kernel
theorem d9_28 : decode prog_57_method_2_code 28 = .ok (.iload_n 3, 1) := by decide +kernel
theorem d9_29 : decode prog_57_method_2_code 29 = .ok (.aload_n 0, 1) := by decide +kernel
theorem d9_30 : decode prog_57_method_2_code 30 = .ok (.getfield 28, 3) := by decide +kernel
theorem d9_33 : decode prog_57_method_2_code 33 = .ok (.invokevirtual 31, 3) := by decide +kernel
theorem d9_36 : decode prog_57_method_2_code 36 = .ok (.if_icmp .lt 7, 3) := by decide +kernel
theorem d9_39 : decode prog_57_method_2_code 39 = .ok (.iconst 1, 1) := by decide +kernel
theorem d9_40 : decode prog_57_method_2_code 40 = .ok (.goto 4, 3) := by decide +kernel
theorem d9_43 : decode prog_57_method_2_code 43 = .ok (.iconst 0, 1) := by decide +kernel
theorem d9_44 : decode prog_57_method_2_code 44 = .ok (.ireturn, 1) := by decide +kernel
theorem owpn9 : plainName "com/example/vestwright/vestwright/plan/Plan$ServiceBeforeBreaks" = true := by first | (simp [plainName, overriddenIn]; done) | decide +kernel
theorem d10_0 : decode jdk_33_method_23_code 0 = .ok (.aload_n 0, 1) := by decide +kernel
theorem d10_1 : decode jdk_33_method_23_code 1 = .ok (.invokespecial 202, 3) := by decide +kernel
theorem d10_4 : decode jdk_33_method_23_code 4 = .ok (.aload_n 0, 1) := by decide +kernel
theorem d10_5 : decode jdk_33_method_23_code 5 = .ok (.iload_n 1, 1) := by decide +kernel
theorem d10_6 : decode jdk_33_method_23_code 6 = .ok (.putfield 205, 3) := by decide +kernel
theorem d10_9 : decode jdk_33_method_23_code 9 = .ok (.return_, 1) := by decide +kernel
theorem owpn10 : plainName "java/lang/Integer" = true := by first | (simp [plainName, overriddenIn]; done) | decide +kernel
theorem d11_0 : decode jdk_18_method_1_code 0 = .ok (.aload_n 0, 1) := by decide +kernel
theorem d11_1 : decode jdk_18_method_1_code 1 = .ok (.invokespecial 1, 3) := by decide +kernel
theorem d11_4 : decode jdk_18_method_1_code 4 = .ok (.return_, 1) := by decide +kernel
theorem owpn11 : plainName "java/lang/Number" = true := by first | (simp [plainName, overriddenIn]; done) | decide +kernel
theorem owpn0 : plainName "com/example/vestwright/vestwright/plan/ServiceBeforeBreaksKeepsPinLaw" = true := by first | (simp [plainName, overriddenIn]; done) | decide +kernel
theorem owpd0 : parseMethodDescriptor "()V" = some ⟨[], none⟩ := by decide +kernel
theorem owpd1 : parseMethodDescriptor "(I)V" = some ⟨[.int], none⟩ := by decide +kernel
theorem owpd2 : parseMethodDescriptor "(Ljava/lang/Object;Ljava/lang/String;)Ljava/lang/Object;" = some ⟨[(.object "java/lang/Object"), (.object "java/lang/String")], some (.object "java/lang/Object")⟩ := by decide +kernel
theorem owpd3 : parseMethodDescriptor "()I" = some ⟨[], some .int⟩ := by decide +kernel
theorem owpd4 : parseMethodDescriptor "(Ljava/lang/Integer;ILjava/lang/String;)V" = some ⟨[(.object "java/lang/Integer"), .int, (.object "java/lang/String")], none⟩ := by decide +kernel
theorem owpd5 : parseMethodDescriptor "(II)I" = some ⟨[.int, .int], some .int⟩ := by decide +kernel
theorem owpd6 : parseMethodDescriptor "(I)Ljava/lang/Integer;" = some ⟨[.int], some (.object "java/lang/Integer")⟩ := by decide +kernel
theorem owpd7 : parseMethodDescriptor "(Ljava/lang/Integer;Ljava/lang/Integer;Ljava/lang/Integer;)V" = some ⟨[(.object "java/lang/Integer"), (.object "java/lang/Integer"), (.object "java/lang/Integer")], none⟩ := by decide +kernel
theorem owpd8 : parseMethodDescriptor "(III)Z" = some ⟨[.int, .int, .int], some .boolean⟩ := by decide +kernel
def OwW (Z : State) (w_cache : Addr) : Prop := (Exa Z Z.heap w_cache "[Ljava/lang/Integer;") ∧ (Sta Z Z.heap "java/lang/Integer$IntegerCache" "high" "I" (.int (127 : Int32))) ∧ (Sta Z Z.heap "java/lang/Integer$IntegerCache" "cache" "[Ljava/lang/Integer;" (.ref w_cache)) ∧ (owCacheI Z w_cache) ∧ True
set_option maxRecDepth 65536 in
set_option maxHeartbeats 40000000 in
theorem rm11 (l : Launch) (Z : State) (a0 : Array Value) (hw : ∀ d ∈ tables_1, d.before a0 Z = true) (ws : List Jvm.Cond) (n0 : Nat) (h0 : Heap) (O : Old Z n0 h0) (w_cache : Addr) (W : OwW Z w_cache) (a : Addr) :
    OwCon l (⟨"java/lang/Number", "<init>", "()V"⟩ : MethodName) jdk_18_method_1_code 1 none ws ({ frames := 1, cells := 0, slots := 0, locals := 12 } : Room) #[(.ref a)] Z h0 (OwQ none h0 n0) := by
  refine MetFree.of_bodySF (plainFor_of_name owpn11) hisR ?_
  intro p e s m args below meth c s₁ Bd hml0 hP hK
  obtain ⟨rfl, hZ, hh⟩ := hP
  have hx := Bd.exec
  have hby := Bd.bytes
  have hml : c.maxLocals = 1 := hml0
  have hown : s.vm.findClass "java/lang/Number" = some m.cls := findClass_of_methodNamed Bd.named
  have hnm := (name_of_methodNamed Bd.named Bd.method).1
  have X0 : Stand p l e ({ frames := 1, cells := 0, slots := 0, locals := 12 } : Room) s m #[(.ref a)] below meth c s₁ [] 0 0 := Stand.of_body Bd
  have e0 : s₁.heap = h0 := by rw [← hh, Bd.state]; rfl
  have N0 := Fr.nil n0
  have WW := W
  obtain ⟨E_w_cache, S_Integer_IntegerCache_high, S_Integer_IntegerCache_cache, CaI, -⟩ := WW
  have ef : entryFrame m #[(.ref a)] 1 = mkF m 0 #[.val (.ref a)] [] := by first | rfl | (simp [entryFrame, mkF, argsToLocals, Value.category]; done)
  have pre0 : ∀ t, Steps p.tables e below (s₁.setTop (mkF m 0 #[.val (.ref a)] [])) t → Steps p.tables e below (s₁.setTop (entryFrame m #[(.ref a)] 1)) t := fun t k => castTop ef k
  obtain ⟨T1, X1, e1, st1⟩ := initO X0 hx hZ hown (hw _ (List.mem_of_getElem? (i := 75) rfl)) (hw _ (List.mem_of_getElem? (i := 23) rfl)) (hw _ (List.mem_of_getElem? (i := 24) rfl)) e0 (g := (mkF m 1 #[.val (.ref a)] [(.ref a)])) rfl (by rw [hml]; rfl) rfl (hb hby d11_1) (by decide) (W := 0) (by show 2 * 0 + _ ≤ _; exact Nat.le_of_eq rfl) (by decide)
  obtain ⟨fs, hr, hrun, hended, hW, hsame⟩ := X1.leave (v := none) (fun _ => rfl)
  refine ⟨_, _, pre0 _ ?_, hrun, hended, _, _, rfl, ?_, ⟨_, rfl⟩, hW, hsame.mono (by decide) (by decide)⟩
  · show Steps p.tables e below (s₁.setTop (mkF m 0 #[.val (.ref a)] [])) _
    refine XS.aloadN X0.here hx rfl (hb hby d11_0) rfl rfl ?_
    show Steps p.tables e below (s₁.setTop (mkF m 1 #[.val (.ref a)] [(.ref a)])) _
    refine st1 _ ?_
    show Steps p.tables e below (T1.setTop (mkF m 4 #[.val (.ref a)] [])) _
    exact X1.returnOut hx Bd.returns (hb hby d11_4) hr
  · have eF : (T1.setFrames fs).heap = h0 := e1
    exact ⟨rfl, N0, eF⟩
set_option maxRecDepth 65536 in
set_option maxHeartbeats 40000000 in
theorem rm10 (l : Launch) (Z : State) (a0 : Array Value) (hw : ∀ d ∈ tables_1, d.before a0 Z = true) (ws : List Jvm.Cond) (n0 : Nat) (h0 : Heap) (O : Old Z n0 h0) (w_cache : Addr) (W : OwW Z w_cache) (a : Addr) (pv : Int32) (Ea : Exa Z h0 a "java/lang/Integer") (Fa : Fld Z h0 a "java/lang/Integer" "value" "I" (.int (0 : Int32))) (ga : n0 ≤ a) :
    OwCon l (⟨"java/lang/Integer", "<init>", "(I)V"⟩ : MethodName) jdk_33_method_23_code 2 none ws ({ frames := 2, cells := 0, slots := 0, locals := 24 } : Room) #[(.ref a), (.int pv)] Z h0 (OwP (fun v h => v = none ∧ Old Z n0 h ∧ Keep h0 h [a] ∧ Exa Z h a "java/lang/Integer" ∧ Fld Z h a "java/lang/Integer" "value" "I" (.int pv)) n0) := by
  refine MetFree.of_bodySF (plainFor_of_name owpn10) hisR ?_
  intro p e s m args below meth c s₁ Bd hml0 hP hK
  obtain ⟨rfl, hZ, hh⟩ := hP
  have hx := Bd.exec
  have hby := Bd.bytes
  have hml : c.maxLocals = 2 := hml0
  have hown : s.vm.findClass "java/lang/Integer" = some m.cls := findClass_of_methodNamed Bd.named
  have hnm := (name_of_methodNamed Bd.named Bd.method).1
  have X0 : Stand p l e ({ frames := 2, cells := 0, slots := 0, locals := 24 } : Room) s m #[(.ref a), (.int pv)] below meth c s₁ [] 0 0 := Stand.of_body Bd
  have e0 : s₁.heap = h0 := by rw [← hh, Bd.state]; rfl
  have N0 := Fr.nil n0
  have WW := W
  obtain ⟨E_w_cache, S_Integer_IntegerCache_high, S_Integer_IntegerCache_cache, CaI, -⟩ := WW
  have ef : entryFrame m #[(.ref a), (.int pv)] 2 = mkF m 0 #[.val (.ref a), .val (.int pv)] [] := by first | rfl | (simp [entryFrame, mkF, argsToLocals, Value.category]; done)
  have pre0 : ∀ t, Steps p.tables e below (s₁.setTop (mkF m 0 #[.val (.ref a), .val (.int pv)] [])) t → Steps p.tables e below (s₁.setTop (entryFrame m #[(.ref a), (.int pv)] 2)) t := fun t k => castTop ef k
  obtain ⟨_, _, ⟨T1, L1, k1, n1⟩, -, X1, ⟨Lc1, hQ1, l1, y1, z1⟩, st1⟩ := X0.specialBack hx (y := (⟨"java/lang/Number", "<init>", "()V"⟩ : MethodName)) rfl hown (mvT hZ (hw _ (List.mem_of_getElem? (i := 69) rfl))) (mvT hZ (hw _ (List.mem_of_getElem? (i := 70) rfl))) (mvT hZ (hw _ (List.mem_of_getElem? (i := 74) rfl))) (by decide) (backOf (W := 0) (rm11 l Z a0 hw [] n0 h0 O w_cache W a) hZ (hw _ (List.mem_of_getElem? (i := 74) rfl)) (hw _ (List.mem_of_getElem? (i := 73) rfl)) (by decide) (by decide)) (g := (mkF m 1 #[.val (.ref a), .val (.int pv)] [(.ref a)])) rfl (by rw [hml]; rfl) (Steps.refl _) (a := a) (argsL := []) (rest := []) (lenOf owpd0 rfl) rfl (by show 2 * 0 + _ ≤ _; exact Nat.le_of_eq rfl) (hb hby d10_1) (fun _ _ => ⟨rfl, e0, (by decide : 0 + 0 ≤ _), (by decide : 0 + 0 ≤ _)⟩)
  dsimp only [Pt.U, Pt.locs, Pt.cells, Pt.slots] at X1 l1 y1 z1 st1 hQ1
  subst l1 y1 z1
  obtain ⟨rfl, Nq1, e1⟩ := hQ1
  have N1 := Fr.app N0 Nq1
  obtain ⟨T2, h2, X2, e2, W2, st2⟩ := putF X1 hx hZ hown (host := "") (Or.inl (hw _ (List.mem_of_getElem? (i := 47) rfl))) Via.refl e1 Fa Ea (Or.inr ⟨(hw _ (List.mem_of_getElem? (i := 48) rfl)), rfl, hnm⟩) (hw _ (List.mem_of_getElem? (i := 65) rfl)) (ty := .int) (by decide) rfl rfl (g := (mkF m 6 #[.val (.ref a), .val (.int pv)] [(.int pv), (.ref a)])) rfl rfl (hb hby d10_6)
  have Fw2 := Fa.same W2
  have N2 := Fr.snoc X2 N1 ga
  have O2 := O.wr W2 ga
  have Kp2 : Keep h0 h2 [a] := (Keep.refl h0 [a]).wr W2 (Or.inl (List.mem_of_getElem? (i := 0) rfl))
  have fa3 := (Ea.wr W2)
  obtain ⟨fs, hr, hrun, hended, hW, hsame⟩ := X2.leave (v := none) (fun _ => rfl)
  refine ⟨_, _, pre0 _ ?_, hrun, hended, _, _, rfl, ?_, ⟨_, rfl⟩, hW, hsame.mono (by decide) (by decide)⟩
  · show Steps p.tables e below (s₁.setTop (mkF m 0 #[.val (.ref a), .val (.int pv)] [])) _
    refine XS.aloadN X0.here hx rfl (hb hby d10_0) rfl rfl ?_
    show Steps p.tables e below (s₁.setTop (mkF m 1 #[.val (.ref a), .val (.int pv)] [(.ref a)])) _
    refine st1.trans ?_
    show Steps p.tables e below (T1.setTop (mkF m 4 #[.val (.ref a), .val (.int pv)] [])) _
    refine XS.aloadN X1.here hx rfl (hb hby d10_4) rfl rfl ?_
    show Steps p.tables e below (T1.setTop (mkF m 5 #[.val (.ref a), .val (.int pv)] [(.ref a)])) _
    refine XS.iloadN X1.here hx rfl (hb hby d10_5) rfl ?_
    show Steps p.tables e below (T1.setTop (mkF m 6 #[.val (.ref a), .val (.int pv)] [(.int pv), (.ref a)])) _
    refine st2 _ ?_
    show Steps p.tables e below (T2.setTop (mkF m 9 #[.val (.ref a), .val (.int pv)] [])) _
    exact X2.returnOut hx Bd.returns (hb hby d10_9) hr
  · have eF : (T2.setFrames fs).heap = h2 := e2
    exact ⟨N2, rfl, by rw [eF]; exact ⟨O2, Kp2, fa3, Fw2⟩⟩
set_option maxRecDepth 65536 in
set_option maxHeartbeats 40000000 in
theorem rm2_c (l : Launch) (Z : State) (a0 : Array Value) (hw : ∀ d ∈ tables_1, d.before a0 Z = true) (ws : List Jvm.Cond) (n0 : Nat) (h0 : Heap) (O : Old Z n0 h0) (w_cache : Addr) (W : OwW Z w_cache) (pv : Int32) (hlo : ¬ pv < (-128 : Int32)) (hhi : ¬ (127 : Int32) < pv) :
    OwCon l (⟨"java/lang/Integer", "valueOf", "(I)Ljava/lang/Integer;"⟩ : MethodName) jdk_33_method_22_code 1 (some (.object "java/lang/Integer")) ws ({ frames := 3, cells := 1, slots := 1, locals := 38 } : Room) #[(.int pv)] Z h0 (OwP (fun v h => ∃ b : Addr, v = some (.ref b) ∧ Old Z n0 h ∧ Keep h0 h [] ∧ Exa Z h b "java/lang/Integer" ∧ Fld Z h b "java/lang/Integer" "value" "I" (.int pv)) n0) := by
  refine MetFree.of_bodySF (plainFor_of_name owpn2) hisR ?_
  intro p e s m args below meth c s₁ Bd hml0 hP hK
  obtain ⟨rfl, hZ, hh⟩ := hP
  have hx := Bd.exec
  have hby := Bd.bytes
  have hml : c.maxLocals = 1 := hml0
  have hown : s.vm.findClass "java/lang/Integer" = some m.cls := findClass_of_methodNamed Bd.named
  have hnm := (name_of_methodNamed Bd.named Bd.method).1
  have X0 : Stand p l e ({ frames := 3, cells := 1, slots := 1, locals := 38 } : Room) s m #[(.int pv)] below meth c s₁ [] 0 0 := Stand.of_body Bd
  have e0 : s₁.heap = h0 := by rw [← hh, Bd.state]; rfl
  have N0 := Fr.nil n0
  have WW := W
  obtain ⟨E_w_cache, S_Integer_IntegerCache_high, S_Integer_IntegerCache_cache, CaI, -⟩ := WW
  have ef : entryFrame m #[(.int pv)] 1 = mkF m 0 #[.val (.int pv)] [] := by first | rfl | (simp [entryFrame, mkF, argsToLocals, Value.category]; done)
  have pre0 : ∀ t, Steps p.tables e below (s₁.setTop (mkF m 0 #[.val (.int pv)] [])) t → Steps p.tables e below (s₁.setTop (entryFrame m #[(.int pv)] 1)) t := fun t k => castTop ef k
  obtain ⟨T1, X1, e1, st1⟩ := getS2 X0 hx hZ hown (host := "") (Or.inl (hw _ (List.mem_of_getElem? (i := 11) rfl))) Via.refl e0 (S_Integer_IntegerCache_high.ext O.2) (g := (mkF m 7 #[.val (.int pv)] [(.int pv)])) rfl (hb hby d2_7)
  obtain ⟨T2, X2, e2, st2⟩ := getS2 X1 hx hZ hown (host := "") (Or.inl (hw _ (List.mem_of_getElem? (i := 13) rfl))) Via.refl e1 (S_Integer_IntegerCache_cache.ext O.2) (g := (mkF m 13 #[.val (.int pv)] [])) rfl (hb hby d2_13)
  obtain ⟨cl3, Ar03, Sz3, Al3⟩ := CaI
  have Ar3 := Ar03.ext O.2
  have po3 := Jvm.Free.IntBox.place_ok pv hlo hhi
  have hin3 : ¬ ((pv + (128 : Int32)) < 0 ∨ cl3.slots.size ≤ ((pv + (128 : Int32))).toNatClampNeg) := by rw [Sz3]; exact po3.1
  obtain ⟨bx, hat3, Eb0, Fb0⟩ := Al3 _ po3.2
  rw [Jvm.Free.IntBox.place_val pv hlo hhi] at Fb0
  have Eb := Eb0.ext O.2
  have Fb := Fb0.ext O.2
  obtain ⟨fs, hr, hrun, hended, hW, hsame⟩ := X2.leave (v := some (.ref bx)) (fun h => by rw [Bd.returns] at h; cases h)
  refine ⟨_, _, pre0 _ ?_, hrun, hended, _, _, rfl, ?_, ⟨_, rfl⟩, hW, hsame.mono (by decide) (by decide)⟩
  · show Steps p.tables e below (s₁.setTop (mkF m 0 #[.val (.int pv)] [])) _
    refine XS.iloadN X0.here hx rfl (hb hby d2_0) rfl ?_
    show Steps p.tables e below (s₁.setTop (mkF m 1 #[.val (.int pv)] [(.int pv)])) _
    refine XS.bipush X0.here hx rfl (hb hby d2_1) ?_
    show Steps p.tables e below (s₁.setTop (mkF m 3 #[.val (.int pv)] [(.int (-128 : Int32)), (.int pv)])) _
    refine XS.icmpNo X0.here hx rfl (hb hby d2_3) rfl (flt hlo).1 ?_
    show Steps p.tables e below (s₁.setTop (mkF m 6 #[.val (.int pv)] [])) _
    refine XS.iloadN X0.here hx rfl (hb hby d2_6) rfl ?_
    show Steps p.tables e below (s₁.setTop (mkF m 7 #[.val (.int pv)] [(.int pv)])) _
    refine st1 _ ?_
    show Steps p.tables e below (T1.setTop (mkF m 10 #[.val (.int pv)] [(.int (127 : Int32)), (.int pv)])) _
    refine XS.icmpNo X1.here hx rfl (hb hby d2_10) rfl (flt hhi).2.2.1 ?_
    show Steps p.tables e below (T1.setTop (mkF m 13 #[.val (.int pv)] [])) _
    refine st2 _ ?_
    show Steps p.tables e below (T2.setTop (mkF m 16 #[.val (.int pv)] [(.ref w_cache)])) _
    refine XS.iloadN X2.here hx rfl (hb hby d2_16) rfl ?_
    show Steps p.tables e below (T2.setTop (mkF m 17 #[.val (.int pv)] [(.int pv), (.ref w_cache)])) _
    refine XS.sipush X2.here hx rfl (hb hby d2_17) ?_
    show Steps p.tables e below (T2.setTop (mkF m 20 #[.val (.int pv)] [(.int (128 : Int32)), (.int pv), (.ref w_cache)])) _
    refine XS.iadd X2.here hx rfl (hb hby d2_20) rfl ?_
    show Steps p.tables e below (T2.setTop (mkF m 21 #[.val (.int pv)] [(.int (pv + (128 : Int32))), (.ref w_cache)])) _
    refine X2.aaload hx (j := (pv + (128 : Int32))) (v := (.ref bx)) (by rw [e2]; exact Ar3.1) (State.isArrayOf_alike hZ.alike Ar3.2.1) rfl Ar3.2.2 hin3 hat3 (g := (mkF m 21 #[.val (.int pv)] [(.int (pv + (128 : Int32))), (.ref w_cache)])) rfl rfl (hb hby d2_21) _ ?_
    show Steps p.tables e below (T2.setTop (mkF m 22 #[.val (.int pv)] [(.ref bx)])) _
    exact retOut X2 hx Bd.returns rfl (Or.inr (Or.inr (Or.inr (Or.inr ⟨rfl, rfl, rfl⟩)))) (hb hby d2_22) hr
  · have eF : (T2.setFrames fs).heap = h0 := e2
    exact ⟨N0, bx, rfl, by rw [eF]; exact ⟨O, (Keep.refl h0 []), Eb, Fb⟩⟩
set_option maxRecDepth 65536 in
set_option maxHeartbeats 40000000 in
theorem rm2_l (l : Launch) (Z : State) (a0 : Array Value) (hw : ∀ d ∈ tables_1, d.before a0 Z = true) (ws : List Jvm.Cond) (n0 : Nat) (h0 : Heap) (O : Old Z n0 h0) (w_cache : Addr) (W : OwW Z w_cache) (pv : Int32) (hlo : pv < (-128 : Int32)) :
    OwCon l (⟨"java/lang/Integer", "valueOf", "(I)Ljava/lang/Integer;"⟩ : MethodName) jdk_33_method_22_code 1 (some (.object "java/lang/Integer")) ws ({ frames := 3, cells := 1, slots := 1, locals := 38 } : Room) #[(.int pv)] Z h0 (OwP (fun v h => ∃ b : Addr, v = some (.ref b) ∧ Old Z n0 h ∧ Keep h0 h [] ∧ Exa Z h b "java/lang/Integer" ∧ Fld Z h b "java/lang/Integer" "value" "I" (.int pv)) n0) := by
  refine MetFree.of_bodySF (plainFor_of_name owpn2) hisR ?_
  intro p e s m args below meth c s₁ Bd hml0 hP hK
  obtain ⟨rfl, hZ, hh⟩ := hP
  have hx := Bd.exec
  have hby := Bd.bytes
  have hml : c.maxLocals = 1 := hml0
  have hown : s.vm.findClass "java/lang/Integer" = some m.cls := findClass_of_methodNamed Bd.named
  have hnm := (name_of_methodNamed Bd.named Bd.method).1
  have X0 : Stand p l e ({ frames := 3, cells := 1, slots := 1, locals := 38 } : Room) s m #[(.int pv)] below meth c s₁ [] 0 0 := Stand.of_body Bd
  have e0 : s₁.heap = h0 := by rw [← hh, Bd.state]; rfl
  have N0 := Fr.nil n0
  have WW := W
  obtain ⟨E_w_cache, S_Integer_IntegerCache_high, S_Integer_IntegerCache_cache, CaI, -⟩ := WW
  have ef : entryFrame m #[(.int pv)] 1 = mkF m 0 #[.val (.int pv)] [] := by first | rfl | (simp [entryFrame, mkF, argsToLocals, Value.category]; done)
  have pre0 : ∀ t, Steps p.tables e below (s₁.setTop (mkF m 0 #[.val (.int pv)] [])) t → Steps p.tables e below (s₁.setTop (entryFrame m #[(.int pv)] 1)) t := fun t k => castTop ef k
  obtain ⟨T1, h1, X1, e1, E1, A1, D1, -, st1⟩ := newO X0 hx hZ hown (hw _ (List.mem_of_getElem? (i := 64) rfl)) (hw _ (List.mem_of_getElem? (i := 65) rfl)) (hw _ (List.mem_of_getElem? (i := 9) rfl)) e0 (g := (mkF m 23 #[.val (.int pv)] [])) rfl (hb hby d2_23) (by decide) (by decide)
  obtain ⟨b1, g1⟩ : ∃ z, z = h0.size := ⟨_, rfl⟩
  rw [← g1] at A1 D1 st1
  have gx1 : n0 ≤ b1 := Nat.le_trans (Nat.le_trans (Nat.le_of_eq O.1.symm) O.2.1) (Nat.le_of_eq g1.symm)
  have O1 := O.ext E1
  have Fn1_value : Fld Z h1 b1 "java/lang/Integer" "value" "I" (.int (0 : Int32)) := D1 (Or.inr (hw _ (List.mem_of_getElem? (i := 48) rfl))) (ty := .int) (by decide)
  have sz1 : h0.size ≤ b1 := Nat.le_trans (Keep.refl h0 []).1 (Nat.le_of_eq g1.symm)
  have Kp1 : Keep h0 h1 [] := (Keep.refl h0 []).ext E1
  obtain ⟨_, _, ⟨T2, L2, k2, n2⟩, -, X2, ⟨Lc2, hQ2, l2, y2, z2⟩, st2⟩ := X1.specialBack hx (y := (⟨"java/lang/Integer", "<init>", "(I)V"⟩ : MethodName)) rfl hown (mvT hZ (hw _ (List.mem_of_getElem? (i := 66) rfl))) (mvT hZ (hw _ (List.mem_of_getElem? (i := 67) rfl))) (mvT hZ (hw _ (List.mem_of_getElem? (i := 68) rfl))) (by decide) (backOf (W := 1) (rm10 l Z a0 hw [] n0 h1 O1 w_cache W b1 pv A1 Fn1_value gx1) hZ (hw _ (List.mem_of_getElem? (i := 68) rfl)) (hw _ (List.mem_of_getElem? (i := 9) rfl)) (by decide) (by decide)) (g := (mkF m 28 #[.val (.int pv)] [(.int pv), (.ref b1), (.ref b1)])) rfl (by rw [hml]; rfl) (Steps.refl _) (a := b1) (argsL := [(.int pv)]) (rest := [(.ref b1)]) (lenOf owpd1 rfl) rfl (by show 2 * 0 + _ ≤ _; exact Nat.le_of_eq rfl) (hb hby d2_28) (fun _ _ => ⟨rfl, e1, (by decide : 1 + 0 ≤ _), (by decide : 1 + 0 ≤ _)⟩)
  dsimp only [Pt.U, Pt.locs, Pt.cells, Pt.slots] at X2 l2 y2 z2 st2 hQ2
  subst l2 y2 z2
  obtain ⟨Nq2, hP2⟩ := hQ2
  have N2 := Fr.app N0 Nq2
  have ee2 : T2.heap = T2.heap := rfl
  obtain ⟨rfl, O2, Kc2, Ec2, Fc2⟩ := hP2
  have Kp2 : Keep h0 T2.heap [] := Kp1.trans Kc2 (allS (P := fun x => x ∈ ([] : List Addr) ∨ h0.size ≤ x) (Or.inr sz1) (all0 (P := fun x => x ∈ ([] : List Addr) ∨ h0.size ≤ x)))
  obtain ⟨fs, hr, hrun, hended, hW, hsame⟩ := X2.leave (v := some (.ref b1)) (fun h => by rw [Bd.returns] at h; cases h)
  refine ⟨_, _, pre0 _ ?_, hrun, hended, _, _, rfl, ?_, ⟨_, rfl⟩, hW, hsame.mono (by decide) (by decide)⟩
  · show Steps p.tables e below (s₁.setTop (mkF m 0 #[.val (.int pv)] [])) _
    refine XS.iloadN X0.here hx rfl (hb hby d2_0) rfl ?_
    show Steps p.tables e below (s₁.setTop (mkF m 1 #[.val (.int pv)] [(.int pv)])) _
    refine XS.bipush X0.here hx rfl (hb hby d2_1) ?_
    show Steps p.tables e below (s₁.setTop (mkF m 3 #[.val (.int pv)] [(.int (-128 : Int32)), (.int pv)])) _
    refine XS.icmpYes X0.here hx rfl (pc0 := 3) (pc' := 23) rfl (hb hby d2_3) rfl (tlt hlo).1 (by decide) (by decide) ?_
    show Steps p.tables e below (s₁.setTop (mkF m 23 #[.val (.int pv)] [])) _
    refine st1 _ ?_
    show Steps p.tables e below (T1.setTop (mkF m 26 #[.val (.int pv)] [(.ref b1)])) _
    refine XS.dup X1.here hx rfl (hb hby d2_26) rfl rfl ?_
    show Steps p.tables e below (T1.setTop (mkF m 27 #[.val (.int pv)] [(.ref b1), (.ref b1)])) _
    refine XS.iloadN X1.here hx rfl (hb hby d2_27) rfl ?_
    show Steps p.tables e below (T1.setTop (mkF m 28 #[.val (.int pv)] [(.int pv), (.ref b1), (.ref b1)])) _
    refine st2.trans ?_
    show Steps p.tables e below (T2.setTop (mkF m 31 #[.val (.int pv)] [(.ref b1)])) _
    exact retOut X2 hx Bd.returns rfl (Or.inr (Or.inr (Or.inr (Or.inr ⟨rfl, rfl, rfl⟩)))) (hb hby d2_31) hr
  · have eF : (T2.setFrames fs).heap = T2.heap := ee2
    exact ⟨N2, b1, rfl, by rw [eF]; exact ⟨O2, Kp2, Ec2, Fc2⟩⟩
set_option maxRecDepth 65536 in
set_option maxHeartbeats 40000000 in
theorem rm2_h (l : Launch) (Z : State) (a0 : Array Value) (hw : ∀ d ∈ tables_1, d.before a0 Z = true) (ws : List Jvm.Cond) (n0 : Nat) (h0 : Heap) (O : Old Z n0 h0) (w_cache : Addr) (W : OwW Z w_cache) (pv : Int32) (hlo : ¬ pv < (-128 : Int32)) (hhi : (127 : Int32) < pv) :
    OwCon l (⟨"java/lang/Integer", "valueOf", "(I)Ljava/lang/Integer;"⟩ : MethodName) jdk_33_method_22_code 1 (some (.object "java/lang/Integer")) ws ({ frames := 3, cells := 1, slots := 1, locals := 38 } : Room) #[(.int pv)] Z h0 (OwP (fun v h => ∃ b : Addr, v = some (.ref b) ∧ Old Z n0 h ∧ Keep h0 h [] ∧ Exa Z h b "java/lang/Integer" ∧ Fld Z h b "java/lang/Integer" "value" "I" (.int pv)) n0) := by
  refine MetFree.of_bodySF (plainFor_of_name owpn2) hisR ?_
  intro p e s m args below meth c s₁ Bd hml0 hP hK
  obtain ⟨rfl, hZ, hh⟩ := hP
  have hx := Bd.exec
  have hby := Bd.bytes
  have hml : c.maxLocals = 1 := hml0
  have hown : s.vm.findClass "java/lang/Integer" = some m.cls := findClass_of_methodNamed Bd.named
  have hnm := (name_of_methodNamed Bd.named Bd.method).1
  have X0 : Stand p l e ({ frames := 3, cells := 1, slots := 1, locals := 38 } : Room) s m #[(.int pv)] below meth c s₁ [] 0 0 := Stand.of_body Bd
  have e0 : s₁.heap = h0 := by rw [← hh, Bd.state]; rfl
  have N0 := Fr.nil n0
  have WW := W
  obtain ⟨E_w_cache, S_Integer_IntegerCache_high, S_Integer_IntegerCache_cache, CaI, -⟩ := WW
  have ef : entryFrame m #[(.int pv)] 1 = mkF m 0 #[.val (.int pv)] [] := by first | rfl | (simp [entryFrame, mkF, argsToLocals, Value.category]; done)
  have pre0 : ∀ t, Steps p.tables e below (s₁.setTop (mkF m 0 #[.val (.int pv)] [])) t → Steps p.tables e below (s₁.setTop (entryFrame m #[(.int pv)] 1)) t := fun t k => castTop ef k
  obtain ⟨T1, X1, e1, st1⟩ := getS2 X0 hx hZ hown (host := "") (Or.inl (hw _ (List.mem_of_getElem? (i := 11) rfl))) Via.refl e0 (S_Integer_IntegerCache_high.ext O.2) (g := (mkF m 7 #[.val (.int pv)] [(.int pv)])) rfl (hb hby d2_7)
  obtain ⟨T2, h2, X2, e2, E2, A2, D2, -, st2⟩ := newO X1 hx hZ hown (hw _ (List.mem_of_getElem? (i := 64) rfl)) (hw _ (List.mem_of_getElem? (i := 65) rfl)) (hw _ (List.mem_of_getElem? (i := 9) rfl)) e1 (g := (mkF m 23 #[.val (.int pv)] [])) rfl (hb hby d2_23) (by decide) (by decide)
  obtain ⟨b2, g2⟩ : ∃ z, z = h0.size := ⟨_, rfl⟩
  rw [← g2] at A2 D2 st2
  have gx2 : n0 ≤ b2 := Nat.le_trans (Nat.le_trans (Nat.le_of_eq O.1.symm) O.2.1) (Nat.le_of_eq g2.symm)
  have O2 := O.ext E2
  have Fn2_value : Fld Z h2 b2 "java/lang/Integer" "value" "I" (.int (0 : Int32)) := D2 (Or.inr (hw _ (List.mem_of_getElem? (i := 48) rfl))) (ty := .int) (by decide)
  have sz2 : h0.size ≤ b2 := Nat.le_trans (Keep.refl h0 []).1 (Nat.le_of_eq g2.symm)
  have Kp2 : Keep h0 h2 [] := (Keep.refl h0 []).ext E2
  obtain ⟨_, _, ⟨T3, L3, k3, n3⟩, -, X3, ⟨Lc3, hQ3, l3, y3, z3⟩, st3⟩ := X2.specialBack hx (y := (⟨"java/lang/Integer", "<init>", "(I)V"⟩ : MethodName)) rfl hown (mvT hZ (hw _ (List.mem_of_getElem? (i := 66) rfl))) (mvT hZ (hw _ (List.mem_of_getElem? (i := 67) rfl))) (mvT hZ (hw _ (List.mem_of_getElem? (i := 68) rfl))) (by decide) (backOf (W := 1) (rm10 l Z a0 hw [] n0 h2 O2 w_cache W b2 pv A2 Fn2_value gx2) hZ (hw _ (List.mem_of_getElem? (i := 68) rfl)) (hw _ (List.mem_of_getElem? (i := 9) rfl)) (by decide) (by decide)) (g := (mkF m 28 #[.val (.int pv)] [(.int pv), (.ref b2), (.ref b2)])) rfl (by rw [hml]; rfl) (Steps.refl _) (a := b2) (argsL := [(.int pv)]) (rest := [(.ref b2)]) (lenOf owpd1 rfl) rfl (by show 2 * 0 + _ ≤ _; exact Nat.le_of_eq rfl) (hb hby d2_28) (fun _ _ => ⟨rfl, e2, (by decide : 1 + 0 ≤ _), (by decide : 1 + 0 ≤ _)⟩)
  dsimp only [Pt.U, Pt.locs, Pt.cells, Pt.slots] at X3 l3 y3 z3 st3 hQ3
  subst l3 y3 z3
  obtain ⟨Nq3, hP3⟩ := hQ3
  have N3 := Fr.app N0 Nq3
  have ee3 : T3.heap = T3.heap := rfl
  obtain ⟨rfl, O3, Kc3, Ec3, Fc3⟩ := hP3
  have Kp3 : Keep h0 T3.heap [] := Kp2.trans Kc3 (allS (P := fun x => x ∈ ([] : List Addr) ∨ h0.size ≤ x) (Or.inr sz2) (all0 (P := fun x => x ∈ ([] : List Addr) ∨ h0.size ≤ x)))
  obtain ⟨fs, hr, hrun, hended, hW, hsame⟩ := X3.leave (v := some (.ref b2)) (fun h => by rw [Bd.returns] at h; cases h)
  refine ⟨_, _, pre0 _ ?_, hrun, hended, _, _, rfl, ?_, ⟨_, rfl⟩, hW, hsame.mono (by decide) (by decide)⟩
  · show Steps p.tables e below (s₁.setTop (mkF m 0 #[.val (.int pv)] [])) _
    refine XS.iloadN X0.here hx rfl (hb hby d2_0) rfl ?_
    show Steps p.tables e below (s₁.setTop (mkF m 1 #[.val (.int pv)] [(.int pv)])) _
    refine XS.bipush X0.here hx rfl (hb hby d2_1) ?_
    show Steps p.tables e below (s₁.setTop (mkF m 3 #[.val (.int pv)] [(.int (-128 : Int32)), (.int pv)])) _
    refine XS.icmpNo X0.here hx rfl (hb hby d2_3) rfl (flt hlo).1 ?_
    show Steps p.tables e below (s₁.setTop (mkF m 6 #[.val (.int pv)] [])) _
    refine XS.iloadN X0.here hx rfl (hb hby d2_6) rfl ?_
    show Steps p.tables e below (s₁.setTop (mkF m 7 #[.val (.int pv)] [(.int pv)])) _
    refine st1 _ ?_
    show Steps p.tables e below (T1.setTop (mkF m 10 #[.val (.int pv)] [(.int (127 : Int32)), (.int pv)])) _
    refine XS.icmpYes X1.here hx rfl (pc0 := 10) (pc' := 23) rfl (hb hby d2_10) rfl (tlt hhi).2.2.1 (by decide) (by decide) ?_
    show Steps p.tables e below (T1.setTop (mkF m 23 #[.val (.int pv)] [])) _
    refine st2 _ ?_
    show Steps p.tables e below (T2.setTop (mkF m 26 #[.val (.int pv)] [(.ref b2)])) _
    refine XS.dup X2.here hx rfl (hb hby d2_26) rfl rfl ?_
    show Steps p.tables e below (T2.setTop (mkF m 27 #[.val (.int pv)] [(.ref b2), (.ref b2)])) _
    refine XS.iloadN X2.here hx rfl (hb hby d2_27) rfl ?_
    show Steps p.tables e below (T2.setTop (mkF m 28 #[.val (.int pv)] [(.int pv), (.ref b2), (.ref b2)])) _
    refine st3.trans ?_
    show Steps p.tables e below (T3.setTop (mkF m 31 #[.val (.int pv)] [(.ref b2)])) _
    exact retOut X3 hx Bd.returns rfl (Or.inr (Or.inr (Or.inr (Or.inr ⟨rfl, rfl, rfl⟩)))) (hb hby d2_31) hr
  · have eF : (T3.setFrames fs).heap = T3.heap := ee3
    exact ⟨N3, b2, rfl, by rw [eF]; exact ⟨O3, Kp3, Ec3, Fc3⟩⟩
theorem rm2 (l : Launch) (Z : State) (a0 : Array Value) (hw : ∀ d ∈ tables_1, d.before a0 Z = true) (ws : List Jvm.Cond) (n0 : Nat) (h0 : Heap) (O : Old Z n0 h0) (w_cache : Addr) (W : OwW Z w_cache) (pv : Int32) :
    OwCon l (⟨"java/lang/Integer", "valueOf", "(I)Ljava/lang/Integer;"⟩ : MethodName) jdk_33_method_22_code 1 (some (.object "java/lang/Integer")) ws ({ frames := 3, cells := 1, slots := 1, locals := 38 } : Room) #[(.int pv)] Z h0 (OwP (fun v h => ∃ b : Addr, v = some (.ref b) ∧ Old Z n0 h ∧ Keep h0 h [] ∧ Exa Z h b "java/lang/Integer" ∧ Fld Z h b "java/lang/Integer" "value" "I" (.int pv)) n0) := by
  by_cases hlo : pv < (-128 : Int32)
  · exact rm2_l l Z a0 hw ws n0 h0 O w_cache W pv hlo
  by_cases hhi : (127 : Int32) < pv
  · exact rm2_h l Z a0 hw ws n0 h0 O w_cache W pv hlo hhi
  exact rm2_c l Z a0 hw ws n0 h0 O w_cache W pv hlo hhi
set_option maxRecDepth 65536 in
set_option maxHeartbeats 40000000 in
theorem rm1 (l : Launch) (Z : State) (a0 : Array Value) (hw : ∀ d ∈ tables_1, d.before a0 Z = true) (ws : List Jvm.Cond) (n0 : Nat) (h0 : Heap) (O : Old Z n0 h0) (w_cache : Addr) (W : OwW Z w_cache) (p0 : Int32) (p1 : Int32) :
    OwCon l (⟨"java/lang/Math", "max", "(II)I"⟩ : MethodName) jdk_29_method_65_code 2 (some .int) ws ({ frames := 0, cells := 0, slots := 0, locals := 0 } : Room) #[(.int p0), (.int p1)] Z h0 (OwQ (some (.int (if p0 < p1 then p1 else p0))) h0 n0) := by
  refine MetFree.of_bodySF (Jvm.Free.JP.mathPlain rfl (by decide +kernel)) hisR ?_
  intro p e s m args below meth c s₁ Bd hml0 hP hK
  obtain ⟨rfl, hZ, hh⟩ := hP
  have hx := Bd.exec
  have hby := Bd.bytes
  have hml : c.maxLocals = 2 := hml0
  have hown : s.vm.findClass "java/lang/Math" = some m.cls := findClass_of_methodNamed Bd.named
  have hnm := (name_of_methodNamed Bd.named Bd.method).1
  have X0 : Stand p l e ({ frames := 0, cells := 0, slots := 0, locals := 0 } : Room) s m #[(.int p0), (.int p1)] below meth c s₁ [] 0 0 := Stand.of_body Bd
  have e0 : s₁.heap = h0 := by rw [← hh, Bd.state]; rfl
  have N0 := Fr.nil n0
  have WW := W
  obtain ⟨E_w_cache, S_Integer_IntegerCache_high, S_Integer_IntegerCache_cache, CaI, -⟩ := WW
  have ef : entryFrame m #[(.int p0), (.int p1)] 2 = mkF m 0 #[.val (.int p0), .val (.int p1)] [] := by first | rfl | (simp [entryFrame, mkF, argsToLocals, Value.category]; done)
  have pre0 : ∀ t, Steps p.tables e below (s₁.setTop (mkF m 0 #[.val (.int p0), .val (.int p1)] [])) t → Steps p.tables e below (s₁.setTop (entryFrame m #[(.int p0), (.int p1)] 2)) t := fun t k => castTop ef k
  have sg1 : ∀ target, Steps p.tables e below (s₁.setTop (mkF m 10 #[.val (.int p0), .val (.int p1)] [(.int (if p0 < p1 then p1 else p0))])) target → Steps p.tables e below (s₁.setTop (mkF m 2 #[.val (.int p0), .val (.int p1)] [(.int p1), (.int p0)])) target := by
    intro target kt
    by_cases hd1_0 : p0 < p1
    · show Steps p.tables e below (s₁.setTop (mkF m 2 #[.val (.int p0), .val (.int p1)] [(.int p1), (.int p0)])) _
      refine XS.icmpYes X0.here hx rfl (pc0 := 2) (pc' := 9) rfl (hb hby d1_2) rfl (tlt hd1_0).1 (by decide) (by decide) ?_
      show Steps p.tables e below (s₁.setTop (mkF m 9 #[.val (.int p0), .val (.int p1)] [])) _
      refine XS.iloadN X0.here hx rfl (hb hby d1_9) rfl ?_
      show Steps p.tables e below (s₁.setTop (mkF m 10 #[.val (.int p0), .val (.int p1)] [(.int p1)])) _
      exact (by simpa only [if_pos hd1_0] using kt)
    · show Steps p.tables e below (s₁.setTop (mkF m 2 #[.val (.int p0), .val (.int p1)] [(.int p1), (.int p0)])) _
      refine XS.icmpNo X0.here hx rfl (hb hby d1_2) rfl (flt hd1_0).1 ?_
      show Steps p.tables e below (s₁.setTop (mkF m 5 #[.val (.int p0), .val (.int p1)] [])) _
      refine XS.iloadN X0.here hx rfl (hb hby d1_5) rfl ?_
      show Steps p.tables e below (s₁.setTop (mkF m 6 #[.val (.int p0), .val (.int p1)] [(.int p0)])) _
      refine XS.goto X0.here hx rfl (pc0 := 6) (pc' := 10) rfl (hb hby d1_6) (by decide) (by decide) ?_
      show Steps p.tables e below (s₁.setTop (mkF m 10 #[.val (.int p0), .val (.int p1)] [(.int p0)])) _
      exact (by simpa only [if_neg hd1_0] using kt)
  obtain ⟨fs, hr, hrun, hended, hW, hsame⟩ := X0.leave (v := some (.int (if p0 < p1 then p1 else p0))) (fun h => by rw [Bd.returns] at h; cases h)
  refine ⟨_, _, pre0 _ ?_, hrun, hended, _, _, rfl, ?_, ⟨_, rfl⟩, hW, hsame.mono (by decide) (by decide)⟩
  · show Steps p.tables e below (s₁.setTop (mkF m 0 #[.val (.int p0), .val (.int p1)] [])) _
    refine XS.iloadN X0.here hx rfl (hb hby d1_0) rfl ?_
    show Steps p.tables e below (s₁.setTop (mkF m 1 #[.val (.int p0), .val (.int p1)] [(.int p0)])) _
    refine XS.iloadN X0.here hx rfl (hb hby d1_1) rfl ?_
    show Steps p.tables e below (s₁.setTop (mkF m 2 #[.val (.int p0), .val (.int p1)] [(.int p1), (.int p0)])) _
    refine sg1 _ ?_
    show Steps p.tables e below (s₁.setTop (mkF m 10 #[.val (.int p0), .val (.int p1)] [(.int (if p0 < p1 then p1 else p0))])) _
    exact retI X0 hx Bd.returns (hb hby d1_10) hr
  · have eF : (s₁.setFrames fs).heap = h0 := e0
    exact ⟨rfl, N0, eF⟩
set_option maxRecDepth 65536 in
set_option maxHeartbeats 40000000 in
theorem rm4 (l : Launch) (Z : State) (a0 : Array Value) (hw : ∀ d ∈ tables_1, d.before a0 Z = true) (ws : List Jvm.Cond) (n0 : Nat) (h0 : Heap) (O : Old Z n0 h0) (w_cache : Addr) (W : OwW Z w_cache) (a : Addr) :
    OwCon l (⟨"java/lang/Record", "<init>", "()V"⟩ : MethodName) jdk_30_method_1_code 1 none ws ({ frames := 1, cells := 0, slots := 0, locals := 12 } : Room) #[(.ref a)] Z h0 (OwQ none h0 n0) := by
  refine MetFree.of_bodySF (plainFor_of_name owpn4) hisR ?_
  intro p e s m args below meth c s₁ Bd hml0 hP hK
  obtain ⟨rfl, hZ, hh⟩ := hP
  have hx := Bd.exec
  have hby := Bd.bytes
  have hml : c.maxLocals = 1 := hml0
  have hown : s.vm.findClass "java/lang/Record" = some m.cls := findClass_of_methodNamed Bd.named
  have hnm := (name_of_methodNamed Bd.named Bd.method).1
  have X0 : Stand p l e ({ frames := 1, cells := 0, slots := 0, locals := 12 } : Room) s m #[(.ref a)] below meth c s₁ [] 0 0 := Stand.of_body Bd
  have e0 : s₁.heap = h0 := by rw [← hh, Bd.state]; rfl
  have N0 := Fr.nil n0
  have WW := W
  obtain ⟨E_w_cache, S_Integer_IntegerCache_high, S_Integer_IntegerCache_cache, CaI, -⟩ := WW
  have ef : entryFrame m #[(.ref a)] 1 = mkF m 0 #[.val (.ref a)] [] := by first | rfl | (simp [entryFrame, mkF, argsToLocals, Value.category]; done)
  have pre0 : ∀ t, Steps p.tables e below (s₁.setTop (mkF m 0 #[.val (.ref a)] [])) t → Steps p.tables e below (s₁.setTop (entryFrame m #[(.ref a)] 1)) t := fun t k => castTop ef k
  obtain ⟨T1, X1, e1, st1⟩ := initO X0 hx hZ hown (hw _ (List.mem_of_getElem? (i := 22) rfl)) (hw _ (List.mem_of_getElem? (i := 23) rfl)) (hw _ (List.mem_of_getElem? (i := 24) rfl)) e0 (g := (mkF m 1 #[.val (.ref a)] [(.ref a)])) rfl (by rw [hml]; rfl) rfl (hb hby d4_1) (by decide) (W := 0) (by show 2 * 0 + _ ≤ _; exact Nat.le_of_eq rfl) (by decide)
  obtain ⟨fs, hr, hrun, hended, hW, hsame⟩ := X1.leave (v := none) (fun _ => rfl)
  refine ⟨_, _, pre0 _ ?_, hrun, hended, _, _, rfl, ?_, ⟨_, rfl⟩, hW, hsame.mono (by decide) (by decide)⟩
  · show Steps p.tables e below (s₁.setTop (mkF m 0 #[.val (.ref a)] [])) _
    refine XS.aloadN X0.here hx rfl (hb hby d4_0) rfl rfl ?_
    show Steps p.tables e below (s₁.setTop (mkF m 1 #[.val (.ref a)] [(.ref a)])) _
    refine st1 _ ?_
    show Steps p.tables e below (T1.setTop (mkF m 4 #[.val (.ref a)] [])) _
    exact X1.returnOut hx Bd.returns (hb hby d4_4) hr
  · have eF : (T1.setFrames fs).heap = h0 := e1
    exact ⟨rfl, N0, eF⟩
set_option maxRecDepth 65536 in
set_option maxHeartbeats 40000000 in
theorem rm8 (l : Launch) (Z : State) (a0 : Array Value) (hw : ∀ d ∈ tables_1, d.before a0 Z = true) (ws : List Jvm.Cond) (n0 : Nat) (h0 : Heap) (O : Old Z n0 h0) (w_cache : Addr) (W : OwW Z w_cache) (a : Addr) (k : Int32) (Fa : Fld Z h0 a "java/lang/Integer" "value" "I" (.int k)) :
    OwCon l (⟨"java/lang/Integer", "intValue", "()I"⟩ : MethodName) jdk_33_method_27_code 1 (some .int) ws ({ frames := 0, cells := 0, slots := 0, locals := 0 } : Room) #[(.ref a)] Z h0 (OwQ (some (.int k)) h0 n0) := by
  refine MetFree.of_bodySF (plainFor_of_name owpn8) hisR ?_
  intro p e s m args below meth c s₁ Bd hml0 hP hK
  obtain ⟨rfl, hZ, hh⟩ := hP
  have hx := Bd.exec
  have hby := Bd.bytes
  have hml : c.maxLocals = 1 := hml0
  have hown : s.vm.findClass "java/lang/Integer" = some m.cls := findClass_of_methodNamed Bd.named
  have hnm := (name_of_methodNamed Bd.named Bd.method).1
  have X0 : Stand p l e ({ frames := 0, cells := 0, slots := 0, locals := 0 } : Room) s m #[(.ref a)] below meth c s₁ [] 0 0 := Stand.of_body Bd
  have e0 : s₁.heap = h0 := by rw [← hh, Bd.state]; rfl
  have N0 := Fr.nil n0
  have WW := W
  obtain ⟨E_w_cache, S_Integer_IntegerCache_high, S_Integer_IntegerCache_cache, CaI, -⟩ := WW
  have ef : entryFrame m #[(.ref a)] 1 = mkF m 0 #[.val (.ref a)] [] := by first | rfl | (simp [entryFrame, mkF, argsToLocals, Value.category]; done)
  have pre0 : ∀ t, Steps p.tables e below (s₁.setTop (mkF m 0 #[.val (.ref a)] [])) t → Steps p.tables e below (s₁.setTop (entryFrame m #[(.ref a)] 1)) t := fun t k => castTop ef k
  obtain ⟨T1, X1, e1, st1⟩ := getF X0 hx hZ hown (host := "") (Or.inl (hw _ (List.mem_of_getElem? (i := 47) rfl))) Via.refl e0 Fa (g := (mkF m 1 #[.val (.ref a)] [(.ref a)])) rfl rfl (hb hby d8_1)
  obtain ⟨fs, hr, hrun, hended, hW, hsame⟩ := X1.leave (v := some (.int k)) (fun h => by rw [Bd.returns] at h; cases h)
  refine ⟨_, _, pre0 _ ?_, hrun, hended, _, _, rfl, ?_, ⟨_, rfl⟩, hW, hsame.mono (by decide) (by decide)⟩
  · show Steps p.tables e below (s₁.setTop (mkF m 0 #[.val (.ref a)] [])) _
    refine XS.aloadN X0.here hx rfl (hb hby d8_0) rfl rfl ?_
    show Steps p.tables e below (s₁.setTop (mkF m 1 #[.val (.ref a)] [(.ref a)])) _
    refine st1 _ ?_
    show Steps p.tables e below (T1.setTop (mkF m 4 #[.val (.ref a)] [(.int k)])) _
    exact retI X1 hx Bd.returns (hb hby d8_4) hr
  · have eF : (T1.setFrames fs).heap = h0 := e1
    exact ⟨rfl, N0, eF⟩
set_option maxRecDepth 65536 in
set_option maxHeartbeats 40000000 in
theorem rm7 (l : Launch) (Z : State) (a0 : Array Value) (hw : ∀ d ∈ tables_1, d.before a0 Z = true) (ws : List Jvm.Cond) (n0 : Nat) (h0 : Heap) (O : Old Z n0 h0) (w_cache : Addr) (W : OwW Z w_cache) (a b : Addr) :
    OwCon l (⟨"com/example/vestwright/vestwright/plan/Plan", "require", "(Ljava/lang/Object;Ljava/lang/String;)Ljava/lang/Object;"⟩ : MethodName) prog_27_method_8_code 2 (some (.object "java/lang/Object")) ws ({ frames := 0, cells := 0, slots := 0, locals := 0 } : Room) #[(.ref a), (.ref b)] Z h0 (OwQ (some (.ref a)) h0 n0) := by
  refine MetFree.of_bodySF (plainFor_of_name owpn7) hisR ?_
  intro p e s m args below meth c s₁ Bd hml0 hP hK
  obtain ⟨rfl, hZ, hh⟩ := hP
  have hx := Bd.exec
  have hby := Bd.bytes
  have hml : c.maxLocals = 2 := hml0
  have hown : s.vm.findClass "com/example/vestwright/vestwright/plan/Plan" = some m.cls := findClass_of_methodNamed Bd.named
  have hnm := (name_of_methodNamed Bd.named Bd.method).1
  have X0 : Stand p l e ({ frames := 0, cells := 0, slots := 0, locals := 0 } : Room) s m #[(.ref a), (.ref b)] below meth c s₁ [] 0 0 := Stand.of_body Bd
  have e0 : s₁.heap = h0 := by rw [← hh, Bd.state]; rfl
  have N0 := Fr.nil n0
  have WW := W
  obtain ⟨E_w_cache, S_Integer_IntegerCache_high, S_Integer_IntegerCache_cache, CaI, -⟩ := WW
  have ef : entryFrame m #[(.ref a), (.ref b)] 2 = mkF m 0 #[.val (.ref a), .val (.ref b)] [] := by first | rfl | (simp [entryFrame, mkF, argsToLocals, Value.category]; done)
  have pre0 : ∀ t, Steps p.tables e below (s₁.setTop (mkF m 0 #[.val (.ref a), .val (.ref b)] [])) t → Steps p.tables e below (s₁.setTop (entryFrame m #[(.ref a), (.ref b)] 2)) t := fun t k => castTop ef k
  obtain ⟨fs, hr, hrun, hended, hW, hsame⟩ := X0.leave (v := some (.ref a)) (fun h => by rw [Bd.returns] at h; cases h)
  refine ⟨_, _, pre0 _ ?_, hrun, hended, _, _, rfl, ?_, ⟨_, rfl⟩, hW, hsame.mono (by decide) (by decide)⟩
  · show Steps p.tables e below (s₁.setTop (mkF m 0 #[.val (.ref a), .val (.ref b)] [])) _
    refine XS.aloadN X0.here hx rfl (hb hby d7_0) rfl rfl ?_
    show Steps p.tables e below (s₁.setTop (mkF m 1 #[.val (.ref a), .val (.ref b)] [(.ref a)])) _
    refine XS.ifnonnullYes X0.here hx rfl (pc0 := 1) (pc' := 18) rfl (hb hby d7_1) rfl (by decide) (by decide) ?_
    show Steps p.tables e below (s₁.setTop (mkF m 18 #[.val (.ref a), .val (.ref b)] [])) _
    refine XS.aloadN X0.here hx rfl (hb hby d7_18) rfl rfl ?_
    show Steps p.tables e below (s₁.setTop (mkF m 19 #[.val (.ref a), .val (.ref b)] [(.ref a)])) _
    exact retOut X0 hx Bd.returns rfl (Or.inr (Or.inr (Or.inr (Or.inr ⟨rfl, rfl, rfl⟩)))) (hb hby d7_19) hr
  · have eF : (s₁.setFrames fs).heap = h0 := e0
    exact ⟨rfl, N0, eF⟩
set_option maxRecDepth 65536 in
set_option maxHeartbeats 40000000 in
theorem rm6 (l : Launch) (Z : State) (a0 : Array Value) (hw : ∀ d ∈ tables_1, d.before a0 Z = true) (ws : List Jvm.Cond) (n0 : Nat) (h0 : Heap) (O : Old Z n0 h0) (w_cache : Addr) (W : OwW Z w_cache) (a : Addr) (k : Int32) (b : Addr) (v : Int32) (Ea : Exa Z h0 a "java/lang/Integer") (Fa : Fld Z h0 a "java/lang/Integer" "value" "I" (.int v)) (hv : ¬ v < k) :
    OwCon l (⟨"com/example/vestwright/vestwright/plan/Plan", "requireAtLeast", "(Ljava/lang/Integer;ILjava/lang/String;)V"⟩ : MethodName) prog_27_method_12_code 3 none ws ({ frames := 1, cells := 0, slots := 0, locals := 13 } : Room) #[(.ref a), (.int k), (.ref b)] Z h0 (OwQ none h0 n0) := by
  refine MetFree.of_bodySF (plainFor_of_name owpn6) hisR ?_
  intro p e s m args below meth c s₁ Bd hml0 hP hK
  obtain ⟨rfl, hZ, hh⟩ := hP
  have hx := Bd.exec
  have hby := Bd.bytes
  have hml : c.maxLocals = 3 := hml0
  have hown : s.vm.findClass "com/example/vestwright/vestwright/plan/Plan" = some m.cls := findClass_of_methodNamed Bd.named
  have hnm := (name_of_methodNamed Bd.named Bd.method).1
  have X0 : Stand p l e ({ frames := 1, cells := 0, slots := 0, locals := 13 } : Room) s m #[(.ref a), (.int k), (.ref b)] below meth c s₁ [] 0 0 := Stand.of_body Bd
  have e0 : s₁.heap = h0 := by rw [← hh, Bd.state]; rfl
  have N0 := Fr.nil n0
  have WW := W
  obtain ⟨E_w_cache, S_Integer_IntegerCache_high, S_Integer_IntegerCache_cache, CaI, -⟩ := WW
  have ef : entryFrame m #[(.ref a), (.int k), (.ref b)] 3 = mkF m 0 #[.val (.ref a), .val (.int k), .val (.ref b)] [] := by first | rfl | (simp [entryFrame, mkF, argsToLocals, Value.category]; done)
  have pre0 : ∀ t, Steps p.tables e below (s₁.setTop (mkF m 0 #[.val (.ref a), .val (.int k), .val (.ref b)] [])) t → Steps p.tables e below (s₁.setTop (entryFrame m #[(.ref a), (.int k), (.ref b)] 3)) t := fun t k => castTop ef k
  obtain ⟨_, _, ⟨T1, L1, k1, n1⟩, -, X1, ⟨Lc1, hQ1, l1, y1, z1⟩, st1⟩ := Jvm.LawKit.callS X0 hx (y := (⟨"com/example/vestwright/vestwright/plan/Plan", "require", "(Ljava/lang/Object;Ljava/lang/String;)Ljava/lang/Object;"⟩ : MethodName)) hown (mvT hZ (hw _ (List.mem_of_getElem? (i := 37) rfl))) (mvT hZ (hw _ (List.mem_of_getElem? (i := 38) rfl))) (mvT hZ (hw _ (List.mem_of_getElem? (i := 35) rfl))) (mvT hZ (hw _ (List.mem_of_getElem? (i := 39) rfl))) (by decide) (backOf (W := 0) (rm7 l Z a0 hw [] n0 h0 O w_cache W a b) hZ (hw _ (List.mem_of_getElem? (i := 39) rfl)) (hw _ (List.mem_of_getElem? (i := 35) rfl)) (by decide) (by decide)) (g := (mkF m 2 #[.val (.ref a), .val (.int k), .val (.ref b)] [(.ref b), (.ref a)])) rfl (by rw [hml]; rfl) (argsL := [(.ref a), (.ref b)]) (rest := []) (lenOf owpd2 rfl) rfl (by show 2 * 0 + _ ≤ _; exact Nat.le_of_eq rfl) (hb hby d6_2) (fun _ _ => ⟨rfl, e0, (by decide : 0 + 0 ≤ _), (by decide : 0 + 0 ≤ _)⟩)
  dsimp only [Pt.U, Pt.locs, Pt.cells, Pt.slots] at X1 l1 y1 z1 st1 hQ1
  subst l1 y1 z1
  obtain ⟨rfl, Nq1, e1⟩ := hQ1
  have N1 := Fr.app N0 Nq1
  obtain ⟨T2, X2, e2, st2⟩ := castY X1 hx hZ hown (hw _ (List.mem_of_getElem? (i := 40) rfl)) e1 (Ins.self Ea) (g := (mkF m 5 #[.val (.ref a), .val (.int k), .val (.ref b)] [(.ref a)])) rfl rfl (hb hby d6_5)
  obtain ⟨cq3, kq3, q3a, q3b, q3c⟩ := isOf hZ e2 Ea
  obtain ⟨_, _, ⟨T3, L3, k3, n3⟩, -, X3, ⟨Lc3, hQ3, l3, y3, z3⟩, st3⟩ := X2.virtualBack hx (y := (⟨"java/lang/Integer", "intValue", "()I"⟩ : MethodName)) (z := (⟨"java/lang/Integer", "intValue", "()I"⟩ : MethodName)) hown (mvT hZ (hw _ (List.mem_of_getElem? (i := 42) rfl))) (mvT hZ (hw _ (List.mem_of_getElem? (i := 43) rfl))) (notFace_of_selects (args := #[]) (mvT hZ (hw _ (List.mem_of_getElem? (i := 45) rfl)))) (mvT hZ (hw _ (List.mem_of_getElem? (i := 45) rfl))) (mvT hZ (hw _ (List.mem_of_getElem? (i := 44) rfl))) (by decide) (backOf (W := 0) (rm8 l Z a0 hw [] n0 h0 O w_cache W a v Fa) hZ (hw _ (List.mem_of_getElem? (i := 46) rfl)) (hw _ (List.mem_of_getElem? (i := 9) rfl)) (by decide) (by decide)) q3a q3c (g := (mkF m 8 #[.val (.ref a), .val (.int k), .val (.ref b)] [(.ref a)])) rfl (by rw [hml]; rfl) (Steps.refl _) (argsL := []) (rest := []) (lenOf owpd3 rfl) rfl (by show 2 * 0 + _ ≤ _; exact Nat.le_of_eq rfl) (hb hby d6_8) (fun _ _ => ⟨rfl, e2, (by decide : 0 + 0 ≤ _), (by decide : 0 + 0 ≤ _)⟩)
  dsimp only [Pt.U, Pt.locs, Pt.cells, Pt.slots] at X3 l3 y3 z3 st3 hQ3
  subst l3 y3 z3
  obtain ⟨rfl, Nq3, e3⟩ := hQ3
  have N3 := Fr.app N1 Nq3
  obtain ⟨fs, hr, hrun, hended, hW, hsame⟩ := X3.leave (v := none) (fun _ => rfl)
  refine ⟨_, _, pre0 _ ?_, hrun, hended, _, _, rfl, ?_, ⟨_, rfl⟩, hW, hsame.mono (by decide) (by decide)⟩
  · show Steps p.tables e below (s₁.setTop (mkF m 0 #[.val (.ref a), .val (.int k), .val (.ref b)] [])) _
    refine XS.aloadN X0.here hx rfl (hb hby d6_0) rfl rfl ?_
    show Steps p.tables e below (s₁.setTop (mkF m 1 #[.val (.ref a), .val (.int k), .val (.ref b)] [(.ref a)])) _
    refine XS.aloadN X0.here hx rfl (hb hby d6_1) rfl rfl ?_
    show Steps p.tables e below (s₁.setTop (mkF m 2 #[.val (.ref a), .val (.int k), .val (.ref b)] [(.ref b), (.ref a)])) _
    refine st1 _ ?_
    show Steps p.tables e below (T1.setTop (mkF m 5 #[.val (.ref a), .val (.int k), .val (.ref b)] [(.ref a)])) _
    refine st2 _ ?_
    show Steps p.tables e below (T2.setTop (mkF m 8 #[.val (.ref a), .val (.int k), .val (.ref b)] [(.ref a)])) _
    refine st3.trans ?_
    show Steps p.tables e below (T3.setTop (mkF m 11 #[.val (.ref a), .val (.int k), .val (.ref b)] [(.int v)])) _
    refine XS.iloadN X3.here hx rfl (hb hby d6_11) rfl ?_
    show Steps p.tables e below (T3.setTop (mkF m 12 #[.val (.ref a), .val (.int k), .val (.ref b)] [(.int k), (.int v)])) _
    refine XS.icmpYes X3.here hx rfl (pc0 := 12) (pc' := 30) rfl (hb hby d6_12) rfl (flt hv).2.1 (by decide) (by decide) ?_
    show Steps p.tables e below (T3.setTop (mkF m 30 #[.val (.ref a), .val (.int k), .val (.ref b)] [])) _
    exact X3.returnOut hx Bd.returns (hb hby d6_30) hr
  · have eF : (T3.setFrames fs).heap = h0 := e3
    exact ⟨rfl, N3, eF⟩
set_option maxRecDepth 65536 in
set_option maxHeartbeats 40000000 in
theorem rm3 (l : Launch) (Z : State) (a0 : Array Value) (hw : ∀ d ∈ tables_1, d.before a0 Z = true) (ws : List Jvm.Cond) (n0 : Nat) (h0 : Heap) (O : Old Z n0 h0) (w_cache : Addr) (W : OwW Z w_cache) (a b1 b2 b3 : Addr) (v1 v2 v3 : Int32) (Ea : Exa Z h0 a "com/example/vestwright/vestwright/plan/Plan$ServiceBeforeBreaks") (F1 : Fld Z h0 a "com/example/vestwright/vestwright/plan/Plan$ServiceBeforeBreaks" "vestedYears" "Ljava/lang/Integer;" .null) (F2 : Fld Z h0 a "com/example/vestwright/vestwright/plan/Plan$ServiceBeforeBreaks" "breaksFewerThanGreaterOf" "Ljava/lang/Integer;" .null) (F3 : Fld Z h0 a "com/example/vestwright/vestwright/plan/Plan$ServiceBeforeBreaks" "yearsAfter" "Ljava/lang/Integer;" .null) (ga : n0 ≤ a) (Ex1 : Exa Z h0 b1 "java/lang/Integer") (Ex2 : Exa Z h0 b2 "java/lang/Integer") (Ex3 : Exa Z h0 b3 "java/lang/Integer") (Vx1 : Fld Z h0 b1 "java/lang/Integer" "value" "I" (.int v1)) (Vx2 : Fld Z h0 b2 "java/lang/Integer" "value" "I" (.int v2)) (Vx3 : Fld Z h0 b3 "java/lang/Integer" "value" "I" (.int v3)) (hv1 : ¬ v1 < (1 : Int32)) (hv2 : ¬ v2 < (1 : Int32)) (hv3 : ¬ v3 < (0 : Int32)) :
    OwConW l (⟨"com/example/vestwright/vestwright/plan/Plan$ServiceBeforeBreaks", "<init>", "(Ljava/lang/Integer;Ljava/lang/Integer;Ljava/lang/Integer;)V"⟩ : MethodName) prog_57_method_1_code 4 none ws ({ frames := 2, cells := 6, slots := 216, locals := 27 } : Room) #[(.ref a), (.ref b1), (.ref b2), (.ref b3)] Z h0 (OwP (fun v h => v = none ∧ Old Z n0 h ∧ Keep h0 h [a] ∧ Exa Z h a "com/example/vestwright/vestwright/plan/Plan$ServiceBeforeBreaks" ∧ Fld Z h a "com/example/vestwright/vestwright/plan/Plan$ServiceBeforeBreaks" "vestedYears" "Ljava/lang/Integer;" (.ref b1) ∧ Fld Z h a "com/example/vestwright/vestwright/plan/Plan$ServiceBeforeBreaks" "breaksFewerThanGreaterOf" "Ljava/lang/Integer;" (.ref b2) ∧ Fld Z h a "com/example/vestwright/vestwright/plan/Plan$ServiceBeforeBreaks" "yearsAfter" "Ljava/lang/Integer;" (.ref b3)) n0) := by
  refine MetFree.of_bodySF (plainFor_of_name owpn3) hisR ?_
  intro p e s m args below meth c s₁ Bd hml0 hP hK
  obtain ⟨rfl, hZ, hh⟩ := hP
  have hx := Bd.exec
  have hby := Bd.bytes
  have hml : c.maxLocals = 4 := hml0
  have hown : s.vm.findClass "com/example/vestwright/vestwright/plan/Plan$ServiceBeforeBreaks" = some m.cls := findClass_of_methodNamed Bd.named
  have hnm := (name_of_methodNamed Bd.named Bd.method).1
  have X0 : Stand p l e ({ frames := 2, cells := 6, slots := 216, locals := 27 } : Room) s m #[(.ref a), (.ref b1), (.ref b2), (.ref b3)] below meth c s₁ [] 0 0 := Stand.of_body Bd
  have e0 : s₁.heap = h0 := by rw [← hh, Bd.state]; rfl
  have N0 := Fr.nil n0
  have WW := W
  obtain ⟨E_w_cache, S_Integer_IntegerCache_high, S_Integer_IntegerCache_cache, CaI, -⟩ := WW
  have ef : entryFrame m #[(.ref a), (.ref b1), (.ref b2), (.ref b3)] 4 = mkF m 0 #[.val (.ref a), .val (.ref b1), .val (.ref b2), .val (.ref b3)] [] := by first | rfl | (simp [entryFrame, mkF, argsToLocals, Value.category]; done)
  have pre0 : ∀ t, Steps p.tables e below (s₁.setTop (mkF m 0 #[.val (.ref a), .val (.ref b1), .val (.ref b2), .val (.ref b3)] [])) t → Steps p.tables e below (s₁.setTop (entryFrame m #[(.ref a), (.ref b1), (.ref b2), (.ref b3)] 4)) t := fun t k => castTop ef k
  have Y0 : Stand p l e ({ frames := 2, cells := 6, slots := 216, locals := 27 } : Room) (s.setVm s.vm) m #[(.ref a), (.ref b1), (.ref b2), (.ref b3)] below meth c s₁ [] 0 0 := X0
  have hS0 : s.Since s.vm s.heap.size := (State.WarmedH.refl s).since _
  have hk0 : s.heap.size ≤ h0.size := Nat.le_of_eq (by rw [← hh])
  have wS : ∀ a ∈ Bundle.stringAtoms, a.before a0 Z = true := fun a ha => hw a (own_strin a ha)
  obtain ⟨_, _, ⟨T1, L1, k1, n1⟩, -, X1, ⟨Lc1, hQ1, l1, y1, z1⟩, st1⟩ := Y0.specialBack hx (y := (⟨"java/lang/Record", "<init>", "()V"⟩ : MethodName)) rfl hown (mvT hZ (hw _ (List.mem_of_getElem? (i := 17) rfl))) (mvT hZ (hw _ (List.mem_of_getElem? (i := 18) rfl))) (mvT hZ (hw _ (List.mem_of_getElem? (i := 21) rfl))) (by decide) (backOf (W := 0) (rm4 l Z a0 hw [] n0 h0 O w_cache W a) hZ (hw _ (List.mem_of_getElem? (i := 21) rfl)) (hw _ (List.mem_of_getElem? (i := 20) rfl)) (by decide) (by decide)) (g := (mkF m 1 #[.val (.ref a), .val (.ref b1), .val (.ref b2), .val (.ref b3)] [(.ref a)])) rfl (by rw [hml]; rfl) (Steps.refl _) (a := a) (argsL := []) (rest := []) (lenOf owpd0 rfl) rfl (by show 2 * 0 + _ ≤ _; exact Nat.le_of_eq rfl) (hb hby d3_1) (fun _ _ => ⟨rfl, e0, (by decide : 0 + 0 ≤ _), (by decide : 0 + 0 ≤ _)⟩)
  dsimp only [Pt.U, Pt.locs, Pt.cells, Pt.slots] at X1 l1 y1 z1 st1 hQ1
  subst l1 y1 z1
  obtain ⟨rfl, Nq1, e1⟩ := hQ1
  have N1 := Fr.app N0 Nq1
  obtain ⟨a2, T2, h2, k2, X2, e2, E2, hS2, hk2, hZ2, hown2, st2⟩ := ldcS X1 hx hZ hown (hw _ (List.mem_of_getElem? (i := 25) rfl)) wS e1 hS0 hk0 (g := (mkF m 6 #[.val (.ref a), .val (.ref b1), .val (.ref b2), .val (.ref b3)] [(.int (1 : Int32)), (.ref b1)])) rfl (hb hby d3_6) (n := 48) (by decide +kernel) (by decide) (by decide) (by decide)
  have O2 := O.ext E2
  have Kp2 : Keep h0 h2 [a] := (Keep.refl h0 [a]).ext E2
  have fa3 := (Ex1.ext E2)
  have fa4 := (Vx1.ext E2)
  obtain ⟨_, _, ⟨T5, L5, k5, n5⟩, -, X5, ⟨Lc5, hQ5, l5, y5, z5⟩, st5⟩ := callSN X2 hx (y := (⟨"com/example/vestwright/vestwright/plan/Plan", "requireAtLeast", "(Ljava/lang/Integer;ILjava/lang/String;)V"⟩ : MethodName)) hown2 (Cond.methodLinkNest_wide hZ2 (hw _ (List.mem_of_getElem? (i := 33) rfl)) :) (mvT hZ2 (hw _ (List.mem_of_getElem? (i := 34) rfl))) (mvT hZ2 (hw _ (List.mem_of_getElem? (i := 35) rfl))) (mvT hZ2 (hw _ (List.mem_of_getElem? (i := 36) rfl))) (by decide) (backOf (W := 0) (rm6 l Z a0 hw [] n0 h2 O2 w_cache W b1 (1 : Int32) a2 v1 fa3 fa4 hv1) hZ2 (hw _ (List.mem_of_getElem? (i := 36) rfl)) (hw _ (List.mem_of_getElem? (i := 35) rfl)) (by decide) (by decide)) (g := (mkF m 8 #[.val (.ref a), .val (.ref b1), .val (.ref b2), .val (.ref b3)] [(.ref a2), (.int (1 : Int32)), (.ref b1)])) rfl (by rw [hml]; rfl) (argsL := [(.ref b1), (.int (1 : Int32)), (.ref a2)]) (rest := []) (lenOf owpd4 rfl) rfl (by show 2 * 0 + _ ≤ _; exact Nat.le_of_eq rfl) (hb hby d3_8) (fun _ _ => ⟨rfl, e2, (by decide : 2 + 0 ≤ _), (by decide : 52 + 0 ≤ _)⟩)
  dsimp only [Pt.U, Pt.locs, Pt.cells, Pt.slots] at X5 l5 y5 z5 st5 hQ5
  subst l5 y5 z5
  obtain ⟨rfl, Nq5, e5⟩ := hQ5
  have N5 := Fr.app N1 Nq5
  obtain ⟨a6, T6, h6, k6, X6, e6, E6, hS6, hk6, hZ6, hown6, st6⟩ := ldcS X5 hx hZ2 hown2 (hw _ (List.mem_of_getElem? (i := 49) rfl)) wS e5 hS2 hk2 (g := (mkF m 13 #[.val (.ref a), .val (.ref b1), .val (.ref b2), .val (.ref b3)] [(.int (1 : Int32)), (.ref b2)])) rfl (hb hby d3_13) (n := 112) (by decide +kernel) (by decide) (by decide) (by decide)
  have O6 := O2.ext E6
  have Kp6 : Keep h0 h6 [a] := Kp2.ext E6
  have fa7 := ((Ex2.ext E2).ext E6)
  have fa8 := ((Vx2.ext E2).ext E6)
  obtain ⟨_, _, ⟨T9, L9, k9, n9⟩, -, X9, ⟨Lc9, hQ9, l9, y9, z9⟩, st9⟩ := callSN X6 hx (y := (⟨"com/example/vestwright/vestwright/plan/Plan", "requireAtLeast", "(Ljava/lang/Integer;ILjava/lang/String;)V"⟩ : MethodName)) hown6 (Cond.methodLinkNest_wide hZ6 (hw _ (List.mem_of_getElem? (i := 33) rfl)) :) (mvT hZ6 (hw _ (List.mem_of_getElem? (i := 34) rfl))) (mvT hZ6 (hw _ (List.mem_of_getElem? (i := 35) rfl))) (mvT hZ6 (hw _ (List.mem_of_getElem? (i := 36) rfl))) (by decide) (backOf (W := 0) (rm6 l Z a0 hw [] n0 h6 O6 w_cache W b2 (1 : Int32) a6 v2 fa7 fa8 hv2) hZ6 (hw _ (List.mem_of_getElem? (i := 36) rfl)) (hw _ (List.mem_of_getElem? (i := 35) rfl)) (by decide) (by decide)) (g := (mkF m 15 #[.val (.ref a), .val (.ref b1), .val (.ref b2), .val (.ref b3)] [(.ref a6), (.int (1 : Int32)), (.ref b2)])) rfl (by rw [hml]; rfl) (argsL := [(.ref b2), (.int (1 : Int32)), (.ref a6)]) (rest := []) (lenOf owpd4 rfl) rfl (by show 2 * 0 + _ ≤ _; exact Nat.le_of_eq rfl) (hb hby d3_15) (fun _ _ => ⟨rfl, e6, (by decide : 4 + 0 ≤ _), (by decide : 168 + 0 ≤ _)⟩)
  dsimp only [Pt.U, Pt.locs, Pt.cells, Pt.slots] at X9 l9 y9 z9 st9 hQ9
  subst l9 y9 z9
  obtain ⟨rfl, Nq9, e9⟩ := hQ9
  have N9 := Fr.app N5 Nq9
  obtain ⟨a10, T10, h10, k10, X10, e10, E10, hS10, hk10, hZ10, hown10, st10⟩ := ldcS X9 hx hZ6 hown6 (hw _ (List.mem_of_getElem? (i := 50) rfl)) wS e9 hS6 hk6 (g := (mkF m 20 #[.val (.ref a), .val (.ref b1), .val (.ref b2), .val (.ref b3)] [(.int (0 : Int32)), (.ref b3)])) rfl (hb hby d3_20) (n := 44) (by decide +kernel) (by decide) (by decide) (by decide)
  have O10 := O6.ext E10
  have Kp10 : Keep h0 h10 [a] := Kp6.ext E10
  have fa11 := (((Ex3.ext E2).ext E6).ext E10)
  have fa12 := (((Vx3.ext E2).ext E6).ext E10)
  obtain ⟨_, _, ⟨T13, L13, k13, n13⟩, -, X13, ⟨Lc13, hQ13, l13, y13, z13⟩, st13⟩ := callSN X10 hx (y := (⟨"com/example/vestwright/vestwright/plan/Plan", "requireAtLeast", "(Ljava/lang/Integer;ILjava/lang/String;)V"⟩ : MethodName)) hown10 (Cond.methodLinkNest_wide hZ10 (hw _ (List.mem_of_getElem? (i := 33) rfl)) :) (mvT hZ10 (hw _ (List.mem_of_getElem? (i := 34) rfl))) (mvT hZ10 (hw _ (List.mem_of_getElem? (i := 35) rfl))) (mvT hZ10 (hw _ (List.mem_of_getElem? (i := 36) rfl))) (by decide) (backOf (W := 0) (rm6 l Z a0 hw [] n0 h10 O10 w_cache W b3 (0 : Int32) a10 v3 fa11 fa12 hv3) hZ10 (hw _ (List.mem_of_getElem? (i := 36) rfl)) (hw _ (List.mem_of_getElem? (i := 35) rfl)) (by decide) (by decide)) (g := (mkF m 22 #[.val (.ref a), .val (.ref b1), .val (.ref b2), .val (.ref b3)] [(.ref a10), (.int (0 : Int32)), (.ref b3)])) rfl (by rw [hml]; rfl) (argsL := [(.ref b3), (.int (0 : Int32)), (.ref a10)]) (rest := []) (lenOf owpd4 rfl) rfl (by show 2 * 0 + _ ≤ _; exact Nat.le_of_eq rfl) (hb hby d3_22) (fun _ _ => ⟨rfl, e10, (by decide : 6 + 0 ≤ _), (by decide : 216 + 0 ≤ _)⟩)
  dsimp only [Pt.U, Pt.locs, Pt.cells, Pt.slots] at X13 l13 y13 z13 st13 hQ13
  subst l13 y13 z13
  obtain ⟨rfl, Nq13, e13⟩ := hQ13
  have N13 := Fr.app N9 Nq13
  have fa14 := (((F1.ext E2).ext E6).ext E10)
  have fa15 := (((Ea.ext E2).ext E6).ext E10)
  obtain ⟨T16, h16, X16, e16, W16, st16⟩ := putF X13 hx hZ10 hown10 (host := "") (Or.inl (hw _ (List.mem_of_getElem? (i := 51) rfl))) Via.refl e13 fa14 fa15 (Or.inr ⟨(hw _ (List.mem_of_getElem? (i := 52) rfl)), rfl, hnm⟩) (hw _ (List.mem_of_getElem? (i := 5) rfl)) (ty := (.object "java/lang/Integer")) (by decide) rfl rfl (g := (mkF m 27 #[.val (.ref a), .val (.ref b1), .val (.ref b2), .val (.ref b3)] [(.ref b1), (.ref a)])) rfl rfl (hb hby d3_27)
  have Fw16 := fa14.same W16
  have N16 := Fr.snoc X16 N13 ga
  have O16 := O10.wr W16 ga
  have hkk16 := Nat.le_trans hk10 (Nat.le_of_eq W16.size.symm)
  have Kp16 : Keep h0 h16 [a] := Kp10.wr W16 (Or.inl (List.mem_of_getElem? (i := 0) rfl))
  have fa17 := ((((F2.ext E2).ext E6).ext E10).other W16 (Or.inr (slot_ne (Or.inr (hw _ (List.mem_of_getElem? (i := 54) rfl))) (Or.inr (hw _ (List.mem_of_getElem? (i := 52) rfl))) (by decide) (t := (.object "java/lang/Integer")) (t' := (.object "java/lang/Integer")) (by decide) (by decide))))
  have fa18 := (fa15.wr W16)
  obtain ⟨T19, h19, X19, e19, W19, st19⟩ := putF X16 hx hZ10 hown10 (host := "") (Or.inl (hw _ (List.mem_of_getElem? (i := 53) rfl))) Via.refl e16 fa17 fa18 (Or.inr ⟨(hw _ (List.mem_of_getElem? (i := 54) rfl)), rfl, hnm⟩) (hw _ (List.mem_of_getElem? (i := 5) rfl)) (ty := (.object "java/lang/Integer")) (by decide) rfl rfl (g := (mkF m 32 #[.val (.ref a), .val (.ref b1), .val (.ref b2), .val (.ref b3)] [(.ref b2), (.ref a)])) rfl rfl (hb hby d3_32)
  have Fw19 := fa17.same W19
  have N19 := Fr.snoc X19 N16 ga
  have O19 := O16.wr W19 ga
  have hkk19 := Nat.le_trans hkk16 (Nat.le_of_eq W19.size.symm)
  have Kp19 : Keep h0 h19 [a] := Kp16.wr W19 (Or.inl (List.mem_of_getElem? (i := 0) rfl))
  have fa20 := (((((F3.ext E2).ext E6).ext E10).other W16 (Or.inr (slot_ne (Or.inr (hw _ (List.mem_of_getElem? (i := 56) rfl))) (Or.inr (hw _ (List.mem_of_getElem? (i := 52) rfl))) (by decide) (t := (.object "java/lang/Integer")) (t' := (.object "java/lang/Integer")) (by decide) (by decide)))).other W19 (Or.inr (slot_ne (Or.inr (hw _ (List.mem_of_getElem? (i := 56) rfl))) (Or.inr (hw _ (List.mem_of_getElem? (i := 54) rfl))) (by decide) (t := (.object "java/lang/Integer")) (t' := (.object "java/lang/Integer")) (by decide) (by decide))))
  have fa21 := (fa18.wr W19)
  obtain ⟨T22, h22, X22, e22, W22, st22⟩ := putF X19 hx hZ10 hown10 (host := "") (Or.inl (hw _ (List.mem_of_getElem? (i := 55) rfl))) Via.refl e19 fa20 fa21 (Or.inr ⟨(hw _ (List.mem_of_getElem? (i := 56) rfl)), rfl, hnm⟩) (hw _ (List.mem_of_getElem? (i := 5) rfl)) (ty := (.object "java/lang/Integer")) (by decide) rfl rfl (g := (mkF m 37 #[.val (.ref a), .val (.ref b1), .val (.ref b2), .val (.ref b3)] [(.ref b3), (.ref a)])) rfl rfl (hb hby d3_37)
  have Fw22 := fa20.same W22
  have N22 := Fr.snoc X22 N19 ga
  have O22 := O19.wr W22 ga
  have hkk22 := Nat.le_trans hkk19 (Nat.le_of_eq W22.size.symm)
  have Kp22 : Keep h0 h22 [a] := Kp19.wr W22 (Or.inl (List.mem_of_getElem? (i := 0) rfl))
  have fa23 := ((Fw16.other W19 (Or.inr (slot_ne (Or.inr (hw _ (List.mem_of_getElem? (i := 52) rfl))) (Or.inr (hw _ (List.mem_of_getElem? (i := 54) rfl))) (by decide) (t := (.object "java/lang/Integer")) (t' := (.object "java/lang/Integer")) (by decide) (by decide)))).other W22 (Or.inr (slot_ne (Or.inr (hw _ (List.mem_of_getElem? (i := 52) rfl))) (Or.inr (hw _ (List.mem_of_getElem? (i := 56) rfl))) (by decide) (t := (.object "java/lang/Integer")) (t' := (.object "java/lang/Integer")) (by decide) (by decide))))
  have fa24 := (Fw19.other W22 (Or.inr (slot_ne (Or.inr (hw _ (List.mem_of_getElem? (i := 54) rfl))) (Or.inr (hw _ (List.mem_of_getElem? (i := 56) rfl))) (by decide) (t := (.object "java/lang/Integer")) (t' := (.object "java/lang/Integer")) (by decide) (by decide))))
  have fa25 := (fa21.wr W22)
  obtain ⟨fs, hr, hrun, hended, hend⟩ := X22.leaveW hS10 (by rw [e22]; exact hkk22) (v := none) (fun _ => rfl)
  refine ⟨_, _, pre0 _ ?_, hrun, hended, _, _, rfl, ?_, hend.1, hend.2.1, hend.2.2.1, hend.2.2.2.mono (by decide) (by decide)⟩
  · show Steps p.tables e below (s₁.setTop (mkF m 0 #[.val (.ref a), .val (.ref b1), .val (.ref b2), .val (.ref b3)] [])) _
    refine XS.aloadN Y0.here hx rfl (hb hby d3_0) rfl rfl ?_
    show Steps p.tables e below (s₁.setTop (mkF m 1 #[.val (.ref a), .val (.ref b1), .val (.ref b2), .val (.ref b3)] [(.ref a)])) _
    refine st1.trans ?_
    show Steps p.tables e below (T1.setTop (mkF m 4 #[.val (.ref a), .val (.ref b1), .val (.ref b2), .val (.ref b3)] [])) _
    refine XS.aloadN X1.here hx rfl (hb hby d3_4) rfl rfl ?_
    show Steps p.tables e below (T1.setTop (mkF m 5 #[.val (.ref a), .val (.ref b1), .val (.ref b2), .val (.ref b3)] [(.ref b1)])) _
    refine XS.iconst X1.here hx rfl (hb hby d3_5) ?_
    show Steps p.tables e below (T1.setTop (mkF m 6 #[.val (.ref a), .val (.ref b1), .val (.ref b2), .val (.ref b3)] [(.int (1 : Int32)), (.ref b1)])) _
    refine st2 _ ?_
    show Steps p.tables e below (T2.setTop (mkF m 8 #[.val (.ref a), .val (.ref b1), .val (.ref b2), .val (.ref b3)] [(.ref a2), (.int (1 : Int32)), (.ref b1)])) _
    refine st5.trans ?_
    show Steps p.tables e below (T5.setTop (mkF m 11 #[.val (.ref a), .val (.ref b1), .val (.ref b2), .val (.ref b3)] [])) _
    refine XS.aloadN X5.here hx rfl (hb hby d3_11) rfl rfl ?_
    show Steps p.tables e below (T5.setTop (mkF m 12 #[.val (.ref a), .val (.ref b1), .val (.ref b2), .val (.ref b3)] [(.ref b2)])) _
    refine XS.iconst X5.here hx rfl (hb hby d3_12) ?_
    show Steps p.tables e below (T5.setTop (mkF m 13 #[.val (.ref a), .val (.ref b1), .val (.ref b2), .val (.ref b3)] [(.int (1 : Int32)), (.ref b2)])) _
    refine st6 _ ?_
    show Steps p.tables e below (T6.setTop (mkF m 15 #[.val (.ref a), .val (.ref b1), .val (.ref b2), .val (.ref b3)] [(.ref a6), (.int (1 : Int32)), (.ref b2)])) _
    refine st9.trans ?_
    show Steps p.tables e below (T9.setTop (mkF m 18 #[.val (.ref a), .val (.ref b1), .val (.ref b2), .val (.ref b3)] [])) _
    refine XS.aloadN X9.here hx rfl (hb hby d3_18) rfl rfl ?_
    show Steps p.tables e below (T9.setTop (mkF m 19 #[.val (.ref a), .val (.ref b1), .val (.ref b2), .val (.ref b3)] [(.ref b3)])) _
    refine XS.iconst X9.here hx rfl (hb hby d3_19) ?_
    show Steps p.tables e below (T9.setTop (mkF m 20 #[.val (.ref a), .val (.ref b1), .val (.ref b2), .val (.ref b3)] [(.int (0 : Int32)), (.ref b3)])) _
    refine st10 _ ?_
    show Steps p.tables e below (T10.setTop (mkF m 22 #[.val (.ref a), .val (.ref b1), .val (.ref b2), .val (.ref b3)] [(.ref a10), (.int (0 : Int32)), (.ref b3)])) _
    refine st13.trans ?_
    show Steps p.tables e below (T13.setTop (mkF m 25 #[.val (.ref a), .val (.ref b1), .val (.ref b2), .val (.ref b3)] [])) _
    refine XS.aloadN X13.here hx rfl (hb hby d3_25) rfl rfl ?_
    show Steps p.tables e below (T13.setTop (mkF m 26 #[.val (.ref a), .val (.ref b1), .val (.ref b2), .val (.ref b3)] [(.ref a)])) _
    refine XS.aloadN X13.here hx rfl (hb hby d3_26) rfl rfl ?_
    show Steps p.tables e below (T13.setTop (mkF m 27 #[.val (.ref a), .val (.ref b1), .val (.ref b2), .val (.ref b3)] [(.ref b1), (.ref a)])) _
    refine st16 _ ?_
    show Steps p.tables e below (T16.setTop (mkF m 30 #[.val (.ref a), .val (.ref b1), .val (.ref b2), .val (.ref b3)] [])) _
    refine XS.aloadN X16.here hx rfl (hb hby d3_30) rfl rfl ?_
    show Steps p.tables e below (T16.setTop (mkF m 31 #[.val (.ref a), .val (.ref b1), .val (.ref b2), .val (.ref b3)] [(.ref a)])) _
    refine XS.aloadN X16.here hx rfl (hb hby d3_31) rfl rfl ?_
    show Steps p.tables e below (T16.setTop (mkF m 32 #[.val (.ref a), .val (.ref b1), .val (.ref b2), .val (.ref b3)] [(.ref b2), (.ref a)])) _
    refine st19 _ ?_
    show Steps p.tables e below (T19.setTop (mkF m 35 #[.val (.ref a), .val (.ref b1), .val (.ref b2), .val (.ref b3)] [])) _
    refine XS.aloadN X19.here hx rfl (hb hby d3_35) rfl rfl ?_
    show Steps p.tables e below (T19.setTop (mkF m 36 #[.val (.ref a), .val (.ref b1), .val (.ref b2), .val (.ref b3)] [(.ref a)])) _
    refine XS.aloadN X19.here hx rfl (hb hby d3_36) rfl rfl ?_
    show Steps p.tables e below (T19.setTop (mkF m 37 #[.val (.ref a), .val (.ref b1), .val (.ref b2), .val (.ref b3)] [(.ref b3), (.ref a)])) _
    refine st22 _ ?_
    show Steps p.tables e below (T22.setTop (mkF m 40 #[.val (.ref a), .val (.ref b1), .val (.ref b2), .val (.ref b3)] [])) _
    exact X22.returnOut hx Bd.returns (hb hby d3_40) hr
  · have eF : (T22.setFrames fs).heap = h22 := e22
    exact ⟨N22, rfl, by rw [eF]; exact ⟨O22, Kp22, fa25, fa23, fa24, Fw22⟩⟩
set_option maxRecDepth 65536 in
set_option maxHeartbeats 40000000 in
theorem rm9_f (l : Launch) (Z : State) (a0 : Array Value) (hw : ∀ d ∈ tables_1, d.before a0 Z = true) (ws : List Jvm.Cond) (n0 : Nat) (h0 : Heap) (O : Old Z n0 h0) (w_cache : Addr) (W : OwW Z w_cache) (a b1 b2 b3 : Addr) (v1 v2 v3 y1 y2 y3 : Int32) (F1 : Fld Z h0 a "com/example/vestwright/vestwright/plan/Plan$ServiceBeforeBreaks" "vestedYears" "Ljava/lang/Integer;" (.ref b1)) (F2 : Fld Z h0 a "com/example/vestwright/vestwright/plan/Plan$ServiceBeforeBreaks" "breaksFewerThanGreaterOf" "Ljava/lang/Integer;" (.ref b2)) (F3 : Fld Z h0 a "com/example/vestwright/vestwright/plan/Plan$ServiceBeforeBreaks" "yearsAfter" "Ljava/lang/Integer;" (.ref b3)) (Ex1 : Exa Z h0 b1 "java/lang/Integer") (Ex2 : Exa Z h0 b2 "java/lang/Integer") (Ex3 : Exa Z h0 b3 "java/lang/Integer") (Vx1 : Fld Z h0 b1 "java/lang/Integer" "value" "I" (.int v1)) (Vx2 : Fld Z h0 b2 "java/lang/Integer" "value" "I" (.int v2)) (Vx3 : Fld Z h0 b3 "java/lang/Integer" "value" "I" (.int v3)) (h1 : ¬ y1 < v1) :
    OwCon l (⟨"com/example/vestwright/vestwright/plan/Plan$ServiceBeforeBreaks", "keeps", "(III)Z"⟩ : MethodName) prog_57_method_2_code 4 (some .boolean) ws ({ frames := 1, cells := 0, slots := 0, locals := 14 } : Room) #[(.ref a), (.int y1), (.int y2), (.int y3)] Z h0 (OwQ (some (.int (1 : Int32))) h0 n0) := by
  refine MetFree.of_bodySF (plainFor_of_name owpn9) hisR ?_
  intro p e s m args below meth c s₁ Bd hml0 hP hK
  obtain ⟨rfl, hZ, hh⟩ := hP
  have hx := Bd.exec
  have hby := Bd.bytes
  have hml : c.maxLocals = 4 := hml0
  have hown : s.vm.findClass "com/example/vestwright/vestwright/plan/Plan$ServiceBeforeBreaks" = some m.cls := findClass_of_methodNamed Bd.named
  have hnm := (name_of_methodNamed Bd.named Bd.method).1
  have X0 : Stand p l e ({ frames := 1, cells := 0, slots := 0, locals := 14 } : Room) s m #[(.ref a), (.int y1), (.int y2), (.int y3)] below meth c s₁ [] 0 0 := Stand.of_body Bd
  have e0 : s₁.heap = h0 := by rw [← hh, Bd.state]; rfl
  have N0 := Fr.nil n0
  have WW := W
  obtain ⟨E_w_cache, S_Integer_IntegerCache_high, S_Integer_IntegerCache_cache, CaI, -⟩ := WW
  have ef : entryFrame m #[(.ref a), (.int y1), (.int y2), (.int y3)] 4 = mkF m 0 #[.val (.ref a), .val (.int y1), .val (.int y2), .val (.int y3)] [] := by first | rfl | (simp [entryFrame, mkF, argsToLocals, Value.category]; done)
  have pre0 : ∀ t, Steps p.tables e below (s₁.setTop (mkF m 0 #[.val (.ref a), .val (.int y1), .val (.int y2), .val (.int y3)] [])) t → Steps p.tables e below (s₁.setTop (entryFrame m #[(.ref a), (.int y1), (.int y2), (.int y3)] 4)) t := fun t k => castTop ef k
  obtain ⟨T1, X1, e1, st1⟩ := getF X0 hx hZ hown (host := "") (Or.inl (hw _ (List.mem_of_getElem? (i := 51) rfl))) Via.refl e0 F1 (g := (mkF m 2 #[.val (.ref a), .val (.int y1), .val (.int y2), .val (.int y3)] [(.ref a), (.int y1)])) rfl rfl (hb hby d9_2)
  obtain ⟨cq2, kq2, q2a, q2b, q2c⟩ := isOf hZ e1 Ex1
  obtain ⟨_, _, ⟨T2, L2, k2, n2⟩, -, X2, ⟨Lc2, hQ2, l2, y2, z2⟩, st2⟩ := X1.virtualBack hx (y := (⟨"java/lang/Integer", "intValue", "()I"⟩ : MethodName)) (z := (⟨"java/lang/Integer", "intValue", "()I"⟩ : MethodName)) hown (mvT hZ (hw _ (List.mem_of_getElem? (i := 62) rfl))) (mvT hZ (hw _ (List.mem_of_getElem? (i := 43) rfl))) (notFace_of_selects (args := #[]) (mvT hZ (hw _ (List.mem_of_getElem? (i := 45) rfl)))) (mvT hZ (hw _ (List.mem_of_getElem? (i := 45) rfl))) (mvT hZ (hw _ (List.mem_of_getElem? (i := 44) rfl))) (by decide) (backOf (W := 1) (rm8 l Z a0 hw [] n0 h0 O w_cache W b1 v1 Vx1) hZ (hw _ (List.mem_of_getElem? (i := 46) rfl)) (hw _ (List.mem_of_getElem? (i := 9) rfl)) (by decide) (by decide)) q2a q2c (g := (mkF m 5 #[.val (.ref a), .val (.int y1), .val (.int y2), .val (.int y3)] [(.ref b1), (.int y1)])) rfl (by rw [hml]; rfl) (Steps.refl _) (argsL := []) (rest := [(.int y1)]) (lenOf owpd3 rfl) rfl (by show 2 * 0 + _ ≤ _; exact Nat.le_of_eq rfl) (hb hby d9_5) (fun _ _ => ⟨rfl, e1, (by decide : 0 + 0 ≤ _), (by decide : 0 + 0 ≤ _)⟩)
  dsimp only [Pt.U, Pt.locs, Pt.cells, Pt.slots] at X2 l2 y2 z2 st2 hQ2
  subst l2 y2 z2
  obtain ⟨rfl, Nq2, e2⟩ := hQ2
  have N2 := Fr.app N0 Nq2
  obtain ⟨fs, hr, hrun, hended, hW, hsame⟩ := X2.leave (v := some (.int (1 : Int32))) (fun h => by rw [Bd.returns] at h; cases h)
  refine ⟨_, _, pre0 _ ?_, hrun, hended, _, _, rfl, ?_, ⟨_, rfl⟩, hW, hsame.mono (by decide) (by decide)⟩
  · show Steps p.tables e below (s₁.setTop (mkF m 0 #[.val (.ref a), .val (.int y1), .val (.int y2), .val (.int y3)] [])) _
    refine XS.iloadN X0.here hx rfl (hb hby d9_0) rfl ?_
    show Steps p.tables e below (s₁.setTop (mkF m 1 #[.val (.ref a), .val (.int y1), .val (.int y2), .val (.int y3)] [(.int y1)])) _
    refine XS.aloadN X0.here hx rfl (hb hby d9_1) rfl rfl ?_
    show Steps p.tables e below (s₁.setTop (mkF m 2 #[.val (.ref a), .val (.int y1), .val (.int y2), .val (.int y3)] [(.ref a), (.int y1)])) _
    refine st1 _ ?_
    show Steps p.tables e below (T1.setTop (mkF m 5 #[.val (.ref a), .val (.int y1), .val (.int y2), .val (.int y3)] [(.ref b1), (.int y1)])) _
    refine st2.trans ?_
    show Steps p.tables e below (T2.setTop (mkF m 8 #[.val (.ref a), .val (.int y1), .val (.int y2), .val (.int y3)] [(.int v1), (.int y1)])) _
    refine XS.icmpNo X2.here hx rfl (hb hby d9_8) rfl (flt h1).1 ?_
    show Steps p.tables e below (T2.setTop (mkF m 11 #[.val (.ref a), .val (.int y1), .val (.int y2), .val (.int y3)] [])) _
    refine XS.iconst X2.here hx rfl (hb hby d9_11) ?_
    show Steps p.tables e below (T2.setTop (mkF m 12 #[.val (.ref a), .val (.int y1), .val (.int y2), .val (.int y3)] [(.int (1 : Int32))])) _
    exact retN X2 hx (t := .boolean) Bd.returns (by simp) (hb hby d9_12) hr
  · have eF : (T2.setFrames fs).heap = h0 := e2
    exact ⟨rfl, N2, eF⟩
set_option maxRecDepth 65536 in
set_option maxHeartbeats 40000000 in
theorem rm9_tf (l : Launch) (Z : State) (a0 : Array Value) (hw : ∀ d ∈ tables_1, d.before a0 Z = true) (ws : List Jvm.Cond) (n0 : Nat) (h0 : Heap) (O : Old Z n0 h0) (w_cache : Addr) (W : OwW Z w_cache) (a b1 b2 b3 : Addr) (v1 v2 v3 y1 y2 y3 : Int32) (F1 : Fld Z h0 a "com/example/vestwright/vestwright/plan/Plan$ServiceBeforeBreaks" "vestedYears" "Ljava/lang/Integer;" (.ref b1)) (F2 : Fld Z h0 a "com/example/vestwright/vestwright/plan/Plan$ServiceBeforeBreaks" "breaksFewerThanGreaterOf" "Ljava/lang/Integer;" (.ref b2)) (F3 : Fld Z h0 a "com/example/vestwright/vestwright/plan/Plan$ServiceBeforeBreaks" "yearsAfter" "Ljava/lang/Integer;" (.ref b3)) (Ex1 : Exa Z h0 b1 "java/lang/Integer") (Ex2 : Exa Z h0 b2 "java/lang/Integer") (Ex3 : Exa Z h0 b3 "java/lang/Integer") (Vx1 : Fld Z h0 b1 "java/lang/Integer" "value" "I" (.int v1)) (Vx2 : Fld Z h0 b2 "java/lang/Integer" "value" "I" (.int v2)) (Vx3 : Fld Z h0 b3 "java/lang/Integer" "value" "I" (.int v3)) (h1 : y1 < v1) (h2 : ¬ y2 < (if v2 < y1 then y1 else v2)) :
    OwCon l (⟨"com/example/vestwright/vestwright/plan/Plan$ServiceBeforeBreaks", "keeps", "(III)Z"⟩ : MethodName) prog_57_method_2_code 4 (some .boolean) ws ({ frames := 1, cells := 0, slots := 0, locals := 14 } : Room) #[(.ref a), (.int y1), (.int y2), (.int y3)] Z h0 (OwQ (some (.int (0 : Int32))) h0 n0) := by
  refine MetFree.of_bodySF (plainFor_of_name owpn9) hisR ?_
  intro p e s m args below meth c s₁ Bd hml0 hP hK
  obtain ⟨rfl, hZ, hh⟩ := hP
  have hx := Bd.exec
  have hby := Bd.bytes
  have hml : c.maxLocals = 4 := hml0
  have hown : s.vm.findClass "com/example/vestwright/vestwright/plan/Plan$ServiceBeforeBreaks" = some m.cls := findClass_of_methodNamed Bd.named
  have hnm := (name_of_methodNamed Bd.named Bd.method).1
  have X0 : Stand p l e ({ frames := 1, cells := 0, slots := 0, locals := 14 } : Room) s m #[(.ref a), (.int y1), (.int y2), (.int y3)] below meth c s₁ [] 0 0 := Stand.of_body Bd
  have e0 : s₁.heap = h0 := by rw [← hh, Bd.state]; rfl
  have N0 := Fr.nil n0
  have WW := W
  obtain ⟨E_w_cache, S_Integer_IntegerCache_high, S_Integer_IntegerCache_cache, CaI, -⟩ := WW
  have ef : entryFrame m #[(.ref a), (.int y1), (.int y2), (.int y3)] 4 = mkF m 0 #[.val (.ref a), .val (.int y1), .val (.int y2), .val (.int y3)] [] := by first | rfl | (simp [entryFrame, mkF, argsToLocals, Value.category]; done)
  have pre0 : ∀ t, Steps p.tables e below (s₁.setTop (mkF m 0 #[.val (.ref a), .val (.int y1), .val (.int y2), .val (.int y3)] [])) t → Steps p.tables e below (s₁.setTop (entryFrame m #[(.ref a), (.int y1), (.int y2), (.int y3)] 4)) t := fun t k => castTop ef k
  obtain ⟨T1, X1, e1, st1⟩ := getF X0 hx hZ hown (host := "") (Or.inl (hw _ (List.mem_of_getElem? (i := 51) rfl))) Via.refl e0 F1 (g := (mkF m 2 #[.val (.ref a), .val (.int y1), .val (.int y2), .val (.int y3)] [(.ref a), (.int y1)])) rfl rfl (hb hby d9_2)
  obtain ⟨cq2, kq2, q2a, q2b, q2c⟩ := isOf hZ e1 Ex1
  obtain ⟨_, _, ⟨T2, L2, k2, n2⟩, -, X2, ⟨Lc2, hQ2, l2, y2, z2⟩, st2⟩ := X1.virtualBack hx (y := (⟨"java/lang/Integer", "intValue", "()I"⟩ : MethodName)) (z := (⟨"java/lang/Integer", "intValue", "()I"⟩ : MethodName)) hown (mvT hZ (hw _ (List.mem_of_getElem? (i := 62) rfl))) (mvT hZ (hw _ (List.mem_of_getElem? (i := 43) rfl))) (notFace_of_selects (args := #[]) (mvT hZ (hw _ (List.mem_of_getElem? (i := 45) rfl)))) (mvT hZ (hw _ (List.mem_of_getElem? (i := 45) rfl))) (mvT hZ (hw _ (List.mem_of_getElem? (i := 44) rfl))) (by decide) (backOf (W := 1) (rm8 l Z a0 hw [] n0 h0 O w_cache W b1 v1 Vx1) hZ (hw _ (List.mem_of_getElem? (i := 46) rfl)) (hw _ (List.mem_of_getElem? (i := 9) rfl)) (by decide) (by decide)) q2a q2c (g := (mkF m 5 #[.val (.ref a), .val (.int y1), .val (.int y2), .val (.int y3)] [(.ref b1), (.int y1)])) rfl (by rw [hml]; rfl) (Steps.refl _) (argsL := []) (rest := [(.int y1)]) (lenOf owpd3 rfl) rfl (by show 2 * 0 + _ ≤ _; exact Nat.le_of_eq rfl) (hb hby d9_5) (fun _ _ => ⟨rfl, e1, (by decide : 0 + 0 ≤ _), (by decide : 0 + 0 ≤ _)⟩)
  dsimp only [Pt.U, Pt.locs, Pt.cells, Pt.slots] at X2 l2 y2 z2 st2 hQ2
  subst l2 y2 z2
  obtain ⟨rfl, Nq2, e2⟩ := hQ2
  have N2 := Fr.app N0 Nq2
  obtain ⟨T3, X3, e3, st3⟩ := getF X2 hx hZ hown (host := "") (Or.inl (hw _ (List.mem_of_getElem? (i := 53) rfl))) Via.refl e2 F2 (g := (mkF m 15 #[.val (.ref a), .val (.int y1), .val (.int y2), .val (.int y3)] [(.ref a), (.int y2)])) rfl rfl (hb hby d9_15)
  obtain ⟨cq4, kq4, q4a, q4b, q4c⟩ := isOf hZ e3 Ex2
  obtain ⟨_, _, ⟨T4, L4, k4, n4⟩, -, X4, ⟨Lc4, hQ4, l4, y4, z4⟩, st4⟩ := X3.virtualBack hx (y := (⟨"java/lang/Integer", "intValue", "()I"⟩ : MethodName)) (z := (⟨"java/lang/Integer", "intValue", "()I"⟩ : MethodName)) hown (mvT hZ (hw _ (List.mem_of_getElem? (i := 62) rfl))) (mvT hZ (hw _ (List.mem_of_getElem? (i := 43) rfl))) (notFace_of_selects (args := #[]) (mvT hZ (hw _ (List.mem_of_getElem? (i := 45) rfl)))) (mvT hZ (hw _ (List.mem_of_getElem? (i := 45) rfl))) (mvT hZ (hw _ (List.mem_of_getElem? (i := 44) rfl))) (by decide) (backOf (W := 1) (rm8 l Z a0 hw [] n0 h0 O w_cache W b2 v2 Vx2) hZ (hw _ (List.mem_of_getElem? (i := 46) rfl)) (hw _ (List.mem_of_getElem? (i := 9) rfl)) (by decide) (by decide)) q4a q4c (g := (mkF m 18 #[.val (.ref a), .val (.int y1), .val (.int y2), .val (.int y3)] [(.ref b2), (.int y2)])) rfl (by rw [hml]; rfl) (Steps.refl _) (argsL := []) (rest := [(.int y2)]) (lenOf owpd3 rfl) rfl (by show 2 * 0 + _ ≤ _; exact Nat.le_of_eq rfl) (hb hby d9_18) (fun _ _ => ⟨rfl, e3, (by decide : 0 + 0 ≤ _), (by decide : 0 + 0 ≤ _)⟩)
  dsimp only [Pt.U, Pt.locs, Pt.cells, Pt.slots] at X4 l4 y4 z4 st4 hQ4
  subst l4 y4 z4
  obtain ⟨rfl, Nq4, e4⟩ := hQ4
  have N4 := Fr.app N2 Nq4
  obtain ⟨_, _, ⟨T5, L5, k5, n5⟩, -, X5, ⟨Lc5, hQ5, l5, y5, z5⟩, st5⟩ := Jvm.LawKit.callS X4 hx (y := (⟨"java/lang/Math", "max", "(II)I"⟩ : MethodName)) hown (mvT hZ (hw _ (List.mem_of_getElem? (i := 63) rfl))) (mvT hZ (hw _ (List.mem_of_getElem? (i := 1) rfl))) (mvT hZ (hw _ (List.mem_of_getElem? (i := 2) rfl))) (mvT hZ (hw _ (List.mem_of_getElem? (i := 3) rfl))) (by decide) (backOf (W := 1) (rm1 l Z a0 hw [] n0 h0 O w_cache W v2 y1) hZ (hw _ (List.mem_of_getElem? (i := 3) rfl)) (hw _ (List.mem_of_getElem? (i := 2) rfl)) (by decide) (by decide)) (g := (mkF m 22 #[.val (.ref a), .val (.int y1), .val (.int y2), .val (.int y3)] [(.int y1), (.int v2), (.int y2)])) rfl (by rw [hml]; rfl) (argsL := [(.int v2), (.int y1)]) (rest := [(.int y2)]) (lenOf owpd5 rfl) rfl (by show 2 * 0 + _ ≤ _; exact Nat.le_of_eq rfl) (hb hby d9_22) (fun _ _ => ⟨rfl, e4, (by decide : 0 + 0 ≤ _), (by decide : 0 + 0 ≤ _)⟩)
  dsimp only [Pt.U, Pt.locs, Pt.cells, Pt.slots] at X5 l5 y5 z5 st5 hQ5
  subst l5 y5 z5
  obtain ⟨rfl, Nq5, e5⟩ := hQ5
  have N5 := Fr.app N4 Nq5
  obtain ⟨fs, hr, hrun, hended, hW, hsame⟩ := X5.leave (v := some (.int (0 : Int32))) (fun h => by rw [Bd.returns] at h; cases h)
  refine ⟨_, _, pre0 _ ?_, hrun, hended, _, _, rfl, ?_, ⟨_, rfl⟩, hW, hsame.mono (by decide) (by decide)⟩
  · show Steps p.tables e below (s₁.setTop (mkF m 0 #[.val (.ref a), .val (.int y1), .val (.int y2), .val (.int y3)] [])) _
    refine XS.iloadN X0.here hx rfl (hb hby d9_0) rfl ?_
    show Steps p.tables e below (s₁.setTop (mkF m 1 #[.val (.ref a), .val (.int y1), .val (.int y2), .val (.int y3)] [(.int y1)])) _
    refine XS.aloadN X0.here hx rfl (hb hby d9_1) rfl rfl ?_
    show Steps p.tables e below (s₁.setTop (mkF m 2 #[.val (.ref a), .val (.int y1), .val (.int y2), .val (.int y3)] [(.ref a), (.int y1)])) _
    refine st1 _ ?_
    show Steps p.tables e below (T1.setTop (mkF m 5 #[.val (.ref a), .val (.int y1), .val (.int y2), .val (.int y3)] [(.ref b1), (.int y1)])) _
    refine st2.trans ?_
    show Steps p.tables e below (T2.setTop (mkF m 8 #[.val (.ref a), .val (.int y1), .val (.int y2), .val (.int y3)] [(.int v1), (.int y1)])) _
    refine XS.icmpYes X2.here hx rfl (pc0 := 8) (pc' := 13) rfl (hb hby d9_8) rfl (tlt h1).1 (by decide) (by decide) ?_
    show Steps p.tables e below (T2.setTop (mkF m 13 #[.val (.ref a), .val (.int y1), .val (.int y2), .val (.int y3)] [])) _
    refine XS.iloadN X2.here hx rfl (hb hby d9_13) rfl ?_
    show Steps p.tables e below (T2.setTop (mkF m 14 #[.val (.ref a), .val (.int y1), .val (.int y2), .val (.int y3)] [(.int y2)])) _
    refine XS.aloadN X2.here hx rfl (hb hby d9_14) rfl rfl ?_
    show Steps p.tables e below (T2.setTop (mkF m 15 #[.val (.ref a), .val (.int y1), .val (.int y2), .val (.int y3)] [(.ref a), (.int y2)])) _
    refine st3 _ ?_
    show Steps p.tables e below (T3.setTop (mkF m 18 #[.val (.ref a), .val (.int y1), .val (.int y2), .val (.int y3)] [(.ref b2), (.int y2)])) _
    refine st4.trans ?_
    show Steps p.tables e below (T4.setTop (mkF m 21 #[.val (.ref a), .val (.int y1), .val (.int y2), .val (.int y3)] [(.int v2), (.int y2)])) _
    refine XS.iloadN X4.here hx rfl (hb hby d9_21) rfl ?_
    show Steps p.tables e below (T4.setTop (mkF m 22 #[.val (.ref a), .val (.int y1), .val (.int y2), .val (.int y3)] [(.int y1), (.int v2), (.int y2)])) _
    refine st5 _ ?_
    show Steps p.tables e below (T5.setTop (mkF m 25 #[.val (.ref a), .val (.int y1), .val (.int y2), .val (.int y3)] [(.int (if v2 < y1 then y1 else v2)), (.int y2)])) _
    refine XS.icmpYes X5.here hx rfl (pc0 := 25) (pc' := 43) rfl (hb hby d9_25) rfl (flt h2).2.1 (by decide) (by decide) ?_
    show Steps p.tables e below (T5.setTop (mkF m 43 #[.val (.ref a), .val (.int y1), .val (.int y2), .val (.int y3)] [])) _
    refine XS.iconst X5.here hx rfl (hb hby d9_43) ?_
    show Steps p.tables e below (T5.setTop (mkF m 44 #[.val (.ref a), .val (.int y1), .val (.int y2), .val (.int y3)] [(.int (0 : Int32))])) _
    exact retN X5 hx (t := .boolean) Bd.returns (by simp) (hb hby d9_44) hr
  · have eF : (T5.setFrames fs).heap = h0 := e5
    exact ⟨rfl, N5, eF⟩
set_option maxRecDepth 65536 in
set_option maxHeartbeats 40000000 in
theorem rm9_ttt (l : Launch) (Z : State) (a0 : Array Value) (hw : ∀ d ∈ tables_1, d.before a0 Z = true) (ws : List Jvm.Cond) (n0 : Nat) (h0 : Heap) (O : Old Z n0 h0) (w_cache : Addr) (W : OwW Z w_cache) (a b1 b2 b3 : Addr) (v1 v2 v3 y1 y2 y3 : Int32) (F1 : Fld Z h0 a "com/example/vestwright/vestwright/plan/Plan$ServiceBeforeBreaks" "vestedYears" "Ljava/lang/Integer;" (.ref b1)) (F2 : Fld Z h0 a "com/example/vestwright/vestwright/plan/Plan$ServiceBeforeBreaks" "breaksFewerThanGreaterOf" "Ljava/lang/Integer;" (.ref b2)) (F3 : Fld Z h0 a "com/example/vestwright/vestwright/plan/Plan$ServiceBeforeBreaks" "yearsAfter" "Ljava/lang/Integer;" (.ref b3)) (Ex1 : Exa Z h0 b1 "java/lang/Integer") (Ex2 : Exa Z h0 b2 "java/lang/Integer") (Ex3 : Exa Z h0 b3 "java/lang/Integer") (Vx1 : Fld Z h0 b1 "java/lang/Integer" "value" "I" (.int v1)) (Vx2 : Fld Z h0 b2 "java/lang/Integer" "value" "I" (.int v2)) (Vx3 : Fld Z h0 b3 "java/lang/Integer" "value" "I" (.int v3)) (h1 : y1 < v1) (h2 : y2 < (if v2 < y1 then y1 else v2)) (h3 : y3 < v3) :
    OwCon l (⟨"com/example/vestwright/vestwright/plan/Plan$ServiceBeforeBreaks", "keeps", "(III)Z"⟩ : MethodName) prog_57_method_2_code 4 (some .boolean) ws ({ frames := 1, cells := 0, slots := 0, locals := 14 } : Room) #[(.ref a), (.int y1), (.int y2), (.int y3)] Z h0 (OwQ (some (.int (0 : Int32))) h0 n0) := by
  refine MetFree.of_bodySF (plainFor_of_name owpn9) hisR ?_
  intro p e s m args below meth c s₁ Bd hml0 hP hK
  obtain ⟨rfl, hZ, hh⟩ := hP
  have hx := Bd.exec
  have hby := Bd.bytes
  have hml : c.maxLocals = 4 := hml0
  have hown : s.vm.findClass "com/example/vestwright/vestwright/plan/Plan$ServiceBeforeBreaks" = some m.cls := findClass_of_methodNamed Bd.named
  have hnm := (name_of_methodNamed Bd.named Bd.method).1
  have X0 : Stand p l e ({ frames := 1, cells := 0, slots := 0, locals := 14 } : Room) s m #[(.ref a), (.int y1), (.int y2), (.int y3)] below meth c s₁ [] 0 0 := Stand.of_body Bd
  have e0 : s₁.heap = h0 := by rw [← hh, Bd.state]; rfl
  have N0 := Fr.nil n0
  have WW := W
  obtain ⟨E_w_cache, S_Integer_IntegerCache_high, S_Integer_IntegerCache_cache, CaI, -⟩ := WW
  have ef : entryFrame m #[(.ref a), (.int y1), (.int y2), (.int y3)] 4 = mkF m 0 #[.val (.ref a), .val (.int y1), .val (.int y2), .val (.int y3)] [] := by first | rfl | (simp [entryFrame, mkF, argsToLocals, Value.category]; done)
  have pre0 : ∀ t, Steps p.tables e below (s₁.setTop (mkF m 0 #[.val (.ref a), .val (.int y1), .val (.int y2), .val (.int y3)] [])) t → Steps p.tables e below (s₁.setTop (entryFrame m #[(.ref a), (.int y1), (.int y2), (.int y3)] 4)) t := fun t k => castTop ef k
  obtain ⟨T1, X1, e1, st1⟩ := getF X0 hx hZ hown (host := "") (Or.inl (hw _ (List.mem_of_getElem? (i := 51) rfl))) Via.refl e0 F1 (g := (mkF m 2 #[.val (.ref a), .val (.int y1), .val (.int y2), .val (.int y3)] [(.ref a), (.int y1)])) rfl rfl (hb hby d9_2)
  obtain ⟨cq2, kq2, q2a, q2b, q2c⟩ := isOf hZ e1 Ex1
  obtain ⟨_, _, ⟨T2, L2, k2, n2⟩, -, X2, ⟨Lc2, hQ2, l2, y2, z2⟩, st2⟩ := X1.virtualBack hx (y := (⟨"java/lang/Integer", "intValue", "()I"⟩ : MethodName)) (z := (⟨"java/lang/Integer", "intValue", "()I"⟩ : MethodName)) hown (mvT hZ (hw _ (List.mem_of_getElem? (i := 62) rfl))) (mvT hZ (hw _ (List.mem_of_getElem? (i := 43) rfl))) (notFace_of_selects (args := #[]) (mvT hZ (hw _ (List.mem_of_getElem? (i := 45) rfl)))) (mvT hZ (hw _ (List.mem_of_getElem? (i := 45) rfl))) (mvT hZ (hw _ (List.mem_of_getElem? (i := 44) rfl))) (by decide) (backOf (W := 1) (rm8 l Z a0 hw [] n0 h0 O w_cache W b1 v1 Vx1) hZ (hw _ (List.mem_of_getElem? (i := 46) rfl)) (hw _ (List.mem_of_getElem? (i := 9) rfl)) (by decide) (by decide)) q2a q2c (g := (mkF m 5 #[.val (.ref a), .val (.int y1), .val (.int y2), .val (.int y3)] [(.ref b1), (.int y1)])) rfl (by rw [hml]; rfl) (Steps.refl _) (argsL := []) (rest := [(.int y1)]) (lenOf owpd3 rfl) rfl (by show 2 * 0 + _ ≤ _; exact Nat.le_of_eq rfl) (hb hby d9_5) (fun _ _ => ⟨rfl, e1, (by decide : 0 + 0 ≤ _), (by decide : 0 + 0 ≤ _)⟩)
  dsimp only [Pt.U, Pt.locs, Pt.cells, Pt.slots] at X2 l2 y2 z2 st2 hQ2
  subst l2 y2 z2
  obtain ⟨rfl, Nq2, e2⟩ := hQ2
  have N2 := Fr.app N0 Nq2
  obtain ⟨T3, X3, e3, st3⟩ := getF X2 hx hZ hown (host := "") (Or.inl (hw _ (List.mem_of_getElem? (i := 53) rfl))) Via.refl e2 F2 (g := (mkF m 15 #[.val (.ref a), .val (.int y1), .val (.int y2), .val (.int y3)] [(.ref a), (.int y2)])) rfl rfl (hb hby d9_15)
  obtain ⟨cq4, kq4, q4a, q4b, q4c⟩ := isOf hZ e3 Ex2
  obtain ⟨_, _, ⟨T4, L4, k4, n4⟩, -, X4, ⟨Lc4, hQ4, l4, y4, z4⟩, st4⟩ := X3.virtualBack hx (y := (⟨"java/lang/Integer", "intValue", "()I"⟩ : MethodName)) (z := (⟨"java/lang/Integer", "intValue", "()I"⟩ : MethodName)) hown (mvT hZ (hw _ (List.mem_of_getElem? (i := 62) rfl))) (mvT hZ (hw _ (List.mem_of_getElem? (i := 43) rfl))) (notFace_of_selects (args := #[]) (mvT hZ (hw _ (List.mem_of_getElem? (i := 45) rfl)))) (mvT hZ (hw _ (List.mem_of_getElem? (i := 45) rfl))) (mvT hZ (hw _ (List.mem_of_getElem? (i := 44) rfl))) (by decide) (backOf (W := 1) (rm8 l Z a0 hw [] n0 h0 O w_cache W b2 v2 Vx2) hZ (hw _ (List.mem_of_getElem? (i := 46) rfl)) (hw _ (List.mem_of_getElem? (i := 9) rfl)) (by decide) (by decide)) q4a q4c (g := (mkF m 18 #[.val (.ref a), .val (.int y1), .val (.int y2), .val (.int y3)] [(.ref b2), (.int y2)])) rfl (by rw [hml]; rfl) (Steps.refl _) (argsL := []) (rest := [(.int y2)]) (lenOf owpd3 rfl) rfl (by show 2 * 0 + _ ≤ _; exact Nat.le_of_eq rfl) (hb hby d9_18) (fun _ _ => ⟨rfl, e3, (by decide : 0 + 0 ≤ _), (by decide : 0 + 0 ≤ _)⟩)
  dsimp only [Pt.U, Pt.locs, Pt.cells, Pt.slots] at X4 l4 y4 z4 st4 hQ4
  subst l4 y4 z4
  obtain ⟨rfl, Nq4, e4⟩ := hQ4
  have N4 := Fr.app N2 Nq4
  obtain ⟨_, _, ⟨T5, L5, k5, n5⟩, -, X5, ⟨Lc5, hQ5, l5, y5, z5⟩, st5⟩ := Jvm.LawKit.callS X4 hx (y := (⟨"java/lang/Math", "max", "(II)I"⟩ : MethodName)) hown (mvT hZ (hw _ (List.mem_of_getElem? (i := 63) rfl))) (mvT hZ (hw _ (List.mem_of_getElem? (i := 1) rfl))) (mvT hZ (hw _ (List.mem_of_getElem? (i := 2) rfl))) (mvT hZ (hw _ (List.mem_of_getElem? (i := 3) rfl))) (by decide) (backOf (W := 1) (rm1 l Z a0 hw [] n0 h0 O w_cache W v2 y1) hZ (hw _ (List.mem_of_getElem? (i := 3) rfl)) (hw _ (List.mem_of_getElem? (i := 2) rfl)) (by decide) (by decide)) (g := (mkF m 22 #[.val (.ref a), .val (.int y1), .val (.int y2), .val (.int y3)] [(.int y1), (.int v2), (.int y2)])) rfl (by rw [hml]; rfl) (argsL := [(.int v2), (.int y1)]) (rest := [(.int y2)]) (lenOf owpd5 rfl) rfl (by show 2 * 0 + _ ≤ _; exact Nat.le_of_eq rfl) (hb hby d9_22) (fun _ _ => ⟨rfl, e4, (by decide : 0 + 0 ≤ _), (by decide : 0 + 0 ≤ _)⟩)
  dsimp only [Pt.U, Pt.locs, Pt.cells, Pt.slots] at X5 l5 y5 z5 st5 hQ5
  subst l5 y5 z5
  obtain ⟨rfl, Nq5, e5⟩ := hQ5
  have N5 := Fr.app N4 Nq5
  obtain ⟨T6, X6, e6, st6⟩ := getF X5 hx hZ hown (host := "") (Or.inl (hw _ (List.mem_of_getElem? (i := 55) rfl))) Via.refl e5 F3 (g := (mkF m 30 #[.val (.ref a), .val (.int y1), .val (.int y2), .val (.int y3)] [(.ref a), (.int y3)])) rfl rfl (hb hby d9_30)
  obtain ⟨cq7, kq7, q7a, q7b, q7c⟩ := isOf hZ e6 Ex3
  obtain ⟨_, _, ⟨T7, L7, k7, n7⟩, -, X7, ⟨Lc7, hQ7, l7, y7, z7⟩, st7⟩ := X6.virtualBack hx (y := (⟨"java/lang/Integer", "intValue", "()I"⟩ : MethodName)) (z := (⟨"java/lang/Integer", "intValue", "()I"⟩ : MethodName)) hown (mvT hZ (hw _ (List.mem_of_getElem? (i := 62) rfl))) (mvT hZ (hw _ (List.mem_of_getElem? (i := 43) rfl))) (notFace_of_selects (args := #[]) (mvT hZ (hw _ (List.mem_of_getElem? (i := 45) rfl)))) (mvT hZ (hw _ (List.mem_of_getElem? (i := 45) rfl))) (mvT hZ (hw _ (List.mem_of_getElem? (i := 44) rfl))) (by decide) (backOf (W := 1) (rm8 l Z a0 hw [] n0 h0 O w_cache W b3 v3 Vx3) hZ (hw _ (List.mem_of_getElem? (i := 46) rfl)) (hw _ (List.mem_of_getElem? (i := 9) rfl)) (by decide) (by decide)) q7a q7c (g := (mkF m 33 #[.val (.ref a), .val (.int y1), .val (.int y2), .val (.int y3)] [(.ref b3), (.int y3)])) rfl (by rw [hml]; rfl) (Steps.refl _) (argsL := []) (rest := [(.int y3)]) (lenOf owpd3 rfl) rfl (by show 2 * 0 + _ ≤ _; exact Nat.le_of_eq rfl) (hb hby d9_33) (fun _ _ => ⟨rfl, e6, (by decide : 0 + 0 ≤ _), (by decide : 0 + 0 ≤ _)⟩)
  dsimp only [Pt.U, Pt.locs, Pt.cells, Pt.slots] at X7 l7 y7 z7 st7 hQ7
  subst l7 y7 z7
  obtain ⟨rfl, Nq7, e7⟩ := hQ7
  have N7 := Fr.app N5 Nq7
  obtain ⟨fs, hr, hrun, hended, hW, hsame⟩ := X7.leave (v := some (.int (0 : Int32))) (fun h => by rw [Bd.returns] at h; cases h)
  refine ⟨_, _, pre0 _ ?_, hrun, hended, _, _, rfl, ?_, ⟨_, rfl⟩, hW, hsame.mono (by decide) (by decide)⟩
  · show Steps p.tables e below (s₁.setTop (mkF m 0 #[.val (.ref a), .val (.int y1), .val (.int y2), .val (.int y3)] [])) _
    refine XS.iloadN X0.here hx rfl (hb hby d9_0) rfl ?_
    show Steps p.tables e below (s₁.setTop (mkF m 1 #[.val (.ref a), .val (.int y1), .val (.int y2), .val (.int y3)] [(.int y1)])) _
    refine XS.aloadN X0.here hx rfl (hb hby d9_1) rfl rfl ?_
    show Steps p.tables e below (s₁.setTop (mkF m 2 #[.val (.ref a), .val (.int y1), .val (.int y2), .val (.int y3)] [(.ref a), (.int y1)])) _
    refine st1 _ ?_
    show Steps p.tables e below (T1.setTop (mkF m 5 #[.val (.ref a), .val (.int y1), .val (.int y2), .val (.int y3)] [(.ref b1), (.int y1)])) _
    refine st2.trans ?_
    show Steps p.tables e below (T2.setTop (mkF m 8 #[.val (.ref a), .val (.int y1), .val (.int y2), .val (.int y3)] [(.int v1), (.int y1)])) _
    refine XS.icmpYes X2.here hx rfl (pc0 := 8) (pc' := 13) rfl (hb hby d9_8) rfl (tlt h1).1 (by decide) (by decide) ?_
    show Steps p.tables e below (T2.setTop (mkF m 13 #[.val (.ref a), .val (.int y1), .val (.int y2), .val (.int y3)] [])) _
    refine XS.iloadN X2.here hx rfl (hb hby d9_13) rfl ?_
    show Steps p.tables e below (T2.setTop (mkF m 14 #[.val (.ref a), .val (.int y1), .val (.int y2), .val (.int y3)] [(.int y2)])) _
    refine XS.aloadN X2.here hx rfl (hb hby d9_14) rfl rfl ?_
    show Steps p.tables e below (T2.setTop (mkF m 15 #[.val (.ref a), .val (.int y1), .val (.int y2), .val (.int y3)] [(.ref a), (.int y2)])) _
    refine st3 _ ?_
    show Steps p.tables e below (T3.setTop (mkF m 18 #[.val (.ref a), .val (.int y1), .val (.int y2), .val (.int y3)] [(.ref b2), (.int y2)])) _
    refine st4.trans ?_
    show Steps p.tables e below (T4.setTop (mkF m 21 #[.val (.ref a), .val (.int y1), .val (.int y2), .val (.int y3)] [(.int v2), (.int y2)])) _
    refine XS.iloadN X4.here hx rfl (hb hby d9_21) rfl ?_
    show Steps p.tables e below (T4.setTop (mkF m 22 #[.val (.ref a), .val (.int y1), .val (.int y2), .val (.int y3)] [(.int y1), (.int v2), (.int y2)])) _
    refine st5 _ ?_
    show Steps p.tables e below (T5.setTop (mkF m 25 #[.val (.ref a), .val (.int y1), .val (.int y2), .val (.int y3)] [(.int (if v2 < y1 then y1 else v2)), (.int y2)])) _
    refine XS.icmpNo X5.here hx rfl (hb hby d9_25) rfl (tlt h2).2.1 ?_
    show Steps p.tables e below (T5.setTop (mkF m 28 #[.val (.ref a), .val (.int y1), .val (.int y2), .val (.int y3)] [])) _
    refine XS.iloadN X5.here hx rfl (hb hby d9_28) rfl ?_
    show Steps p.tables e below (T5.setTop (mkF m 29 #[.val (.ref a), .val (.int y1), .val (.int y2), .val (.int y3)] [(.int y3)])) _
    refine XS.aloadN X5.here hx rfl (hb hby d9_29) rfl rfl ?_
    show Steps p.tables e below (T5.setTop (mkF m 30 #[.val (.ref a), .val (.int y1), .val (.int y2), .val (.int y3)] [(.ref a), (.int y3)])) _
    refine st6 _ ?_
    show Steps p.tables e below (T6.setTop (mkF m 33 #[.val (.ref a), .val (.int y1), .val (.int y2), .val (.int y3)] [(.ref b3), (.int y3)])) _
    refine st7.trans ?_
    show Steps p.tables e below (T7.setTop (mkF m 36 #[.val (.ref a), .val (.int y1), .val (.int y2), .val (.int y3)] [(.int v3), (.int y3)])) _
    refine XS.icmpYes X7.here hx rfl (pc0 := 36) (pc' := 43) rfl (hb hby d9_36) rfl (tlt h3).1 (by decide) (by decide) ?_
    show Steps p.tables e below (T7.setTop (mkF m 43 #[.val (.ref a), .val (.int y1), .val (.int y2), .val (.int y3)] [])) _
    refine XS.iconst X7.here hx rfl (hb hby d9_43) ?_
    show Steps p.tables e below (T7.setTop (mkF m 44 #[.val (.ref a), .val (.int y1), .val (.int y2), .val (.int y3)] [(.int (0 : Int32))])) _
    exact retN X7 hx (t := .boolean) Bd.returns (by simp) (hb hby d9_44) hr
  · have eF : (T7.setFrames fs).heap = h0 := e7
    exact ⟨rfl, N7, eF⟩
set_option maxRecDepth 65536 in
set_option maxHeartbeats 40000000 in
theorem rm9_ttf (l : Launch) (Z : State) (a0 : Array Value) (hw : ∀ d ∈ tables_1, d.before a0 Z = true) (ws : List Jvm.Cond) (n0 : Nat) (h0 : Heap) (O : Old Z n0 h0) (w_cache : Addr) (W : OwW Z w_cache) (a b1 b2 b3 : Addr) (v1 v2 v3 y1 y2 y3 : Int32) (F1 : Fld Z h0 a "com/example/vestwright/vestwright/plan/Plan$ServiceBeforeBreaks" "vestedYears" "Ljava/lang/Integer;" (.ref b1)) (F2 : Fld Z h0 a "com/example/vestwright/vestwright/plan/Plan$ServiceBeforeBreaks" "breaksFewerThanGreaterOf" "Ljava/lang/Integer;" (.ref b2)) (F3 : Fld Z h0 a "com/example/vestwright/vestwright/plan/Plan$ServiceBeforeBreaks" "yearsAfter" "Ljava/lang/Integer;" (.ref b3)) (Ex1 : Exa Z h0 b1 "java/lang/Integer") (Ex2 : Exa Z h0 b2 "java/lang/Integer") (Ex3 : Exa Z h0 b3 "java/lang/Integer") (Vx1 : Fld Z h0 b1 "java/lang/Integer" "value" "I" (.int v1)) (Vx2 : Fld Z h0 b2 "java/lang/Integer" "value" "I" (.int v2)) (Vx3 : Fld Z h0 b3 "java/lang/Integer" "value" "I" (.int v3)) (h1 : y1 < v1) (h2 : y2 < (if v2 < y1 then y1 else v2)) (h3 : ¬ y3 < v3) :
    OwCon l (⟨"com/example/vestwright/vestwright/plan/Plan$ServiceBeforeBreaks", "keeps", "(III)Z"⟩ : MethodName) prog_57_method_2_code 4 (some .boolean) ws ({ frames := 1, cells := 0, slots := 0, locals := 14 } : Room) #[(.ref a), (.int y1), (.int y2), (.int y3)] Z h0 (OwQ (some (.int (1 : Int32))) h0 n0) := by
  refine MetFree.of_bodySF (plainFor_of_name owpn9) hisR ?_
  intro p e s m args below meth c s₁ Bd hml0 hP hK
  obtain ⟨rfl, hZ, hh⟩ := hP
  have hx := Bd.exec
  have hby := Bd.bytes
  have hml : c.maxLocals = 4 := hml0
  have hown : s.vm.findClass "com/example/vestwright/vestwright/plan/Plan$ServiceBeforeBreaks" = some m.cls := findClass_of_methodNamed Bd.named
  have hnm := (name_of_methodNamed Bd.named Bd.method).1
  have X0 : Stand p l e ({ frames := 1, cells := 0, slots := 0, locals := 14 } : Room) s m #[(.ref a), (.int y1), (.int y2), (.int y3)] below meth c s₁ [] 0 0 := Stand.of_body Bd
  have e0 : s₁.heap = h0 := by rw [← hh, Bd.state]; rfl
  have N0 := Fr.nil n0
  have WW := W
  obtain ⟨E_w_cache, S_Integer_IntegerCache_high, S_Integer_IntegerCache_cache, CaI, -⟩ := WW
  have ef : entryFrame m #[(.ref a), (.int y1), (.int y2), (.int y3)] 4 = mkF m 0 #[.val (.ref a), .val (.int y1), .val (.int y2), .val (.int y3)] [] := by first | rfl | (simp [entryFrame, mkF, argsToLocals, Value.category]; done)
  have pre0 : ∀ t, Steps p.tables e below (s₁.setTop (mkF m 0 #[.val (.ref a), .val (.int y1), .val (.int y2), .val (.int y3)] [])) t → Steps p.tables e below (s₁.setTop (entryFrame m #[(.ref a), (.int y1), (.int y2), (.int y3)] 4)) t := fun t k => castTop ef k
  obtain ⟨T1, X1, e1, st1⟩ := getF X0 hx hZ hown (host := "") (Or.inl (hw _ (List.mem_of_getElem? (i := 51) rfl))) Via.refl e0 F1 (g := (mkF m 2 #[.val (.ref a), .val (.int y1), .val (.int y2), .val (.int y3)] [(.ref a), (.int y1)])) rfl rfl (hb hby d9_2)
  obtain ⟨cq2, kq2, q2a, q2b, q2c⟩ := isOf hZ e1 Ex1
  obtain ⟨_, _, ⟨T2, L2, k2, n2⟩, -, X2, ⟨Lc2, hQ2, l2, y2, z2⟩, st2⟩ := X1.virtualBack hx (y := (⟨"java/lang/Integer", "intValue", "()I"⟩ : MethodName)) (z := (⟨"java/lang/Integer", "intValue", "()I"⟩ : MethodName)) hown (mvT hZ (hw _ (List.mem_of_getElem? (i := 62) rfl))) (mvT hZ (hw _ (List.mem_of_getElem? (i := 43) rfl))) (notFace_of_selects (args := #[]) (mvT hZ (hw _ (List.mem_of_getElem? (i := 45) rfl)))) (mvT hZ (hw _ (List.mem_of_getElem? (i := 45) rfl))) (mvT hZ (hw _ (List.mem_of_getElem? (i := 44) rfl))) (by decide) (backOf (W := 1) (rm8 l Z a0 hw [] n0 h0 O w_cache W b1 v1 Vx1) hZ (hw _ (List.mem_of_getElem? (i := 46) rfl)) (hw _ (List.mem_of_getElem? (i := 9) rfl)) (by decide) (by decide)) q2a q2c (g := (mkF m 5 #[.val (.ref a), .val (.int y1), .val (.int y2), .val (.int y3)] [(.ref b1), (.int y1)])) rfl (by rw [hml]; rfl) (Steps.refl _) (argsL := []) (rest := [(.int y1)]) (lenOf owpd3 rfl) rfl (by show 2 * 0 + _ ≤ _; exact Nat.le_of_eq rfl) (hb hby d9_5) (fun _ _ => ⟨rfl, e1, (by decide : 0 + 0 ≤ _), (by decide : 0 + 0 ≤ _)⟩)
  dsimp only [Pt.U, Pt.locs, Pt.cells, Pt.slots] at X2 l2 y2 z2 st2 hQ2
  subst l2 y2 z2
  obtain ⟨rfl, Nq2, e2⟩ := hQ2
  have N2 := Fr.app N0 Nq2
  obtain ⟨T3, X3, e3, st3⟩ := getF X2 hx hZ hown (host := "") (Or.inl (hw _ (List.mem_of_getElem? (i := 53) rfl))) Via.refl e2 F2 (g := (mkF m 15 #[.val (.ref a), .val (.int y1), .val (.int y2), .val (.int y3)] [(.ref a), (.int y2)])) rfl rfl (hb hby d9_15)
  obtain ⟨cq4, kq4, q4a, q4b, q4c⟩ := isOf hZ e3 Ex2
  obtain ⟨_, _, ⟨T4, L4, k4, n4⟩, -, X4, ⟨Lc4, hQ4, l4, y4, z4⟩, st4⟩ := X3.virtualBack hx (y := (⟨"java/lang/Integer", "intValue", "()I"⟩ : MethodName)) (z := (⟨"java/lang/Integer", "intValue", "()I"⟩ : MethodName)) hown (mvT hZ (hw _ (List.mem_of_getElem? (i := 62) rfl))) (mvT hZ (hw _ (List.mem_of_getElem? (i := 43) rfl))) (notFace_of_selects (args := #[]) (mvT hZ (hw _ (List.mem_of_getElem? (i := 45) rfl)))) (mvT hZ (hw _ (List.mem_of_getElem? (i := 45) rfl))) (mvT hZ (hw _ (List.mem_of_getElem? (i := 44) rfl))) (by decide) (backOf (W := 1) (rm8 l Z a0 hw [] n0 h0 O w_cache W b2 v2 Vx2) hZ (hw _ (List.mem_of_getElem? (i := 46) rfl)) (hw _ (List.mem_of_getElem? (i := 9) rfl)) (by decide) (by decide)) q4a q4c (g := (mkF m 18 #[.val (.ref a), .val (.int y1), .val (.int y2), .val (.int y3)] [(.ref b2), (.int y2)])) rfl (by rw [hml]; rfl) (Steps.refl _) (argsL := []) (rest := [(.int y2)]) (lenOf owpd3 rfl) rfl (by show 2 * 0 + _ ≤ _; exact Nat.le_of_eq rfl) (hb hby d9_18) (fun _ _ => ⟨rfl, e3, (by decide : 0 + 0 ≤ _), (by decide : 0 + 0 ≤ _)⟩)
  dsimp only [Pt.U, Pt.locs, Pt.cells, Pt.slots] at X4 l4 y4 z4 st4 hQ4
  subst l4 y4 z4
  obtain ⟨rfl, Nq4, e4⟩ := hQ4
  have N4 := Fr.app N2 Nq4
  obtain ⟨_, _, ⟨T5, L5, k5, n5⟩, -, X5, ⟨Lc5, hQ5, l5, y5, z5⟩, st5⟩ := Jvm.LawKit.callS X4 hx (y := (⟨"java/lang/Math", "max", "(II)I"⟩ : MethodName)) hown (mvT hZ (hw _ (List.mem_of_getElem? (i := 63) rfl))) (mvT hZ (hw _ (List.mem_of_getElem? (i := 1) rfl))) (mvT hZ (hw _ (List.mem_of_getElem? (i := 2) rfl))) (mvT hZ (hw _ (List.mem_of_getElem? (i := 3) rfl))) (by decide) (backOf (W := 1) (rm1 l Z a0 hw [] n0 h0 O w_cache W v2 y1) hZ (hw _ (List.mem_of_getElem? (i := 3) rfl)) (hw _ (List.mem_of_getElem? (i := 2) rfl)) (by decide) (by decide)) (g := (mkF m 22 #[.val (.ref a), .val (.int y1), .val (.int y2), .val (.int y3)] [(.int y1), (.int v2), (.int y2)])) rfl (by rw [hml]; rfl) (argsL := [(.int v2), (.int y1)]) (rest := [(.int y2)]) (lenOf owpd5 rfl) rfl (by show 2 * 0 + _ ≤ _; exact Nat.le_of_eq rfl) (hb hby d9_22) (fun _ _ => ⟨rfl, e4, (by decide : 0 + 0 ≤ _), (by decide : 0 + 0 ≤ _)⟩)
  dsimp only [Pt.U, Pt.locs, Pt.cells, Pt.slots] at X5 l5 y5 z5 st5 hQ5
  subst l5 y5 z5
  obtain ⟨rfl, Nq5, e5⟩ := hQ5
  have N5 := Fr.app N4 Nq5
  obtain ⟨T6, X6, e6, st6⟩ := getF X5 hx hZ hown (host := "") (Or.inl (hw _ (List.mem_of_getElem? (i := 55) rfl))) Via.refl e5 F3 (g := (mkF m 30 #[.val (.ref a), .val (.int y1), .val (.int y2), .val (.int y3)] [(.ref a), (.int y3)])) rfl rfl (hb hby d9_30)
  obtain ⟨cq7, kq7, q7a, q7b, q7c⟩ := isOf hZ e6 Ex3
  obtain ⟨_, _, ⟨T7, L7, k7, n7⟩, -, X7, ⟨Lc7, hQ7, l7, y7, z7⟩, st7⟩ := X6.virtualBack hx (y := (⟨"java/lang/Integer", "intValue", "()I"⟩ : MethodName)) (z := (⟨"java/lang/Integer", "intValue", "()I"⟩ : MethodName)) hown (mvT hZ (hw _ (List.mem_of_getElem? (i := 62) rfl))) (mvT hZ (hw _ (List.mem_of_getElem? (i := 43) rfl))) (notFace_of_selects (args := #[]) (mvT hZ (hw _ (List.mem_of_getElem? (i := 45) rfl)))) (mvT hZ (hw _ (List.mem_of_getElem? (i := 45) rfl))) (mvT hZ (hw _ (List.mem_of_getElem? (i := 44) rfl))) (by decide) (backOf (W := 1) (rm8 l Z a0 hw [] n0 h0 O w_cache W b3 v3 Vx3) hZ (hw _ (List.mem_of_getElem? (i := 46) rfl)) (hw _ (List.mem_of_getElem? (i := 9) rfl)) (by decide) (by decide)) q7a q7c (g := (mkF m 33 #[.val (.ref a), .val (.int y1), .val (.int y2), .val (.int y3)] [(.ref b3), (.int y3)])) rfl (by rw [hml]; rfl) (Steps.refl _) (argsL := []) (rest := [(.int y3)]) (lenOf owpd3 rfl) rfl (by show 2 * 0 + _ ≤ _; exact Nat.le_of_eq rfl) (hb hby d9_33) (fun _ _ => ⟨rfl, e6, (by decide : 0 + 0 ≤ _), (by decide : 0 + 0 ≤ _)⟩)
  dsimp only [Pt.U, Pt.locs, Pt.cells, Pt.slots] at X7 l7 y7 z7 st7 hQ7
  subst l7 y7 z7
  obtain ⟨rfl, Nq7, e7⟩ := hQ7
  have N7 := Fr.app N5 Nq7
  obtain ⟨fs, hr, hrun, hended, hW, hsame⟩ := X7.leave (v := some (.int (1 : Int32))) (fun h => by rw [Bd.returns] at h; cases h)
  refine ⟨_, _, pre0 _ ?_, hrun, hended, _, _, rfl, ?_, ⟨_, rfl⟩, hW, hsame.mono (by decide) (by decide)⟩
  · show Steps p.tables e below (s₁.setTop (mkF m 0 #[.val (.ref a), .val (.int y1), .val (.int y2), .val (.int y3)] [])) _
    refine XS.iloadN X0.here hx rfl (hb hby d9_0) rfl ?_
    show Steps p.tables e below (s₁.setTop (mkF m 1 #[.val (.ref a), .val (.int y1), .val (.int y2), .val (.int y3)] [(.int y1)])) _
    refine XS.aloadN X0.here hx rfl (hb hby d9_1) rfl rfl ?_
    show Steps p.tables e below (s₁.setTop (mkF m 2 #[.val (.ref a), .val (.int y1), .val (.int y2), .val (.int y3)] [(.ref a), (.int y1)])) _
    refine st1 _ ?_
    show Steps p.tables e below (T1.setTop (mkF m 5 #[.val (.ref a), .val (.int y1), .val (.int y2), .val (.int y3)] [(.ref b1), (.int y1)])) _
    refine st2.trans ?_
    show Steps p.tables e below (T2.setTop (mkF m 8 #[.val (.ref a), .val (.int y1), .val (.int y2), .val (.int y3)] [(.int v1), (.int y1)])) _
    refine XS.icmpYes X2.here hx rfl (pc0 := 8) (pc' := 13) rfl (hb hby d9_8) rfl (tlt h1).1 (by decide) (by decide) ?_
    show Steps p.tables e below (T2.setTop (mkF m 13 #[.val (.ref a), .val (.int y1), .val (.int y2), .val (.int y3)] [])) _
    refine XS.iloadN X2.here hx rfl (hb hby d9_13) rfl ?_
    show Steps p.tables e below (T2.setTop (mkF m 14 #[.val (.ref a), .val (.int y1), .val (.int y2), .val (.int y3)] [(.int y2)])) _
    refine XS.aloadN X2.here hx rfl (hb hby d9_14) rfl rfl ?_
    show Steps p.tables e below (T2.setTop (mkF m 15 #[.val (.ref a), .val (.int y1), .val (.int y2), .val (.int y3)] [(.ref a), (.int y2)])) _
    refine st3 _ ?_
    show Steps p.tables e below (T3.setTop (mkF m 18 #[.val (.ref a), .val (.int y1), .val (.int y2), .val (.int y3)] [(.ref b2), (.int y2)])) _
    refine st4.trans ?_
    show Steps p.tables e below (T4.setTop (mkF m 21 #[.val (.ref a), .val (.int y1), .val (.int y2), .val (.int y3)] [(.int v2), (.int y2)])) _
    refine XS.iloadN X4.here hx rfl (hb hby d9_21) rfl ?_
    show Steps p.tables e below (T4.setTop (mkF m 22 #[.val (.ref a), .val (.int y1), .val (.int y2), .val (.int y3)] [(.int y1), (.int v2), (.int y2)])) _
    refine st5 _ ?_
    show Steps p.tables e below (T5.setTop (mkF m 25 #[.val (.ref a), .val (.int y1), .val (.int y2), .val (.int y3)] [(.int (if v2 < y1 then y1 else v2)), (.int y2)])) _
    refine XS.icmpNo X5.here hx rfl (hb hby d9_25) rfl (tlt h2).2.1 ?_
    show Steps p.tables e below (T5.setTop (mkF m 28 #[.val (.ref a), .val (.int y1), .val (.int y2), .val (.int y3)] [])) _
    refine XS.iloadN X5.here hx rfl (hb hby d9_28) rfl ?_
    show Steps p.tables e below (T5.setTop (mkF m 29 #[.val (.ref a), .val (.int y1), .val (.int y2), .val (.int y3)] [(.int y3)])) _
    refine XS.aloadN X5.here hx rfl (hb hby d9_29) rfl rfl ?_
    show Steps p.tables e below (T5.setTop (mkF m 30 #[.val (.ref a), .val (.int y1), .val (.int y2), .val (.int y3)] [(.ref a), (.int y3)])) _
    refine st6 _ ?_
    show Steps p.tables e below (T6.setTop (mkF m 33 #[.val (.ref a), .val (.int y1), .val (.int y2), .val (.int y3)] [(.ref b3), (.int y3)])) _
    refine st7.trans ?_
    show Steps p.tables e below (T7.setTop (mkF m 36 #[.val (.ref a), .val (.int y1), .val (.int y2), .val (.int y3)] [(.int v3), (.int y3)])) _
    refine XS.icmpNo X7.here hx rfl (hb hby d9_36) rfl (flt h3).1 ?_
    show Steps p.tables e below (T7.setTop (mkF m 39 #[.val (.ref a), .val (.int y1), .val (.int y2), .val (.int y3)] [])) _
    refine XS.iconst X7.here hx rfl (hb hby d9_39) ?_
    show Steps p.tables e below (T7.setTop (mkF m 40 #[.val (.ref a), .val (.int y1), .val (.int y2), .val (.int y3)] [(.int (1 : Int32))])) _
    refine XS.goto X7.here hx rfl (pc0 := 40) (pc' := 44) rfl (hb hby d9_40) (by decide) (by decide) ?_
    show Steps p.tables e below (T7.setTop (mkF m 44 #[.val (.ref a), .val (.int y1), .val (.int y2), .val (.int y3)] [(.int (1 : Int32))])) _
    exact retN X7 hx (t := .boolean) Bd.returns (by simp) (hb hby d9_44) hr
  · have eF : (T7.setFrames fs).heap = h0 := e7
    exact ⟨rfl, N7, eF⟩
theorem rm9 (l : Launch) (Z : State) (a0 : Array Value) (hw : ∀ d ∈ tables_1, d.before a0 Z = true) (ws : List Jvm.Cond) (n0 : Nat) (h0 : Heap) (O : Old Z n0 h0) (w_cache : Addr) (W : OwW Z w_cache) (a b1 b2 b3 : Addr) (v1 v2 v3 y1 y2 y3 : Int32) (F1 : Fld Z h0 a "com/example/vestwright/vestwright/plan/Plan$ServiceBeforeBreaks" "vestedYears" "Ljava/lang/Integer;" (.ref b1)) (F2 : Fld Z h0 a "com/example/vestwright/vestwright/plan/Plan$ServiceBeforeBreaks" "breaksFewerThanGreaterOf" "Ljava/lang/Integer;" (.ref b2)) (F3 : Fld Z h0 a "com/example/vestwright/vestwright/plan/Plan$ServiceBeforeBreaks" "yearsAfter" "Ljava/lang/Integer;" (.ref b3)) (Ex1 : Exa Z h0 b1 "java/lang/Integer") (Ex2 : Exa Z h0 b2 "java/lang/Integer") (Ex3 : Exa Z h0 b3 "java/lang/Integer") (Vx1 : Fld Z h0 b1 "java/lang/Integer" "value" "I" (.int v1)) (Vx2 : Fld Z h0 b2 "java/lang/Integer" "value" "I" (.int v2)) (Vx3 : Fld Z h0 b3 "java/lang/Integer" "value" "I" (.int v3)) :
    OwCon l (⟨"com/example/vestwright/vestwright/plan/Plan$ServiceBeforeBreaks", "keeps", "(III)Z"⟩ : MethodName) prog_57_method_2_code 4 (some .boolean) ws ({ frames := 1, cells := 0, slots := 0, locals := 14 } : Room) #[(.ref a), (.int y1), (.int y2), (.int y3)] Z h0 (OwQ (some (.int (if y1 < v1 then (if y2 < (if v2 < y1 then y1 else v2) then (if y3 < v3 then (0 : Int32) else (1 : Int32)) else (0 : Int32)) else (1 : Int32)))) h0 n0) := by
  by_cases h1 : y1 < v1
  case neg => rw [if_neg h1]; exact rm9_f l Z a0 hw ws n0 h0 O w_cache W a b1 b2 b3 v1 v2 v3 y1 y2 y3 F1 F2 F3 Ex1 Ex2 Ex3 Vx1 Vx2 Vx3 h1
  rw [if_pos h1]
  by_cases h2 : y2 < (if v2 < y1 then y1 else v2)
  case neg => rw [if_neg h2]; exact rm9_tf l Z a0 hw ws n0 h0 O w_cache W a b1 b2 b3 v1 v2 v3 y1 y2 y3 F1 F2 F3 Ex1 Ex2 Ex3 Vx1 Vx2 Vx3 h1 h2
  rw [if_pos h2]
  by_cases h3 : y3 < v3
  · rw [if_pos h3]; exact rm9_ttt l Z a0 hw ws n0 h0 O w_cache W a b1 b2 b3 v1 v2 v3 y1 y2 y3 F1 F2 F3 Ex1 Ex2 Ex3 Vx1 Vx2 Vx3 h1 h2 h3
  · rw [if_neg h3]; exact rm9_ttf l Z a0 hw ws n0 h0 O w_cache W a b1 b2 b3 v1 v2 v3 y1 y2 y3 F1 F2 F3 Ex1 Ex2 Ex3 Vx1 Vx2 Vx3 h1 h2 h3

set_option maxRecDepth 65536 in
set_option maxHeartbeats 40000000 in
theorem rm0 (l : Launch) (Z : State) (a0 : Array Value) (hw : ∀ d ∈ tables_1, d.before a0 Z = true) (ws : List Jvm.Cond) (n0 : Nat) (h0 : Heap) (O : Old Z n0 h0) (w_cache : Addr) (W : OwW Z w_cache) (p0 : Int32) (p1 : Int32) (p2 : Int32) (p3 : Int32) (p4 : Int32) (p5 : Int32) (x1 x2 x3 : Int32) (hx1 : (if (1 : Int32) < p0 then p0 else (1 : Int32)) = x1) (hx2 : (if (1 : Int32) < p1 then p1 else (1 : Int32)) = x2) (hx3 : (if (0 : Int32) < p2 then p2 else (0 : Int32)) = x3) (hv1 : ¬ x1 < (1 : Int32)) (hv2 : ¬ x2 < (1 : Int32)) (hv3 : ¬ x3 < (0 : Int32)) :
    OwConW l x code maxLocals ret ws room_1 #[(.int p0), (.int p1), (.int p2), (.int p3), (.int p4), (.int p5)] Z h0 (OwP (fun v _ => v = some (.int 1)) n0) := by
  refine MetFree.of_bodySF (plainFor_of_name owpn0) hisR ?_
  intro p e s m args below meth c s₁ Bd hml0 hP hK
  obtain ⟨rfl, hZ, hh⟩ := hP
  have hx := Bd.exec
  have hby := Bd.bytes
  have hml : c.maxLocals = 15 := hml0
  have hown : s.vm.findClass "com/example/vestwright/vestwright/plan/ServiceBeforeBreaksKeepsPinLaw" = some m.cls := findClass_of_methodNamed Bd.named
  have hnm := (name_of_methodNamed Bd.named Bd.method).1
  have X0 : Stand p l e room_1 s m #[(.int p0), (.int p1), (.int p2), (.int p3), (.int p4), (.int p5)] below meth c s₁ [] 0 0 := Stand.of_body Bd
  have e0 : s₁.heap = h0 := by rw [← hh, Bd.state]; rfl
  have N0 := Fr.nil n0
  have WW := W
  obtain ⟨E_w_cache, S_Integer_IntegerCache_high, S_Integer_IntegerCache_cache, CaI, -⟩ := WW
  have ef : entryFrame m #[(.int p0), (.int p1), (.int p2), (.int p3), (.int p4), (.int p5)] maxLocals = mkF m 0 #[.val (.int p0), .val (.int p1), .val (.int p2), .val (.int p3), .val (.int p4), .val (.int p5), .unset, .unset, .unset, .unset, .unset, .unset, .unset, .unset, .unset] [] := by first | rfl | (simp [entryFrame, mkF, argsToLocals, Value.category, maxLocals]; done)
  have pre0 : ∀ t, Steps p.tables e below (s₁.setTop (mkF m 0 #[.val (.int p0), .val (.int p1), .val (.int p2), .val (.int p3), .val (.int p4), .val (.int p5), .unset, .unset, .unset, .unset, .unset, .unset, .unset, .unset, .unset] [])) t → Steps p.tables e below (s₁.setTop (entryFrame m #[(.int p0), (.int p1), (.int p2), (.int p3), (.int p4), (.int p5)] maxLocals)) t := fun t k => castTop ef k
  have Y0 : Stand p l e room_1 (s.setVm s.vm) m #[(.int p0), (.int p1), (.int p2), (.int p3), (.int p4), (.int p5)] below meth c s₁ [] 0 0 := X0
  have hS0 : s.Since s.vm s.heap.size := (State.WarmedH.refl s).since _
  have hk0 : s.heap.size ≤ h0.size := Nat.le_of_eq (by rw [← hh])
  have wS : ∀ a ∈ Bundle.stringAtoms, a.before a0 Z = true := fun a ha => hw a (own_strin a ha)
  obtain ⟨_, _, ⟨T1, L1, k1, n1⟩, -, X1, ⟨Lc1, hQ1, l1, y1, z1⟩, st1⟩ := Jvm.LawKit.callS Y0 hx (y := (⟨"java/lang/Math", "max", "(II)I"⟩ : MethodName)) hown (mvT hZ (hw _ (List.mem_of_getElem? (i := 0) rfl))) (mvT hZ (hw _ (List.mem_of_getElem? (i := 1) rfl))) (mvT hZ (hw _ (List.mem_of_getElem? (i := 2) rfl))) (mvT hZ (hw _ (List.mem_of_getElem? (i := 3) rfl))) (by decide) (backOf (W := 0) (rm1 l Z a0 hw [] n0 h0 O w_cache W (1 : Int32) p0) hZ (hw _ (List.mem_of_getElem? (i := 3) rfl)) (hw _ (List.mem_of_getElem? (i := 2) rfl)) (by decide) (by decide)) (g := (mkF m 2 #[.val (.int p0), .val (.int p1), .val (.int p2), .val (.int p3), .val (.int p4), .val (.int p5), .unset, .unset, .unset, .unset, .unset, .unset, .unset, .unset, .unset] [(.int p0), (.int (1 : Int32))])) rfl (by rw [hml]; rfl) (argsL := [(.int (1 : Int32)), (.int p0)]) (rest := []) (lenOf owpd5 rfl) rfl (by show 2 * 0 + _ ≤ _; exact Nat.le_of_eq rfl) (hb hby at_2) (fun _ _ => ⟨rfl, e0, (by decide : 0 + 0 ≤ _), (by decide : 0 + 0 ≤ _)⟩)
  dsimp only [Pt.U, Pt.locs, Pt.cells, Pt.slots] at X1 l1 y1 z1 st1 hQ1
  subst l1 y1 z1
  obtain ⟨rfl, Nq1, e1⟩ := hQ1
  have N1 := Fr.app N0 Nq1
  obtain ⟨_, _, ⟨T2, L2, k2, n2⟩, -, X2, ⟨Lc2, hQ2, l2, y2, z2⟩, st2⟩ := Jvm.LawKit.callS X1 hx (y := (⟨"java/lang/Math", "max", "(II)I"⟩ : MethodName)) hown (mvT hZ (hw _ (List.mem_of_getElem? (i := 0) rfl))) (mvT hZ (hw _ (List.mem_of_getElem? (i := 1) rfl))) (mvT hZ (hw _ (List.mem_of_getElem? (i := 2) rfl))) (mvT hZ (hw _ (List.mem_of_getElem? (i := 3) rfl))) (by decide) (backOf (W := 0) (rm1 l Z a0 hw [] n0 h0 O w_cache W (1 : Int32) p1) hZ (hw _ (List.mem_of_getElem? (i := 3) rfl)) (hw _ (List.mem_of_getElem? (i := 2) rfl)) (by decide) (by decide)) (g := (mkF m 9 #[.val (.int p0), .val (.int p1), .val (.int p2), .val (.int p3), .val (.int p4), .val (.int p5), .val (.int x1), .unset, .unset, .unset, .unset, .unset, .unset, .unset, .unset] [(.int p1), (.int (1 : Int32))])) rfl (by rw [hml]; rfl) (argsL := [(.int (1 : Int32)), (.int p1)]) (rest := []) (lenOf owpd5 rfl) rfl (by show 2 * 0 + _ ≤ _; exact Nat.le_of_eq rfl) (hb hby at_9) (fun _ _ => ⟨rfl, e1, (by decide : 0 + 0 ≤ _), (by decide : 0 + 0 ≤ _)⟩)
  dsimp only [Pt.U, Pt.locs, Pt.cells, Pt.slots] at X2 l2 y2 z2 st2 hQ2
  subst l2 y2 z2
  obtain ⟨rfl, Nq2, e2⟩ := hQ2
  have N2 := Fr.app N1 Nq2
  obtain ⟨_, _, ⟨T3, L3, k3, n3⟩, -, X3, ⟨Lc3, hQ3, l3, y3, z3⟩, st3⟩ := Jvm.LawKit.callS X2 hx (y := (⟨"java/lang/Math", "max", "(II)I"⟩ : MethodName)) hown (mvT hZ (hw _ (List.mem_of_getElem? (i := 0) rfl))) (mvT hZ (hw _ (List.mem_of_getElem? (i := 1) rfl))) (mvT hZ (hw _ (List.mem_of_getElem? (i := 2) rfl))) (mvT hZ (hw _ (List.mem_of_getElem? (i := 3) rfl))) (by decide) (backOf (W := 0) (rm1 l Z a0 hw [] n0 h0 O w_cache W (0 : Int32) p2) hZ (hw _ (List.mem_of_getElem? (i := 3) rfl)) (hw _ (List.mem_of_getElem? (i := 2) rfl)) (by decide) (by decide)) (g := (mkF m 16 #[.val (.int p0), .val (.int p1), .val (.int p2), .val (.int p3), .val (.int p4), .val (.int p5), .val (.int x1), .val (.int x2), .unset, .unset, .unset, .unset, .unset, .unset, .unset] [(.int p2), (.int (0 : Int32))])) rfl (by rw [hml]; rfl) (argsL := [(.int (0 : Int32)), (.int p2)]) (rest := []) (lenOf owpd5 rfl) rfl (by show 2 * 0 + _ ≤ _; exact Nat.le_of_eq rfl) (hb hby at_16) (fun _ _ => ⟨rfl, e2, (by decide : 0 + 0 ≤ _), (by decide : 0 + 0 ≤ _)⟩)
  dsimp only [Pt.U, Pt.locs, Pt.cells, Pt.slots] at X3 l3 y3 z3 st3 hQ3
  subst l3 y3 z3
  obtain ⟨rfl, Nq3, e3⟩ := hQ3
  have N3 := Fr.app N2 Nq3
  obtain ⟨T4, h4, X4, e4, E4, A4, D4, -, st4⟩ := newO X3 hx hZ hown (hw _ (List.mem_of_getElem? (i := 4) rfl)) (hw _ (List.mem_of_getElem? (i := 5) rfl)) (hw _ (List.mem_of_getElem? (i := 6) rfl)) e3 (g := (mkF m 21 #[.val (.int p0), .val (.int p1), .val (.int p2), .val (.int p3), .val (.int p4), .val (.int p5), .val (.int x1), .val (.int x2), .val (.int x3), .unset, .unset, .unset, .unset, .unset, .unset] [])) rfl (hb hby at_21) (by decide) (by decide)
  obtain ⟨b4, g4⟩ : ∃ z, z = h0.size := ⟨_, rfl⟩
  rw [← g4] at A4 D4 st4
  have gx4 : n0 ≤ b4 := Nat.le_trans (Nat.le_trans (Nat.le_of_eq O.1.symm) O.2.1) (Nat.le_of_eq g4.symm)
  have O4 := O.ext E4
  have Fn4_vestedYears : Fld Z h4 b4 "com/example/vestwright/vestwright/plan/Plan$ServiceBeforeBreaks" "vestedYears" "Ljava/lang/Integer;" .null := D4 (Or.inr (hw _ (List.mem_of_getElem? (i := 52) rfl))) (ty := (.object "java/lang/Integer")) (by decide)
  have Fn4_breaksFewerThanGreaterOf : Fld Z h4 b4 "com/example/vestwright/vestwright/plan/Plan$ServiceBeforeBreaks" "breaksFewerThanGreaterOf" "Ljava/lang/Integer;" .null := D4 (Or.inr (hw _ (List.mem_of_getElem? (i := 54) rfl))) (ty := (.object "java/lang/Integer")) (by decide)
  have Fn4_yearsAfter : Fld Z h4 b4 "com/example/vestwright/vestwright/plan/Plan$ServiceBeforeBreaks" "yearsAfter" "Ljava/lang/Integer;" .null := D4 (Or.inr (hw _ (List.mem_of_getElem? (i := 56) rfl))) (ty := (.object "java/lang/Integer")) (by decide)
  have hkk4 := Nat.le_trans hk0 E4.1
  obtain ⟨_, _, ⟨T5, L5, k5, n5⟩, -, X5, ⟨Lc5, hQ5, l5, y5, z5⟩, st5⟩ := Jvm.LawKit.callS X4 hx (y := (⟨"java/lang/Integer", "valueOf", "(I)Ljava/lang/Integer;"⟩ : MethodName)) hown (mvT hZ (hw _ (List.mem_of_getElem? (i := 7) rfl))) (mvT hZ (hw _ (List.mem_of_getElem? (i := 8) rfl))) (mvT hZ (hw _ (List.mem_of_getElem? (i := 9) rfl))) (mvT hZ (hw _ (List.mem_of_getElem? (i := 10) rfl))) (by decide) (backOf (W := 2) (rm2 l Z a0 hw [] n0 h4 O4 w_cache W x1) hZ (hw _ (List.mem_of_getElem? (i := 10) rfl)) (hw _ (List.mem_of_getElem? (i := 9) rfl)) (by decide) (by decide)) (g := (mkF m 27 #[.val (.int p0), .val (.int p1), .val (.int p2), .val (.int p3), .val (.int p4), .val (.int p5), .val (.int x1), .val (.int x2), .val (.int x3), .unset, .unset, .unset, .unset, .unset, .unset] [(.int x1), (.ref b4), (.ref b4)])) rfl (by rw [hml]; rfl) (argsL := [(.int x1)]) (rest := [(.ref b4), (.ref b4)]) (lenOf owpd6 rfl) rfl (by show 2 * 0 + _ ≤ _; exact Nat.le_of_eq rfl) (hb hby at_27) (fun _ _ => ⟨rfl, e4, (by decide : 1 + 1 ≤ _), (by decide : 3 + 1 ≤ _)⟩)
  dsimp only [Pt.U, Pt.locs, Pt.cells, Pt.slots] at X5 l5 y5 z5 st5 hQ5
  subst l5 y5 z5
  obtain ⟨Nq5, hP5⟩ := hQ5
  have N5 := Fr.app N3 Nq5
  have ee5 : T5.heap = T5.heap := rfl
  obtain ⟨b5, rfl, O5, Kc5, Ec5, Fc5⟩ := hP5
  have hkk5 := Nat.le_trans hkk4 Kc5.1
  obtain ⟨_, _, ⟨T6, L6, k6, n6⟩, -, X6, ⟨Lc6, hQ6, l6, y6, z6⟩, st6⟩ := Jvm.LawKit.callS X5 hx (y := (⟨"java/lang/Integer", "valueOf", "(I)Ljava/lang/Integer;"⟩ : MethodName)) hown (mvT hZ (hw _ (List.mem_of_getElem? (i := 7) rfl))) (mvT hZ (hw _ (List.mem_of_getElem? (i := 8) rfl))) (mvT hZ (hw _ (List.mem_of_getElem? (i := 9) rfl))) (mvT hZ (hw _ (List.mem_of_getElem? (i := 10) rfl))) (by decide) (backOf (W := 3) (rm2 l Z a0 hw [] n0 T5.heap O5 w_cache W x2) hZ (hw _ (List.mem_of_getElem? (i := 10) rfl)) (hw _ (List.mem_of_getElem? (i := 9) rfl)) (by decide) (by decide)) (g := (mkF m 32 #[.val (.int p0), .val (.int p1), .val (.int p2), .val (.int p3), .val (.int p4), .val (.int p5), .val (.int x1), .val (.int x2), .val (.int x3), .unset, .unset, .unset, .unset, .unset, .unset] [(.int x2), (.ref b5), (.ref b4), (.ref b4)])) rfl (by rw [hml]; rfl) (argsL := [(.int x2)]) (rest := [(.ref b5), (.ref b4), (.ref b4)]) (lenOf owpd6 rfl) rfl (by show 2 * 0 + _ ≤ _; exact Nat.le_of_eq rfl) (hb hby at_32) (fun _ _ => ⟨rfl, ee5, (by decide : 2 + 1 ≤ _), (by decide : 4 + 1 ≤ _)⟩)
  dsimp only [Pt.U, Pt.locs, Pt.cells, Pt.slots] at X6 l6 y6 z6 st6 hQ6
  subst l6 y6 z6
  obtain ⟨Nq6, hP6⟩ := hQ6
  have N6 := Fr.app N5 Nq6
  have ee6 : T6.heap = T6.heap := rfl
  obtain ⟨b6, rfl, O6, Kc6, Ec6, Fc6⟩ := hP6
  have hkk6 := Nat.le_trans hkk5 Kc6.1
  obtain ⟨_, _, ⟨T7, L7, k7, n7⟩, -, X7, ⟨Lc7, hQ7, l7, y7, z7⟩, st7⟩ := Jvm.LawKit.callS X6 hx (y := (⟨"java/lang/Integer", "valueOf", "(I)Ljava/lang/Integer;"⟩ : MethodName)) hown (mvT hZ (hw _ (List.mem_of_getElem? (i := 7) rfl))) (mvT hZ (hw _ (List.mem_of_getElem? (i := 8) rfl))) (mvT hZ (hw _ (List.mem_of_getElem? (i := 9) rfl))) (mvT hZ (hw _ (List.mem_of_getElem? (i := 10) rfl))) (by decide) (backOf (W := 4) (rm2 l Z a0 hw [] n0 T6.heap O6 w_cache W x3) hZ (hw _ (List.mem_of_getElem? (i := 10) rfl)) (hw _ (List.mem_of_getElem? (i := 9) rfl)) (by decide) (by decide)) (g := (mkF m 37 #[.val (.int p0), .val (.int p1), .val (.int p2), .val (.int p3), .val (.int p4), .val (.int p5), .val (.int x1), .val (.int x2), .val (.int x3), .unset, .unset, .unset, .unset, .unset, .unset] [(.int x3), (.ref b6), (.ref b5), (.ref b4), (.ref b4)])) rfl (by rw [hml]; rfl) (argsL := [(.int x3)]) (rest := [(.ref b6), (.ref b5), (.ref b4), (.ref b4)]) (lenOf owpd6 rfl) rfl (by show 2 * 0 + _ ≤ _; exact Nat.le_of_eq rfl) (hb hby at_37) (fun _ _ => ⟨rfl, ee6, (by decide : 3 + 1 ≤ _), (by decide : 5 + 1 ≤ _)⟩)
  dsimp only [Pt.U, Pt.locs, Pt.cells, Pt.slots] at X7 l7 y7 z7 st7 hQ7
  subst l7 y7 z7
  obtain ⟨Nq7, hP7⟩ := hQ7
  have N7 := Fr.app N6 Nq7
  have ee7 : T7.heap = T7.heap := rfl
  obtain ⟨b7, rfl, O7, Kc7, Ec7, Fc7⟩ := hP7
  have hkk7 := Nat.le_trans hkk6 Kc7.1
  have fa8 := (((A4.keep Kc5).keep Kc6).keep Kc7)
  have fa9 := (((Fn4_vestedYears.keep Kc5 nin0).keep Kc6 nin0).keep Kc7 nin0)
  have fa10 := (((Fn4_breaksFewerThanGreaterOf.keep Kc5 nin0).keep Kc6 nin0).keep Kc7 nin0)
  have fa11 := (((Fn4_yearsAfter.keep Kc5 nin0).keep Kc6 nin0).keep Kc7 nin0)
  have fa12 := ((Ec5.keep Kc6).keep Kc7)
  have fa13 := (Ec6.keep Kc7)
  have fa14 := ((Fc5.keep Kc6 nin0).keep Kc7 nin0)
  have fa15 := (Fc6.keep Kc7 nin0)
  obtain ⟨_, _, ⟨T16, L16, k16, n16⟩, -, Xw16, hSw16, hgr16, ⟨Lc16, hQ16, l16, y16, z16⟩, st16⟩ := X7.specialBackS hx (y := (⟨"com/example/vestwright/vestwright/plan/Plan$ServiceBeforeBreaks", "<init>", "(Ljava/lang/Integer;Ljava/lang/Integer;Ljava/lang/Integer;)V"⟩ : MethodName)) rfl hown (mvT hZ (hw _ (List.mem_of_getElem? (i := 14) rfl))) (mvT hZ (hw _ (List.mem_of_getElem? (i := 15) rfl))) (mvT hZ (hw _ (List.mem_of_getElem? (i := 16) rfl))) (by decide) (backOfS (W := 1) (rm3 l Z a0 hw [] n0 T7.heap O7 w_cache W b4 b5 b6 b7 x1 x2 x3 fa8 fa9 fa10 fa11 gx4 fa12 fa13 Ec7 fa14 fa15 Fc7 hv1 hv2 hv3) hZ (hw _ (List.mem_of_getElem? (i := 16) rfl)) (hw _ (List.mem_of_getElem? (i := 6) rfl)) (by decide) (by decide)) (g := (mkF m 40 #[.val (.int p0), .val (.int p1), .val (.int p2), .val (.int p3), .val (.int p4), .val (.int p5), .val (.int x1), .val (.int x2), .val (.int x3), .unset, .unset, .unset, .unset, .unset, .unset] [(.ref b7), (.ref b6), (.ref b5), (.ref b4), (.ref b4)])) rfl (by rw [hml]; rfl) (Steps.refl _) (a := b4) (argsL := [(.ref b5), (.ref b6), (.ref b7)]) (rest := [(.ref b4)]) (lenOf owpd7 rfl) rfl (by show 2 * 0 + _ ≤ _; exact Nat.le_of_eq rfl) (hb hby at_40) (fun _ _ => ⟨rfl, ee7, (by decide : 4 + 6 ≤ _), (by decide : 6 + 216 ≤ _)⟩)
  dsimp only [Pt.U, Pt.locs, Pt.cells, Pt.slots] at Xw16 hSw16 hgr16 l16 y16 z16 st16 hQ16
  subst l16 y16 z16
  obtain ⟨X16, hS16, hZ16, hown16⟩ := rebS hS0 (by rw [ee7]; exact hkk7) Xw16 hSw16 hgr16 hZ hown
  have hk16 := Nat.le_refl T16.heap.size
  obtain ⟨Nq16, hP16⟩ := hQ16
  have N16 := Fr.app N7 Nq16
  have ee16 : T16.heap = T16.heap := rfl
  obtain ⟨rfl, O16, Kc16, Ec16, F0c16, F1c16, F2c16⟩ := hP16
  have fa17 := (fa12.keep Kc16)
  have fa18 := (fa13.keep Kc16)
  have fa19 := (Ec7.keep Kc16)
  have fa20 := (fa14.keep Kc16 (ninS (Exa.ne fa17 Ec16 (by decide)) nin0))
  have fa21 := (fa15.keep Kc16 (ninS (Exa.ne fa18 Ec16 (by decide)) nin0))
  have fa22 := (Fc7.keep Kc16 (ninS (Exa.ne fa19 Ec16 (by decide)) nin0))
  obtain ⟨cq23, kq23, q23a, q23b, q23c⟩ := isOf hZ16 ee16 Ec16
  obtain ⟨_, _, ⟨T23, L23, k23, n23⟩, -, X23, ⟨Lc23, hQ23, l23, y23, z23⟩, st23⟩ := X16.virtualBack hx (y := (⟨"com/example/vestwright/vestwright/plan/Plan$ServiceBeforeBreaks", "keeps", "(III)Z"⟩ : MethodName)) (z := (⟨"com/example/vestwright/vestwright/plan/Plan$ServiceBeforeBreaks", "keeps", "(III)Z"⟩ : MethodName)) hown16 (mvT hZ16 (hw _ (List.mem_of_getElem? (i := 57) rfl))) (mvT hZ16 (hw _ (List.mem_of_getElem? (i := 58) rfl))) (notFace_of_selects (args := #[]) (mvT hZ16 (hw _ (List.mem_of_getElem? (i := 60) rfl)))) (mvT hZ16 (hw _ (List.mem_of_getElem? (i := 60) rfl))) (mvT hZ16 (hw _ (List.mem_of_getElem? (i := 59) rfl))) (by decide) (backOf (W := 0) (rm9 l Z a0 hw [] n0 T16.heap O16 w_cache W b4 b5 b6 b7 x1 x2 x3 p3 p4 p5 F0c16 F1c16 F2c16 fa17 fa18 fa19 fa20 fa21 fa22) hZ16 (hw _ (List.mem_of_getElem? (i := 61) rfl)) (hw _ (List.mem_of_getElem? (i := 6) rfl)) (by decide) (by decide)) q23a q23c (g := (mkF m 52 #[.val (.int p0), .val (.int p1), .val (.int p2), .val (.int p3), .val (.int p4), .val (.int p5), .val (.int x1), .val (.int x2), .val (.int x3), .val (.ref b4), .unset, .unset, .unset, .unset, .unset] [(.int p5), (.int p4), (.int p3), (.ref b4)])) rfl (by rw [hml]; rfl) (Steps.refl _) (argsL := [(.int p3), (.int p4), (.int p5)]) (rest := []) (lenOf owpd8 rfl) rfl (by show 2 * 0 + _ ≤ _; exact Nat.le_of_eq rfl) (hb hby at_52) (fun _ _ => ⟨rfl, ee16, (by decide : 10 + 0 ≤ _), (by decide : 222 + 0 ≤ _)⟩)
  dsimp only [Pt.U, Pt.locs, Pt.cells, Pt.slots] at X23 l23 y23 z23 st23 hQ23
  subst l23 y23 z23
  obtain ⟨rfl, Nq23, e23⟩ := hQ23
  have N23 := Fr.app N16 Nq23
  have sg24 : ∀ target, Steps p.tables e below (T23.setTop (mkF m 68 #[.val (.int p0), .val (.int p1), .val (.int p2), .val (.int p3), .val (.int p4), .val (.int p5), .val (.int x1), .val (.int x2), .val (.int x3), .val (.ref b4), .val (.int (if p3 < x1 then (if p4 < (if x2 < p3 then p3 else x2) then (if p5 < x3 then (0 : Int32) else (1 : Int32)) else (0 : Int32)) else (1 : Int32))), .unset, .unset, .unset, .unset] [(.int (if p3 < x1 then (0 : Int32) else (1 : Int32)))])) target → Steps p.tables e below (T23.setTop (mkF m 60 #[.val (.int p0), .val (.int p1), .val (.int p2), .val (.int p3), .val (.int p4), .val (.int p5), .val (.int x1), .val (.int x2), .val (.int x3), .val (.ref b4), .val (.int (if p3 < x1 then (if p4 < (if x2 < p3 then p3 else x2) then (if p5 < x3 then (0 : Int32) else (1 : Int32)) else (0 : Int32)) else (1 : Int32))), .unset, .unset, .unset, .unset] [(.int x1), (.int p3)])) target := by
    intro target kt
    by_cases hd24_0 : p3 < x1
    · show Steps p.tables e below (T23.setTop (mkF m 60 #[.val (.int p0), .val (.int p1), .val (.int p2), .val (.int p3), .val (.int p4), .val (.int p5), .val (.int x1), .val (.int x2), .val (.int x3), .val (.ref b4), .val (.int (if p3 < x1 then (if p4 < (if x2 < p3 then p3 else x2) then (if p5 < x3 then (0 : Int32) else (1 : Int32)) else (0 : Int32)) else (1 : Int32))), .unset, .unset, .unset, .unset] [(.int x1), (.int p3)])) _
      refine XS.icmpYes X23.here hx rfl (pc0 := 60) (pc' := 67) rfl (hb hby at_60) rfl (tlt hd24_0).1 (by decide) (by decide) ?_
      show Steps p.tables e below (T23.setTop (mkF m 67 #[.val (.int p0), .val (.int p1), .val (.int p2), .val (.int p3), .val (.int p4), .val (.int p5), .val (.int x1), .val (.int x2), .val (.int x3), .val (.ref b4), .val (.int (if p3 < x1 then (if p4 < (if x2 < p3 then p3 else x2) then (if p5 < x3 then (0 : Int32) else (1 : Int32)) else (0 : Int32)) else (1 : Int32))), .unset, .unset, .unset, .unset] [])) _
      refine XS.iconst X23.here hx rfl (hb hby at_67) ?_
      show Steps p.tables e below (T23.setTop (mkF m 68 #[.val (.int p0), .val (.int p1), .val (.int p2), .val (.int p3), .val (.int p4), .val (.int p5), .val (.int x1), .val (.int x2), .val (.int x3), .val (.ref b4), .val (.int (if p3 < x1 then (if p4 < (if x2 < p3 then p3 else x2) then (if p5 < x3 then (0 : Int32) else (1 : Int32)) else (0 : Int32)) else (1 : Int32))), .unset, .unset, .unset, .unset] [(.int (0 : Int32))])) _
      exact (by simpa only [if_pos hd24_0] using kt)
    · show Steps p.tables e below (T23.setTop (mkF m 60 #[.val (.int p0), .val (.int p1), .val (.int p2), .val (.int p3), .val (.int p4), .val (.int p5), .val (.int x1), .val (.int x2), .val (.int x3), .val (.ref b4), .val (.int (if p3 < x1 then (if p4 < (if x2 < p3 then p3 else x2) then (if p5 < x3 then (0 : Int32) else (1 : Int32)) else (0 : Int32)) else (1 : Int32))), .unset, .unset, .unset, .unset] [(.int x1), (.int p3)])) _
      refine XS.icmpNo X23.here hx rfl (hb hby at_60) rfl (flt hd24_0).1 ?_
      show Steps p.tables e below (T23.setTop (mkF m 63 #[.val (.int p0), .val (.int p1), .val (.int p2), .val (.int p3), .val (.int p4), .val (.int p5), .val (.int x1), .val (.int x2), .val (.int x3), .val (.ref b4), .val (.int (if p3 < x1 then (if p4 < (if x2 < p3 then p3 else x2) then (if p5 < x3 then (0 : Int32) else (1 : Int32)) else (0 : Int32)) else (1 : Int32))), .unset, .unset, .unset, .unset] [])) _
      refine XS.iconst X23.here hx rfl (hb hby at_63) ?_
      show Steps p.tables e below (T23.setTop (mkF m 64 #[.val (.int p0), .val (.int p1), .val (.int p2), .val (.int p3), .val (.int p4), .val (.int p5), .val (.int x1), .val (.int x2), .val (.int x3), .val (.ref b4), .val (.int (if p3 < x1 then (if p4 < (if x2 < p3 then p3 else x2) then (if p5 < x3 then (0 : Int32) else (1 : Int32)) else (0 : Int32)) else (1 : Int32))), .unset, .unset, .unset, .unset] [(.int (1 : Int32))])) _
      refine XS.goto X23.here hx rfl (pc0 := 64) (pc' := 68) rfl (hb hby at_64) (by decide) (by decide) ?_
      show Steps p.tables e below (T23.setTop (mkF m 68 #[.val (.int p0), .val (.int p1), .val (.int p2), .val (.int p3), .val (.int p4), .val (.int p5), .val (.int x1), .val (.int x2), .val (.int x3), .val (.ref b4), .val (.int (if p3 < x1 then (if p4 < (if x2 < p3 then p3 else x2) then (if p5 < x3 then (0 : Int32) else (1 : Int32)) else (0 : Int32)) else (1 : Int32))), .unset, .unset, .unset, .unset] [(.int (1 : Int32))])) _
      exact (by simpa only [if_neg hd24_0] using kt)
  have sg25 : ∀ target, Steps p.tables e below (T23.setTop (mkF m 88 #[.val (.int p0), .val (.int p1), .val (.int p2), .val (.int p3), .val (.int p4), .val (.int p5), .val (.int x1), .val (.int x2), .val (.int x3), .val (.ref b4), .val (.int (if p3 < x1 then (if p4 < (if x2 < p3 then p3 else x2) then (if p5 < x3 then (0 : Int32) else (1 : Int32)) else (0 : Int32)) else (1 : Int32))), .val (.int (if p3 < x1 then (0 : Int32) else (1 : Int32))), .unset, .unset, .unset] [(.int (if p4 < x2 then (1 : Int32) else (if p4 < p3 then (1 : Int32) else (0 : Int32))))])) target → Steps p.tables e below (T23.setTop (mkF m 74 #[.val (.int p0), .val (.int p1), .val (.int p2), .val (.int p3), .val (.int p4), .val (.int p5), .val (.int x1), .val (.int x2), .val (.int x3), .val (.ref b4), .val (.int (if p3 < x1 then (if p4 < (if x2 < p3 then p3 else x2) then (if p5 < x3 then (0 : Int32) else (1 : Int32)) else (0 : Int32)) else (1 : Int32))), .val (.int (if p3 < x1 then (0 : Int32) else (1 : Int32))), .unset, .unset, .unset] [(.int x2), (.int p4)])) target := by
    intro target kt
    by_cases hd25_0 : p4 < x2
    · show Steps p.tables e below (T23.setTop (mkF m 74 #[.val (.int p0), .val (.int p1), .val (.int p2), .val (.int p3), .val (.int p4), .val (.int p5), .val (.int x1), .val (.int x2), .val (.int x3), .val (.ref b4), .val (.int (if p3 < x1 then (if p4 < (if x2 < p3 then p3 else x2) then (if p5 < x3 then (0 : Int32) else (1 : Int32)) else (0 : Int32)) else (1 : Int32))), .val (.int (if p3 < x1 then (0 : Int32) else (1 : Int32))), .unset, .unset, .unset] [(.int x2), (.int p4)])) _
      refine XS.icmpYes X23.here hx rfl (pc0 := 74) (pc' := 83) rfl (hb hby at_74) rfl (tlt hd25_0).1 (by decide) (by decide) ?_
      show Steps p.tables e below (T23.setTop (mkF m 83 #[.val (.int p0), .val (.int p1), .val (.int p2), .val (.int p3), .val (.int p4), .val (.int p5), .val (.int x1), .val (.int x2), .val (.int x3), .val (.ref b4), .val (.int (if p3 < x1 then (if p4 < (if x2 < p3 then p3 else x2) then (if p5 < x3 then (0 : Int32) else (1 : Int32)) else (0 : Int32)) else (1 : Int32))), .val (.int (if p3 < x1 then (0 : Int32) else (1 : Int32))), .unset, .unset, .unset] [])) _
      refine XS.iconst X23.here hx rfl (hb hby at_83) ?_
      show Steps p.tables e below (T23.setTop (mkF m 84 #[.val (.int p0), .val (.int p1), .val (.int p2), .val (.int p3), .val (.int p4), .val (.int p5), .val (.int x1), .val (.int x2), .val (.int x3), .val (.ref b4), .val (.int (if p3 < x1 then (if p4 < (if x2 < p3 then p3 else x2) then (if p5 < x3 then (0 : Int32) else (1 : Int32)) else (0 : Int32)) else (1 : Int32))), .val (.int (if p3 < x1 then (0 : Int32) else (1 : Int32))), .unset, .unset, .unset] [(.int (1 : Int32))])) _
      refine XS.goto X23.here hx rfl (pc0 := 84) (pc' := 88) rfl (hb hby at_84) (by decide) (by decide) ?_
      show Steps p.tables e below (T23.setTop (mkF m 88 #[.val (.int p0), .val (.int p1), .val (.int p2), .val (.int p3), .val (.int p4), .val (.int p5), .val (.int x1), .val (.int x2), .val (.int x3), .val (.ref b4), .val (.int (if p3 < x1 then (if p4 < (if x2 < p3 then p3 else x2) then (if p5 < x3 then (0 : Int32) else (1 : Int32)) else (0 : Int32)) else (1 : Int32))), .val (.int (if p3 < x1 then (0 : Int32) else (1 : Int32))), .unset, .unset, .unset] [(.int (1 : Int32))])) _
      exact (by simpa only [if_pos hd25_0] using kt)
    · show Steps p.tables e below (T23.setTop (mkF m 74 #[.val (.int p0), .val (.int p1), .val (.int p2), .val (.int p3), .val (.int p4), .val (.int p5), .val (.int x1), .val (.int x2), .val (.int x3), .val (.ref b4), .val (.int (if p3 < x1 then (if p4 < (if x2 < p3 then p3 else x2) then (if p5 < x3 then (0 : Int32) else (1 : Int32)) else (0 : Int32)) else (1 : Int32))), .val (.int (if p3 < x1 then (0 : Int32) else (1 : Int32))), .unset, .unset, .unset] [(.int x2), (.int p4)])) _
      refine XS.icmpNo X23.here hx rfl (hb hby at_74) rfl (flt hd25_0).1 ?_
      show Steps p.tables e below (T23.setTop (mkF m 77 #[.val (.int p0), .val (.int p1), .val (.int p2), .val (.int p3), .val (.int p4), .val (.int p5), .val (.int x1), .val (.int x2), .val (.int x3), .val (.ref b4), .val (.int (if p3 < x1 then (if p4 < (if x2 < p3 then p3 else x2) then (if p5 < x3 then (0 : Int32) else (1 : Int32)) else (0 : Int32)) else (1 : Int32))), .val (.int (if p3 < x1 then (0 : Int32) else (1 : Int32))), .unset, .unset, .unset] [])) _
      refine XS.iload X23.here hx rfl (hb hby at_77) rfl ?_
      show Steps p.tables e below (T23.setTop (mkF m 79 #[.val (.int p0), .val (.int p1), .val (.int p2), .val (.int p3), .val (.int p4), .val (.int p5), .val (.int x1), .val (.int x2), .val (.int x3), .val (.ref b4), .val (.int (if p3 < x1 then (if p4 < (if x2 < p3 then p3 else x2) then (if p5 < x3 then (0 : Int32) else (1 : Int32)) else (0 : Int32)) else (1 : Int32))), .val (.int (if p3 < x1 then (0 : Int32) else (1 : Int32))), .unset, .unset, .unset] [(.int p4)])) _
      refine XS.iloadN X23.here hx rfl (hb hby at_79) rfl ?_
      by_cases hd25_1 : p4 < p3
      · show Steps p.tables e below (T23.setTop (mkF m 80 #[.val (.int p0), .val (.int p1), .val (.int p2), .val (.int p3), .val (.int p4), .val (.int p5), .val (.int x1), .val (.int x2), .val (.int x3), .val (.ref b4), .val (.int (if p3 < x1 then (if p4 < (if x2 < p3 then p3 else x2) then (if p5 < x3 then (0 : Int32) else (1 : Int32)) else (0 : Int32)) else (1 : Int32))), .val (.int (if p3 < x1 then (0 : Int32) else (1 : Int32))), .unset, .unset, .unset] [(.int p3), (.int p4)])) _
        refine XS.icmpNo X23.here hx rfl (hb hby at_80) rfl (tlt hd25_1).2.1 ?_
        show Steps p.tables e below (T23.setTop (mkF m 83 #[.val (.int p0), .val (.int p1), .val (.int p2), .val (.int p3), .val (.int p4), .val (.int p5), .val (.int x1), .val (.int x2), .val (.int x3), .val (.ref b4), .val (.int (if p3 < x1 then (if p4 < (if x2 < p3 then p3 else x2) then (if p5 < x3 then (0 : Int32) else (1 : Int32)) else (0 : Int32)) else (1 : Int32))), .val (.int (if p3 < x1 then (0 : Int32) else (1 : Int32))), .unset, .unset, .unset] [])) _
        refine XS.iconst X23.here hx rfl (hb hby at_83) ?_
        show Steps p.tables e below (T23.setTop (mkF m 84 #[.val (.int p0), .val (.int p1), .val (.int p2), .val (.int p3), .val (.int p4), .val (.int p5), .val (.int x1), .val (.int x2), .val (.int x3), .val (.ref b4), .val (.int (if p3 < x1 then (if p4 < (if x2 < p3 then p3 else x2) then (if p5 < x3 then (0 : Int32) else (1 : Int32)) else (0 : Int32)) else (1 : Int32))), .val (.int (if p3 < x1 then (0 : Int32) else (1 : Int32))), .unset, .unset, .unset] [(.int (1 : Int32))])) _
        refine XS.goto X23.here hx rfl (pc0 := 84) (pc' := 88) rfl (hb hby at_84) (by decide) (by decide) ?_
        show Steps p.tables e below (T23.setTop (mkF m 88 #[.val (.int p0), .val (.int p1), .val (.int p2), .val (.int p3), .val (.int p4), .val (.int p5), .val (.int x1), .val (.int x2), .val (.int x3), .val (.ref b4), .val (.int (if p3 < x1 then (if p4 < (if x2 < p3 then p3 else x2) then (if p5 < x3 then (0 : Int32) else (1 : Int32)) else (0 : Int32)) else (1 : Int32))), .val (.int (if p3 < x1 then (0 : Int32) else (1 : Int32))), .unset, .unset, .unset] [(.int (1 : Int32))])) _
        exact (by simpa only [if_neg hd25_0, if_pos hd25_1] using kt)
      · show Steps p.tables e below (T23.setTop (mkF m 80 #[.val (.int p0), .val (.int p1), .val (.int p2), .val (.int p3), .val (.int p4), .val (.int p5), .val (.int x1), .val (.int x2), .val (.int x3), .val (.ref b4), .val (.int (if p3 < x1 then (if p4 < (if x2 < p3 then p3 else x2) then (if p5 < x3 then (0 : Int32) else (1 : Int32)) else (0 : Int32)) else (1 : Int32))), .val (.int (if p3 < x1 then (0 : Int32) else (1 : Int32))), .unset, .unset, .unset] [(.int p3), (.int p4)])) _
        refine XS.icmpYes X23.here hx rfl (pc0 := 80) (pc' := 87) rfl (hb hby at_80) rfl (flt hd25_1).2.1 (by decide) (by decide) ?_
        show Steps p.tables e below (T23.setTop (mkF m 87 #[.val (.int p0), .val (.int p1), .val (.int p2), .val (.int p3), .val (.int p4), .val (.int p5), .val (.int x1), .val (.int x2), .val (.int x3), .val (.ref b4), .val (.int (if p3 < x1 then (if p4 < (if x2 < p3 then p3 else x2) then (if p5 < x3 then (0 : Int32) else (1 : Int32)) else (0 : Int32)) else (1 : Int32))), .val (.int (if p3 < x1 then (0 : Int32) else (1 : Int32))), .unset, .unset, .unset] [])) _
        refine XS.iconst X23.here hx rfl (hb hby at_87) ?_
        show Steps p.tables e below (T23.setTop (mkF m 88 #[.val (.int p0), .val (.int p1), .val (.int p2), .val (.int p3), .val (.int p4), .val (.int p5), .val (.int x1), .val (.int x2), .val (.int x3), .val (.ref b4), .val (.int (if p3 < x1 then (if p4 < (if x2 < p3 then p3 else x2) then (if p5 < x3 then (0 : Int32) else (1 : Int32)) else (0 : Int32)) else (1 : Int32))), .val (.int (if p3 < x1 then (0 : Int32) else (1 : Int32))), .unset, .unset, .unset] [(.int (0 : Int32))])) _
        exact (by simpa only [if_neg hd25_0, if_neg hd25_1] using kt)
  have sg26 : ∀ target, Steps p.tables e below (T23.setTop (mkF m 102 #[.val (.int p0), .val (.int p1), .val (.int p2), .val (.int p3), .val (.int p4), .val (.int p5), .val (.int x1), .val (.int x2), .val (.int x3), .val (.ref b4), .val (.int (if p3 < x1 then (if p4 < (if x2 < p3 then p3 else x2) then (if p5 < x3 then (0 : Int32) else (1 : Int32)) else (0 : Int32)) else (1 : Int32))), .val (.int (if p3 < x1 then (0 : Int32) else (1 : Int32))), .val (.int (if p4 < x2 then (1 : Int32) else (if p4 < p3 then (1 : Int32) else (0 : Int32)))), .unset, .unset] [(.int (if p5 < x3 then (0 : Int32) else (1 : Int32)))])) target → Steps p.tables e below (T23.setTop (mkF m 94 #[.val (.int p0), .val (.int p1), .val (.int p2), .val (.int p3), .val (.int p4), .val (.int p5), .val (.int x1), .val (.int x2), .val (.int x3), .val (.ref b4), .val (.int (if p3 < x1 then (if p4 < (if x2 < p3 then p3 else x2) then (if p5 < x3 then (0 : Int32) else (1 : Int32)) else (0 : Int32)) else (1 : Int32))), .val (.int (if p3 < x1 then (0 : Int32) else (1 : Int32))), .val (.int (if p4 < x2 then (1 : Int32) else (if p4 < p3 then (1 : Int32) else (0 : Int32)))), .unset, .unset] [(.int x3), (.int p5)])) target := by
    intro target kt
    by_cases hd26_0 : p5 < x3
    · show Steps p.tables e below (T23.setTop (mkF m 94 #[.val (.int p0), .val (.int p1), .val (.int p2), .val (.int p3), .val (.int p4), .val (.int p5), .val (.int x1), .val (.int x2), .val (.int x3), .val (.ref b4), .val (.int (if p3 < x1 then (if p4 < (if x2 < p3 then p3 else x2) then (if p5 < x3 then (0 : Int32) else (1 : Int32)) else (0 : Int32)) else (1 : Int32))), .val (.int (if p3 < x1 then (0 : Int32) else (1 : Int32))), .val (.int (if p4 < x2 then (1 : Int32) else (if p4 < p3 then (1 : Int32) else (0 : Int32)))), .unset, .unset] [(.int x3), (.int p5)])) _
      refine XS.icmpYes X23.here hx rfl (pc0 := 94) (pc' := 101) rfl (hb hby at_94) rfl (tlt hd26_0).1 (by decide) (by decide) ?_
      show Steps p.tables e below (T23.setTop (mkF m 101 #[.val (.int p0), .val (.int p1), .val (.int p2), .val (.int p3), .val (.int p4), .val (.int p5), .val (.int x1), .val (.int x2), .val (.int x3), .val (.ref b4), .val (.int (if p3 < x1 then (if p4 < (if x2 < p3 then p3 else x2) then (if p5 < x3 then (0 : Int32) else (1 : Int32)) else (0 : Int32)) else (1 : Int32))), .val (.int (if p3 < x1 then (0 : Int32) else (1 : Int32))), .val (.int (if p4 < x2 then (1 : Int32) else (if p4 < p3 then (1 : Int32) else (0 : Int32)))), .unset, .unset] [])) _
      refine XS.iconst X23.here hx rfl (hb hby at_101) ?_
      show Steps p.tables e below (T23.setTop (mkF m 102 #[.val (.int p0), .val (.int p1), .val (.int p2), .val (.int p3), .val (.int p4), .val (.int p5), .val (.int x1), .val (.int x2), .val (.int x3), .val (.ref b4), .val (.int (if p3 < x1 then (if p4 < (if x2 < p3 then p3 else x2) then (if p5 < x3 then (0 : Int32) else (1 : Int32)) else (0 : Int32)) else (1 : Int32))), .val (.int (if p3 < x1 then (0 : Int32) else (1 : Int32))), .val (.int (if p4 < x2 then (1 : Int32) else (if p4 < p3 then (1 : Int32) else (0 : Int32)))), .unset, .unset] [(.int (0 : Int32))])) _
      exact (by simpa only [if_pos hd26_0] using kt)
    · show Steps p.tables e below (T23.setTop (mkF m 94 #[.val (.int p0), .val (.int p1), .val (.int p2), .val (.int p3), .val (.int p4), .val (.int p5), .val (.int x1), .val (.int x2), .val (.int x3), .val (.ref b4), .val (.int (if p3 < x1 then (if p4 < (if x2 < p3 then p3 else x2) then (if p5 < x3 then (0 : Int32) else (1 : Int32)) else (0 : Int32)) else (1 : Int32))), .val (.int (if p3 < x1 then (0 : Int32) else (1 : Int32))), .val (.int (if p4 < x2 then (1 : Int32) else (if p4 < p3 then (1 : Int32) else (0 : Int32)))), .unset, .unset] [(.int x3), (.int p5)])) _
      refine XS.icmpNo X23.here hx rfl (hb hby at_94) rfl (flt hd26_0).1 ?_
      show Steps p.tables e below (T23.setTop (mkF m 97 #[.val (.int p0), .val (.int p1), .val (.int p2), .val (.int p3), .val (.int p4), .val (.int p5), .val (.int x1), .val (.int x2), .val (.int x3), .val (.ref b4), .val (.int (if p3 < x1 then (if p4 < (if x2 < p3 then p3 else x2) then (if p5 < x3 then (0 : Int32) else (1 : Int32)) else (0 : Int32)) else (1 : Int32))), .val (.int (if p3 < x1 then (0 : Int32) else (1 : Int32))), .val (.int (if p4 < x2 then (1 : Int32) else (if p4 < p3 then (1 : Int32) else (0 : Int32)))), .unset, .unset] [])) _
      refine XS.iconst X23.here hx rfl (hb hby at_97) ?_
      show Steps p.tables e below (T23.setTop (mkF m 98 #[.val (.int p0), .val (.int p1), .val (.int p2), .val (.int p3), .val (.int p4), .val (.int p5), .val (.int x1), .val (.int x2), .val (.int x3), .val (.ref b4), .val (.int (if p3 < x1 then (if p4 < (if x2 < p3 then p3 else x2) then (if p5 < x3 then (0 : Int32) else (1 : Int32)) else (0 : Int32)) else (1 : Int32))), .val (.int (if p3 < x1 then (0 : Int32) else (1 : Int32))), .val (.int (if p4 < x2 then (1 : Int32) else (if p4 < p3 then (1 : Int32) else (0 : Int32)))), .unset, .unset] [(.int (1 : Int32))])) _
      refine XS.goto X23.here hx rfl (pc0 := 98) (pc' := 102) rfl (hb hby at_98) (by decide) (by decide) ?_
      show Steps p.tables e below (T23.setTop (mkF m 102 #[.val (.int p0), .val (.int p1), .val (.int p2), .val (.int p3), .val (.int p4), .val (.int p5), .val (.int x1), .val (.int x2), .val (.int x3), .val (.ref b4), .val (.int (if p3 < x1 then (if p4 < (if x2 < p3 then p3 else x2) then (if p5 < x3 then (0 : Int32) else (1 : Int32)) else (0 : Int32)) else (1 : Int32))), .val (.int (if p3 < x1 then (0 : Int32) else (1 : Int32))), .val (.int (if p4 < x2 then (1 : Int32) else (if p4 < p3 then (1 : Int32) else (0 : Int32)))), .unset, .unset] [(.int (1 : Int32))])) _
      exact (by simpa only [if_neg hd26_0] using kt)
  have sg27 : ∀ target, Steps p.tables e below (T23.setTop (mkF m 124 #[.val (.int p0), .val (.int p1), .val (.int p2), .val (.int p3), .val (.int p4), .val (.int p5), .val (.int x1), .val (.int x2), .val (.int x3), .val (.ref b4), .val (.int (if p3 < x1 then (if p4 < (if x2 < p3 then p3 else x2) then (if p5 < x3 then (0 : Int32) else (1 : Int32)) else (0 : Int32)) else (1 : Int32))), .val (.int (if p3 < x1 then (0 : Int32) else (1 : Int32))), .val (.int (if p4 < x2 then (1 : Int32) else (if p4 < p3 then (1 : Int32) else (0 : Int32)))), .val (.int (if p5 < x3 then (0 : Int32) else (1 : Int32))), .unset] [(.int (if (if p3 < x1 then (0 : Int32) else (1 : Int32)) = (0 : Int32) then (if (if p4 < x2 then (1 : Int32) else (if p4 < p3 then (1 : Int32) else (0 : Int32))) = (0 : Int32) then (0 : Int32) else (if (if p5 < x3 then (0 : Int32) else (1 : Int32)) = (0 : Int32) then (0 : Int32) else (1 : Int32))) else (1 : Int32)))])) target → Steps p.tables e below (T23.setTop (mkF m 106 #[.val (.int p0), .val (.int p1), .val (.int p2), .val (.int p3), .val (.int p4), .val (.int p5), .val (.int x1), .val (.int x2), .val (.int x3), .val (.ref b4), .val (.int (if p3 < x1 then (if p4 < (if x2 < p3 then p3 else x2) then (if p5 < x3 then (0 : Int32) else (1 : Int32)) else (0 : Int32)) else (1 : Int32))), .val (.int (if p3 < x1 then (0 : Int32) else (1 : Int32))), .val (.int (if p4 < x2 then (1 : Int32) else (if p4 < p3 then (1 : Int32) else (0 : Int32)))), .val (.int (if p5 < x3 then (0 : Int32) else (1 : Int32))), .unset] [(.int (if p3 < x1 then (0 : Int32) else (1 : Int32)))])) target := by
    intro target kt
    by_cases hd27_0 : (if p3 < x1 then (0 : Int32) else (1 : Int32)) = (0 : Int32)
    · show Steps p.tables e below (T23.setTop (mkF m 106 #[.val (.int p0), .val (.int p1), .val (.int p2), .val (.int p3), .val (.int p4), .val (.int p5), .val (.int x1), .val (.int x2), .val (.int x3), .val (.ref b4), .val (.int (if p3 < x1 then (if p4 < (if x2 < p3 then p3 else x2) then (if p5 < x3 then (0 : Int32) else (1 : Int32)) else (0 : Int32)) else (1 : Int32))), .val (.int (if p3 < x1 then (0 : Int32) else (1 : Int32))), .val (.int (if p4 < x2 then (1 : Int32) else (if p4 < p3 then (1 : Int32) else (0 : Int32)))), .val (.int (if p5 < x3 then (0 : Int32) else (1 : Int32))), .unset] [(.int (if p3 < x1 then (0 : Int32) else (1 : Int32)))])) _
      refine XS.ifNo X23.here hx rfl (hb hby at_106) rfl ((if0 _ _).trans (teq hd27_0).2) ?_
      show Steps p.tables e below (T23.setTop (mkF m 109 #[.val (.int p0), .val (.int p1), .val (.int p2), .val (.int p3), .val (.int p4), .val (.int p5), .val (.int x1), .val (.int x2), .val (.int x3), .val (.ref b4), .val (.int (if p3 < x1 then (if p4 < (if x2 < p3 then p3 else x2) then (if p5 < x3 then (0 : Int32) else (1 : Int32)) else (0 : Int32)) else (1 : Int32))), .val (.int (if p3 < x1 then (0 : Int32) else (1 : Int32))), .val (.int (if p4 < x2 then (1 : Int32) else (if p4 < p3 then (1 : Int32) else (0 : Int32)))), .val (.int (if p5 < x3 then (0 : Int32) else (1 : Int32))), .unset] [])) _
      refine XS.iload X23.here hx rfl (hb hby at_109) rfl ?_
      by_cases hd27_1 : (if p4 < x2 then (1 : Int32) else (if p4 < p3 then (1 : Int32) else (0 : Int32))) = (0 : Int32)
      · show Steps p.tables e below (T23.setTop (mkF m 111 #[.val (.int p0), .val (.int p1), .val (.int p2), .val (.int p3), .val (.int p4), .val (.int p5), .val (.int x1), .val (.int x2), .val (.int x3), .val (.ref b4), .val (.int (if p3 < x1 then (if p4 < (if x2 < p3 then p3 else x2) then (if p5 < x3 then (0 : Int32) else (1 : Int32)) else (0 : Int32)) else (1 : Int32))), .val (.int (if p3 < x1 then (0 : Int32) else (1 : Int32))), .val (.int (if p4 < x2 then (1 : Int32) else (if p4 < p3 then (1 : Int32) else (0 : Int32)))), .val (.int (if p5 < x3 then (0 : Int32) else (1 : Int32))), .unset] [(.int (if p4 < x2 then (1 : Int32) else (if p4 < p3 then (1 : Int32) else (0 : Int32))))])) _
        refine XS.ifYes X23.here hx rfl (pc0 := 111) (pc' := 123) rfl (hb hby at_111) rfl ((if0 _ _).trans (teq hd27_1).1) (by decide) (by decide) ?_
        show Steps p.tables e below (T23.setTop (mkF m 123 #[.val (.int p0), .val (.int p1), .val (.int p2), .val (.int p3), .val (.int p4), .val (.int p5), .val (.int x1), .val (.int x2), .val (.int x3), .val (.ref b4), .val (.int (if p3 < x1 then (if p4 < (if x2 < p3 then p3 else x2) then (if p5 < x3 then (0 : Int32) else (1 : Int32)) else (0 : Int32)) else (1 : Int32))), .val (.int (if p3 < x1 then (0 : Int32) else (1 : Int32))), .val (.int (if p4 < x2 then (1 : Int32) else (if p4 < p3 then (1 : Int32) else (0 : Int32)))), .val (.int (if p5 < x3 then (0 : Int32) else (1 : Int32))), .unset] [])) _
        refine XS.iconst X23.here hx rfl (hb hby at_123) ?_
        show Steps p.tables e below (T23.setTop (mkF m 124 #[.val (.int p0), .val (.int p1), .val (.int p2), .val (.int p3), .val (.int p4), .val (.int p5), .val (.int x1), .val (.int x2), .val (.int x3), .val (.ref b4), .val (.int (if p3 < x1 then (if p4 < (if x2 < p3 then p3 else x2) then (if p5 < x3 then (0 : Int32) else (1 : Int32)) else (0 : Int32)) else (1 : Int32))), .val (.int (if p3 < x1 then (0 : Int32) else (1 : Int32))), .val (.int (if p4 < x2 then (1 : Int32) else (if p4 < p3 then (1 : Int32) else (0 : Int32)))), .val (.int (if p5 < x3 then (0 : Int32) else (1 : Int32))), .unset] [(.int (0 : Int32))])) _
        exact (by simpa only [if_pos hd27_0, if_pos hd27_1] using kt)
      · show Steps p.tables e below (T23.setTop (mkF m 111 #[.val (.int p0), .val (.int p1), .val (.int p2), .val (.int p3), .val (.int p4), .val (.int p5), .val (.int x1), .val (.int x2), .val (.int x3), .val (.ref b4), .val (.int (if p3 < x1 then (if p4 < (if x2 < p3 then p3 else x2) then (if p5 < x3 then (0 : Int32) else (1 : Int32)) else (0 : Int32)) else (1 : Int32))), .val (.int (if p3 < x1 then (0 : Int32) else (1 : Int32))), .val (.int (if p4 < x2 then (1 : Int32) else (if p4 < p3 then (1 : Int32) else (0 : Int32)))), .val (.int (if p5 < x3 then (0 : Int32) else (1 : Int32))), .unset] [(.int (if p4 < x2 then (1 : Int32) else (if p4 < p3 then (1 : Int32) else (0 : Int32))))])) _
        refine XS.ifNo X23.here hx rfl (hb hby at_111) rfl ((if0 _ _).trans (feq hd27_1).1) ?_
        show Steps p.tables e below (T23.setTop (mkF m 114 #[.val (.int p0), .val (.int p1), .val (.int p2), .val (.int p3), .val (.int p4), .val (.int p5), .val (.int x1), .val (.int x2), .val (.int x3), .val (.ref b4), .val (.int (if p3 < x1 then (if p4 < (if x2 < p3 then p3 else x2) then (if p5 < x3 then (0 : Int32) else (1 : Int32)) else (0 : Int32)) else (1 : Int32))), .val (.int (if p3 < x1 then (0 : Int32) else (1 : Int32))), .val (.int (if p4 < x2 then (1 : Int32) else (if p4 < p3 then (1 : Int32) else (0 : Int32)))), .val (.int (if p5 < x3 then (0 : Int32) else (1 : Int32))), .unset] [])) _
        refine XS.iload X23.here hx rfl (hb hby at_114) rfl ?_
        by_cases hd27_2 : (if p5 < x3 then (0 : Int32) else (1 : Int32)) = (0 : Int32)
        · show Steps p.tables e below (T23.setTop (mkF m 116 #[.val (.int p0), .val (.int p1), .val (.int p2), .val (.int p3), .val (.int p4), .val (.int p5), .val (.int x1), .val (.int x2), .val (.int x3), .val (.ref b4), .val (.int (if p3 < x1 then (if p4 < (if x2 < p3 then p3 else x2) then (if p5 < x3 then (0 : Int32) else (1 : Int32)) else (0 : Int32)) else (1 : Int32))), .val (.int (if p3 < x1 then (0 : Int32) else (1 : Int32))), .val (.int (if p4 < x2 then (1 : Int32) else (if p4 < p3 then (1 : Int32) else (0 : Int32)))), .val (.int (if p5 < x3 then (0 : Int32) else (1 : Int32))), .unset] [(.int (if p5 < x3 then (0 : Int32) else (1 : Int32)))])) _
          refine XS.ifYes X23.here hx rfl (pc0 := 116) (pc' := 123) rfl (hb hby at_116) rfl ((if0 _ _).trans (teq hd27_2).1) (by decide) (by decide) ?_
          show Steps p.tables e below (T23.setTop (mkF m 123 #[.val (.int p0), .val (.int p1), .val (.int p2), .val (.int p3), .val (.int p4), .val (.int p5), .val (.int x1), .val (.int x2), .val (.int x3), .val (.ref b4), .val (.int (if p3 < x1 then (if p4 < (if x2 < p3 then p3 else x2) then (if p5 < x3 then (0 : Int32) else (1 : Int32)) else (0 : Int32)) else (1 : Int32))), .val (.int (if p3 < x1 then (0 : Int32) else (1 : Int32))), .val (.int (if p4 < x2 then (1 : Int32) else (if p4 < p3 then (1 : Int32) else (0 : Int32)))), .val (.int (if p5 < x3 then (0 : Int32) else (1 : Int32))), .unset] [])) _
          refine XS.iconst X23.here hx rfl (hb hby at_123) ?_
          show Steps p.tables e below (T23.setTop (mkF m 124 #[.val (.int p0), .val (.int p1), .val (.int p2), .val (.int p3), .val (.int p4), .val (.int p5), .val (.int x1), .val (.int x2), .val (.int x3), .val (.ref b4), .val (.int (if p3 < x1 then (if p4 < (if x2 < p3 then p3 else x2) then (if p5 < x3 then (0 : Int32) else (1 : Int32)) else (0 : Int32)) else (1 : Int32))), .val (.int (if p3 < x1 then (0 : Int32) else (1 : Int32))), .val (.int (if p4 < x2 then (1 : Int32) else (if p4 < p3 then (1 : Int32) else (0 : Int32)))), .val (.int (if p5 < x3 then (0 : Int32) else (1 : Int32))), .unset] [(.int (0 : Int32))])) _
          exact (by simpa only [if_pos hd27_0, if_neg hd27_1, if_pos hd27_2] using kt)
        · show Steps p.tables e below (T23.setTop (mkF m 116 #[.val (.int p0), .val (.int p1), .val (.int p2), .val (.int p3), .val (.int p4), .val (.int p5), .val (.int x1), .val (.int x2), .val (.int x3), .val (.ref b4), .val (.int (if p3 < x1 then (if p4 < (if x2 < p3 then p3 else x2) then (if p5 < x3 then (0 : Int32) else (1 : Int32)) else (0 : Int32)) else (1 : Int32))), .val (.int (if p3 < x1 then (0 : Int32) else (1 : Int32))), .val (.int (if p4 < x2 then (1 : Int32) else (if p4 < p3 then (1 : Int32) else (0 : Int32)))), .val (.int (if p5 < x3 then (0 : Int32) else (1 : Int32))), .unset] [(.int (if p5 < x3 then (0 : Int32) else (1 : Int32)))])) _
          refine XS.ifNo X23.here hx rfl (hb hby at_116) rfl ((if0 _ _).trans (feq hd27_2).1) ?_
          show Steps p.tables e below (T23.setTop (mkF m 119 #[.val (.int p0), .val (.int p1), .val (.int p2), .val (.int p3), .val (.int p4), .val (.int p5), .val (.int x1), .val (.int x2), .val (.int x3), .val (.ref b4), .val (.int (if p3 < x1 then (if p4 < (if x2 < p3 then p3 else x2) then (if p5 < x3 then (0 : Int32) else (1 : Int32)) else (0 : Int32)) else (1 : Int32))), .val (.int (if p3 < x1 then (0 : Int32) else (1 : Int32))), .val (.int (if p4 < x2 then (1 : Int32) else (if p4 < p3 then (1 : Int32) else (0 : Int32)))), .val (.int (if p5 < x3 then (0 : Int32) else (1 : Int32))), .unset] [])) _
          refine XS.iconst X23.here hx rfl (hb hby at_119) ?_
          show Steps p.tables e below (T23.setTop (mkF m 120 #[.val (.int p0), .val (.int p1), .val (.int p2), .val (.int p3), .val (.int p4), .val (.int p5), .val (.int x1), .val (.int x2), .val (.int x3), .val (.ref b4), .val (.int (if p3 < x1 then (if p4 < (if x2 < p3 then p3 else x2) then (if p5 < x3 then (0 : Int32) else (1 : Int32)) else (0 : Int32)) else (1 : Int32))), .val (.int (if p3 < x1 then (0 : Int32) else (1 : Int32))), .val (.int (if p4 < x2 then (1 : Int32) else (if p4 < p3 then (1 : Int32) else (0 : Int32)))), .val (.int (if p5 < x3 then (0 : Int32) else (1 : Int32))), .unset] [(.int (1 : Int32))])) _
          refine XS.goto X23.here hx rfl (pc0 := 120) (pc' := 124) rfl (hb hby at_120) (by decide) (by decide) ?_
          show Steps p.tables e below (T23.setTop (mkF m 124 #[.val (.int p0), .val (.int p1), .val (.int p2), .val (.int p3), .val (.int p4), .val (.int p5), .val (.int x1), .val (.int x2), .val (.int x3), .val (.ref b4), .val (.int (if p3 < x1 then (if p4 < (if x2 < p3 then p3 else x2) then (if p5 < x3 then (0 : Int32) else (1 : Int32)) else (0 : Int32)) else (1 : Int32))), .val (.int (if p3 < x1 then (0 : Int32) else (1 : Int32))), .val (.int (if p4 < x2 then (1 : Int32) else (if p4 < p3 then (1 : Int32) else (0 : Int32)))), .val (.int (if p5 < x3 then (0 : Int32) else (1 : Int32))), .unset] [(.int (1 : Int32))])) _
          exact (by simpa only [if_pos hd27_0, if_neg hd27_1, if_neg hd27_2] using kt)
    · show Steps p.tables e below (T23.setTop (mkF m 106 #[.val (.int p0), .val (.int p1), .val (.int p2), .val (.int p3), .val (.int p4), .val (.int p5), .val (.int x1), .val (.int x2), .val (.int x3), .val (.ref b4), .val (.int (if p3 < x1 then (if p4 < (if x2 < p3 then p3 else x2) then (if p5 < x3 then (0 : Int32) else (1 : Int32)) else (0 : Int32)) else (1 : Int32))), .val (.int (if p3 < x1 then (0 : Int32) else (1 : Int32))), .val (.int (if p4 < x2 then (1 : Int32) else (if p4 < p3 then (1 : Int32) else (0 : Int32)))), .val (.int (if p5 < x3 then (0 : Int32) else (1 : Int32))), .unset] [(.int (if p3 < x1 then (0 : Int32) else (1 : Int32)))])) _
      refine XS.ifYes X23.here hx rfl (pc0 := 106) (pc' := 119) rfl (hb hby at_106) rfl ((if0 _ _).trans (feq hd27_0).2) (by decide) (by decide) ?_
      show Steps p.tables e below (T23.setTop (mkF m 119 #[.val (.int p0), .val (.int p1), .val (.int p2), .val (.int p3), .val (.int p4), .val (.int p5), .val (.int x1), .val (.int x2), .val (.int x3), .val (.ref b4), .val (.int (if p3 < x1 then (if p4 < (if x2 < p3 then p3 else x2) then (if p5 < x3 then (0 : Int32) else (1 : Int32)) else (0 : Int32)) else (1 : Int32))), .val (.int (if p3 < x1 then (0 : Int32) else (1 : Int32))), .val (.int (if p4 < x2 then (1 : Int32) else (if p4 < p3 then (1 : Int32) else (0 : Int32)))), .val (.int (if p5 < x3 then (0 : Int32) else (1 : Int32))), .unset] [])) _
      refine XS.iconst X23.here hx rfl (hb hby at_119) ?_
      show Steps p.tables e below (T23.setTop (mkF m 120 #[.val (.int p0), .val (.int p1), .val (.int p2), .val (.int p3), .val (.int p4), .val (.int p5), .val (.int x1), .val (.int x2), .val (.int x3), .val (.ref b4), .val (.int (if p3 < x1 then (if p4 < (if x2 < p3 then p3 else x2) then (if p5 < x3 then (0 : Int32) else (1 : Int32)) else (0 : Int32)) else (1 : Int32))), .val (.int (if p3 < x1 then (0 : Int32) else (1 : Int32))), .val (.int (if p4 < x2 then (1 : Int32) else (if p4 < p3 then (1 : Int32) else (0 : Int32)))), .val (.int (if p5 < x3 then (0 : Int32) else (1 : Int32))), .unset] [(.int (1 : Int32))])) _
      refine XS.goto X23.here hx rfl (pc0 := 120) (pc' := 124) rfl (hb hby at_120) (by decide) (by decide) ?_
      show Steps p.tables e below (T23.setTop (mkF m 124 #[.val (.int p0), .val (.int p1), .val (.int p2), .val (.int p3), .val (.int p4), .val (.int p5), .val (.int x1), .val (.int x2), .val (.int x3), .val (.ref b4), .val (.int (if p3 < x1 then (if p4 < (if x2 < p3 then p3 else x2) then (if p5 < x3 then (0 : Int32) else (1 : Int32)) else (0 : Int32)) else (1 : Int32))), .val (.int (if p3 < x1 then (0 : Int32) else (1 : Int32))), .val (.int (if p4 < x2 then (1 : Int32) else (if p4 < p3 then (1 : Int32) else (0 : Int32)))), .val (.int (if p5 < x3 then (0 : Int32) else (1 : Int32))), .unset] [(.int (1 : Int32))])) _
      exact (by simpa only [if_neg hd27_0] using kt)
  obtain ⟨fs, hr, hrun, hended, hend⟩ := X23.leaveW hS16 (by rw [e23]; exact hk16) (v := some (.int (1 : Int32))) (fun h => by rw [Bd.returns] at h; cases h)
  refine ⟨_, _, pre0 _ ?_, hrun, hended, _, _, rfl, ?_, hend.1, hend.2.1, hend.2.2.1, hend.2.2.2.mono (by decide) (by decide)⟩
  · show Steps p.tables e below (s₁.setTop (mkF m 0 #[.val (.int p0), .val (.int p1), .val (.int p2), .val (.int p3), .val (.int p4), .val (.int p5), .unset, .unset, .unset, .unset, .unset, .unset, .unset, .unset, .unset] [])) _
    refine XS.iconst Y0.here hx rfl (hb hby at_0) ?_
    show Steps p.tables e below (s₁.setTop (mkF m 1 #[.val (.int p0), .val (.int p1), .val (.int p2), .val (.int p3), .val (.int p4), .val (.int p5), .unset, .unset, .unset, .unset, .unset, .unset, .unset, .unset, .unset] [(.int (1 : Int32))])) _
    refine XS.iloadN Y0.here hx rfl (hb hby at_1) rfl ?_
    show Steps p.tables e below (s₁.setTop (mkF m 2 #[.val (.int p0), .val (.int p1), .val (.int p2), .val (.int p3), .val (.int p4), .val (.int p5), .unset, .unset, .unset, .unset, .unset, .unset, .unset, .unset, .unset] [(.int p0), (.int (1 : Int32))])) _
    refine st1 _ ?_
    show Steps p.tables e below (T1.setTop (mkF m 5 #[.val (.int p0), .val (.int p1), .val (.int p2), .val (.int p3), .val (.int p4), .val (.int p5), .unset, .unset, .unset, .unset, .unset, .unset, .unset, .unset, .unset] [(.int (if (1 : Int32) < p0 then p0 else (1 : Int32)))])) _
    rw [hx1]
    show Steps p.tables e below (T1.setTop (mkF m 5 #[.val (.int p0), .val (.int p1), .val (.int p2), .val (.int p3), .val (.int p4), .val (.int p5), .unset, .unset, .unset, .unset, .unset, .unset, .unset, .unset, .unset] [(.int x1)])) _
    refine XS.istore X1.here hx rfl (hb hby at_5) rfl (l' := #[.val (.int p0), .val (.int p1), .val (.int p2), .val (.int p3), .val (.int p4), .val (.int p5), .val (.int x1), .unset, .unset, .unset, .unset, .unset, .unset, .unset, .unset]) rfl ?_
    show Steps p.tables e below (T1.setTop (mkF m 7 #[.val (.int p0), .val (.int p1), .val (.int p2), .val (.int p3), .val (.int p4), .val (.int p5), .val (.int x1), .unset, .unset, .unset, .unset, .unset, .unset, .unset, .unset] [])) _
    refine XS.iconst X1.here hx rfl (hb hby at_7) ?_
    show Steps p.tables e below (T1.setTop (mkF m 8 #[.val (.int p0), .val (.int p1), .val (.int p2), .val (.int p3), .val (.int p4), .val (.int p5), .val (.int x1), .unset, .unset, .unset, .unset, .unset, .unset, .unset, .unset] [(.int (1 : Int32))])) _
    refine XS.iloadN X1.here hx rfl (hb hby at_8) rfl ?_
    show Steps p.tables e below (T1.setTop (mkF m 9 #[.val (.int p0), .val (.int p1), .val (.int p2), .val (.int p3), .val (.int p4), .val (.int p5), .val (.int x1), .unset, .unset, .unset, .unset, .unset, .unset, .unset, .unset] [(.int p1), (.int (1 : Int32))])) _
    refine st2 _ ?_
    show Steps p.tables e below (T2.setTop (mkF m 12 #[.val (.int p0), .val (.int p1), .val (.int p2), .val (.int p3), .val (.int p4), .val (.int p5), .val (.int x1), .unset, .unset, .unset, .unset, .unset, .unset, .unset, .unset] [(.int (if (1 : Int32) < p1 then p1 else (1 : Int32)))])) _
    rw [hx2]
    show Steps p.tables e below (T2.setTop (mkF m 12 #[.val (.int p0), .val (.int p1), .val (.int p2), .val (.int p3), .val (.int p4), .val (.int p5), .val (.int x1), .unset, .unset, .unset, .unset, .unset, .unset, .unset, .unset] [(.int x2)])) _
    refine XS.istore X2.here hx rfl (hb hby at_12) rfl (l' := #[.val (.int p0), .val (.int p1), .val (.int p2), .val (.int p3), .val (.int p4), .val (.int p5), .val (.int x1), .val (.int x2), .unset, .unset, .unset, .unset, .unset, .unset, .unset]) rfl ?_
    show Steps p.tables e below (T2.setTop (mkF m 14 #[.val (.int p0), .val (.int p1), .val (.int p2), .val (.int p3), .val (.int p4), .val (.int p5), .val (.int x1), .val (.int x2), .unset, .unset, .unset, .unset, .unset, .unset, .unset] [])) _
    refine XS.iconst X2.here hx rfl (hb hby at_14) ?_
    show Steps p.tables e below (T2.setTop (mkF m 15 #[.val (.int p0), .val (.int p1), .val (.int p2), .val (.int p3), .val (.int p4), .val (.int p5), .val (.int x1), .val (.int x2), .unset, .unset, .unset, .unset, .unset, .unset, .unset] [(.int (0 : Int32))])) _
    refine XS.iloadN X2.here hx rfl (hb hby at_15) rfl ?_
    show Steps p.tables e below (T2.setTop (mkF m 16 #[.val (.int p0), .val (.int p1), .val (.int p2), .val (.int p3), .val (.int p4), .val (.int p5), .val (.int x1), .val (.int x2), .unset, .unset, .unset, .unset, .unset, .unset, .unset] [(.int p2), (.int (0 : Int32))])) _
    refine st3 _ ?_
    show Steps p.tables e below (T3.setTop (mkF m 19 #[.val (.int p0), .val (.int p1), .val (.int p2), .val (.int p3), .val (.int p4), .val (.int p5), .val (.int x1), .val (.int x2), .unset, .unset, .unset, .unset, .unset, .unset, .unset] [(.int (if (0 : Int32) < p2 then p2 else (0 : Int32)))])) _
    rw [hx3]
    show Steps p.tables e below (T3.setTop (mkF m 19 #[.val (.int p0), .val (.int p1), .val (.int p2), .val (.int p3), .val (.int p4), .val (.int p5), .val (.int x1), .val (.int x2), .unset, .unset, .unset, .unset, .unset, .unset, .unset] [(.int x3)])) _
    refine XS.istore X3.here hx rfl (hb hby at_19) rfl (l' := #[.val (.int p0), .val (.int p1), .val (.int p2), .val (.int p3), .val (.int p4), .val (.int p5), .val (.int x1), .val (.int x2), .val (.int x3), .unset, .unset, .unset, .unset, .unset, .unset]) rfl ?_
    show Steps p.tables e below (T3.setTop (mkF m 21 #[.val (.int p0), .val (.int p1), .val (.int p2), .val (.int p3), .val (.int p4), .val (.int p5), .val (.int x1), .val (.int x2), .val (.int x3), .unset, .unset, .unset, .unset, .unset, .unset] [])) _
    refine st4 _ ?_
    show Steps p.tables e below (T4.setTop (mkF m 24 #[.val (.int p0), .val (.int p1), .val (.int p2), .val (.int p3), .val (.int p4), .val (.int p5), .val (.int x1), .val (.int x2), .val (.int x3), .unset, .unset, .unset, .unset, .unset, .unset] [(.ref b4)])) _
    refine XS.dup X4.here hx rfl (hb hby at_24) rfl rfl ?_
    show Steps p.tables e below (T4.setTop (mkF m 25 #[.val (.int p0), .val (.int p1), .val (.int p2), .val (.int p3), .val (.int p4), .val (.int p5), .val (.int x1), .val (.int x2), .val (.int x3), .unset, .unset, .unset, .unset, .unset, .unset] [(.ref b4), (.ref b4)])) _
    refine XS.iload X4.here hx rfl (hb hby at_25) rfl ?_
    show Steps p.tables e below (T4.setTop (mkF m 27 #[.val (.int p0), .val (.int p1), .val (.int p2), .val (.int p3), .val (.int p4), .val (.int p5), .val (.int x1), .val (.int x2), .val (.int x3), .unset, .unset, .unset, .unset, .unset, .unset] [(.int x1), (.ref b4), (.ref b4)])) _
    refine st5 _ ?_
    show Steps p.tables e below (T5.setTop (mkF m 30 #[.val (.int p0), .val (.int p1), .val (.int p2), .val (.int p3), .val (.int p4), .val (.int p5), .val (.int x1), .val (.int x2), .val (.int x3), .unset, .unset, .unset, .unset, .unset, .unset] [(.ref b5), (.ref b4), (.ref b4)])) _
    refine XS.iload X5.here hx rfl (hb hby at_30) rfl ?_
    show Steps p.tables e below (T5.setTop (mkF m 32 #[.val (.int p0), .val (.int p1), .val (.int p2), .val (.int p3), .val (.int p4), .val (.int p5), .val (.int x1), .val (.int x2), .val (.int x3), .unset, .unset, .unset, .unset, .unset, .unset] [(.int x2), (.ref b5), (.ref b4), (.ref b4)])) _
    refine st6 _ ?_
    show Steps p.tables e below (T6.setTop (mkF m 35 #[.val (.int p0), .val (.int p1), .val (.int p2), .val (.int p3), .val (.int p4), .val (.int p5), .val (.int x1), .val (.int x2), .val (.int x3), .unset, .unset, .unset, .unset, .unset, .unset] [(.ref b6), (.ref b5), (.ref b4), (.ref b4)])) _
    refine XS.iload X6.here hx rfl (hb hby at_35) rfl ?_
    show Steps p.tables e below (T6.setTop (mkF m 37 #[.val (.int p0), .val (.int p1), .val (.int p2), .val (.int p3), .val (.int p4), .val (.int p5), .val (.int x1), .val (.int x2), .val (.int x3), .unset, .unset, .unset, .unset, .unset, .unset] [(.int x3), (.ref b6), (.ref b5), (.ref b4), (.ref b4)])) _
    refine st7 _ ?_
    show Steps p.tables e below (T7.setTop (mkF m 40 #[.val (.int p0), .val (.int p1), .val (.int p2), .val (.int p3), .val (.int p4), .val (.int p5), .val (.int x1), .val (.int x2), .val (.int x3), .unset, .unset, .unset, .unset, .unset, .unset] [(.ref b7), (.ref b6), (.ref b5), (.ref b4), (.ref b4)])) _
    refine st16.trans ?_
    show Steps p.tables e below (T16.setTop (mkF m 43 #[.val (.int p0), .val (.int p1), .val (.int p2), .val (.int p3), .val (.int p4), .val (.int p5), .val (.int x1), .val (.int x2), .val (.int x3), .unset, .unset, .unset, .unset, .unset, .unset] [(.ref b4)])) _
    refine XS.astore X16.here hx rfl (hb hby at_43) rfl rfl (l' := #[.val (.int p0), .val (.int p1), .val (.int p2), .val (.int p3), .val (.int p4), .val (.int p5), .val (.int x1), .val (.int x2), .val (.int x3), .val (.ref b4), .unset, .unset, .unset, .unset, .unset]) rfl ?_
    show Steps p.tables e below (T16.setTop (mkF m 45 #[.val (.int p0), .val (.int p1), .val (.int p2), .val (.int p3), .val (.int p4), .val (.int p5), .val (.int x1), .val (.int x2), .val (.int x3), .val (.ref b4), .unset, .unset, .unset, .unset, .unset] [])) _
    refine XS.aload X16.here hx rfl (hb hby at_45) rfl rfl ?_
    show Steps p.tables e below (T16.setTop (mkF m 47 #[.val (.int p0), .val (.int p1), .val (.int p2), .val (.int p3), .val (.int p4), .val (.int p5), .val (.int x1), .val (.int x2), .val (.int x3), .val (.ref b4), .unset, .unset, .unset, .unset, .unset] [(.ref b4)])) _
    refine XS.iloadN X16.here hx rfl (hb hby at_47) rfl ?_
    show Steps p.tables e below (T16.setTop (mkF m 48 #[.val (.int p0), .val (.int p1), .val (.int p2), .val (.int p3), .val (.int p4), .val (.int p5), .val (.int x1), .val (.int x2), .val (.int x3), .val (.ref b4), .unset, .unset, .unset, .unset, .unset] [(.int p3), (.ref b4)])) _
    refine XS.iload X16.here hx rfl (hb hby at_48) rfl ?_
    show Steps p.tables e below (T16.setTop (mkF m 50 #[.val (.int p0), .val (.int p1), .val (.int p2), .val (.int p3), .val (.int p4), .val (.int p5), .val (.int x1), .val (.int x2), .val (.int x3), .val (.ref b4), .unset, .unset, .unset, .unset, .unset] [(.int p4), (.int p3), (.ref b4)])) _
    refine XS.iload X16.here hx rfl (hb hby at_50) rfl ?_
    show Steps p.tables e below (T16.setTop (mkF m 52 #[.val (.int p0), .val (.int p1), .val (.int p2), .val (.int p3), .val (.int p4), .val (.int p5), .val (.int x1), .val (.int x2), .val (.int x3), .val (.ref b4), .unset, .unset, .unset, .unset, .unset] [(.int p5), (.int p4), (.int p3), (.ref b4)])) _
    refine st23.trans ?_
    show Steps p.tables e below (T23.setTop (mkF m 55 #[.val (.int p0), .val (.int p1), .val (.int p2), .val (.int p3), .val (.int p4), .val (.int p5), .val (.int x1), .val (.int x2), .val (.int x3), .val (.ref b4), .unset, .unset, .unset, .unset, .unset] [(.int (if p3 < x1 then (if p4 < (if x2 < p3 then p3 else x2) then (if p5 < x3 then (0 : Int32) else (1 : Int32)) else (0 : Int32)) else (1 : Int32)))])) _
    refine XS.istore X23.here hx rfl (hb hby at_55) rfl (l' := #[.val (.int p0), .val (.int p1), .val (.int p2), .val (.int p3), .val (.int p4), .val (.int p5), .val (.int x1), .val (.int x2), .val (.int x3), .val (.ref b4), .val (.int (if p3 < x1 then (if p4 < (if x2 < p3 then p3 else x2) then (if p5 < x3 then (0 : Int32) else (1 : Int32)) else (0 : Int32)) else (1 : Int32))), .unset, .unset, .unset, .unset]) rfl ?_
    show Steps p.tables e below (T23.setTop (mkF m 57 #[.val (.int p0), .val (.int p1), .val (.int p2), .val (.int p3), .val (.int p4), .val (.int p5), .val (.int x1), .val (.int x2), .val (.int x3), .val (.ref b4), .val (.int (if p3 < x1 then (if p4 < (if x2 < p3 then p3 else x2) then (if p5 < x3 then (0 : Int32) else (1 : Int32)) else (0 : Int32)) else (1 : Int32))), .unset, .unset, .unset, .unset] [])) _
    refine XS.iloadN X23.here hx rfl (hb hby at_57) rfl ?_
    show Steps p.tables e below (T23.setTop (mkF m 58 #[.val (.int p0), .val (.int p1), .val (.int p2), .val (.int p3), .val (.int p4), .val (.int p5), .val (.int x1), .val (.int x2), .val (.int x3), .val (.ref b4), .val (.int (if p3 < x1 then (if p4 < (if x2 < p3 then p3 else x2) then (if p5 < x3 then (0 : Int32) else (1 : Int32)) else (0 : Int32)) else (1 : Int32))), .unset, .unset, .unset, .unset] [(.int p3)])) _
    refine XS.iload X23.here hx rfl (hb hby at_58) rfl ?_
    show Steps p.tables e below (T23.setTop (mkF m 60 #[.val (.int p0), .val (.int p1), .val (.int p2), .val (.int p3), .val (.int p4), .val (.int p5), .val (.int x1), .val (.int x2), .val (.int x3), .val (.ref b4), .val (.int (if p3 < x1 then (if p4 < (if x2 < p3 then p3 else x2) then (if p5 < x3 then (0 : Int32) else (1 : Int32)) else (0 : Int32)) else (1 : Int32))), .unset, .unset, .unset, .unset] [(.int x1), (.int p3)])) _
    refine sg24 _ ?_
    show Steps p.tables e below (T23.setTop (mkF m 68 #[.val (.int p0), .val (.int p1), .val (.int p2), .val (.int p3), .val (.int p4), .val (.int p5), .val (.int x1), .val (.int x2), .val (.int x3), .val (.ref b4), .val (.int (if p3 < x1 then (if p4 < (if x2 < p3 then p3 else x2) then (if p5 < x3 then (0 : Int32) else (1 : Int32)) else (0 : Int32)) else (1 : Int32))), .unset, .unset, .unset, .unset] [(.int (if p3 < x1 then (0 : Int32) else (1 : Int32)))])) _
    refine XS.istore X23.here hx rfl (hb hby at_68) rfl (l' := #[.val (.int p0), .val (.int p1), .val (.int p2), .val (.int p3), .val (.int p4), .val (.int p5), .val (.int x1), .val (.int x2), .val (.int x3), .val (.ref b4), .val (.int (if p3 < x1 then (if p4 < (if x2 < p3 then p3 else x2) then (if p5 < x3 then (0 : Int32) else (1 : Int32)) else (0 : Int32)) else (1 : Int32))), .val (.int (if p3 < x1 then (0 : Int32) else (1 : Int32))), .unset, .unset, .unset]) rfl ?_
    show Steps p.tables e below (T23.setTop (mkF m 70 #[.val (.int p0), .val (.int p1), .val (.int p2), .val (.int p3), .val (.int p4), .val (.int p5), .val (.int x1), .val (.int x2), .val (.int x3), .val (.ref b4), .val (.int (if p3 < x1 then (if p4 < (if x2 < p3 then p3 else x2) then (if p5 < x3 then (0 : Int32) else (1 : Int32)) else (0 : Int32)) else (1 : Int32))), .val (.int (if p3 < x1 then (0 : Int32) else (1 : Int32))), .unset, .unset, .unset] [])) _
    refine XS.iload X23.here hx rfl (hb hby at_70) rfl ?_
    show Steps p.tables e below (T23.setTop (mkF m 72 #[.val (.int p0), .val (.int p1), .val (.int p2), .val (.int p3), .val (.int p4), .val (.int p5), .val (.int x1), .val (.int x2), .val (.int x3), .val (.ref b4), .val (.int (if p3 < x1 then (if p4 < (if x2 < p3 then p3 else x2) then (if p5 < x3 then (0 : Int32) else (1 : Int32)) else (0 : Int32)) else (1 : Int32))), .val (.int (if p3 < x1 then (0 : Int32) else (1 : Int32))), .unset, .unset, .unset] [(.int p4)])) _
    refine XS.iload X23.here hx rfl (hb hby at_72) rfl ?_
    show Steps p.tables e below (T23.setTop (mkF m 74 #[.val (.int p0), .val (.int p1), .val (.int p2), .val (.int p3), .val (.int p4), .val (.int p5), .val (.int x1), .val (.int x2), .val (.int x3), .val (.ref b4), .val (.int (if p3 < x1 then (if p4 < (if x2 < p3 then p3 else x2) then (if p5 < x3 then (0 : Int32) else (1 : Int32)) else (0 : Int32)) else (1 : Int32))), .val (.int (if p3 < x1 then (0 : Int32) else (1 : Int32))), .unset, .unset, .unset] [(.int x2), (.int p4)])) _
    refine sg25 _ ?_
    show Steps p.tables e below (T23.setTop (mkF m 88 #[.val (.int p0), .val (.int p1), .val (.int p2), .val (.int p3), .val (.int p4), .val (.int p5), .val (.int x1), .val (.int x2), .val (.int x3), .val (.ref b4), .val (.int (if p3 < x1 then (if p4 < (if x2 < p3 then p3 else x2) then (if p5 < x3 then (0 : Int32) else (1 : Int32)) else (0 : Int32)) else (1 : Int32))), .val (.int (if p3 < x1 then (0 : Int32) else (1 : Int32))), .unset, .unset, .unset] [(.int (if p4 < x2 then (1 : Int32) else (if p4 < p3 then (1 : Int32) else (0 : Int32))))])) _
    refine XS.istore X23.here hx rfl (hb hby at_88) rfl (l' := #[.val (.int p0), .val (.int p1), .val (.int p2), .val (.int p3), .val (.int p4), .val (.int p5), .val (.int x1), .val (.int x2), .val (.int x3), .val (.ref b4), .val (.int (if p3 < x1 then (if p4 < (if x2 < p3 then p3 else x2) then (if p5 < x3 then (0 : Int32) else (1 : Int32)) else (0 : Int32)) else (1 : Int32))), .val (.int (if p3 < x1 then (0 : Int32) else (1 : Int32))), .val (.int (if p4 < x2 then (1 : Int32) else (if p4 < p3 then (1 : Int32) else (0 : Int32)))), .unset, .unset]) rfl ?_
    show Steps p.tables e below (T23.setTop (mkF m 90 #[.val (.int p0), .val (.int p1), .val (.int p2), .val (.int p3), .val (.int p4), .val (.int p5), .val (.int x1), .val (.int x2), .val (.int x3), .val (.ref b4), .val (.int (if p3 < x1 then (if p4 < (if x2 < p3 then p3 else x2) then (if p5 < x3 then (0 : Int32) else (1 : Int32)) else (0 : Int32)) else (1 : Int32))), .val (.int (if p3 < x1 then (0 : Int32) else (1 : Int32))), .val (.int (if p4 < x2 then (1 : Int32) else (if p4 < p3 then (1 : Int32) else (0 : Int32)))), .unset, .unset] [])) _
    refine XS.iload X23.here hx rfl (hb hby at_90) rfl ?_
    show Steps p.tables e below (T23.setTop (mkF m 92 #[.val (.int p0), .val (.int p1), .val (.int p2), .val (.int p3), .val (.int p4), .val (.int p5), .val (.int x1), .val (.int x2), .val (.int x3), .val (.ref b4), .val (.int (if p3 < x1 then (if p4 < (if x2 < p3 then p3 else x2) then (if p5 < x3 then (0 : Int32) else (1 : Int32)) else (0 : Int32)) else (1 : Int32))), .val (.int (if p3 < x1 then (0 : Int32) else (1 : Int32))), .val (.int (if p4 < x2 then (1 : Int32) else (if p4 < p3 then (1 : Int32) else (0 : Int32)))), .unset, .unset] [(.int p5)])) _
    refine XS.iload X23.here hx rfl (hb hby at_92) rfl ?_
    show Steps p.tables e below (T23.setTop (mkF m 94 #[.val (.int p0), .val (.int p1), .val (.int p2), .val (.int p3), .val (.int p4), .val (.int p5), .val (.int x1), .val (.int x2), .val (.int x3), .val (.ref b4), .val (.int (if p3 < x1 then (if p4 < (if x2 < p3 then p3 else x2) then (if p5 < x3 then (0 : Int32) else (1 : Int32)) else (0 : Int32)) else (1 : Int32))), .val (.int (if p3 < x1 then (0 : Int32) else (1 : Int32))), .val (.int (if p4 < x2 then (1 : Int32) else (if p4 < p3 then (1 : Int32) else (0 : Int32)))), .unset, .unset] [(.int x3), (.int p5)])) _
    refine sg26 _ ?_
    show Steps p.tables e below (T23.setTop (mkF m 102 #[.val (.int p0), .val (.int p1), .val (.int p2), .val (.int p3), .val (.int p4), .val (.int p5), .val (.int x1), .val (.int x2), .val (.int x3), .val (.ref b4), .val (.int (if p3 < x1 then (if p4 < (if x2 < p3 then p3 else x2) then (if p5 < x3 then (0 : Int32) else (1 : Int32)) else (0 : Int32)) else (1 : Int32))), .val (.int (if p3 < x1 then (0 : Int32) else (1 : Int32))), .val (.int (if p4 < x2 then (1 : Int32) else (if p4 < p3 then (1 : Int32) else (0 : Int32)))), .unset, .unset] [(.int (if p5 < x3 then (0 : Int32) else (1 : Int32)))])) _
    refine XS.istore X23.here hx rfl (hb hby at_102) rfl (l' := #[.val (.int p0), .val (.int p1), .val (.int p2), .val (.int p3), .val (.int p4), .val (.int p5), .val (.int x1), .val (.int x2), .val (.int x3), .val (.ref b4), .val (.int (if p3 < x1 then (if p4 < (if x2 < p3 then p3 else x2) then (if p5 < x3 then (0 : Int32) else (1 : Int32)) else (0 : Int32)) else (1 : Int32))), .val (.int (if p3 < x1 then (0 : Int32) else (1 : Int32))), .val (.int (if p4 < x2 then (1 : Int32) else (if p4 < p3 then (1 : Int32) else (0 : Int32)))), .val (.int (if p5 < x3 then (0 : Int32) else (1 : Int32))), .unset]) rfl ?_
    show Steps p.tables e below (T23.setTop (mkF m 104 #[.val (.int p0), .val (.int p1), .val (.int p2), .val (.int p3), .val (.int p4), .val (.int p5), .val (.int x1), .val (.int x2), .val (.int x3), .val (.ref b4), .val (.int (if p3 < x1 then (if p4 < (if x2 < p3 then p3 else x2) then (if p5 < x3 then (0 : Int32) else (1 : Int32)) else (0 : Int32)) else (1 : Int32))), .val (.int (if p3 < x1 then (0 : Int32) else (1 : Int32))), .val (.int (if p4 < x2 then (1 : Int32) else (if p4 < p3 then (1 : Int32) else (0 : Int32)))), .val (.int (if p5 < x3 then (0 : Int32) else (1 : Int32))), .unset] [])) _
    refine XS.iload X23.here hx rfl (hb hby at_104) rfl ?_
    show Steps p.tables e below (T23.setTop (mkF m 106 #[.val (.int p0), .val (.int p1), .val (.int p2), .val (.int p3), .val (.int p4), .val (.int p5), .val (.int x1), .val (.int x2), .val (.int x3), .val (.ref b4), .val (.int (if p3 < x1 then (if p4 < (if x2 < p3 then p3 else x2) then (if p5 < x3 then (0 : Int32) else (1 : Int32)) else (0 : Int32)) else (1 : Int32))), .val (.int (if p3 < x1 then (0 : Int32) else (1 : Int32))), .val (.int (if p4 < x2 then (1 : Int32) else (if p4 < p3 then (1 : Int32) else (0 : Int32)))), .val (.int (if p5 < x3 then (0 : Int32) else (1 : Int32))), .unset] [(.int (if p3 < x1 then (0 : Int32) else (1 : Int32)))])) _
    refine sg27 _ ?_
    show Steps p.tables e below (T23.setTop (mkF m 124 #[.val (.int p0), .val (.int p1), .val (.int p2), .val (.int p3), .val (.int p4), .val (.int p5), .val (.int x1), .val (.int x2), .val (.int x3), .val (.ref b4), .val (.int (if p3 < x1 then (if p4 < (if x2 < p3 then p3 else x2) then (if p5 < x3 then (0 : Int32) else (1 : Int32)) else (0 : Int32)) else (1 : Int32))), .val (.int (if p3 < x1 then (0 : Int32) else (1 : Int32))), .val (.int (if p4 < x2 then (1 : Int32) else (if p4 < p3 then (1 : Int32) else (0 : Int32)))), .val (.int (if p5 < x3 then (0 : Int32) else (1 : Int32))), .unset] [(.int (if (if p3 < x1 then (0 : Int32) else (1 : Int32)) = (0 : Int32) then (if (if p4 < x2 then (1 : Int32) else (if p4 < p3 then (1 : Int32) else (0 : Int32))) = (0 : Int32) then (0 : Int32) else (if (if p5 < x3 then (0 : Int32) else (1 : Int32)) = (0 : Int32) then (0 : Int32) else (1 : Int32))) else (1 : Int32)))])) _
    refine XS.istore X23.here hx rfl (hb hby at_124) rfl (l' := #[.val (.int p0), .val (.int p1), .val (.int p2), .val (.int p3), .val (.int p4), .val (.int p5), .val (.int x1), .val (.int x2), .val (.int x3), .val (.ref b4), .val (.int (if p3 < x1 then (if p4 < (if x2 < p3 then p3 else x2) then (if p5 < x3 then (0 : Int32) else (1 : Int32)) else (0 : Int32)) else (1 : Int32))), .val (.int (if p3 < x1 then (0 : Int32) else (1 : Int32))), .val (.int (if p4 < x2 then (1 : Int32) else (if p4 < p3 then (1 : Int32) else (0 : Int32)))), .val (.int (if p5 < x3 then (0 : Int32) else (1 : Int32))), .val (.int (if (if p3 < x1 then (0 : Int32) else (1 : Int32)) = (0 : Int32) then (if (if p4 < x2 then (1 : Int32) else (if p4 < p3 then (1 : Int32) else (0 : Int32))) = (0 : Int32) then (0 : Int32) else (if (if p5 < x3 then (0 : Int32) else (1 : Int32)) = (0 : Int32) then (0 : Int32) else (1 : Int32))) else (1 : Int32)))]) rfl ?_
    show Steps p.tables e below (T23.setTop (mkF m 126 #[.val (.int p0), .val (.int p1), .val (.int p2), .val (.int p3), .val (.int p4), .val (.int p5), .val (.int x1), .val (.int x2), .val (.int x3), .val (.ref b4), .val (.int (if p3 < x1 then (if p4 < (if x2 < p3 then p3 else x2) then (if p5 < x3 then (0 : Int32) else (1 : Int32)) else (0 : Int32)) else (1 : Int32))), .val (.int (if p3 < x1 then (0 : Int32) else (1 : Int32))), .val (.int (if p4 < x2 then (1 : Int32) else (if p4 < p3 then (1 : Int32) else (0 : Int32)))), .val (.int (if p5 < x3 then (0 : Int32) else (1 : Int32))), .val (.int (if (if p3 < x1 then (0 : Int32) else (1 : Int32)) = (0 : Int32) then (if (if p4 < x2 then (1 : Int32) else (if p4 < p3 then (1 : Int32) else (0 : Int32))) = (0 : Int32) then (0 : Int32) else (if (if p5 < x3 then (0 : Int32) else (1 : Int32)) = (0 : Int32) then (0 : Int32) else (1 : Int32))) else (1 : Int32)))] [])) _
    refine XS.iload X23.here hx rfl (hb hby at_126) rfl ?_
    show Steps p.tables e below (T23.setTop (mkF m 128 #[.val (.int p0), .val (.int p1), .val (.int p2), .val (.int p3), .val (.int p4), .val (.int p5), .val (.int x1), .val (.int x2), .val (.int x3), .val (.ref b4), .val (.int (if p3 < x1 then (if p4 < (if x2 < p3 then p3 else x2) then (if p5 < x3 then (0 : Int32) else (1 : Int32)) else (0 : Int32)) else (1 : Int32))), .val (.int (if p3 < x1 then (0 : Int32) else (1 : Int32))), .val (.int (if p4 < x2 then (1 : Int32) else (if p4 < p3 then (1 : Int32) else (0 : Int32)))), .val (.int (if p5 < x3 then (0 : Int32) else (1 : Int32))), .val (.int (if (if p3 < x1 then (0 : Int32) else (1 : Int32)) = (0 : Int32) then (if (if p4 < x2 then (1 : Int32) else (if p4 < p3 then (1 : Int32) else (0 : Int32))) = (0 : Int32) then (0 : Int32) else (if (if p5 < x3 then (0 : Int32) else (1 : Int32)) = (0 : Int32) then (0 : Int32) else (1 : Int32))) else (1 : Int32)))] [(.int (if p3 < x1 then (if p4 < (if x2 < p3 then p3 else x2) then (if p5 < x3 then (0 : Int32) else (1 : Int32)) else (0 : Int32)) else (1 : Int32)))])) _
    refine XS.iload X23.here hx rfl (hb hby at_128) rfl ?_
    show Steps p.tables e below (T23.setTop (mkF m 130 #[.val (.int p0), .val (.int p1), .val (.int p2), .val (.int p3), .val (.int p4), .val (.int p5), .val (.int x1), .val (.int x2), .val (.int x3), .val (.ref b4), .val (.int (if p3 < x1 then (if p4 < (if x2 < p3 then p3 else x2) then (if p5 < x3 then (0 : Int32) else (1 : Int32)) else (0 : Int32)) else (1 : Int32))), .val (.int (if p3 < x1 then (0 : Int32) else (1 : Int32))), .val (.int (if p4 < x2 then (1 : Int32) else (if p4 < p3 then (1 : Int32) else (0 : Int32)))), .val (.int (if p5 < x3 then (0 : Int32) else (1 : Int32))), .val (.int (if (if p3 < x1 then (0 : Int32) else (1 : Int32)) = (0 : Int32) then (if (if p4 < x2 then (1 : Int32) else (if p4 < p3 then (1 : Int32) else (0 : Int32))) = (0 : Int32) then (0 : Int32) else (if (if p5 < x3 then (0 : Int32) else (1 : Int32)) = (0 : Int32) then (0 : Int32) else (1 : Int32))) else (1 : Int32)))] [(.int (if (if p3 < x1 then (0 : Int32) else (1 : Int32)) = (0 : Int32) then (if (if p4 < x2 then (1 : Int32) else (if p4 < p3 then (1 : Int32) else (0 : Int32))) = (0 : Int32) then (0 : Int32) else (if (if p5 < x3 then (0 : Int32) else (1 : Int32)) = (0 : Int32) then (0 : Int32) else (1 : Int32))) else (1 : Int32))), (.int (if p3 < x1 then (if p4 < (if x2 < p3 then p3 else x2) then (if p5 < x3 then (0 : Int32) else (1 : Int32)) else (0 : Int32)) else (1 : Int32)))])) _
    refine XS.icmpNo X23.here hx rfl (hb hby at_130) rfl (teq (own_fin x1 x2 x3 p3 p4 p5)).2 ?_
    show Steps p.tables e below (T23.setTop (mkF m 133 #[.val (.int p0), .val (.int p1), .val (.int p2), .val (.int p3), .val (.int p4), .val (.int p5), .val (.int x1), .val (.int x2), .val (.int x3), .val (.ref b4), .val (.int (if p3 < x1 then (if p4 < (if x2 < p3 then p3 else x2) then (if p5 < x3 then (0 : Int32) else (1 : Int32)) else (0 : Int32)) else (1 : Int32))), .val (.int (if p3 < x1 then (0 : Int32) else (1 : Int32))), .val (.int (if p4 < x2 then (1 : Int32) else (if p4 < p3 then (1 : Int32) else (0 : Int32)))), .val (.int (if p5 < x3 then (0 : Int32) else (1 : Int32))), .val (.int (if (if p3 < x1 then (0 : Int32) else (1 : Int32)) = (0 : Int32) then (if (if p4 < x2 then (1 : Int32) else (if p4 < p3 then (1 : Int32) else (0 : Int32))) = (0 : Int32) then (0 : Int32) else (if (if p5 < x3 then (0 : Int32) else (1 : Int32)) = (0 : Int32) then (0 : Int32) else (1 : Int32))) else (1 : Int32)))] [])) _
    refine XS.iconst X23.here hx rfl (hb hby at_133) ?_
    show Steps p.tables e below (T23.setTop (mkF m 134 #[.val (.int p0), .val (.int p1), .val (.int p2), .val (.int p3), .val (.int p4), .val (.int p5), .val (.int x1), .val (.int x2), .val (.int x3), .val (.ref b4), .val (.int (if p3 < x1 then (if p4 < (if x2 < p3 then p3 else x2) then (if p5 < x3 then (0 : Int32) else (1 : Int32)) else (0 : Int32)) else (1 : Int32))), .val (.int (if p3 < x1 then (0 : Int32) else (1 : Int32))), .val (.int (if p4 < x2 then (1 : Int32) else (if p4 < p3 then (1 : Int32) else (0 : Int32)))), .val (.int (if p5 < x3 then (0 : Int32) else (1 : Int32))), .val (.int (if (if p3 < x1 then (0 : Int32) else (1 : Int32)) = (0 : Int32) then (if (if p4 < x2 then (1 : Int32) else (if p4 < p3 then (1 : Int32) else (0 : Int32))) = (0 : Int32) then (0 : Int32) else (if (if p5 < x3 then (0 : Int32) else (1 : Int32)) = (0 : Int32) then (0 : Int32) else (1 : Int32))) else (1 : Int32)))] [(.int (1 : Int32))])) _
    refine XS.goto X23.here hx rfl (pc0 := 134) (pc' := 138) rfl (hb hby at_134) (by decide) (by decide) ?_
    show Steps p.tables e below (T23.setTop (mkF m 138 #[.val (.int p0), .val (.int p1), .val (.int p2), .val (.int p3), .val (.int p4), .val (.int p5), .val (.int x1), .val (.int x2), .val (.int x3), .val (.ref b4), .val (.int (if p3 < x1 then (if p4 < (if x2 < p3 then p3 else x2) then (if p5 < x3 then (0 : Int32) else (1 : Int32)) else (0 : Int32)) else (1 : Int32))), .val (.int (if p3 < x1 then (0 : Int32) else (1 : Int32))), .val (.int (if p4 < x2 then (1 : Int32) else (if p4 < p3 then (1 : Int32) else (0 : Int32)))), .val (.int (if p5 < x3 then (0 : Int32) else (1 : Int32))), .val (.int (if (if p3 < x1 then (0 : Int32) else (1 : Int32)) = (0 : Int32) then (if (if p4 < x2 then (1 : Int32) else (if p4 < p3 then (1 : Int32) else (0 : Int32))) = (0 : Int32) then (0 : Int32) else (if (if p5 < x3 then (0 : Int32) else (1 : Int32)) = (0 : Int32) then (0 : Int32) else (1 : Int32))) else (1 : Int32)))] [(.int (1 : Int32))])) _
    exact retN X23 hx (t := .boolean) Bd.returns (by simp) (hb hby at_138) hr
  · have eF : (T23.setFrames fs).heap = T16.heap := e23
    exact ⟨N23, rfl⟩
set_option maxRecDepth 65536 in
set_option maxHeartbeats 40000000 in
theorem comes_1 {Post : Tables → Env → Array Value → State → Outcome → State → Prop} (hpost : ∀ tb e args s v u, (limb_1_1.after args s (.returned v) u = true ∧ limb_1_2.after args s (.returned v) u = true ∧ True) → ReturnedEndW s (.returned v) u (Jvm.fieldLocs frame_1_writes args s ++ Jvm.arrayLocs frame_1_arrays args s ++ Jvm.staticLocs frame_1_statics s) 24 3200 → Post tb e args s (.returned v) u) :
    ArmFor flags0 classFile x code maxLocals ret World_1 tables_1 room_1 Calls_1 rest_1 Pre_1 Post := by
  intro l hfl _ _ p e ha hc hk s m args below hf hA hF happ hP
  obtain ⟨hcalls, hrest, hpre⟩ := hP
  obtain ⟨-, -, -, hnamed, -, -, -, hat⟩ := (Spec.applies_iff hf).mp happ
  obtain ⟨hg, hn⟩ := and_e (Cond.before_iff.mp (show (Jvm.Cond.and given_1 narrow_1).before args s = true from hpre))
  obtain ⟨ga1, gb1⟩ := and_e hg
  obtain ⟨ga2, gb2⟩ := and_e gb1
  obtain ⟨ga3, gb3⟩ := and_e gb2
  obtain ⟨ga4, gb4⟩ := and_e gb3
  obtain ⟨ga5, gb5⟩ := and_e gb4
  obtain ⟨ga6, gb6⟩ := and_e gb5
  obtain ⟨w0, w1, w2, w3, w4, w5, rfl⟩ : ∃ w0 w1 w2 w3 w4 w5 : Value, args = #[w0, w1, w2, w3, w4, w5] := by
    have hs : args.size = 6 := by simpa [Cond.value, given_1] using ga1
    obtain ⟨L⟩ := args
    match L, hs with
    | [w0, w1, w2, w3, w4, w5], _ => exact ⟨w0, w1, w2, w3, w4, w5, rfl⟩
  have hw := fun d (hd : d ∈ tables_1) => atoms_spec (ws := Jvm.Cond.code x code maxLocals ret :: tables_1) hat d (List.mem_cons_of_mem _ hd)
  have hfit : Fit s := fun {y c} hc i hi => by
    obtain ⟨ha, rfl⟩ := Array.getElem?_eq_some_iff.mp hc
    have q := List.all_eq_true.mp ((Array.all_eq_true_iff_forall_mem.mp hF) _ (Array.getElem_mem ha)) i (List.mem_range.mpr hi)
    simpa [Array.getElem?_eq_getElem hi] using q
  obtain ⟨i0, ei0⟩ := is_v ga2
  obtain rfl : w0 = (.int i0) := Option.some.inj ei0
  obtain ⟨i1, ei1⟩ := is_v ga3
  obtain rfl : w1 = (.int i1) := Option.some.inj ei1
  obtain ⟨i2, ei2⟩ := is_v ga4
  obtain rfl : w2 = (.int i2) := Option.some.inj ei2
  obtain ⟨i3, ei3⟩ := is_v ga5
  obtain rfl : w3 = (.int i3) := Option.some.inj ei3
  obtain ⟨i4, ei4⟩ := is_v ga6
  obtain rfl : w4 = (.int i4) := Option.some.inj ei4
  obtain ⟨i5, ei5⟩ := is_v gb6
  obtain rfl : w5 = (.int i5) := Option.some.inj ei5
  obtain ⟨hsets, hown0⟩ := atoms_of _ (rest_1_c_eq ▸ (show rest_1_c.before _ s = true from hrest))
  have ev1 := own_eqI (Cond.before_iff.mp (hsets _ (List.mem_of_getElem? (i := 3) rfl)))
  obtain ⟨w_cache, ev_w_cache⟩ := arr_v (Cond.before_iff.mp (hsets _ (List.mem_of_getElem? (i := 4) rfl)))
  obtain ⟨cl_w_cache, A_w_cache⟩ := Arr.start ev_w_cache (Cond.before_iff.mp (hsets _ (List.mem_of_getElem? (i := 4) rfl)))
  have E_w_cache : Exa s s.heap w_cache "[Ljava/lang/Integer;" := Exa.start ev_w_cache (Cond.before_iff.mp (hsets _ (List.mem_of_getElem? (i := 5) rfl)))
  have ev2 := own_eqI (Cond.before_iff.mp (hsets _ (List.mem_of_getElem? (i := 6) rfl)))
  have S_Integer_IntegerCache_high : Sta s s.heap "java/lang/Integer$IntegerCache" "high" "I" (.int (127 : Int32)) := Sta.start ev1 (Or.inl (Cond.before_iff.mpr (Cond.before_iff.mp (hsets _ (List.mem_of_getElem? (i := 1) rfl)))))
  have S_Integer_IntegerCache_cache : Sta s s.heap "java/lang/Integer$IntegerCache" "cache" "[Ljava/lang/Integer;" (.ref w_cache) := Sta.start ev_w_cache (Or.inr ⟨(hw _ (List.mem_of_getElem? (i := 12) rfl)), (Cond.before_iff.mpr (Cond.before_iff.mp (hsets _ (List.mem_of_getElem? (i := 2) rfl))))⟩)
  have Lq_w_cache := own_len ev_w_cache A_w_cache ev2
  have CaI : owCacheI s w_cache := by
    have hsz : cl_w_cache.slots.size = 256 := by
      have q := len_toInt Lq_w_cache.1
      rw [Lq_w_cache.2] at q
      have q' : (256 : Int) = cl_w_cache.slots.size := q
      omega
    refine ⟨cl_w_cache, A_w_cache, hsz, fun i hi => ?_⟩
    obtain ⟨u1, u2⟩ := and_e (Cond.all_elim ev_w_cache (Arr.fin (Vm.Alike.refl _) A_w_cache) (Cond.before_iff.mp (hsets _ (List.mem_of_getElem? (i := 7) rfl))) i (by rw [hsz]; exact hi))
    obtain ⟨b, eb⟩ := own_exav u1
    have q3 := elem_at eb (by exact ev_w_cache) (own_idx i _)
    obtain ⟨cl', c1, -, c3⟩ := q3
    cases A_w_cache.1.symm.trans c1
    rw [(Jvm.Free.IntBox.place_nonneg i hi).2] at c3
    exact ⟨b, c3, own_exai eb u1, Fld.start (own_fldi eb u2)⟩
  have W : OwW s w_cache := ⟨E_w_cache, S_Integer_IntegerCache_high, S_Integer_IntegerCache_cache, CaI, trivial⟩
  have fin : OwConW l x code maxLocals ret tables_1 room_1 #[(.int i0), (.int i1), (.int i2), (.int i3), (.int i4), (.int i5)] s s.heap (OwP (fun v _ => v = some (.int 1)) s.heap.size) := by
    exact rm0 l s _ hw tables_1 s.heap.size s.heap (Old.start s) w_cache W i0 i1 i2 i3 i4 i5 _ _ _ rfl rfl rfl (own_max1 i0) (own_max1 i1) (own_max0 i2)
  obtain ⟨n, o, h1, h2, h3, _, L, rfl, ⟨N, rfl⟩, hq⟩ := fin p e ha hc hk s m _ below hf ((Spec.applies_iff_loose hf).mp happ).1 ⟨rfl, State.Warmed39.refl s, rfl⟩ trivial
  refine ⟨n, _, h1, h2, h3, hpost _ _ _ _ _ _ ⟨Cond.after_iff.mpr rfl, Cond.after_iff.mpr (eq_i res_at (Term.int_eval (1)) rfl), trivial⟩ ⟨hq.1, hq.2.1, hq.2.2.1, (hq.2.2.2.sift fun y hy => Or.inr (N y hy)).mono (by decide) (by decide)⟩⟩
theorem main_1_1 : Claimed_1_1 := comes_1 fun _ _ _ _ _ _ h hF => ⟨h.1, hF⟩
theorem main_1_2 : Claimed_1_2 := comes_1 fun _ _ _ _ _ _ h hF => ⟨h.2.1, hF⟩
end Jvm.Pilot.@@N@@
namespace Jvm.Pilot.@@N@@
open Jvm Jvm.ClassFile Sem Op Lib Jvm.Free Jvm.Stand Jvm.Pilot.@@N@@.Jvm.D
/-! MADE BY PROGRAM (witnessworld.py) out of the Statement's table words and the real class files: 21 classes; the members and pool entries that the words name. The judged class is class 1, her method 1. -/
namespace start1
open Jvm.ClassFile
def u (s : String) : CpInfo := .utf8 (stringToUtf16 s)
/-- a pool by its gaps: so many unusable entries, then the entry; so many at the end -/
def gap : Nat → List CpInfo → List CpInfo
  | 0, r => r
  | n + 1, r => .unusable :: gap n r
def poolList (es : List (Nat × CpInfo)) (last : Nat) : List CpInfo := es.foldr (fun e r => gap e.1 (e.2 :: r)) (gap last [])
def pool (es : List (Nat × CpInfo)) (last : Nat) : Array CpInfo := ⟨poolList es last⟩
def fileOf (pool : Array CpInfo) (this : Nat) (attrs : Array Attribute := #[]) (ms : Array MethodInfo := #[]) (fl : Nat := 33) (sup : Nat := 0) (ifs : Array Nat := #[]) (fds : Array FieldInfo := #[]) : ClassFile where
  minorVersion := 0
  majorVersion := 65
  constantPool := pool
  accessFlags := fl
  thisClass := this
  superClass := sup
  interfaces := ifs
  fields := fds
  methods := ms
  attributes := attrs
def plain (name : String) (sup : Option ClassId) : Class where
  name := name
  kind := .ordinary
  loader := none
  accessFlags := 33
  super := sup
  interfaces := #[]
  cf := none
  fields := #[]
  methods := #[]
  instanceTypes := #[]
  staticTypes := #[]
  resolved := #[]
  callSites := []
  init := .initialized
  statics := none
  mirror := none

def pool0 : Array CpInfo := pool [(5, u "<init>"), (0, u "()V"), (1, .class_ 10), (1, u "java/lang/Object")] 113

def k0c0 : Code := { maxStack := 0, maxLocals := 1, code := object_method_1_code, exceptionTable := #[], attributes := #[] }
def k0m0 : Method := { name := "<init>", desc := "()V", sig := { parameters := [], returnType := none }, accessFlags := 1, code := some k0c0 }
/-- java/lang/Object -/
def k0 : Class := { plain "java/lang/Object" none with
  accessFlags := 33
  interfaces := #[]
  cf := some (fileOf pool0 8 #[] #[{ accessFlags := 1, nameIndex := 5, descriptorIndex := 6, attributes := #[] }] 33 0 #[] #[])
  fields := #[]
  methods := #[k0m0]
  instanceTypes := #[]
  staticTypes := #[]
  resolved := Array.replicate 124 none
  statics := none }

def pool1 : Array CpInfo := pool [(2, .class_ 4), (1, u "java/lang/Object"), (0, u "<init>"), (0, u "()V"), (0, .methodref 8 9), (0, .class_ 10), (0, .nameAndType 11 12), (0, u "java/lang/Math"), (0, u "max"), (0, u "(II)I"), (0, .class_ 14), (0, u "com/example/vestwright/vestwright/plan/Plan$ServiceBeforeBreaks"), (0, .methodref 16 17), (0, .class_ 18), (0, .nameAndType 19 20), (0, u "java/lang/Integer"), (0, u "valueOf"), (0, u "(I)Ljava/lang/Integer;"), (0, .methodref 13 22), (0, .nameAndType 5 23), (0, u "(Ljava/lang/Integer;Ljava/lang/Integer;Ljava/lang/Integer;)V"), (0, .methodref 13 25), (0, .nameAndType 26 27), (0, u "keeps"), (0, u "(III)Z"), (0, .class_ 29), (0, u "com/example/vestwright/vestwright/plan/ServiceBeforeBreaksKeepsPinLaw"), (2, u "law"), (0, u "(IIIIII)Z")] 7

def k1m0 : Method := { name := "<init>", desc := "()V", sig := { parameters := [], returnType := none }, accessFlags := 1, code := none }
def k1c1 : Code := { maxStack := 5, maxLocals := 15, code := code, exceptionTable := #[], attributes := #[] }
def k1m1 : Method := { name := "law", desc := "(IIIIII)Z", sig := { parameters := [.int, .int, .int, .int, .int, .int], returnType := some .boolean }, accessFlags := 9, code := some k1c1 }
/-- com/example/vestwright/vestwright/plan/ServiceBeforeBreaksKeepsPinLaw -/
def k1 : Class := { plain "com/example/vestwright/vestwright/plan/ServiceBeforeBreaksKeepsPinLaw" (some 0) with
  accessFlags := 49
  interfaces := #[]
  cf := some (fileOf pool1 28 #[] #[{ accessFlags := 1, nameIndex := 5, descriptorIndex := 6, attributes := #[] }, { accessFlags := 9, nameIndex := 32, descriptorIndex := 33, attributes := #[] }] 49 2 #[] #[])
  fields := #[]
  methods := #[k1m0, k1m1]
  instanceTypes := #[]
  staticTypes := #[]
  resolved := Array.replicate 41 none
  statics := none }

def pool2 : Array CpInfo := pool [(1, .class_ 2), (0, u "java/lang/Math"), (1, .class_ 6), (1, u "java/lang/Object"), (0, u "<init>"), (0, u "()V"), (89, .class_ 100), (1, u "java/lang/Math$RandomNumberGeneratorHolder"), (71, u "negativeZeroFloatBits"), (0, u "J"), (2, u "negativeZeroDoubleBits"), (21, u "max"), (46, u "$assertionsDisabled"), (0, u "Z"), (88, u "(II)I"), (2, u "twoToTheDoubleScaleDown"), (0, u "D"), (4, u "twoToTheDoubleScaleUp"), (9, u "E"), (3, u "PI"), (2, u "TAU"), (2, u "DEGREES_TO_RADIANS"), (0, u "RADIANS_TO_DEGREES")] 94

def k2m0 : Method := { name := "<init>", desc := "()V", sig := { parameters := [], returnType := none }, accessFlags := 2, code := none }
def k2c1 : Code := { maxStack := 2, maxLocals := 2, code := jdk_29_method_65_code, exceptionTable := #[], attributes := #[] }
def k2m1 : Method := { name := "max", desc := "(II)I", sig := { parameters := [.int, .int], returnType := some .int }, accessFlags := 9, code := some k2c1 }
/-- java/lang/Math -/
def k2 : Class := { plain "java/lang/Math" (some 0) with
  accessFlags := 49
  interfaces := #[]
  cf := some (fileOf pool2 1 #[.nestMembers #[98]] #[{ accessFlags := 2, nameIndex := 7, descriptorIndex := 8, attributes := #[] }, { accessFlags := 9, nameIndex := 198, descriptorIndex := 335, attributes := #[] }] 49 4 #[] #[{ accessFlags := 25, nameIndex := 354, descriptorIndex := 339, attributes := #[] }, { accessFlags := 25, nameIndex := 358, descriptorIndex := 339, attributes := #[] }, { accessFlags := 25, nameIndex := 361, descriptorIndex := 339, attributes := #[] }, { accessFlags := 26, nameIndex := 364, descriptorIndex := 339, attributes := #[] }, { accessFlags := 26, nameIndex := 365, descriptorIndex := 339, attributes := #[] }, { accessFlags := 26, nameIndex := 172, descriptorIndex := 173, attributes := #[] }, { accessFlags := 26, nameIndex := 176, descriptorIndex := 173, attributes := #[] }, { accessFlags := 8, nameIndex := 344, descriptorIndex := 339, attributes := #[] }, { accessFlags := 8, nameIndex := 338, descriptorIndex := 339, attributes := #[] }, { accessFlags := 4120, nameIndex := 245, descriptorIndex := 246, attributes := #[] }])
  fields := #[{ name := "E", type := .double, accessFlags := 25, slot := 0, constantValue := 0 }, { name := "PI", type := .double, accessFlags := 25, slot := 1, constantValue := 0 }, { name := "TAU", type := .double, accessFlags := 25, slot := 2, constantValue := 0 }, { name := "DEGREES_TO_RADIANS", type := .double, accessFlags := 26, slot := 3, constantValue := 0 }, { name := "RADIANS_TO_DEGREES", type := .double, accessFlags := 26, slot := 4, constantValue := 0 }, { name := "negativeZeroFloatBits", type := .long, accessFlags := 26, slot := 5, constantValue := 0 }, { name := "negativeZeroDoubleBits", type := .long, accessFlags := 26, slot := 6, constantValue := 0 }, { name := "twoToTheDoubleScaleUp", type := .double, accessFlags := 8, slot := 7, constantValue := 0 }, { name := "twoToTheDoubleScaleDown", type := .double, accessFlags := 8, slot := 8, constantValue := 0 }, { name := "$assertionsDisabled", type := .boolean, accessFlags := 4120, slot := 9, constantValue := 0 }]
  methods := #[k2m0, k2m1]
  instanceTypes := #[]
  staticTypes := #[.double, .double, .double, .double, .double, .long, .long, .double, .double, .boolean]
  resolved := Array.replicate 460 none
  statics := none }

def pool3 : Array CpInfo := pool [(1, .methodref 2 3), (0, .class_ 4), (0, .nameAndType 5 6), (0, u "java/lang/Object"), (0, u "<init>"), (0, u "()V"), (0, .class_ 8), (0, u "java/lang/Record")] 13

def k3c0 : Code := { maxStack := 1, maxLocals := 1, code := jdk_30_method_1_code, exceptionTable := #[], attributes := #[] }
def k3m0 : Method := { name := "<init>", desc := "()V", sig := { parameters := [], returnType := none }, accessFlags := 4, code := some k3c0 }
/-- java/lang/Record -/
def k3 : Class := { plain "java/lang/Record" (some 0) with
  accessFlags := 1057
  interfaces := #[]
  cf := some (fileOf pool3 7 #[] #[{ accessFlags := 4, nameIndex := 5, descriptorIndex := 6, attributes := #[] }] 1057 2 #[] #[])
  fields := #[]
  methods := #[k3m0]
  instanceTypes := #[]
  staticTypes := #[]
  resolved := Array.replicate 22 none
  statics := none }

def pool4 : Array CpInfo := pool [(1, .methodref 2 3), (0, .class_ 4), (0, .nameAndType 5 6), (0, u "java/lang/Record"), (0, u "<init>"), (0, u "()V"), (0, .string 8), (0, u "vested_years"), (0, .methodref 10 11), (0, .class_ 12), (0, .nameAndType 13 14), (0, u "com/example/vestwright/vestwright/plan/Plan"), (0, u "requireAtLeast"), (0, u "(Ljava/lang/Integer;ILjava/lang/String;)V"), (0, .string 16), (0, u "breaks_fewer_than_greater_of"), (0, .string 18), (0, u "years_after"), (0, .fieldref 20 21), (0, .class_ 22), (0, .nameAndType 23 24), (0, u "com/example/vestwright/vestwright/plan/Plan$ServiceBeforeBreaks"), (0, u "vestedYears"), (0, u "Ljava/lang/Integer;"), (0, .fieldref 20 26), (0, .nameAndType 27 24), (0, u "breaksFewerThanGreaterOf"), (0, .fieldref 20 29), (0, .nameAndType 30 24), (0, u "yearsAfter"), (0, .methodref 32 33), (0, .class_ 34), (0, .nameAndType 35 36), (0, u "java/lang/Integer"), (0, u "intValue"), (0, u "()I"), (0, .methodref 38 39), (0, .class_ 40), (0, .nameAndType 41 42), (0, u "java/lang/Math"), (0, u "max"), (0, u "(II)I"), (12, u "(Ljava/lang/Integer;Ljava/lang/Integer;Ljava/lang/Integer;)V"), (3, u "keeps"), (0, u "(III)Z")] 28

def k4c0 : Code := { maxStack := 3, maxLocals := 4, code := prog_57_method_1_code, exceptionTable := #[], attributes := #[] }
def k4m0 : Method := { name := "<init>", desc := "(Ljava/lang/Integer;Ljava/lang/Integer;Ljava/lang/Integer;)V", sig := { parameters := [(.object "java/lang/Integer"), (.object "java/lang/Integer"), (.object "java/lang/Integer")], returnType := none }, accessFlags := 1, code := some k4c0 }
def k4c1 : Code := { maxStack := 3, maxLocals := 4, code := prog_57_method_2_code, exceptionTable := #[], attributes := #[] }
def k4m1 : Method := { name := "keeps", desc := "(III)Z", sig := { parameters := [.int, .int, .int], returnType := some .boolean }, accessFlags := 1, code := some k4c1 }
/-- com/example/vestwright/vestwright/plan/Plan$ServiceBeforeBreaks -/
def k4 : Class := { plain "com/example/vestwright/vestwright/plan/Plan$ServiceBeforeBreaks" (some 3) with
  accessFlags := 49
  interfaces := #[]
  cf := some (fileOf pool4 20 #[.nestHost 10] #[{ accessFlags := 1, nameIndex := 5, descriptorIndex := 55, attributes := #[] }, { accessFlags := 1, nameIndex := 59, descriptorIndex := 60, attributes := #[] }] 49 2 #[] #[{ accessFlags := 18, nameIndex := 23, descriptorIndex := 24, attributes := #[] }, { accessFlags := 18, nameIndex := 27, descriptorIndex := 24, attributes := #[] }, { accessFlags := 18, nameIndex := 30, descriptorIndex := 24, attributes := #[] }])
  fields := #[{ name := "vestedYears", type := (.object "java/lang/Integer"), accessFlags := 18, slot := 0, constantValue := 0 }, { name := "breaksFewerThanGreaterOf", type := (.object "java/lang/Integer"), accessFlags := 18, slot := 1, constantValue := 0 }, { name := "yearsAfter", type := (.object "java/lang/Integer"), accessFlags := 18, slot := 2, constantValue := 0 }]
  methods := #[k4m0, k4m1]
  instanceTypes := #[(.object "java/lang/Integer"), (.object "java/lang/Integer"), (.object "java/lang/Integer")]
  staticTypes := #[]
  resolved := Array.replicate 89 none
  statics := none }

def pool5 : Array CpInfo := pool [(1, .class_ 2), (0, u "java/io/Serializable"), (0, .class_ 4), (0, u "java/lang/Object")] 2

/-- java/io/Serializable -/
def k5 : Class := { plain "java/io/Serializable" (some 0) with
  accessFlags := 1537
  interfaces := #[]
  cf := some (fileOf pool5 1 #[] #[] 1537 3 #[] #[])
  fields := #[]
  methods := #[]
  instanceTypes := #[]
  staticTypes := #[]
  resolved := Array.replicate 7 none
  statics := none }

def pool6 : Array CpInfo := pool [(1, .methodref 2 3), (0, .class_ 4), (0, .nameAndType 5 6), (0, u "java/lang/Object"), (0, u "<init>"), (0, u "()V"), (1, .class_ 10), (1, u "java/lang/Number"), (2, .class_ 14), (0, u "java/io/Serializable"), (0, u "serialVersionUID"), (0, u "J")] 20

def k6c0 : Code := { maxStack := 1, maxLocals := 1, code := jdk_18_method_1_code, exceptionTable := #[], attributes := #[] }
def k6m0 : Method := { name := "<init>", desc := "()V", sig := { parameters := [], returnType := none }, accessFlags := 1, code := some k6c0 }
/-- java/lang/Number -/
def k6 : Class := { plain "java/lang/Number" (some 0) with
  accessFlags := 1057
  interfaces := #[5]
  cf := some (fileOf pool6 8 #[] #[{ accessFlags := 1, nameIndex := 5, descriptorIndex := 6, attributes := #[] }] 1057 2 #[13] #[{ accessFlags := 26, nameIndex := 15, descriptorIndex := 16, attributes := #[] }])
  fields := #[{ name := "serialVersionUID", type := .long, accessFlags := 26, slot := 0, constantValue := 0 }]
  methods := #[k6m0]
  instanceTypes := #[]
  staticTypes := #[.long]
  resolved := Array.replicate 37 none
  statics := none }

def pool7 : Array CpInfo := pool [(1, .class_ 2), (0, u "java/lang/Comparable"), (0, .class_ 4), (0, u "java/lang/Object")] 7

/-- java/lang/Comparable -/
def k7 : Class := { plain "java/lang/Comparable" (some 0) with
  accessFlags := 1537
  interfaces := #[]
  cf := some (fileOf pool7 1 #[] #[] 1537 3 #[] #[])
  fields := #[]
  methods := #[]
  instanceTypes := #[]
  staticTypes := #[]
  resolved := Array.replicate 12 none
  statics := none }

def pool8 : Array CpInfo := pool [(1, .class_ 2), (0, u "java/lang/constant/Constable"), (0, .class_ 4), (0, u "java/lang/Object")] 6

/-- java/lang/constant/Constable -/
def k8 : Class := { plain "java/lang/constant/Constable" (some 0) with
  accessFlags := 1537
  interfaces := #[]
  cf := some (fileOf pool8 1 #[] #[] 1537 3 #[] #[])
  fields := #[]
  methods := #[]
  instanceTypes := #[]
  staticTypes := #[]
  resolved := Array.replicate 11 none
  statics := none }

def pool9 : Array CpInfo := pool [(1, .class_ 2), (0, u "java/lang/constant/ConstantDesc"), (0, .class_ 4), (0, u "java/lang/Object")] 32

/-- java/lang/constant/ConstantDesc -/
def k9 : Class := { plain "java/lang/constant/ConstantDesc" (some 0) with
  accessFlags := 1537
  interfaces := #[]
  cf := some (fileOf pool9 1 #[] #[] 1537 3 #[] #[])
  fields := #[]
  methods := #[]
  instanceTypes := #[]
  staticTypes := #[]
  resolved := Array.replicate 37 none
  statics := none }

def pool10 : Array CpInfo := pool [(1, .class_ 2), (0, u "java/lang/Integer"), (16, u "digits"), (0, u "[C"), (46, u "<init>"), (17, u "DigitOnes"), (0, u "[B"), (2, u "DigitTens"), (10, .nameAndType 67 101), (0, u "()V"), (19, u "()I"), (65, u "valueOf"), (0, u "(I)Ljava/lang/Integer;"), (0, .class_ 190), (0, u "java/lang/Integer$IntegerCache"), (0, .fieldref 189 192), (0, .nameAndType 193 194), (0, u "high"), (0, u "I"), (0, .fieldref 189 196), (0, .nameAndType 197 198), (0, u "cache"), (0, u "[Ljava/lang/Integer;"), (0, .methodref 1 200), (0, .nameAndType 67 201), (0, u "(I)V"), (0, .methodref 203 100), (0, .class_ 204), (0, u "java/lang/Number"), (0, .fieldref 1 206), (0, .nameAndType 207 194), (0, u "value"), (5, u "intValue"), (88, u "TYPE"), (0, u "Ljava/lang/Class;"), (0, .class_ 305), (0, u "java/lang/Comparable"), (0, .class_ 307), (0, u "java/lang/constant/Constable"), (0, .class_ 309), (0, u "java/lang/constant/ConstantDesc"), (0, u "MIN_VALUE"), (1, u "MAX_VALUE"), (3, u "SIZE"), (1, u "BYTES"), (1, u "serialVersionUID"), (0, u "J")] 131

def k10c0 : Code := { maxStack := 3, maxLocals := 1, code := jdk_33_method_22_code, exceptionTable := #[], attributes := #[] }
def k10m0 : Method := { name := "valueOf", desc := "(I)Ljava/lang/Integer;", sig := { parameters := [.int], returnType := some (.object "java/lang/Integer") }, accessFlags := 9, code := some k10c0 }
def k10c1 : Code := { maxStack := 2, maxLocals := 2, code := jdk_33_method_23_code, exceptionTable := #[], attributes := #[] }
def k10m1 : Method := { name := "<init>", desc := "(I)V", sig := { parameters := [.int], returnType := none }, accessFlags := 1, code := some k10c1 }
def k10c2 : Code := { maxStack := 1, maxLocals := 1, code := jdk_33_method_27_code, exceptionTable := #[], attributes := #[] }
def k10m2 : Method := { name := "intValue", desc := "()I", sig := { parameters := [], returnType := some .int }, accessFlags := 1, code := some k10c2 }
/-- java/lang/Integer -/
def k10 : Class := { plain "java/lang/Integer" (some 6) with
  accessFlags := 49
  interfaces := #[7, 8, 9]
  cf := some (fileOf pool10 1 #[.nestMembers #[189]] #[{ accessFlags := 9, nameIndex := 187, descriptorIndex := 188, attributes := #[] }, { accessFlags := 1, nameIndex := 67, descriptorIndex := 201, attributes := #[] }, { accessFlags := 1, nameIndex := 213, descriptorIndex := 121, attributes := #[] }] 49 203 #[304, 306, 308] #[{ accessFlags := 25, nameIndex := 310, descriptorIndex := 194, attributes := #[] }, { accessFlags := 25, nameIndex := 312, descriptorIndex := 194, attributes := #[] }, { accessFlags := 25, nameIndex := 302, descriptorIndex := 303, attributes := #[] }, { accessFlags := 24, nameIndex := 19, descriptorIndex := 20, attributes := #[] }, { accessFlags := 24, nameIndex := 89, descriptorIndex := 86, attributes := #[] }, { accessFlags := 24, nameIndex := 85, descriptorIndex := 86, attributes := #[] }, { accessFlags := 18, nameIndex := 207, descriptorIndex := 194, attributes := #[] }, { accessFlags := 25, nameIndex := 316, descriptorIndex := 194, attributes := #[] }, { accessFlags := 25, nameIndex := 318, descriptorIndex := 194, attributes := #[] }, { accessFlags := 26, nameIndex := 320, descriptorIndex := 321, attributes := #[] }])
  fields := #[{ name := "MIN_VALUE", type := .int, accessFlags := 25, slot := 0, constantValue := 0 }, { name := "MAX_VALUE", type := .int, accessFlags := 25, slot := 1, constantValue := 0 }, { name := "TYPE", type := (.object "java/lang/Class"), accessFlags := 25, slot := 2, constantValue := 0 }, { name := "digits", type := (.array .char), accessFlags := 24, slot := 3, constantValue := 0 }, { name := "DigitTens", type := (.array .byte), accessFlags := 24, slot := 4, constantValue := 0 }, { name := "DigitOnes", type := (.array .byte), accessFlags := 24, slot := 5, constantValue := 0 }, { name := "value", type := .int, accessFlags := 18, slot := 0, constantValue := 0 }, { name := "SIZE", type := .int, accessFlags := 25, slot := 6, constantValue := 0 }, { name := "BYTES", type := .int, accessFlags := 25, slot := 7, constantValue := 0 }, { name := "serialVersionUID", type := .long, accessFlags := 26, slot := 8, constantValue := 0 }]
  methods := #[k10m0, k10m1, k10m2]
  instanceTypes := #[.int]
  staticTypes := #[.int, .int, (.object "java/lang/Class"), (.array .char), (.array .byte), (.array .byte), .int, .int, .long]
  resolved := Array.replicate 453 none
  statics := none }

def pool11 : Array CpInfo := pool [(2, .class_ 4), (1, u "java/lang/Object"), (0, u "<init>"), (0, u "()V"), (0, .class_ 8), (0, u "java/lang/Integer"), (7, .class_ 18), (1, u "java/lang/Integer$IntegerCache"), (0, u "$assertionsDisabled"), (0, u "Z"), (26, u "high"), (0, u "I"), (8, u "archivedCache"), (0, u "[Ljava/lang/Integer;"), (12, u "cache"), (0, u "low")] 27

def k11m0 : Method := { name := "<init>", desc := "()V", sig := { parameters := [], returnType := none }, accessFlags := 2, code := none }
/-- java/lang/Integer$IntegerCache -/
def k11 : Class := { plain "java/lang/Integer$IntegerCache" (some 0) with
  accessFlags := 48
  interfaces := #[]
  cf := some (fileOf pool11 16 #[.nestHost 7] #[{ accessFlags := 2, nameIndex := 5, descriptorIndex := 6, attributes := #[] }] 48 2 #[] #[{ accessFlags := 24, nameIndex := 72, descriptorIndex := 48, attributes := #[] }, { accessFlags := 24, nameIndex := 47, descriptorIndex := 48, attributes := #[] }, { accessFlags := 24, nameIndex := 71, descriptorIndex := 58, attributes := #[] }, { accessFlags := 8, nameIndex := 57, descriptorIndex := 58, attributes := #[] }, { accessFlags := 4120, nameIndex := 19, descriptorIndex := 20, attributes := #[] }])
  fields := #[{ name := "low", type := .int, accessFlags := 24, slot := 0, constantValue := 0 }, { name := "high", type := .int, accessFlags := 24, slot := 1, constantValue := 0 }, { name := "cache", type := (.array (.object "java/lang/Integer")), accessFlags := 24, slot := 2, constantValue := 0 }, { name := "archivedCache", type := (.array (.object "java/lang/Integer")), accessFlags := 8, slot := 3, constantValue := 0 }, { name := "$assertionsDisabled", type := .boolean, accessFlags := 4120, slot := 4, constantValue := 0 }]
  methods := #[k11m0]
  instanceTypes := #[]
  staticTypes := #[.int, .int, (.array (.object "java/lang/Integer")), (.array (.object "java/lang/Integer")), .boolean]
  resolved := Array.replicate 100 none
  statics := some 0 }

def pool12 : Array CpInfo := pool [(2, .class_ 4), (1, u "java/lang/CharSequence"), (42, .class_ 48), (0, u "java/lang/CharSequence$1CodePointIterator"), (10, .class_ 60), (0, u "java/lang/CharSequence$1CharIterator"), (5, .class_ 67), (0, u "java/lang/Object")] 63

/-- java/lang/CharSequence -/
def k12 : Class := { plain "java/lang/CharSequence" (some 0) with
  accessFlags := 1537
  interfaces := #[]
  cf := some (fileOf pool12 2 #[.nestMembers #[47, 59]] #[] 1537 66 #[] #[])
  fields := #[]
  methods := #[]
  instanceTypes := #[]
  staticTypes := #[]
  resolved := Array.replicate 131 none
  statics := none }

def pool13 : Array CpInfo := pool [(2, .class_ 4), (1, u "java/lang/Object"), (0, u "<init>"), (0, u "()V"), (3, .class_ 12), (1, u "java/lang/String"), (0, u "value"), (0, u "[B"), (2, u "coder"), (0, u "B"), (2, u "hash"), (0, u "I"), (2, u "hashIsZero"), (0, u "Z"), (13, u "COMPACT_STRINGS"), (534, .class_ 576), (0, u "java/lang/CharSequence"), (22, u "CASE_INSENSITIVE_ORDER"), (0, u "Ljava/util/Comparator;"), (500, u "serialPersistentFields"), (0, u "[Ljava/io/ObjectStreamField;"), (0, .class_ 1104), (0, u "java/lang/String$CaseInsensitiveComparator"), (1, .class_ 1107), (0, u "java/io/Serializable"), (0, .class_ 1109), (0, u "java/lang/Comparable"), (0, .class_ 1111), (0, u "java/lang/constant/Constable"), (0, .class_ 1113), (0, u "java/lang/constant/ConstantDesc"), (2, u "serialVersionUID"), (0, u "J"), (3, u "REPL"), (0, u "C"), (2, u "LATIN1"), (1, u "UTF16")] 323

def k13m0 : Method := { name := "<init>", desc := "()V", sig := { parameters := [], returnType := none }, accessFlags := 1, code := none }
/-- java/lang/String -/
def k13 : Class := { plain "java/lang/String" (some 0) with
  accessFlags := 49
  interfaces := #[5, 7, 12, 8, 9]
  cf := some (fileOf pool13 10 #[.nestMembers #[1103]] #[{ accessFlags := 1, nameIndex := 5, descriptorIndex := 6, attributes := #[] }] 49 2 #[1106, 1108, 575, 1110, 1112] #[{ accessFlags := 18, nameIndex := 13, descriptorIndex := 14, attributes := #[] }, { accessFlags := 18, nameIndex := 17, descriptorIndex := 18, attributes := #[] }, { accessFlags := 2, nameIndex := 21, descriptorIndex := 22, attributes := #[] }, { accessFlags := 2, nameIndex := 25, descriptorIndex := 26, attributes := #[] }, { accessFlags := 26, nameIndex := 1116, descriptorIndex := 1117, attributes := #[] }, { accessFlags := 24, nameIndex := 40, descriptorIndex := 26, attributes := #[] }, { accessFlags := 26, nameIndex := 1101, descriptorIndex := 1102, attributes := #[] }, { accessFlags := 26, nameIndex := 1121, descriptorIndex := 1122, attributes := #[] }, { accessFlags := 25, nameIndex := 599, descriptorIndex := 600, attributes := #[] }, { accessFlags := 24, nameIndex := 1125, descriptorIndex := 18, attributes := #[] }, { accessFlags := 24, nameIndex := 1127, descriptorIndex := 18, attributes := #[] }])
  fields := #[{ name := "value", type := (.array .byte), accessFlags := 18, slot := 0, constantValue := 0 }, { name := "coder", type := .byte, accessFlags := 18, slot := 1, constantValue := 0 }, { name := "hash", type := .int, accessFlags := 2, slot := 2, constantValue := 0 }, { name := "hashIsZero", type := .boolean, accessFlags := 2, slot := 3, constantValue := 0 }, { name := "serialVersionUID", type := .long, accessFlags := 26, slot := 0, constantValue := 0 }, { name := "COMPACT_STRINGS", type := .boolean, accessFlags := 24, slot := 1, constantValue := 0 }, { name := "serialPersistentFields", type := (.array (.object "java/io/ObjectStreamField")), accessFlags := 26, slot := 2, constantValue := 0 }, { name := "REPL", type := .char, accessFlags := 26, slot := 3, constantValue := 0 }, { name := "CASE_INSENSITIVE_ORDER", type := (.object "java/util/Comparator"), accessFlags := 25, slot := 4, constantValue := 0 }, { name := "LATIN1", type := .byte, accessFlags := 24, slot := 5, constantValue := 0 }, { name := "UTF16", type := .byte, accessFlags := 24, slot := 6, constantValue := 0 }]
  methods := #[k13m0]
  instanceTypes := #[(.array .byte), .byte, .int, .boolean]
  staticTypes := #[.long, .boolean, (.array (.object "java/io/ObjectStreamField")), .char, (.object "java/util/Comparator"), .byte, .byte]
  resolved := Array.replicate 1451 none
  statics := none }

def pool14 : Array CpInfo := pool [(2, .class_ 4), (1, u "java/lang/Record"), (4, .methodref 10 11), (0, .class_ 12), (0, .nameAndType 13 14), (0, u "com/example/vestwright/vestwright/plan/Plan"), (0, u "require"), (0, u "(Ljava/lang/Object;Ljava/lang/String;)Ljava/lang/Object;"), (9, u "vesting"), (0, .class_ 26), (0, u "com/example/vestwright/vestwright/plan/Plan$AccruedPension$RateOfFinalAverageCompensation"), (16, .class_ 45), (1, u "com/example/vestwright/vestwright/plan/Plan$NormalRetirementAge"), (2, .methodref 49 50), (0, .class_ 51), (0, .nameAndType 52 53), (0, u "java/lang/Integer"), (0, u "intValue"), (0, u "()I"), (16, u "freeze"), (0, u "Lcom/example/vestwright/vestwright/plan/Plan$Freeze;"), (2, u "benefitService"), (0, u "Lcom/example/vestwright/vestwright/plan/Plan$BenefitService;"), (2, u "finalAverageCompensation"), (0, u "Lcom/example/vestwright/vestwright/plan/Plan$FinalAverageCompensation;"), (2, u "compensationLimit"), (0, u "Lcom/example/vestwright/vestwright/plan/Plan$CompensationLimit;"), (2, u "accruedPension"), (0, u "Lcom/example/vestwright/vestwright/plan/Plan$AccruedPension;"), (2, u "minimumPension"), (0, u "Lcom/example/vestwright/vestwright/plan/Plan$MinimumPension;"), (2, u "normalRetirementAge"), (0, u "Lcom/example/vestwright/vestwright/plan/Plan$NormalRetirementAge;"), (2, u "normalRetirementDate"), (0, u "Lcom/example/vestwright/vestwright/plan/Plan$NormalRetirementDate;"), (2, u "vestingService"), (0, u "Lcom/example/vestwright/vestwright/plan/Plan$VestingService;"), (2, u "Lcom/example/vestwright/vestwright/plan/Plan$Vesting;"), (2, u "breakInService"), (0, u "Lcom/example/vestwright/vestwright/plan/Plan$BreakInService;"), (2, u "benefitServiceBeforeBreaks"), (0, u "Lcom/example/vestwright/vestwright/plan/Plan$BenefitServiceBeforeBreaks;"), (2, u "earlyRetirementDate"), (0, u "Lcom/example/vestwright/vestwright/plan/Plan$EarlyRetirementDate;"), (2, u "earlyRetirement"), (0, u "Lcom/example/vestwright/vestwright/plan/Plan$EarlyRetirement;"), (2, u "deferredVested"), (0, u "Lcom/example/vestwright/vestwright/plan/Plan$DeferredVested;"), (2, u "earlyReduction"), (0, u "Lcom/example/vestwright/vestwright/plan/Plan$EarlyReduction;"), (2, u "actuarialEquivalence"), (0, u "Lcom/example/vestwright/vestwright/plan/Plan$ActuarialEquivalence;"), (2, u "optionalForms"), (0, u "Lcom/example/vestwright/vestwright/plan/Plan$OptionalForms;"), (2, u "automaticForm"), (0, u "Lcom/example/vestwright/vestwright/plan/Plan$AutomaticForm;"), (2, u "singleSum"), (0, u "Lcom/example/vestwright/vestwright/plan/Plan$SingleSum;"), (2, u "cashOut"), (0, u "Lcom/example/vestwright/vestwright/plan/Plan$CashOut;"), (7, .class_ 160), (1, u "com/example/vestwright/vestwright/plan/Plan$OptionalForms"), (3, .class_ 166), (1, u "com/example/vestwright/vestwright/plan/Plan$AutomaticForm"), (44, .class_ 212), (0, u "com/example/vestwright/vestwright/plan/Plan$EarlyRetirementDate"), (7, .class_ 222), (1, u "com/example/vestwright/vestwright/plan/Plan$EarlyRetirement"), (3, .class_ 228), (1, u "com/example/vestwright/vestwright/plan/Plan$AgePlusService"), (4, .class_ 235), (1, u "com/example/vestwright/vestwright/plan/Plan$DeferredVested"), (10, .class_ 248), (1, u "com/example/vestwright/vestwright/plan/Plan$EarlyReduction"), (8, .class_ 258), (0, u "com/example/vestwright/vestwright/plan/Plan$VestingService$HoursCounting"), (11, .class_ 272), (1, u "com/example/vestwright/vestwright/plan/Plan$BreakInService"), (50, u "MONTHS_PER_YEAR"), (0, u "I"), (6, .class_ 332), (0, u "com/example/vestwright/vestwright/plan/Plan$Freeze"), (0, .class_ 334), (0, u "com/example/vestwright/vestwright/plan/Plan$BenefitService"), (0, .class_ 336), (0, u "com/example/vestwright/vestwright/plan/Plan$FinalAverageCompensation"), (0, .class_ 338), (0, u "com/example/vestwright/vestwright/plan/Plan$CompensationLimit"), (0, .class_ 340), (0, u "com/example/vestwright/vestwright/plan/Plan$AccruedPension"), (0, .class_ 342), (0, u "com/example/vestwright/vestwright/plan/Plan$MinimumPension"), (0, .class_ 344), (0, u "com/example/vestwright/vestwright/plan/Plan$NormalRetirementDate"), (0, .class_ 346), (0, u "com/example/vestwright/vestwright/plan/Plan$VestingService"), (0, .class_ 348), (0, u "com/example/vestwright/vestwright/plan/Plan$Vesting"), (0, .class_ 350), (0, u "com/example/vestwright/vestwright/plan/Plan$BenefitServiceBeforeBreaks"), (0, .class_ 352), (0, u "com/example/vestwright/vestwright/plan/Plan$ActuarialEquivalence"), (0, .class_ 354), (0, u "com/example/vestwright/vestwright/plan/Plan$SingleSum"), (0, .class_ 356), (0, u "com/example/vestwright/vestwright/plan/Plan$CashOut"), (9, u "requireAtLeast"), (0, u "(Ljava/lang/Integer;ILjava/lang/String;)V"), (26, .class_ 395), (0, u "com/example/vestwright/vestwright/plan/Plan$SingleSumBasis"), (0, .class_ 397), (0, u "com/example/vestwright/vestwright/plan/Plan$JointAndSurvivor"), (0, .class_ 399), (0, u "com/example/vestwright/vestwright/plan/Plan$CertainAndLife"), (0, .class_ 401), (0, u "com/example/vestwright/vestwright/plan/Plan$ServiceBeforeBreaks"), (0, .class_ 403), (0, u "com/example/vestwright/vestwright/plan/Plan$VestingService$ElapsedTime"), (0, .class_ 405), (0, u "com/example/vestwright/vestwright/plan/Plan$Fraction"), (0, .class_ 407), (0, u "com/example/vestwright/vestwright/plan/Plan$EarlyReduction$Table"), (0, .class_ 409), (0, u "com/example/vestwright/vestwright/plan/Plan$EarlyReduction$PerMonth"), (0, .class_ 411), (0, u "com/example/vestwright/vestwright/plan/Plan$MinimumPension$Band"), (0, .class_ 413), (0, u "com/example/vestwright/vestwright/plan/Plan$AccruedPension$FlatDollar"), (0, .class_ 415), (0, u "com/example/vestwright/vestwright/plan/Plan$BenefitService$CompletedMonths"), (0, .class_ 417), (0, u "com/example/vestwright/vestwright/plan/Plan$BenefitService$CalendarMonths"), (0, .class_ 419), (0, u "com/example/vestwright/vestwright/plan/Plan$ServiceStart")] 95

def k14c0 : Code := { maxStack := 3, maxLocals := 2, code := prog_27_method_8_code, exceptionTable := #[], attributes := #[] }
def k14m0 : Method := { name := "require", desc := "(Ljava/lang/Object;Ljava/lang/String;)Ljava/lang/Object;", sig := { parameters := [(.object "java/lang/Object"), (.object "java/lang/String")], returnType := some (.object "java/lang/Object") }, accessFlags := 10, code := some k14c0 }
def k14c1 : Code := { maxStack := 4, maxLocals := 3, code := prog_27_method_12_code, exceptionTable := #[], attributes := #[] }
def k14m1 : Method := { name := "requireAtLeast", desc := "(Ljava/lang/Integer;ILjava/lang/String;)V", sig := { parameters := [(.object "java/lang/Integer"), .int, (.object "java/lang/String")], returnType := none }, accessFlags := 10, code := some k14c1 }
/-- com/example/vestwright/vestwright/plan/Plan -/
def k14 : Class := { plain "com/example/vestwright/vestwright/plan/Plan" (some 3) with
  accessFlags := 49
  interfaces := #[]
  cf := some (fileOf pool14 10 #[.nestMembers #[355, 353, 394, 164, 396, 398, 158, 351, 347, 349, 270, 400, 345, 402, 257, 404, 246, 406, 408, 233, 226, 220, 211, 343, 43, 341, 410, 339, 412, 25, 337, 335, 333, 414, 416, 331, 418]] #[{ accessFlags := 10, nameIndex := 13, descriptorIndex := 14, attributes := #[] }, { accessFlags := 10, nameIndex := 366, descriptorIndex := 367, attributes := #[] }] 49 2 #[] #[{ accessFlags := 18, nameIndex := 70, descriptorIndex := 71, attributes := #[] }, { accessFlags := 18, nameIndex := 74, descriptorIndex := 75, attributes := #[] }, { accessFlags := 18, nameIndex := 78, descriptorIndex := 79, attributes := #[] }, { accessFlags := 18, nameIndex := 82, descriptorIndex := 83, attributes := #[] }, { accessFlags := 18, nameIndex := 86, descriptorIndex := 87, attributes := #[] }, { accessFlags := 18, nameIndex := 90, descriptorIndex := 91, attributes := #[] }, { accessFlags := 18, nameIndex := 94, descriptorIndex := 95, attributes := #[] }, { accessFlags := 18, nameIndex := 98, descriptorIndex := 99, attributes := #[] }, { accessFlags := 18, nameIndex := 102, descriptorIndex := 103, attributes := #[] }, { accessFlags := 18, nameIndex := 24, descriptorIndex := 106, attributes := #[] }, { accessFlags := 18, nameIndex := 109, descriptorIndex := 110, attributes := #[] }, { accessFlags := 18, nameIndex := 113, descriptorIndex := 114, attributes := #[] }, { accessFlags := 18, nameIndex := 117, descriptorIndex := 118, attributes := #[] }, { accessFlags := 18, nameIndex := 121, descriptorIndex := 122, attributes := #[] }, { accessFlags := 18, nameIndex := 125, descriptorIndex := 126, attributes := #[] }, { accessFlags := 18, nameIndex := 129, descriptorIndex := 130, attributes := #[] }, { accessFlags := 18, nameIndex := 133, descriptorIndex := 134, attributes := #[] }, { accessFlags := 18, nameIndex := 137, descriptorIndex := 138, attributes := #[] }, { accessFlags := 18, nameIndex := 141, descriptorIndex := 142, attributes := #[] }, { accessFlags := 18, nameIndex := 145, descriptorIndex := 146, attributes := #[] }, { accessFlags := 18, nameIndex := 149, descriptorIndex := 150, attributes := #[] }, { accessFlags := 26, nameIndex := 323, descriptorIndex := 324, attributes := #[] }])
  fields := #[{ name := "freeze", type := (.object "com/example/vestwright/vestwright/plan/Plan$Freeze"), accessFlags := 18, slot := 0, constantValue := 0 }, { name := "benefitService", type := (.object "com/example/vestwright/vestwright/plan/Plan$BenefitService"), accessFlags := 18, slot := 1, constantValue := 0 }, { name := "finalAverageCompensation", type := (.object "com/example/vestwright/vestwright/plan/Plan$FinalAverageCompensation"), accessFlags := 18, slot := 2, constantValue := 0 }, { name := "compensationLimit", type := (.object "com/example/vestwright/vestwright/plan/Plan$CompensationLimit"), accessFlags := 18, slot := 3, constantValue := 0 }, { name := "accruedPension", type := (.object "com/example/vestwright/vestwright/plan/Plan$AccruedPension"), accessFlags := 18, slot := 4, constantValue := 0 }, { name := "minimumPension", type := (.object "com/example/vestwright/vestwright/plan/Plan$MinimumPension"), accessFlags := 18, slot := 5, constantValue := 0 }, { name := "normalRetirementAge", type := (.object "com/example/vestwright/vestwright/plan/Plan$NormalRetirementAge"), accessFlags := 18, slot := 6, constantValue := 0 }, { name := "normalRetirementDate", type := (.object "com/example/vestwright/vestwright/plan/Plan$NormalRetirementDate"), accessFlags := 18, slot := 7, constantValue := 0 }, { name := "vestingService", type := (.object "com/example/vestwright/vestwright/plan/Plan$VestingService"), accessFlags := 18, slot := 8, constantValue := 0 }, { name := "vesting", type := (.object "com/example/vestwright/vestwright/plan/Plan$Vesting"), accessFlags := 18, slot := 9, constantValue := 0 }, { name := "breakInService", type := (.object "com/example/vestwright/vestwright/plan/Plan$BreakInService"), accessFlags := 18, slot := 10, constantValue := 0 }, { name := "benefitServiceBeforeBreaks", type := (.object "com/example/vestwright/vestwright/plan/Plan$BenefitServiceBeforeBreaks"), accessFlags := 18, slot := 11, constantValue := 0 }, { name := "earlyRetirementDate", type := (.object "com/example/vestwright/vestwright/plan/Plan$EarlyRetirementDate"), accessFlags := 18, slot := 12, constantValue := 0 }, { name := "earlyRetirement", type := (.object "com/example/vestwright/vestwright/plan/Plan$EarlyRetirement"), accessFlags := 18, slot := 13, constantValue := 0 }, { name := "deferredVested", type := (.object "com/example/vestwright/vestwright/plan/Plan$DeferredVested"), accessFlags := 18, slot := 14, constantValue := 0 }, { name := "earlyReduction", type := (.object "com/example/vestwright/vestwright/plan/Plan$EarlyReduction"), accessFlags := 18, slot := 15, constantValue := 0 }, { name := "actuarialEquivalence", type := (.object "com/example/vestwright/vestwright/plan/Plan$ActuarialEquivalence"), accessFlags := 18, slot := 16, constantValue := 0 }, { name := "optionalForms", type := (.object "com/example/vestwright/vestwright/plan/Plan$OptionalForms"), accessFlags := 18, slot := 17, constantValue := 0 }, { name := "automaticForm", type := (.object "com/example/vestwright/vestwright/plan/Plan$AutomaticForm"), accessFlags := 18, slot := 18, constantValue := 0 }, { name := "singleSum", type := (.object "com/example/vestwright/vestwright/plan/Plan$SingleSum"), accessFlags := 18, slot := 19, constantValue := 0 }, { name := "cashOut", type := (.object "com/example/vestwright/vestwright/plan/Plan$CashOut"), accessFlags := 18, slot := 20, constantValue := 0 }, { name := "MONTHS_PER_YEAR", type := .int, accessFlags := 26, slot := 0, constantValue := 0 }]
  methods := #[k14m0, k14m1]
  instanceTypes := #[(.object "com/example/vestwright/vestwright/plan/Plan$Freeze"), (.object "com/example/vestwright/vestwright/plan/Plan$BenefitService"), (.object "com/example/vestwright/vestwright/plan/Plan$FinalAverageCompensation"), (.object "com/example/vestwright/vestwright/plan/Plan$CompensationLimit"), (.object "com/example/vestwright/vestwright/plan/Plan$AccruedPension"), (.object "com/example/vestwright/vestwright/plan/Plan$MinimumPension"), (.object "com/example/vestwright/vestwright/plan/Plan$NormalRetirementAge"), (.object "com/example/vestwright/vestwright/plan/Plan$NormalRetirementDate"), (.object "com/example/vestwright/vestwright/plan/Plan$VestingService"), (.object "com/example/vestwright/vestwright/plan/Plan$Vesting"), (.object "com/example/vestwright/vestwright/plan/Plan$BreakInService"), (.object "com/example/vestwright/vestwright/plan/Plan$BenefitServiceBeforeBreaks"), (.object "com/example/vestwright/vestwright/plan/Plan$EarlyRetirementDate"), (.object "com/example/vestwright/vestwright/plan/Plan$EarlyRetirement"), (.object "com/example/vestwright/vestwright/plan/Plan$DeferredVested"), (.object "com/example/vestwright/vestwright/plan/Plan$EarlyReduction"), (.object "com/example/vestwright/vestwright/plan/Plan$ActuarialEquivalence"), (.object "com/example/vestwright/vestwright/plan/Plan$OptionalForms"), (.object "com/example/vestwright/vestwright/plan/Plan$AutomaticForm"), (.object "com/example/vestwright/vestwright/plan/Plan$SingleSum"), (.object "com/example/vestwright/vestwright/plan/Plan$CashOut")]
  staticTypes := #[.int]
  resolved := Array.replicate 515 none
  statics := none }

def pool15 : Array CpInfo := pool [(1, u "java/lang/Cloneable"), (0, .class_ 1), (0, u "java/lang/Object"), (0, .class_ 3)] 3

/-- java/lang/Cloneable -/
def k15 : Class := { plain "java/lang/Cloneable" (some 0) with
  accessFlags := 1537
  interfaces := #[]
  cf := some (fileOf pool15 2 #[] #[] 1537 4 #[] #[])
  fields := #[]
  methods := #[]
  instanceTypes := #[]
  staticTypes := #[]
  resolved := Array.replicate 8 none
  statics := none }

/-- the primitive byte -/
def k16 : Class := { plain "byte" none with kind := .primitive 'B', accessFlags := 0x411 }
/-- [B -/
def k17 : Class := { plain "[B" (some 0) with kind := .array 16 .byte, interfaces := #[15, 5], accessFlags := 1041 }

/-- the primitive int -/
def k18 : Class := { plain "int" none with kind := .primitive 'I', accessFlags := 0x411 }
/-- [I -/
def k19 : Class := { plain "[I" (some 0) with kind := .array 18 .int, interfaces := #[15, 5], accessFlags := 1041 }

/-- [Ljava/lang/Integer; -/
def k20 : Class := { plain "[Ljava/lang/Integer;" (some 0) with kind := .array 10 (.object "java/lang/Integer"), interfaces := #[15, 5], accessFlags := 1041 }

def heap : Heap := #[{ cls := 11, slots := #[.int 0, .int 127, .ref 1, .null, .int 0], vm := .statics 11 },
  { cls := 20, slots := #[.ref 2, .ref 3, .ref 4, .ref 5, .ref 6, .ref 7, .ref 8, .ref 9, .ref 10, .ref 11, .ref 12, .ref 13, .ref 14, .ref 15, .ref 16, .ref 17, .ref 18, .ref 19, .ref 20, .ref 21, .ref 22, .ref 23, .ref 24, .ref 25, .ref 26, .ref 27, .ref 28, .ref 29, .ref 30, .ref 31, .ref 32, .ref 33, .ref 34, .ref 35, .ref 36, .ref 37, .ref 38, .ref 39, .ref 40, .ref 41, .ref 42, .ref 43, .ref 44, .ref 45, .ref 46, .ref 47, .ref 48, .ref 49, .ref 50, .ref 51, .ref 52, .ref 53, .ref 54, .ref 55, .ref 56, .ref 57, .ref 58, .ref 59, .ref 60, .ref 61, .ref 62, .ref 63, .ref 64, .ref 65, .ref 66, .ref 67, .ref 68, .ref 69, .ref 70, .ref 71, .ref 72, .ref 73, .ref 74, .ref 75, .ref 76, .ref 77, .ref 78, .ref 79, .ref 80, .ref 81, .ref 82, .ref 83, .ref 84, .ref 85, .ref 86, .ref 87, .ref 88, .ref 89, .ref 90, .ref 91, .ref 92, .ref 93, .ref 94, .ref 95, .ref 96, .ref 97, .ref 98, .ref 99, .ref 100, .ref 101, .ref 102, .ref 103, .ref 104, .ref 105, .ref 106, .ref 107, .ref 108, .ref 109, .ref 110, .ref 111, .ref 112, .ref 113, .ref 114, .ref 115, .ref 116, .ref 117, .ref 118, .ref 119, .ref 120, .ref 121, .ref 122, .ref 123, .ref 124, .ref 125, .ref 126, .ref 127, .ref 128, .ref 129, .ref 130, .ref 131, .ref 132, .ref 133, .ref 134, .ref 135, .ref 136, .ref 137, .ref 138, .ref 139, .ref 140, .ref 141, .ref 142, .ref 143, .ref 144, .ref 145, .ref 146, .ref 147, .ref 148, .ref 149, .ref 150, .ref 151, .ref 152, .ref 153, .ref 154, .ref 155, .ref 156, .ref 157, .ref 158, .ref 159, .ref 160, .ref 161, .ref 162, .ref 163, .ref 164, .ref 165, .ref 166, .ref 167, .ref 168, .ref 169, .ref 170, .ref 171, .ref 172, .ref 173, .ref 174, .ref 175, .ref 176, .ref 177, .ref 178, .ref 179, .ref 180, .ref 181, .ref 182, .ref 183, .ref 184, .ref 185, .ref 186, .ref 187, .ref 188, .ref 189, .ref 190, .ref 191, .ref 192, .ref 193, .ref 194, .ref 195, .ref 196, .ref 197, .ref 198, .ref 199, .ref 200, .ref 201, .ref 202, .ref 203, .ref 204, .ref 205, .ref 206, .ref 207, .ref 208, .ref 209, .ref 210, .ref 211, .ref 212, .ref 213, .ref 214, .ref 215, .ref 216, .ref 217, .ref 218, .ref 219, .ref 220, .ref 221, .ref 222, .ref 223, .ref 224, .ref 225, .ref 226, .ref 227, .ref 228, .ref 229, .ref 230, .ref 231, .ref 232, .ref 233, .ref 234, .ref 235, .ref 236, .ref 237, .ref 238, .ref 239, .ref 240, .ref 241, .ref 242, .ref 243, .ref 244, .ref 245, .ref 246, .ref 247, .ref 248, .ref 249, .ref 250, .ref 251, .ref 252, .ref 253, .ref 254, .ref 255, .ref 256, .ref 257], vm := .none },
  { cls := 10, slots := #[.int (-128)], vm := .none },
  { cls := 10, slots := #[.int (-127)], vm := .none },
  { cls := 10, slots := #[.int (-126)], vm := .none },
  { cls := 10, slots := #[.int (-125)], vm := .none },
  { cls := 10, slots := #[.int (-124)], vm := .none },
  { cls := 10, slots := #[.int (-123)], vm := .none },
  { cls := 10, slots := #[.int (-122)], vm := .none },
  { cls := 10, slots := #[.int (-121)], vm := .none },
  { cls := 10, slots := #[.int (-120)], vm := .none },
  { cls := 10, slots := #[.int (-119)], vm := .none },
  { cls := 10, slots := #[.int (-118)], vm := .none },
  { cls := 10, slots := #[.int (-117)], vm := .none },
  { cls := 10, slots := #[.int (-116)], vm := .none },
  { cls := 10, slots := #[.int (-115)], vm := .none },
  { cls := 10, slots := #[.int (-114)], vm := .none },
  { cls := 10, slots := #[.int (-113)], vm := .none },
  { cls := 10, slots := #[.int (-112)], vm := .none },
  { cls := 10, slots := #[.int (-111)], vm := .none },
  { cls := 10, slots := #[.int (-110)], vm := .none },
  { cls := 10, slots := #[.int (-109)], vm := .none },
  { cls := 10, slots := #[.int (-108)], vm := .none },
  { cls := 10, slots := #[.int (-107)], vm := .none },
  { cls := 10, slots := #[.int (-106)], vm := .none },
  { cls := 10, slots := #[.int (-105)], vm := .none },
  { cls := 10, slots := #[.int (-104)], vm := .none },
  { cls := 10, slots := #[.int (-103)], vm := .none },
  { cls := 10, slots := #[.int (-102)], vm := .none },
  { cls := 10, slots := #[.int (-101)], vm := .none },
  { cls := 10, slots := #[.int (-100)], vm := .none },
  { cls := 10, slots := #[.int (-99)], vm := .none },
  { cls := 10, slots := #[.int (-98)], vm := .none },
  { cls := 10, slots := #[.int (-97)], vm := .none },
  { cls := 10, slots := #[.int (-96)], vm := .none },
  { cls := 10, slots := #[.int (-95)], vm := .none },
  { cls := 10, slots := #[.int (-94)], vm := .none },
  { cls := 10, slots := #[.int (-93)], vm := .none },
  { cls := 10, slots := #[.int (-92)], vm := .none },
  { cls := 10, slots := #[.int (-91)], vm := .none },
  { cls := 10, slots := #[.int (-90)], vm := .none },
  { cls := 10, slots := #[.int (-89)], vm := .none },
  { cls := 10, slots := #[.int (-88)], vm := .none },
  { cls := 10, slots := #[.int (-87)], vm := .none },
  { cls := 10, slots := #[.int (-86)], vm := .none },
  { cls := 10, slots := #[.int (-85)], vm := .none },
  { cls := 10, slots := #[.int (-84)], vm := .none },
  { cls := 10, slots := #[.int (-83)], vm := .none },
  { cls := 10, slots := #[.int (-82)], vm := .none },
  { cls := 10, slots := #[.int (-81)], vm := .none },
  { cls := 10, slots := #[.int (-80)], vm := .none },
  { cls := 10, slots := #[.int (-79)], vm := .none },
  { cls := 10, slots := #[.int (-78)], vm := .none },
  { cls := 10, slots := #[.int (-77)], vm := .none },
  { cls := 10, slots := #[.int (-76)], vm := .none },
  { cls := 10, slots := #[.int (-75)], vm := .none },
  { cls := 10, slots := #[.int (-74)], vm := .none },
  { cls := 10, slots := #[.int (-73)], vm := .none },
  { cls := 10, slots := #[.int (-72)], vm := .none },
  { cls := 10, slots := #[.int (-71)], vm := .none },
  { cls := 10, slots := #[.int (-70)], vm := .none },
  { cls := 10, slots := #[.int (-69)], vm := .none },
  { cls := 10, slots := #[.int (-68)], vm := .none },
  { cls := 10, slots := #[.int (-67)], vm := .none },
  { cls := 10, slots := #[.int (-66)], vm := .none },
  { cls := 10, slots := #[.int (-65)], vm := .none },
  { cls := 10, slots := #[.int (-64)], vm := .none },
  { cls := 10, slots := #[.int (-63)], vm := .none },
  { cls := 10, slots := #[.int (-62)], vm := .none },
  { cls := 10, slots := #[.int (-61)], vm := .none },
  { cls := 10, slots := #[.int (-60)], vm := .none },
  { cls := 10, slots := #[.int (-59)], vm := .none },
  { cls := 10, slots := #[.int (-58)], vm := .none },
  { cls := 10, slots := #[.int (-57)], vm := .none },
  { cls := 10, slots := #[.int (-56)], vm := .none },
  { cls := 10, slots := #[.int (-55)], vm := .none },
  { cls := 10, slots := #[.int (-54)], vm := .none },
  { cls := 10, slots := #[.int (-53)], vm := .none },
  { cls := 10, slots := #[.int (-52)], vm := .none },
  { cls := 10, slots := #[.int (-51)], vm := .none },
  { cls := 10, slots := #[.int (-50)], vm := .none },
  { cls := 10, slots := #[.int (-49)], vm := .none },
  { cls := 10, slots := #[.int (-48)], vm := .none },
  { cls := 10, slots := #[.int (-47)], vm := .none },
  { cls := 10, slots := #[.int (-46)], vm := .none },
  { cls := 10, slots := #[.int (-45)], vm := .none },
  { cls := 10, slots := #[.int (-44)], vm := .none },
  { cls := 10, slots := #[.int (-43)], vm := .none },
  { cls := 10, slots := #[.int (-42)], vm := .none },
  { cls := 10, slots := #[.int (-41)], vm := .none },
  { cls := 10, slots := #[.int (-40)], vm := .none },
  { cls := 10, slots := #[.int (-39)], vm := .none },
  { cls := 10, slots := #[.int (-38)], vm := .none },
  { cls := 10, slots := #[.int (-37)], vm := .none },
  { cls := 10, slots := #[.int (-36)], vm := .none },
  { cls := 10, slots := #[.int (-35)], vm := .none },
  { cls := 10, slots := #[.int (-34)], vm := .none },
  { cls := 10, slots := #[.int (-33)], vm := .none },
  { cls := 10, slots := #[.int (-32)], vm := .none },
  { cls := 10, slots := #[.int (-31)], vm := .none },
  { cls := 10, slots := #[.int (-30)], vm := .none },
  { cls := 10, slots := #[.int (-29)], vm := .none },
  { cls := 10, slots := #[.int (-28)], vm := .none },
  { cls := 10, slots := #[.int (-27)], vm := .none },
  { cls := 10, slots := #[.int (-26)], vm := .none },
  { cls := 10, slots := #[.int (-25)], vm := .none },
  { cls := 10, slots := #[.int (-24)], vm := .none },
  { cls := 10, slots := #[.int (-23)], vm := .none },
  { cls := 10, slots := #[.int (-22)], vm := .none },
  { cls := 10, slots := #[.int (-21)], vm := .none },
  { cls := 10, slots := #[.int (-20)], vm := .none },
  { cls := 10, slots := #[.int (-19)], vm := .none },
  { cls := 10, slots := #[.int (-18)], vm := .none },
  { cls := 10, slots := #[.int (-17)], vm := .none },
  { cls := 10, slots := #[.int (-16)], vm := .none },
  { cls := 10, slots := #[.int (-15)], vm := .none },
  { cls := 10, slots := #[.int (-14)], vm := .none },
  { cls := 10, slots := #[.int (-13)], vm := .none },
  { cls := 10, slots := #[.int (-12)], vm := .none },
  { cls := 10, slots := #[.int (-11)], vm := .none },
  { cls := 10, slots := #[.int (-10)], vm := .none },
  { cls := 10, slots := #[.int (-9)], vm := .none },
  { cls := 10, slots := #[.int (-8)], vm := .none },
  { cls := 10, slots := #[.int (-7)], vm := .none },
  { cls := 10, slots := #[.int (-6)], vm := .none },
  { cls := 10, slots := #[.int (-5)], vm := .none },
  { cls := 10, slots := #[.int (-4)], vm := .none },
  { cls := 10, slots := #[.int (-3)], vm := .none },
  { cls := 10, slots := #[.int (-2)], vm := .none },
  { cls := 10, slots := #[.int (-1)], vm := .none },
  { cls := 10, slots := #[.int 0], vm := .none },
  { cls := 10, slots := #[.int 1], vm := .none },
  { cls := 10, slots := #[.int 2], vm := .none },
  { cls := 10, slots := #[.int 3], vm := .none },
  { cls := 10, slots := #[.int 4], vm := .none },
  { cls := 10, slots := #[.int 5], vm := .none },
  { cls := 10, slots := #[.int 6], vm := .none },
  { cls := 10, slots := #[.int 7], vm := .none },
  { cls := 10, slots := #[.int 8], vm := .none },
  { cls := 10, slots := #[.int 9], vm := .none },
  { cls := 10, slots := #[.int 10], vm := .none },
  { cls := 10, slots := #[.int 11], vm := .none },
  { cls := 10, slots := #[.int 12], vm := .none },
  { cls := 10, slots := #[.int 13], vm := .none },
  { cls := 10, slots := #[.int 14], vm := .none },
  { cls := 10, slots := #[.int 15], vm := .none },
  { cls := 10, slots := #[.int 16], vm := .none },
  { cls := 10, slots := #[.int 17], vm := .none },
  { cls := 10, slots := #[.int 18], vm := .none },
  { cls := 10, slots := #[.int 19], vm := .none },
  { cls := 10, slots := #[.int 20], vm := .none },
  { cls := 10, slots := #[.int 21], vm := .none },
  { cls := 10, slots := #[.int 22], vm := .none },
  { cls := 10, slots := #[.int 23], vm := .none },
  { cls := 10, slots := #[.int 24], vm := .none },
  { cls := 10, slots := #[.int 25], vm := .none },
  { cls := 10, slots := #[.int 26], vm := .none },
  { cls := 10, slots := #[.int 27], vm := .none },
  { cls := 10, slots := #[.int 28], vm := .none },
  { cls := 10, slots := #[.int 29], vm := .none },
  { cls := 10, slots := #[.int 30], vm := .none },
  { cls := 10, slots := #[.int 31], vm := .none },
  { cls := 10, slots := #[.int 32], vm := .none },
  { cls := 10, slots := #[.int 33], vm := .none },
  { cls := 10, slots := #[.int 34], vm := .none },
  { cls := 10, slots := #[.int 35], vm := .none },
  { cls := 10, slots := #[.int 36], vm := .none },
  { cls := 10, slots := #[.int 37], vm := .none },
  { cls := 10, slots := #[.int 38], vm := .none },
  { cls := 10, slots := #[.int 39], vm := .none },
  { cls := 10, slots := #[.int 40], vm := .none },
  { cls := 10, slots := #[.int 41], vm := .none },
  { cls := 10, slots := #[.int 42], vm := .none },
  { cls := 10, slots := #[.int 43], vm := .none },
  { cls := 10, slots := #[.int 44], vm := .none },
  { cls := 10, slots := #[.int 45], vm := .none },
  { cls := 10, slots := #[.int 46], vm := .none },
  { cls := 10, slots := #[.int 47], vm := .none },
  { cls := 10, slots := #[.int 48], vm := .none },
  { cls := 10, slots := #[.int 49], vm := .none },
  { cls := 10, slots := #[.int 50], vm := .none },
  { cls := 10, slots := #[.int 51], vm := .none },
  { cls := 10, slots := #[.int 52], vm := .none },
  { cls := 10, slots := #[.int 53], vm := .none },
  { cls := 10, slots := #[.int 54], vm := .none },
  { cls := 10, slots := #[.int 55], vm := .none },
  { cls := 10, slots := #[.int 56], vm := .none },
  { cls := 10, slots := #[.int 57], vm := .none },
  { cls := 10, slots := #[.int 58], vm := .none },
  { cls := 10, slots := #[.int 59], vm := .none },
  { cls := 10, slots := #[.int 60], vm := .none },
  { cls := 10, slots := #[.int 61], vm := .none },
  { cls := 10, slots := #[.int 62], vm := .none },
  { cls := 10, slots := #[.int 63], vm := .none },
  { cls := 10, slots := #[.int 64], vm := .none },
  { cls := 10, slots := #[.int 65], vm := .none },
  { cls := 10, slots := #[.int 66], vm := .none },
  { cls := 10, slots := #[.int 67], vm := .none },
  { cls := 10, slots := #[.int 68], vm := .none },
  { cls := 10, slots := #[.int 69], vm := .none },
  { cls := 10, slots := #[.int 70], vm := .none },
  { cls := 10, slots := #[.int 71], vm := .none },
  { cls := 10, slots := #[.int 72], vm := .none },
  { cls := 10, slots := #[.int 73], vm := .none },
  { cls := 10, slots := #[.int 74], vm := .none },
  { cls := 10, slots := #[.int 75], vm := .none },
  { cls := 10, slots := #[.int 76], vm := .none },
  { cls := 10, slots := #[.int 77], vm := .none },
  { cls := 10, slots := #[.int 78], vm := .none },
  { cls := 10, slots := #[.int 79], vm := .none },
  { cls := 10, slots := #[.int 80], vm := .none },
  { cls := 10, slots := #[.int 81], vm := .none },
  { cls := 10, slots := #[.int 82], vm := .none },
  { cls := 10, slots := #[.int 83], vm := .none },
  { cls := 10, slots := #[.int 84], vm := .none },
  { cls := 10, slots := #[.int 85], vm := .none },
  { cls := 10, slots := #[.int 86], vm := .none },
  { cls := 10, slots := #[.int 87], vm := .none },
  { cls := 10, slots := #[.int 88], vm := .none },
  { cls := 10, slots := #[.int 89], vm := .none },
  { cls := 10, slots := #[.int 90], vm := .none },
  { cls := 10, slots := #[.int 91], vm := .none },
  { cls := 10, slots := #[.int 92], vm := .none },
  { cls := 10, slots := #[.int 93], vm := .none },
  { cls := 10, slots := #[.int 94], vm := .none },
  { cls := 10, slots := #[.int 95], vm := .none },
  { cls := 10, slots := #[.int 96], vm := .none },
  { cls := 10, slots := #[.int 97], vm := .none },
  { cls := 10, slots := #[.int 98], vm := .none },
  { cls := 10, slots := #[.int 99], vm := .none },
  { cls := 10, slots := #[.int 100], vm := .none },
  { cls := 10, slots := #[.int 101], vm := .none },
  { cls := 10, slots := #[.int 102], vm := .none },
  { cls := 10, slots := #[.int 103], vm := .none },
  { cls := 10, slots := #[.int 104], vm := .none },
  { cls := 10, slots := #[.int 105], vm := .none },
  { cls := 10, slots := #[.int 106], vm := .none },
  { cls := 10, slots := #[.int 107], vm := .none },
  { cls := 10, slots := #[.int 108], vm := .none },
  { cls := 10, slots := #[.int 109], vm := .none },
  { cls := 10, slots := #[.int 110], vm := .none },
  { cls := 10, slots := #[.int 111], vm := .none },
  { cls := 10, slots := #[.int 112], vm := .none },
  { cls := 10, slots := #[.int 113], vm := .none },
  { cls := 10, slots := #[.int 114], vm := .none },
  { cls := 10, slots := #[.int 115], vm := .none },
  { cls := 10, slots := #[.int 116], vm := .none },
  { cls := 10, slots := #[.int 117], vm := .none },
  { cls := 10, slots := #[.int 118], vm := .none },
  { cls := 10, slots := #[.int 119], vm := .none },
  { cls := 10, slots := #[.int 120], vm := .none },
  { cls := 10, slots := #[.int 121], vm := .none },
  { cls := 10, slots := #[.int 122], vm := .none },
  { cls := 10, slots := #[.int 123], vm := .none },
  { cls := 10, slots := #[.int 124], vm := .none },
  { cls := 10, slots := #[.int 125], vm := .none },
  { cls := 10, slots := #[.int 126], vm := .none },
  { cls := 10, slots := #[.int 127], vm := .none }]
def classes : Array Class := #[k0, k1, k2, k3, k4, k5, k6, k7, k8, k9, k10, k11, k12, k13, k14, k15, k16, k17, k18, k19, k20]
def interned : List (Array UInt16 × Addr) := []
def slotsUsed : Nat := 517
def theMethod : MethodId := ⟨1, 1⟩
def args0 : Array Value := #[.int 0, .int 1, .int 2, .int 3, .int 4, .int 5]
def aboutOver (below : List Frame) : State where
  vm := { classes := classes, interned := interned.toArray }
  heap := heap
  slotsUsed := slotsUsed
  threads := #[{ frames := .invoking theMethod args0 :: below }]
def below0 : List Frame := [.native { method := ⟨0, 0⟩, args := #[] }]
def about1 : State := aboutOver below0
def p0 : Program := .bare "" "" ""
def e0 : Env := launch0.env 0 0 0
theorem w_frames : about1.frames = Frame.invoking theMethod args0 :: below0 := rfl
set_option maxRecDepth 65536 in
theorem w_args : argsFit about1.vm theMethod args0 = true := by decide +kernel
set_option maxRecDepth 65536 in
theorem w_heap : heapFits about1 = true := by decide +kernel
set_option maxRecDepth 65536 in
theorem w_runnable : about1.curStatus? = some .runnable := by decide +kernel
set_option maxRecDepth 65536 in
theorem w_alone : about1.alone = true := by decide +kernel
set_option maxRecDepth 65536 in
theorem w_named : about1.methodNamed? x = some theMethod := by decide +kernel
set_option maxRecDepth 65536 in
theorem w_hears : about1.hears theMethod below0 = true := by decide +kernel
set_option maxRecDepth 65536 in
theorem w_ripe : about1.ripe theMethod args0 below0 = true := by decide +kernel
theorem w_running : about1.status = .running := rfl
set_option maxRecDepth 65536 in
theorem w_room : about1.hasRoom e0.platform room_1 = true :=
  launch0.hasRoom_least _ room_1 (by decide +kernel) (by decide +kernel) (by decide +kernel) (by decide +kernel) (by decide +kernel) (by decide +kernel)
theorem allAtoms_all (ts : List Jvm.Cond) (a : Array Jvm.Value) (st : Jvm.State) : (allAtoms ts).before a st = ts.all (fun c => c.before a st) := by
  induction ts with
  | nil => rfl
  | cons c t ih =>
    show (Jvm.Cond.and c (allAtoms t)).before a st = _
    rw [Jvm.Cond.before_and, ih, List.all_cons]
def words1 : List Jvm.Cond := Jvm.Cond.code x code maxLocals ret :: tables_1
/-- a 'code' word, met by the world's own term for the bytes: nothing is compared byte by byte -/
theorem code_word {y : MethodName} {bytes : ByteArray} {mx : Nat} {rt : Option FieldType} {a : Array Value} {s : State} {m : MethodId} {meth : Method} {c : Code} (h1 : s.methodNamed? y = some m) (h2 : s.vm.method? m = some meth) (h3 : meth.code = some c) (h4 : c.code = bytes)
    (h5 : (c.maxLocals == mx && c.exceptionTable.isEmpty && decide (c.maxStack ≤ mostOperands) && decide (meth.sig.returnType = rt) && !meth.locks && decide (parseMethodDescriptor y.desc = some meth.sig)) = true) : (Jvm.Cond.code y bytes mx rt).before a s = true := by
  simp only [Bool.and_eq_true, beq_iff_eq, Bool.not_eq_true', decide_eq_true_eq] at h5
  obtain ⟨⟨⟨⟨⟨g1, g2⟩, g3⟩, g4⟩, g5⟩, g6⟩ := h5
  simp [Cond.before, Cond.holds, Cond.value, h1, h2, h3, h4, g1, g2, g3, g4, g5, g6]
def isCode : Jvm.Cond → Bool
  | .code _ _ _ _ => true
  | _ => false
theorem all_split {L : List Jvm.Cond} {P : Jvm.Cond → Bool} (h1 : L.all (fun c => isCode c || P c) = true) (h2 : ∀ c ∈ L.filter isCode, P c = true) : L.all P = true := by
  refine List.all_eq_true.mpr fun c hc => ?_
  have h := List.all_eq_true.mp h1 c hc
  rcases Bool.eq_false_or_eq_true (isCode c) with hi | hi
  · exact h2 c (List.mem_filter.mpr ⟨hc, hi⟩)
  · simpa [hi] using h
set_option maxRecDepth 65536 in
theorem w_c0 : (Jvm.Cond.code x code maxLocals ret).before args0 about1 = true := code_word (m := ⟨1, 1⟩) (meth := k1m1) (c := k1c1) (by decide +kernel) rfl rfl rfl (by decide +kernel)
set_option maxRecDepth 65536 in
theorem w_c1 : (Jvm.Cond.code ({ cls := "java/lang/Math", name := "max", desc := "(II)I" } : Jvm.MethodName) jdk_29_method_65_code (2 : Nat) (Option.some Jvm.ClassFile.FieldType.int)).before args0 about1 = true := code_word (m := ⟨2, 1⟩) (meth := k2m1) (c := k2c1) (by decide +kernel) rfl rfl rfl (by decide +kernel)
set_option maxRecDepth 65536 in
theorem w_c2 : (Jvm.Cond.code ({ cls := "java/lang/Integer", name := "valueOf", desc := "(I)Ljava/lang/Integer;" } : Jvm.MethodName) jdk_33_method_22_code (1 : Nat) (Option.some (Jvm.ClassFile.FieldType.object "java/lang/Integer"))).before args0 about1 = true := code_word (m := ⟨10, 0⟩) (meth := k10m0) (c := k10c0) (by decide +kernel) rfl rfl rfl (by decide +kernel)
set_option maxRecDepth 65536 in
theorem w_c3 : (Jvm.Cond.code ({ cls := "com/example/vestwright/vestwright/plan/Plan$ServiceBeforeBreaks", name := "<init>", desc := "(Ljava/lang/Integer;Ljava/lang/Integer;Ljava/lang/Integer;)V" } : Jvm.MethodName) prog_57_method_1_code (4 : Nat) (Option.none : Option Jvm.ClassFile.FieldType)).before args0 about1 = true := code_word (m := ⟨4, 0⟩) (meth := k4m0) (c := k4c0) (by decide +kernel) rfl rfl rfl (by decide +kernel)
set_option maxRecDepth 65536 in
theorem w_c4 : (Jvm.Cond.code ({ cls := "java/lang/Record", name := "<init>", desc := "()V" } : Jvm.MethodName) jdk_30_method_1_code (1 : Nat) (Option.none : Option Jvm.ClassFile.FieldType)).before args0 about1 = true := code_word (m := ⟨3, 0⟩) (meth := k3m0) (c := k3c0) (by decide +kernel) rfl rfl rfl (by decide +kernel)
set_option maxRecDepth 65536 in
theorem w_c5 : (Jvm.Cond.code ({ cls := "java/lang/Object", name := "<init>", desc := "()V" } : Jvm.MethodName) object_method_1_code (1 : Nat) (Option.none : Option Jvm.ClassFile.FieldType)).before args0 about1 = true := code_word (m := ⟨0, 0⟩) (meth := k0m0) (c := k0c0) (by decide +kernel) rfl rfl rfl (by decide +kernel)
set_option maxRecDepth 65536 in
theorem w_c6 : (Jvm.Cond.code ({ cls := "com/example/vestwright/vestwright/plan/Plan", name := "requireAtLeast", desc := "(Ljava/lang/Integer;ILjava/lang/String;)V" } : Jvm.MethodName) prog_27_method_12_code (3 : Nat) (Option.none : Option Jvm.ClassFile.FieldType)).before args0 about1 = true := code_word (m := ⟨14, 1⟩) (meth := k14m1) (c := k14c1) (by decide +kernel) rfl rfl rfl (by decide +kernel)
set_option maxRecDepth 65536 in
theorem w_c7 : (Jvm.Cond.code ({ cls := "com/example/vestwright/vestwright/plan/Plan", name := "require", desc := "(Ljava/lang/Object;Ljava/lang/String;)Ljava/lang/Object;" } : Jvm.MethodName) prog_27_method_8_code (2 : Nat) (Option.some (Jvm.ClassFile.FieldType.object "java/lang/Object"))).before args0 about1 = true := code_word (m := ⟨14, 0⟩) (meth := k14m0) (c := k14c0) (by decide +kernel) rfl rfl rfl (by decide +kernel)
set_option maxRecDepth 65536 in
theorem w_c8 : (Jvm.Cond.code ({ cls := "java/lang/Integer", name := "intValue", desc := "()I" } : Jvm.MethodName) jdk_33_method_27_code (1 : Nat) (Option.some Jvm.ClassFile.FieldType.int)).before args0 about1 = true := code_word (m := ⟨10, 2⟩) (meth := k10m2) (c := k10c2) (by decide +kernel) rfl rfl rfl (by decide +kernel)
set_option maxRecDepth 65536 in
theorem w_c9 : (Jvm.Cond.code ({ cls := "com/example/vestwright/vestwright/plan/Plan$ServiceBeforeBreaks", name := "keeps", desc := "(III)Z" } : Jvm.MethodName) prog_57_method_2_code (4 : Nat) (Option.some Jvm.ClassFile.FieldType.boolean)).before args0 about1 = true := code_word (m := ⟨4, 1⟩) (meth := k4m1) (c := k4c1) (by decide +kernel) rfl rfl rfl (by decide +kernel)
set_option maxRecDepth 65536 in
theorem w_c10 : (Jvm.Cond.code ({ cls := "java/lang/Integer", name := "<init>", desc := "(I)V" } : Jvm.MethodName) jdk_33_method_23_code (2 : Nat) (Option.none : Option Jvm.ClassFile.FieldType)).before args0 about1 = true := code_word (m := ⟨10, 1⟩) (meth := k10m1) (c := k10c1) (by decide +kernel) rfl rfl rfl (by decide +kernel)
set_option maxRecDepth 65536 in
theorem w_c11 : (Jvm.Cond.code ({ cls := "java/lang/Number", name := "<init>", desc := "()V" } : Jvm.MethodName) jdk_18_method_1_code (1 : Nat) (Option.none : Option Jvm.ClassFile.FieldType)).before args0 about1 = true := code_word (m := ⟨6, 0⟩) (meth := k6m0) (c := k6c0) (by decide +kernel) rfl rfl rfl (by decide +kernel)
def codes1 : List Jvm.Cond := [Jvm.Cond.code x code maxLocals ret, Jvm.Cond.code ({ cls := "java/lang/Math", name := "max", desc := "(II)I" } : Jvm.MethodName) jdk_29_method_65_code (2 : Nat) (Option.some Jvm.ClassFile.FieldType.int), Jvm.Cond.code ({ cls := "java/lang/Integer", name := "valueOf", desc := "(I)Ljava/lang/Integer;" } : Jvm.MethodName) jdk_33_method_22_code (1 : Nat) (Option.some (Jvm.ClassFile.FieldType.object "java/lang/Integer")), Jvm.Cond.code ({ cls := "com/example/vestwright/vestwright/plan/Plan$ServiceBeforeBreaks", name := "<init>", desc := "(Ljava/lang/Integer;Ljava/lang/Integer;Ljava/lang/Integer;)V" } : Jvm.MethodName) prog_57_method_1_code (4 : Nat) (Option.none : Option Jvm.ClassFile.FieldType), Jvm.Cond.code ({ cls := "java/lang/Record", name := "<init>", desc := "()V" } : Jvm.MethodName) jdk_30_method_1_code (1 : Nat) (Option.none : Option Jvm.ClassFile.FieldType), Jvm.Cond.code ({ cls := "java/lang/Object", name := "<init>", desc := "()V" } : Jvm.MethodName) object_method_1_code (1 : Nat) (Option.none : Option Jvm.ClassFile.FieldType), Jvm.Cond.code ({ cls := "com/example/vestwright/vestwright/plan/Plan", name := "requireAtLeast", desc := "(Ljava/lang/Integer;ILjava/lang/String;)V" } : Jvm.MethodName) prog_27_method_12_code (3 : Nat) (Option.none : Option Jvm.ClassFile.FieldType), Jvm.Cond.code ({ cls := "com/example/vestwright/vestwright/plan/Plan", name := "require", desc := "(Ljava/lang/Object;Ljava/lang/String;)Ljava/lang/Object;" } : Jvm.MethodName) prog_27_method_8_code (2 : Nat) (Option.some (Jvm.ClassFile.FieldType.object "java/lang/Object")), Jvm.Cond.code ({ cls := "java/lang/Integer", name := "intValue", desc := "()I" } : Jvm.MethodName) jdk_33_method_27_code (1 : Nat) (Option.some Jvm.ClassFile.FieldType.int), Jvm.Cond.code ({ cls := "com/example/vestwright/vestwright/plan/Plan$ServiceBeforeBreaks", name := "keeps", desc := "(III)Z" } : Jvm.MethodName) prog_57_method_2_code (4 : Nat) (Option.some Jvm.ClassFile.FieldType.boolean), Jvm.Cond.code ({ cls := "java/lang/Integer", name := "<init>", desc := "(I)V" } : Jvm.MethodName) jdk_33_method_23_code (2 : Nat) (Option.none : Option Jvm.ClassFile.FieldType), Jvm.Cond.code ({ cls := "java/lang/Number", name := "<init>", desc := "()V" } : Jvm.MethodName) jdk_18_method_1_code (1 : Nat) (Option.none : Option Jvm.ClassFile.FieldType)]
set_option maxRecDepth 65536 in
theorem codes_eq : words1.filter isCode = codes1 := rfl
theorem w_codes : ∀ c ∈ words1.filter isCode, c.before args0 about1 = true := by
  rw [codes_eq]
  intro c hc
  simp only [codes1, List.mem_cons, List.not_mem_nil, or_false] at hc
  rcases hc with rfl | rfl | rfl | rfl | rfl | rfl | rfl | rfl | rfl | rfl | rfl | rfl
  · exact w_c0
  · exact w_c1
  · exact w_c2
  · exact w_c3
  · exact w_c4
  · exact w_c5
  · exact w_c6
  · exact w_c7
  · exact w_c8
  · exact w_c9
  · exact w_c10
  · exact w_c11
set_option maxRecDepth 65536 in
theorem w_t1 : (words1.take 24).all (fun c => isCode c || c.before args0 about1) = true := by decide +kernel
set_option maxRecDepth 65536 in
theorem w_t2 : ((words1.drop 24).take 24).all (fun c => isCode c || c.before args0 about1) = true := by decide +kernel
set_option maxRecDepth 65536 in
theorem w_t3 : (((words1.drop 24).drop 24).take 24).all (fun c => isCode c || c.before args0 about1) = true := by decide +kernel
set_option maxRecDepth 65536 in
theorem w_t4 : (((words1.drop 24).drop 24).drop 24).all (fun c => isCode c || c.before args0 about1) = true := by decide +kernel
theorem w_tables : (allAtoms (Jvm.Cond.code x code maxLocals ret :: tables_1)).before args0 about1 = true := by
  rw [allAtoms_all]
  show words1.all (fun c => c.before args0 about1) = true
  refine all_split ?_ w_codes
  rw [← List.take_append_drop 24 words1, List.all_append, w_t1, ← List.take_append_drop 24 (words1.drop 24), List.all_append, w_t2, ← List.take_append_drop 24 ((words1.drop 24).drop 24), List.all_append, w_t3, w_t4]
  rfl
set_option maxRecDepth 65536 in
theorem w_rest : rest_1_c.before args0 about1 = true := by decide +kernel
set_option maxRecDepth 65536 in
theorem w_case : (Jvm.Cond.and given_1 narrow_1).before args0 about1 = true := by decide +kernel
theorem w_applies : (headSpec (Jvm.Cond.code x code maxLocals ret :: tables_1) room_1).applies x e0.platform about1 = true :=
  (Spec.applies_iff w_frames).mpr ⟨w_running, w_runnable, w_alone, w_named, w_hears, w_ripe, w_room, w_tables⟩
theorem atStart : AtStart classFile x code maxLocals ret World_1 tables_1 room_1 Calls_1 rest_1 Pre_1 launch0 p0 e0 about1 theMethod args0 below0 :=
  ⟨lists_1, trivial, launch0.admits_env _ _ _, launch0.least_env, fairChoices_fair.cas, fairChoices_fair.clock, w_frames, w_args, w_heap, w_applies, trivial, w_rest, w_case⟩
end start1
theorem witness_1 : WitnessClaimed_1 := ⟨start1.p0, start1.e0, start1.about1, start1.theMethod, start1.args0, start1.below0, start1.atStart⟩
end Jvm.Pilot.@@N@@
