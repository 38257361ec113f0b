import JvmDerived
import JvmDerived.Pilot.@@N@@Statement
import JvmDerived.Pilot.@@N@@Code
set_option linter.unusedVariables false
set_option linter.unusedSimpArgs false
namespace Jvm.RoadKit
open Sem ClassFile Op Lib Jvm.Stand Jvm.Free Jvm.LawKit
section New
variable {p : Program} {l : Launch} {e : Env} {R : Room} {s : State} {m : MethodId} {args : Array Value} {below : List Frame} {meth : Method} {c : Code} {T : State} {locs : List Loc} {cells slots : Nat}
theorem retI (X : Stand p l e R s m args below meth c T locs cells slots) (hx : p.tables.exec = Jvm.exec) {pc : Nat} {Ls : Array Slot} {z : Int32} {rest : List Value} (hret : meth.sig.returnType = some .int) (hd : decode c.code pc = .ok (.ireturn, 1)) {fs : List Frame}
    (hl : ∀ (f : JFrame) (acts : List Action), f.method = m → f.locked = none → f.entered = [] → (doReturn e (T.setTop f) acts (some (.int z))).1 = T.setFrames fs) : Steps p.tables e below (T.setTop (mkF m pc Ls (.int z :: rest))) (T.setFrames fs) := by
  have hm' : T.vm.method? m = some meth := X.method'
  have hn : narrow .int (.int z) = .int z := rfl
  show Steps p.tables e below (T.setTop { method := m, pc := pc, locals := Ls, stack := _ :: rest, locked := none }) _
  jvm_step X.here [X.here.top, hx, hd, hm', hret, hn]
  first | (intro acts; rw [hl _ acts rfl rfl rfl]) | rw [hl _ _ rfl rfl rfl]
  exact Steps.refl _
end New
end Jvm.RoadKit
namespace Jvm.Pilot.@@N@@
open Jvm Jvm.ClassFile Sem Op Lib Jvm.Free Jvm.Stand Jvm.LawKit Jvm.RoadKit Bundle Jvm.Pilot.@@N@@.Jvm.D
/-- a body's contract: from these arguments and this heap it returns, and Q says what it leaves -/
abbrev OwCon (l : Launch) (y : MethodName) (bytes : ByteArray) (ml : Nat) (ret : Option FieldType) (ws : List Jvm.Cond) (rm : Room) (as : Array Value) (Z : State) (h0 : Heap) (Q : Option Value → Heap → List Loc → Prop) : Prop :=
  MetFree l y (head1 (Jvm.Cond.code y bytes ml ret :: ws) rm) (fun a U => a = as ∧ Z.Warmed39 U.vm ∧ U.heap = h0) (fun _ _ _ _ _ => True) (fun _ U o U' => ∃ v L, o = .returned v ∧ Q v U'.heap L ∧ FrameEnd U o U' L rm.cells rm.slots)
/-- .. it may load literals that nobody loaded before -/
abbrev OwConW (l : Launch) (y : MethodName) (bytes : ByteArray) (ml : Nat) (ret : Option FieldType) (ws : List Jvm.Cond) (rm : Room) (as : Array Value) (Z : State) (h0 : Heap) (Q : Option Value → Heap → List Loc → Prop) : Prop :=
  MetFree l y (head1 (Jvm.Cond.code y bytes ml ret :: ws) rm) (fun a U => a = as ∧ Z.Warmed39 U.vm ∧ U.heap = h0) (fun _ _ _ _ _ => True) (fun _ U o U' => ∃ v L, o = .returned v ∧ Q v U'.heap L ∧ ReturnedEndW U o U' L rm.cells rm.slots)
/-- it returns val and leaves the heap as it was -/
def OwQ (val : Option Value) (h0 : Heap) (n0 : Nat) (v : Option Value) (h : Heap) (L : List Loc) : Prop := v = val ∧ Fr n0 L ∧ h = h0
/-- it writes nothing old, and P holds of what it returns and leaves -/
def OwP (P : Option Value → Heap → Prop) (n0 : Nat) (v : Option Value) (h : Heap) (L : List Loc) : Prop := Fr n0 L ∧ P v h
theorem own_eqI {args : Array Value} {s : State} {t : Term} {k : Int32} (h : (Jvm.Cond.eq t (.int k)).value args s none s [] = some true) : t.eval args s none [] s = some (.int k) := by
  obtain ⟨x, y, h1, h2, -, q⟩ := cmp_v (Or.inl h)
  cases h2
  obtain ⟨z, rfl⟩ := q
  rw [h1]; simp [Cond.value, h1, Term.eval] at h; rw [h]
theorem own_eqJ {args : Array Value} {s : State} {t : Term} {k : Int64} (h : (Jvm.Cond.eq t (.long k)).value args s none s [] = some true) : t.eval args s none [] s = some (.long k) := by
  obtain ⟨x, y, h1, h2, -, q⟩ := cmp_v (Or.inl h)
  cases h2
  obtain ⟨z, rfl⟩ := q
  rw [h1]; simp [Cond.value, h1, Term.eval] at h; rw [h]
theorem own_eqR {args : Array Value} {s : State} {t t' : Term} {a : Addr} (h : (Jvm.Cond.eq t t').value args s none s [] = some true) (e : t'.eval args s none [] s = some (.ref a)) : t.eval args s none [] s = some (.ref a) := by
  obtain ⟨x, y, h1, h2, q, -⟩ := cmp_v (Or.inl h)
  cases e.symm.trans h2
  cases x with
  | null => simp [Cond.value, h1, h2] at h
  | ref b => simp [Cond.value, h1, h2] at h; rw [h1, h]
  | _ => simp [Kin, Value.isRef] at q
theorem own_cat {v : Value} (h : v.isRef = true) : v.category = 1 := by rcases ref_cases h with rfl | ⟨a, rfl⟩ <;> rfl
theorem own_len {args : Array Value} {s : State} {t : Term} {a : Addr} {cl : Cell} {ty : FieldType} {n : Int32} (e : t.eval args s none [] s = some (.ref a)) (A : Arr s s.heap a cl ty) (h : (Term.length t).eval args s none [] s = some (.int n)) : cl.slots.size < 2 ^ 31 ∧ cl.slots.size.toInt32 = n := by
  have q := Arr.fin (Vm.Alike.refl _) A
  simpa [Term.eval, e, q] using h
theorem own_el {args : Array Value} {s : State} {t : Term} {a : Addr} {cl : Cell} {ty : FieldType} {j : Int32} {v : Value} (e : t.eval args s none [] s = some (.ref a)) (A : Arr s s.heap a cl ty) (h : (Term.elem t (.int j)).eval args s none [] s = some v) : cl.slots[j.toNatClampNeg]? = some v := (elem_in h e rfl A.1).2
theorem own_fld {args : Array Value} {s : State} {t : Term} {a : Addr} {C n d : String} {v : Value} (e : t.eval args s none [] s = some (.ref a)) (h : (Term.field t C n d).eval args s none [] s = some v) : Fld s s.heap a C n d v := Fld.start ((fld_at e).symm.trans h)
theorem own_z (p0 : Int32) (hz : ((p0 &&& (2147483647 : Int32)).toInt64) = (0 : Int64)) : (((((0 : Int64) + (1000000000 : Int64)) - (1 : Int64)) / (1000000000 : Int64)).toInt32) = (((p0 &&& (2147483647 : Int32)).toInt64).toInt32) := by rw [hz]; decide
theorem own_g (p0 p1 : Int32) (hz : ¬ (((p0 &&& (2147483647 : Int32)).toInt64) = (0 : Int64))) : ((((((((p0 &&& (2147483647 : Int32)).toInt64) * (1000000000 : Int64)) - (((p1 &&& (2147483647 : Int32)) % (1000000000 : Int32)).toInt64)) + (1000000000 : Int64)) - (1 : Int64)) / (1000000000 : Int64)).toInt32) = (((p0 &&& (2147483647 : Int32)).toInt64).toInt32) := by
  have h1 := c_mask p0 (2147483647 : Int32) 31 (by decide) (by decide)
  have h2 := c_mask p1 (2147483647 : Int32) 31 (by decide) (by decide)
  have h3 := (c_irem (p1 &&& (2147483647 : Int32)) (1000000000 : Int32) 1000000000 (by decide)).1 (by omega)
  have h4 := c_i2l (p0 &&& (2147483647 : Int32))
  have h5 := c_i2l ((p1 &&& (2147483647 : Int32)) % (1000000000 : Int32))
  generalize (p0 &&& (2147483647 : Int32)).toInt64 = S at h4 hz ⊢
  generalize ((p1 &&& (2147483647 : Int32)) % (1000000000 : Int32)).toInt64 = Q at h5 ⊢
  have hS : S.toInt ≠ 0 := fun q => hz (Int64.toInt_inj.mp q)
  have hS0 : 0 ≤ S.toInt ∧ S.toInt ≤ 2147483647 := by rw [h4, h1]; omega
  have hQ0 : 0 ≤ Q.toInt ∧ Q.toInt ≤ 999999999 := by rw [h5, h3]; omega
  clear h1 h2 h3 h4 h5 hz
  have k1 : (1000000000 : Int64).toInt = 1000000000 := by decide
  have k2 : (1 : Int64).toInt = 1 := by decide
  have v1 : (S * (1000000000 : Int64)).toInt = S.toInt * 1000000000 := by
    have m1 := c_lmul S (1000000000 : Int64)
    have r1 := rng64 (S * (1000000000 : Int64))
    rw [k1] at m1; omega
  have v2 : (S * (1000000000 : Int64) - Q).toInt = S.toInt * 1000000000 - Q.toInt := by
    have m1 := c_lsub (S * (1000000000 : Int64)) Q
    have r1 := rng64 (S * (1000000000 : Int64) - Q)
    rw [v1] at m1; clear v1; omega
  have v3 : (S * (1000000000 : Int64) - Q + (1000000000 : Int64)).toInt = S.toInt * 1000000000 - Q.toInt + 1000000000 := by
    have m1 := c_ladd (S * (1000000000 : Int64) - Q) (1000000000 : Int64)
    have r1 := rng64 (S * (1000000000 : Int64) - Q + (1000000000 : Int64))
    rw [v2, k1] at m1; clear v1 v2; omega
  have v4 : (S * (1000000000 : Int64) - Q + (1000000000 : Int64) - (1 : Int64)).toInt = S.toInt * 1000000000 - Q.toInt + 1000000000 - 1 := by
    have m1 := c_lsub (S * (1000000000 : Int64) - Q + (1000000000 : Int64)) (1 : Int64)
    have r1 := rng64 (S * (1000000000 : Int64) - Q + (1000000000 : Int64) - (1 : Int64))
    rw [v3, k2] at m1; clear v1 v2 v3; omega
  clear v1 v2 v3
  have m5 := (c_ldiv (S * (1000000000 : Int64) - Q + (1000000000 : Int64) - (1 : Int64)) (1000000000 : Int64) 1000000000 (by decide) (by decide)).1 (by rw [v4]; omega)
  have e : (S * (1000000000 : Int64) - Q + (1000000000 : Int64) - (1 : Int64)) / (1000000000 : Int64) = S := Int64.toInt_inj.mp (by rw [m5, v4]; omega)
  rw [e]

theorem d1_0 : decode prog_34_method_13_code 0 = .ok (.getstatic 99, 3) := by decide +kernel
theorem d1_3 : decode prog_34_method_13_code 3 = .ok (.lconst 1, 1) := by decide +kernel
theorem d1_4 : decode prog_34_method_13_code 4 = .ok (.invokevirtual 105, 3) := by decide +kernel
theorem d1_7 : decode prog_34_method_13_code 7 = .ok (.lstore_n 2, 1) := by decide +kernel
theorem d1_8 : decode prog_34_method_13_code 8 = .ok (.lload_n 0, 1) := by decide +kernel
theorem d1_9 : decode prog_34_method_13_code 9 = .ok (.lload_n 2, 1) := by decide +kernel
theorem d1_10 : decode prog_34_method_13_code 10 = .ok (.ladd, 1) := by decide +kernel
theorem d1_11 : decode prog_34_method_13_code 11 = .ok (.lconst 1, 1) := by decide +kernel
theorem d1_12 : decode prog_34_method_13_code 12 = .ok (.lsub, 1) := by decide +kernel
theorem d1_13 : decode prog_34_method_13_code 13 = .ok (.lload_n 2, 1) := by decide +kernel
theorem d1_14 : decode prog_34_method_13_code 14 = .ok (.ldiv, 1) := by decide +kernel
theorem d1_15 : decode prog_34_method_13_code 15 = .ok (.l2i, 1) := by decide +kernel
theorem d1_16 : decode prog_34_method_13_code 16 = .ok (.ireturn, 1) := by decide +kernel
theorem owpn1 : plainName "com/example/portable_transactions/portabletransactions/transaction/BoundUnit" = true := by first | (simp [plainName, overriddenIn]; done) | decide +kernel
theorem d2_0 : decode jdk_2799_method_7_code 0 = .ok (.aload_n 0, 1) := by decide +kernel
theorem d2_1 : decode jdk_2799_method_7_code 1 = .ok (.getfield 44, 3) := by decide +kernel
theorem d2_4 : decode jdk_2799_method_7_code 4 = .ok (.dup2, 1) := by decide +kernel
theorem d2_5 : decode jdk_2799_method_7_code 5 = .ok (.lstore_n 3, 1) := by decide +kernel
theorem d2_6 : decode jdk_2799_method_7_code 6 = .ok (.lconst 1, 1) := by decide +kernel
theorem d2_7 : decode jdk_2799_method_7_code 7 = .ok (.lcmp, 1) := by decide +kernel
theorem d2_8 : decode jdk_2799_method_7_code 8 = .ok (.ifCond .ne 5, 3) := by decide +kernel
theorem d2_11 : decode jdk_2799_method_7_code 11 = .ok (.lload_n 1, 1) := by decide +kernel
theorem d2_12 : decode jdk_2799_method_7_code 12 = .ok (.lreturn, 1) := by decide +kernel
theorem d2_13 : decode jdk_2799_method_7_code 13 = .ok (.lload_n 1, 1) := by decide +kernel
theorem d2_14 : decode jdk_2799_method_7_code 14 = .ok (.aload_n 0, 1) := by decide +kernel
theorem d2_15 : decode jdk_2799_method_7_code 15 = .ok (.getfield 52, 3) := by decide +kernel
theorem d2_18 : decode jdk_2799_method_7_code 18 = .ok (.dup2, 1) := by decide +kernel
theorem d2_19 : decode jdk_2799_method_7_code 19 = .ok (.lstore 5, 2) := by decide +kernel
theorem d2_21 : decode jdk_2799_method_7_code 21 = .ok (.lcmp, 1) := by decide +kernel
theorem d2_22 : decode jdk_2799_method_7_code 22 = .ok (.ifCond .le 7, 3) := by decide +kernel
theorem d2_25 : decode jdk_2799_method_7_code 25 = .ok (.ldc2_w 50, 3) := by decide +kernel
theorem d2_28 : decode jdk_2799_method_7_code 28 = .ok (.lreturn, 1) := by decide +kernel
theorem d2_29 : decode jdk_2799_method_7_code 29 = .ok (.lload_n 1, 1) := by decide +kernel
theorem d2_30 : decode jdk_2799_method_7_code 30 = .ok (.lload 5, 2) := by decide +kernel
theorem d2_32 : decode jdk_2799_method_7_code 32 = .ok (.lneg, 1) := by decide +kernel
theorem d2_33 : decode jdk_2799_method_7_code 33 = .ok (.lcmp, 1) := by decide +kernel
theorem d2_34 : decode jdk_2799_method_7_code 34 = .ok (.ifCond .ge 7, 3) := by decide +kernel
theorem d2_37 : decode jdk_2799_method_7_code 37 = .ok (.ldc2_w 80, 3) := by decide +kernel
theorem d2_40 : decode jdk_2799_method_7_code 40 = .ok (.lreturn, 1) := by decide +kernel
theorem d2_41 : decode jdk_2799_method_7_code 41 = .ok (.lload_n 1, 1) := by decide +kernel
theorem d2_42 : decode jdk_2799_method_7_code 42 = .ok (.lload_n 3, 1) := by decide +kernel
theorem d2_43 : decode jdk_2799_method_7_code 43 = .ok (.lmul, 1) := by decide +kernel
theorem d2_44 : decode jdk_2799_method_7_code 44 = .ok (.lreturn, 1) := by decide +kernel
theorem owpn2 : plainName "java/util/concurrent/TimeUnit" = true := by first | (simp [plainName, overriddenIn]; done) | decide +kernel
theorem owpn0 : plainName "com/example/portable_transactions/portabletransactions/transaction/BoundUnitRoundedUpToSecondsPinLaw" = true := by first | (simp [plainName, overriddenIn]; done) | decide +kernel
theorem owpd0 : parseMethodDescriptor "(J)J" = some ⟨[.long], some .long⟩ := by decide +kernel
theorem owpd1 : parseMethodDescriptor "(J)I" = some ⟨[.long], some .int⟩ := by decide +kernel
def OwW (Z : State) (w_SECONDS : Addr) (w_SECONDS_name : Addr) : Prop := (Exa Z Z.heap w_SECONDS "java/util/concurrent/TimeUnit") ∧ (Exa Z Z.heap w_SECONDS_name "java/lang/String") ∧ (Sta Z Z.heap "java/util/concurrent/TimeUnit" "SECONDS" "Ljava/util/concurrent/TimeUnit;" (.ref w_SECONDS)) ∧ (Fld Z Z.heap w_SECONDS "java/lang/Enum" "name" "Ljava/lang/String;" (.ref w_SECONDS_name)) ∧ (Fld Z Z.heap w_SECONDS "java/lang/Enum" "ordinal" "I" (.int (3 : Int32))) ∧ (Fld Z Z.heap w_SECONDS "java/util/concurrent/TimeUnit" "scale" "J" (.long (1000000000 : Int64))) ∧ (Fld Z Z.heap w_SECONDS "java/util/concurrent/TimeUnit" "maxNanos" "J" (.long (9223372036 : Int64))) ∧ (Fld Z Z.heap w_SECONDS "java/util/concurrent/TimeUnit" "microRatio" "J" (.long (1000000 : Int64))) ∧ (Fld Z Z.heap w_SECONDS "java/util/concurrent/TimeUnit" "maxMicros" "J" (.long (9223372036854 : Int64))) ∧ (Fld Z Z.heap w_SECONDS "java/util/concurrent/TimeUnit" "milliRatio" "I" (.int (1000 : Int32))) ∧ (Fld Z Z.heap w_SECONDS "java/util/concurrent/TimeUnit" "maxMillis" "J" (.long (9223372036854775 : Int64))) ∧ (Fld Z Z.heap w_SECONDS "java/util/concurrent/TimeUnit" "secRatio" "I" (.int (1 : Int32))) ∧ (Fld Z Z.heap w_SECONDS "java/util/concurrent/TimeUnit" "maxSecs" "J" (.long (9223372036854775807 : Int64))) ∧ True
set_option maxRecDepth 65536 in
set_option maxHeartbeats 40000000 in
theorem rm2 (l : Launch) (Z : State) (a0 : Array Value) (hw : ∀ d ∈ tables_1, d.before a0 Z = true) (ws : List Jvm.Cond) (n0 : Nat) (h0 : Heap) (O : Old Z n0 h0) (w_SECONDS : Addr) (w_SECONDS_name : Addr) (W : OwW Z w_SECONDS w_SECONDS_name)  :
    OwCon l (⟨"java/util/concurrent/TimeUnit", "toNanos", "(J)J"⟩ : MethodName) jdk_2799_method_7_code 7 (some .long) ws ({ frames := 0, cells := 0, slots := 0, locals := 0 } : Room) #[(.ref w_SECONDS), (.long (1 : Int64))] Z h0 (OwQ (some (.long (1000000000 : Int64))) h0 n0) := by
  refine MetFree.of_bodySF (plainFor_of_name owpn2) hisR ?_
  intro p e s m args below meth c s₁ Bd hml0 hP hK
  obtain ⟨rfl, hZ, hh⟩ := hP
  have hx := Bd.exec
  have hby := Bd.bytes
  have hml : c.maxLocals = 7 := hml0
  have hown : s.vm.findClass "java/util/concurrent/TimeUnit" = some m.cls := findClass_of_methodNamed Bd.named
  have hnm := (name_of_methodNamed Bd.named Bd.method).1
  have X0 : Stand p l e ({ frames := 0, cells := 0, slots := 0, locals := 0 } : Room) s m #[(.ref w_SECONDS), (.long (1 : Int64))] below meth c s₁ [] 0 0 := Stand.of_body Bd
  have e0 : s₁.heap = h0 := by rw [← hh, Bd.state]; rfl
  have N0 := Fr.nil n0
  have WW := W
  obtain ⟨E_w_SECONDS, E_w_SECONDS_name, S_TimeUnit_SECONDS, F_w_SECONDS_name, F_w_SECONDS_ordinal, F_w_SECONDS_scale, F_w_SECONDS_maxNanos, F_w_SECONDS_microRatio, F_w_SECONDS_maxMicros, F_w_SECONDS_milliRatio, F_w_SECONDS_maxMillis, F_w_SECONDS_secRatio, F_w_SECONDS_maxSecs, -⟩ := WW
  have ef : entryFrame m #[(.ref w_SECONDS), (.long (1 : Int64))] 7 = mkF m 0 #[.val (.ref w_SECONDS), .val (.long (1 : Int64)), .second, .unset, .unset, .unset, .unset] [] := by first | rfl | (simp [entryFrame, mkF, argsToLocals, Value.category]; done)
  have pre0 : ∀ t, Steps p.tables e below (s₁.setTop (mkF m 0 #[.val (.ref w_SECONDS), .val (.long (1 : Int64)), .second, .unset, .unset, .unset, .unset] [])) t → Steps p.tables e below (s₁.setTop (entryFrame m #[(.ref w_SECONDS), (.long (1 : Int64))] 7)) t := fun t k => castTop ef k
  obtain ⟨T1, X1, e1, st1⟩ := getF X0 hx hZ hown (host := "") (Or.inl (hw _ (List.mem_of_getElem? (i := 13) rfl))) Via.refl e0 (F_w_SECONDS_scale.ext O.2) (g := (mkF m 1 #[.val (.ref w_SECONDS), .val (.long (1 : Int64)), .second, .unset, .unset, .unset, .unset] [(.ref w_SECONDS)])) rfl rfl (hb hby d2_1)
  obtain ⟨T2, X2, e2, st2⟩ := getF X1 hx hZ hown (host := "") (Or.inl (hw _ (List.mem_of_getElem? (i := 15) rfl))) Via.refl e1 (F_w_SECONDS_maxNanos.ext O.2) (g := (mkF m 15 #[.val (.ref w_SECONDS), .val (.long (1 : Int64)), .second, .val (.long (1000000000 : Int64)), .second, .unset, .unset] [(.ref w_SECONDS), (.long (1 : Int64))])) rfl rfl (hb hby d2_15)
  obtain ⟨fs, hr, hrun, hended, hW, hsame⟩ := X2.leave (v := some (.long (1000000000 : Int64))) (fun h => by rw [Bd.returns] at h; cases h)
  refine ⟨_, _, pre0 _ ?_, hrun, hended, _, _, rfl, ?_, ⟨_, rfl⟩, hW, hsame.mono (by decide) (by decide)⟩
  · show Steps p.tables e below (s₁.setTop (mkF m 0 #[.val (.ref w_SECONDS), .val (.long (1 : Int64)), .second, .unset, .unset, .unset, .unset] [])) _
    refine XS.aloadN X0.here hx rfl (hb hby d2_0) rfl rfl ?_
    show Steps p.tables e below (s₁.setTop (mkF m 1 #[.val (.ref w_SECONDS), .val (.long (1 : Int64)), .second, .unset, .unset, .unset, .unset] [(.ref w_SECONDS)])) _
    refine st1 _ ?_
    show Steps p.tables e below (T1.setTop (mkF m 4 #[.val (.ref w_SECONDS), .val (.long (1 : Int64)), .second, .unset, .unset, .unset, .unset] [(.long (1000000000 : Int64))])) _
    refine Jvm.Free.XT.dup2L X1.here hx rfl (hb hby d2_4) rfl ?_
    show Steps p.tables e below (T1.setTop (mkF m 5 #[.val (.ref w_SECONDS), .val (.long (1 : Int64)), .second, .unset, .unset, .unset, .unset] [(.long (1000000000 : Int64)), (.long (1000000000 : Int64))])) _
    refine XS.lstoreN X1.here hx rfl (hb hby d2_5) rfl (l' := #[.val (.ref w_SECONDS), .val (.long (1 : Int64)), .second, .val (.long (1000000000 : Int64)), .second, .unset, .unset]) rfl ?_
    show Steps p.tables e below (T1.setTop (mkF m 6 #[.val (.ref w_SECONDS), .val (.long (1 : Int64)), .second, .val (.long (1000000000 : Int64)), .second, .unset, .unset] [(.long (1000000000 : Int64))])) _
    refine XS.lconst X1.here hx rfl (hb hby d2_6) ?_
    show Steps p.tables e below (T1.setTop (mkF m 7 #[.val (.ref w_SECONDS), .val (.long (1 : Int64)), .second, .val (.long (1000000000 : Int64)), .second, .unset, .unset] [(.long (1 : Int64)), (.long (1000000000 : Int64))])) _
    refine XS.lcmp X1.here hx rfl (hb hby d2_7) rfl ?_
    show Steps p.tables e below (T1.setTop (mkF m 8 #[.val (.ref w_SECONDS), .val (.long (1 : Int64)), .second, .val (.long (1000000000 : Int64)), .second, .unset, .unset] [(.int (lcmpW (1000000000 : Int64) (1 : Int64)))])) _
    refine XS.ifYes X1.here hx rfl (pc0 := 8) (pc' := 13) rfl (hb hby d2_8) rfl ((if0 _ _).trans (feq (mt (lw_eq (1000000000 : Int64) (1 : Int64)).mp (by decide : ¬ ((1000000000 : Int64) = (1 : Int64))))).2) (by decide) (by decide) ?_
    show Steps p.tables e below (T1.setTop (mkF m 13 #[.val (.ref w_SECONDS), .val (.long (1 : Int64)), .second, .val (.long (1000000000 : Int64)), .second, .unset, .unset] [])) _
    refine XS.lloadN X1.here hx rfl (hb hby d2_13) rfl ?_
    show Steps p.tables e below (T1.setTop (mkF m 14 #[.val (.ref w_SECONDS), .val (.long (1 : Int64)), .second, .val (.long (1000000000 : Int64)), .second, .unset, .unset] [(.long (1 : Int64))])) _
    refine XS.aloadN X1.here hx rfl (hb hby d2_14) rfl rfl ?_
    show Steps p.tables e below (T1.setTop (mkF m 15 #[.val (.ref w_SECONDS), .val (.long (1 : Int64)), .second, .val (.long (1000000000 : Int64)), .second, .unset, .unset] [(.ref w_SECONDS), (.long (1 : Int64))])) _
    refine st2 _ ?_
    show Steps p.tables e below (T2.setTop (mkF m 18 #[.val (.ref w_SECONDS), .val (.long (1 : Int64)), .second, .val (.long (1000000000 : Int64)), .second, .unset, .unset] [(.long (9223372036 : Int64)), (.long (1 : Int64))])) _
    refine Jvm.Free.XT.dup2L X2.here hx rfl (hb hby d2_18) rfl ?_
    show Steps p.tables e below (T2.setTop (mkF m 19 #[.val (.ref w_SECONDS), .val (.long (1 : Int64)), .second, .val (.long (1000000000 : Int64)), .second, .unset, .unset] [(.long (9223372036 : Int64)), (.long (9223372036 : Int64)), (.long (1 : Int64))])) _
    refine XS.lstore X2.here hx rfl (hb hby d2_19) rfl (l' := #[.val (.ref w_SECONDS), .val (.long (1 : Int64)), .second, .val (.long (1000000000 : Int64)), .second, .val (.long (9223372036 : Int64)), .second]) rfl ?_
    show Steps p.tables e below (T2.setTop (mkF m 21 #[.val (.ref w_SECONDS), .val (.long (1 : Int64)), .second, .val (.long (1000000000 : Int64)), .second, .val (.long (9223372036 : Int64)), .second] [(.long (9223372036 : Int64)), (.long (1 : Int64))])) _
    refine XS.lcmp X2.here hx rfl (hb hby d2_21) rfl ?_
    show Steps p.tables e below (T2.setTop (mkF m 22 #[.val (.ref w_SECONDS), .val (.long (1 : Int64)), .second, .val (.long (1000000000 : Int64)), .second, .val (.long (9223372036 : Int64)), .second] [(.int (lcmpW (1 : Int64) (9223372036 : Int64)))])) _
    refine XS.ifYes X2.here hx rfl (pc0 := 22) (pc' := 29) rfl (hb hby d2_22) rfl ((if0 _ _).trans (flt (mt (lw_gt (1 : Int64) (9223372036 : Int64)).mp (by decide : ¬ ((9223372036 : Int64) < (1 : Int64))))).2.2.2) (by decide) (by decide) ?_
    show Steps p.tables e below (T2.setTop (mkF m 29 #[.val (.ref w_SECONDS), .val (.long (1 : Int64)), .second, .val (.long (1000000000 : Int64)), .second, .val (.long (9223372036 : Int64)), .second] [])) _
    refine XS.lloadN X2.here hx rfl (hb hby d2_29) rfl ?_
    show Steps p.tables e below (T2.setTop (mkF m 30 #[.val (.ref w_SECONDS), .val (.long (1 : Int64)), .second, .val (.long (1000000000 : Int64)), .second, .val (.long (9223372036 : Int64)), .second] [(.long (1 : Int64))])) _
    refine XS.lload X2.here hx rfl (hb hby d2_30) rfl ?_
    show Steps p.tables e below (T2.setTop (mkF m 32 #[.val (.ref w_SECONDS), .val (.long (1 : Int64)), .second, .val (.long (1000000000 : Int64)), .second, .val (.long (9223372036 : Int64)), .second] [(.long (9223372036 : Int64)), (.long (1 : Int64))])) _
    refine XS.lneg X2.here hx rfl (hb hby d2_32) rfl ?_
    show Steps p.tables e below (T2.setTop (mkF m 33 #[.val (.ref w_SECONDS), .val (.long (1 : Int64)), .second, .val (.long (1000000000 : Int64)), .second, .val (.long (9223372036 : Int64)), .second] [(.long (-9223372036 : Int64)), (.long (1 : Int64))])) _
    refine XS.lcmp X2.here hx rfl (hb hby d2_33) rfl ?_
    show Steps p.tables e below (T2.setTop (mkF m 34 #[.val (.ref w_SECONDS), .val (.long (1 : Int64)), .second, .val (.long (1000000000 : Int64)), .second, .val (.long (9223372036 : Int64)), .second] [(.int (lcmpW (1 : Int64) (-9223372036 : Int64)))])) _
    refine XS.ifYes X2.here hx rfl (pc0 := 34) (pc' := 41) rfl (hb hby d2_34) rfl ((if0 _ _).trans (flt (mt (lw_lt (1 : Int64) (-9223372036 : Int64)).mp (by decide : ¬ ((1 : Int64) < (-9223372036 : Int64))))).2.1) (by decide) (by decide) ?_
    show Steps p.tables e below (T2.setTop (mkF m 41 #[.val (.ref w_SECONDS), .val (.long (1 : Int64)), .second, .val (.long (1000000000 : Int64)), .second, .val (.long (9223372036 : Int64)), .second] [])) _
    refine XS.lloadN X2.here hx rfl (hb hby d2_41) rfl ?_
    show Steps p.tables e below (T2.setTop (mkF m 42 #[.val (.ref w_SECONDS), .val (.long (1 : Int64)), .second, .val (.long (1000000000 : Int64)), .second, .val (.long (9223372036 : Int64)), .second] [(.long (1 : Int64))])) _
    refine XS.lloadN X2.here hx rfl (hb hby d2_42) rfl ?_
    show Steps p.tables e below (T2.setTop (mkF m 43 #[.val (.ref w_SECONDS), .val (.long (1 : Int64)), .second, .val (.long (1000000000 : Int64)), .second, .val (.long (9223372036 : Int64)), .second] [(.long (1000000000 : Int64)), (.long (1 : Int64))])) _
    refine XS.lmul X2.here hx rfl (hb hby d2_43) rfl ?_
    show Steps p.tables e below (T2.setTop (mkF m 44 #[.val (.ref w_SECONDS), .val (.long (1 : Int64)), .second, .val (.long (1000000000 : Int64)), .second, .val (.long (9223372036 : Int64)), .second] [(.long (1000000000 : Int64))])) _
    exact retOut X2 hx Bd.returns rfl (Or.inr (Or.inl ⟨rfl, rfl, _, rfl⟩)) (hb hby d2_44) hr
  · have eF : (T2.setFrames fs).heap = h0 := e2
    exact ⟨rfl, N0, eF⟩
set_option maxRecDepth 65536 in
set_option maxHeartbeats 40000000 in
theorem rm1 (l : Launch) (Z : State) (a0 : Array Value) (hw : ∀ d ∈ tables_1, d.before a0 Z = true) (ws : List Jvm.Cond) (n0 : Nat) (h0 : Heap) (O : Old Z n0 h0) (w_SECONDS : Addr) (w_SECONDS_name : Addr) (W : OwW Z w_SECONDS w_SECONDS_name) (q0 : Int64) :
    OwCon l (⟨"com/example/portable_transactions/portabletransactions/transaction/BoundUnit", "roundedUpToSeconds", "(J)I"⟩ : MethodName) prog_34_method_13_code 4 (some .int) ws ({ frames := 1, cells := 0, slots := 0, locals := 18 } : Room) #[(.long q0)] Z h0 (OwQ (some (.int ((((q0 + (1000000000 : Int64)) - (1 : Int64)) / (1000000000 : Int64)).toInt32))) h0 n0) := by
  refine MetFree.of_bodySF (plainFor_of_name owpn1) hisR ?_
  intro p e s m args below meth c s₁ Bd hml0 hP hK
  obtain ⟨rfl, hZ, hh⟩ := hP
  have hx := Bd.exec
  have hby := Bd.bytes
  have hml : c.maxLocals = 4 := hml0
  have hown : s.vm.findClass "com/example/portable_transactions/portabletransactions/transaction/BoundUnit" = some m.cls := findClass_of_methodNamed Bd.named
  have hnm := (name_of_methodNamed Bd.named Bd.method).1
  have X0 : Stand p l e ({ frames := 1, cells := 0, slots := 0, locals := 18 } : Room) s m #[(.long q0)] below meth c s₁ [] 0 0 := Stand.of_body Bd
  have e0 : s₁.heap = h0 := by rw [← hh, Bd.state]; rfl
  have N0 := Fr.nil n0
  have WW := W
  obtain ⟨E_w_SECONDS, E_w_SECONDS_name, S_TimeUnit_SECONDS, F_w_SECONDS_name, F_w_SECONDS_ordinal, F_w_SECONDS_scale, F_w_SECONDS_maxNanos, F_w_SECONDS_microRatio, F_w_SECONDS_maxMicros, F_w_SECONDS_milliRatio, F_w_SECONDS_maxMillis, F_w_SECONDS_secRatio, F_w_SECONDS_maxSecs, -⟩ := WW
  have ef : entryFrame m #[(.long q0)] 4 = mkF m 0 #[.val (.long q0), .second, .unset, .unset] [] := by first | rfl | (simp [entryFrame, mkF, argsToLocals, Value.category]; done)
  have pre0 : ∀ t, Steps p.tables e below (s₁.setTop (mkF m 0 #[.val (.long q0), .second, .unset, .unset] [])) t → Steps p.tables e below (s₁.setTop (entryFrame m #[(.long q0)] 4)) t := fun t k => castTop ef k
  obtain ⟨T1, X1, e1, st1⟩ := getS2 X0 hx hZ hown (host := "") (Or.inl (hw _ (List.mem_of_getElem? (i := 6) rfl))) Via.refl e0 (S_TimeUnit_SECONDS.ext O.2) (g := (mkF m 0 #[.val (.long q0), .second, .unset, .unset] [])) rfl (hb hby d1_0)
  obtain ⟨cq2, kq2, q2a, q2b, q2c⟩ := isOf hZ e1 (E_w_SECONDS.ext O.2)
  obtain ⟨_, _, ⟨T2, L2, k2, n2⟩, -, X2, ⟨Lc2, hQ2, l2, y2, z2⟩, st2⟩ := X1.virtualBack hx (y := (⟨"java/util/concurrent/TimeUnit", "toNanos", "(J)J"⟩ : MethodName)) (z := (⟨"java/util/concurrent/TimeUnit", "toNanos", "(J)J"⟩ : MethodName)) hown (mvT hZ (hw _ (List.mem_of_getElem? (i := 8) rfl))) (mvT hZ (hw _ (List.mem_of_getElem? (i := 9) rfl))) (notFace_of_selects (args := #[]) (mvT hZ (hw _ (List.mem_of_getElem? (i := 11) rfl)))) (mvT hZ (hw _ (List.mem_of_getElem? (i := 11) rfl))) (mvT hZ (hw _ (List.mem_of_getElem? (i := 10) rfl))) (by decide) (backOf (W := 0) (rm2 l Z a0 hw [] n0 h0 O w_SECONDS w_SECONDS_name W  ) hZ (hw _ (List.mem_of_getElem? (i := 12) rfl)) (hw _ (List.mem_of_getElem? (i := 7) rfl)) (by decide) (by decide)) q2a q2c (g := (mkF m 4 #[.val (.long q0), .second, .unset, .unset] [(.long (1 : Int64)), (.ref w_SECONDS)])) rfl (by rw [hml]; rfl) (Steps.refl _) (argsL := [(.long (1 : Int64))]) (rest := []) (lenOf owpd0 rfl) rfl (by show 2 * 0 + _ ≤ _; exact Nat.le_of_eq rfl) (hb hby d1_4) (fun _ _ => ⟨rfl, e1, (by decide : 0 + 0 ≤ _), (by decide : 0 + 0 ≤ _)⟩)
  dsimp only [Pt.U, Pt.locs, Pt.cells, Pt.slots] at X2 l2 y2 z2 st2 hQ2
  subst l2 y2 z2
  obtain ⟨rfl, Nq2, e2⟩ := hQ2
  have N2 := Fr.app N0 Nq2
  obtain ⟨fs, hr, hrun, hended, hW, hsame⟩ := X2.leave (v := some (.int ((((q0 + (1000000000 : Int64)) - (1 : Int64)) / (1000000000 : Int64)).toInt32))) (fun h => by rw [Bd.returns] at h; cases h)
  refine ⟨_, _, pre0 _ ?_, hrun, hended, _, _, rfl, ?_, ⟨_, rfl⟩, hW, hsame.mono (by decide) (by decide)⟩
  · show Steps p.tables e below (s₁.setTop (mkF m 0 #[.val (.long q0), .second, .unset, .unset] [])) _
    refine st1 _ ?_
    show Steps p.tables e below (T1.setTop (mkF m 3 #[.val (.long q0), .second, .unset, .unset] [(.ref w_SECONDS)])) _
    refine XS.lconst X1.here hx rfl (hb hby d1_3) ?_
    show Steps p.tables e below (T1.setTop (mkF m 4 #[.val (.long q0), .second, .unset, .unset] [(.long (1 : Int64)), (.ref w_SECONDS)])) _
    refine st2.trans ?_
    show Steps p.tables e below (T2.setTop (mkF m 7 #[.val (.long q0), .second, .unset, .unset] [(.long (1000000000 : Int64))])) _
    refine XS.lstoreN X2.here hx rfl (hb hby d1_7) rfl (l' := #[.val (.long q0), .second, .val (.long (1000000000 : Int64)), .second]) rfl ?_
    show Steps p.tables e below (T2.setTop (mkF m 8 #[.val (.long q0), .second, .val (.long (1000000000 : Int64)), .second] [])) _
    refine XS.lloadN X2.here hx rfl (hb hby d1_8) rfl ?_
    show Steps p.tables e below (T2.setTop (mkF m 9 #[.val (.long q0), .second, .val (.long (1000000000 : Int64)), .second] [(.long q0)])) _
    refine XS.lloadN X2.here hx rfl (hb hby d1_9) rfl ?_
    show Steps p.tables e below (T2.setTop (mkF m 10 #[.val (.long q0), .second, .val (.long (1000000000 : Int64)), .second] [(.long (1000000000 : Int64)), (.long q0)])) _
    refine XS.ladd X2.here hx rfl (hb hby d1_10) rfl ?_
    show Steps p.tables e below (T2.setTop (mkF m 11 #[.val (.long q0), .second, .val (.long (1000000000 : Int64)), .second] [(.long (q0 + (1000000000 : Int64)))])) _
    refine XS.lconst X2.here hx rfl (hb hby d1_11) ?_
    show Steps p.tables e below (T2.setTop (mkF m 12 #[.val (.long q0), .second, .val (.long (1000000000 : Int64)), .second] [(.long (1 : Int64)), (.long (q0 + (1000000000 : Int64)))])) _
    refine XS.lsub X2.here hx rfl (hb hby d1_12) rfl ?_
    show Steps p.tables e below (T2.setTop (mkF m 13 #[.val (.long q0), .second, .val (.long (1000000000 : Int64)), .second] [(.long ((q0 + (1000000000 : Int64)) - (1 : Int64)))])) _
    refine XS.lloadN X2.here hx rfl (hb hby d1_13) rfl ?_
    show Steps p.tables e below (T2.setTop (mkF m 14 #[.val (.long q0), .second, .val (.long (1000000000 : Int64)), .second] [(.long (1000000000 : Int64)), (.long ((q0 + (1000000000 : Int64)) - (1 : Int64)))])) _
    refine XS.ldiv X2.here hx rfl (hb hby d1_14) rfl (by decide) ?_
    show Steps p.tables e below (T2.setTop (mkF m 15 #[.val (.long q0), .second, .val (.long (1000000000 : Int64)), .second] [(.long (((q0 + (1000000000 : Int64)) - (1 : Int64)) / (1000000000 : Int64)))])) _
    refine XS.l2i X2.here hx rfl (hb hby d1_15) rfl ?_
    show Steps p.tables e below (T2.setTop (mkF m 16 #[.val (.long q0), .second, .val (.long (1000000000 : Int64)), .second] [(.int ((((q0 + (1000000000 : Int64)) - (1 : Int64)) / (1000000000 : Int64)).toInt32))])) _
    exact retI X2 hx Bd.returns (hb hby d1_16) hr
  · have eF : (T2.setFrames fs).heap = h0 := e2
    exact ⟨rfl, N2, eF⟩
set_option maxRecDepth 65536 in
set_option maxHeartbeats 40000000 in
theorem rm0_z (l : Launch) (Z : State) (a0 : Array Value) (hw : ∀ d ∈ tables_1, d.before a0 Z = true) (ws : List Jvm.Cond) (n0 : Nat) (h0 : Heap) (O : Old Z n0 h0) (w_SECONDS : Addr) (w_SECONDS_name : Addr) (W : OwW Z w_SECONDS w_SECONDS_name) (p0 : Int32) (p1 : Int32) (hz : ((p0 &&& (2147483647 : Int32)).toInt64) = (0 : Int64)) :
    OwCon l x code maxLocals ret ws room_1 #[(.int p0), (.int p1)] Z h0 (OwP (fun v _ => v = some (.int 1)) n0) := by
  refine MetFree.of_bodySF (plainFor_of_name owpn0) hisR ?_
  intro p e s m args below meth c s₁ Bd hml0 hP hK
  obtain ⟨rfl, hZ, hh⟩ := hP
  have hx := Bd.exec
  have hby := Bd.bytes
  have hml : c.maxLocals = 9 := hml0
  have hown : s.vm.findClass "com/example/portable_transactions/portabletransactions/transaction/BoundUnitRoundedUpToSecondsPinLaw" = some m.cls := findClass_of_methodNamed Bd.named
  have hnm := (name_of_methodNamed Bd.named Bd.method).1
  have X0 : Stand p l e room_1 s m #[(.int p0), (.int p1)] below meth c s₁ [] 0 0 := Stand.of_body Bd
  have e0 : s₁.heap = h0 := by rw [← hh, Bd.state]; rfl
  have N0 := Fr.nil n0
  have WW := W
  obtain ⟨E_w_SECONDS, E_w_SECONDS_name, S_TimeUnit_SECONDS, F_w_SECONDS_name, F_w_SECONDS_ordinal, F_w_SECONDS_scale, F_w_SECONDS_maxNanos, F_w_SECONDS_microRatio, F_w_SECONDS_maxMicros, F_w_SECONDS_milliRatio, F_w_SECONDS_maxMillis, F_w_SECONDS_secRatio, F_w_SECONDS_maxSecs, -⟩ := WW
  have ef : entryFrame m #[(.int p0), (.int p1)] maxLocals = mkF m 0 #[.val (.int p0), .val (.int p1), .unset, .unset, .unset, .unset, .unset, .unset, .unset] [] := by first | rfl | (simp [entryFrame, mkF, argsToLocals, Value.category, maxLocals]; done)
  have pre0 : ∀ t, Steps p.tables e below (s₁.setTop (mkF m 0 #[.val (.int p0), .val (.int p1), .unset, .unset, .unset, .unset, .unset, .unset, .unset] [])) t → Steps p.tables e below (s₁.setTop (entryFrame m #[(.int p0), (.int p1)] maxLocals)) t := fun t k => castTop ef k
  obtain ⟨_, _, ⟨T1, L1, k1, n1⟩, -, X1, ⟨Lc1, hQ1, l1, y1, z1⟩, st1⟩ := Jvm.LawKit.callS X0 hx (y := (⟨"com/example/portable_transactions/portabletransactions/transaction/BoundUnit", "roundedUpToSeconds", "(J)I"⟩ : MethodName)) hown (mvT hZ (hw _ (List.mem_of_getElem? (i := 2) rfl))) (mvT hZ (hw _ (List.mem_of_getElem? (i := 3) rfl))) (mvT hZ (hw _ (List.mem_of_getElem? (i := 4) rfl))) (mvT hZ (hw _ (List.mem_of_getElem? (i := 5) rfl))) (by decide) (backOf (W := 0) (rm1 l Z a0 hw [] n0 h0 O w_SECONDS w_SECONDS_name W (0 : Int64)) hZ (hw _ (List.mem_of_getElem? (i := 5) rfl)) (hw _ (List.mem_of_getElem? (i := 4) rfl)) (by decide) (by decide)) (g := (mkF m 38 #[.val (.int p0), .val (.int p1), .val (.long ((p0 &&& (2147483647 : Int32)).toInt64)), .second, .val (.long (((p1 &&& (2147483647 : Int32)) % (1000000000 : Int32)).toInt64)), .second, .val (.long (0 : Int64)), .second, .unset] [(.long (0 : Int64))])) rfl (by rw [hml]; rfl) (argsL := [(.long (0 : Int64))]) (rest := []) (lenOf owpd1 rfl) rfl (by show 2 * 0 + _ ≤ _; exact Nat.le_of_eq rfl) (hb hby at_38) (fun _ _ => ⟨rfl, e0, (by decide : 0 + 0 ≤ _), (by decide : 0 + 0 ≤ _)⟩)
  dsimp only [Pt.U, Pt.locs, Pt.cells, Pt.slots] at X1 l1 y1 z1 st1 hQ1
  subst l1 y1 z1
  obtain ⟨rfl, Nq1, e1⟩ := hQ1
  have N1 := Fr.app N0 Nq1
  obtain ⟨fs, hr, hrun, hended, hW, hsame⟩ := X1.leave (v := some (.int (1 : Int32))) (fun h => by rw [Bd.returns] at h; cases h)
  refine ⟨_, _, pre0 _ ?_, hrun, hended, _, _, rfl, ?_, ⟨_, rfl⟩, hW, hsame.mono (by decide) (by decide)⟩
  · show Steps p.tables e below (s₁.setTop (mkF m 0 #[.val (.int p0), .val (.int p1), .unset, .unset, .unset, .unset, .unset, .unset, .unset] [])) _
    refine XS.iloadN X0.here hx rfl (hb hby at_0) rfl ?_
    show Steps p.tables e below (s₁.setTop (mkF m 1 #[.val (.int p0), .val (.int p1), .unset, .unset, .unset, .unset, .unset, .unset, .unset] [(.int p0)])) _
    refine X0.ldcInt hx hown (mvT hZ (hw _ (List.mem_of_getElem? (i := 0) rfl))) (g := (mkF m 1 #[.val (.int p0), .val (.int p1), .unset, .unset, .unset, .unset, .unset, .unset, .unset] [(.int p0)])) rfl (hb hby at_1) _ ?_
    show Steps p.tables e below (s₁.setTop (mkF m 3 #[.val (.int p0), .val (.int p1), .unset, .unset, .unset, .unset, .unset, .unset, .unset] [(.int (2147483647 : Int32)), (.int p0)])) _
    refine XS.iand X0.here hx rfl (hb hby at_3) rfl ?_
    show Steps p.tables e below (s₁.setTop (mkF m 4 #[.val (.int p0), .val (.int p1), .unset, .unset, .unset, .unset, .unset, .unset, .unset] [(.int (p0 &&& (2147483647 : Int32)))])) _
    refine XS.i2l X0.here hx rfl (hb hby at_4) rfl ?_
    show Steps p.tables e below (s₁.setTop (mkF m 5 #[.val (.int p0), .val (.int p1), .unset, .unset, .unset, .unset, .unset, .unset, .unset] [(.long ((p0 &&& (2147483647 : Int32)).toInt64))])) _
    refine XS.lstoreN X0.here hx rfl (hb hby at_5) rfl (l' := #[.val (.int p0), .val (.int p1), .val (.long ((p0 &&& (2147483647 : Int32)).toInt64)), .second, .unset, .unset, .unset, .unset, .unset]) rfl ?_
    show Steps p.tables e below (s₁.setTop (mkF m 6 #[.val (.int p0), .val (.int p1), .val (.long ((p0 &&& (2147483647 : Int32)).toInt64)), .second, .unset, .unset, .unset, .unset, .unset] [])) _
    refine XS.iloadN X0.here hx rfl (hb hby at_6) rfl ?_
    show Steps p.tables e below (s₁.setTop (mkF m 7 #[.val (.int p0), .val (.int p1), .val (.long ((p0 &&& (2147483647 : Int32)).toInt64)), .second, .unset, .unset, .unset, .unset, .unset] [(.int p1)])) _
    refine X0.ldcInt hx hown (mvT hZ (hw _ (List.mem_of_getElem? (i := 0) rfl))) (g := (mkF m 7 #[.val (.int p0), .val (.int p1), .val (.long ((p0 &&& (2147483647 : Int32)).toInt64)), .second, .unset, .unset, .unset, .unset, .unset] [(.int p1)])) rfl (hb hby at_7) _ ?_
    show Steps p.tables e below (s₁.setTop (mkF m 9 #[.val (.int p0), .val (.int p1), .val (.long ((p0 &&& (2147483647 : Int32)).toInt64)), .second, .unset, .unset, .unset, .unset, .unset] [(.int (2147483647 : Int32)), (.int p1)])) _
    refine XS.iand X0.here hx rfl (hb hby at_9) rfl ?_
    show Steps p.tables e below (s₁.setTop (mkF m 10 #[.val (.int p0), .val (.int p1), .val (.long ((p0 &&& (2147483647 : Int32)).toInt64)), .second, .unset, .unset, .unset, .unset, .unset] [(.int (p1 &&& (2147483647 : Int32)))])) _
    refine X0.ldcInt hx hown (mvT hZ (hw _ (List.mem_of_getElem? (i := 1) rfl))) (g := (mkF m 10 #[.val (.int p0), .val (.int p1), .val (.long ((p0 &&& (2147483647 : Int32)).toInt64)), .second, .unset, .unset, .unset, .unset, .unset] [(.int (p1 &&& (2147483647 : Int32)))])) rfl (hb hby at_10) _ ?_
    show Steps p.tables e below (s₁.setTop (mkF m 12 #[.val (.int p0), .val (.int p1), .val (.long ((p0 &&& (2147483647 : Int32)).toInt64)), .second, .unset, .unset, .unset, .unset, .unset] [(.int (1000000000 : Int32)), (.int (p1 &&& (2147483647 : Int32)))])) _
    refine iremM X0 hx rfl (hb hby at_12) rfl (by decide) ?_
    show Steps p.tables e below (s₁.setTop (mkF m 13 #[.val (.int p0), .val (.int p1), .val (.long ((p0 &&& (2147483647 : Int32)).toInt64)), .second, .unset, .unset, .unset, .unset, .unset] [(.int ((p1 &&& (2147483647 : Int32)) % (1000000000 : Int32)))])) _
    refine XS.i2l X0.here hx rfl (hb hby at_13) rfl ?_
    show Steps p.tables e below (s₁.setTop (mkF m 14 #[.val (.int p0), .val (.int p1), .val (.long ((p0 &&& (2147483647 : Int32)).toInt64)), .second, .unset, .unset, .unset, .unset, .unset] [(.long (((p1 &&& (2147483647 : Int32)) % (1000000000 : Int32)).toInt64))])) _
    refine XS.lstore X0.here hx rfl (hb hby at_14) rfl (l' := #[.val (.int p0), .val (.int p1), .val (.long ((p0 &&& (2147483647 : Int32)).toInt64)), .second, .val (.long (((p1 &&& (2147483647 : Int32)) % (1000000000 : Int32)).toInt64)), .second, .unset, .unset, .unset]) rfl ?_
    show Steps p.tables e below (s₁.setTop (mkF m 16 #[.val (.int p0), .val (.int p1), .val (.long ((p0 &&& (2147483647 : Int32)).toInt64)), .second, .val (.long (((p1 &&& (2147483647 : Int32)) % (1000000000 : Int32)).toInt64)), .second, .unset, .unset, .unset] [])) _
    refine XS.lloadN X0.here hx rfl (hb hby at_16) rfl ?_
    show Steps p.tables e below (s₁.setTop (mkF m 17 #[.val (.int p0), .val (.int p1), .val (.long ((p0 &&& (2147483647 : Int32)).toInt64)), .second, .val (.long (((p1 &&& (2147483647 : Int32)) % (1000000000 : Int32)).toInt64)), .second, .unset, .unset, .unset] [(.long ((p0 &&& (2147483647 : Int32)).toInt64))])) _
    refine XS.lconst X0.here hx rfl (hb hby at_17) ?_
    show Steps p.tables e below (s₁.setTop (mkF m 18 #[.val (.int p0), .val (.int p1), .val (.long ((p0 &&& (2147483647 : Int32)).toInt64)), .second, .val (.long (((p1 &&& (2147483647 : Int32)) % (1000000000 : Int32)).toInt64)), .second, .unset, .unset, .unset] [(.long (0 : Int64)), (.long ((p0 &&& (2147483647 : Int32)).toInt64))])) _
    refine XS.lcmp X0.here hx rfl (hb hby at_18) rfl ?_
    show Steps p.tables e below (s₁.setTop (mkF m 19 #[.val (.int p0), .val (.int p1), .val (.long ((p0 &&& (2147483647 : Int32)).toInt64)), .second, .val (.long (((p1 &&& (2147483647 : Int32)) % (1000000000 : Int32)).toInt64)), .second, .unset, .unset, .unset] [(.int (lcmpW ((p0 &&& (2147483647 : Int32)).toInt64) (0 : Int64)))])) _
    refine XS.ifNo X0.here hx rfl (hb hby at_19) rfl ((if0 _ _).trans (teq ((lw_eq ((p0 &&& (2147483647 : Int32)).toInt64) (0 : Int64)).mpr hz)).2) ?_
    show Steps p.tables e below (s₁.setTop (mkF m 22 #[.val (.int p0), .val (.int p1), .val (.long ((p0 &&& (2147483647 : Int32)).toInt64)), .second, .val (.long (((p1 &&& (2147483647 : Int32)) % (1000000000 : Int32)).toInt64)), .second, .unset, .unset, .unset] [])) _
    refine XS.lconst X0.here hx rfl (hb hby at_22) ?_
    show Steps p.tables e below (s₁.setTop (mkF m 23 #[.val (.int p0), .val (.int p1), .val (.long ((p0 &&& (2147483647 : Int32)).toInt64)), .second, .val (.long (((p1 &&& (2147483647 : Int32)) % (1000000000 : Int32)).toInt64)), .second, .unset, .unset, .unset] [(.long (0 : Int64))])) _
    refine XS.goto X0.here hx rfl (pc0 := 23) (pc' := 34) rfl (hb hby at_23) (by decide) (by decide) ?_
    show Steps p.tables e below (s₁.setTop (mkF m 34 #[.val (.int p0), .val (.int p1), .val (.long ((p0 &&& (2147483647 : Int32)).toInt64)), .second, .val (.long (((p1 &&& (2147483647 : Int32)) % (1000000000 : Int32)).toInt64)), .second, .unset, .unset, .unset] [(.long (0 : Int64))])) _
    refine XS.lstore X0.here hx rfl (hb hby at_34) rfl (l' := #[.val (.int p0), .val (.int p1), .val (.long ((p0 &&& (2147483647 : Int32)).toInt64)), .second, .val (.long (((p1 &&& (2147483647 : Int32)) % (1000000000 : Int32)).toInt64)), .second, .val (.long (0 : Int64)), .second, .unset]) rfl ?_
    show Steps p.tables e below (s₁.setTop (mkF m 36 #[.val (.int p0), .val (.int p1), .val (.long ((p0 &&& (2147483647 : Int32)).toInt64)), .second, .val (.long (((p1 &&& (2147483647 : Int32)) % (1000000000 : Int32)).toInt64)), .second, .val (.long (0 : Int64)), .second, .unset] [])) _
    refine XS.lload X0.here hx rfl (hb hby at_36) rfl ?_
    show Steps p.tables e below (s₁.setTop (mkF m 38 #[.val (.int p0), .val (.int p1), .val (.long ((p0 &&& (2147483647 : Int32)).toInt64)), .second, .val (.long (((p1 &&& (2147483647 : Int32)) % (1000000000 : Int32)).toInt64)), .second, .val (.long (0 : Int64)), .second, .unset] [(.long (0 : Int64))])) _
    refine st1 _ ?_
    show Steps p.tables e below (T1.setTop (mkF m 41 #[.val (.int p0), .val (.int p1), .val (.long ((p0 &&& (2147483647 : Int32)).toInt64)), .second, .val (.long (((p1 &&& (2147483647 : Int32)) % (1000000000 : Int32)).toInt64)), .second, .val (.long (0 : Int64)), .second, .unset] [(.int (((((0 : Int64) + (1000000000 : Int64)) - (1 : Int64)) / (1000000000 : Int64)).toInt32))])) _
    refine XS.istore X1.here hx rfl (hb hby at_41) rfl (l' := #[.val (.int p0), .val (.int p1), .val (.long ((p0 &&& (2147483647 : Int32)).toInt64)), .second, .val (.long (((p1 &&& (2147483647 : Int32)) % (1000000000 : Int32)).toInt64)), .second, .val (.long (0 : Int64)), .second, .val (.int (((((0 : Int64) + (1000000000 : Int64)) - (1 : Int64)) / (1000000000 : Int64)).toInt32))]) rfl ?_
    show Steps p.tables e below (T1.setTop (mkF m 43 #[.val (.int p0), .val (.int p1), .val (.long ((p0 &&& (2147483647 : Int32)).toInt64)), .second, .val (.long (((p1 &&& (2147483647 : Int32)) % (1000000000 : Int32)).toInt64)), .second, .val (.long (0 : Int64)), .second, .val (.int (((((0 : Int64) + (1000000000 : Int64)) - (1 : Int64)) / (1000000000 : Int64)).toInt32))] [])) _
    refine XS.iload X1.here hx rfl (hb hby at_43) rfl ?_
    show Steps p.tables e below (T1.setTop (mkF m 45 #[.val (.int p0), .val (.int p1), .val (.long ((p0 &&& (2147483647 : Int32)).toInt64)), .second, .val (.long (((p1 &&& (2147483647 : Int32)) % (1000000000 : Int32)).toInt64)), .second, .val (.long (0 : Int64)), .second, .val (.int (((((0 : Int64) + (1000000000 : Int64)) - (1 : Int64)) / (1000000000 : Int64)).toInt32))] [(.int (((((0 : Int64) + (1000000000 : Int64)) - (1 : Int64)) / (1000000000 : Int64)).toInt32))])) _
    refine XS.lloadN X1.here hx rfl (hb hby at_45) rfl ?_
    show Steps p.tables e below (T1.setTop (mkF m 46 #[.val (.int p0), .val (.int p1), .val (.long ((p0 &&& (2147483647 : Int32)).toInt64)), .second, .val (.long (((p1 &&& (2147483647 : Int32)) % (1000000000 : Int32)).toInt64)), .second, .val (.long (0 : Int64)), .second, .val (.int (((((0 : Int64) + (1000000000 : Int64)) - (1 : Int64)) / (1000000000 : Int64)).toInt32))] [(.long ((p0 &&& (2147483647 : Int32)).toInt64)), (.int (((((0 : Int64) + (1000000000 : Int64)) - (1 : Int64)) / (1000000000 : Int64)).toInt32))])) _
    refine XS.l2i X1.here hx rfl (hb hby at_46) rfl ?_
    show Steps p.tables e below (T1.setTop (mkF m 47 #[.val (.int p0), .val (.int p1), .val (.long ((p0 &&& (2147483647 : Int32)).toInt64)), .second, .val (.long (((p1 &&& (2147483647 : Int32)) % (1000000000 : Int32)).toInt64)), .second, .val (.long (0 : Int64)), .second, .val (.int (((((0 : Int64) + (1000000000 : Int64)) - (1 : Int64)) / (1000000000 : Int64)).toInt32))] [(.int (((p0 &&& (2147483647 : Int32)).toInt64).toInt32)), (.int (((((0 : Int64) + (1000000000 : Int64)) - (1 : Int64)) / (1000000000 : Int64)).toInt32))])) _
    refine XS.icmpNo X1.here hx rfl (hb hby at_47) rfl (teq (own_z p0 hz)).2 ?_
    show Steps p.tables e below (T1.setTop (mkF m 50 #[.val (.int p0), .val (.int p1), .val (.long ((p0 &&& (2147483647 : Int32)).toInt64)), .second, .val (.long (((p1 &&& (2147483647 : Int32)) % (1000000000 : Int32)).toInt64)), .second, .val (.long (0 : Int64)), .second, .val (.int (((((0 : Int64) + (1000000000 : Int64)) - (1 : Int64)) / (1000000000 : Int64)).toInt32))] [])) _
    refine XS.iconst X1.here hx rfl (hb hby at_50) ?_
    show Steps p.tables e below (T1.setTop (mkF m 51 #[.val (.int p0), .val (.int p1), .val (.long ((p0 &&& (2147483647 : Int32)).toInt64)), .second, .val (.long (((p1 &&& (2147483647 : Int32)) % (1000000000 : Int32)).toInt64)), .second, .val (.long (0 : Int64)), .second, .val (.int (((((0 : Int64) + (1000000000 : Int64)) - (1 : Int64)) / (1000000000 : Int64)).toInt32))] [(.int (1 : Int32))])) _
    refine XS.goto X1.here hx rfl (pc0 := 51) (pc' := 55) rfl (hb hby at_51) (by decide) (by decide) ?_
    show Steps p.tables e below (T1.setTop (mkF m 55 #[.val (.int p0), .val (.int p1), .val (.long ((p0 &&& (2147483647 : Int32)).toInt64)), .second, .val (.long (((p1 &&& (2147483647 : Int32)) % (1000000000 : Int32)).toInt64)), .second, .val (.long (0 : Int64)), .second, .val (.int (((((0 : Int64) + (1000000000 : Int64)) - (1 : Int64)) / (1000000000 : Int64)).toInt32))] [(.int (1 : Int32))])) _
    exact retN X1 hx (t := .boolean) Bd.returns (by simp) (hb hby at_55) hr
  · have eF : (T1.setFrames fs).heap = h0 := e1
    exact ⟨N1, rfl⟩
set_option maxRecDepth 65536 in
set_option maxHeartbeats 40000000 in
theorem rm0_g (l : Launch) (Z : State) (a0 : Array Value) (hw : ∀ d ∈ tables_1, d.before a0 Z = true) (ws : List Jvm.Cond) (n0 : Nat) (h0 : Heap) (O : Old Z n0 h0) (w_SECONDS : Addr) (w_SECONDS_name : Addr) (W : OwW Z w_SECONDS w_SECONDS_name) (p0 : Int32) (p1 : Int32) (hz : ¬ (((p0 &&& (2147483647 : Int32)).toInt64) = (0 : Int64))) :
    OwCon l x code maxLocals ret ws room_1 #[(.int p0), (.int p1)] Z h0 (OwP (fun v _ => v = some (.int 1)) n0) := by
  refine MetFree.of_bodySF (plainFor_of_name owpn0) hisR ?_
  intro p e s m args below meth c s₁ Bd hml0 hP hK
  obtain ⟨rfl, hZ, hh⟩ := hP
  have hx := Bd.exec
  have hby := Bd.bytes
  have hml : c.maxLocals = 9 := hml0
  have hown : s.vm.findClass "com/example/portable_transactions/portabletransactions/transaction/BoundUnitRoundedUpToSecondsPinLaw" = some m.cls := findClass_of_methodNamed Bd.named
  have hnm := (name_of_methodNamed Bd.named Bd.method).1
  have X0 : Stand p l e room_1 s m #[(.int p0), (.int p1)] below meth c s₁ [] 0 0 := Stand.of_body Bd
  have e0 : s₁.heap = h0 := by rw [← hh, Bd.state]; rfl
  have N0 := Fr.nil n0
  have WW := W
  obtain ⟨E_w_SECONDS, E_w_SECONDS_name, S_TimeUnit_SECONDS, F_w_SECONDS_name, F_w_SECONDS_ordinal, F_w_SECONDS_scale, F_w_SECONDS_maxNanos, F_w_SECONDS_microRatio, F_w_SECONDS_maxMicros, F_w_SECONDS_milliRatio, F_w_SECONDS_maxMillis, F_w_SECONDS_secRatio, F_w_SECONDS_maxSecs, -⟩ := WW
  have ef : entryFrame m #[(.int p0), (.int p1)] maxLocals = mkF m 0 #[.val (.int p0), .val (.int p1), .unset, .unset, .unset, .unset, .unset, .unset, .unset] [] := by first | rfl | (simp [entryFrame, mkF, argsToLocals, Value.category, maxLocals]; done)
  have pre0 : ∀ t, Steps p.tables e below (s₁.setTop (mkF m 0 #[.val (.int p0), .val (.int p1), .unset, .unset, .unset, .unset, .unset, .unset, .unset] [])) t → Steps p.tables e below (s₁.setTop (entryFrame m #[(.int p0), (.int p1)] maxLocals)) t := fun t k => castTop ef k
  obtain ⟨_, _, ⟨T1, L1, k1, n1⟩, -, X1, ⟨Lc1, hQ1, l1, y1, z1⟩, st1⟩ := Jvm.LawKit.callS X0 hx (y := (⟨"com/example/portable_transactions/portabletransactions/transaction/BoundUnit", "roundedUpToSeconds", "(J)I"⟩ : MethodName)) hown (mvT hZ (hw _ (List.mem_of_getElem? (i := 2) rfl))) (mvT hZ (hw _ (List.mem_of_getElem? (i := 3) rfl))) (mvT hZ (hw _ (List.mem_of_getElem? (i := 4) rfl))) (mvT hZ (hw _ (List.mem_of_getElem? (i := 5) rfl))) (by decide) (backOf (W := 0) (rm1 l Z a0 hw [] n0 h0 O w_SECONDS w_SECONDS_name W ((((p0 &&& (2147483647 : Int32)).toInt64) * (1000000000 : Int64)) - (((p1 &&& (2147483647 : Int32)) % (1000000000 : Int32)).toInt64))) hZ (hw _ (List.mem_of_getElem? (i := 5) rfl)) (hw _ (List.mem_of_getElem? (i := 4) rfl)) (by decide) (by decide)) (g := (mkF m 38 #[.val (.int p0), .val (.int p1), .val (.long ((p0 &&& (2147483647 : Int32)).toInt64)), .second, .val (.long (((p1 &&& (2147483647 : Int32)) % (1000000000 : Int32)).toInt64)), .second, .val (.long ((((p0 &&& (2147483647 : Int32)).toInt64) * (1000000000 : Int64)) - (((p1 &&& (2147483647 : Int32)) % (1000000000 : Int32)).toInt64))), .second, .unset] [(.long ((((p0 &&& (2147483647 : Int32)).toInt64) * (1000000000 : Int64)) - (((p1 &&& (2147483647 : Int32)) % (1000000000 : Int32)).toInt64)))])) rfl (by rw [hml]; rfl) (argsL := [(.long ((((p0 &&& (2147483647 : Int32)).toInt64) * (1000000000 : Int64)) - (((p1 &&& (2147483647 : Int32)) % (1000000000 : Int32)).toInt64)))]) (rest := []) (lenOf owpd1 rfl) rfl (by show 2 * 0 + _ ≤ _; exact Nat.le_of_eq rfl) (hb hby at_38) (fun _ _ => ⟨rfl, e0, (by decide : 0 + 0 ≤ _), (by decide : 0 + 0 ≤ _)⟩)
  dsimp only [Pt.U, Pt.locs, Pt.cells, Pt.slots] at X1 l1 y1 z1 st1 hQ1
  subst l1 y1 z1
  obtain ⟨rfl, Nq1, e1⟩ := hQ1
  have N1 := Fr.app N0 Nq1
  obtain ⟨fs, hr, hrun, hended, hW, hsame⟩ := X1.leave (v := some (.int (1 : Int32))) (fun h => by rw [Bd.returns] at h; cases h)
  refine ⟨_, _, pre0 _ ?_, hrun, hended, _, _, rfl, ?_, ⟨_, rfl⟩, hW, hsame.mono (by decide) (by decide)⟩
  · show Steps p.tables e below (s₁.setTop (mkF m 0 #[.val (.int p0), .val (.int p1), .unset, .unset, .unset, .unset, .unset, .unset, .unset] [])) _
    refine XS.iloadN X0.here hx rfl (hb hby at_0) rfl ?_
    show Steps p.tables e below (s₁.setTop (mkF m 1 #[.val (.int p0), .val (.int p1), .unset, .unset, .unset, .unset, .unset, .unset, .unset] [(.int p0)])) _
    refine X0.ldcInt hx hown (mvT hZ (hw _ (List.mem_of_getElem? (i := 0) rfl))) (g := (mkF m 1 #[.val (.int p0), .val (.int p1), .unset, .unset, .unset, .unset, .unset, .unset, .unset] [(.int p0)])) rfl (hb hby at_1) _ ?_
    show Steps p.tables e below (s₁.setTop (mkF m 3 #[.val (.int p0), .val (.int p1), .unset, .unset, .unset, .unset, .unset, .unset, .unset] [(.int (2147483647 : Int32)), (.int p0)])) _
    refine XS.iand X0.here hx rfl (hb hby at_3) rfl ?_
    show Steps p.tables e below (s₁.setTop (mkF m 4 #[.val (.int p0), .val (.int p1), .unset, .unset, .unset, .unset, .unset, .unset, .unset] [(.int (p0 &&& (2147483647 : Int32)))])) _
    refine XS.i2l X0.here hx rfl (hb hby at_4) rfl ?_
    show Steps p.tables e below (s₁.setTop (mkF m 5 #[.val (.int p0), .val (.int p1), .unset, .unset, .unset, .unset, .unset, .unset, .unset] [(.long ((p0 &&& (2147483647 : Int32)).toInt64))])) _
    refine XS.lstoreN X0.here hx rfl (hb hby at_5) rfl (l' := #[.val (.int p0), .val (.int p1), .val (.long ((p0 &&& (2147483647 : Int32)).toInt64)), .second, .unset, .unset, .unset, .unset, .unset]) rfl ?_
    show Steps p.tables e below (s₁.setTop (mkF m 6 #[.val (.int p0), .val (.int p1), .val (.long ((p0 &&& (2147483647 : Int32)).toInt64)), .second, .unset, .unset, .unset, .unset, .unset] [])) _
    refine XS.iloadN X0.here hx rfl (hb hby at_6) rfl ?_
    show Steps p.tables e below (s₁.setTop (mkF m 7 #[.val (.int p0), .val (.int p1), .val (.long ((p0 &&& (2147483647 : Int32)).toInt64)), .second, .unset, .unset, .unset, .unset, .unset] [(.int p1)])) _
    refine X0.ldcInt hx hown (mvT hZ (hw _ (List.mem_of_getElem? (i := 0) rfl))) (g := (mkF m 7 #[.val (.int p0), .val (.int p1), .val (.long ((p0 &&& (2147483647 : Int32)).toInt64)), .second, .unset, .unset, .unset, .unset, .unset] [(.int p1)])) rfl (hb hby at_7) _ ?_
    show Steps p.tables e below (s₁.setTop (mkF m 9 #[.val (.int p0), .val (.int p1), .val (.long ((p0 &&& (2147483647 : Int32)).toInt64)), .second, .unset, .unset, .unset, .unset, .unset] [(.int (2147483647 : Int32)), (.int p1)])) _
    refine XS.iand X0.here hx rfl (hb hby at_9) rfl ?_
    show Steps p.tables e below (s₁.setTop (mkF m 10 #[.val (.int p0), .val (.int p1), .val (.long ((p0 &&& (2147483647 : Int32)).toInt64)), .second, .unset, .unset, .unset, .unset, .unset] [(.int (p1 &&& (2147483647 : Int32)))])) _
    refine X0.ldcInt hx hown (mvT hZ (hw _ (List.mem_of_getElem? (i := 1) rfl))) (g := (mkF m 10 #[.val (.int p0), .val (.int p1), .val (.long ((p0 &&& (2147483647 : Int32)).toInt64)), .second, .unset, .unset, .unset, .unset, .unset] [(.int (p1 &&& (2147483647 : Int32)))])) rfl (hb hby at_10) _ ?_
    show Steps p.tables e below (s₁.setTop (mkF m 12 #[.val (.int p0), .val (.int p1), .val (.long ((p0 &&& (2147483647 : Int32)).toInt64)), .second, .unset, .unset, .unset, .unset, .unset] [(.int (1000000000 : Int32)), (.int (p1 &&& (2147483647 : Int32)))])) _
    refine iremM X0 hx rfl (hb hby at_12) rfl (by decide) ?_
    show Steps p.tables e below (s₁.setTop (mkF m 13 #[.val (.int p0), .val (.int p1), .val (.long ((p0 &&& (2147483647 : Int32)).toInt64)), .second, .unset, .unset, .unset, .unset, .unset] [(.int ((p1 &&& (2147483647 : Int32)) % (1000000000 : Int32)))])) _
    refine XS.i2l X0.here hx rfl (hb hby at_13) rfl ?_
    show Steps p.tables e below (s₁.setTop (mkF m 14 #[.val (.int p0), .val (.int p1), .val (.long ((p0 &&& (2147483647 : Int32)).toInt64)), .second, .unset, .unset, .unset, .unset, .unset] [(.long (((p1 &&& (2147483647 : Int32)) % (1000000000 : Int32)).toInt64))])) _
    refine XS.lstore X0.here hx rfl (hb hby at_14) rfl (l' := #[.val (.int p0), .val (.int p1), .val (.long ((p0 &&& (2147483647 : Int32)).toInt64)), .second, .val (.long (((p1 &&& (2147483647 : Int32)) % (1000000000 : Int32)).toInt64)), .second, .unset, .unset, .unset]) rfl ?_
    show Steps p.tables e below (s₁.setTop (mkF m 16 #[.val (.int p0), .val (.int p1), .val (.long ((p0 &&& (2147483647 : Int32)).toInt64)), .second, .val (.long (((p1 &&& (2147483647 : Int32)) % (1000000000 : Int32)).toInt64)), .second, .unset, .unset, .unset] [])) _
    refine XS.lloadN X0.here hx rfl (hb hby at_16) rfl ?_
    show Steps p.tables e below (s₁.setTop (mkF m 17 #[.val (.int p0), .val (.int p1), .val (.long ((p0 &&& (2147483647 : Int32)).toInt64)), .second, .val (.long (((p1 &&& (2147483647 : Int32)) % (1000000000 : Int32)).toInt64)), .second, .unset, .unset, .unset] [(.long ((p0 &&& (2147483647 : Int32)).toInt64))])) _
    refine XS.lconst X0.here hx rfl (hb hby at_17) ?_
    show Steps p.tables e below (s₁.setTop (mkF m 18 #[.val (.int p0), .val (.int p1), .val (.long ((p0 &&& (2147483647 : Int32)).toInt64)), .second, .val (.long (((p1 &&& (2147483647 : Int32)) % (1000000000 : Int32)).toInt64)), .second, .unset, .unset, .unset] [(.long (0 : Int64)), (.long ((p0 &&& (2147483647 : Int32)).toInt64))])) _
    refine XS.lcmp X0.here hx rfl (hb hby at_18) rfl ?_
    show Steps p.tables e below (s₁.setTop (mkF m 19 #[.val (.int p0), .val (.int p1), .val (.long ((p0 &&& (2147483647 : Int32)).toInt64)), .second, .val (.long (((p1 &&& (2147483647 : Int32)) % (1000000000 : Int32)).toInt64)), .second, .unset, .unset, .unset] [(.int (lcmpW ((p0 &&& (2147483647 : Int32)).toInt64) (0 : Int64)))])) _
    refine XS.ifYes X0.here hx rfl (pc0 := 19) (pc' := 26) rfl (hb hby at_19) rfl ((if0 _ _).trans (feq (mt (lw_eq ((p0 &&& (2147483647 : Int32)).toInt64) (0 : Int64)).mp hz)).2) (by decide) (by decide) ?_
    show Steps p.tables e below (s₁.setTop (mkF m 26 #[.val (.int p0), .val (.int p1), .val (.long ((p0 &&& (2147483647 : Int32)).toInt64)), .second, .val (.long (((p1 &&& (2147483647 : Int32)) % (1000000000 : Int32)).toInt64)), .second, .unset, .unset, .unset] [])) _
    refine XS.lloadN X0.here hx rfl (hb hby at_26) rfl ?_
    show Steps p.tables e below (s₁.setTop (mkF m 27 #[.val (.int p0), .val (.int p1), .val (.long ((p0 &&& (2147483647 : Int32)).toInt64)), .second, .val (.long (((p1 &&& (2147483647 : Int32)) % (1000000000 : Int32)).toInt64)), .second, .unset, .unset, .unset] [(.long ((p0 &&& (2147483647 : Int32)).toInt64))])) _
    refine X0.ldc2Long hx hown (mvT hZ (hw _ (List.mem_of_getElem? (i := 17) rfl))) (g := (mkF m 27 #[.val (.int p0), .val (.int p1), .val (.long ((p0 &&& (2147483647 : Int32)).toInt64)), .second, .val (.long (((p1 &&& (2147483647 : Int32)) % (1000000000 : Int32)).toInt64)), .second, .unset, .unset, .unset] [(.long ((p0 &&& (2147483647 : Int32)).toInt64))])) rfl (hb hby at_27) _ ?_
    show Steps p.tables e below (s₁.setTop (mkF m 30 #[.val (.int p0), .val (.int p1), .val (.long ((p0 &&& (2147483647 : Int32)).toInt64)), .second, .val (.long (((p1 &&& (2147483647 : Int32)) % (1000000000 : Int32)).toInt64)), .second, .unset, .unset, .unset] [(.long (1000000000 : Int64)), (.long ((p0 &&& (2147483647 : Int32)).toInt64))])) _
    refine XS.lmul X0.here hx rfl (hb hby at_30) rfl ?_
    show Steps p.tables e below (s₁.setTop (mkF m 31 #[.val (.int p0), .val (.int p1), .val (.long ((p0 &&& (2147483647 : Int32)).toInt64)), .second, .val (.long (((p1 &&& (2147483647 : Int32)) % (1000000000 : Int32)).toInt64)), .second, .unset, .unset, .unset] [(.long (((p0 &&& (2147483647 : Int32)).toInt64) * (1000000000 : Int64)))])) _
    refine XS.lload X0.here hx rfl (hb hby at_31) rfl ?_
    show Steps p.tables e below (s₁.setTop (mkF m 33 #[.val (.int p0), .val (.int p1), .val (.long ((p0 &&& (2147483647 : Int32)).toInt64)), .second, .val (.long (((p1 &&& (2147483647 : Int32)) % (1000000000 : Int32)).toInt64)), .second, .unset, .unset, .unset] [(.long (((p1 &&& (2147483647 : Int32)) % (1000000000 : Int32)).toInt64)), (.long (((p0 &&& (2147483647 : Int32)).toInt64) * (1000000000 : Int64)))])) _
    refine XS.lsub X0.here hx rfl (hb hby at_33) rfl ?_
    show Steps p.tables e below (s₁.setTop (mkF m 34 #[.val (.int p0), .val (.int p1), .val (.long ((p0 &&& (2147483647 : Int32)).toInt64)), .second, .val (.long (((p1 &&& (2147483647 : Int32)) % (1000000000 : Int32)).toInt64)), .second, .unset, .unset, .unset] [(.long ((((p0 &&& (2147483647 : Int32)).toInt64) * (1000000000 : Int64)) - (((p1 &&& (2147483647 : Int32)) % (1000000000 : Int32)).toInt64)))])) _
    refine XS.lstore X0.here hx rfl (hb hby at_34) rfl (l' := #[.val (.int p0), .val (.int p1), .val (.long ((p0 &&& (2147483647 : Int32)).toInt64)), .second, .val (.long (((p1 &&& (2147483647 : Int32)) % (1000000000 : Int32)).toInt64)), .second, .val (.long ((((p0 &&& (2147483647 : Int32)).toInt64) * (1000000000 : Int64)) - (((p1 &&& (2147483647 : Int32)) % (1000000000 : Int32)).toInt64))), .second, .unset]) rfl ?_
    show Steps p.tables e below (s₁.setTop (mkF m 36 #[.val (.int p0), .val (.int p1), .val (.long ((p0 &&& (2147483647 : Int32)).toInt64)), .second, .val (.long (((p1 &&& (2147483647 : Int32)) % (1000000000 : Int32)).toInt64)), .second, .val (.long ((((p0 &&& (2147483647 : Int32)).toInt64) * (1000000000 : Int64)) - (((p1 &&& (2147483647 : Int32)) % (1000000000 : Int32)).toInt64))), .second, .unset] [])) _
    refine XS.lload X0.here hx rfl (hb hby at_36) rfl ?_
    show Steps p.tables e below (s₁.setTop (mkF m 38 #[.val (.int p0), .val (.int p1), .val (.long ((p0 &&& (2147483647 : Int32)).toInt64)), .second, .val (.long (((p1 &&& (2147483647 : Int32)) % (1000000000 : Int32)).toInt64)), .second, .val (.long ((((p0 &&& (2147483647 : Int32)).toInt64) * (1000000000 : Int64)) - (((p1 &&& (2147483647 : Int32)) % (1000000000 : Int32)).toInt64))), .second, .unset] [(.long ((((p0 &&& (2147483647 : Int32)).toInt64) * (1000000000 : Int64)) - (((p1 &&& (2147483647 : Int32)) % (1000000000 : Int32)).toInt64)))])) _
    refine st1 _ ?_
    show Steps p.tables e below (T1.setTop (mkF m 41 #[.val (.int p0), .val (.int p1), .val (.long ((p0 &&& (2147483647 : Int32)).toInt64)), .second, .val (.long (((p1 &&& (2147483647 : Int32)) % (1000000000 : Int32)).toInt64)), .second, .val (.long ((((p0 &&& (2147483647 : Int32)).toInt64) * (1000000000 : Int64)) - (((p1 &&& (2147483647 : Int32)) % (1000000000 : Int32)).toInt64))), .second, .unset] [(.int ((((((((p0 &&& (2147483647 : Int32)).toInt64) * (1000000000 : Int64)) - (((p1 &&& (2147483647 : Int32)) % (1000000000 : Int32)).toInt64)) + (1000000000 : Int64)) - (1 : Int64)) / (1000000000 : Int64)).toInt32))])) _
    refine XS.istore X1.here hx rfl (hb hby at_41) rfl (l' := #[.val (.int p0), .val (.int p1), .val (.long ((p0 &&& (2147483647 : Int32)).toInt64)), .second, .val (.long (((p1 &&& (2147483647 : Int32)) % (1000000000 : Int32)).toInt64)), .second, .val (.long ((((p0 &&& (2147483647 : Int32)).toInt64) * (1000000000 : Int64)) - (((p1 &&& (2147483647 : Int32)) % (1000000000 : Int32)).toInt64))), .second, .val (.int ((((((((p0 &&& (2147483647 : Int32)).toInt64) * (1000000000 : Int64)) - (((p1 &&& (2147483647 : Int32)) % (1000000000 : Int32)).toInt64)) + (1000000000 : Int64)) - (1 : Int64)) / (1000000000 : Int64)).toInt32))]) rfl ?_
    show Steps p.tables e below (T1.setTop (mkF m 43 #[.val (.int p0), .val (.int p1), .val (.long ((p0 &&& (2147483647 : Int32)).toInt64)), .second, .val (.long (((p1 &&& (2147483647 : Int32)) % (1000000000 : Int32)).toInt64)), .second, .val (.long ((((p0 &&& (2147483647 : Int32)).toInt64) * (1000000000 : Int64)) - (((p1 &&& (2147483647 : Int32)) % (1000000000 : Int32)).toInt64))), .second, .val (.int ((((((((p0 &&& (2147483647 : Int32)).toInt64) * (1000000000 : Int64)) - (((p1 &&& (2147483647 : Int32)) % (1000000000 : Int32)).toInt64)) + (1000000000 : Int64)) - (1 : Int64)) / (1000000000 : Int64)).toInt32))] [])) _
    refine XS.iload X1.here hx rfl (hb hby at_43) rfl ?_
    show Steps p.tables e below (T1.setTop (mkF m 45 #[.val (.int p0), .val (.int p1), .val (.long ((p0 &&& (2147483647 : Int32)).toInt64)), .second, .val (.long (((p1 &&& (2147483647 : Int32)) % (1000000000 : Int32)).toInt64)), .second, .val (.long ((((p0 &&& (2147483647 : Int32)).toInt64) * (1000000000 : Int64)) - (((p1 &&& (2147483647 : Int32)) % (1000000000 : Int32)).toInt64))), .second, .val (.int ((((((((p0 &&& (2147483647 : Int32)).toInt64) * (1000000000 : Int64)) - (((p1 &&& (2147483647 : Int32)) % (1000000000 : Int32)).toInt64)) + (1000000000 : Int64)) - (1 : Int64)) / (1000000000 : Int64)).toInt32))] [(.int ((((((((p0 &&& (2147483647 : Int32)).toInt64) * (1000000000 : Int64)) - (((p1 &&& (2147483647 : Int32)) % (1000000000 : Int32)).toInt64)) + (1000000000 : Int64)) - (1 : Int64)) / (1000000000 : Int64)).toInt32))])) _
    refine XS.lloadN X1.here hx rfl (hb hby at_45) rfl ?_
    show Steps p.tables e below (T1.setTop (mkF m 46 #[.val (.int p0), .val (.int p1), .val (.long ((p0 &&& (2147483647 : Int32)).toInt64)), .second, .val (.long (((p1 &&& (2147483647 : Int32)) % (1000000000 : Int32)).toInt64)), .second, .val (.long ((((p0 &&& (2147483647 : Int32)).toInt64) * (1000000000 : Int64)) - (((p1 &&& (2147483647 : Int32)) % (1000000000 : Int32)).toInt64))), .second, .val (.int ((((((((p0 &&& (2147483647 : Int32)).toInt64) * (1000000000 : Int64)) - (((p1 &&& (2147483647 : Int32)) % (1000000000 : Int32)).toInt64)) + (1000000000 : Int64)) - (1 : Int64)) / (1000000000 : Int64)).toInt32))] [(.long ((p0 &&& (2147483647 : Int32)).toInt64)), (.int ((((((((p0 &&& (2147483647 : Int32)).toInt64) * (1000000000 : Int64)) - (((p1 &&& (2147483647 : Int32)) % (1000000000 : Int32)).toInt64)) + (1000000000 : Int64)) - (1 : Int64)) / (1000000000 : Int64)).toInt32))])) _
    refine XS.l2i X1.here hx rfl (hb hby at_46) rfl ?_
    show Steps p.tables e below (T1.setTop (mkF m 47 #[.val (.int p0), .val (.int p1), .val (.long ((p0 &&& (2147483647 : Int32)).toInt64)), .second, .val (.long (((p1 &&& (2147483647 : Int32)) % (1000000000 : Int32)).toInt64)), .second, .val (.long ((((p0 &&& (2147483647 : Int32)).toInt64) * (1000000000 : Int64)) - (((p1 &&& (2147483647 : Int32)) % (1000000000 : Int32)).toInt64))), .second, .val (.int ((((((((p0 &&& (2147483647 : Int32)).toInt64) * (1000000000 : Int64)) - (((p1 &&& (2147483647 : Int32)) % (1000000000 : Int32)).toInt64)) + (1000000000 : Int64)) - (1 : Int64)) / (1000000000 : Int64)).toInt32))] [(.int (((p0 &&& (2147483647 : Int32)).toInt64).toInt32)), (.int ((((((((p0 &&& (2147483647 : Int32)).toInt64) * (1000000000 : Int64)) - (((p1 &&& (2147483647 : Int32)) % (1000000000 : Int32)).toInt64)) + (1000000000 : Int64)) - (1 : Int64)) / (1000000000 : Int64)).toInt32))])) _
    refine XS.icmpNo X1.here hx rfl (hb hby at_47) rfl (teq (own_g p0 p1 hz)).2 ?_
    show Steps p.tables e below (T1.setTop (mkF m 50 #[.val (.int p0), .val (.int p1), .val (.long ((p0 &&& (2147483647 : Int32)).toInt64)), .second, .val (.long (((p1 &&& (2147483647 : Int32)) % (1000000000 : Int32)).toInt64)), .second, .val (.long ((((p0 &&& (2147483647 : Int32)).toInt64) * (1000000000 : Int64)) - (((p1 &&& (2147483647 : Int32)) % (1000000000 : Int32)).toInt64))), .second, .val (.int ((((((((p0 &&& (2147483647 : Int32)).toInt64) * (1000000000 : Int64)) - (((p1 &&& (2147483647 : Int32)) % (1000000000 : Int32)).toInt64)) + (1000000000 : Int64)) - (1 : Int64)) / (1000000000 : Int64)).toInt32))] [])) _
    refine XS.iconst X1.here hx rfl (hb hby at_50) ?_
    show Steps p.tables e below (T1.setTop (mkF m 51 #[.val (.int p0), .val (.int p1), .val (.long ((p0 &&& (2147483647 : Int32)).toInt64)), .second, .val (.long (((p1 &&& (2147483647 : Int32)) % (1000000000 : Int32)).toInt64)), .second, .val (.long ((((p0 &&& (2147483647 : Int32)).toInt64) * (1000000000 : Int64)) - (((p1 &&& (2147483647 : Int32)) % (1000000000 : Int32)).toInt64))), .second, .val (.int ((((((((p0 &&& (2147483647 : Int32)).toInt64) * (1000000000 : Int64)) - (((p1 &&& (2147483647 : Int32)) % (1000000000 : Int32)).toInt64)) + (1000000000 : Int64)) - (1 : Int64)) / (1000000000 : Int64)).toInt32))] [(.int (1 : Int32))])) _
    refine XS.goto X1.here hx rfl (pc0 := 51) (pc' := 55) rfl (hb hby at_51) (by decide) (by decide) ?_
    show Steps p.tables e below (T1.setTop (mkF m 55 #[.val (.int p0), .val (.int p1), .val (.long ((p0 &&& (2147483647 : Int32)).toInt64)), .second, .val (.long (((p1 &&& (2147483647 : Int32)) % (1000000000 : Int32)).toInt64)), .second, .val (.long ((((p0 &&& (2147483647 : Int32)).toInt64) * (1000000000 : Int64)) - (((p1 &&& (2147483647 : Int32)) % (1000000000 : Int32)).toInt64))), .second, .val (.int ((((((((p0 &&& (2147483647 : Int32)).toInt64) * (1000000000 : Int64)) - (((p1 &&& (2147483647 : Int32)) % (1000000000 : Int32)).toInt64)) + (1000000000 : Int64)) - (1 : Int64)) / (1000000000 : Int64)).toInt32))] [(.int (1 : Int32))])) _
    exact retN X1 hx (t := .boolean) Bd.returns (by simp) (hb hby at_55) hr
  · have eF : (T1.setFrames fs).heap = h0 := e1
    exact ⟨N1, rfl⟩
set_option maxRecDepth 65536 in
set_option maxHeartbeats 40000000 in
theorem comes_1 {Post : Tables → Env → Array Value → State → Outcome → State → Prop} (hpost : ∀ tb e args s v u, (limb_1_1.after args s (.returned v) u = true ∧ limb_1_2.after args s (.returned v) u = true ∧ True) → FrameEnd s (.returned v) u (Jvm.fieldLocs frame_1_writes args s ++ Jvm.arrayLocs frame_1_arrays args s ++ Jvm.staticLocs frame_1_statics s) 0 0 → Post tb e args s (.returned v) u) :
    ArmFor flags0 classFile x code maxLocals ret World_1 tables_1 room_1 Calls_1 rest_1 Pre_1 Post := by
  intro l hfl _ _ p e ha hc hk s m args below hf hA hF happ hP
  obtain ⟨hcalls, hrest, hpre⟩ := hP
  obtain ⟨-, -, -, hnamed, -, -, -, hat⟩ := (Spec.applies_iff hf).mp happ
  obtain ⟨hg, hn⟩ := and_e (Cond.before_iff.mp (show (Jvm.Cond.and given_1 narrow_1).before args s = true from hpre))
  obtain ⟨ga1, gb1⟩ := and_e hg
  obtain ⟨ga2, gb2⟩ := and_e gb1
  obtain ⟨w0, w1, rfl⟩ : ∃ w0 w1 : Value, args = #[w0, w1] := by
    have hs : args.size = 2 := by simpa [Cond.value, given_1] using ga1
    obtain ⟨L⟩ := args
    match L, hs with
    | [w0, w1], _ => exact ⟨w0, w1, rfl⟩
  have hw := fun d (hd : d ∈ tables_1) => atoms_spec (ws := Jvm.Cond.code x code maxLocals ret :: tables_1) hat d (List.mem_cons_of_mem _ hd)
  have hfit : Fit s := fun {y c} hc i hi => by
    obtain ⟨ha, rfl⟩ := Array.getElem?_eq_some_iff.mp hc
    have q := List.all_eq_true.mp ((Array.all_eq_true_iff_forall_mem.mp hF) _ (Array.getElem_mem ha)) i (List.mem_range.mpr hi)
    simpa [Array.getElem?_eq_getElem hi] using q
  obtain ⟨i0, ei0⟩ := is_v ga2
  obtain rfl : w0 = (.int i0) := Option.some.inj ei0
  obtain ⟨i1, ei1⟩ := is_v gb2
  obtain rfl : w1 = (.int i1) := Option.some.inj ei1
  obtain ⟨hsets, hown0⟩ := atoms_of _ (rest_1_c_eq ▸ (show rest_1_c.before _ s = true from hrest))
  obtain ⟨w_SECONDS, ev_w_SECONDS⟩ := exa_v (Cond.before_iff.mp (hsets _ (List.mem_of_getElem? (i := 2) rfl)))
  have E_w_SECONDS : Exa s s.heap w_SECONDS "java/util/concurrent/TimeUnit" := Exa.start ev_w_SECONDS (Cond.before_iff.mp (hsets _ (List.mem_of_getElem? (i := 2) rfl)))
  obtain ⟨w_SECONDS_name, ev_w_SECONDS_name⟩ := exa_v (Cond.before_iff.mp (hsets _ (List.mem_of_getElem? (i := 3) rfl)))
  have E_w_SECONDS_name : Exa s s.heap w_SECONDS_name "java/lang/String" := Exa.start ev_w_SECONDS_name (Cond.before_iff.mp (hsets _ (List.mem_of_getElem? (i := 3) rfl)))
  have ev1 := own_eqI (Cond.before_iff.mp (hsets _ (List.mem_of_getElem? (i := 4) rfl)))
  have ev2 := own_eqJ (Cond.before_iff.mp (hsets _ (List.mem_of_getElem? (i := 5) rfl)))
  have ev3 := own_eqJ (Cond.before_iff.mp (hsets _ (List.mem_of_getElem? (i := 6) rfl)))
  have ev4 := own_eqJ (Cond.before_iff.mp (hsets _ (List.mem_of_getElem? (i := 7) rfl)))
  have ev5 := own_eqJ (Cond.before_iff.mp (hsets _ (List.mem_of_getElem? (i := 8) rfl)))
  have ev6 := own_eqI (Cond.before_iff.mp (hsets _ (List.mem_of_getElem? (i := 9) rfl)))
  have ev7 := own_eqJ (Cond.before_iff.mp (hsets _ (List.mem_of_getElem? (i := 10) rfl)))
  have ev8 := own_eqI (Cond.before_iff.mp (hsets _ (List.mem_of_getElem? (i := 11) rfl)))
  have ev9 := own_eqJ (Cond.before_iff.mp (hsets _ (List.mem_of_getElem? (i := 12) rfl)))
  have S_TimeUnit_SECONDS : Sta s s.heap "java/util/concurrent/TimeUnit" "SECONDS" "Ljava/util/concurrent/TimeUnit;" (.ref w_SECONDS) := Sta.start ev_w_SECONDS (Or.inl (Cond.before_iff.mpr (Cond.before_iff.mp (hsets _ (List.mem_of_getElem? (i := 1) rfl)))))
  have F_w_SECONDS_name : Fld s s.heap w_SECONDS "java/lang/Enum" "name" "Ljava/lang/String;" (.ref w_SECONDS_name) := own_fld ev_w_SECONDS ev_w_SECONDS_name
  have F_w_SECONDS_ordinal : Fld s s.heap w_SECONDS "java/lang/Enum" "ordinal" "I" (.int (3 : Int32)) := own_fld ev_w_SECONDS ev1
  have F_w_SECONDS_scale : Fld s s.heap w_SECONDS "java/util/concurrent/TimeUnit" "scale" "J" (.long (1000000000 : Int64)) := own_fld ev_w_SECONDS ev2
  have F_w_SECONDS_maxNanos : Fld s s.heap w_SECONDS "java/util/concurrent/TimeUnit" "maxNanos" "J" (.long (9223372036 : Int64)) := own_fld ev_w_SECONDS ev3
  have F_w_SECONDS_microRatio : Fld s s.heap w_SECONDS "java/util/concurrent/TimeUnit" "microRatio" "J" (.long (1000000 : Int64)) := own_fld ev_w_SECONDS ev4
  have F_w_SECONDS_maxMicros : Fld s s.heap w_SECONDS "java/util/concurrent/TimeUnit" "maxMicros" "J" (.long (9223372036854 : Int64)) := own_fld ev_w_SECONDS ev5
  have F_w_SECONDS_milliRatio : Fld s s.heap w_SECONDS "java/util/concurrent/TimeUnit" "milliRatio" "I" (.int (1000 : Int32)) := own_fld ev_w_SECONDS ev6
  have F_w_SECONDS_maxMillis : Fld s s.heap w_SECONDS "java/util/concurrent/TimeUnit" "maxMillis" "J" (.long (9223372036854775 : Int64)) := own_fld ev_w_SECONDS ev7
  have F_w_SECONDS_secRatio : Fld s s.heap w_SECONDS "java/util/concurrent/TimeUnit" "secRatio" "I" (.int (1 : Int32)) := own_fld ev_w_SECONDS ev8
  have F_w_SECONDS_maxSecs : Fld s s.heap w_SECONDS "java/util/concurrent/TimeUnit" "maxSecs" "J" (.long (9223372036854775807 : Int64)) := own_fld ev_w_SECONDS ev9
  have W : OwW s w_SECONDS w_SECONDS_name := ⟨E_w_SECONDS, E_w_SECONDS_name, S_TimeUnit_SECONDS, F_w_SECONDS_name, F_w_SECONDS_ordinal, F_w_SECONDS_scale, F_w_SECONDS_maxNanos, F_w_SECONDS_microRatio, F_w_SECONDS_maxMicros, F_w_SECONDS_milliRatio, F_w_SECONDS_maxMillis, F_w_SECONDS_secRatio, F_w_SECONDS_maxSecs, trivial⟩
  have fin : OwCon l x code maxLocals ret tables_1 room_1 #[(.int i0), (.int i1)] s s.heap (OwP (fun v _ => v = some (.int 1)) s.heap.size) := by
    by_cases h : ((i0 &&& (2147483647 : Int32)).toInt64) = (0 : Int64)
    · exact rm0_z l s _ hw tables_1 s.heap.size s.heap (Old.start s) w_SECONDS w_SECONDS_name W i0 i1 h
    · exact rm0_g l s _ hw tables_1 s.heap.size s.heap (Old.start s) w_SECONDS w_SECONDS_name W i0 i1 h
  obtain ⟨n, o, h1, h2, h3, _, L, rfl, ⟨N, rfl⟩, hq⟩ := fin p e ha hc hk s m _ below hf ((Spec.applies_iff_loose hf).mp happ).1 ⟨rfl, State.Warmed39.refl s, rfl⟩ trivial
  refine ⟨n, _, h1, h2, h3, hpost _ _ _ _ _ _ ⟨Cond.after_iff.mpr rfl, Cond.after_iff.mpr (eq_i res_at (Term.int_eval (1)) rfl), trivial⟩ ⟨hq.1, hq.2.1, (hq.2.2.sift fun y hy => Or.inr (N y hy)).mono (by decide) (by decide)⟩⟩
theorem main_1_1 : Claimed_1_1 := comes_1 fun _ _ _ _ _ _ h hF => ⟨h.1, hF⟩
theorem main_1_2 : Claimed_1_2 := comes_1 fun _ _ _ _ _ _ h hF => ⟨h.2.1, hF⟩
end Jvm.Pilot.@@N@@
namespace Jvm.Pilot.@@N@@
open Jvm Jvm.ClassFile Sem Op Lib Jvm.Free Jvm.Stand Jvm.Pilot.@@N@@.Jvm.D
/-! MADE BY PROGRAM (witnessworld.py) out of the Statement's table words and the real class files: 16 classes; the members and pool entries that the words name. The judged class is class 1, her method 1. -/
namespace start1
open Jvm.ClassFile
def u (s : String) : CpInfo := .utf8 (stringToUtf16 s)
/-- a pool by its gaps: so many unusable entries, then the entry; so many at the end -/
def gap : Nat → List CpInfo → List CpInfo
  | 0, r => r
  | n + 1, r => .unusable :: gap n r
def poolList (es : List (Nat × CpInfo)) (last : Nat) : List CpInfo := es.foldr (fun e r => gap e.1 (e.2 :: r)) (gap last [])
def pool (es : List (Nat × CpInfo)) (last : Nat) : Array CpInfo := ⟨poolList es last⟩
def fileOf (pool : Array CpInfo) (this : Nat) (attrs : Array Attribute := #[]) (ms : Array MethodInfo := #[]) (fl : Nat := 33) (sup : Nat := 0) (ifs : Array Nat := #[]) (fds : Array FieldInfo := #[]) : ClassFile where
  minorVersion := 0
  majorVersion := 65
  constantPool := pool
  accessFlags := fl
  thisClass := this
  superClass := sup
  interfaces := ifs
  fields := fds
  methods := ms
  attributes := attrs
def plain (name : String) (sup : Option ClassId) : Class where
  name := name
  kind := .ordinary
  loader := none
  accessFlags := 33
  super := sup
  interfaces := #[]
  cf := none
  fields := #[]
  methods := #[]
  instanceTypes := #[]
  staticTypes := #[]
  resolved := #[]
  callSites := []
  init := .initialized
  statics := none
  mirror := none

def pool0 : Array CpInfo := pool [(5, u "<init>"), (0, u "()V"), (1, .class_ 10), (1, u "java/lang/Object")] 113

def k0m0 : Method := { name := "<init>", desc := "()V", sig := { parameters := [], returnType := none }, accessFlags := 1, code := none }
/-- java/lang/Object -/
def k0 : Class := { plain "java/lang/Object" none with
  accessFlags := 33
  interfaces := #[]
  cf := some (fileOf pool0 8 #[] #[{ accessFlags := 1, nameIndex := 5, descriptorIndex := 6, attributes := #[] }] 33 0 #[] #[])
  fields := #[]
  methods := #[k0m0]
  instanceTypes := #[]
  staticTypes := #[]
  resolved := Array.replicate 124 none
  statics := none }

def pool1 : Array CpInfo := pool [(2, .class_ 4), (1, u "java/lang/Object"), (0, u "<init>"), (0, u "()V"), (0, .integer 2147483647), (0, .integer 1000000000), (0, .long 1000000000), (1, .methodref 12 13), (0, .class_ 14), (0, .nameAndType 15 16), (0, u "com/example/portable_transactions/portabletransactions/transaction/BoundUnit"), (0, u "roundedUpToSeconds"), (0, u "(J)I"), (0, .class_ 18), (0, u "com/example/portable_transactions/portabletransactions/transaction/BoundUnitRoundedUpToSecondsPinLaw"), (2, u "law"), (0, u "(II)Z")] 3

def k1m0 : Method := { name := "<init>", desc := "()V", sig := { parameters := [], returnType := none }, accessFlags := 2, code := none }
def k1c1 : Code := { maxStack := 4, maxLocals := 9, code := code, exceptionTable := #[], attributes := #[] }
def k1m1 : Method := { name := "law", desc := "(II)Z", sig := { parameters := [.int, .int], returnType := some .boolean }, accessFlags := 9, code := some k1c1 }
/-- com/example/portable_transactions/portabletransactions/transaction/BoundUnitRoundedUpToSecondsPinLaw -/
def k1 : Class := { plain "com/example/portable_transactions/portabletransactions/transaction/BoundUnitRoundedUpToSecondsPinLaw" (some 0) with
  accessFlags := 49
  interfaces := #[]
  cf := some (fileOf pool1 17 #[] #[{ accessFlags := 2, nameIndex := 5, descriptorIndex := 6, attributes := #[] }, { accessFlags := 9, nameIndex := 21, descriptorIndex := 22, attributes := #[] }] 49 2 #[] #[])
  fields := #[]
  methods := #[k1m0, k1m1]
  instanceTypes := #[]
  staticTypes := #[]
  resolved := Array.replicate 26 none
  statics := none }

def pool2 : Array CpInfo := pool [(2, .class_ 4), (1, u "java/lang/Object"), (3, .class_ 10), (1, u "com/example/portable_transactions/portabletransactions/transaction/BoundUnit"), (0, u "runsUnder"), (0, u "Lcom/example/portable_transactions/portabletransactions/transaction/BoundUnit;"), (1, u "key"), (8, u "Ljava/lang/Object;"), (24, u "ended"), (0, u "Z"), (4, u "suspended"), (2, u "rollbackOnly"), (12, u "roundedUpToSeconds"), (0, u "(J)I"), (5, u "deadline"), (0, u "J"), (20, .fieldref 100 101), (0, .class_ 102), (0, .nameAndType 103 104), (0, u "java/util/concurrent/TimeUnit"), (0, u "SECONDS"), (0, u "Ljava/util/concurrent/TimeUnit;"), (0, .methodref 100 106), (0, .nameAndType 107 108), (0, u "toNanos"), (0, u "(J)J"), (2, u "startedAs"), (0, u "Lcom/example/portable_transactions/portabletransactions/transaction/UnitDefinition;"), (8, u "recordedAs"), (24, u "boundBeforeSuspended")] 39

def k2c0 : Code := { maxStack := 4, maxLocals := 4, code := prog_34_method_13_code, exceptionTable := #[], attributes := #[] }
def k2m0 : Method := { name := "roundedUpToSeconds", desc := "(J)I", sig := { parameters := [.long], returnType := some .int }, accessFlags := 12, code := some k2c0 }
/-- com/example/portable_transactions/portabletransactions/transaction/BoundUnit -/
def k2 : Class := { plain "com/example/portable_transactions/portabletransactions/transaction/BoundUnit" (some 0) with
  accessFlags := 1057
  interfaces := #[]
  cf := some (fileOf pool2 8 #[] #[{ accessFlags := 12, nameIndex := 70, descriptorIndex := 71, attributes := #[] }] 1057 2 #[] #[{ accessFlags := 18, nameIndex := 14, descriptorIndex := 23, attributes := #[] }, { accessFlags := 2, nameIndex := 57, descriptorIndex := 49, attributes := #[] }, { accessFlags := 2, nameIndex := 54, descriptorIndex := 49, attributes := #[] }, { accessFlags := 2, nameIndex := 146, descriptorIndex := 49, attributes := #[] }, { accessFlags := 2, nameIndex := 48, descriptorIndex := 49, attributes := #[] }, { accessFlags := 2, nameIndex := 111, descriptorIndex := 112, attributes := #[] }, { accessFlags := 2, nameIndex := 77, descriptorIndex := 78, attributes := #[] }, { accessFlags := 2, nameIndex := 11, descriptorIndex := 12, attributes := #[] }, { accessFlags := 2, nameIndex := 121, descriptorIndex := 23, attributes := #[] }])
  fields := #[{ name := "key", type := (.object "java/lang/Object"), accessFlags := 18, slot := 0, constantValue := 0 }, { name := "rollbackOnly", type := .boolean, accessFlags := 2, slot := 1, constantValue := 0 }, { name := "suspended", type := .boolean, accessFlags := 2, slot := 2, constantValue := 0 }, { name := "boundBeforeSuspended", type := .boolean, accessFlags := 2, slot := 3, constantValue := 0 }, { name := "ended", type := .boolean, accessFlags := 2, slot := 4, constantValue := 0 }, { name := "startedAs", type := (.object "com/example/portable_transactions/portabletransactions/transaction/UnitDefinition"), accessFlags := 2, slot := 5, constantValue := 0 }, { name := "deadline", type := .long, accessFlags := 2, slot := 6, constantValue := 0 }, { name := "runsUnder", type := (.object "com/example/portable_transactions/portabletransactions/transaction/BoundUnit"), accessFlags := 2, slot := 7, constantValue := 0 }, { name := "recordedAs", type := (.object "java/lang/Object"), accessFlags := 2, slot := 8, constantValue := 0 }]
  methods := #[k2m0]
  instanceTypes := #[(.object "java/lang/Object"), .boolean, .boolean, .boolean, .boolean, (.object "com/example/portable_transactions/portabletransactions/transaction/UnitDefinition"), .long, (.object "com/example/portable_transactions/portabletransactions/transaction/BoundUnit"), (.object "java/lang/Object")]
  staticTypes := #[]
  resolved := Array.replicate 186 none
  statics := none }

def pool3 : Array CpInfo := pool [(1, .class_ 2), (0, u "java/lang/constant/Constable"), (0, .class_ 4), (0, u "java/lang/Object")] 6

/-- java/lang/constant/Constable -/
def k3 : Class := { plain "java/lang/constant/Constable" (some 0) with
  accessFlags := 1537
  interfaces := #[]
  cf := some (fileOf pool3 1 #[] #[] 1537 3 #[] #[])
  fields := #[]
  methods := #[]
  instanceTypes := #[]
  staticTypes := #[]
  resolved := Array.replicate 11 none
  statics := none }

def pool4 : Array CpInfo := pool [(1, .class_ 2), (0, u "java/lang/Comparable"), (0, .class_ 4), (0, u "java/lang/Object")] 7

/-- java/lang/Comparable -/
def k4 : Class := { plain "java/lang/Comparable" (some 0) with
  accessFlags := 1537
  interfaces := #[]
  cf := some (fileOf pool4 1 #[] #[] 1537 3 #[] #[])
  fields := #[]
  methods := #[]
  instanceTypes := #[]
  staticTypes := #[]
  resolved := Array.replicate 12 none
  statics := none }

def pool5 : Array CpInfo := pool [(1, .class_ 2), (0, u "java/io/Serializable"), (0, .class_ 4), (0, u "java/lang/Object")] 2

/-- java/io/Serializable -/
def k5 : Class := { plain "java/io/Serializable" (some 0) with
  accessFlags := 1537
  interfaces := #[]
  cf := some (fileOf pool5 1 #[] #[] 1537 3 #[] #[])
  fields := #[]
  methods := #[]
  instanceTypes := #[]
  staticTypes := #[]
  resolved := Array.replicate 7 none
  statics := none }

def pool6 : Array CpInfo := pool [(2, .class_ 4), (1, u "java/lang/Enum"), (0, u "name"), (0, u "Ljava/lang/String;"), (2, u "ordinal"), (0, u "I"), (1, .class_ 14), (1, u "java/lang/Object"), (4, u "hash"), (86, .class_ 108), (1, u "java/lang/Enum$EnumDesc"), (2, .class_ 112), (0, u "java/lang/constant/Constable"), (0, .class_ 114), (0, u "java/lang/Comparable"), (0, .class_ 116), (0, u "java/io/Serializable")] 87

/-- java/lang/Enum -/
def k6 : Class := { plain "java/lang/Enum" (some 0) with
  accessFlags := 1057
  interfaces := #[3, 4, 5]
  cf := some (fileOf pool6 2 #[.nestMembers #[106]] #[] 1057 12 #[111, 113, 115] #[{ accessFlags := 18, nameIndex := 5, descriptorIndex := 6, attributes := #[] }, { accessFlags := 18, nameIndex := 9, descriptorIndex := 10, attributes := #[] }, { accessFlags := 2, nameIndex := 19, descriptorIndex := 10, attributes := #[] }])
  fields := #[{ name := "name", type := (.object "java/lang/String"), accessFlags := 18, slot := 0, constantValue := 0 }, { name := "ordinal", type := .int, accessFlags := 18, slot := 1, constantValue := 0 }, { name := "hash", type := .int, accessFlags := 2, slot := 2, constantValue := 0 }]
  methods := #[]
  instanceTypes := #[(.object "java/lang/String"), .int, .int]
  staticTypes := #[]
  resolved := Array.replicate 204 none
  statics := none }

def pool7 : Array CpInfo := pool [(1, .class_ 2), (0, u "java/util/concurrent/TimeUnit"), (2, u "NANOSECONDS"), (0, u "Ljava/util/concurrent/TimeUnit;"), (2, u "MICROSECONDS"), (2, u "MILLISECONDS"), (2, u "SECONDS"), (2, u "MINUTES"), (2, u "HOURS"), (2, u "DAYS"), (2, u "$VALUES"), (0, u "[Ljava/util/concurrent/TimeUnit;"), (6, .class_ 37), (1, u "java/lang/Enum"), (6, .fieldref 1 45), (0, .nameAndType 46 47), (0, u "scale"), (0, u "J"), (4, .fieldref 1 53), (0, .nameAndType 54 47), (0, u "maxNanos"), (4, u "microRatio"), (2, u "maxMicros"), (4, u "milliRatio"), (0, u "I"), (2, u "maxMillis"), (4, u "secRatio"), (2, u "maxSecs"), (8, u "toNanos"), (0, u "(J)J"), (73, .class_ 165), (1, u "java/util/concurrent/TimeUnit$1"), (46, u "NANO_SCALE"), (3, u "MICRO_SCALE"), (0, u "MILLI_SCALE"), (0, u "SECOND_SCALE"), (0, u "MINUTE_SCALE"), (0, u "HOUR_SCALE"), (0, u "DAY_SCALE")] 61

def k7c0 : Code := { maxStack := 6, maxLocals := 7, code := jdk_2799_method_7_code, exceptionTable := #[], attributes := #[] }
def k7m0 : Method := { name := "toNanos", desc := "(J)J", sig := { parameters := [.long], returnType := some .long }, accessFlags := 1, code := some k7c0 }
/-- java/util/concurrent/TimeUnit -/
def k7 : Class := { plain "java/util/concurrent/TimeUnit" (some 6) with
  accessFlags := 16433
  interfaces := #[]
  cf := some (fileOf pool7 1 #[.nestMembers #[163]] #[{ accessFlags := 1, nameIndex := 88, descriptorIndex := 89, attributes := #[] }] 16433 35 #[] #[{ accessFlags := 16409, nameIndex := 5, descriptorIndex := 6, attributes := #[] }, { accessFlags := 16409, nameIndex := 9, descriptorIndex := 6, attributes := #[] }, { accessFlags := 16409, nameIndex := 12, descriptorIndex := 6, attributes := #[] }, { accessFlags := 16409, nameIndex := 15, descriptorIndex := 6, attributes := #[] }, { accessFlags := 16409, nameIndex := 18, descriptorIndex := 6, attributes := #[] }, { accessFlags := 16409, nameIndex := 21, descriptorIndex := 6, attributes := #[] }, { accessFlags := 16409, nameIndex := 24, descriptorIndex := 6, attributes := #[] }, { accessFlags := 26, nameIndex := 212, descriptorIndex := 47, attributes := #[] }, { accessFlags := 26, nameIndex := 216, descriptorIndex := 47, attributes := #[] }, { accessFlags := 26, nameIndex := 217, descriptorIndex := 47, attributes := #[] }, { accessFlags := 26, nameIndex := 218, descriptorIndex := 47, attributes := #[] }, { accessFlags := 26, nameIndex := 219, descriptorIndex := 47, attributes := #[] }, { accessFlags := 26, nameIndex := 220, descriptorIndex := 47, attributes := #[] }, { accessFlags := 26, nameIndex := 221, descriptorIndex := 47, attributes := #[] }, { accessFlags := 18, nameIndex := 46, descriptorIndex := 47, attributes := #[] }, { accessFlags := 18, nameIndex := 54, descriptorIndex := 47, attributes := #[] }, { accessFlags := 18, nameIndex := 62, descriptorIndex := 47, attributes := #[] }, { accessFlags := 18, nameIndex := 71, descriptorIndex := 47, attributes := #[] }, { accessFlags := 18, nameIndex := 79, descriptorIndex := 47, attributes := #[] }, { accessFlags := 18, nameIndex := 59, descriptorIndex := 47, attributes := #[] }, { accessFlags := 18, nameIndex := 67, descriptorIndex := 68, attributes := #[] }, { accessFlags := 18, nameIndex := 76, descriptorIndex := 68, attributes := #[] }, { accessFlags := 4122, nameIndex := 27, descriptorIndex := 28, attributes := #[] }])
  fields := #[{ name := "NANOSECONDS", type := (.object "java/util/concurrent/TimeUnit"), accessFlags := 16409, slot := 0, constantValue := 0 }, { name := "MICROSECONDS", type := (.object "java/util/concurrent/TimeUnit"), accessFlags := 16409, slot := 1, constantValue := 0 }, { name := "MILLISECONDS", type := (.object "java/util/concurrent/TimeUnit"), accessFlags := 16409, slot := 2, constantValue := 0 }, { name := "SECONDS", type := (.object "java/util/concurrent/TimeUnit"), accessFlags := 16409, slot := 3, constantValue := 0 }, { name := "MINUTES", type := (.object "java/util/concurrent/TimeUnit"), accessFlags := 16409, slot := 4, constantValue := 0 }, { name := "HOURS", type := (.object "java/util/concurrent/TimeUnit"), accessFlags := 16409, slot := 5, constantValue := 0 }, { name := "DAYS", type := (.object "java/util/concurrent/TimeUnit"), accessFlags := 16409, slot := 6, constantValue := 0 }, { name := "NANO_SCALE", type := .long, accessFlags := 26, slot := 7, constantValue := 0 }, { name := "MICRO_SCALE", type := .long, accessFlags := 26, slot := 8, constantValue := 0 }, { name := "MILLI_SCALE", type := .long, accessFlags := 26, slot := 9, constantValue := 0 }, { name := "SECOND_SCALE", type := .long, accessFlags := 26, slot := 10, constantValue := 0 }, { name := "MINUTE_SCALE", type := .long, accessFlags := 26, slot := 11, constantValue := 0 }, { name := "HOUR_SCALE", type := .long, accessFlags := 26, slot := 12, constantValue := 0 }, { name := "DAY_SCALE", type := .long, accessFlags := 26, slot := 13, constantValue := 0 }, { name := "scale", type := .long, accessFlags := 18, slot := 3, constantValue := 0 }, { name := "maxNanos", type := .long, accessFlags := 18, slot := 4, constantValue := 0 }, { name := "maxMicros", type := .long, accessFlags := 18, slot := 5, constantValue := 0 }, { name := "maxMillis", type := .long, accessFlags := 18, slot := 6, constantValue := 0 }, { name := "maxSecs", type := .long, accessFlags := 18, slot := 7, constantValue := 0 }, { name := "microRatio", type := .long, accessFlags := 18, slot := 8, constantValue := 0 }, { name := "milliRatio", type := .int, accessFlags := 18, slot := 9, constantValue := 0 }, { name := "secRatio", type := .int, accessFlags := 18, slot := 10, constantValue := 0 }, { name := "$VALUES", type := (.array (.object "java/util/concurrent/TimeUnit")), accessFlags := 4122, slot := 14, constantValue := 0 }]
  methods := #[k7m0]
  instanceTypes := #[(.object "java/lang/String"), .int, .int, .long, .long, .long, .long, .long, .long, .int, .int]
  staticTypes := #[(.object "java/util/concurrent/TimeUnit"), (.object "java/util/concurrent/TimeUnit"), (.object "java/util/concurrent/TimeUnit"), (.object "java/util/concurrent/TimeUnit"), (.object "java/util/concurrent/TimeUnit"), (.object "java/util/concurrent/TimeUnit"), (.object "java/util/concurrent/TimeUnit"), .long, .long, .long, .long, .long, .long, .long, (.array (.object "java/util/concurrent/TimeUnit"))]
  resolved := Array.replicate 283 none
  statics := some 0 }

def pool8 : Array CpInfo := pool [(2, .class_ 4), (1, u "java/lang/CharSequence"), (42, .class_ 48), (0, u "java/lang/CharSequence$1CodePointIterator"), (10, .class_ 60), (0, u "java/lang/CharSequence$1CharIterator"), (5, .class_ 67), (0, u "java/lang/Object")] 63

/-- java/lang/CharSequence -/
def k8 : Class := { plain "java/lang/CharSequence" (some 0) with
  accessFlags := 1537
  interfaces := #[]
  cf := some (fileOf pool8 2 #[.nestMembers #[47, 59]] #[] 1537 66 #[] #[])
  fields := #[]
  methods := #[]
  instanceTypes := #[]
  staticTypes := #[]
  resolved := Array.replicate 131 none
  statics := none }

def pool9 : Array CpInfo := pool [(1, .class_ 2), (0, u "java/lang/constant/ConstantDesc"), (0, .class_ 4), (0, u "java/lang/Object")] 32

/-- java/lang/constant/ConstantDesc -/
def k9 : Class := { plain "java/lang/constant/ConstantDesc" (some 0) with
  accessFlags := 1537
  interfaces := #[]
  cf := some (fileOf pool9 1 #[] #[] 1537 3 #[] #[])
  fields := #[]
  methods := #[]
  instanceTypes := #[]
  staticTypes := #[]
  resolved := Array.replicate 37 none
  statics := none }

def pool10 : Array CpInfo := pool [(2, .class_ 4), (1, u "java/lang/Object"), (0, u "<init>"), (0, u "()V"), (3, .class_ 12), (1, u "java/lang/String"), (0, u "value"), (0, u "[B"), (2, u "coder"), (0, u "B"), (2, u "hash"), (0, u "I"), (2, u "hashIsZero"), (0, u "Z"), (13, u "COMPACT_STRINGS"), (534, .class_ 576), (0, u "java/lang/CharSequence"), (22, u "CASE_INSENSITIVE_ORDER"), (0, u "Ljava/util/Comparator;"), (500, u "serialPersistentFields"), (0, u "[Ljava/io/ObjectStreamField;"), (0, .class_ 1104), (0, u "java/lang/String$CaseInsensitiveComparator"), (1, .class_ 1107), (0, u "java/io/Serializable"), (0, .class_ 1109), (0, u "java/lang/Comparable"), (0, .class_ 1111), (0, u "java/lang/constant/Constable"), (0, .class_ 1113), (0, u "java/lang/constant/ConstantDesc"), (2, u "serialVersionUID"), (0, u "J"), (3, u "REPL"), (0, u "C"), (2, u "LATIN1"), (1, u "UTF16")] 323

def k10m0 : Method := { name := "<init>", desc := "()V", sig := { parameters := [], returnType := none }, accessFlags := 1, code := none }
/-- java/lang/String -/
def k10 : Class := { plain "java/lang/String" (some 0) with
  accessFlags := 49
  interfaces := #[5, 4, 8, 3, 9]
  cf := some (fileOf pool10 10 #[.nestMembers #[1103]] #[{ accessFlags := 1, nameIndex := 5, descriptorIndex := 6, attributes := #[] }] 49 2 #[1106, 1108, 575, 1110, 1112] #[{ accessFlags := 18, nameIndex := 13, descriptorIndex := 14, attributes := #[] }, { accessFlags := 18, nameIndex := 17, descriptorIndex := 18, attributes := #[] }, { accessFlags := 2, nameIndex := 21, descriptorIndex := 22, attributes := #[] }, { accessFlags := 2, nameIndex := 25, descriptorIndex := 26, attributes := #[] }, { accessFlags := 26, nameIndex := 1116, descriptorIndex := 1117, attributes := #[] }, { accessFlags := 24, nameIndex := 40, descriptorIndex := 26, attributes := #[] }, { accessFlags := 26, nameIndex := 1101, descriptorIndex := 1102, attributes := #[] }, { accessFlags := 26, nameIndex := 1121, descriptorIndex := 1122, attributes := #[] }, { accessFlags := 25, nameIndex := 599, descriptorIndex := 600, attributes := #[] }, { accessFlags := 24, nameIndex := 1125, descriptorIndex := 18, attributes := #[] }, { accessFlags := 24, nameIndex := 1127, descriptorIndex := 18, attributes := #[] }])
  fields := #[{ name := "value", type := (.array .byte), accessFlags := 18, slot := 0, constantValue := 0 }, { name := "coder", type := .byte, accessFlags := 18, slot := 1, constantValue := 0 }, { name := "hash", type := .int, accessFlags := 2, slot := 2, constantValue := 0 }, { name := "hashIsZero", type := .boolean, accessFlags := 2, slot := 3, constantValue := 0 }, { name := "serialVersionUID", type := .long, accessFlags := 26, slot := 0, constantValue := 0 }, { name := "COMPACT_STRINGS", type := .boolean, accessFlags := 24, slot := 1, constantValue := 0 }, { name := "serialPersistentFields", type := (.array (.object "java/io/ObjectStreamField")), accessFlags := 26, slot := 2, constantValue := 0 }, { name := "REPL", type := .char, accessFlags := 26, slot := 3, constantValue := 0 }, { name := "CASE_INSENSITIVE_ORDER", type := (.object "java/util/Comparator"), accessFlags := 25, slot := 4, constantValue := 0 }, { name := "LATIN1", type := .byte, accessFlags := 24, slot := 5, constantValue := 0 }, { name := "UTF16", type := .byte, accessFlags := 24, slot := 6, constantValue := 0 }]
  methods := #[k10m0]
  instanceTypes := #[(.array .byte), .byte, .int, .boolean]
  staticTypes := #[.long, .boolean, (.array (.object "java/io/ObjectStreamField")), .char, (.object "java/util/Comparator"), .byte, .byte]
  resolved := Array.replicate 1451 none
  statics := none }

def pool11 : Array CpInfo := pool [(1, u "java/lang/Cloneable"), (0, .class_ 1), (0, u "java/lang/Object"), (0, .class_ 3)] 3

/-- java/lang/Cloneable -/
def k11 : Class := { plain "java/lang/Cloneable" (some 0) with
  accessFlags := 1537
  interfaces := #[]
  cf := some (fileOf pool11 2 #[] #[] 1537 4 #[] #[])
  fields := #[]
  methods := #[]
  instanceTypes := #[]
  staticTypes := #[]
  resolved := Array.replicate 8 none
  statics := none }

/-- the primitive byte -/
def k12 : Class := { plain "byte" none with kind := .primitive 'B', accessFlags := 0x411 }
/-- [B -/
def k13 : Class := { plain "[B" (some 0) with kind := .array 12 .byte, interfaces := #[11, 5], accessFlags := 1041 }

/-- the primitive int -/
def k14 : Class := { plain "int" none with kind := .primitive 'I', accessFlags := 0x411 }
/-- [I -/
def k15 : Class := { plain "[I" (some 0) with kind := .array 14 .int, interfaces := #[11, 5], accessFlags := 1041 }

def heap : Heap := #[{ cls := 7, slots := #[.null, .null, .null, .ref 1, .null, .null, .null, .long 0, .long 0, .long 0, .long 0, .long 0, .long 0, .long 0, .null], vm := .statics 7 },
  { cls := 7, slots := #[.ref 2, .int 3, .int 0, .long 1000000000, .long 9223372036, .long 9223372036854, .long 9223372036854775, .long 9223372036854775807, .long 1000000, .int 1000, .int 1], vm := .none },
  { cls := 10, slots := #[.null, .int 0, .int 0, .int 0], vm := .none }]
def classes : Array Class := #[k0, k1, k2, k3, k4, k5, k6, k7, k8, k9, k10, k11, k12, k13, k14, k15]
def interned : List (Array UInt16 × Addr) := []
def slotsUsed : Nat := 30
def theMethod : MethodId := ⟨1, 1⟩
def args0 : Array Value := #[.int 7, .int 5]
def aboutOver (below : List Frame) : State where
  vm := { classes := classes, interned := interned.toArray }
  heap := heap
  slotsUsed := slotsUsed
  threads := #[{ frames := .invoking theMethod args0 :: below }]
def below0 : List Frame := [.native { method := ⟨0, 0⟩, args := #[] }]
def about1 : State := aboutOver below0
def p0 : Program := .bare "" "" ""
def e0 : Env := launch0.env 0 0 0
theorem w_frames : about1.frames = Frame.invoking theMethod args0 :: below0 := rfl
set_option maxRecDepth 65536 in
theorem w_args : argsFit about1.vm theMethod args0 = true := by decide +kernel
set_option maxRecDepth 65536 in
theorem w_heap : heapFits about1 = true := by decide +kernel
set_option maxRecDepth 65536 in
theorem w_runnable : about1.curStatus? = some .runnable := by decide +kernel
set_option maxRecDepth 65536 in
theorem w_alone : about1.alone = true := by decide +kernel
set_option maxRecDepth 65536 in
theorem w_named : about1.methodNamed? x = some theMethod := by decide +kernel
set_option maxRecDepth 65536 in
theorem w_hears : about1.hears theMethod below0 = true := by decide +kernel
set_option maxRecDepth 65536 in
theorem w_ripe : about1.ripe theMethod args0 below0 = true := by decide +kernel
theorem w_running : about1.status = .running := rfl
set_option maxRecDepth 65536 in
theorem w_room : about1.hasRoom e0.platform room_1 = true :=
  launch0.hasRoom_least _ room_1 (by decide +kernel) (by decide +kernel) (by decide +kernel) (by decide +kernel) (by decide +kernel) (by decide +kernel)
theorem allAtoms_all (ts : List Jvm.Cond) (a : Array Jvm.Value) (st : Jvm.State) : (allAtoms ts).before a st = ts.all (fun c => c.before a st) := by
  induction ts with
  | nil => rfl
  | cons c t ih =>
    show (Jvm.Cond.and c (allAtoms t)).before a st = _
    rw [Jvm.Cond.before_and, ih, List.all_cons]
def words1 : List Jvm.Cond := Jvm.Cond.code x code maxLocals ret :: tables_1
/-- a 'code' word, met by the world's own term for the bytes: nothing is compared byte by byte -/
theorem code_word {y : MethodName} {bytes : ByteArray} {mx : Nat} {rt : Option FieldType} {a : Array Value} {s : State} {m : MethodId} {meth : Method} {c : Code} (h1 : s.methodNamed? y = some m) (h2 : s.vm.method? m = some meth) (h3 : meth.code = some c) (h4 : c.code = bytes)
    (h5 : (c.maxLocals == mx && c.exceptionTable.isEmpty && decide (c.maxStack ≤ mostOperands) && decide (meth.sig.returnType = rt) && !meth.locks && decide (parseMethodDescriptor y.desc = some meth.sig)) = true) : (Jvm.Cond.code y bytes mx rt).before a s = true := by
  simp only [Bool.and_eq_true, beq_iff_eq, Bool.not_eq_true', decide_eq_true_eq] at h5
  obtain ⟨⟨⟨⟨⟨g1, g2⟩, g3⟩, g4⟩, g5⟩, g6⟩ := h5
  simp [Cond.before, Cond.holds, Cond.value, h1, h2, h3, h4, g1, g2, g3, g4, g5, g6]
def isCode : Jvm.Cond → Bool
  | .code _ _ _ _ => true
  | _ => false
theorem all_split {L : List Jvm.Cond} {P : Jvm.Cond → Bool} (h1 : L.all (fun c => isCode c || P c) = true) (h2 : ∀ c ∈ L.filter isCode, P c = true) : L.all P = true := by
  refine List.all_eq_true.mpr fun c hc => ?_
  have h := List.all_eq_true.mp h1 c hc
  rcases Bool.eq_false_or_eq_true (isCode c) with hi | hi
  · exact h2 c (List.mem_filter.mpr ⟨hc, hi⟩)
  · simpa [hi] using h
set_option maxRecDepth 65536 in
theorem w_c0 : (Jvm.Cond.code x code maxLocals ret).before args0 about1 = true := code_word (m := ⟨1, 1⟩) (meth := k1m1) (c := k1c1) (by decide +kernel) rfl rfl rfl (by decide +kernel)
set_option maxRecDepth 65536 in
theorem w_c1 : (Jvm.Cond.code ({ cls := "com/example/portable_transactions/portabletransactions/transaction/BoundUnit", name := "roundedUpToSeconds", desc := "(J)I" } : Jvm.MethodName) prog_34_method_13_code (4 : Nat) (Option.some Jvm.ClassFile.FieldType.int)).before args0 about1 = true := code_word (m := ⟨2, 0⟩) (meth := k2m0) (c := k2c0) (by decide +kernel) rfl rfl rfl (by decide +kernel)
set_option maxRecDepth 65536 in
theorem w_c2 : (Jvm.Cond.code ({ cls := "java/util/concurrent/TimeUnit", name := "toNanos", desc := "(J)J" } : Jvm.MethodName) jdk_2799_method_7_code (7 : Nat) (Option.some Jvm.ClassFile.FieldType.long)).before args0 about1 = true := code_word (m := ⟨7, 0⟩) (meth := k7m0) (c := k7c0) (by decide +kernel) rfl rfl rfl (by decide +kernel)
def codes1 : List Jvm.Cond := [Jvm.Cond.code x code maxLocals ret, Jvm.Cond.code ({ cls := "com/example/portable_transactions/portabletransactions/transaction/BoundUnit", name := "roundedUpToSeconds", desc := "(J)I" } : Jvm.MethodName) prog_34_method_13_code (4 : Nat) (Option.some Jvm.ClassFile.FieldType.int), Jvm.Cond.code ({ cls := "java/util/concurrent/TimeUnit", name := "toNanos", desc := "(J)J" } : Jvm.MethodName) jdk_2799_method_7_code (7 : Nat) (Option.some Jvm.ClassFile.FieldType.long)]
set_option maxRecDepth 65536 in
theorem codes_eq : words1.filter isCode = codes1 := rfl
theorem w_codes : ∀ c ∈ words1.filter isCode, c.before args0 about1 = true := by
  rw [codes_eq]
  intro c hc
  simp only [codes1, List.mem_cons, List.not_mem_nil, or_false] at hc
  rcases hc with rfl | rfl | rfl
  · exact w_c0
  · exact w_c1
  · exact w_c2
set_option maxRecDepth 65536 in
theorem w_t1 : words1.all (fun c => isCode c || c.before args0 about1) = true := by decide +kernel
theorem w_tables : (allAtoms (Jvm.Cond.code x code maxLocals ret :: tables_1)).before args0 about1 = true := by
  rw [allAtoms_all]
  show words1.all (fun c => c.before args0 about1) = true
  refine all_split ?_ w_codes
  rw [w_t1]
set_option maxRecDepth 65536 in
theorem w_rest : rest_1_c.before args0 about1 = true := by decide +kernel
set_option maxRecDepth 65536 in
theorem w_case : (Jvm.Cond.and given_1 narrow_1).before args0 about1 = true := by decide +kernel
theorem w_applies : (headSpec (Jvm.Cond.code x code maxLocals ret :: tables_1) room_1).applies x e0.platform about1 = true :=
  (Spec.applies_iff w_frames).mpr ⟨w_running, w_runnable, w_alone, w_named, w_hears, w_ripe, w_room, w_tables⟩
theorem atStart : AtStart classFile x code maxLocals ret World_1 tables_1 room_1 Calls_1 rest_1 Pre_1 launch0 p0 e0 about1 theMethod args0 below0 :=
  ⟨lists_1, trivial, launch0.admits_env _ _ _, launch0.least_env, fairChoices_fair.cas, fairChoices_fair.clock, w_frames, w_args, w_heap, w_applies, trivial, w_rest, w_case⟩
end start1
theorem witness_1 : WitnessClaimed_1 := ⟨start1.p0, start1.e0, start1.about1, start1.theMethod, start1.args0, start1.below0, start1.atStart⟩
end Jvm.Pilot.@@N@@
