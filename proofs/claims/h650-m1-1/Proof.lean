import JvmDerived
import JvmDerived.Pilot.@@N@@Statement
import JvmDerived.Pilot.@@N@@Code
set_option linter.unusedVariables false
set_option linter.unusedSimpArgs false
namespace Jvm.RoadKit
open Sem ClassFile Op Lib Jvm.Stand Jvm.Free Jvm.LawKit
section New
variable {p : Program} {l : Launch} {e : Env} {R : Room} {s : State} {m : MethodId} {args : Array Value} {below : List Frame} {meth : Method} {c : Code} {T : State} {locs : List Loc} {cells slots : Nat}
theorem retI (X : Stand p l e R s m args below meth c T locs cells slots) (hx : p.tables.exec = Jvm.exec) {pc : Nat} {Ls : Array Slot} {z : Int32} {rest : List Value} (hret : meth.sig.returnType = some .int) (hd : decode c.code pc = .ok (.ireturn, 1)) {fs : List Frame}
    (hl : ∀ (f : JFrame) (acts : List Action), f.method = m → f.locked = none → f.entered = [] → (doReturn e (T.setTop f) acts (some (.int z))).1 = T.setFrames fs) : Steps p.tables e below (T.setTop (mkF m pc Ls (.int z :: rest))) (T.setFrames fs) := by
  have hm' : T.vm.method? m = some meth := X.method'
  have hn : narrow .int (.int z) = .int z := rfl
  show Steps p.tables e below (T.setTop { method := m, pc := pc, locals := Ls, stack := _ :: rest, locked := none }) _
  jvm_step X.here [X.here.top, hx, hd, hm', hret, hn]
  first | (intro acts; rw [hl _ acts rfl rfl rfl]) | rw [hl _ _ rfl rfl rfl]
  exact Steps.refl _
end New
end Jvm.RoadKit
namespace Jvm.Pilot.@@N@@
open Jvm Jvm.ClassFile Sem Op Lib Jvm.Free Jvm.Stand Jvm.LawKit Jvm.RoadKit Bundle Jvm.Pilot.@@N@@.Jvm.D
/-- a body's contract: from these arguments and this heap it returns, and Q says what it leaves -/
abbrev OwCon (l : Launch) (y : MethodName) (bytes : ByteArray) (ml : Nat) (ret : Option FieldType) (ws : List Jvm.Cond) (rm : Room) (as : Array Value) (Z : State) (h0 : Heap) (Q : Option Value → Heap → List Loc → Prop) : Prop :=
  MetFree l y (head1 (Jvm.Cond.code y bytes ml ret :: ws) rm) (fun a U => a = as ∧ Z.Warmed39 U.vm ∧ U.heap = h0) (fun _ _ _ _ _ => True) (fun _ U o U' => ∃ v L, o = .returned v ∧ Q v U'.heap L ∧ FrameEnd U o U' L rm.cells rm.slots)
/-- .. it may load literals that nobody loaded before -/
abbrev OwConW (l : Launch) (y : MethodName) (bytes : ByteArray) (ml : Nat) (ret : Option FieldType) (ws : List Jvm.Cond) (rm : Room) (as : Array Value) (Z : State) (h0 : Heap) (Q : Option Value → Heap → List Loc → Prop) : Prop :=
  MetFree l y (head1 (Jvm.Cond.code y bytes ml ret :: ws) rm) (fun a U => a = as ∧ Z.Warmed39 U.vm ∧ U.heap = h0) (fun _ _ _ _ _ => True) (fun _ U o U' => ∃ v L, o = .returned v ∧ Q v U'.heap L ∧ ReturnedEndW U o U' L rm.cells rm.slots)
/-- it returns val and leaves the heap as it was -/
def OwQ (val : Option Value) (h0 : Heap) (n0 : Nat) (v : Option Value) (h : Heap) (L : List Loc) : Prop := v = val ∧ Fr n0 L ∧ h = h0
/-- it writes nothing old, and P holds of what it returns and leaves -/
def OwP (P : Option Value → Heap → Prop) (n0 : Nat) (v : Option Value) (h : Heap) (L : List Loc) : Prop := Fr n0 L ∧ P v h
theorem own_eqI {args : Array Value} {s : State} {t : Term} {k : Int32} (h : (Jvm.Cond.eq t (.int k)).value args s none s [] = some true) : t.eval args s none [] s = some (.int k) := by
  obtain ⟨x, y, h1, h2, -, q⟩ := cmp_v (Or.inl h)
  cases h2
  obtain ⟨z, rfl⟩ := q
  rw [h1]; simp [Cond.value, h1, Term.eval] at h; rw [h]
theorem own_eqJ {args : Array Value} {s : State} {t : Term} {k : Int64} (h : (Jvm.Cond.eq t (.long k)).value args s none s [] = some true) : t.eval args s none [] s = some (.long k) := by
  obtain ⟨x, y, h1, h2, -, q⟩ := cmp_v (Or.inl h)
  cases h2
  obtain ⟨z, rfl⟩ := q
  rw [h1]; simp [Cond.value, h1, Term.eval] at h; rw [h]
theorem own_eqR {args : Array Value} {s : State} {t t' : Term} {a : Addr} (h : (Jvm.Cond.eq t t').value args s none s [] = some true) (e : t'.eval args s none [] s = some (.ref a)) : t.eval args s none [] s = some (.ref a) := by
  obtain ⟨x, y, h1, h2, q, -⟩ := cmp_v (Or.inl h)
  cases e.symm.trans h2
  cases x with
  | null => simp [Cond.value, h1, h2] at h
  | ref b => simp [Cond.value, h1, h2] at h; rw [h1, h]
  | _ => simp [Kin, Value.isRef] at q
theorem own_cat {v : Value} (h : v.isRef = true) : v.category = 1 := by rcases ref_cases h with rfl | ⟨a, rfl⟩ <;> rfl
theorem own_len {args : Array Value} {s : State} {t : Term} {a : Addr} {cl : Cell} {ty : FieldType} {n : Int32} (e : t.eval args s none [] s = some (.ref a)) (A : Arr s s.heap a cl ty) (h : (Term.length t).eval args s none [] s = some (.int n)) : cl.slots.size < 2 ^ 31 ∧ cl.slots.size.toInt32 = n := by
  have q := Arr.fin (Vm.Alike.refl _) A
  simpa [Term.eval, e, q] using h
theorem own_el {args : Array Value} {s : State} {t : Term} {a : Addr} {cl : Cell} {ty : FieldType} {j : Int32} {v : Value} (e : t.eval args s none [] s = some (.ref a)) (A : Arr s s.heap a cl ty) (h : (Term.elem t (.int j)).eval args s none [] s = some v) : cl.slots[j.toNatClampNeg]? = some v := (elem_in h e rfl A.1).2
theorem own_fld {args : Array Value} {s : State} {t : Term} {a : Addr} {C n d : String} {v : Value} (e : t.eval args s none [] s = some (.ref a)) (h : (Term.field t C n d).eval args s none [] s = some v) : Fld s s.heap a C n d v := Fld.start ((fld_at e).symm.trans h)
theorem own_i9 (x : Int32) : (x &&& (2147483647 : Int32)) % (9 : Int32) = 0 ∨ (x &&& (2147483647 : Int32)) % (9 : Int32) = 1 ∨ (x &&& (2147483647 : Int32)) % (9 : Int32) = 2 ∨ (x &&& (2147483647 : Int32)) % (9 : Int32) = 3 ∨ (x &&& (2147483647 : Int32)) % (9 : Int32) = 4 ∨ (x &&& (2147483647 : Int32)) % (9 : Int32) = 5 ∨ (x &&& (2147483647 : Int32)) % (9 : Int32) = 6 ∨ (x &&& (2147483647 : Int32)) % (9 : Int32) = 7 ∨ (x &&& (2147483647 : Int32)) % (9 : Int32) = 8 := by
  have h1 := c_mask x (2147483647 : Int32) 31 (by decide) (by decide)
  have h2 := (c_irem (x &&& (2147483647 : Int32)) (9 : Int32) 9 (by decide)).1 (by omega)
  generalize (x &&& (2147483647 : Int32)) % (9 : Int32) = y at h2 ⊢
  simp only [← Int32.toInt_inj]
  show y.toInt = 0 ∨ y.toInt = 1 ∨ y.toInt = 2 ∨ y.toInt = 3 ∨ y.toInt = 4 ∨ y.toInt = 5 ∨ y.toInt = 6 ∨ y.toInt = 7 ∨ y.toInt = 8
  omega

theorem d1_0 : decode method_3_code 0 = .ok (.iload_n 0, 1) := by decide +kernel
theorem d1_1 : decode method_3_code 1 = .ok (.ifCond .ne 7, 3) := by decide +kernel
theorem d1_4 : decode method_3_code 4 = .ok (.getstatic 33, 3) := by decide +kernel
theorem d1_7 : decode method_3_code 7 = .ok (.areturn, 1) := by decide +kernel
theorem d1_8 : decode method_3_code 8 = .ok (.iload_n 0, 1) := by decide +kernel
theorem d1_9 : decode method_3_code 9 = .ok (.iconst 1, 1) := by decide +kernel
theorem d1_10 : decode method_3_code 10 = .ok (.if_icmp .ne 7, 3) := by decide +kernel
theorem d1_13 : decode method_3_code 13 = .ok (.getstatic 37, 3) := by decide +kernel
theorem d1_16 : decode method_3_code 16 = .ok (.areturn, 1) := by decide +kernel
theorem d1_17 : decode method_3_code 17 = .ok (.iload_n 0, 1) := by decide +kernel
theorem d1_18 : decode method_3_code 18 = .ok (.iconst 2, 1) := by decide +kernel
theorem d1_19 : decode method_3_code 19 = .ok (.if_icmp .ne 7, 3) := by decide +kernel
theorem d1_22 : decode method_3_code 22 = .ok (.getstatic 40, 3) := by decide +kernel
theorem d1_25 : decode method_3_code 25 = .ok (.areturn, 1) := by decide +kernel
theorem d1_26 : decode method_3_code 26 = .ok (.iload_n 0, 1) := by decide +kernel
theorem d1_27 : decode method_3_code 27 = .ok (.iconst 3, 1) := by decide +kernel
theorem d1_28 : decode method_3_code 28 = .ok (.if_icmp .ne 7, 3) := by decide +kernel
theorem d1_31 : decode method_3_code 31 = .ok (.getstatic 43, 3) := by decide +kernel
theorem d1_34 : decode method_3_code 34 = .ok (.areturn, 1) := by decide +kernel
theorem d1_35 : decode method_3_code 35 = .ok (.iload_n 0, 1) := by decide +kernel
theorem d1_36 : decode method_3_code 36 = .ok (.iconst 4, 1) := by decide +kernel
theorem d1_37 : decode method_3_code 37 = .ok (.if_icmp .ne 7, 3) := by decide +kernel
theorem d1_40 : decode method_3_code 40 = .ok (.getstatic 46, 3) := by decide +kernel
theorem d1_43 : decode method_3_code 43 = .ok (.areturn, 1) := by decide +kernel
theorem d1_44 : decode method_3_code 44 = .ok (.iload_n 0, 1) := by decide +kernel
theorem d1_45 : decode method_3_code 45 = .ok (.iconst 5, 1) := by decide +kernel
theorem d1_46 : decode method_3_code 46 = .ok (.if_icmp .ne 7, 3) := by decide +kernel
theorem d1_49 : decode method_3_code 49 = .ok (.getstatic 49, 3) := by decide +kernel
theorem d1_52 : decode method_3_code 52 = .ok (.areturn, 1) := by decide +kernel
theorem d1_53 : decode method_3_code 53 = .ok (.iload_n 0, 1) := by decide +kernel
theorem d1_54 : decode method_3_code 54 = .ok (.bipush 6, 2) := by decide +kernel
theorem d1_56 : decode method_3_code 56 = .ok (.if_icmp .ne 7, 3) := by decide +kernel
theorem d1_59 : decode method_3_code 59 = .ok (.getstatic 52, 3) := by decide +kernel
theorem d1_62 : decode method_3_code 62 = .ok (.areturn, 1) := by decide +kernel
theorem d1_63 : decode method_3_code 63 = .ok (.iload_n 0, 1) := by decide +kernel
theorem d1_64 : decode method_3_code 64 = .ok (.bipush 7, 2) := by decide +kernel
theorem d1_66 : decode method_3_code 66 = .ok (.if_icmp .ne 7, 3) := by decide +kernel
theorem d1_69 : decode method_3_code 69 = .ok (.getstatic 55, 3) := by decide +kernel
theorem d1_72 : decode method_3_code 72 = .ok (.areturn, 1) := by decide +kernel
theorem d1_73 : decode method_3_code 73 = .ok (.getstatic 58, 3) := by decide +kernel
theorem d1_76 : decode method_3_code 76 = .ok (.areturn, 1) := by decide +kernel
theorem owpn1 : plainName "com/example/aizu/aizu/channels/ShapeReadsPinLaw" = true := by first | (simp [plainName, overriddenIn]; done) | decide +kernel
theorem d2_0 : decode prog_6_method_7_code 0 = .ok (.aload_n 0, 1) := by decide +kernel
theorem d2_1 : decode prog_6_method_7_code 1 = .ok (.getfield 53, 3) := by decide +kernel
theorem d2_4 : decode prog_6_method_7_code 4 = .ok (.getstatic 96, 3) := by decide +kernel
theorem d2_7 : decode prog_6_method_7_code 7 = .ok (.if_acmp .eq 7, 3) := by decide +kernel
theorem d2_10 : decode prog_6_method_7_code 10 = .ok (.iconst 1, 1) := by decide +kernel
theorem d2_11 : decode prog_6_method_7_code 11 = .ok (.goto 4, 3) := by decide +kernel
theorem d2_14 : decode prog_6_method_7_code 14 = .ok (.iconst 0, 1) := by decide +kernel
theorem d2_15 : decode prog_6_method_7_code 15 = .ok (.ireturn, 1) := by decide +kernel
theorem owpn2 : plainName "com/example/aizu/aizu/channels/ChannelMethod$Shape" = true := by first | (simp [plainName, overriddenIn]; done) | decide +kernel
theorem d3_0 : decode prog_6_method_4_code 0 = .ok (.aload_n 0, 1) := by decide +kernel
theorem d3_1 : decode prog_6_method_4_code 1 = .ok (.getfield 53, 3) := by decide +kernel
theorem d3_4 : decode prog_6_method_4_code 4 = .ok (.areturn, 1) := by decide +kernel
theorem owpn3 : plainName "com/example/aizu/aizu/channels/ChannelMethod$Shape" = true := by first | (simp [plainName, overriddenIn]; done) | decide +kernel
theorem d4_0 : decode prog_6_method_8_code 0 = .ok (.aload_n 0, 1) := by decide +kernel
theorem d4_1 : decode prog_6_method_8_code 1 = .ok (.getfield 61, 3) := by decide +kernel
theorem d4_4 : decode prog_6_method_8_code 4 = .ok (.getstatic 96, 3) := by decide +kernel
theorem d4_7 : decode prog_6_method_8_code 7 = .ok (.if_acmp .eq 7, 3) := by decide +kernel
theorem d4_10 : decode prog_6_method_8_code 10 = .ok (.iconst 1, 1) := by decide +kernel
theorem d4_11 : decode prog_6_method_8_code 11 = .ok (.goto 4, 3) := by decide +kernel
theorem d4_14 : decode prog_6_method_8_code 14 = .ok (.iconst 0, 1) := by decide +kernel
theorem d4_15 : decode prog_6_method_8_code 15 = .ok (.ireturn, 1) := by decide +kernel
theorem owpn4 : plainName "com/example/aizu/aizu/channels/ChannelMethod$Shape" = true := by first | (simp [plainName, overriddenIn]; done) | decide +kernel
theorem owpn0 : plainName "com/example/aizu/aizu/channels/ShapeReadsPinLaw" = true := by first | (simp [plainName, overriddenIn]; done) | decide +kernel
theorem owpd0 : parseMethodDescriptor "(I)Lcom/example/aizu/aizu/channels/ChannelMethod$Shape;" = some ⟨[.int], some (.object "com/example/aizu/aizu/channels/ChannelMethod$Shape")⟩ := by decide +kernel
theorem owpd1 : parseMethodDescriptor "()Z" = some ⟨[], some .boolean⟩ := by decide +kernel
theorem owpd2 : parseMethodDescriptor "()Lcom/example/aizu/aizu/channels/ChannelMethod$Kind;" = some ⟨[], some (.object "com/example/aizu/aizu/channels/ChannelMethod$Kind")⟩ := by decide +kernel
def OwW (Z : State) (w_PRODUCER : Addr) (w_NOTHING : Addr) (w_PAYLOAD : Addr) (w_PROCESSOR : Addr) (w_MESSAGE_STREAM : Addr) (w_MESSAGE : Addr) (w_PAYLOAD_STREAM : Addr) (w_CONSUMER : Addr) (w_ASYNC_PROCESSOR : Addr) (w_MESSAGE_CONSUMER : Addr) (w_ASYNC_MESSAGE_PROCESSOR : Addr) (w_MESSAGE_PROCESSOR : Addr) : Prop := (Exa Z Z.heap w_PRODUCER "com/example/aizu/aizu/channels/ChannelMethod$Shape") ∧ (Exa Z Z.heap w_NOTHING "com/example/aizu/aizu/channels/ChannelMethod$Kind") ∧ (Exa Z Z.heap w_PAYLOAD "com/example/aizu/aizu/channels/ChannelMethod$Kind") ∧ (Exa Z Z.heap w_PROCESSOR "com/example/aizu/aizu/channels/ChannelMethod$Shape") ∧ (Exa Z Z.heap w_MESSAGE_STREAM "com/example/aizu/aizu/channels/ChannelMethod$Shape") ∧ (Exa Z Z.heap w_MESSAGE "com/example/aizu/aizu/channels/ChannelMethod$Kind") ∧ (Exa Z Z.heap w_PAYLOAD_STREAM "com/example/aizu/aizu/channels/ChannelMethod$Shape") ∧ (Exa Z Z.heap w_CONSUMER "com/example/aizu/aizu/channels/ChannelMethod$Shape") ∧ (Exa Z Z.heap w_ASYNC_PROCESSOR "com/example/aizu/aizu/channels/ChannelMethod$Shape") ∧ (Exa Z Z.heap w_MESSAGE_CONSUMER "com/example/aizu/aizu/channels/ChannelMethod$Shape") ∧ (Exa Z Z.heap w_ASYNC_MESSAGE_PROCESSOR "com/example/aizu/aizu/channels/ChannelMethod$Shape") ∧ (Exa Z Z.heap w_MESSAGE_PROCESSOR "com/example/aizu/aizu/channels/ChannelMethod$Shape") ∧ (Sta Z Z.heap "com/example/aizu/aizu/channels/ChannelMethod$Shape" "PRODUCER" "Lcom/example/aizu/aizu/channels/ChannelMethod$Shape;" (.ref w_PRODUCER)) ∧ (Sta Z Z.heap "com/example/aizu/aizu/channels/ChannelMethod$Kind" "NOTHING" "Lcom/example/aizu/aizu/channels/ChannelMethod$Kind;" (.ref w_NOTHING)) ∧ (Fld Z Z.heap w_PRODUCER "com/example/aizu/aizu/channels/ChannelMethod$Shape" "takes" "Lcom/example/aizu/aizu/channels/ChannelMethod$Kind;" (.ref w_NOTHING)) ∧ (Sta Z Z.heap "com/example/aizu/aizu/channels/ChannelMethod$Kind" "PAYLOAD" "Lcom/example/aizu/aizu/channels/ChannelMethod$Kind;" (.ref w_PAYLOAD)) ∧ (Fld Z Z.heap w_PRODUCER "com/example/aizu/aizu/channels/ChannelMethod$Shape" "gives" "Lcom/example/aizu/aizu/channels/ChannelMethod$Kind;" (.ref w_PAYLOAD)) ∧ (Fld Z Z.heap w_PAYLOAD "java/lang/Enum" "ordinal" "I" (.int (1 : Int32))) ∧ (Fld Z Z.heap w_NOTHING "java/lang/Enum" "ordinal" "I" (.int (0 : Int32))) ∧ (Sta Z Z.heap "com/example/aizu/aizu/channels/ChannelMethod$Shape" "PROCESSOR" "Lcom/example/aizu/aizu/channels/ChannelMethod$Shape;" (.ref w_PROCESSOR)) ∧ (Fld Z Z.heap w_PROCESSOR "com/example/aizu/aizu/channels/ChannelMethod$Shape" "takes" "Lcom/example/aizu/aizu/channels/ChannelMethod$Kind;" (.ref w_PAYLOAD)) ∧ (Sta Z Z.heap "com/example/aizu/aizu/channels/ChannelMethod$Shape" "MESSAGE_STREAM" "Lcom/example/aizu/aizu/channels/ChannelMethod$Shape;" (.ref w_MESSAGE_STREAM)) ∧ (Fld Z Z.heap w_MESSAGE_STREAM "com/example/aizu/aizu/channels/ChannelMethod$Shape" "takes" "Lcom/example/aizu/aizu/channels/ChannelMethod$Kind;" (.ref w_NOTHING)) ∧ (Sta Z Z.heap "com/example/aizu/aizu/channels/ChannelMethod$Kind" "MESSAGE" "Lcom/example/aizu/aizu/channels/ChannelMethod$Kind;" (.ref w_MESSAGE)) ∧ (Fld Z Z.heap w_MESSAGE_STREAM "com/example/aizu/aizu/channels/ChannelMethod$Shape" "gives" "Lcom/example/aizu/aizu/channels/ChannelMethod$Kind;" (.ref w_MESSAGE)) ∧ (Fld Z Z.heap w_MESSAGE "java/lang/Enum" "ordinal" "I" (.int (2 : Int32))) ∧ (Sta Z Z.heap "com/example/aizu/aizu/channels/ChannelMethod$Shape" "PAYLOAD_STREAM" "Lcom/example/aizu/aizu/channels/ChannelMethod$Shape;" (.ref w_PAYLOAD_STREAM)) ∧ (Fld Z Z.heap w_PAYLOAD_STREAM "com/example/aizu/aizu/channels/ChannelMethod$Shape" "takes" "Lcom/example/aizu/aizu/channels/ChannelMethod$Kind;" (.ref w_NOTHING)) ∧ (Fld Z Z.heap w_PAYLOAD_STREAM "com/example/aizu/aizu/channels/ChannelMethod$Shape" "gives" "Lcom/example/aizu/aizu/channels/ChannelMethod$Kind;" (.ref w_PAYLOAD)) ∧ (Sta Z Z.heap "com/example/aizu/aizu/channels/ChannelMethod$Shape" "CONSUMER" "Lcom/example/aizu/aizu/channels/ChannelMethod$Shape;" (.ref w_CONSUMER)) ∧ (Fld Z Z.heap w_CONSUMER "com/example/aizu/aizu/channels/ChannelMethod$Shape" "takes" "Lcom/example/aizu/aizu/channels/ChannelMethod$Kind;" (.ref w_PAYLOAD)) ∧ (Sta Z Z.heap "com/example/aizu/aizu/channels/ChannelMethod$Shape" "ASYNC_PROCESSOR" "Lcom/example/aizu/aizu/channels/ChannelMethod$Shape;" (.ref w_ASYNC_PROCESSOR)) ∧ (Fld Z Z.heap w_ASYNC_PROCESSOR "com/example/aizu/aizu/channels/ChannelMethod$Shape" "takes" "Lcom/example/aizu/aizu/channels/ChannelMethod$Kind;" (.ref w_PAYLOAD)) ∧ (Sta Z Z.heap "com/example/aizu/aizu/channels/ChannelMethod$Shape" "MESSAGE_CONSUMER" "Lcom/example/aizu/aizu/channels/ChannelMethod$Shape;" (.ref w_MESSAGE_CONSUMER)) ∧ (Fld Z Z.heap w_MESSAGE_CONSUMER "com/example/aizu/aizu/channels/ChannelMethod$Shape" "takes" "Lcom/example/aizu/aizu/channels/ChannelMethod$Kind;" (.ref w_MESSAGE)) ∧ (Sta Z Z.heap "com/example/aizu/aizu/channels/ChannelMethod$Shape" "ASYNC_MESSAGE_PROCESSOR" "Lcom/example/aizu/aizu/channels/ChannelMethod$Shape;" (.ref w_ASYNC_MESSAGE_PROCESSOR)) ∧ (Fld Z Z.heap w_ASYNC_MESSAGE_PROCESSOR "com/example/aizu/aizu/channels/ChannelMethod$Shape" "takes" "Lcom/example/aizu/aizu/channels/ChannelMethod$Kind;" (.ref w_MESSAGE)) ∧ (Sta Z Z.heap "com/example/aizu/aizu/channels/ChannelMethod$Shape" "MESSAGE_PROCESSOR" "Lcom/example/aizu/aizu/channels/ChannelMethod$Shape;" (.ref w_MESSAGE_PROCESSOR)) ∧ (Fld Z Z.heap w_MESSAGE_PROCESSOR "com/example/aizu/aizu/channels/ChannelMethod$Shape" "takes" "Lcom/example/aizu/aizu/channels/ChannelMethod$Kind;" (.ref w_MESSAGE)) ∧ (Fld Z Z.heap w_PROCESSOR "com/example/aizu/aizu/channels/ChannelMethod$Shape" "gives" "Lcom/example/aizu/aizu/channels/ChannelMethod$Kind;" (.ref w_PAYLOAD)) ∧ (Fld Z Z.heap w_CONSUMER "com/example/aizu/aizu/channels/ChannelMethod$Shape" "gives" "Lcom/example/aizu/aizu/channels/ChannelMethod$Kind;" (.ref w_NOTHING)) ∧ (Fld Z Z.heap w_ASYNC_PROCESSOR "com/example/aizu/aizu/channels/ChannelMethod$Shape" "gives" "Lcom/example/aizu/aizu/channels/ChannelMethod$Kind;" (.ref w_PAYLOAD)) ∧ (Fld Z Z.heap w_MESSAGE_CONSUMER "com/example/aizu/aizu/channels/ChannelMethod$Shape" "gives" "Lcom/example/aizu/aizu/channels/ChannelMethod$Kind;" (.ref w_NOTHING)) ∧ (Fld Z Z.heap w_ASYNC_MESSAGE_PROCESSOR "com/example/aizu/aizu/channels/ChannelMethod$Shape" "gives" "Lcom/example/aizu/aizu/channels/ChannelMethod$Kind;" (.ref w_MESSAGE)) ∧ (Fld Z Z.heap w_MESSAGE_PROCESSOR "com/example/aizu/aizu/channels/ChannelMethod$Shape" "gives" "Lcom/example/aizu/aizu/channels/ChannelMethod$Kind;" (.ref w_MESSAGE)) ∧ (w_PAYLOAD ≠ w_NOTHING) ∧ (w_MESSAGE ≠ w_NOTHING) ∧ True
set_option maxRecDepth 65536 in
set_option maxHeartbeats 40000000 in
theorem rm1_0 (l : Launch) (Z : State) (a0 : Array Value) (hw : ∀ d ∈ tables_1, d.before a0 Z = true) (ws : List Jvm.Cond) (n0 : Nat) (h0 : Heap) (O : Old Z n0 h0) (w_PRODUCER : Addr) (w_NOTHING : Addr) (w_PAYLOAD : Addr) (w_PROCESSOR : Addr) (w_MESSAGE_STREAM : Addr) (w_MESSAGE : Addr) (w_PAYLOAD_STREAM : Addr) (w_CONSUMER : Addr) (w_ASYNC_PROCESSOR : Addr) (w_MESSAGE_CONSUMER : Addr) (w_ASYNC_MESSAGE_PROCESSOR : Addr) (w_MESSAGE_PROCESSOR : Addr) (W : OwW Z w_PRODUCER w_NOTHING w_PAYLOAD w_PROCESSOR w_MESSAGE_STREAM w_MESSAGE w_PAYLOAD_STREAM w_CONSUMER w_ASYNC_PROCESSOR w_MESSAGE_CONSUMER w_ASYNC_MESSAGE_PROCESSOR w_MESSAGE_PROCESSOR)  :
    OwCon l (⟨"com/example/aizu/aizu/channels/ShapeReadsPinLaw", "shapeAt", "(I)Lcom/example/aizu/aizu/channels/ChannelMethod$Shape;"⟩ : MethodName) method_3_code 1 (some (.object "com/example/aizu/aizu/channels/ChannelMethod$Shape")) ws ({ frames := 0, cells := 0, slots := 0, locals := 0 } : Room) #[(.int (0 : Int32))] Z h0 (OwQ (some (.ref w_PRODUCER)) h0 n0) := by
  refine MetFree.of_bodySF (plainFor_of_name owpn1) hisR ?_
  intro p e s m args below meth c s₁ Bd hml0 hP hK
  obtain ⟨rfl, hZ, hh⟩ := hP
  have hx := Bd.exec
  have hby := Bd.bytes
  have hml : c.maxLocals = 1 := hml0
  have hown : s.vm.findClass "com/example/aizu/aizu/channels/ShapeReadsPinLaw" = some m.cls := findClass_of_methodNamed Bd.named
  have hnm := (name_of_methodNamed Bd.named Bd.method).1
  have X0 : Stand p l e ({ frames := 0, cells := 0, slots := 0, locals := 0 } : Room) s m #[(.int (0 : Int32))] below meth c s₁ [] 0 0 := Stand.of_body Bd
  have e0 : s₁.heap = h0 := by rw [← hh, Bd.state]; rfl
  have N0 := Fr.nil n0
  have WW := W
  obtain ⟨E_w_PRODUCER, E_w_NOTHING, E_w_PAYLOAD, E_w_PROCESSOR, E_w_MESSAGE_STREAM, E_w_MESSAGE, E_w_PAYLOAD_STREAM, E_w_CONSUMER, E_w_ASYNC_PROCESSOR, E_w_MESSAGE_CONSUMER, E_w_ASYNC_MESSAGE_PROCESSOR, E_w_MESSAGE_PROCESSOR, S_ChannelMethod_Shape_PRODUCER, S_ChannelMethod_Kind_NOTHING, F_w_PRODUCER_takes, S_ChannelMethod_Kind_PAYLOAD, F_w_PRODUCER_gives, F_w_PAYLOAD_ordinal, F_w_NOTHING_ordinal, S_ChannelMethod_Shape_PROCESSOR, F_w_PROCESSOR_takes, S_ChannelMethod_Shape_MESSAGE_STREAM, F_w_MESSAGE_STREAM_takes, S_ChannelMethod_Kind_MESSAGE, F_w_MESSAGE_STREAM_gives, F_w_MESSAGE_ordinal, S_ChannelMethod_Shape_PAYLOAD_STREAM, F_w_PAYLOAD_STREAM_takes, F_w_PAYLOAD_STREAM_gives, S_ChannelMethod_Shape_CONSUMER, F_w_CONSUMER_takes, S_ChannelMethod_Shape_ASYNC_PROCESSOR, F_w_ASYNC_PROCESSOR_takes, S_ChannelMethod_Shape_MESSAGE_CONSUMER, F_w_MESSAGE_CONSUMER_takes, S_ChannelMethod_Shape_ASYNC_MESSAGE_PROCESSOR, F_w_ASYNC_MESSAGE_PROCESSOR_takes, S_ChannelMethod_Shape_MESSAGE_PROCESSOR, F_w_MESSAGE_PROCESSOR_takes, F_w_PROCESSOR_gives, F_w_CONSUMER_gives, F_w_ASYNC_PROCESSOR_gives, F_w_MESSAGE_CONSUMER_gives, F_w_ASYNC_MESSAGE_PROCESSOR_gives, F_w_MESSAGE_PROCESSOR_gives, ne_w_PAYLOAD_w_NOTHING, ne_w_MESSAGE_w_NOTHING, -⟩ := WW
  have ef : entryFrame m #[(.int (0 : Int32))] 1 = mkF m 0 #[.val (.int (0 : Int32))] [] := by first | rfl | (simp [entryFrame, mkF, argsToLocals, Value.category]; done)
  have pre0 : ∀ t, Steps p.tables e below (s₁.setTop (mkF m 0 #[.val (.int (0 : Int32))] [])) t → Steps p.tables e below (s₁.setTop (entryFrame m #[(.int (0 : Int32))] 1)) t := fun t k => castTop ef k
  obtain ⟨T1, X1, e1, st1⟩ := getS2 X0 hx hZ hown (host := "") (Or.inl (hw _ (List.mem_of_getElem? (i := 5) rfl))) Via.refl e0 (S_ChannelMethod_Shape_PRODUCER.ext O.2) (g := (mkF m 4 #[.val (.int (0 : Int32))] [])) rfl (hb hby d1_4)
  obtain ⟨fs, hr, hrun, hended, hW, hsame⟩ := X1.leave (v := some (.ref w_PRODUCER)) (fun h => by rw [Bd.returns] at h; cases h)
  refine ⟨_, _, pre0 _ ?_, hrun, hended, _, _, rfl, ?_, ⟨_, rfl⟩, hW, hsame.mono (by decide) (by decide)⟩
  · show Steps p.tables e below (s₁.setTop (mkF m 0 #[.val (.int (0 : Int32))] [])) _
    refine XS.iloadN X0.here hx rfl (hb hby d1_0) rfl ?_
    show Steps p.tables e below (s₁.setTop (mkF m 1 #[.val (.int (0 : Int32))] [(.int (0 : Int32))])) _
    refine XS.ifNo X0.here hx rfl (hb hby d1_1) rfl ((if0 _ _).trans (teq (by decide : (0 : Int32) = (0 : Int32))).2) ?_
    show Steps p.tables e below (s₁.setTop (mkF m 4 #[.val (.int (0 : Int32))] [])) _
    refine st1 _ ?_
    show Steps p.tables e below (T1.setTop (mkF m 7 #[.val (.int (0 : Int32))] [(.ref w_PRODUCER)])) _
    exact retOut X1 hx Bd.returns rfl (Or.inr (Or.inr (Or.inr (Or.inr ⟨rfl, rfl, rfl⟩)))) (hb hby d1_7) hr
  · exact ⟨rfl, N0, e1⟩
set_option maxRecDepth 65536 in
set_option maxHeartbeats 40000000 in
theorem rm2_0 (l : Launch) (Z : State) (a0 : Array Value) (hw : ∀ d ∈ tables_1, d.before a0 Z = true) (ws : List Jvm.Cond) (n0 : Nat) (h0 : Heap) (O : Old Z n0 h0) (w_PRODUCER : Addr) (w_NOTHING : Addr) (w_PAYLOAD : Addr) (w_PROCESSOR : Addr) (w_MESSAGE_STREAM : Addr) (w_MESSAGE : Addr) (w_PAYLOAD_STREAM : Addr) (w_CONSUMER : Addr) (w_ASYNC_PROCESSOR : Addr) (w_MESSAGE_CONSUMER : Addr) (w_ASYNC_MESSAGE_PROCESSOR : Addr) (w_MESSAGE_PROCESSOR : Addr) (W : OwW Z w_PRODUCER w_NOTHING w_PAYLOAD w_PROCESSOR w_MESSAGE_STREAM w_MESSAGE w_PAYLOAD_STREAM w_CONSUMER w_ASYNC_PROCESSOR w_MESSAGE_CONSUMER w_ASYNC_MESSAGE_PROCESSOR w_MESSAGE_PROCESSOR)  :
    OwCon l (⟨"com/example/aizu/aizu/channels/ChannelMethod$Shape", "reads", "()Z"⟩ : MethodName) prog_6_method_7_code 1 (some .boolean) ws ({ frames := 0, cells := 0, slots := 0, locals := 0 } : Room) #[(.ref w_PRODUCER)] Z h0 (OwQ (some (.int (0 : Int32))) h0 n0) := by
  refine MetFree.of_bodySF (plainFor_of_name owpn2) hisR ?_
  intro p e s m args below meth c s₁ Bd hml0 hP hK
  obtain ⟨rfl, hZ, hh⟩ := hP
  have hx := Bd.exec
  have hby := Bd.bytes
  have hml : c.maxLocals = 1 := hml0
  have hown : s.vm.findClass "com/example/aizu/aizu/channels/ChannelMethod$Shape" = some m.cls := findClass_of_methodNamed Bd.named
  have hnm := (name_of_methodNamed Bd.named Bd.method).1
  have X0 : Stand p l e ({ frames := 0, cells := 0, slots := 0, locals := 0 } : Room) s m #[(.ref w_PRODUCER)] below meth c s₁ [] 0 0 := Stand.of_body Bd
  have e0 : s₁.heap = h0 := by rw [← hh, Bd.state]; rfl
  have N0 := Fr.nil n0
  have WW := W
  obtain ⟨E_w_PRODUCER, E_w_NOTHING, E_w_PAYLOAD, E_w_PROCESSOR, E_w_MESSAGE_STREAM, E_w_MESSAGE, E_w_PAYLOAD_STREAM, E_w_CONSUMER, E_w_ASYNC_PROCESSOR, E_w_MESSAGE_CONSUMER, E_w_ASYNC_MESSAGE_PROCESSOR, E_w_MESSAGE_PROCESSOR, S_ChannelMethod_Shape_PRODUCER, S_ChannelMethod_Kind_NOTHING, F_w_PRODUCER_takes, S_ChannelMethod_Kind_PAYLOAD, F_w_PRODUCER_gives, F_w_PAYLOAD_ordinal, F_w_NOTHING_ordinal, S_ChannelMethod_Shape_PROCESSOR, F_w_PROCESSOR_takes, S_ChannelMethod_Shape_MESSAGE_STREAM, F_w_MESSAGE_STREAM_takes, S_ChannelMethod_Kind_MESSAGE, F_w_MESSAGE_STREAM_gives, F_w_MESSAGE_ordinal, S_ChannelMethod_Shape_PAYLOAD_STREAM, F_w_PAYLOAD_STREAM_takes, F_w_PAYLOAD_STREAM_gives, S_ChannelMethod_Shape_CONSUMER, F_w_CONSUMER_takes, S_ChannelMethod_Shape_ASYNC_PROCESSOR, F_w_ASYNC_PROCESSOR_takes, S_ChannelMethod_Shape_MESSAGE_CONSUMER, F_w_MESSAGE_CONSUMER_takes, S_ChannelMethod_Shape_ASYNC_MESSAGE_PROCESSOR, F_w_ASYNC_MESSAGE_PROCESSOR_takes, S_ChannelMethod_Shape_MESSAGE_PROCESSOR, F_w_MESSAGE_PROCESSOR_takes, F_w_PROCESSOR_gives, F_w_CONSUMER_gives, F_w_ASYNC_PROCESSOR_gives, F_w_MESSAGE_CONSUMER_gives, F_w_ASYNC_MESSAGE_PROCESSOR_gives, F_w_MESSAGE_PROCESSOR_gives, ne_w_PAYLOAD_w_NOTHING, ne_w_MESSAGE_w_NOTHING, -⟩ := WW
  have ef : entryFrame m #[(.ref w_PRODUCER)] 1 = mkF m 0 #[.val (.ref w_PRODUCER)] [] := by first | rfl | (simp [entryFrame, mkF, argsToLocals, Value.category]; done)
  have pre0 : ∀ t, Steps p.tables e below (s₁.setTop (mkF m 0 #[.val (.ref w_PRODUCER)] [])) t → Steps p.tables e below (s₁.setTop (entryFrame m #[(.ref w_PRODUCER)] 1)) t := fun t k => castTop ef k
  obtain ⟨T1, X1, e1, st1⟩ := getF X0 hx hZ hown (host := "") (Or.inl (hw _ (List.mem_of_getElem? (i := 13) rfl))) Via.refl e0 (F_w_PRODUCER_takes.ext O.2) (g := (mkF m 1 #[.val (.ref w_PRODUCER)] [(.ref w_PRODUCER)])) rfl rfl (hb hby d2_1)
  obtain ⟨T2, X2, e2, st2⟩ := getS2 X1 hx hZ hown (host := "") (Or.inl (hw _ (List.mem_of_getElem? (i := 17) rfl))) Via.refl e1 (S_ChannelMethod_Kind_NOTHING.ext O.2) (g := (mkF m 4 #[.val (.ref w_PRODUCER)] [(.ref w_NOTHING)])) rfl (hb hby d2_4)
  obtain ⟨fs, hr, hrun, hended, hW, hsame⟩ := X2.leave (v := some (.int (0 : Int32))) (fun h => by rw [Bd.returns] at h; cases h)
  refine ⟨_, _, pre0 _ ?_, hrun, hended, _, _, rfl, ?_, ⟨_, rfl⟩, hW, hsame.mono (by decide) (by decide)⟩
  · show Steps p.tables e below (s₁.setTop (mkF m 0 #[.val (.ref w_PRODUCER)] [])) _
    refine XS.aloadN X0.here hx rfl (hb hby d2_0) rfl rfl ?_
    show Steps p.tables e below (s₁.setTop (mkF m 1 #[.val (.ref w_PRODUCER)] [(.ref w_PRODUCER)])) _
    refine st1 _ ?_
    show Steps p.tables e below (T1.setTop (mkF m 4 #[.val (.ref w_PRODUCER)] [(.ref w_NOTHING)])) _
    refine st2 _ ?_
    show Steps p.tables e below (T2.setTop (mkF m 7 #[.val (.ref w_PRODUCER)] [(.ref w_NOTHING), (.ref w_NOTHING)])) _
    refine Jvm.RoadKit.acmp (g := (mkF m 7 #[.val (.ref w_PRODUCER)] [(.ref w_NOTHING), (.ref w_NOTHING)])) X2 hx rfl rfl rfl (pc0 := 7) (pc' := 14) (same := true) rfl (hb hby d2_7) rfl (decide_eq_true rfl) (by decide) (by decide) ?_
    show Steps p.tables e below (T2.setTop (mkF m 14 #[.val (.ref w_PRODUCER)] [])) _
    refine XS.iconst X2.here hx rfl (hb hby d2_14) ?_
    show Steps p.tables e below (T2.setTop (mkF m 15 #[.val (.ref w_PRODUCER)] [(.int (0 : Int32))])) _
    exact retN X2 hx (t := .boolean) Bd.returns (by simp) (hb hby d2_15) hr
  · exact ⟨rfl, N0, e2⟩
set_option maxRecDepth 65536 in
set_option maxHeartbeats 40000000 in
theorem rm3_0 (l : Launch) (Z : State) (a0 : Array Value) (hw : ∀ d ∈ tables_1, d.before a0 Z = true) (ws : List Jvm.Cond) (n0 : Nat) (h0 : Heap) (O : Old Z n0 h0) (w_PRODUCER : Addr) (w_NOTHING : Addr) (w_PAYLOAD : Addr) (w_PROCESSOR : Addr) (w_MESSAGE_STREAM : Addr) (w_MESSAGE : Addr) (w_PAYLOAD_STREAM : Addr) (w_CONSUMER : Addr) (w_ASYNC_PROCESSOR : Addr) (w_MESSAGE_CONSUMER : Addr) (w_ASYNC_MESSAGE_PROCESSOR : Addr) (w_MESSAGE_PROCESSOR : Addr) (W : OwW Z w_PRODUCER w_NOTHING w_PAYLOAD w_PROCESSOR w_MESSAGE_STREAM w_MESSAGE w_PAYLOAD_STREAM w_CONSUMER w_ASYNC_PROCESSOR w_MESSAGE_CONSUMER w_ASYNC_MESSAGE_PROCESSOR w_MESSAGE_PROCESSOR)  :
    OwCon l (⟨"com/example/aizu/aizu/channels/ChannelMethod$Shape", "takes", "()Lcom/example/aizu/aizu/channels/ChannelMethod$Kind;"⟩ : MethodName) prog_6_method_4_code 1 (some (.object "com/example/aizu/aizu/channels/ChannelMethod$Kind")) ws ({ frames := 0, cells := 0, slots := 0, locals := 0 } : Room) #[(.ref w_PRODUCER)] Z h0 (OwQ (some (.ref w_NOTHING)) h0 n0) := by
  refine MetFree.of_bodySF (plainFor_of_name owpn3) hisR ?_
  intro p e s m args below meth c s₁ Bd hml0 hP hK
  obtain ⟨rfl, hZ, hh⟩ := hP
  have hx := Bd.exec
  have hby := Bd.bytes
  have hml : c.maxLocals = 1 := hml0
  have hown : s.vm.findClass "com/example/aizu/aizu/channels/ChannelMethod$Shape" = some m.cls := findClass_of_methodNamed Bd.named
  have hnm := (name_of_methodNamed Bd.named Bd.method).1
  have X0 : Stand p l e ({ frames := 0, cells := 0, slots := 0, locals := 0 } : Room) s m #[(.ref w_PRODUCER)] below meth c s₁ [] 0 0 := Stand.of_body Bd
  have e0 : s₁.heap = h0 := by rw [← hh, Bd.state]; rfl
  have N0 := Fr.nil n0
  have WW := W
  obtain ⟨E_w_PRODUCER, E_w_NOTHING, E_w_PAYLOAD, E_w_PROCESSOR, E_w_MESSAGE_STREAM, E_w_MESSAGE, E_w_PAYLOAD_STREAM, E_w_CONSUMER, E_w_ASYNC_PROCESSOR, E_w_MESSAGE_CONSUMER, E_w_ASYNC_MESSAGE_PROCESSOR, E_w_MESSAGE_PROCESSOR, S_ChannelMethod_Shape_PRODUCER, S_ChannelMethod_Kind_NOTHING, F_w_PRODUCER_takes, S_ChannelMethod_Kind_PAYLOAD, F_w_PRODUCER_gives, F_w_PAYLOAD_ordinal, F_w_NOTHING_ordinal, S_ChannelMethod_Shape_PROCESSOR, F_w_PROCESSOR_takes, S_ChannelMethod_Shape_MESSAGE_STREAM, F_w_MESSAGE_STREAM_takes, S_ChannelMethod_Kind_MESSAGE, F_w_MESSAGE_STREAM_gives, F_w_MESSAGE_ordinal, S_ChannelMethod_Shape_PAYLOAD_STREAM, F_w_PAYLOAD_STREAM_takes, F_w_PAYLOAD_STREAM_gives, S_ChannelMethod_Shape_CONSUMER, F_w_CONSUMER_takes, S_ChannelMethod_Shape_ASYNC_PROCESSOR, F_w_ASYNC_PROCESSOR_takes, S_ChannelMethod_Shape_MESSAGE_CONSUMER, F_w_MESSAGE_CONSUMER_takes, S_ChannelMethod_Shape_ASYNC_MESSAGE_PROCESSOR, F_w_ASYNC_MESSAGE_PROCESSOR_takes, S_ChannelMethod_Shape_MESSAGE_PROCESSOR, F_w_MESSAGE_PROCESSOR_takes, F_w_PROCESSOR_gives, F_w_CONSUMER_gives, F_w_ASYNC_PROCESSOR_gives, F_w_MESSAGE_CONSUMER_gives, F_w_ASYNC_MESSAGE_PROCESSOR_gives, F_w_MESSAGE_PROCESSOR_gives, ne_w_PAYLOAD_w_NOTHING, ne_w_MESSAGE_w_NOTHING, -⟩ := WW
  have ef : entryFrame m #[(.ref w_PRODUCER)] 1 = mkF m 0 #[.val (.ref w_PRODUCER)] [] := by first | rfl | (simp [entryFrame, mkF, argsToLocals, Value.category]; done)
  have pre0 : ∀ t, Steps p.tables e below (s₁.setTop (mkF m 0 #[.val (.ref w_PRODUCER)] [])) t → Steps p.tables e below (s₁.setTop (entryFrame m #[(.ref w_PRODUCER)] 1)) t := fun t k => castTop ef k
  obtain ⟨T1, X1, e1, st1⟩ := getF X0 hx hZ hown (host := "") (Or.inl (hw _ (List.mem_of_getElem? (i := 13) rfl))) Via.refl e0 (F_w_PRODUCER_takes.ext O.2) (g := (mkF m 1 #[.val (.ref w_PRODUCER)] [(.ref w_PRODUCER)])) rfl rfl (hb hby d3_1)
  obtain ⟨fs, hr, hrun, hended, hW, hsame⟩ := X1.leave (v := some (.ref w_NOTHING)) (fun h => by rw [Bd.returns] at h; cases h)
  refine ⟨_, _, pre0 _ ?_, hrun, hended, _, _, rfl, ?_, ⟨_, rfl⟩, hW, hsame.mono (by decide) (by decide)⟩
  · show Steps p.tables e below (s₁.setTop (mkF m 0 #[.val (.ref w_PRODUCER)] [])) _
    refine XS.aloadN X0.here hx rfl (hb hby d3_0) rfl rfl ?_
    show Steps p.tables e below (s₁.setTop (mkF m 1 #[.val (.ref w_PRODUCER)] [(.ref w_PRODUCER)])) _
    refine st1 _ ?_
    show Steps p.tables e below (T1.setTop (mkF m 4 #[.val (.ref w_PRODUCER)] [(.ref w_NOTHING)])) _
    exact retOut X1 hx Bd.returns rfl (Or.inr (Or.inr (Or.inr (Or.inr ⟨rfl, rfl, rfl⟩)))) (hb hby d3_4) hr
  · exact ⟨rfl, N0, e1⟩
set_option maxRecDepth 65536 in
set_option maxHeartbeats 40000000 in
theorem rm4_0 (l : Launch) (Z : State) (a0 : Array Value) (hw : ∀ d ∈ tables_1, d.before a0 Z = true) (ws : List Jvm.Cond) (n0 : Nat) (h0 : Heap) (O : Old Z n0 h0) (w_PRODUCER : Addr) (w_NOTHING : Addr) (w_PAYLOAD : Addr) (w_PROCESSOR : Addr) (w_MESSAGE_STREAM : Addr) (w_MESSAGE : Addr) (w_PAYLOAD_STREAM : Addr) (w_CONSUMER : Addr) (w_ASYNC_PROCESSOR : Addr) (w_MESSAGE_CONSUMER : Addr) (w_ASYNC_MESSAGE_PROCESSOR : Addr) (w_MESSAGE_PROCESSOR : Addr) (W : OwW Z w_PRODUCER w_NOTHING w_PAYLOAD w_PROCESSOR w_MESSAGE_STREAM w_MESSAGE w_PAYLOAD_STREAM w_CONSUMER w_ASYNC_PROCESSOR w_MESSAGE_CONSUMER w_ASYNC_MESSAGE_PROCESSOR w_MESSAGE_PROCESSOR)  :
    OwCon l (⟨"com/example/aizu/aizu/channels/ChannelMethod$Shape", "writes", "()Z"⟩ : MethodName) prog_6_method_8_code 1 (some .boolean) ws ({ frames := 0, cells := 0, slots := 0, locals := 0 } : Room) #[(.ref w_PRODUCER)] Z h0 (OwQ (some (.int (1 : Int32))) h0 n0) := by
  refine MetFree.of_bodySF (plainFor_of_name owpn4) hisR ?_
  intro p e s m args below meth c s₁ Bd hml0 hP hK
  obtain ⟨rfl, hZ, hh⟩ := hP
  have hx := Bd.exec
  have hby := Bd.bytes
  have hml : c.maxLocals = 1 := hml0
  have hown : s.vm.findClass "com/example/aizu/aizu/channels/ChannelMethod$Shape" = some m.cls := findClass_of_methodNamed Bd.named
  have hnm := (name_of_methodNamed Bd.named Bd.method).1
  have X0 : Stand p l e ({ frames := 0, cells := 0, slots := 0, locals := 0 } : Room) s m #[(.ref w_PRODUCER)] below meth c s₁ [] 0 0 := Stand.of_body Bd
  have e0 : s₁.heap = h0 := by rw [← hh, Bd.state]; rfl
  have N0 := Fr.nil n0
  have WW := W
  obtain ⟨E_w_PRODUCER, E_w_NOTHING, E_w_PAYLOAD, E_w_PROCESSOR, E_w_MESSAGE_STREAM, E_w_MESSAGE, E_w_PAYLOAD_STREAM, E_w_CONSUMER, E_w_ASYNC_PROCESSOR, E_w_MESSAGE_CONSUMER, E_w_ASYNC_MESSAGE_PROCESSOR, E_w_MESSAGE_PROCESSOR, S_ChannelMethod_Shape_PRODUCER, S_ChannelMethod_Kind_NOTHING, F_w_PRODUCER_takes, S_ChannelMethod_Kind_PAYLOAD, F_w_PRODUCER_gives, F_w_PAYLOAD_ordinal, F_w_NOTHING_ordinal, S_ChannelMethod_Shape_PROCESSOR, F_w_PROCESSOR_takes, S_ChannelMethod_Shape_MESSAGE_STREAM, F_w_MESSAGE_STREAM_takes, S_ChannelMethod_Kind_MESSAGE, F_w_MESSAGE_STREAM_gives, F_w_MESSAGE_ordinal, S_ChannelMethod_Shape_PAYLOAD_STREAM, F_w_PAYLOAD_STREAM_takes, F_w_PAYLOAD_STREAM_gives, S_ChannelMethod_Shape_CONSUMER, F_w_CONSUMER_takes, S_ChannelMethod_Shape_ASYNC_PROCESSOR, F_w_ASYNC_PROCESSOR_takes, S_ChannelMethod_Shape_MESSAGE_CONSUMER, F_w_MESSAGE_CONSUMER_takes, S_ChannelMethod_Shape_ASYNC_MESSAGE_PROCESSOR, F_w_ASYNC_MESSAGE_PROCESSOR_takes, S_ChannelMethod_Shape_MESSAGE_PROCESSOR, F_w_MESSAGE_PROCESSOR_takes, F_w_PROCESSOR_gives, F_w_CONSUMER_gives, F_w_ASYNC_PROCESSOR_gives, F_w_MESSAGE_CONSUMER_gives, F_w_ASYNC_MESSAGE_PROCESSOR_gives, F_w_MESSAGE_PROCESSOR_gives, ne_w_PAYLOAD_w_NOTHING, ne_w_MESSAGE_w_NOTHING, -⟩ := WW
  have ef : entryFrame m #[(.ref w_PRODUCER)] 1 = mkF m 0 #[.val (.ref w_PRODUCER)] [] := by first | rfl | (simp [entryFrame, mkF, argsToLocals, Value.category]; done)
  have pre0 : ∀ t, Steps p.tables e below (s₁.setTop (mkF m 0 #[.val (.ref w_PRODUCER)] [])) t → Steps p.tables e below (s₁.setTop (entryFrame m #[(.ref w_PRODUCER)] 1)) t := fun t k => castTop ef k
  obtain ⟨T1, X1, e1, st1⟩ := getF X0 hx hZ hown (host := "") (Or.inl (hw _ (List.mem_of_getElem? (i := 29) rfl))) Via.refl e0 (F_w_PRODUCER_gives.ext O.2) (g := (mkF m 1 #[.val (.ref w_PRODUCER)] [(.ref w_PRODUCER)])) rfl rfl (hb hby d4_1)
  obtain ⟨T2, X2, e2, st2⟩ := getS2 X1 hx hZ hown (host := "") (Or.inl (hw _ (List.mem_of_getElem? (i := 17) rfl))) Via.refl e1 (S_ChannelMethod_Kind_NOTHING.ext O.2) (g := (mkF m 4 #[.val (.ref w_PRODUCER)] [(.ref w_PAYLOAD)])) rfl (hb hby d4_4)
  obtain ⟨fs, hr, hrun, hended, hW, hsame⟩ := X2.leave (v := some (.int (1 : Int32))) (fun h => by rw [Bd.returns] at h; cases h)
  refine ⟨_, _, pre0 _ ?_, hrun, hended, _, _, rfl, ?_, ⟨_, rfl⟩, hW, hsame.mono (by decide) (by decide)⟩
  · show Steps p.tables e below (s₁.setTop (mkF m 0 #[.val (.ref w_PRODUCER)] [])) _
    refine XS.aloadN X0.here hx rfl (hb hby d4_0) rfl rfl ?_
    show Steps p.tables e below (s₁.setTop (mkF m 1 #[.val (.ref w_PRODUCER)] [(.ref w_PRODUCER)])) _
    refine st1 _ ?_
    show Steps p.tables e below (T1.setTop (mkF m 4 #[.val (.ref w_PRODUCER)] [(.ref w_PAYLOAD)])) _
    refine st2 _ ?_
    show Steps p.tables e below (T2.setTop (mkF m 7 #[.val (.ref w_PRODUCER)] [(.ref w_NOTHING), (.ref w_PAYLOAD)])) _
    refine Jvm.RoadKit.acmp (g := (mkF m 7 #[.val (.ref w_PRODUCER)] [(.ref w_NOTHING), (.ref w_PAYLOAD)])) X2 hx rfl rfl rfl (pc0 := 7) (pc' := 10) (same := false) rfl (hb hby d4_7) rfl (decide_eq_false fun q => ne_w_PAYLOAD_w_NOTHING (Value.ref.inj q)) (by decide) (by decide) ?_
    show Steps p.tables e below (T2.setTop (mkF m 10 #[.val (.ref w_PRODUCER)] [])) _
    refine XS.iconst X2.here hx rfl (hb hby d4_10) ?_
    show Steps p.tables e below (T2.setTop (mkF m 11 #[.val (.ref w_PRODUCER)] [(.int (1 : Int32))])) _
    refine XS.goto X2.here hx rfl (pc0 := 11) (pc' := 15) rfl (hb hby d4_11) (by decide) (by decide) ?_
    show Steps p.tables e below (T2.setTop (mkF m 15 #[.val (.ref w_PRODUCER)] [(.int (1 : Int32))])) _
    exact retN X2 hx (t := .boolean) Bd.returns (by simp) (hb hby d4_15) hr
  · exact ⟨rfl, N0, e2⟩
set_option maxRecDepth 65536 in
set_option maxHeartbeats 40000000 in
theorem rm0_0 (l : Launch) (Z : State) (a0 : Array Value) (hw : ∀ d ∈ tables_1, d.before a0 Z = true) (ws : List Jvm.Cond) (n0 : Nat) (h0 : Heap) (O : Old Z n0 h0) (w_PRODUCER : Addr) (w_NOTHING : Addr) (w_PAYLOAD : Addr) (w_PROCESSOR : Addr) (w_MESSAGE_STREAM : Addr) (w_MESSAGE : Addr) (w_PAYLOAD_STREAM : Addr) (w_CONSUMER : Addr) (w_ASYNC_PROCESSOR : Addr) (w_MESSAGE_CONSUMER : Addr) (w_ASYNC_MESSAGE_PROCESSOR : Addr) (w_MESSAGE_PROCESSOR : Addr) (W : OwW Z w_PRODUCER w_NOTHING w_PAYLOAD w_PROCESSOR w_MESSAGE_STREAM w_MESSAGE w_PAYLOAD_STREAM w_CONSUMER w_ASYNC_PROCESSOR w_MESSAGE_CONSUMER w_ASYNC_MESSAGE_PROCESSOR w_MESSAGE_PROCESSOR) (p0 : Int32) (hi : (p0 &&& (2147483647 : Int32)) % (9 : Int32) = (0 : Int32)) :
    OwCon l x code maxLocals ret ws room_1 #[(.int p0)] Z h0 (OwP (fun v _ => v = some (.int 1)) n0) := by
  refine MetFree.of_bodySF (plainFor_of_name owpn0) hisR ?_
  intro p e s m args below meth c s₁ Bd hml0 hP hK
  obtain ⟨rfl, hZ, hh⟩ := hP
  have hx := Bd.exec
  have hby := Bd.bytes
  have hml : c.maxLocals = 7 := hml0
  have hown : s.vm.findClass "com/example/aizu/aizu/channels/ShapeReadsPinLaw" = some m.cls := findClass_of_methodNamed Bd.named
  have hnm := (name_of_methodNamed Bd.named Bd.method).1
  have X0 : Stand p l e room_1 s m #[(.int p0)] below meth c s₁ [] 0 0 := Stand.of_body Bd
  have e0 : s₁.heap = h0 := by rw [← hh, Bd.state]; rfl
  have N0 := Fr.nil n0
  have WW := W
  obtain ⟨E_w_PRODUCER, E_w_NOTHING, E_w_PAYLOAD, E_w_PROCESSOR, E_w_MESSAGE_STREAM, E_w_MESSAGE, E_w_PAYLOAD_STREAM, E_w_CONSUMER, E_w_ASYNC_PROCESSOR, E_w_MESSAGE_CONSUMER, E_w_ASYNC_MESSAGE_PROCESSOR, E_w_MESSAGE_PROCESSOR, S_ChannelMethod_Shape_PRODUCER, S_ChannelMethod_Kind_NOTHING, F_w_PRODUCER_takes, S_ChannelMethod_Kind_PAYLOAD, F_w_PRODUCER_gives, F_w_PAYLOAD_ordinal, F_w_NOTHING_ordinal, S_ChannelMethod_Shape_PROCESSOR, F_w_PROCESSOR_takes, S_ChannelMethod_Shape_MESSAGE_STREAM, F_w_MESSAGE_STREAM_takes, S_ChannelMethod_Kind_MESSAGE, F_w_MESSAGE_STREAM_gives, F_w_MESSAGE_ordinal, S_ChannelMethod_Shape_PAYLOAD_STREAM, F_w_PAYLOAD_STREAM_takes, F_w_PAYLOAD_STREAM_gives, S_ChannelMethod_Shape_CONSUMER, F_w_CONSUMER_takes, S_ChannelMethod_Shape_ASYNC_PROCESSOR, F_w_ASYNC_PROCESSOR_takes, S_ChannelMethod_Shape_MESSAGE_CONSUMER, F_w_MESSAGE_CONSUMER_takes, S_ChannelMethod_Shape_ASYNC_MESSAGE_PROCESSOR, F_w_ASYNC_MESSAGE_PROCESSOR_takes, S_ChannelMethod_Shape_MESSAGE_PROCESSOR, F_w_MESSAGE_PROCESSOR_takes, F_w_PROCESSOR_gives, F_w_CONSUMER_gives, F_w_ASYNC_PROCESSOR_gives, F_w_MESSAGE_CONSUMER_gives, F_w_ASYNC_MESSAGE_PROCESSOR_gives, F_w_MESSAGE_PROCESSOR_gives, ne_w_PAYLOAD_w_NOTHING, ne_w_MESSAGE_w_NOTHING, -⟩ := WW
  have ef : entryFrame m #[(.int p0)] maxLocals = mkF m 0 #[.val (.int p0), .unset, .unset, .unset, .unset, .unset, .unset] [] := by first | rfl | (simp [entryFrame, mkF, argsToLocals, Value.category, maxLocals]; done)
  have pre0 : ∀ t, Steps p.tables e below (s₁.setTop (mkF m 0 #[.val (.int p0), .unset, .unset, .unset, .unset, .unset, .unset] [])) t → Steps p.tables e below (s₁.setTop (entryFrame m #[(.int p0)] maxLocals)) t := fun t k => castTop ef k
  obtain ⟨_, _, ⟨T1, L1, k1, n1⟩, -, X1, ⟨Lc1, hQ1, l1, y1, z1⟩, st1⟩ := Jvm.LawKit.callS X0 hx (y := (⟨"com/example/aizu/aizu/channels/ShapeReadsPinLaw", "shapeAt", "(I)Lcom/example/aizu/aizu/channels/ChannelMethod$Shape;"⟩ : MethodName)) hown (mvT hZ (hw _ (List.mem_of_getElem? (i := 1) rfl))) (mvT hZ (hw _ (List.mem_of_getElem? (i := 2) rfl))) (mvT hZ (hw _ (List.mem_of_getElem? (i := 3) rfl))) (mvT hZ (hw _ (List.mem_of_getElem? (i := 4) rfl))) (by decide) (backOf (W := 0) (rm1_0 l Z a0 hw [] n0 h0 O w_PRODUCER w_NOTHING w_PAYLOAD w_PROCESSOR w_MESSAGE_STREAM w_MESSAGE w_PAYLOAD_STREAM w_CONSUMER w_ASYNC_PROCESSOR w_MESSAGE_CONSUMER w_ASYNC_MESSAGE_PROCESSOR w_MESSAGE_PROCESSOR W  ) hZ (hw _ (List.mem_of_getElem? (i := 4) rfl)) (hw _ (List.mem_of_getElem? (i := 3) rfl)) (by decide) (by decide)) (g := (mkF m 9 #[.val (.int p0), .val (.int (0 : Int32)), .unset, .unset, .unset, .unset, .unset] [(.int (0 : Int32))])) rfl (by rw [hml]; rfl) (argsL := [(.int (0 : Int32))]) (rest := []) (lenOf owpd0 rfl) rfl (by show 2 * 0 + _ ≤ _; exact Nat.le_of_eq rfl) (hb hby at_9) (fun _ _ => ⟨rfl, e0, (by decide : 0 + 0 ≤ _), (by decide : 0 + 0 ≤ _)⟩)
  dsimp only [Pt.U, Pt.locs, Pt.cells, Pt.slots] at X1 l1 y1 z1 st1 hQ1
  subst l1 y1 z1
  obtain ⟨rfl, Nq1, e1⟩ := hQ1
  have N1 := Fr.app N0 Nq1
  obtain ⟨cq2, kq2, q2a, q2b, q2c⟩ := isOf hZ e1 (E_w_PRODUCER.ext O.2)
  obtain ⟨_, _, ⟨T2, L2, k2, n2⟩, -, X2, ⟨Lc2, hQ2, l2, y2, z2⟩, st2⟩ := X1.virtualBack hx (y := (⟨"com/example/aizu/aizu/channels/ChannelMethod$Shape", "reads", "()Z"⟩ : MethodName)) (z := (⟨"com/example/aizu/aizu/channels/ChannelMethod$Shape", "reads", "()Z"⟩ : MethodName)) hown (mvT hZ (hw _ (List.mem_of_getElem? (i := 8) rfl))) (mvT hZ (hw _ (List.mem_of_getElem? (i := 9) rfl))) (notFace_of_selects (args := #[]) (mvT hZ (hw _ (List.mem_of_getElem? (i := 11) rfl)))) (mvT hZ (hw _ (List.mem_of_getElem? (i := 11) rfl))) (mvT hZ (hw _ (List.mem_of_getElem? (i := 10) rfl))) (by decide) (backOf (W := 0) (rm2_0 l Z a0 hw [] n0 h0 O w_PRODUCER w_NOTHING w_PAYLOAD w_PROCESSOR w_MESSAGE_STREAM w_MESSAGE w_PAYLOAD_STREAM w_CONSUMER w_ASYNC_PROCESSOR w_MESSAGE_CONSUMER w_ASYNC_MESSAGE_PROCESSOR w_MESSAGE_PROCESSOR W  ) hZ (hw _ (List.mem_of_getElem? (i := 12) rfl)) (hw _ (List.mem_of_getElem? (i := 6) rfl)) (by decide) (by decide)) q2a q2c (g := (mkF m 25 #[.val (.int p0), .val (.int (0 : Int32)), .val (.ref w_PRODUCER), .val (.int (0 : Int32)), .unset, .unset, .unset] [(.ref w_PRODUCER)])) rfl (by rw [hml]; rfl) (Steps.refl _) (argsL := []) (rest := []) (lenOf owpd1 rfl) rfl (by show 2 * 0 + _ ≤ _; exact Nat.le_of_eq rfl) (hb hby at_25) (fun _ _ => ⟨rfl, e1, (by decide : 0 + 0 ≤ _), (by decide : 0 + 0 ≤ _)⟩)
  dsimp only [Pt.U, Pt.locs, Pt.cells, Pt.slots] at X2 l2 y2 z2 st2 hQ2
  subst l2 y2 z2
  obtain ⟨rfl, Nq2, e2⟩ := hQ2
  have N2 := Fr.app N1 Nq2
  obtain ⟨cq3, kq3, q3a, q3b, q3c⟩ := isOf hZ e2 (E_w_PRODUCER.ext O.2)
  obtain ⟨_, _, ⟨T3, L3, k3, n3⟩, -, X3, ⟨Lc3, hQ3, l3, y3, z3⟩, st3⟩ := X2.virtualBack hx (y := (⟨"com/example/aizu/aizu/channels/ChannelMethod$Shape", "takes", "()Lcom/example/aizu/aizu/channels/ChannelMethod$Kind;"⟩ : MethodName)) (z := (⟨"com/example/aizu/aizu/channels/ChannelMethod$Shape", "takes", "()Lcom/example/aizu/aizu/channels/ChannelMethod$Kind;"⟩ : MethodName)) hown (mvT hZ (hw _ (List.mem_of_getElem? (i := 18) rfl))) (mvT hZ (hw _ (List.mem_of_getElem? (i := 19) rfl))) (notFace_of_selects (args := #[]) (mvT hZ (hw _ (List.mem_of_getElem? (i := 21) rfl)))) (mvT hZ (hw _ (List.mem_of_getElem? (i := 21) rfl))) (mvT hZ (hw _ (List.mem_of_getElem? (i := 20) rfl))) (by decide) (backOf (W := 1) (rm3_0 l Z a0 hw [] n0 h0 O w_PRODUCER w_NOTHING w_PAYLOAD w_PROCESSOR w_MESSAGE_STREAM w_MESSAGE w_PAYLOAD_STREAM w_CONSUMER w_ASYNC_PROCESSOR w_MESSAGE_CONSUMER w_ASYNC_MESSAGE_PROCESSOR w_MESSAGE_PROCESSOR W  ) hZ (hw _ (List.mem_of_getElem? (i := 22) rfl)) (hw _ (List.mem_of_getElem? (i := 6) rfl)) (by decide) (by decide)) q3a q3c (g := (mkF m 33 #[.val (.int p0), .val (.int (0 : Int32)), .val (.ref w_PRODUCER), .val (.int (0 : Int32)), .val (.int (0 : Int32)), .unset, .unset] [(.ref w_PRODUCER), (.int (0 : Int32))])) rfl (by rw [hml]; rfl) (Steps.refl _) (argsL := []) (rest := [(.int (0 : Int32))]) (lenOf owpd2 rfl) rfl (by show 2 * 0 + _ ≤ _; exact Nat.le_of_eq rfl) (hb hby at_33) (fun _ _ => ⟨rfl, e2, (by decide : 0 + 0 ≤ _), (by decide : 0 + 0 ≤ _)⟩)
  dsimp only [Pt.U, Pt.locs, Pt.cells, Pt.slots] at X3 l3 y3 z3 st3 hQ3
  subst l3 y3 z3
  obtain ⟨rfl, Nq3, e3⟩ := hQ3
  have N3 := Fr.app N2 Nq3
  obtain ⟨T4, X4, e4, st4⟩ := getS2 X3 hx hZ hown (host := "") (Or.inl (hw _ (List.mem_of_getElem? (i := 23) rfl))) Via.refl e3 (S_ChannelMethod_Kind_NOTHING.ext O.2) (g := (mkF m 36 #[.val (.int p0), .val (.int (0 : Int32)), .val (.ref w_PRODUCER), .val (.int (0 : Int32)), .val (.int (0 : Int32)), .unset, .unset] [(.ref w_NOTHING), (.int (0 : Int32))])) rfl (hb hby at_36)
  obtain ⟨cq5, kq5, q5a, q5b, q5c⟩ := isOf hZ e4 (E_w_PRODUCER.ext O.2)
  obtain ⟨_, _, ⟨T5, L5, k5, n5⟩, -, X5, ⟨Lc5, hQ5, l5, y5, z5⟩, st5⟩ := X4.virtualBack hx (y := (⟨"com/example/aizu/aizu/channels/ChannelMethod$Shape", "writes", "()Z"⟩ : MethodName)) (z := (⟨"com/example/aizu/aizu/channels/ChannelMethod$Shape", "writes", "()Z"⟩ : MethodName)) hown (mvT hZ (hw _ (List.mem_of_getElem? (i := 24) rfl))) (mvT hZ (hw _ (List.mem_of_getElem? (i := 25) rfl))) (notFace_of_selects (args := #[]) (mvT hZ (hw _ (List.mem_of_getElem? (i := 27) rfl)))) (mvT hZ (hw _ (List.mem_of_getElem? (i := 27) rfl))) (mvT hZ (hw _ (List.mem_of_getElem? (i := 26) rfl))) (by decide) (backOf (W := 0) (rm4_0 l Z a0 hw [] n0 h0 O w_PRODUCER w_NOTHING w_PAYLOAD w_PROCESSOR w_MESSAGE_STREAM w_MESSAGE w_PAYLOAD_STREAM w_CONSUMER w_ASYNC_PROCESSOR w_MESSAGE_CONSUMER w_ASYNC_MESSAGE_PROCESSOR w_MESSAGE_PROCESSOR W  ) hZ (hw _ (List.mem_of_getElem? (i := 28) rfl)) (hw _ (List.mem_of_getElem? (i := 6) rfl)) (by decide) (by decide)) q5a q5c (g := (mkF m 63 #[.val (.int p0), .val (.int (0 : Int32)), .val (.ref w_PRODUCER), .val (.int (0 : Int32)), .val (.int (0 : Int32)), .val (.int (1 : Int32)), .unset] [(.ref w_PRODUCER)])) rfl (by rw [hml]; rfl) (Steps.refl _) (argsL := []) (rest := []) (lenOf owpd1 rfl) rfl (by show 2 * 0 + _ ≤ _; exact Nat.le_of_eq rfl) (hb hby at_63) (fun _ _ => ⟨rfl, e4, (by decide : 0 + 0 ≤ _), (by decide : 0 + 0 ≤ _)⟩)
  dsimp only [Pt.U, Pt.locs, Pt.cells, Pt.slots] at X5 l5 y5 z5 st5 hQ5
  subst l5 y5 z5
  obtain ⟨rfl, Nq5, e5⟩ := hQ5
  have N5 := Fr.app N3 Nq5
  obtain ⟨fs, hr, hrun, hended, hW, hsame⟩ := X5.leave (v := some (.int (1 : Int32))) (fun h => by rw [Bd.returns] at h; cases h)
  refine ⟨_, _, pre0 _ ?_, hrun, hended, _, _, rfl, ?_, ⟨_, rfl⟩, hW, hsame.mono (by decide) (by decide)⟩
  · show Steps p.tables e below (s₁.setTop (mkF m 0 #[.val (.int p0), .unset, .unset, .unset, .unset, .unset, .unset] [])) _
    refine XS.iloadN X0.here hx rfl (hb hby at_0) rfl ?_
    show Steps p.tables e below (s₁.setTop (mkF m 1 #[.val (.int p0), .unset, .unset, .unset, .unset, .unset, .unset] [(.int p0)])) _
    refine X0.ldcInt hx hown (mvT hZ (hw _ (List.mem_of_getElem? (i := 0) rfl))) (g := (mkF m 1 #[.val (.int p0), .unset, .unset, .unset, .unset, .unset, .unset] [(.int p0)])) rfl (hb hby at_1) _ ?_
    show Steps p.tables e below (s₁.setTop (mkF m 3 #[.val (.int p0), .unset, .unset, .unset, .unset, .unset, .unset] [(.int (2147483647 : Int32)), (.int p0)])) _
    refine XS.iand X0.here hx rfl (hb hby at_3) rfl ?_
    show Steps p.tables e below (s₁.setTop (mkF m 4 #[.val (.int p0), .unset, .unset, .unset, .unset, .unset, .unset] [(.int (p0 &&& (2147483647 : Int32)))])) _
    refine XS.bipush X0.here hx rfl (hb hby at_4) ?_
    show Steps p.tables e below (s₁.setTop (mkF m 6 #[.val (.int p0), .unset, .unset, .unset, .unset, .unset, .unset] [(.int (9 : Int32)), (.int (p0 &&& (2147483647 : Int32)))])) _
    refine iremM X0 hx rfl (hb hby at_6) rfl (by decide) ?_
    show Steps p.tables e below (s₁.setTop (mkF m 7 #[.val (.int p0), .unset, .unset, .unset, .unset, .unset, .unset] [(.int ((p0 &&& (2147483647 : Int32)) % (9 : Int32)))])) _
    rw [hi]
    show Steps p.tables e below (s₁.setTop (mkF m 7 #[.val (.int p0), .unset, .unset, .unset, .unset, .unset, .unset] [(.int (0 : Int32))])) _
    refine XS.istoreN X0.here hx rfl (hb hby at_7) rfl (l' := #[.val (.int p0), .val (.int (0 : Int32)), .unset, .unset, .unset, .unset, .unset]) rfl ?_
    show Steps p.tables e below (s₁.setTop (mkF m 8 #[.val (.int p0), .val (.int (0 : Int32)), .unset, .unset, .unset, .unset, .unset] [])) _
    refine XS.iloadN X0.here hx rfl (hb hby at_8) rfl ?_
    show Steps p.tables e below (s₁.setTop (mkF m 9 #[.val (.int p0), .val (.int (0 : Int32)), .unset, .unset, .unset, .unset, .unset] [(.int (0 : Int32))])) _
    refine st1 _ ?_
    show Steps p.tables e below (T1.setTop (mkF m 12 #[.val (.int p0), .val (.int (0 : Int32)), .unset, .unset, .unset, .unset, .unset] [(.ref w_PRODUCER)])) _
    refine XS.astoreN X1.here hx rfl (hb hby at_12) rfl rfl (l' := #[.val (.int p0), .val (.int (0 : Int32)), .val (.ref w_PRODUCER), .unset, .unset, .unset, .unset]) rfl ?_
    show Steps p.tables e below (T1.setTop (mkF m 13 #[.val (.int p0), .val (.int (0 : Int32)), .val (.ref w_PRODUCER), .unset, .unset, .unset, .unset] [])) _
    refine XS.iloadN X1.here hx rfl (hb hby at_13) rfl ?_
    show Steps p.tables e below (T1.setTop (mkF m 14 #[.val (.int p0), .val (.int (0 : Int32)), .val (.ref w_PRODUCER), .unset, .unset, .unset, .unset] [(.int (0 : Int32))])) _
    refine XS.iconst X1.here hx rfl (hb hby at_14) ?_
    show Steps p.tables e below (T1.setTop (mkF m 15 #[.val (.int p0), .val (.int (0 : Int32)), .val (.ref w_PRODUCER), .unset, .unset, .unset, .unset] [(.int (3 : Int32)), (.int (0 : Int32))])) _
    refine XS.icmpYes X1.here hx rfl (pc0 := 15) (pc' := 22) rfl (hb hby at_15) rfl (tlt (by decide : (0 : Int32) < (3 : Int32))).1 (by decide) (by decide) ?_
    show Steps p.tables e below (T1.setTop (mkF m 22 #[.val (.int p0), .val (.int (0 : Int32)), .val (.ref w_PRODUCER), .unset, .unset, .unset, .unset] [])) _
    refine XS.iconst X1.here hx rfl (hb hby at_22) ?_
    show Steps p.tables e below (T1.setTop (mkF m 23 #[.val (.int p0), .val (.int (0 : Int32)), .val (.ref w_PRODUCER), .unset, .unset, .unset, .unset] [(.int (0 : Int32))])) _
    refine XS.istoreN X1.here hx rfl (hb hby at_23) rfl (l' := #[.val (.int p0), .val (.int (0 : Int32)), .val (.ref w_PRODUCER), .val (.int (0 : Int32)), .unset, .unset, .unset]) rfl ?_
    show Steps p.tables e below (T1.setTop (mkF m 24 #[.val (.int p0), .val (.int (0 : Int32)), .val (.ref w_PRODUCER), .val (.int (0 : Int32)), .unset, .unset, .unset] [])) _
    refine XS.aloadN X1.here hx rfl (hb hby at_24) rfl rfl ?_
    show Steps p.tables e below (T1.setTop (mkF m 25 #[.val (.int p0), .val (.int (0 : Int32)), .val (.ref w_PRODUCER), .val (.int (0 : Int32)), .unset, .unset, .unset] [(.ref w_PRODUCER)])) _
    refine st2.trans ?_
    show Steps p.tables e below (T2.setTop (mkF m 28 #[.val (.int p0), .val (.int (0 : Int32)), .val (.ref w_PRODUCER), .val (.int (0 : Int32)), .unset, .unset, .unset] [(.int (0 : Int32))])) _
    refine XS.istore X2.here hx rfl (hb hby at_28) rfl (l' := #[.val (.int p0), .val (.int (0 : Int32)), .val (.ref w_PRODUCER), .val (.int (0 : Int32)), .val (.int (0 : Int32)), .unset, .unset]) rfl ?_
    show Steps p.tables e below (T2.setTop (mkF m 30 #[.val (.int p0), .val (.int (0 : Int32)), .val (.ref w_PRODUCER), .val (.int (0 : Int32)), .val (.int (0 : Int32)), .unset, .unset] [])) _
    refine XS.iload X2.here hx rfl (hb hby at_30) rfl ?_
    show Steps p.tables e below (T2.setTop (mkF m 32 #[.val (.int p0), .val (.int (0 : Int32)), .val (.ref w_PRODUCER), .val (.int (0 : Int32)), .val (.int (0 : Int32)), .unset, .unset] [(.int (0 : Int32))])) _
    refine XS.aloadN X2.here hx rfl (hb hby at_32) rfl rfl ?_
    show Steps p.tables e below (T2.setTop (mkF m 33 #[.val (.int p0), .val (.int (0 : Int32)), .val (.ref w_PRODUCER), .val (.int (0 : Int32)), .val (.int (0 : Int32)), .unset, .unset] [(.ref w_PRODUCER), (.int (0 : Int32))])) _
    refine st3.trans ?_
    show Steps p.tables e below (T3.setTop (mkF m 36 #[.val (.int p0), .val (.int (0 : Int32)), .val (.ref w_PRODUCER), .val (.int (0 : Int32)), .val (.int (0 : Int32)), .unset, .unset] [(.ref w_NOTHING), (.int (0 : Int32))])) _
    refine st4 _ ?_
    show Steps p.tables e below (T4.setTop (mkF m 39 #[.val (.int p0), .val (.int (0 : Int32)), .val (.ref w_PRODUCER), .val (.int (0 : Int32)), .val (.int (0 : Int32)), .unset, .unset] [(.ref w_NOTHING), (.ref w_NOTHING), (.int (0 : Int32))])) _
    refine Jvm.RoadKit.acmp (g := (mkF m 39 #[.val (.int p0), .val (.int (0 : Int32)), .val (.ref w_PRODUCER), .val (.int (0 : Int32)), .val (.int (0 : Int32)), .unset, .unset] [(.ref w_NOTHING), (.ref w_NOTHING), (.int (0 : Int32))])) X4 hx rfl rfl rfl (pc0 := 39) (pc' := 46) (same := true) rfl (hb hby at_39) rfl (decide_eq_true rfl) (by decide) (by decide) ?_
    show Steps p.tables e below (T4.setTop (mkF m 46 #[.val (.int p0), .val (.int (0 : Int32)), .val (.ref w_PRODUCER), .val (.int (0 : Int32)), .val (.int (0 : Int32)), .unset, .unset] [(.int (0 : Int32))])) _
    refine XS.iconst X4.here hx rfl (hb hby at_46) ?_
    show Steps p.tables e below (T4.setTop (mkF m 47 #[.val (.int p0), .val (.int (0 : Int32)), .val (.ref w_PRODUCER), .val (.int (0 : Int32)), .val (.int (0 : Int32)), .unset, .unset] [(.int (0 : Int32)), (.int (0 : Int32))])) _
    refine XS.icmpNo X4.here hx rfl (hb hby at_47) rfl (teq (by decide : (0 : Int32) = (0 : Int32))).2 ?_
    show Steps p.tables e below (T4.setTop (mkF m 50 #[.val (.int p0), .val (.int (0 : Int32)), .val (.ref w_PRODUCER), .val (.int (0 : Int32)), .val (.int (0 : Int32)), .unset, .unset] [])) _
    refine XS.iconst X4.here hx rfl (hb hby at_50) ?_
    show Steps p.tables e below (T4.setTop (mkF m 51 #[.val (.int p0), .val (.int (0 : Int32)), .val (.ref w_PRODUCER), .val (.int (0 : Int32)), .val (.int (0 : Int32)), .unset, .unset] [(.int (1 : Int32))])) _
    refine XS.goto X4.here hx rfl (pc0 := 51) (pc' := 55) rfl (hb hby at_51) (by decide) (by decide) ?_
    show Steps p.tables e below (T4.setTop (mkF m 55 #[.val (.int p0), .val (.int (0 : Int32)), .val (.ref w_PRODUCER), .val (.int (0 : Int32)), .val (.int (0 : Int32)), .unset, .unset] [(.int (1 : Int32))])) _
    refine XS.istore X4.here hx rfl (hb hby at_55) rfl (l' := #[.val (.int p0), .val (.int (0 : Int32)), .val (.ref w_PRODUCER), .val (.int (0 : Int32)), .val (.int (0 : Int32)), .val (.int (1 : Int32)), .unset]) rfl ?_
    show Steps p.tables e below (T4.setTop (mkF m 57 #[.val (.int p0), .val (.int (0 : Int32)), .val (.ref w_PRODUCER), .val (.int (0 : Int32)), .val (.int (0 : Int32)), .val (.int (1 : Int32)), .unset] [])) _
    refine XS.iload X4.here hx rfl (hb hby at_57) rfl ?_
    show Steps p.tables e below (T4.setTop (mkF m 59 #[.val (.int p0), .val (.int (0 : Int32)), .val (.ref w_PRODUCER), .val (.int (0 : Int32)), .val (.int (0 : Int32)), .val (.int (1 : Int32)), .unset] [(.int (0 : Int32))])) _
    refine XS.ifNo X4.here hx rfl (hb hby at_59) rfl ((if0 _ _).trans (teq (by decide : (0 : Int32) = (0 : Int32))).2) ?_
    show Steps p.tables e below (T4.setTop (mkF m 62 #[.val (.int p0), .val (.int (0 : Int32)), .val (.ref w_PRODUCER), .val (.int (0 : Int32)), .val (.int (0 : Int32)), .val (.int (1 : Int32)), .unset] [])) _
    refine XS.aloadN X4.here hx rfl (hb hby at_62) rfl rfl ?_
    show Steps p.tables e below (T4.setTop (mkF m 63 #[.val (.int p0), .val (.int (0 : Int32)), .val (.ref w_PRODUCER), .val (.int (0 : Int32)), .val (.int (0 : Int32)), .val (.int (1 : Int32)), .unset] [(.ref w_PRODUCER)])) _
    refine st5.trans ?_
    show Steps p.tables e below (T5.setTop (mkF m 66 #[.val (.int p0), .val (.int (0 : Int32)), .val (.ref w_PRODUCER), .val (.int (0 : Int32)), .val (.int (0 : Int32)), .val (.int (1 : Int32)), .unset] [(.int (1 : Int32))])) _
    refine XS.ifNo X5.here hx rfl (hb hby at_66) rfl ((if0 _ _).trans (feq (by decide : ¬ ((1 : Int32) = (0 : Int32)))).1) ?_
    show Steps p.tables e below (T5.setTop (mkF m 69 #[.val (.int p0), .val (.int (0 : Int32)), .val (.ref w_PRODUCER), .val (.int (0 : Int32)), .val (.int (0 : Int32)), .val (.int (1 : Int32)), .unset] [])) _
    refine XS.iconst X5.here hx rfl (hb hby at_69) ?_
    show Steps p.tables e below (T5.setTop (mkF m 70 #[.val (.int p0), .val (.int (0 : Int32)), .val (.ref w_PRODUCER), .val (.int (0 : Int32)), .val (.int (0 : Int32)), .val (.int (1 : Int32)), .unset] [(.int (1 : Int32))])) _
    refine XS.goto X5.here hx rfl (pc0 := 70) (pc' := 74) rfl (hb hby at_70) (by decide) (by decide) ?_
    show Steps p.tables e below (T5.setTop (mkF m 74 #[.val (.int p0), .val (.int (0 : Int32)), .val (.ref w_PRODUCER), .val (.int (0 : Int32)), .val (.int (0 : Int32)), .val (.int (1 : Int32)), .unset] [(.int (1 : Int32))])) _
    refine XS.istore X5.here hx rfl (hb hby at_74) rfl (l' := #[.val (.int p0), .val (.int (0 : Int32)), .val (.ref w_PRODUCER), .val (.int (0 : Int32)), .val (.int (0 : Int32)), .val (.int (1 : Int32)), .val (.int (1 : Int32))]) rfl ?_
    show Steps p.tables e below (T5.setTop (mkF m 76 #[.val (.int p0), .val (.int (0 : Int32)), .val (.ref w_PRODUCER), .val (.int (0 : Int32)), .val (.int (0 : Int32)), .val (.int (1 : Int32)), .val (.int (1 : Int32))] [])) _
    refine XS.iload X5.here hx rfl (hb hby at_76) rfl ?_
    show Steps p.tables e below (T5.setTop (mkF m 78 #[.val (.int p0), .val (.int (0 : Int32)), .val (.ref w_PRODUCER), .val (.int (0 : Int32)), .val (.int (0 : Int32)), .val (.int (1 : Int32)), .val (.int (1 : Int32))] [(.int (0 : Int32))])) _
    refine XS.iloadN X5.here hx rfl (hb hby at_78) rfl ?_
    show Steps p.tables e below (T5.setTop (mkF m 79 #[.val (.int p0), .val (.int (0 : Int32)), .val (.ref w_PRODUCER), .val (.int (0 : Int32)), .val (.int (0 : Int32)), .val (.int (1 : Int32)), .val (.int (1 : Int32))] [(.int (0 : Int32)), (.int (0 : Int32))])) _
    refine XS.icmpNo X5.here hx rfl (hb hby at_79) rfl (teq (by decide : (0 : Int32) = (0 : Int32))).2 ?_
    show Steps p.tables e below (T5.setTop (mkF m 82 #[.val (.int p0), .val (.int (0 : Int32)), .val (.ref w_PRODUCER), .val (.int (0 : Int32)), .val (.int (0 : Int32)), .val (.int (1 : Int32)), .val (.int (1 : Int32))] [])) _
    refine XS.iload X5.here hx rfl (hb hby at_82) rfl ?_
    show Steps p.tables e below (T5.setTop (mkF m 84 #[.val (.int p0), .val (.int (0 : Int32)), .val (.ref w_PRODUCER), .val (.int (0 : Int32)), .val (.int (0 : Int32)), .val (.int (1 : Int32)), .val (.int (1 : Int32))] [(.int (1 : Int32))])) _
    refine XS.ifNo X5.here hx rfl (hb hby at_84) rfl ((if0 _ _).trans (feq (by decide : ¬ ((1 : Int32) = (0 : Int32)))).1) ?_
    show Steps p.tables e below (T5.setTop (mkF m 87 #[.val (.int p0), .val (.int (0 : Int32)), .val (.ref w_PRODUCER), .val (.int (0 : Int32)), .val (.int (0 : Int32)), .val (.int (1 : Int32)), .val (.int (1 : Int32))] [])) _
    refine XS.iload X5.here hx rfl (hb hby at_87) rfl ?_
    show Steps p.tables e below (T5.setTop (mkF m 89 #[.val (.int p0), .val (.int (0 : Int32)), .val (.ref w_PRODUCER), .val (.int (0 : Int32)), .val (.int (0 : Int32)), .val (.int (1 : Int32)), .val (.int (1 : Int32))] [(.int (1 : Int32))])) _
    refine XS.ifNo X5.here hx rfl (hb hby at_89) rfl ((if0 _ _).trans (feq (by decide : ¬ ((1 : Int32) = (0 : Int32)))).1) ?_
    show Steps p.tables e below (T5.setTop (mkF m 92 #[.val (.int p0), .val (.int (0 : Int32)), .val (.ref w_PRODUCER), .val (.int (0 : Int32)), .val (.int (0 : Int32)), .val (.int (1 : Int32)), .val (.int (1 : Int32))] [])) _
    refine XS.iconst X5.here hx rfl (hb hby at_92) ?_
    show Steps p.tables e below (T5.setTop (mkF m 93 #[.val (.int p0), .val (.int (0 : Int32)), .val (.ref w_PRODUCER), .val (.int (0 : Int32)), .val (.int (0 : Int32)), .val (.int (1 : Int32)), .val (.int (1 : Int32))] [(.int (1 : Int32))])) _
    refine XS.goto X5.here hx rfl (pc0 := 93) (pc' := 97) rfl (hb hby at_93) (by decide) (by decide) ?_
    show Steps p.tables e below (T5.setTop (mkF m 97 #[.val (.int p0), .val (.int (0 : Int32)), .val (.ref w_PRODUCER), .val (.int (0 : Int32)), .val (.int (0 : Int32)), .val (.int (1 : Int32)), .val (.int (1 : Int32))] [(.int (1 : Int32))])) _
    exact retN X5 hx (t := .boolean) Bd.returns (by simp) (hb hby at_97) hr
  · exact ⟨N5, rfl⟩
set_option maxRecDepth 65536 in
set_option maxHeartbeats 40000000 in
theorem rm1_1 (l : Launch) (Z : State) (a0 : Array Value) (hw : ∀ d ∈ tables_1, d.before a0 Z = true) (ws : List Jvm.Cond) (n0 : Nat) (h0 : Heap) (O : Old Z n0 h0) (w_PRODUCER : Addr) (w_NOTHING : Addr) (w_PAYLOAD : Addr) (w_PROCESSOR : Addr) (w_MESSAGE_STREAM : Addr) (w_MESSAGE : Addr) (w_PAYLOAD_STREAM : Addr) (w_CONSUMER : Addr) (w_ASYNC_PROCESSOR : Addr) (w_MESSAGE_CONSUMER : Addr) (w_ASYNC_MESSAGE_PROCESSOR : Addr) (w_MESSAGE_PROCESSOR : Addr) (W : OwW Z w_PRODUCER w_NOTHING w_PAYLOAD w_PROCESSOR w_MESSAGE_STREAM w_MESSAGE w_PAYLOAD_STREAM w_CONSUMER w_ASYNC_PROCESSOR w_MESSAGE_CONSUMER w_ASYNC_MESSAGE_PROCESSOR w_MESSAGE_PROCESSOR)  :
    OwCon l (⟨"com/example/aizu/aizu/channels/ShapeReadsPinLaw", "shapeAt", "(I)Lcom/example/aizu/aizu/channels/ChannelMethod$Shape;"⟩ : MethodName) method_3_code 1 (some (.object "com/example/aizu/aizu/channels/ChannelMethod$Shape")) ws ({ frames := 0, cells := 0, slots := 0, locals := 0 } : Room) #[(.int (1 : Int32))] Z h0 (OwQ (some (.ref w_PAYLOAD_STREAM)) h0 n0) := by
  refine MetFree.of_bodySF (plainFor_of_name owpn1) hisR ?_
  intro p e s m args below meth c s₁ Bd hml0 hP hK
  obtain ⟨rfl, hZ, hh⟩ := hP
  have hx := Bd.exec
  have hby := Bd.bytes
  have hml : c.maxLocals = 1 := hml0
  have hown : s.vm.findClass "com/example/aizu/aizu/channels/ShapeReadsPinLaw" = some m.cls := findClass_of_methodNamed Bd.named
  have hnm := (name_of_methodNamed Bd.named Bd.method).1
  have X0 : Stand p l e ({ frames := 0, cells := 0, slots := 0, locals := 0 } : Room) s m #[(.int (1 : Int32))] below meth c s₁ [] 0 0 := Stand.of_body Bd
  have e0 : s₁.heap = h0 := by rw [← hh, Bd.state]; rfl
  have N0 := Fr.nil n0
  have WW := W
  obtain ⟨E_w_PRODUCER, E_w_NOTHING, E_w_PAYLOAD, E_w_PROCESSOR, E_w_MESSAGE_STREAM, E_w_MESSAGE, E_w_PAYLOAD_STREAM, E_w_CONSUMER, E_w_ASYNC_PROCESSOR, E_w_MESSAGE_CONSUMER, E_w_ASYNC_MESSAGE_PROCESSOR, E_w_MESSAGE_PROCESSOR, S_ChannelMethod_Shape_PRODUCER, S_ChannelMethod_Kind_NOTHING, F_w_PRODUCER_takes, S_ChannelMethod_Kind_PAYLOAD, F_w_PRODUCER_gives, F_w_PAYLOAD_ordinal, F_w_NOTHING_ordinal, S_ChannelMethod_Shape_PROCESSOR, F_w_PROCESSOR_takes, S_ChannelMethod_Shape_MESSAGE_STREAM, F_w_MESSAGE_STREAM_takes, S_ChannelMethod_Kind_MESSAGE, F_w_MESSAGE_STREAM_gives, F_w_MESSAGE_ordinal, S_ChannelMethod_Shape_PAYLOAD_STREAM, F_w_PAYLOAD_STREAM_takes, F_w_PAYLOAD_STREAM_gives, S_ChannelMethod_Shape_CONSUMER, F_w_CONSUMER_takes, S_ChannelMethod_Shape_ASYNC_PROCESSOR, F_w_ASYNC_PROCESSOR_takes, S_ChannelMethod_Shape_MESSAGE_CONSUMER, F_w_MESSAGE_CONSUMER_takes, S_ChannelMethod_Shape_ASYNC_MESSAGE_PROCESSOR, F_w_ASYNC_MESSAGE_PROCESSOR_takes, S_ChannelMethod_Shape_MESSAGE_PROCESSOR, F_w_MESSAGE_PROCESSOR_takes, F_w_PROCESSOR_gives, F_w_CONSUMER_gives, F_w_ASYNC_PROCESSOR_gives, F_w_MESSAGE_CONSUMER_gives, F_w_ASYNC_MESSAGE_PROCESSOR_gives, F_w_MESSAGE_PROCESSOR_gives, ne_w_PAYLOAD_w_NOTHING, ne_w_MESSAGE_w_NOTHING, -⟩ := WW
  have ef : entryFrame m #[(.int (1 : Int32))] 1 = mkF m 0 #[.val (.int (1 : Int32))] [] := by first | rfl | (simp [entryFrame, mkF, argsToLocals, Value.category]; done)
  have pre0 : ∀ t, Steps p.tables e below (s₁.setTop (mkF m 0 #[.val (.int (1 : Int32))] [])) t → Steps p.tables e below (s₁.setTop (entryFrame m #[(.int (1 : Int32))] 1)) t := fun t k => castTop ef k
  obtain ⟨T1, X1, e1, st1⟩ := getS2 X0 hx hZ hown (host := "") (Or.inl (hw _ (List.mem_of_getElem? (i := 37) rfl))) Via.refl e0 (S_ChannelMethod_Shape_PAYLOAD_STREAM.ext O.2) (g := (mkF m 13 #[.val (.int (1 : Int32))] [])) rfl (hb hby d1_13)
  obtain ⟨fs, hr, hrun, hended, hW, hsame⟩ := X1.leave (v := some (.ref w_PAYLOAD_STREAM)) (fun h => by rw [Bd.returns] at h; cases h)
  refine ⟨_, _, pre0 _ ?_, hrun, hended, _, _, rfl, ?_, ⟨_, rfl⟩, hW, hsame.mono (by decide) (by decide)⟩
  · show Steps p.tables e below (s₁.setTop (mkF m 0 #[.val (.int (1 : Int32))] [])) _
    refine XS.iloadN X0.here hx rfl (hb hby d1_0) rfl ?_
    show Steps p.tables e below (s₁.setTop (mkF m 1 #[.val (.int (1 : Int32))] [(.int (1 : Int32))])) _
    refine XS.ifYes X0.here hx rfl (pc0 := 1) (pc' := 8) rfl (hb hby d1_1) rfl ((if0 _ _).trans (feq (by decide : ¬ ((1 : Int32) = (0 : Int32)))).2) (by decide) (by decide) ?_
    show Steps p.tables e below (s₁.setTop (mkF m 8 #[.val (.int (1 : Int32))] [])) _
    refine XS.iloadN X0.here hx rfl (hb hby d1_8) rfl ?_
    show Steps p.tables e below (s₁.setTop (mkF m 9 #[.val (.int (1 : Int32))] [(.int (1 : Int32))])) _
    refine XS.iconst X0.here hx rfl (hb hby d1_9) ?_
    show Steps p.tables e below (s₁.setTop (mkF m 10 #[.val (.int (1 : Int32))] [(.int (1 : Int32)), (.int (1 : Int32))])) _
    refine XS.icmpNo X0.here hx rfl (hb hby d1_10) rfl (teq (by decide : (1 : Int32) = (1 : Int32))).2 ?_
    show Steps p.tables e below (s₁.setTop (mkF m 13 #[.val (.int (1 : Int32))] [])) _
    refine st1 _ ?_
    show Steps p.tables e below (T1.setTop (mkF m 16 #[.val (.int (1 : Int32))] [(.ref w_PAYLOAD_STREAM)])) _
    exact retOut X1 hx Bd.returns rfl (Or.inr (Or.inr (Or.inr (Or.inr ⟨rfl, rfl, rfl⟩)))) (hb hby d1_16) hr
  · exact ⟨rfl, N0, e1⟩
set_option maxRecDepth 65536 in
set_option maxHeartbeats 40000000 in
theorem rm2_1 (l : Launch) (Z : State) (a0 : Array Value) (hw : ∀ d ∈ tables_1, d.before a0 Z = true) (ws : List Jvm.Cond) (n0 : Nat) (h0 : Heap) (O : Old Z n0 h0) (w_PRODUCER : Addr) (w_NOTHING : Addr) (w_PAYLOAD : Addr) (w_PROCESSOR : Addr) (w_MESSAGE_STREAM : Addr) (w_MESSAGE : Addr) (w_PAYLOAD_STREAM : Addr) (w_CONSUMER : Addr) (w_ASYNC_PROCESSOR : Addr) (w_MESSAGE_CONSUMER : Addr) (w_ASYNC_MESSAGE_PROCESSOR : Addr) (w_MESSAGE_PROCESSOR : Addr) (W : OwW Z w_PRODUCER w_NOTHING w_PAYLOAD w_PROCESSOR w_MESSAGE_STREAM w_MESSAGE w_PAYLOAD_STREAM w_CONSUMER w_ASYNC_PROCESSOR w_MESSAGE_CONSUMER w_ASYNC_MESSAGE_PROCESSOR w_MESSAGE_PROCESSOR)  :
    OwCon l (⟨"com/example/aizu/aizu/channels/ChannelMethod$Shape", "reads", "()Z"⟩ : MethodName) prog_6_method_7_code 1 (some .boolean) ws ({ frames := 0, cells := 0, slots := 0, locals := 0 } : Room) #[(.ref w_PAYLOAD_STREAM)] Z h0 (OwQ (some (.int (0 : Int32))) h0 n0) := by
  refine MetFree.of_bodySF (plainFor_of_name owpn2) hisR ?_
  intro p e s m args below meth c s₁ Bd hml0 hP hK
  obtain ⟨rfl, hZ, hh⟩ := hP
  have hx := Bd.exec
  have hby := Bd.bytes
  have hml : c.maxLocals = 1 := hml0
  have hown : s.vm.findClass "com/example/aizu/aizu/channels/ChannelMethod$Shape" = some m.cls := findClass_of_methodNamed Bd.named
  have hnm := (name_of_methodNamed Bd.named Bd.method).1
  have X0 : Stand p l e ({ frames := 0, cells := 0, slots := 0, locals := 0 } : Room) s m #[(.ref w_PAYLOAD_STREAM)] below meth c s₁ [] 0 0 := Stand.of_body Bd
  have e0 : s₁.heap = h0 := by rw [← hh, Bd.state]; rfl
  have N0 := Fr.nil n0
  have WW := W
  obtain ⟨E_w_PRODUCER, E_w_NOTHING, E_w_PAYLOAD, E_w_PROCESSOR, E_w_MESSAGE_STREAM, E_w_MESSAGE, E_w_PAYLOAD_STREAM, E_w_CONSUMER, E_w_ASYNC_PROCESSOR, E_w_MESSAGE_CONSUMER, E_w_ASYNC_MESSAGE_PROCESSOR, E_w_MESSAGE_PROCESSOR, S_ChannelMethod_Shape_PRODUCER, S_ChannelMethod_Kind_NOTHING, F_w_PRODUCER_takes, S_ChannelMethod_Kind_PAYLOAD, F_w_PRODUCER_gives, F_w_PAYLOAD_ordinal, F_w_NOTHING_ordinal, S_ChannelMethod_Shape_PROCESSOR, F_w_PROCESSOR_takes, S_ChannelMethod_Shape_MESSAGE_STREAM, F_w_MESSAGE_STREAM_takes, S_ChannelMethod_Kind_MESSAGE, F_w_MESSAGE_STREAM_gives, F_w_MESSAGE_ordinal, S_ChannelMethod_Shape_PAYLOAD_STREAM, F_w_PAYLOAD_STREAM_takes, F_w_PAYLOAD_STREAM_gives, S_ChannelMethod_Shape_CONSUMER, F_w_CONSUMER_takes, S_ChannelMethod_Shape_ASYNC_PROCESSOR, F_w_ASYNC_PROCESSOR_takes, S_ChannelMethod_Shape_MESSAGE_CONSUMER, F_w_MESSAGE_CONSUMER_takes, S_ChannelMethod_Shape_ASYNC_MESSAGE_PROCESSOR, F_w_ASYNC_MESSAGE_PROCESSOR_takes, S_ChannelMethod_Shape_MESSAGE_PROCESSOR, F_w_MESSAGE_PROCESSOR_takes, F_w_PROCESSOR_gives, F_w_CONSUMER_gives, F_w_ASYNC_PROCESSOR_gives, F_w_MESSAGE_CONSUMER_gives, F_w_ASYNC_MESSAGE_PROCESSOR_gives, F_w_MESSAGE_PROCESSOR_gives, ne_w_PAYLOAD_w_NOTHING, ne_w_MESSAGE_w_NOTHING, -⟩ := WW
  have ef : entryFrame m #[(.ref w_PAYLOAD_STREAM)] 1 = mkF m 0 #[.val (.ref w_PAYLOAD_STREAM)] [] := by first | rfl | (simp [entryFrame, mkF, argsToLocals, Value.category]; done)
  have pre0 : ∀ t, Steps p.tables e below (s₁.setTop (mkF m 0 #[.val (.ref w_PAYLOAD_STREAM)] [])) t → Steps p.tables e below (s₁.setTop (entryFrame m #[(.ref w_PAYLOAD_STREAM)] 1)) t := fun t k => castTop ef k
  obtain ⟨T1, X1, e1, st1⟩ := getF X0 hx hZ hown (host := "") (Or.inl (hw _ (List.mem_of_getElem? (i := 13) rfl))) Via.refl e0 (F_w_PAYLOAD_STREAM_takes.ext O.2) (g := (mkF m 1 #[.val (.ref w_PAYLOAD_STREAM)] [(.ref w_PAYLOAD_STREAM)])) rfl rfl (hb hby d2_1)
  obtain ⟨T2, X2, e2, st2⟩ := getS2 X1 hx hZ hown (host := "") (Or.inl (hw _ (List.mem_of_getElem? (i := 17) rfl))) Via.refl e1 (S_ChannelMethod_Kind_NOTHING.ext O.2) (g := (mkF m 4 #[.val (.ref w_PAYLOAD_STREAM)] [(.ref w_NOTHING)])) rfl (hb hby d2_4)
  obtain ⟨fs, hr, hrun, hended, hW, hsame⟩ := X2.leave (v := some (.int (0 : Int32))) (fun h => by rw [Bd.returns] at h; cases h)
  refine ⟨_, _, pre0 _ ?_, hrun, hended, _, _, rfl, ?_, ⟨_, rfl⟩, hW, hsame.mono (by decide) (by decide)⟩
  · show Steps p.tables e below (s₁.setTop (mkF m 0 #[.val (.ref w_PAYLOAD_STREAM)] [])) _
    refine XS.aloadN X0.here hx rfl (hb hby d2_0) rfl rfl ?_
    show Steps p.tables e below (s₁.setTop (mkF m 1 #[.val (.ref w_PAYLOAD_STREAM)] [(.ref w_PAYLOAD_STREAM)])) _
    refine st1 _ ?_
    show Steps p.tables e below (T1.setTop (mkF m 4 #[.val (.ref w_PAYLOAD_STREAM)] [(.ref w_NOTHING)])) _
    refine st2 _ ?_
    show Steps p.tables e below (T2.setTop (mkF m 7 #[.val (.ref w_PAYLOAD_STREAM)] [(.ref w_NOTHING), (.ref w_NOTHING)])) _
    refine Jvm.RoadKit.acmp (g := (mkF m 7 #[.val (.ref w_PAYLOAD_STREAM)] [(.ref w_NOTHING), (.ref w_NOTHING)])) X2 hx rfl rfl rfl (pc0 := 7) (pc' := 14) (same := true) rfl (hb hby d2_7) rfl (decide_eq_true rfl) (by decide) (by decide) ?_
    show Steps p.tables e below (T2.setTop (mkF m 14 #[.val (.ref w_PAYLOAD_STREAM)] [])) _
    refine XS.iconst X2.here hx rfl (hb hby d2_14) ?_
    show Steps p.tables e below (T2.setTop (mkF m 15 #[.val (.ref w_PAYLOAD_STREAM)] [(.int (0 : Int32))])) _
    exact retN X2 hx (t := .boolean) Bd.returns (by simp) (hb hby d2_15) hr
  · exact ⟨rfl, N0, e2⟩
set_option maxRecDepth 65536 in
set_option maxHeartbeats 40000000 in
theorem rm3_1 (l : Launch) (Z : State) (a0 : Array Value) (hw : ∀ d ∈ tables_1, d.before a0 Z = true) (ws : List Jvm.Cond) (n0 : Nat) (h0 : Heap) (O : Old Z n0 h0) (w_PRODUCER : Addr) (w_NOTHING : Addr) (w_PAYLOAD : Addr) (w_PROCESSOR : Addr) (w_MESSAGE_STREAM : Addr) (w_MESSAGE : Addr) (w_PAYLOAD_STREAM : Addr) (w_CONSUMER : Addr) (w_ASYNC_PROCESSOR : Addr) (w_MESSAGE_CONSUMER : Addr) (w_ASYNC_MESSAGE_PROCESSOR : Addr) (w_MESSAGE_PROCESSOR : Addr) (W : OwW Z w_PRODUCER w_NOTHING w_PAYLOAD w_PROCESSOR w_MESSAGE_STREAM w_MESSAGE w_PAYLOAD_STREAM w_CONSUMER w_ASYNC_PROCESSOR w_MESSAGE_CONSUMER w_ASYNC_MESSAGE_PROCESSOR w_MESSAGE_PROCESSOR)  :
    OwCon l (⟨"com/example/aizu/aizu/channels/ChannelMethod$Shape", "takes", "()Lcom/example/aizu/aizu/channels/ChannelMethod$Kind;"⟩ : MethodName) prog_6_method_4_code 1 (some (.object "com/example/aizu/aizu/channels/ChannelMethod$Kind")) ws ({ frames := 0, cells := 0, slots := 0, locals := 0 } : Room) #[(.ref w_PAYLOAD_STREAM)] Z h0 (OwQ (some (.ref w_NOTHING)) h0 n0) := by
  refine MetFree.of_bodySF (plainFor_of_name owpn3) hisR ?_
  intro p e s m args below meth c s₁ Bd hml0 hP hK
  obtain ⟨rfl, hZ, hh⟩ := hP
  have hx := Bd.exec
  have hby := Bd.bytes
  have hml : c.maxLocals = 1 := hml0
  have hown : s.vm.findClass "com/example/aizu/aizu/channels/ChannelMethod$Shape" = some m.cls := findClass_of_methodNamed Bd.named
  have hnm := (name_of_methodNamed Bd.named Bd.method).1
  have X0 : Stand p l e ({ frames := 0, cells := 0, slots := 0, locals := 0 } : Room) s m #[(.ref w_PAYLOAD_STREAM)] below meth c s₁ [] 0 0 := Stand.of_body Bd
  have e0 : s₁.heap = h0 := by rw [← hh, Bd.state]; rfl
  have N0 := Fr.nil n0
  have WW := W
  obtain ⟨E_w_PRODUCER, E_w_NOTHING, E_w_PAYLOAD, E_w_PROCESSOR, E_w_MESSAGE_STREAM, E_w_MESSAGE, E_w_PAYLOAD_STREAM, E_w_CONSUMER, E_w_ASYNC_PROCESSOR, E_w_MESSAGE_CONSUMER, E_w_ASYNC_MESSAGE_PROCESSOR, E_w_MESSAGE_PROCESSOR, S_ChannelMethod_Shape_PRODUCER, S_ChannelMethod_Kind_NOTHING, F_w_PRODUCER_takes, S_ChannelMethod_Kind_PAYLOAD, F_w_PRODUCER_gives, F_w_PAYLOAD_ordinal, F_w_NOTHING_ordinal, S_ChannelMethod_Shape_PROCESSOR, F_w_PROCESSOR_takes, S_ChannelMethod_Shape_MESSAGE_STREAM, F_w_MESSAGE_STREAM_takes, S_ChannelMethod_Kind_MESSAGE, F_w_MESSAGE_STREAM_gives, F_w_MESSAGE_ordinal, S_ChannelMethod_Shape_PAYLOAD_STREAM, F_w_PAYLOAD_STREAM_takes, F_w_PAYLOAD_STREAM_gives, S_ChannelMethod_Shape_CONSUMER, F_w_CONSUMER_takes, S_ChannelMethod_Shape_ASYNC_PROCESSOR, F_w_ASYNC_PROCESSOR_takes, S_ChannelMethod_Shape_MESSAGE_CONSUMER, F_w_MESSAGE_CONSUMER_takes, S_ChannelMethod_Shape_ASYNC_MESSAGE_PROCESSOR, F_w_ASYNC_MESSAGE_PROCESSOR_takes, S_ChannelMethod_Shape_MESSAGE_PROCESSOR, F_w_MESSAGE_PROCESSOR_takes, F_w_PROCESSOR_gives, F_w_CONSUMER_gives, F_w_ASYNC_PROCESSOR_gives, F_w_MESSAGE_CONSUMER_gives, F_w_ASYNC_MESSAGE_PROCESSOR_gives, F_w_MESSAGE_PROCESSOR_gives, ne_w_PAYLOAD_w_NOTHING, ne_w_MESSAGE_w_NOTHING, -⟩ := WW
  have ef : entryFrame m #[(.ref w_PAYLOAD_STREAM)] 1 = mkF m 0 #[.val (.ref w_PAYLOAD_STREAM)] [] := by first | rfl | (simp [entryFrame, mkF, argsToLocals, Value.category]; done)
  have pre0 : ∀ t, Steps p.tables e below (s₁.setTop (mkF m 0 #[.val (.ref w_PAYLOAD_STREAM)] [])) t → Steps p.tables e below (s₁.setTop (entryFrame m #[(.ref w_PAYLOAD_STREAM)] 1)) t := fun t k => castTop ef k
  obtain ⟨T1, X1, e1, st1⟩ := getF X0 hx hZ hown (host := "") (Or.inl (hw _ (List.mem_of_getElem? (i := 13) rfl))) Via.refl e0 (F_w_PAYLOAD_STREAM_takes.ext O.2) (g := (mkF m 1 #[.val (.ref w_PAYLOAD_STREAM)] [(.ref w_PAYLOAD_STREAM)])) rfl rfl (hb hby d3_1)
  obtain ⟨fs, hr, hrun, hended, hW, hsame⟩ := X1.leave (v := some (.ref w_NOTHING)) (fun h => by rw [Bd.returns] at h; cases h)
  refine ⟨_, _, pre0 _ ?_, hrun, hended, _, _, rfl, ?_, ⟨_, rfl⟩, hW, hsame.mono (by decide) (by decide)⟩
  · show Steps p.tables e below (s₁.setTop (mkF m 0 #[.val (.ref w_PAYLOAD_STREAM)] [])) _
    refine XS.aloadN X0.here hx rfl (hb hby d3_0) rfl rfl ?_
    show Steps p.tables e below (s₁.setTop (mkF m 1 #[.val (.ref w_PAYLOAD_STREAM)] [(.ref w_PAYLOAD_STREAM)])) _
    refine st1 _ ?_
    show Steps p.tables e below (T1.setTop (mkF m 4 #[.val (.ref w_PAYLOAD_STREAM)] [(.ref w_NOTHING)])) _
    exact retOut X1 hx Bd.returns rfl (Or.inr (Or.inr (Or.inr (Or.inr ⟨rfl, rfl, rfl⟩)))) (hb hby d3_4) hr
  · exact ⟨rfl, N0, e1⟩
set_option maxRecDepth 65536 in
set_option maxHeartbeats 40000000 in
theorem rm4_1 (l : Launch) (Z : State) (a0 : Array Value) (hw : ∀ d ∈ tables_1, d.before a0 Z = true) (ws : List Jvm.Cond) (n0 : Nat) (h0 : Heap) (O : Old Z n0 h0) (w_PRODUCER : Addr) (w_NOTHING : Addr) (w_PAYLOAD : Addr) (w_PROCESSOR : Addr) (w_MESSAGE_STREAM : Addr) (w_MESSAGE : Addr) (w_PAYLOAD_STREAM : Addr) (w_CONSUMER : Addr) (w_ASYNC_PROCESSOR : Addr) (w_MESSAGE_CONSUMER : Addr) (w_ASYNC_MESSAGE_PROCESSOR : Addr) (w_MESSAGE_PROCESSOR : Addr) (W : OwW Z w_PRODUCER w_NOTHING w_PAYLOAD w_PROCESSOR w_MESSAGE_STREAM w_MESSAGE w_PAYLOAD_STREAM w_CONSUMER w_ASYNC_PROCESSOR w_MESSAGE_CONSUMER w_ASYNC_MESSAGE_PROCESSOR w_MESSAGE_PROCESSOR)  :
    OwCon l (⟨"com/example/aizu/aizu/channels/ChannelMethod$Shape", "writes", "()Z"⟩ : MethodName) prog_6_method_8_code 1 (some .boolean) ws ({ frames := 0, cells := 0, slots := 0, locals := 0 } : Room) #[(.ref w_PAYLOAD_STREAM)] Z h0 (OwQ (some (.int (1 : Int32))) h0 n0) := by
  refine MetFree.of_bodySF (plainFor_of_name owpn4) hisR ?_
  intro p e s m args below meth c s₁ Bd hml0 hP hK
  obtain ⟨rfl, hZ, hh⟩ := hP
  have hx := Bd.exec
  have hby := Bd.bytes
  have hml : c.maxLocals = 1 := hml0
  have hown : s.vm.findClass "com/example/aizu/aizu/channels/ChannelMethod$Shape" = some m.cls := findClass_of_methodNamed Bd.named
  have hnm := (name_of_methodNamed Bd.named Bd.method).1
  have X0 : Stand p l e ({ frames := 0, cells := 0, slots := 0, locals := 0 } : Room) s m #[(.ref w_PAYLOAD_STREAM)] below meth c s₁ [] 0 0 := Stand.of_body Bd
  have e0 : s₁.heap = h0 := by rw [← hh, Bd.state]; rfl
  have N0 := Fr.nil n0
  have WW := W
  obtain ⟨E_w_PRODUCER, E_w_NOTHING, E_w_PAYLOAD, E_w_PROCESSOR, E_w_MESSAGE_STREAM, E_w_MESSAGE, E_w_PAYLOAD_STREAM, E_w_CONSUMER, E_w_ASYNC_PROCESSOR, E_w_MESSAGE_CONSUMER, E_w_ASYNC_MESSAGE_PROCESSOR, E_w_MESSAGE_PROCESSOR, S_ChannelMethod_Shape_PRODUCER, S_ChannelMethod_Kind_NOTHING, F_w_PRODUCER_takes, S_ChannelMethod_Kind_PAYLOAD, F_w_PRODUCER_gives, F_w_PAYLOAD_ordinal, F_w_NOTHING_ordinal, S_ChannelMethod_Shape_PROCESSOR, F_w_PROCESSOR_takes, S_ChannelMethod_Shape_MESSAGE_STREAM, F_w_MESSAGE_STREAM_takes, S_ChannelMethod_Kind_MESSAGE, F_w_MESSAGE_STREAM_gives, F_w_MESSAGE_ordinal, S_ChannelMethod_Shape_PAYLOAD_STREAM, F_w_PAYLOAD_STREAM_takes, F_w_PAYLOAD_STREAM_gives, S_ChannelMethod_Shape_CONSUMER, F_w_CONSUMER_takes, S_ChannelMethod_Shape_ASYNC_PROCESSOR, F_w_ASYNC_PROCESSOR_takes, S_ChannelMethod_Shape_MESSAGE_CONSUMER, F_w_MESSAGE_CONSUMER_takes, S_ChannelMethod_Shape_ASYNC_MESSAGE_PROCESSOR, F_w_ASYNC_MESSAGE_PROCESSOR_takes, S_ChannelMethod_Shape_MESSAGE_PROCESSOR, F_w_MESSAGE_PROCESSOR_takes, F_w_PROCESSOR_gives, F_w_CONSUMER_gives, F_w_ASYNC_PROCESSOR_gives, F_w_MESSAGE_CONSUMER_gives, F_w_ASYNC_MESSAGE_PROCESSOR_gives, F_w_MESSAGE_PROCESSOR_gives, ne_w_PAYLOAD_w_NOTHING, ne_w_MESSAGE_w_NOTHING, -⟩ := WW
  have ef : entryFrame m #[(.ref w_PAYLOAD_STREAM)] 1 = mkF m 0 #[.val (.ref w_PAYLOAD_STREAM)] [] := by first | rfl | (simp [entryFrame, mkF, argsToLocals, Value.category]; done)
  have pre0 : ∀ t, Steps p.tables e below (s₁.setTop (mkF m 0 #[.val (.ref w_PAYLOAD_STREAM)] [])) t → Steps p.tables e below (s₁.setTop (entryFrame m #[(.ref w_PAYLOAD_STREAM)] 1)) t := fun t k => castTop ef k
  obtain ⟨T1, X1, e1, st1⟩ := getF X0 hx hZ hown (host := "") (Or.inl (hw _ (List.mem_of_getElem? (i := 29) rfl))) Via.refl e0 (F_w_PAYLOAD_STREAM_gives.ext O.2) (g := (mkF m 1 #[.val (.ref w_PAYLOAD_STREAM)] [(.ref w_PAYLOAD_STREAM)])) rfl rfl (hb hby d4_1)
  obtain ⟨T2, X2, e2, st2⟩ := getS2 X1 hx hZ hown (host := "") (Or.inl (hw _ (List.mem_of_getElem? (i := 17) rfl))) Via.refl e1 (S_ChannelMethod_Kind_NOTHING.ext O.2) (g := (mkF m 4 #[.val (.ref w_PAYLOAD_STREAM)] [(.ref w_PAYLOAD)])) rfl (hb hby d4_4)
  obtain ⟨fs, hr, hrun, hended, hW, hsame⟩ := X2.leave (v := some (.int (1 : Int32))) (fun h => by rw [Bd.returns] at h; cases h)
  refine ⟨_, _, pre0 _ ?_, hrun, hended, _, _, rfl, ?_, ⟨_, rfl⟩, hW, hsame.mono (by decide) (by decide)⟩
  · show Steps p.tables e below (s₁.setTop (mkF m 0 #[.val (.ref w_PAYLOAD_STREAM)] [])) _
    refine XS.aloadN X0.here hx rfl (hb hby d4_0) rfl rfl ?_
    show Steps p.tables e below (s₁.setTop (mkF m 1 #[.val (.ref w_PAYLOAD_STREAM)] [(.ref w_PAYLOAD_STREAM)])) _
    refine st1 _ ?_
    show Steps p.tables e below (T1.setTop (mkF m 4 #[.val (.ref w_PAYLOAD_STREAM)] [(.ref w_PAYLOAD)])) _
    refine st2 _ ?_
    show Steps p.tables e below (T2.setTop (mkF m 7 #[.val (.ref w_PAYLOAD_STREAM)] [(.ref w_NOTHING), (.ref w_PAYLOAD)])) _
    refine Jvm.RoadKit.acmp (g := (mkF m 7 #[.val (.ref w_PAYLOAD_STREAM)] [(.ref w_NOTHING), (.ref w_PAYLOAD)])) X2 hx rfl rfl rfl (pc0 := 7) (pc' := 10) (same := false) rfl (hb hby d4_7) rfl (decide_eq_false fun q => ne_w_PAYLOAD_w_NOTHING (Value.ref.inj q)) (by decide) (by decide) ?_
    show Steps p.tables e below (T2.setTop (mkF m 10 #[.val (.ref w_PAYLOAD_STREAM)] [])) _
    refine XS.iconst X2.here hx rfl (hb hby d4_10) ?_
    show Steps p.tables e below (T2.setTop (mkF m 11 #[.val (.ref w_PAYLOAD_STREAM)] [(.int (1 : Int32))])) _
    refine XS.goto X2.here hx rfl (pc0 := 11) (pc' := 15) rfl (hb hby d4_11) (by decide) (by decide) ?_
    show Steps p.tables e below (T2.setTop (mkF m 15 #[.val (.ref w_PAYLOAD_STREAM)] [(.int (1 : Int32))])) _
    exact retN X2 hx (t := .boolean) Bd.returns (by simp) (hb hby d4_15) hr
  · exact ⟨rfl, N0, e2⟩
set_option maxRecDepth 65536 in
set_option maxHeartbeats 40000000 in
theorem rm0_1 (l : Launch) (Z : State) (a0 : Array Value) (hw : ∀ d ∈ tables_1, d.before a0 Z = true) (ws : List Jvm.Cond) (n0 : Nat) (h0 : Heap) (O : Old Z n0 h0) (w_PRODUCER : Addr) (w_NOTHING : Addr) (w_PAYLOAD : Addr) (w_PROCESSOR : Addr) (w_MESSAGE_STREAM : Addr) (w_MESSAGE : Addr) (w_PAYLOAD_STREAM : Addr) (w_CONSUMER : Addr) (w_ASYNC_PROCESSOR : Addr) (w_MESSAGE_CONSUMER : Addr) (w_ASYNC_MESSAGE_PROCESSOR : Addr) (w_MESSAGE_PROCESSOR : Addr) (W : OwW Z w_PRODUCER w_NOTHING w_PAYLOAD w_PROCESSOR w_MESSAGE_STREAM w_MESSAGE w_PAYLOAD_STREAM w_CONSUMER w_ASYNC_PROCESSOR w_MESSAGE_CONSUMER w_ASYNC_MESSAGE_PROCESSOR w_MESSAGE_PROCESSOR) (p0 : Int32) (hi : (p0 &&& (2147483647 : Int32)) % (9 : Int32) = (1 : Int32)) :
    OwCon l x code maxLocals ret ws room_1 #[(.int p0)] Z h0 (OwP (fun v _ => v = some (.int 1)) n0) := by
  refine MetFree.of_bodySF (plainFor_of_name owpn0) hisR ?_
  intro p e s m args below meth c s₁ Bd hml0 hP hK
  obtain ⟨rfl, hZ, hh⟩ := hP
  have hx := Bd.exec
  have hby := Bd.bytes
  have hml : c.maxLocals = 7 := hml0
  have hown : s.vm.findClass "com/example/aizu/aizu/channels/ShapeReadsPinLaw" = some m.cls := findClass_of_methodNamed Bd.named
  have hnm := (name_of_methodNamed Bd.named Bd.method).1
  have X0 : Stand p l e room_1 s m #[(.int p0)] below meth c s₁ [] 0 0 := Stand.of_body Bd
  have e0 : s₁.heap = h0 := by rw [← hh, Bd.state]; rfl
  have N0 := Fr.nil n0
  have WW := W
  obtain ⟨E_w_PRODUCER, E_w_NOTHING, E_w_PAYLOAD, E_w_PROCESSOR, E_w_MESSAGE_STREAM, E_w_MESSAGE, E_w_PAYLOAD_STREAM, E_w_CONSUMER, E_w_ASYNC_PROCESSOR, E_w_MESSAGE_CONSUMER, E_w_ASYNC_MESSAGE_PROCESSOR, E_w_MESSAGE_PROCESSOR, S_ChannelMethod_Shape_PRODUCER, S_ChannelMethod_Kind_NOTHING, F_w_PRODUCER_takes, S_ChannelMethod_Kind_PAYLOAD, F_w_PRODUCER_gives, F_w_PAYLOAD_ordinal, F_w_NOTHING_ordinal, S_ChannelMethod_Shape_PROCESSOR, F_w_PROCESSOR_takes, S_ChannelMethod_Shape_MESSAGE_STREAM, F_w_MESSAGE_STREAM_takes, S_ChannelMethod_Kind_MESSAGE, F_w_MESSAGE_STREAM_gives, F_w_MESSAGE_ordinal, S_ChannelMethod_Shape_PAYLOAD_STREAM, F_w_PAYLOAD_STREAM_takes, F_w_PAYLOAD_STREAM_gives, S_ChannelMethod_Shape_CONSUMER, F_w_CONSUMER_takes, S_ChannelMethod_Shape_ASYNC_PROCESSOR, F_w_ASYNC_PROCESSOR_takes, S_ChannelMethod_Shape_MESSAGE_CONSUMER, F_w_MESSAGE_CONSUMER_takes, S_ChannelMethod_Shape_ASYNC_MESSAGE_PROCESSOR, F_w_ASYNC_MESSAGE_PROCESSOR_takes, S_ChannelMethod_Shape_MESSAGE_PROCESSOR, F_w_MESSAGE_PROCESSOR_takes, F_w_PROCESSOR_gives, F_w_CONSUMER_gives, F_w_ASYNC_PROCESSOR_gives, F_w_MESSAGE_CONSUMER_gives, F_w_ASYNC_MESSAGE_PROCESSOR_gives, F_w_MESSAGE_PROCESSOR_gives, ne_w_PAYLOAD_w_NOTHING, ne_w_MESSAGE_w_NOTHING, -⟩ := WW
  have ef : entryFrame m #[(.int p0)] maxLocals = mkF m 0 #[.val (.int p0), .unset, .unset, .unset, .unset, .unset, .unset] [] := by first | rfl | (simp [entryFrame, mkF, argsToLocals, Value.category, maxLocals]; done)
  have pre0 : ∀ t, Steps p.tables e below (s₁.setTop (mkF m 0 #[.val (.int p0), .unset, .unset, .unset, .unset, .unset, .unset] [])) t → Steps p.tables e below (s₁.setTop (entryFrame m #[(.int p0)] maxLocals)) t := fun t k => castTop ef k
  obtain ⟨_, _, ⟨T1, L1, k1, n1⟩, -, X1, ⟨Lc1, hQ1, l1, y1, z1⟩, st1⟩ := Jvm.LawKit.callS X0 hx (y := (⟨"com/example/aizu/aizu/channels/ShapeReadsPinLaw", "shapeAt", "(I)Lcom/example/aizu/aizu/channels/ChannelMethod$Shape;"⟩ : MethodName)) hown (mvT hZ (hw _ (List.mem_of_getElem? (i := 1) rfl))) (mvT hZ (hw _ (List.mem_of_getElem? (i := 2) rfl))) (mvT hZ (hw _ (List.mem_of_getElem? (i := 3) rfl))) (mvT hZ (hw _ (List.mem_of_getElem? (i := 4) rfl))) (by decide) (backOf (W := 0) (rm1_1 l Z a0 hw [] n0 h0 O w_PRODUCER w_NOTHING w_PAYLOAD w_PROCESSOR w_MESSAGE_STREAM w_MESSAGE w_PAYLOAD_STREAM w_CONSUMER w_ASYNC_PROCESSOR w_MESSAGE_CONSUMER w_ASYNC_MESSAGE_PROCESSOR w_MESSAGE_PROCESSOR W  ) hZ (hw _ (List.mem_of_getElem? (i := 4) rfl)) (hw _ (List.mem_of_getElem? (i := 3) rfl)) (by decide) (by decide)) (g := (mkF m 9 #[.val (.int p0), .val (.int (1 : Int32)), .unset, .unset, .unset, .unset, .unset] [(.int (1 : Int32))])) rfl (by rw [hml]; rfl) (argsL := [(.int (1 : Int32))]) (rest := []) (lenOf owpd0 rfl) rfl (by show 2 * 0 + _ ≤ _; exact Nat.le_of_eq rfl) (hb hby at_9) (fun _ _ => ⟨rfl, e0, (by decide : 0 + 0 ≤ _), (by decide : 0 + 0 ≤ _)⟩)
  dsimp only [Pt.U, Pt.locs, Pt.cells, Pt.slots] at X1 l1 y1 z1 st1 hQ1
  subst l1 y1 z1
  obtain ⟨rfl, Nq1, e1⟩ := hQ1
  have N1 := Fr.app N0 Nq1
  obtain ⟨cq2, kq2, q2a, q2b, q2c⟩ := isOf hZ e1 (E_w_PAYLOAD_STREAM.ext O.2)
  obtain ⟨_, _, ⟨T2, L2, k2, n2⟩, -, X2, ⟨Lc2, hQ2, l2, y2, z2⟩, st2⟩ := X1.virtualBack hx (y := (⟨"com/example/aizu/aizu/channels/ChannelMethod$Shape", "reads", "()Z"⟩ : MethodName)) (z := (⟨"com/example/aizu/aizu/channels/ChannelMethod$Shape", "reads", "()Z"⟩ : MethodName)) hown (mvT hZ (hw _ (List.mem_of_getElem? (i := 8) rfl))) (mvT hZ (hw _ (List.mem_of_getElem? (i := 9) rfl))) (notFace_of_selects (args := #[]) (mvT hZ (hw _ (List.mem_of_getElem? (i := 11) rfl)))) (mvT hZ (hw _ (List.mem_of_getElem? (i := 11) rfl))) (mvT hZ (hw _ (List.mem_of_getElem? (i := 10) rfl))) (by decide) (backOf (W := 0) (rm2_1 l Z a0 hw [] n0 h0 O w_PRODUCER w_NOTHING w_PAYLOAD w_PROCESSOR w_MESSAGE_STREAM w_MESSAGE w_PAYLOAD_STREAM w_CONSUMER w_ASYNC_PROCESSOR w_MESSAGE_CONSUMER w_ASYNC_MESSAGE_PROCESSOR w_MESSAGE_PROCESSOR W  ) hZ (hw _ (List.mem_of_getElem? (i := 12) rfl)) (hw _ (List.mem_of_getElem? (i := 6) rfl)) (by decide) (by decide)) q2a q2c (g := (mkF m 25 #[.val (.int p0), .val (.int (1 : Int32)), .val (.ref w_PAYLOAD_STREAM), .val (.int (0 : Int32)), .unset, .unset, .unset] [(.ref w_PAYLOAD_STREAM)])) rfl (by rw [hml]; rfl) (Steps.refl _) (argsL := []) (rest := []) (lenOf owpd1 rfl) rfl (by show 2 * 0 + _ ≤ _; exact Nat.le_of_eq rfl) (hb hby at_25) (fun _ _ => ⟨rfl, e1, (by decide : 0 + 0 ≤ _), (by decide : 0 + 0 ≤ _)⟩)
  dsimp only [Pt.U, Pt.locs, Pt.cells, Pt.slots] at X2 l2 y2 z2 st2 hQ2
  subst l2 y2 z2
  obtain ⟨rfl, Nq2, e2⟩ := hQ2
  have N2 := Fr.app N1 Nq2
  obtain ⟨cq3, kq3, q3a, q3b, q3c⟩ := isOf hZ e2 (E_w_PAYLOAD_STREAM.ext O.2)
  obtain ⟨_, _, ⟨T3, L3, k3, n3⟩, -, X3, ⟨Lc3, hQ3, l3, y3, z3⟩, st3⟩ := X2.virtualBack hx (y := (⟨"com/example/aizu/aizu/channels/ChannelMethod$Shape", "takes", "()Lcom/example/aizu/aizu/channels/ChannelMethod$Kind;"⟩ : MethodName)) (z := (⟨"com/example/aizu/aizu/channels/ChannelMethod$Shape", "takes", "()Lcom/example/aizu/aizu/channels/ChannelMethod$Kind;"⟩ : MethodName)) hown (mvT hZ (hw _ (List.mem_of_getElem? (i := 18) rfl))) (mvT hZ (hw _ (List.mem_of_getElem? (i := 19) rfl))) (notFace_of_selects (args := #[]) (mvT hZ (hw _ (List.mem_of_getElem? (i := 21) rfl)))) (mvT hZ (hw _ (List.mem_of_getElem? (i := 21) rfl))) (mvT hZ (hw _ (List.mem_of_getElem? (i := 20) rfl))) (by decide) (backOf (W := 1) (rm3_1 l Z a0 hw [] n0 h0 O w_PRODUCER w_NOTHING w_PAYLOAD w_PROCESSOR w_MESSAGE_STREAM w_MESSAGE w_PAYLOAD_STREAM w_CONSUMER w_ASYNC_PROCESSOR w_MESSAGE_CONSUMER w_ASYNC_MESSAGE_PROCESSOR w_MESSAGE_PROCESSOR W  ) hZ (hw _ (List.mem_of_getElem? (i := 22) rfl)) (hw _ (List.mem_of_getElem? (i := 6) rfl)) (by decide) (by decide)) q3a q3c (g := (mkF m 33 #[.val (.int p0), .val (.int (1 : Int32)), .val (.ref w_PAYLOAD_STREAM), .val (.int (0 : Int32)), .val (.int (0 : Int32)), .unset, .unset] [(.ref w_PAYLOAD_STREAM), (.int (0 : Int32))])) rfl (by rw [hml]; rfl) (Steps.refl _) (argsL := []) (rest := [(.int (0 : Int32))]) (lenOf owpd2 rfl) rfl (by show 2 * 0 + _ ≤ _; exact Nat.le_of_eq rfl) (hb hby at_33) (fun _ _ => ⟨rfl, e2, (by decide : 0 + 0 ≤ _), (by decide : 0 + 0 ≤ _)⟩)
  dsimp only [Pt.U, Pt.locs, Pt.cells, Pt.slots] at X3 l3 y3 z3 st3 hQ3
  subst l3 y3 z3
  obtain ⟨rfl, Nq3, e3⟩ := hQ3
  have N3 := Fr.app N2 Nq3
  obtain ⟨T4, X4, e4, st4⟩ := getS2 X3 hx hZ hown (host := "") (Or.inl (hw _ (List.mem_of_getElem? (i := 23) rfl))) Via.refl e3 (S_ChannelMethod_Kind_NOTHING.ext O.2) (g := (mkF m 36 #[.val (.int p0), .val (.int (1 : Int32)), .val (.ref w_PAYLOAD_STREAM), .val (.int (0 : Int32)), .val (.int (0 : Int32)), .unset, .unset] [(.ref w_NOTHING), (.int (0 : Int32))])) rfl (hb hby at_36)
  obtain ⟨cq5, kq5, q5a, q5b, q5c⟩ := isOf hZ e4 (E_w_PAYLOAD_STREAM.ext O.2)
  obtain ⟨_, _, ⟨T5, L5, k5, n5⟩, -, X5, ⟨Lc5, hQ5, l5, y5, z5⟩, st5⟩ := X4.virtualBack hx (y := (⟨"com/example/aizu/aizu/channels/ChannelMethod$Shape", "writes", "()Z"⟩ : MethodName)) (z := (⟨"com/example/aizu/aizu/channels/ChannelMethod$Shape", "writes", "()Z"⟩ : MethodName)) hown (mvT hZ (hw _ (List.mem_of_getElem? (i := 24) rfl))) (mvT hZ (hw _ (List.mem_of_getElem? (i := 25) rfl))) (notFace_of_selects (args := #[]) (mvT hZ (hw _ (List.mem_of_getElem? (i := 27) rfl)))) (mvT hZ (hw _ (List.mem_of_getElem? (i := 27) rfl))) (mvT hZ (hw _ (List.mem_of_getElem? (i := 26) rfl))) (by decide) (backOf (W := 0) (rm4_1 l Z a0 hw [] n0 h0 O w_PRODUCER w_NOTHING w_PAYLOAD w_PROCESSOR w_MESSAGE_STREAM w_MESSAGE w_PAYLOAD_STREAM w_CONSUMER w_ASYNC_PROCESSOR w_MESSAGE_CONSUMER w_ASYNC_MESSAGE_PROCESSOR w_MESSAGE_PROCESSOR W  ) hZ (hw _ (List.mem_of_getElem? (i := 28) rfl)) (hw _ (List.mem_of_getElem? (i := 6) rfl)) (by decide) (by decide)) q5a q5c (g := (mkF m 63 #[.val (.int p0), .val (.int (1 : Int32)), .val (.ref w_PAYLOAD_STREAM), .val (.int (0 : Int32)), .val (.int (0 : Int32)), .val (.int (1 : Int32)), .unset] [(.ref w_PAYLOAD_STREAM)])) rfl (by rw [hml]; rfl) (Steps.refl _) (argsL := []) (rest := []) (lenOf owpd1 rfl) rfl (by show 2 * 0 + _ ≤ _; exact Nat.le_of_eq rfl) (hb hby at_63) (fun _ _ => ⟨rfl, e4, (by decide : 0 + 0 ≤ _), (by decide : 0 + 0 ≤ _)⟩)
  dsimp only [Pt.U, Pt.locs, Pt.cells, Pt.slots] at X5 l5 y5 z5 st5 hQ5
  subst l5 y5 z5
  obtain ⟨rfl, Nq5, e5⟩ := hQ5
  have N5 := Fr.app N3 Nq5
  obtain ⟨fs, hr, hrun, hended, hW, hsame⟩ := X5.leave (v := some (.int (1 : Int32))) (fun h => by rw [Bd.returns] at h; cases h)
  refine ⟨_, _, pre0 _ ?_, hrun, hended, _, _, rfl, ?_, ⟨_, rfl⟩, hW, hsame.mono (by decide) (by decide)⟩
  · show Steps p.tables e below (s₁.setTop (mkF m 0 #[.val (.int p0), .unset, .unset, .unset, .unset, .unset, .unset] [])) _
    refine XS.iloadN X0.here hx rfl (hb hby at_0) rfl ?_
    show Steps p.tables e below (s₁.setTop (mkF m 1 #[.val (.int p0), .unset, .unset, .unset, .unset, .unset, .unset] [(.int p0)])) _
    refine X0.ldcInt hx hown (mvT hZ (hw _ (List.mem_of_getElem? (i := 0) rfl))) (g := (mkF m 1 #[.val (.int p0), .unset, .unset, .unset, .unset, .unset, .unset] [(.int p0)])) rfl (hb hby at_1) _ ?_
    show Steps p.tables e below (s₁.setTop (mkF m 3 #[.val (.int p0), .unset, .unset, .unset, .unset, .unset, .unset] [(.int (2147483647 : Int32)), (.int p0)])) _
    refine XS.iand X0.here hx rfl (hb hby at_3) rfl ?_
    show Steps p.tables e below (s₁.setTop (mkF m 4 #[.val (.int p0), .unset, .unset, .unset, .unset, .unset, .unset] [(.int (p0 &&& (2147483647 : Int32)))])) _
    refine XS.bipush X0.here hx rfl (hb hby at_4) ?_
    show Steps p.tables e below (s₁.setTop (mkF m 6 #[.val (.int p0), .unset, .unset, .unset, .unset, .unset, .unset] [(.int (9 : Int32)), (.int (p0 &&& (2147483647 : Int32)))])) _
    refine iremM X0 hx rfl (hb hby at_6) rfl (by decide) ?_
    show Steps p.tables e below (s₁.setTop (mkF m 7 #[.val (.int p0), .unset, .unset, .unset, .unset, .unset, .unset] [(.int ((p0 &&& (2147483647 : Int32)) % (9 : Int32)))])) _
    rw [hi]
    show Steps p.tables e below (s₁.setTop (mkF m 7 #[.val (.int p0), .unset, .unset, .unset, .unset, .unset, .unset] [(.int (1 : Int32))])) _
    refine XS.istoreN X0.here hx rfl (hb hby at_7) rfl (l' := #[.val (.int p0), .val (.int (1 : Int32)), .unset, .unset, .unset, .unset, .unset]) rfl ?_
    show Steps p.tables e below (s₁.setTop (mkF m 8 #[.val (.int p0), .val (.int (1 : Int32)), .unset, .unset, .unset, .unset, .unset] [])) _
    refine XS.iloadN X0.here hx rfl (hb hby at_8) rfl ?_
    show Steps p.tables e below (s₁.setTop (mkF m 9 #[.val (.int p0), .val (.int (1 : Int32)), .unset, .unset, .unset, .unset, .unset] [(.int (1 : Int32))])) _
    refine st1 _ ?_
    show Steps p.tables e below (T1.setTop (mkF m 12 #[.val (.int p0), .val (.int (1 : Int32)), .unset, .unset, .unset, .unset, .unset] [(.ref w_PAYLOAD_STREAM)])) _
    refine XS.astoreN X1.here hx rfl (hb hby at_12) rfl rfl (l' := #[.val (.int p0), .val (.int (1 : Int32)), .val (.ref w_PAYLOAD_STREAM), .unset, .unset, .unset, .unset]) rfl ?_
    show Steps p.tables e below (T1.setTop (mkF m 13 #[.val (.int p0), .val (.int (1 : Int32)), .val (.ref w_PAYLOAD_STREAM), .unset, .unset, .unset, .unset] [])) _
    refine XS.iloadN X1.here hx rfl (hb hby at_13) rfl ?_
    show Steps p.tables e below (T1.setTop (mkF m 14 #[.val (.int p0), .val (.int (1 : Int32)), .val (.ref w_PAYLOAD_STREAM), .unset, .unset, .unset, .unset] [(.int (1 : Int32))])) _
    refine XS.iconst X1.here hx rfl (hb hby at_14) ?_
    show Steps p.tables e below (T1.setTop (mkF m 15 #[.val (.int p0), .val (.int (1 : Int32)), .val (.ref w_PAYLOAD_STREAM), .unset, .unset, .unset, .unset] [(.int (3 : Int32)), (.int (1 : Int32))])) _
    refine XS.icmpYes X1.here hx rfl (pc0 := 15) (pc' := 22) rfl (hb hby at_15) rfl (tlt (by decide : (1 : Int32) < (3 : Int32))).1 (by decide) (by decide) ?_
    show Steps p.tables e below (T1.setTop (mkF m 22 #[.val (.int p0), .val (.int (1 : Int32)), .val (.ref w_PAYLOAD_STREAM), .unset, .unset, .unset, .unset] [])) _
    refine XS.iconst X1.here hx rfl (hb hby at_22) ?_
    show Steps p.tables e below (T1.setTop (mkF m 23 #[.val (.int p0), .val (.int (1 : Int32)), .val (.ref w_PAYLOAD_STREAM), .unset, .unset, .unset, .unset] [(.int (0 : Int32))])) _
    refine XS.istoreN X1.here hx rfl (hb hby at_23) rfl (l' := #[.val (.int p0), .val (.int (1 : Int32)), .val (.ref w_PAYLOAD_STREAM), .val (.int (0 : Int32)), .unset, .unset, .unset]) rfl ?_
    show Steps p.tables e below (T1.setTop (mkF m 24 #[.val (.int p0), .val (.int (1 : Int32)), .val (.ref w_PAYLOAD_STREAM), .val (.int (0 : Int32)), .unset, .unset, .unset] [])) _
    refine XS.aloadN X1.here hx rfl (hb hby at_24) rfl rfl ?_
    show Steps p.tables e below (T1.setTop (mkF m 25 #[.val (.int p0), .val (.int (1 : Int32)), .val (.ref w_PAYLOAD_STREAM), .val (.int (0 : Int32)), .unset, .unset, .unset] [(.ref w_PAYLOAD_STREAM)])) _
    refine st2.trans ?_
    show Steps p.tables e below (T2.setTop (mkF m 28 #[.val (.int p0), .val (.int (1 : Int32)), .val (.ref w_PAYLOAD_STREAM), .val (.int (0 : Int32)), .unset, .unset, .unset] [(.int (0 : Int32))])) _
    refine XS.istore X2.here hx rfl (hb hby at_28) rfl (l' := #[.val (.int p0), .val (.int (1 : Int32)), .val (.ref w_PAYLOAD_STREAM), .val (.int (0 : Int32)), .val (.int (0 : Int32)), .unset, .unset]) rfl ?_
    show Steps p.tables e below (T2.setTop (mkF m 30 #[.val (.int p0), .val (.int (1 : Int32)), .val (.ref w_PAYLOAD_STREAM), .val (.int (0 : Int32)), .val (.int (0 : Int32)), .unset, .unset] [])) _
    refine XS.iload X2.here hx rfl (hb hby at_30) rfl ?_
    show Steps p.tables e below (T2.setTop (mkF m 32 #[.val (.int p0), .val (.int (1 : Int32)), .val (.ref w_PAYLOAD_STREAM), .val (.int (0 : Int32)), .val (.int (0 : Int32)), .unset, .unset] [(.int (0 : Int32))])) _
    refine XS.aloadN X2.here hx rfl (hb hby at_32) rfl rfl ?_
    show Steps p.tables e below (T2.setTop (mkF m 33 #[.val (.int p0), .val (.int (1 : Int32)), .val (.ref w_PAYLOAD_STREAM), .val (.int (0 : Int32)), .val (.int (0 : Int32)), .unset, .unset] [(.ref w_PAYLOAD_STREAM), (.int (0 : Int32))])) _
    refine st3.trans ?_
    show Steps p.tables e below (T3.setTop (mkF m 36 #[.val (.int p0), .val (.int (1 : Int32)), .val (.ref w_PAYLOAD_STREAM), .val (.int (0 : Int32)), .val (.int (0 : Int32)), .unset, .unset] [(.ref w_NOTHING), (.int (0 : Int32))])) _
    refine st4 _ ?_
    show Steps p.tables e below (T4.setTop (mkF m 39 #[.val (.int p0), .val (.int (1 : Int32)), .val (.ref w_PAYLOAD_STREAM), .val (.int (0 : Int32)), .val (.int (0 : Int32)), .unset, .unset] [(.ref w_NOTHING), (.ref w_NOTHING), (.int (0 : Int32))])) _
    refine Jvm.RoadKit.acmp (g := (mkF m 39 #[.val (.int p0), .val (.int (1 : Int32)), .val (.ref w_PAYLOAD_STREAM), .val (.int (0 : Int32)), .val (.int (0 : Int32)), .unset, .unset] [(.ref w_NOTHING), (.ref w_NOTHING), (.int (0 : Int32))])) X4 hx rfl rfl rfl (pc0 := 39) (pc' := 46) (same := true) rfl (hb hby at_39) rfl (decide_eq_true rfl) (by decide) (by decide) ?_
    show Steps p.tables e below (T4.setTop (mkF m 46 #[.val (.int p0), .val (.int (1 : Int32)), .val (.ref w_PAYLOAD_STREAM), .val (.int (0 : Int32)), .val (.int (0 : Int32)), .unset, .unset] [(.int (0 : Int32))])) _
    refine XS.iconst X4.here hx rfl (hb hby at_46) ?_
    show Steps p.tables e below (T4.setTop (mkF m 47 #[.val (.int p0), .val (.int (1 : Int32)), .val (.ref w_PAYLOAD_STREAM), .val (.int (0 : Int32)), .val (.int (0 : Int32)), .unset, .unset] [(.int (0 : Int32)), (.int (0 : Int32))])) _
    refine XS.icmpNo X4.here hx rfl (hb hby at_47) rfl (teq (by decide : (0 : Int32) = (0 : Int32))).2 ?_
    show Steps p.tables e below (T4.setTop (mkF m 50 #[.val (.int p0), .val (.int (1 : Int32)), .val (.ref w_PAYLOAD_STREAM), .val (.int (0 : Int32)), .val (.int (0 : Int32)), .unset, .unset] [])) _
    refine XS.iconst X4.here hx rfl (hb hby at_50) ?_
    show Steps p.tables e below (T4.setTop (mkF m 51 #[.val (.int p0), .val (.int (1 : Int32)), .val (.ref w_PAYLOAD_STREAM), .val (.int (0 : Int32)), .val (.int (0 : Int32)), .unset, .unset] [(.int (1 : Int32))])) _
    refine XS.goto X4.here hx rfl (pc0 := 51) (pc' := 55) rfl (hb hby at_51) (by decide) (by decide) ?_
    show Steps p.tables e below (T4.setTop (mkF m 55 #[.val (.int p0), .val (.int (1 : Int32)), .val (.ref w_PAYLOAD_STREAM), .val (.int (0 : Int32)), .val (.int (0 : Int32)), .unset, .unset] [(.int (1 : Int32))])) _
    refine XS.istore X4.here hx rfl (hb hby at_55) rfl (l' := #[.val (.int p0), .val (.int (1 : Int32)), .val (.ref w_PAYLOAD_STREAM), .val (.int (0 : Int32)), .val (.int (0 : Int32)), .val (.int (1 : Int32)), .unset]) rfl ?_
    show Steps p.tables e below (T4.setTop (mkF m 57 #[.val (.int p0), .val (.int (1 : Int32)), .val (.ref w_PAYLOAD_STREAM), .val (.int (0 : Int32)), .val (.int (0 : Int32)), .val (.int (1 : Int32)), .unset] [])) _
    refine XS.iload X4.here hx rfl (hb hby at_57) rfl ?_
    show Steps p.tables e below (T4.setTop (mkF m 59 #[.val (.int p0), .val (.int (1 : Int32)), .val (.ref w_PAYLOAD_STREAM), .val (.int (0 : Int32)), .val (.int (0 : Int32)), .val (.int (1 : Int32)), .unset] [(.int (0 : Int32))])) _
    refine XS.ifNo X4.here hx rfl (hb hby at_59) rfl ((if0 _ _).trans (teq (by decide : (0 : Int32) = (0 : Int32))).2) ?_
    show Steps p.tables e below (T4.setTop (mkF m 62 #[.val (.int p0), .val (.int (1 : Int32)), .val (.ref w_PAYLOAD_STREAM), .val (.int (0 : Int32)), .val (.int (0 : Int32)), .val (.int (1 : Int32)), .unset] [])) _
    refine XS.aloadN X4.here hx rfl (hb hby at_62) rfl rfl ?_
    show Steps p.tables e below (T4.setTop (mkF m 63 #[.val (.int p0), .val (.int (1 : Int32)), .val (.ref w_PAYLOAD_STREAM), .val (.int (0 : Int32)), .val (.int (0 : Int32)), .val (.int (1 : Int32)), .unset] [(.ref w_PAYLOAD_STREAM)])) _
    refine st5.trans ?_
    show Steps p.tables e below (T5.setTop (mkF m 66 #[.val (.int p0), .val (.int (1 : Int32)), .val (.ref w_PAYLOAD_STREAM), .val (.int (0 : Int32)), .val (.int (0 : Int32)), .val (.int (1 : Int32)), .unset] [(.int (1 : Int32))])) _
    refine XS.ifNo X5.here hx rfl (hb hby at_66) rfl ((if0 _ _).trans (feq (by decide : ¬ ((1 : Int32) = (0 : Int32)))).1) ?_
    show Steps p.tables e below (T5.setTop (mkF m 69 #[.val (.int p0), .val (.int (1 : Int32)), .val (.ref w_PAYLOAD_STREAM), .val (.int (0 : Int32)), .val (.int (0 : Int32)), .val (.int (1 : Int32)), .unset] [])) _
    refine XS.iconst X5.here hx rfl (hb hby at_69) ?_
    show Steps p.tables e below (T5.setTop (mkF m 70 #[.val (.int p0), .val (.int (1 : Int32)), .val (.ref w_PAYLOAD_STREAM), .val (.int (0 : Int32)), .val (.int (0 : Int32)), .val (.int (1 : Int32)), .unset] [(.int (1 : Int32))])) _
    refine XS.goto X5.here hx rfl (pc0 := 70) (pc' := 74) rfl (hb hby at_70) (by decide) (by decide) ?_
    show Steps p.tables e below (T5.setTop (mkF m 74 #[.val (.int p0), .val (.int (1 : Int32)), .val (.ref w_PAYLOAD_STREAM), .val (.int (0 : Int32)), .val (.int (0 : Int32)), .val (.int (1 : Int32)), .unset] [(.int (1 : Int32))])) _
    refine XS.istore X5.here hx rfl (hb hby at_74) rfl (l' := #[.val (.int p0), .val (.int (1 : Int32)), .val (.ref w_PAYLOAD_STREAM), .val (.int (0 : Int32)), .val (.int (0 : Int32)), .val (.int (1 : Int32)), .val (.int (1 : Int32))]) rfl ?_
    show Steps p.tables e below (T5.setTop (mkF m 76 #[.val (.int p0), .val (.int (1 : Int32)), .val (.ref w_PAYLOAD_STREAM), .val (.int (0 : Int32)), .val (.int (0 : Int32)), .val (.int (1 : Int32)), .val (.int (1 : Int32))] [])) _
    refine XS.iload X5.here hx rfl (hb hby at_76) rfl ?_
    show Steps p.tables e below (T5.setTop (mkF m 78 #[.val (.int p0), .val (.int (1 : Int32)), .val (.ref w_PAYLOAD_STREAM), .val (.int (0 : Int32)), .val (.int (0 : Int32)), .val (.int (1 : Int32)), .val (.int (1 : Int32))] [(.int (0 : Int32))])) _
    refine XS.iloadN X5.here hx rfl (hb hby at_78) rfl ?_
    show Steps p.tables e below (T5.setTop (mkF m 79 #[.val (.int p0), .val (.int (1 : Int32)), .val (.ref w_PAYLOAD_STREAM), .val (.int (0 : Int32)), .val (.int (0 : Int32)), .val (.int (1 : Int32)), .val (.int (1 : Int32))] [(.int (0 : Int32)), (.int (0 : Int32))])) _
    refine XS.icmpNo X5.here hx rfl (hb hby at_79) rfl (teq (by decide : (0 : Int32) = (0 : Int32))).2 ?_
    show Steps p.tables e below (T5.setTop (mkF m 82 #[.val (.int p0), .val (.int (1 : Int32)), .val (.ref w_PAYLOAD_STREAM), .val (.int (0 : Int32)), .val (.int (0 : Int32)), .val (.int (1 : Int32)), .val (.int (1 : Int32))] [])) _
    refine XS.iload X5.here hx rfl (hb hby at_82) rfl ?_
    show Steps p.tables e below (T5.setTop (mkF m 84 #[.val (.int p0), .val (.int (1 : Int32)), .val (.ref w_PAYLOAD_STREAM), .val (.int (0 : Int32)), .val (.int (0 : Int32)), .val (.int (1 : Int32)), .val (.int (1 : Int32))] [(.int (1 : Int32))])) _
    refine XS.ifNo X5.here hx rfl (hb hby at_84) rfl ((if0 _ _).trans (feq (by decide : ¬ ((1 : Int32) = (0 : Int32)))).1) ?_
    show Steps p.tables e below (T5.setTop (mkF m 87 #[.val (.int p0), .val (.int (1 : Int32)), .val (.ref w_PAYLOAD_STREAM), .val (.int (0 : Int32)), .val (.int (0 : Int32)), .val (.int (1 : Int32)), .val (.int (1 : Int32))] [])) _
    refine XS.iload X5.here hx rfl (hb hby at_87) rfl ?_
    show Steps p.tables e below (T5.setTop (mkF m 89 #[.val (.int p0), .val (.int (1 : Int32)), .val (.ref w_PAYLOAD_STREAM), .val (.int (0 : Int32)), .val (.int (0 : Int32)), .val (.int (1 : Int32)), .val (.int (1 : Int32))] [(.int (1 : Int32))])) _
    refine XS.ifNo X5.here hx rfl (hb hby at_89) rfl ((if0 _ _).trans (feq (by decide : ¬ ((1 : Int32) = (0 : Int32)))).1) ?_
    show Steps p.tables e below (T5.setTop (mkF m 92 #[.val (.int p0), .val (.int (1 : Int32)), .val (.ref w_PAYLOAD_STREAM), .val (.int (0 : Int32)), .val (.int (0 : Int32)), .val (.int (1 : Int32)), .val (.int (1 : Int32))] [])) _
    refine XS.iconst X5.here hx rfl (hb hby at_92) ?_
    show Steps p.tables e below (T5.setTop (mkF m 93 #[.val (.int p0), .val (.int (1 : Int32)), .val (.ref w_PAYLOAD_STREAM), .val (.int (0 : Int32)), .val (.int (0 : Int32)), .val (.int (1 : Int32)), .val (.int (1 : Int32))] [(.int (1 : Int32))])) _
    refine XS.goto X5.here hx rfl (pc0 := 93) (pc' := 97) rfl (hb hby at_93) (by decide) (by decide) ?_
    show Steps p.tables e below (T5.setTop (mkF m 97 #[.val (.int p0), .val (.int (1 : Int32)), .val (.ref w_PAYLOAD_STREAM), .val (.int (0 : Int32)), .val (.int (0 : Int32)), .val (.int (1 : Int32)), .val (.int (1 : Int32))] [(.int (1 : Int32))])) _
    exact retN X5 hx (t := .boolean) Bd.returns (by simp) (hb hby at_97) hr
  · exact ⟨N5, rfl⟩
set_option maxRecDepth 65536 in
set_option maxHeartbeats 40000000 in
theorem rm1_2 (l : Launch) (Z : State) (a0 : Array Value) (hw : ∀ d ∈ tables_1, d.before a0 Z = true) (ws : List Jvm.Cond) (n0 : Nat) (h0 : Heap) (O : Old Z n0 h0) (w_PRODUCER : Addr) (w_NOTHING : Addr) (w_PAYLOAD : Addr) (w_PROCESSOR : Addr) (w_MESSAGE_STREAM : Addr) (w_MESSAGE : Addr) (w_PAYLOAD_STREAM : Addr) (w_CONSUMER : Addr) (w_ASYNC_PROCESSOR : Addr) (w_MESSAGE_CONSUMER : Addr) (w_ASYNC_MESSAGE_PROCESSOR : Addr) (w_MESSAGE_PROCESSOR : Addr) (W : OwW Z w_PRODUCER w_NOTHING w_PAYLOAD w_PROCESSOR w_MESSAGE_STREAM w_MESSAGE w_PAYLOAD_STREAM w_CONSUMER w_ASYNC_PROCESSOR w_MESSAGE_CONSUMER w_ASYNC_MESSAGE_PROCESSOR w_MESSAGE_PROCESSOR)  :
    OwCon l (⟨"com/example/aizu/aizu/channels/ShapeReadsPinLaw", "shapeAt", "(I)Lcom/example/aizu/aizu/channels/ChannelMethod$Shape;"⟩ : MethodName) method_3_code 1 (some (.object "com/example/aizu/aizu/channels/ChannelMethod$Shape")) ws ({ frames := 0, cells := 0, slots := 0, locals := 0 } : Room) #[(.int (2 : Int32))] Z h0 (OwQ (some (.ref w_MESSAGE_STREAM)) h0 n0) := by
  refine MetFree.of_bodySF (plainFor_of_name owpn1) hisR ?_
  intro p e s m args below meth c s₁ Bd hml0 hP hK
  obtain ⟨rfl, hZ, hh⟩ := hP
  have hx := Bd.exec
  have hby := Bd.bytes
  have hml : c.maxLocals = 1 := hml0
  have hown : s.vm.findClass "com/example/aizu/aizu/channels/ShapeReadsPinLaw" = some m.cls := findClass_of_methodNamed Bd.named
  have hnm := (name_of_methodNamed Bd.named Bd.method).1
  have X0 : Stand p l e ({ frames := 0, cells := 0, slots := 0, locals := 0 } : Room) s m #[(.int (2 : Int32))] below meth c s₁ [] 0 0 := Stand.of_body Bd
  have e0 : s₁.heap = h0 := by rw [← hh, Bd.state]; rfl
  have N0 := Fr.nil n0
  have WW := W
  obtain ⟨E_w_PRODUCER, E_w_NOTHING, E_w_PAYLOAD, E_w_PROCESSOR, E_w_MESSAGE_STREAM, E_w_MESSAGE, E_w_PAYLOAD_STREAM, E_w_CONSUMER, E_w_ASYNC_PROCESSOR, E_w_MESSAGE_CONSUMER, E_w_ASYNC_MESSAGE_PROCESSOR, E_w_MESSAGE_PROCESSOR, S_ChannelMethod_Shape_PRODUCER, S_ChannelMethod_Kind_NOTHING, F_w_PRODUCER_takes, S_ChannelMethod_Kind_PAYLOAD, F_w_PRODUCER_gives, F_w_PAYLOAD_ordinal, F_w_NOTHING_ordinal, S_ChannelMethod_Shape_PROCESSOR, F_w_PROCESSOR_takes, S_ChannelMethod_Shape_MESSAGE_STREAM, F_w_MESSAGE_STREAM_takes, S_ChannelMethod_Kind_MESSAGE, F_w_MESSAGE_STREAM_gives, F_w_MESSAGE_ordinal, S_ChannelMethod_Shape_PAYLOAD_STREAM, F_w_PAYLOAD_STREAM_takes, F_w_PAYLOAD_STREAM_gives, S_ChannelMethod_Shape_CONSUMER, F_w_CONSUMER_takes, S_ChannelMethod_Shape_ASYNC_PROCESSOR, F_w_ASYNC_PROCESSOR_takes, S_ChannelMethod_Shape_MESSAGE_CONSUMER, F_w_MESSAGE_CONSUMER_takes, S_ChannelMethod_Shape_ASYNC_MESSAGE_PROCESSOR, F_w_ASYNC_MESSAGE_PROCESSOR_takes, S_ChannelMethod_Shape_MESSAGE_PROCESSOR, F_w_MESSAGE_PROCESSOR_takes, F_w_PROCESSOR_gives, F_w_CONSUMER_gives, F_w_ASYNC_PROCESSOR_gives, F_w_MESSAGE_CONSUMER_gives, F_w_ASYNC_MESSAGE_PROCESSOR_gives, F_w_MESSAGE_PROCESSOR_gives, ne_w_PAYLOAD_w_NOTHING, ne_w_MESSAGE_w_NOTHING, -⟩ := WW
  have ef : entryFrame m #[(.int (2 : Int32))] 1 = mkF m 0 #[.val (.int (2 : Int32))] [] := by first | rfl | (simp [entryFrame, mkF, argsToLocals, Value.category]; done)
  have pre0 : ∀ t, Steps p.tables e below (s₁.setTop (mkF m 0 #[.val (.int (2 : Int32))] [])) t → Steps p.tables e below (s₁.setTop (entryFrame m #[(.int (2 : Int32))] 1)) t := fun t k => castTop ef k
  obtain ⟨T1, X1, e1, st1⟩ := getS2 X0 hx hZ hown (host := "") (Or.inl (hw _ (List.mem_of_getElem? (i := 34) rfl))) Via.refl e0 (S_ChannelMethod_Shape_MESSAGE_STREAM.ext O.2) (g := (mkF m 22 #[.val (.int (2 : Int32))] [])) rfl (hb hby d1_22)
  obtain ⟨fs, hr, hrun, hended, hW, hsame⟩ := X1.leave (v := some (.ref w_MESSAGE_STREAM)) (fun h => by rw [Bd.returns] at h; cases h)
  refine ⟨_, _, pre0 _ ?_, hrun, hended, _, _, rfl, ?_, ⟨_, rfl⟩, hW, hsame.mono (by decide) (by decide)⟩
  · show Steps p.tables e below (s₁.setTop (mkF m 0 #[.val (.int (2 : Int32))] [])) _
    refine XS.iloadN X0.here hx rfl (hb hby d1_0) rfl ?_
    show Steps p.tables e below (s₁.setTop (mkF m 1 #[.val (.int (2 : Int32))] [(.int (2 : Int32))])) _
    refine XS.ifYes X0.here hx rfl (pc0 := 1) (pc' := 8) rfl (hb hby d1_1) rfl ((if0 _ _).trans (feq (by decide : ¬ ((2 : Int32) = (0 : Int32)))).2) (by decide) (by decide) ?_
    show Steps p.tables e below (s₁.setTop (mkF m 8 #[.val (.int (2 : Int32))] [])) _
    refine XS.iloadN X0.here hx rfl (hb hby d1_8) rfl ?_
    show Steps p.tables e below (s₁.setTop (mkF m 9 #[.val (.int (2 : Int32))] [(.int (2 : Int32))])) _
    refine XS.iconst X0.here hx rfl (hb hby d1_9) ?_
    show Steps p.tables e below (s₁.setTop (mkF m 10 #[.val (.int (2 : Int32))] [(.int (1 : Int32)), (.int (2 : Int32))])) _
    refine XS.icmpYes X0.here hx rfl (pc0 := 10) (pc' := 17) rfl (hb hby d1_10) rfl (feq (by decide : ¬ ((2 : Int32) = (1 : Int32)))).2 (by decide) (by decide) ?_
    show Steps p.tables e below (s₁.setTop (mkF m 17 #[.val (.int (2 : Int32))] [])) _
    refine XS.iloadN X0.here hx rfl (hb hby d1_17) rfl ?_
    show Steps p.tables e below (s₁.setTop (mkF m 18 #[.val (.int (2 : Int32))] [(.int (2 : Int32))])) _
    refine XS.iconst X0.here hx rfl (hb hby d1_18) ?_
    show Steps p.tables e below (s₁.setTop (mkF m 19 #[.val (.int (2 : Int32))] [(.int (2 : Int32)), (.int (2 : Int32))])) _
    refine XS.icmpNo X0.here hx rfl (hb hby d1_19) rfl (teq (by decide : (2 : Int32) = (2 : Int32))).2 ?_
    show Steps p.tables e below (s₁.setTop (mkF m 22 #[.val (.int (2 : Int32))] [])) _
    refine st1 _ ?_
    show Steps p.tables e below (T1.setTop (mkF m 25 #[.val (.int (2 : Int32))] [(.ref w_MESSAGE_STREAM)])) _
    exact retOut X1 hx Bd.returns rfl (Or.inr (Or.inr (Or.inr (Or.inr ⟨rfl, rfl, rfl⟩)))) (hb hby d1_25) hr
  · exact ⟨rfl, N0, e1⟩
set_option maxRecDepth 65536 in
set_option maxHeartbeats 40000000 in
theorem rm2_2 (l : Launch) (Z : State) (a0 : Array Value) (hw : ∀ d ∈ tables_1, d.before a0 Z = true) (ws : List Jvm.Cond) (n0 : Nat) (h0 : Heap) (O : Old Z n0 h0) (w_PRODUCER : Addr) (w_NOTHING : Addr) (w_PAYLOAD : Addr) (w_PROCESSOR : Addr) (w_MESSAGE_STREAM : Addr) (w_MESSAGE : Addr) (w_PAYLOAD_STREAM : Addr) (w_CONSUMER : Addr) (w_ASYNC_PROCESSOR : Addr) (w_MESSAGE_CONSUMER : Addr) (w_ASYNC_MESSAGE_PROCESSOR : Addr) (w_MESSAGE_PROCESSOR : Addr) (W : OwW Z w_PRODUCER w_NOTHING w_PAYLOAD w_PROCESSOR w_MESSAGE_STREAM w_MESSAGE w_PAYLOAD_STREAM w_CONSUMER w_ASYNC_PROCESSOR w_MESSAGE_CONSUMER w_ASYNC_MESSAGE_PROCESSOR w_MESSAGE_PROCESSOR)  :
    OwCon l (⟨"com/example/aizu/aizu/channels/ChannelMethod$Shape", "reads", "()Z"⟩ : MethodName) prog_6_method_7_code 1 (some .boolean) ws ({ frames := 0, cells := 0, slots := 0, locals := 0 } : Room) #[(.ref w_MESSAGE_STREAM)] Z h0 (OwQ (some (.int (0 : Int32))) h0 n0) := by
  refine MetFree.of_bodySF (plainFor_of_name owpn2) hisR ?_
  intro p e s m args below meth c s₁ Bd hml0 hP hK
  obtain ⟨rfl, hZ, hh⟩ := hP
  have hx := Bd.exec
  have hby := Bd.bytes
  have hml : c.maxLocals = 1 := hml0
  have hown : s.vm.findClass "com/example/aizu/aizu/channels/ChannelMethod$Shape" = some m.cls := findClass_of_methodNamed Bd.named
  have hnm := (name_of_methodNamed Bd.named Bd.method).1
  have X0 : Stand p l e ({ frames := 0, cells := 0, slots := 0, locals := 0 } : Room) s m #[(.ref w_MESSAGE_STREAM)] below meth c s₁ [] 0 0 := Stand.of_body Bd
  have e0 : s₁.heap = h0 := by rw [← hh, Bd.state]; rfl
  have N0 := Fr.nil n0
  have WW := W
  obtain ⟨E_w_PRODUCER, E_w_NOTHING, E_w_PAYLOAD, E_w_PROCESSOR, E_w_MESSAGE_STREAM, E_w_MESSAGE, E_w_PAYLOAD_STREAM, E_w_CONSUMER, E_w_ASYNC_PROCESSOR, E_w_MESSAGE_CONSUMER, E_w_ASYNC_MESSAGE_PROCESSOR, E_w_MESSAGE_PROCESSOR, S_ChannelMethod_Shape_PRODUCER, S_ChannelMethod_Kind_NOTHING, F_w_PRODUCER_takes, S_ChannelMethod_Kind_PAYLOAD, F_w_PRODUCER_gives, F_w_PAYLOAD_ordinal, F_w_NOTHING_ordinal, S_ChannelMethod_Shape_PROCESSOR, F_w_PROCESSOR_takes, S_ChannelMethod_Shape_MESSAGE_STREAM, F_w_MESSAGE_STREAM_takes, S_ChannelMethod_Kind_MESSAGE, F_w_MESSAGE_STREAM_gives, F_w_MESSAGE_ordinal, S_ChannelMethod_Shape_PAYLOAD_STREAM, F_w_PAYLOAD_STREAM_takes, F_w_PAYLOAD_STREAM_gives, S_ChannelMethod_Shape_CONSUMER, F_w_CONSUMER_takes, S_ChannelMethod_Shape_ASYNC_PROCESSOR, F_w_ASYNC_PROCESSOR_takes, S_ChannelMethod_Shape_MESSAGE_CONSUMER, F_w_MESSAGE_CONSUMER_takes, S_ChannelMethod_Shape_ASYNC_MESSAGE_PROCESSOR, F_w_ASYNC_MESSAGE_PROCESSOR_takes, S_ChannelMethod_Shape_MESSAGE_PROCESSOR, F_w_MESSAGE_PROCESSOR_takes, F_w_PROCESSOR_gives, F_w_CONSUMER_gives, F_w_ASYNC_PROCESSOR_gives, F_w_MESSAGE_CONSUMER_gives, F_w_ASYNC_MESSAGE_PROCESSOR_gives, F_w_MESSAGE_PROCESSOR_gives, ne_w_PAYLOAD_w_NOTHING, ne_w_MESSAGE_w_NOTHING, -⟩ := WW
  have ef : entryFrame m #[(.ref w_MESSAGE_STREAM)] 1 = mkF m 0 #[.val (.ref w_MESSAGE_STREAM)] [] := by first | rfl | (simp [entryFrame, mkF, argsToLocals, Value.category]; done)
  have pre0 : ∀ t, Steps p.tables e below (s₁.setTop (mkF m 0 #[.val (.ref w_MESSAGE_STREAM)] [])) t → Steps p.tables e below (s₁.setTop (entryFrame m #[(.ref w_MESSAGE_STREAM)] 1)) t := fun t k => castTop ef k
  obtain ⟨T1, X1, e1, st1⟩ := getF X0 hx hZ hown (host := "") (Or.inl (hw _ (List.mem_of_getElem? (i := 13) rfl))) Via.refl e0 (F_w_MESSAGE_STREAM_takes.ext O.2) (g := (mkF m 1 #[.val (.ref w_MESSAGE_STREAM)] [(.ref w_MESSAGE_STREAM)])) rfl rfl (hb hby d2_1)
  obtain ⟨T2, X2, e2, st2⟩ := getS2 X1 hx hZ hown (host := "") (Or.inl (hw _ (List.mem_of_getElem? (i := 17) rfl))) Via.refl e1 (S_ChannelMethod_Kind_NOTHING.ext O.2) (g := (mkF m 4 #[.val (.ref w_MESSAGE_STREAM)] [(.ref w_NOTHING)])) rfl (hb hby d2_4)
  obtain ⟨fs, hr, hrun, hended, hW, hsame⟩ := X2.leave (v := some (.int (0 : Int32))) (fun h => by rw [Bd.returns] at h; cases h)
  refine ⟨_, _, pre0 _ ?_, hrun, hended, _, _, rfl, ?_, ⟨_, rfl⟩, hW, hsame.mono (by decide) (by decide)⟩
  · show Steps p.tables e below (s₁.setTop (mkF m 0 #[.val (.ref w_MESSAGE_STREAM)] [])) _
    refine XS.aloadN X0.here hx rfl (hb hby d2_0) rfl rfl ?_
    show Steps p.tables e below (s₁.setTop (mkF m 1 #[.val (.ref w_MESSAGE_STREAM)] [(.ref w_MESSAGE_STREAM)])) _
    refine st1 _ ?_
    show Steps p.tables e below (T1.setTop (mkF m 4 #[.val (.ref w_MESSAGE_STREAM)] [(.ref w_NOTHING)])) _
    refine st2 _ ?_
    show Steps p.tables e below (T2.setTop (mkF m 7 #[.val (.ref w_MESSAGE_STREAM)] [(.ref w_NOTHING), (.ref w_NOTHING)])) _
    refine Jvm.RoadKit.acmp (g := (mkF m 7 #[.val (.ref w_MESSAGE_STREAM)] [(.ref w_NOTHING), (.ref w_NOTHING)])) X2 hx rfl rfl rfl (pc0 := 7) (pc' := 14) (same := true) rfl (hb hby d2_7) rfl (decide_eq_true rfl) (by decide) (by decide) ?_
    show Steps p.tables e below (T2.setTop (mkF m 14 #[.val (.ref w_MESSAGE_STREAM)] [])) _
    refine XS.iconst X2.here hx rfl (hb hby d2_14) ?_
    show Steps p.tables e below (T2.setTop (mkF m 15 #[.val (.ref w_MESSAGE_STREAM)] [(.int (0 : Int32))])) _
    exact retN X2 hx (t := .boolean) Bd.returns (by simp) (hb hby d2_15) hr
  · exact ⟨rfl, N0, e2⟩
set_option maxRecDepth 65536 in
set_option maxHeartbeats 40000000 in
theorem rm3_2 (l : Launch) (Z : State) (a0 : Array Value) (hw : ∀ d ∈ tables_1, d.before a0 Z = true) (ws : List Jvm.Cond) (n0 : Nat) (h0 : Heap) (O : Old Z n0 h0) (w_PRODUCER : Addr) (w_NOTHING : Addr) (w_PAYLOAD : Addr) (w_PROCESSOR : Addr) (w_MESSAGE_STREAM : Addr) (w_MESSAGE : Addr) (w_PAYLOAD_STREAM : Addr) (w_CONSUMER : Addr) (w_ASYNC_PROCESSOR : Addr) (w_MESSAGE_CONSUMER : Addr) (w_ASYNC_MESSAGE_PROCESSOR : Addr) (w_MESSAGE_PROCESSOR : Addr) (W : OwW Z w_PRODUCER w_NOTHING w_PAYLOAD w_PROCESSOR w_MESSAGE_STREAM w_MESSAGE w_PAYLOAD_STREAM w_CONSUMER w_ASYNC_PROCESSOR w_MESSAGE_CONSUMER w_ASYNC_MESSAGE_PROCESSOR w_MESSAGE_PROCESSOR)  :
    OwCon l (⟨"com/example/aizu/aizu/channels/ChannelMethod$Shape", "takes", "()Lcom/example/aizu/aizu/channels/ChannelMethod$Kind;"⟩ : MethodName) prog_6_method_4_code 1 (some (.object "com/example/aizu/aizu/channels/ChannelMethod$Kind")) ws ({ frames := 0, cells := 0, slots := 0, locals := 0 } : Room) #[(.ref w_MESSAGE_STREAM)] Z h0 (OwQ (some (.ref w_NOTHING)) h0 n0) := by
  refine MetFree.of_bodySF (plainFor_of_name owpn3) hisR ?_
  intro p e s m args below meth c s₁ Bd hml0 hP hK
  obtain ⟨rfl, hZ, hh⟩ := hP
  have hx := Bd.exec
  have hby := Bd.bytes
  have hml : c.maxLocals = 1 := hml0
  have hown : s.vm.findClass "com/example/aizu/aizu/channels/ChannelMethod$Shape" = some m.cls := findClass_of_methodNamed Bd.named
  have hnm := (name_of_methodNamed Bd.named Bd.method).1
  have X0 : Stand p l e ({ frames := 0, cells := 0, slots := 0, locals := 0 } : Room) s m #[(.ref w_MESSAGE_STREAM)] below meth c s₁ [] 0 0 := Stand.of_body Bd
  have e0 : s₁.heap = h0 := by rw [← hh, Bd.state]; rfl
  have N0 := Fr.nil n0
  have WW := W
  obtain ⟨E_w_PRODUCER, E_w_NOTHING, E_w_PAYLOAD, E_w_PROCESSOR, E_w_MESSAGE_STREAM, E_w_MESSAGE, E_w_PAYLOAD_STREAM, E_w_CONSUMER, E_w_ASYNC_PROCESSOR, E_w_MESSAGE_CONSUMER, E_w_ASYNC_MESSAGE_PROCESSOR, E_w_MESSAGE_PROCESSOR, S_ChannelMethod_Shape_PRODUCER, S_ChannelMethod_Kind_NOTHING, F_w_PRODUCER_takes, S_ChannelMethod_Kind_PAYLOAD, F_w_PRODUCER_gives, F_w_PAYLOAD_ordinal, F_w_NOTHING_ordinal, S_ChannelMethod_Shape_PROCESSOR, F_w_PROCESSOR_takes, S_ChannelMethod_Shape_MESSAGE_STREAM, F_w_MESSAGE_STREAM_takes, S_ChannelMethod_Kind_MESSAGE, F_w_MESSAGE_STREAM_gives, F_w_MESSAGE_ordinal, S_ChannelMethod_Shape_PAYLOAD_STREAM, F_w_PAYLOAD_STREAM_takes, F_w_PAYLOAD_STREAM_gives, S_ChannelMethod_Shape_CONSUMER, F_w_CONSUMER_takes, S_ChannelMethod_Shape_ASYNC_PROCESSOR, F_w_ASYNC_PROCESSOR_takes, S_ChannelMethod_Shape_MESSAGE_CONSUMER, F_w_MESSAGE_CONSUMER_takes, S_ChannelMethod_Shape_ASYNC_MESSAGE_PROCESSOR, F_w_ASYNC_MESSAGE_PROCESSOR_takes, S_ChannelMethod_Shape_MESSAGE_PROCESSOR, F_w_MESSAGE_PROCESSOR_takes, F_w_PROCESSOR_gives, F_w_CONSUMER_gives, F_w_ASYNC_PROCESSOR_gives, F_w_MESSAGE_CONSUMER_gives, F_w_ASYNC_MESSAGE_PROCESSOR_gives, F_w_MESSAGE_PROCESSOR_gives, ne_w_PAYLOAD_w_NOTHING, ne_w_MESSAGE_w_NOTHING, -⟩ := WW
  have ef : entryFrame m #[(.ref w_MESSAGE_STREAM)] 1 = mkF m 0 #[.val (.ref w_MESSAGE_STREAM)] [] := by first | rfl | (simp [entryFrame, mkF, argsToLocals, Value.category]; done)
  have pre0 : ∀ t, Steps p.tables e below (s₁.setTop (mkF m 0 #[.val (.ref w_MESSAGE_STREAM)] [])) t → Steps p.tables e below (s₁.setTop (entryFrame m #[(.ref w_MESSAGE_STREAM)] 1)) t := fun t k => castTop ef k
  obtain ⟨T1, X1, e1, st1⟩ := getF X0 hx hZ hown (host := "") (Or.inl (hw _ (List.mem_of_getElem? (i := 13) rfl))) Via.refl e0 (F_w_MESSAGE_STREAM_takes.ext O.2) (g := (mkF m 1 #[.val (.ref w_MESSAGE_STREAM)] [(.ref w_MESSAGE_STREAM)])) rfl rfl (hb hby d3_1)
  obtain ⟨fs, hr, hrun, hended, hW, hsame⟩ := X1.leave (v := some (.ref w_NOTHING)) (fun h => by rw [Bd.returns] at h; cases h)
  refine ⟨_, _, pre0 _ ?_, hrun, hended, _, _, rfl, ?_, ⟨_, rfl⟩, hW, hsame.mono (by decide) (by decide)⟩
  · show Steps p.tables e below (s₁.setTop (mkF m 0 #[.val (.ref w_MESSAGE_STREAM)] [])) _
    refine XS.aloadN X0.here hx rfl (hb hby d3_0) rfl rfl ?_
    show Steps p.tables e below (s₁.setTop (mkF m 1 #[.val (.ref w_MESSAGE_STREAM)] [(.ref w_MESSAGE_STREAM)])) _
    refine st1 _ ?_
    show Steps p.tables e below (T1.setTop (mkF m 4 #[.val (.ref w_MESSAGE_STREAM)] [(.ref w_NOTHING)])) _
    exact retOut X1 hx Bd.returns rfl (Or.inr (Or.inr (Or.inr (Or.inr ⟨rfl, rfl, rfl⟩)))) (hb hby d3_4) hr
  · exact ⟨rfl, N0, e1⟩
set_option maxRecDepth 65536 in
set_option maxHeartbeats 40000000 in
theorem rm4_2 (l : Launch) (Z : State) (a0 : Array Value) (hw : ∀ d ∈ tables_1, d.before a0 Z = true) (ws : List Jvm.Cond) (n0 : Nat) (h0 : Heap) (O : Old Z n0 h0) (w_PRODUCER : Addr) (w_NOTHING : Addr) (w_PAYLOAD : Addr) (w_PROCESSOR : Addr) (w_MESSAGE_STREAM : Addr) (w_MESSAGE : Addr) (w_PAYLOAD_STREAM : Addr) (w_CONSUMER : Addr) (w_ASYNC_PROCESSOR : Addr) (w_MESSAGE_CONSUMER : Addr) (w_ASYNC_MESSAGE_PROCESSOR : Addr) (w_MESSAGE_PROCESSOR : Addr) (W : OwW Z w_PRODUCER w_NOTHING w_PAYLOAD w_PROCESSOR w_MESSAGE_STREAM w_MESSAGE w_PAYLOAD_STREAM w_CONSUMER w_ASYNC_PROCESSOR w_MESSAGE_CONSUMER w_ASYNC_MESSAGE_PROCESSOR w_MESSAGE_PROCESSOR)  :
    OwCon l (⟨"com/example/aizu/aizu/channels/ChannelMethod$Shape", "writes", "()Z"⟩ : MethodName) prog_6_method_8_code 1 (some .boolean) ws ({ frames := 0, cells := 0, slots := 0, locals := 0 } : Room) #[(.ref w_MESSAGE_STREAM)] Z h0 (OwQ (some (.int (1 : Int32))) h0 n0) := by
  refine MetFree.of_bodySF (plainFor_of_name owpn4) hisR ?_
  intro p e s m args below meth c s₁ Bd hml0 hP hK
  obtain ⟨rfl, hZ, hh⟩ := hP
  have hx := Bd.exec
  have hby := Bd.bytes
  have hml : c.maxLocals = 1 := hml0
  have hown : s.vm.findClass "com/example/aizu/aizu/channels/ChannelMethod$Shape" = some m.cls := findClass_of_methodNamed Bd.named
  have hnm := (name_of_methodNamed Bd.named Bd.method).1
  have X0 : Stand p l e ({ frames := 0, cells := 0, slots := 0, locals := 0 } : Room) s m #[(.ref w_MESSAGE_STREAM)] below meth c s₁ [] 0 0 := Stand.of_body Bd
  have e0 : s₁.heap = h0 := by rw [← hh, Bd.state]; rfl
  have N0 := Fr.nil n0
  have WW := W
  obtain ⟨E_w_PRODUCER, E_w_NOTHING, E_w_PAYLOAD, E_w_PROCESSOR, E_w_MESSAGE_STREAM, E_w_MESSAGE, E_w_PAYLOAD_STREAM, E_w_CONSUMER, E_w_ASYNC_PROCESSOR, E_w_MESSAGE_CONSUMER, E_w_ASYNC_MESSAGE_PROCESSOR, E_w_MESSAGE_PROCESSOR, S_ChannelMethod_Shape_PRODUCER, S_ChannelMethod_Kind_NOTHING, F_w_PRODUCER_takes, S_ChannelMethod_Kind_PAYLOAD, F_w_PRODUCER_gives, F_w_PAYLOAD_ordinal, F_w_NOTHING_ordinal, S_ChannelMethod_Shape_PROCESSOR, F_w_PROCESSOR_takes, S_ChannelMethod_Shape_MESSAGE_STREAM, F_w_MESSAGE_STREAM_takes, S_ChannelMethod_Kind_MESSAGE, F_w_MESSAGE_STREAM_gives, F_w_MESSAGE_ordinal, S_ChannelMethod_Shape_PAYLOAD_STREAM, F_w_PAYLOAD_STREAM_takes, F_w_PAYLOAD_STREAM_gives, S_ChannelMethod_Shape_CONSUMER, F_w_CONSUMER_takes, S_ChannelMethod_Shape_ASYNC_PROCESSOR, F_w_ASYNC_PROCESSOR_takes, S_ChannelMethod_Shape_MESSAGE_CONSUMER, F_w_MESSAGE_CONSUMER_takes, S_ChannelMethod_Shape_ASYNC_MESSAGE_PROCESSOR, F_w_ASYNC_MESSAGE_PROCESSOR_takes, S_ChannelMethod_Shape_MESSAGE_PROCESSOR, F_w_MESSAGE_PROCESSOR_takes, F_w_PROCESSOR_gives, F_w_CONSUMER_gives, F_w_ASYNC_PROCESSOR_gives, F_w_MESSAGE_CONSUMER_gives, F_w_ASYNC_MESSAGE_PROCESSOR_gives, F_w_MESSAGE_PROCESSOR_gives, ne_w_PAYLOAD_w_NOTHING, ne_w_MESSAGE_w_NOTHING, -⟩ := WW
  have ef : entryFrame m #[(.ref w_MESSAGE_STREAM)] 1 = mkF m 0 #[.val (.ref w_MESSAGE_STREAM)] [] := by first | rfl | (simp [entryFrame, mkF, argsToLocals, Value.category]; done)
  have pre0 : ∀ t, Steps p.tables e below (s₁.setTop (mkF m 0 #[.val (.ref w_MESSAGE_STREAM)] [])) t → Steps p.tables e below (s₁.setTop (entryFrame m #[(.ref w_MESSAGE_STREAM)] 1)) t := fun t k => castTop ef k
  obtain ⟨T1, X1, e1, st1⟩ := getF X0 hx hZ hown (host := "") (Or.inl (hw _ (List.mem_of_getElem? (i := 29) rfl))) Via.refl e0 (F_w_MESSAGE_STREAM_gives.ext O.2) (g := (mkF m 1 #[.val (.ref w_MESSAGE_STREAM)] [(.ref w_MESSAGE_STREAM)])) rfl rfl (hb hby d4_1)
  obtain ⟨T2, X2, e2, st2⟩ := getS2 X1 hx hZ hown (host := "") (Or.inl (hw _ (List.mem_of_getElem? (i := 17) rfl))) Via.refl e1 (S_ChannelMethod_Kind_NOTHING.ext O.2) (g := (mkF m 4 #[.val (.ref w_MESSAGE_STREAM)] [(.ref w_MESSAGE)])) rfl (hb hby d4_4)
  obtain ⟨fs, hr, hrun, hended, hW, hsame⟩ := X2.leave (v := some (.int (1 : Int32))) (fun h => by rw [Bd.returns] at h; cases h)
  refine ⟨_, _, pre0 _ ?_, hrun, hended, _, _, rfl, ?_, ⟨_, rfl⟩, hW, hsame.mono (by decide) (by decide)⟩
  · show Steps p.tables e below (s₁.setTop (mkF m 0 #[.val (.ref w_MESSAGE_STREAM)] [])) _
    refine XS.aloadN X0.here hx rfl (hb hby d4_0) rfl rfl ?_
    show Steps p.tables e below (s₁.setTop (mkF m 1 #[.val (.ref w_MESSAGE_STREAM)] [(.ref w_MESSAGE_STREAM)])) _
    refine st1 _ ?_
    show Steps p.tables e below (T1.setTop (mkF m 4 #[.val (.ref w_MESSAGE_STREAM)] [(.ref w_MESSAGE)])) _
    refine st2 _ ?_
    show Steps p.tables e below (T2.setTop (mkF m 7 #[.val (.ref w_MESSAGE_STREAM)] [(.ref w_NOTHING), (.ref w_MESSAGE)])) _
    refine Jvm.RoadKit.acmp (g := (mkF m 7 #[.val (.ref w_MESSAGE_STREAM)] [(.ref w_NOTHING), (.ref w_MESSAGE)])) X2 hx rfl rfl rfl (pc0 := 7) (pc' := 10) (same := false) rfl (hb hby d4_7) rfl (decide_eq_false fun q => ne_w_MESSAGE_w_NOTHING (Value.ref.inj q)) (by decide) (by decide) ?_
    show Steps p.tables e below (T2.setTop (mkF m 10 #[.val (.ref w_MESSAGE_STREAM)] [])) _
    refine XS.iconst X2.here hx rfl (hb hby d4_10) ?_
    show Steps p.tables e below (T2.setTop (mkF m 11 #[.val (.ref w_MESSAGE_STREAM)] [(.int (1 : Int32))])) _
    refine XS.goto X2.here hx rfl (pc0 := 11) (pc' := 15) rfl (hb hby d4_11) (by decide) (by decide) ?_
    show Steps p.tables e below (T2.setTop (mkF m 15 #[.val (.ref w_MESSAGE_STREAM)] [(.int (1 : Int32))])) _
    exact retN X2 hx (t := .boolean) Bd.returns (by simp) (hb hby d4_15) hr
  · exact ⟨rfl, N0, e2⟩
set_option maxRecDepth 65536 in
set_option maxHeartbeats 40000000 in
theorem rm0_2 (l : Launch) (Z : State) (a0 : Array Value) (hw : ∀ d ∈ tables_1, d.before a0 Z = true) (ws : List Jvm.Cond) (n0 : Nat) (h0 : Heap) (O : Old Z n0 h0) (w_PRODUCER : Addr) (w_NOTHING : Addr) (w_PAYLOAD : Addr) (w_PROCESSOR : Addr) (w_MESSAGE_STREAM : Addr) (w_MESSAGE : Addr) (w_PAYLOAD_STREAM : Addr) (w_CONSUMER : Addr) (w_ASYNC_PROCESSOR : Addr) (w_MESSAGE_CONSUMER : Addr) (w_ASYNC_MESSAGE_PROCESSOR : Addr) (w_MESSAGE_PROCESSOR : Addr) (W : OwW Z w_PRODUCER w_NOTHING w_PAYLOAD w_PROCESSOR w_MESSAGE_STREAM w_MESSAGE w_PAYLOAD_STREAM w_CONSUMER w_ASYNC_PROCESSOR w_MESSAGE_CONSUMER w_ASYNC_MESSAGE_PROCESSOR w_MESSAGE_PROCESSOR) (p0 : Int32) (hi : (p0 &&& (2147483647 : Int32)) % (9 : Int32) = (2 : Int32)) :
    OwCon l x code maxLocals ret ws room_1 #[(.int p0)] Z h0 (OwP (fun v _ => v = some (.int 1)) n0) := by
  refine MetFree.of_bodySF (plainFor_of_name owpn0) hisR ?_
  intro p e s m args below meth c s₁ Bd hml0 hP hK
  obtain ⟨rfl, hZ, hh⟩ := hP
  have hx := Bd.exec
  have hby := Bd.bytes
  have hml : c.maxLocals = 7 := hml0
  have hown : s.vm.findClass "com/example/aizu/aizu/channels/ShapeReadsPinLaw" = some m.cls := findClass_of_methodNamed Bd.named
  have hnm := (name_of_methodNamed Bd.named Bd.method).1
  have X0 : Stand p l e room_1 s m #[(.int p0)] below meth c s₁ [] 0 0 := Stand.of_body Bd
  have e0 : s₁.heap = h0 := by rw [← hh, Bd.state]; rfl
  have N0 := Fr.nil n0
  have WW := W
  obtain ⟨E_w_PRODUCER, E_w_NOTHING, E_w_PAYLOAD, E_w_PROCESSOR, E_w_MESSAGE_STREAM, E_w_MESSAGE, E_w_PAYLOAD_STREAM, E_w_CONSUMER, E_w_ASYNC_PROCESSOR, E_w_MESSAGE_CONSUMER, E_w_ASYNC_MESSAGE_PROCESSOR, E_w_MESSAGE_PROCESSOR, S_ChannelMethod_Shape_PRODUCER, S_ChannelMethod_Kind_NOTHING, F_w_PRODUCER_takes, S_ChannelMethod_Kind_PAYLOAD, F_w_PRODUCER_gives, F_w_PAYLOAD_ordinal, F_w_NOTHING_ordinal, S_ChannelMethod_Shape_PROCESSOR, F_w_PROCESSOR_takes, S_ChannelMethod_Shape_MESSAGE_STREAM, F_w_MESSAGE_STREAM_takes, S_ChannelMethod_Kind_MESSAGE, F_w_MESSAGE_STREAM_gives, F_w_MESSAGE_ordinal, S_ChannelMethod_Shape_PAYLOAD_STREAM, F_w_PAYLOAD_STREAM_takes, F_w_PAYLOAD_STREAM_gives, S_ChannelMethod_Shape_CONSUMER, F_w_CONSUMER_takes, S_ChannelMethod_Shape_ASYNC_PROCESSOR, F_w_ASYNC_PROCESSOR_takes, S_ChannelMethod_Shape_MESSAGE_CONSUMER, F_w_MESSAGE_CONSUMER_takes, S_ChannelMethod_Shape_ASYNC_MESSAGE_PROCESSOR, F_w_ASYNC_MESSAGE_PROCESSOR_takes, S_ChannelMethod_Shape_MESSAGE_PROCESSOR, F_w_MESSAGE_PROCESSOR_takes, F_w_PROCESSOR_gives, F_w_CONSUMER_gives, F_w_ASYNC_PROCESSOR_gives, F_w_MESSAGE_CONSUMER_gives, F_w_ASYNC_MESSAGE_PROCESSOR_gives, F_w_MESSAGE_PROCESSOR_gives, ne_w_PAYLOAD_w_NOTHING, ne_w_MESSAGE_w_NOTHING, -⟩ := WW
  have ef : entryFrame m #[(.int p0)] maxLocals = mkF m 0 #[.val (.int p0), .unset, .unset, .unset, .unset, .unset, .unset] [] := by first | rfl | (simp [entryFrame, mkF, argsToLocals, Value.category, maxLocals]; done)
  have pre0 : ∀ t, Steps p.tables e below (s₁.setTop (mkF m 0 #[.val (.int p0), .unset, .unset, .unset, .unset, .unset, .unset] [])) t → Steps p.tables e below (s₁.setTop (entryFrame m #[(.int p0)] maxLocals)) t := fun t k => castTop ef k
  obtain ⟨_, _, ⟨T1, L1, k1, n1⟩, -, X1, ⟨Lc1, hQ1, l1, y1, z1⟩, st1⟩ := Jvm.LawKit.callS X0 hx (y := (⟨"com/example/aizu/aizu/channels/ShapeReadsPinLaw", "shapeAt", "(I)Lcom/example/aizu/aizu/channels/ChannelMethod$Shape;"⟩ : MethodName)) hown (mvT hZ (hw _ (List.mem_of_getElem? (i := 1) rfl))) (mvT hZ (hw _ (List.mem_of_getElem? (i := 2) rfl))) (mvT hZ (hw _ (List.mem_of_getElem? (i := 3) rfl))) (mvT hZ (hw _ (List.mem_of_getElem? (i := 4) rfl))) (by decide) (backOf (W := 0) (rm1_2 l Z a0 hw [] n0 h0 O w_PRODUCER w_NOTHING w_PAYLOAD w_PROCESSOR w_MESSAGE_STREAM w_MESSAGE w_PAYLOAD_STREAM w_CONSUMER w_ASYNC_PROCESSOR w_MESSAGE_CONSUMER w_ASYNC_MESSAGE_PROCESSOR w_MESSAGE_PROCESSOR W  ) hZ (hw _ (List.mem_of_getElem? (i := 4) rfl)) (hw _ (List.mem_of_getElem? (i := 3) rfl)) (by decide) (by decide)) (g := (mkF m 9 #[.val (.int p0), .val (.int (2 : Int32)), .unset, .unset, .unset, .unset, .unset] [(.int (2 : Int32))])) rfl (by rw [hml]; rfl) (argsL := [(.int (2 : Int32))]) (rest := []) (lenOf owpd0 rfl) rfl (by show 2 * 0 + _ ≤ _; exact Nat.le_of_eq rfl) (hb hby at_9) (fun _ _ => ⟨rfl, e0, (by decide : 0 + 0 ≤ _), (by decide : 0 + 0 ≤ _)⟩)
  dsimp only [Pt.U, Pt.locs, Pt.cells, Pt.slots] at X1 l1 y1 z1 st1 hQ1
  subst l1 y1 z1
  obtain ⟨rfl, Nq1, e1⟩ := hQ1
  have N1 := Fr.app N0 Nq1
  obtain ⟨cq2, kq2, q2a, q2b, q2c⟩ := isOf hZ e1 (E_w_MESSAGE_STREAM.ext O.2)
  obtain ⟨_, _, ⟨T2, L2, k2, n2⟩, -, X2, ⟨Lc2, hQ2, l2, y2, z2⟩, st2⟩ := X1.virtualBack hx (y := (⟨"com/example/aizu/aizu/channels/ChannelMethod$Shape", "reads", "()Z"⟩ : MethodName)) (z := (⟨"com/example/aizu/aizu/channels/ChannelMethod$Shape", "reads", "()Z"⟩ : MethodName)) hown (mvT hZ (hw _ (List.mem_of_getElem? (i := 8) rfl))) (mvT hZ (hw _ (List.mem_of_getElem? (i := 9) rfl))) (notFace_of_selects (args := #[]) (mvT hZ (hw _ (List.mem_of_getElem? (i := 11) rfl)))) (mvT hZ (hw _ (List.mem_of_getElem? (i := 11) rfl))) (mvT hZ (hw _ (List.mem_of_getElem? (i := 10) rfl))) (by decide) (backOf (W := 0) (rm2_2 l Z a0 hw [] n0 h0 O w_PRODUCER w_NOTHING w_PAYLOAD w_PROCESSOR w_MESSAGE_STREAM w_MESSAGE w_PAYLOAD_STREAM w_CONSUMER w_ASYNC_PROCESSOR w_MESSAGE_CONSUMER w_ASYNC_MESSAGE_PROCESSOR w_MESSAGE_PROCESSOR W  ) hZ (hw _ (List.mem_of_getElem? (i := 12) rfl)) (hw _ (List.mem_of_getElem? (i := 6) rfl)) (by decide) (by decide)) q2a q2c (g := (mkF m 25 #[.val (.int p0), .val (.int (2 : Int32)), .val (.ref w_MESSAGE_STREAM), .val (.int (0 : Int32)), .unset, .unset, .unset] [(.ref w_MESSAGE_STREAM)])) rfl (by rw [hml]; rfl) (Steps.refl _) (argsL := []) (rest := []) (lenOf owpd1 rfl) rfl (by show 2 * 0 + _ ≤ _; exact Nat.le_of_eq rfl) (hb hby at_25) (fun _ _ => ⟨rfl, e1, (by decide : 0 + 0 ≤ _), (by decide : 0 + 0 ≤ _)⟩)
  dsimp only [Pt.U, Pt.locs, Pt.cells, Pt.slots] at X2 l2 y2 z2 st2 hQ2
  subst l2 y2 z2
  obtain ⟨rfl, Nq2, e2⟩ := hQ2
  have N2 := Fr.app N1 Nq2
  obtain ⟨cq3, kq3, q3a, q3b, q3c⟩ := isOf hZ e2 (E_w_MESSAGE_STREAM.ext O.2)
  obtain ⟨_, _, ⟨T3, L3, k3, n3⟩, -, X3, ⟨Lc3, hQ3, l3, y3, z3⟩, st3⟩ := X2.virtualBack hx (y := (⟨"com/example/aizu/aizu/channels/ChannelMethod$Shape", "takes", "()Lcom/example/aizu/aizu/channels/ChannelMethod$Kind;"⟩ : MethodName)) (z := (⟨"com/example/aizu/aizu/channels/ChannelMethod$Shape", "takes", "()Lcom/example/aizu/aizu/channels/ChannelMethod$Kind;"⟩ : MethodName)) hown (mvT hZ (hw _ (List.mem_of_getElem? (i := 18) rfl))) (mvT hZ (hw _ (List.mem_of_getElem? (i := 19) rfl))) (notFace_of_selects (args := #[]) (mvT hZ (hw _ (List.mem_of_getElem? (i := 21) rfl)))) (mvT hZ (hw _ (List.mem_of_getElem? (i := 21) rfl))) (mvT hZ (hw _ (List.mem_of_getElem? (i := 20) rfl))) (by decide) (backOf (W := 1) (rm3_2 l Z a0 hw [] n0 h0 O w_PRODUCER w_NOTHING w_PAYLOAD w_PROCESSOR w_MESSAGE_STREAM w_MESSAGE w_PAYLOAD_STREAM w_CONSUMER w_ASYNC_PROCESSOR w_MESSAGE_CONSUMER w_ASYNC_MESSAGE_PROCESSOR w_MESSAGE_PROCESSOR W  ) hZ (hw _ (List.mem_of_getElem? (i := 22) rfl)) (hw _ (List.mem_of_getElem? (i := 6) rfl)) (by decide) (by decide)) q3a q3c (g := (mkF m 33 #[.val (.int p0), .val (.int (2 : Int32)), .val (.ref w_MESSAGE_STREAM), .val (.int (0 : Int32)), .val (.int (0 : Int32)), .unset, .unset] [(.ref w_MESSAGE_STREAM), (.int (0 : Int32))])) rfl (by rw [hml]; rfl) (Steps.refl _) (argsL := []) (rest := [(.int (0 : Int32))]) (lenOf owpd2 rfl) rfl (by show 2 * 0 + _ ≤ _; exact Nat.le_of_eq rfl) (hb hby at_33) (fun _ _ => ⟨rfl, e2, (by decide : 0 + 0 ≤ _), (by decide : 0 + 0 ≤ _)⟩)
  dsimp only [Pt.U, Pt.locs, Pt.cells, Pt.slots] at X3 l3 y3 z3 st3 hQ3
  subst l3 y3 z3
  obtain ⟨rfl, Nq3, e3⟩ := hQ3
  have N3 := Fr.app N2 Nq3
  obtain ⟨T4, X4, e4, st4⟩ := getS2 X3 hx hZ hown (host := "") (Or.inl (hw _ (List.mem_of_getElem? (i := 23) rfl))) Via.refl e3 (S_ChannelMethod_Kind_NOTHING.ext O.2) (g := (mkF m 36 #[.val (.int p0), .val (.int (2 : Int32)), .val (.ref w_MESSAGE_STREAM), .val (.int (0 : Int32)), .val (.int (0 : Int32)), .unset, .unset] [(.ref w_NOTHING), (.int (0 : Int32))])) rfl (hb hby at_36)
  obtain ⟨cq5, kq5, q5a, q5b, q5c⟩ := isOf hZ e4 (E_w_MESSAGE_STREAM.ext O.2)
  obtain ⟨_, _, ⟨T5, L5, k5, n5⟩, -, X5, ⟨Lc5, hQ5, l5, y5, z5⟩, st5⟩ := X4.virtualBack hx (y := (⟨"com/example/aizu/aizu/channels/ChannelMethod$Shape", "writes", "()Z"⟩ : MethodName)) (z := (⟨"com/example/aizu/aizu/channels/ChannelMethod$Shape", "writes", "()Z"⟩ : MethodName)) hown (mvT hZ (hw _ (List.mem_of_getElem? (i := 24) rfl))) (mvT hZ (hw _ (List.mem_of_getElem? (i := 25) rfl))) (notFace_of_selects (args := #[]) (mvT hZ (hw _ (List.mem_of_getElem? (i := 27) rfl)))) (mvT hZ (hw _ (List.mem_of_getElem? (i := 27) rfl))) (mvT hZ (hw _ (List.mem_of_getElem? (i := 26) rfl))) (by decide) (backOf (W := 0) (rm4_2 l Z a0 hw [] n0 h0 O w_PRODUCER w_NOTHING w_PAYLOAD w_PROCESSOR w_MESSAGE_STREAM w_MESSAGE w_PAYLOAD_STREAM w_CONSUMER w_ASYNC_PROCESSOR w_MESSAGE_CONSUMER w_ASYNC_MESSAGE_PROCESSOR w_MESSAGE_PROCESSOR W  ) hZ (hw _ (List.mem_of_getElem? (i := 28) rfl)) (hw _ (List.mem_of_getElem? (i := 6) rfl)) (by decide) (by decide)) q5a q5c (g := (mkF m 63 #[.val (.int p0), .val (.int (2 : Int32)), .val (.ref w_MESSAGE_STREAM), .val (.int (0 : Int32)), .val (.int (0 : Int32)), .val (.int (1 : Int32)), .unset] [(.ref w_MESSAGE_STREAM)])) rfl (by rw [hml]; rfl) (Steps.refl _) (argsL := []) (rest := []) (lenOf owpd1 rfl) rfl (by show 2 * 0 + _ ≤ _; exact Nat.le_of_eq rfl) (hb hby at_63) (fun _ _ => ⟨rfl, e4, (by decide : 0 + 0 ≤ _), (by decide : 0 + 0 ≤ _)⟩)
  dsimp only [Pt.U, Pt.locs, Pt.cells, Pt.slots] at X5 l5 y5 z5 st5 hQ5
  subst l5 y5 z5
  obtain ⟨rfl, Nq5, e5⟩ := hQ5
  have N5 := Fr.app N3 Nq5
  obtain ⟨fs, hr, hrun, hended, hW, hsame⟩ := X5.leave (v := some (.int (1 : Int32))) (fun h => by rw [Bd.returns] at h; cases h)
  refine ⟨_, _, pre0 _ ?_, hrun, hended, _, _, rfl, ?_, ⟨_, rfl⟩, hW, hsame.mono (by decide) (by decide)⟩
  · show Steps p.tables e below (s₁.setTop (mkF m 0 #[.val (.int p0), .unset, .unset, .unset, .unset, .unset, .unset] [])) _
    refine XS.iloadN X0.here hx rfl (hb hby at_0) rfl ?_
    show Steps p.tables e below (s₁.setTop (mkF m 1 #[.val (.int p0), .unset, .unset, .unset, .unset, .unset, .unset] [(.int p0)])) _
    refine X0.ldcInt hx hown (mvT hZ (hw _ (List.mem_of_getElem? (i := 0) rfl))) (g := (mkF m 1 #[.val (.int p0), .unset, .unset, .unset, .unset, .unset, .unset] [(.int p0)])) rfl (hb hby at_1) _ ?_
    show Steps p.tables e below (s₁.setTop (mkF m 3 #[.val (.int p0), .unset, .unset, .unset, .unset, .unset, .unset] [(.int (2147483647 : Int32)), (.int p0)])) _
    refine XS.iand X0.here hx rfl (hb hby at_3) rfl ?_
    show Steps p.tables e below (s₁.setTop (mkF m 4 #[.val (.int p0), .unset, .unset, .unset, .unset, .unset, .unset] [(.int (p0 &&& (2147483647 : Int32)))])) _
    refine XS.bipush X0.here hx rfl (hb hby at_4) ?_
    show Steps p.tables e below (s₁.setTop (mkF m 6 #[.val (.int p0), .unset, .unset, .unset, .unset, .unset, .unset] [(.int (9 : Int32)), (.int (p0 &&& (2147483647 : Int32)))])) _
    refine iremM X0 hx rfl (hb hby at_6) rfl (by decide) ?_
    show Steps p.tables e below (s₁.setTop (mkF m 7 #[.val (.int p0), .unset, .unset, .unset, .unset, .unset, .unset] [(.int ((p0 &&& (2147483647 : Int32)) % (9 : Int32)))])) _
    rw [hi]
    show Steps p.tables e below (s₁.setTop (mkF m 7 #[.val (.int p0), .unset, .unset, .unset, .unset, .unset, .unset] [(.int (2 : Int32))])) _
    refine XS.istoreN X0.here hx rfl (hb hby at_7) rfl (l' := #[.val (.int p0), .val (.int (2 : Int32)), .unset, .unset, .unset, .unset, .unset]) rfl ?_
    show Steps p.tables e below (s₁.setTop (mkF m 8 #[.val (.int p0), .val (.int (2 : Int32)), .unset, .unset, .unset, .unset, .unset] [])) _
    refine XS.iloadN X0.here hx rfl (hb hby at_8) rfl ?_
    show Steps p.tables e below (s₁.setTop (mkF m 9 #[.val (.int p0), .val (.int (2 : Int32)), .unset, .unset, .unset, .unset, .unset] [(.int (2 : Int32))])) _
    refine st1 _ ?_
    show Steps p.tables e below (T1.setTop (mkF m 12 #[.val (.int p0), .val (.int (2 : Int32)), .unset, .unset, .unset, .unset, .unset] [(.ref w_MESSAGE_STREAM)])) _
    refine XS.astoreN X1.here hx rfl (hb hby at_12) rfl rfl (l' := #[.val (.int p0), .val (.int (2 : Int32)), .val (.ref w_MESSAGE_STREAM), .unset, .unset, .unset, .unset]) rfl ?_
    show Steps p.tables e below (T1.setTop (mkF m 13 #[.val (.int p0), .val (.int (2 : Int32)), .val (.ref w_MESSAGE_STREAM), .unset, .unset, .unset, .unset] [])) _
    refine XS.iloadN X1.here hx rfl (hb hby at_13) rfl ?_
    show Steps p.tables e below (T1.setTop (mkF m 14 #[.val (.int p0), .val (.int (2 : Int32)), .val (.ref w_MESSAGE_STREAM), .unset, .unset, .unset, .unset] [(.int (2 : Int32))])) _
    refine XS.iconst X1.here hx rfl (hb hby at_14) ?_
    show Steps p.tables e below (T1.setTop (mkF m 15 #[.val (.int p0), .val (.int (2 : Int32)), .val (.ref w_MESSAGE_STREAM), .unset, .unset, .unset, .unset] [(.int (3 : Int32)), (.int (2 : Int32))])) _
    refine XS.icmpYes X1.here hx rfl (pc0 := 15) (pc' := 22) rfl (hb hby at_15) rfl (tlt (by decide : (2 : Int32) < (3 : Int32))).1 (by decide) (by decide) ?_
    show Steps p.tables e below (T1.setTop (mkF m 22 #[.val (.int p0), .val (.int (2 : Int32)), .val (.ref w_MESSAGE_STREAM), .unset, .unset, .unset, .unset] [])) _
    refine XS.iconst X1.here hx rfl (hb hby at_22) ?_
    show Steps p.tables e below (T1.setTop (mkF m 23 #[.val (.int p0), .val (.int (2 : Int32)), .val (.ref w_MESSAGE_STREAM), .unset, .unset, .unset, .unset] [(.int (0 : Int32))])) _
    refine XS.istoreN X1.here hx rfl (hb hby at_23) rfl (l' := #[.val (.int p0), .val (.int (2 : Int32)), .val (.ref w_MESSAGE_STREAM), .val (.int (0 : Int32)), .unset, .unset, .unset]) rfl ?_
    show Steps p.tables e below (T1.setTop (mkF m 24 #[.val (.int p0), .val (.int (2 : Int32)), .val (.ref w_MESSAGE_STREAM), .val (.int (0 : Int32)), .unset, .unset, .unset] [])) _
    refine XS.aloadN X1.here hx rfl (hb hby at_24) rfl rfl ?_
    show Steps p.tables e below (T1.setTop (mkF m 25 #[.val (.int p0), .val (.int (2 : Int32)), .val (.ref w_MESSAGE_STREAM), .val (.int (0 : Int32)), .unset, .unset, .unset] [(.ref w_MESSAGE_STREAM)])) _
    refine st2.trans ?_
    show Steps p.tables e below (T2.setTop (mkF m 28 #[.val (.int p0), .val (.int (2 : Int32)), .val (.ref w_MESSAGE_STREAM), .val (.int (0 : Int32)), .unset, .unset, .unset] [(.int (0 : Int32))])) _
    refine XS.istore X2.here hx rfl (hb hby at_28) rfl (l' := #[.val (.int p0), .val (.int (2 : Int32)), .val (.ref w_MESSAGE_STREAM), .val (.int (0 : Int32)), .val (.int (0 : Int32)), .unset, .unset]) rfl ?_
    show Steps p.tables e below (T2.setTop (mkF m 30 #[.val (.int p0), .val (.int (2 : Int32)), .val (.ref w_MESSAGE_STREAM), .val (.int (0 : Int32)), .val (.int (0 : Int32)), .unset, .unset] [])) _
    refine XS.iload X2.here hx rfl (hb hby at_30) rfl ?_
    show Steps p.tables e below (T2.setTop (mkF m 32 #[.val (.int p0), .val (.int (2 : Int32)), .val (.ref w_MESSAGE_STREAM), .val (.int (0 : Int32)), .val (.int (0 : Int32)), .unset, .unset] [(.int (0 : Int32))])) _
    refine XS.aloadN X2.here hx rfl (hb hby at_32) rfl rfl ?_
    show Steps p.tables e below (T2.setTop (mkF m 33 #[.val (.int p0), .val (.int (2 : Int32)), .val (.ref w_MESSAGE_STREAM), .val (.int (0 : Int32)), .val (.int (0 : Int32)), .unset, .unset] [(.ref w_MESSAGE_STREAM), (.int (0 : Int32))])) _
    refine st3.trans ?_
    show Steps p.tables e below (T3.setTop (mkF m 36 #[.val (.int p0), .val (.int (2 : Int32)), .val (.ref w_MESSAGE_STREAM), .val (.int (0 : Int32)), .val (.int (0 : Int32)), .unset, .unset] [(.ref w_NOTHING), (.int (0 : Int32))])) _
    refine st4 _ ?_
    show Steps p.tables e below (T4.setTop (mkF m 39 #[.val (.int p0), .val (.int (2 : Int32)), .val (.ref w_MESSAGE_STREAM), .val (.int (0 : Int32)), .val (.int (0 : Int32)), .unset, .unset] [(.ref w_NOTHING), (.ref w_NOTHING), (.int (0 : Int32))])) _
    refine Jvm.RoadKit.acmp (g := (mkF m 39 #[.val (.int p0), .val (.int (2 : Int32)), .val (.ref w_MESSAGE_STREAM), .val (.int (0 : Int32)), .val (.int (0 : Int32)), .unset, .unset] [(.ref w_NOTHING), (.ref w_NOTHING), (.int (0 : Int32))])) X4 hx rfl rfl rfl (pc0 := 39) (pc' := 46) (same := true) rfl (hb hby at_39) rfl (decide_eq_true rfl) (by decide) (by decide) ?_
    show Steps p.tables e below (T4.setTop (mkF m 46 #[.val (.int p0), .val (.int (2 : Int32)), .val (.ref w_MESSAGE_STREAM), .val (.int (0 : Int32)), .val (.int (0 : Int32)), .unset, .unset] [(.int (0 : Int32))])) _
    refine XS.iconst X4.here hx rfl (hb hby at_46) ?_
    show Steps p.tables e below (T4.setTop (mkF m 47 #[.val (.int p0), .val (.int (2 : Int32)), .val (.ref w_MESSAGE_STREAM), .val (.int (0 : Int32)), .val (.int (0 : Int32)), .unset, .unset] [(.int (0 : Int32)), (.int (0 : Int32))])) _
    refine XS.icmpNo X4.here hx rfl (hb hby at_47) rfl (teq (by decide : (0 : Int32) = (0 : Int32))).2 ?_
    show Steps p.tables e below (T4.setTop (mkF m 50 #[.val (.int p0), .val (.int (2 : Int32)), .val (.ref w_MESSAGE_STREAM), .val (.int (0 : Int32)), .val (.int (0 : Int32)), .unset, .unset] [])) _
    refine XS.iconst X4.here hx rfl (hb hby at_50) ?_
    show Steps p.tables e below (T4.setTop (mkF m 51 #[.val (.int p0), .val (.int (2 : Int32)), .val (.ref w_MESSAGE_STREAM), .val (.int (0 : Int32)), .val (.int (0 : Int32)), .unset, .unset] [(.int (1 : Int32))])) _
    refine XS.goto X4.here hx rfl (pc0 := 51) (pc' := 55) rfl (hb hby at_51) (by decide) (by decide) ?_
    show Steps p.tables e below (T4.setTop (mkF m 55 #[.val (.int p0), .val (.int (2 : Int32)), .val (.ref w_MESSAGE_STREAM), .val (.int (0 : Int32)), .val (.int (0 : Int32)), .unset, .unset] [(.int (1 : Int32))])) _
    refine XS.istore X4.here hx rfl (hb hby at_55) rfl (l' := #[.val (.int p0), .val (.int (2 : Int32)), .val (.ref w_MESSAGE_STREAM), .val (.int (0 : Int32)), .val (.int (0 : Int32)), .val (.int (1 : Int32)), .unset]) rfl ?_
    show Steps p.tables e below (T4.setTop (mkF m 57 #[.val (.int p0), .val (.int (2 : Int32)), .val (.ref w_MESSAGE_STREAM), .val (.int (0 : Int32)), .val (.int (0 : Int32)), .val (.int (1 : Int32)), .unset] [])) _
    refine XS.iload X4.here hx rfl (hb hby at_57) rfl ?_
    show Steps p.tables e below (T4.setTop (mkF m 59 #[.val (.int p0), .val (.int (2 : Int32)), .val (.ref w_MESSAGE_STREAM), .val (.int (0 : Int32)), .val (.int (0 : Int32)), .val (.int (1 : Int32)), .unset] [(.int (0 : Int32))])) _
    refine XS.ifNo X4.here hx rfl (hb hby at_59) rfl ((if0 _ _).trans (teq (by decide : (0 : Int32) = (0 : Int32))).2) ?_
    show Steps p.tables e below (T4.setTop (mkF m 62 #[.val (.int p0), .val (.int (2 : Int32)), .val (.ref w_MESSAGE_STREAM), .val (.int (0 : Int32)), .val (.int (0 : Int32)), .val (.int (1 : Int32)), .unset] [])) _
    refine XS.aloadN X4.here hx rfl (hb hby at_62) rfl rfl ?_
    show Steps p.tables e below (T4.setTop (mkF m 63 #[.val (.int p0), .val (.int (2 : Int32)), .val (.ref w_MESSAGE_STREAM), .val (.int (0 : Int32)), .val (.int (0 : Int32)), .val (.int (1 : Int32)), .unset] [(.ref w_MESSAGE_STREAM)])) _
    refine st5.trans ?_
    show Steps p.tables e below (T5.setTop (mkF m 66 #[.val (.int p0), .val (.int (2 : Int32)), .val (.ref w_MESSAGE_STREAM), .val (.int (0 : Int32)), .val (.int (0 : Int32)), .val (.int (1 : Int32)), .unset] [(.int (1 : Int32))])) _
    refine XS.ifNo X5.here hx rfl (hb hby at_66) rfl ((if0 _ _).trans (feq (by decide : ¬ ((1 : Int32) = (0 : Int32)))).1) ?_
    show Steps p.tables e below (T5.setTop (mkF m 69 #[.val (.int p0), .val (.int (2 : Int32)), .val (.ref w_MESSAGE_STREAM), .val (.int (0 : Int32)), .val (.int (0 : Int32)), .val (.int (1 : Int32)), .unset] [])) _
    refine XS.iconst X5.here hx rfl (hb hby at_69) ?_
    show Steps p.tables e below (T5.setTop (mkF m 70 #[.val (.int p0), .val (.int (2 : Int32)), .val (.ref w_MESSAGE_STREAM), .val (.int (0 : Int32)), .val (.int (0 : Int32)), .val (.int (1 : Int32)), .unset] [(.int (1 : Int32))])) _
    refine XS.goto X5.here hx rfl (pc0 := 70) (pc' := 74) rfl (hb hby at_70) (by decide) (by decide) ?_
    show Steps p.tables e below (T5.setTop (mkF m 74 #[.val (.int p0), .val (.int (2 : Int32)), .val (.ref w_MESSAGE_STREAM), .val (.int (0 : Int32)), .val (.int (0 : Int32)), .val (.int (1 : Int32)), .unset] [(.int (1 : Int32))])) _
    refine XS.istore X5.here hx rfl (hb hby at_74) rfl (l' := #[.val (.int p0), .val (.int (2 : Int32)), .val (.ref w_MESSAGE_STREAM), .val (.int (0 : Int32)), .val (.int (0 : Int32)), .val (.int (1 : Int32)), .val (.int (1 : Int32))]) rfl ?_
    show Steps p.tables e below (T5.setTop (mkF m 76 #[.val (.int p0), .val (.int (2 : Int32)), .val (.ref w_MESSAGE_STREAM), .val (.int (0 : Int32)), .val (.int (0 : Int32)), .val (.int (1 : Int32)), .val (.int (1 : Int32))] [])) _
    refine XS.iload X5.here hx rfl (hb hby at_76) rfl ?_
    show Steps p.tables e below (T5.setTop (mkF m 78 #[.val (.int p0), .val (.int (2 : Int32)), .val (.ref w_MESSAGE_STREAM), .val (.int (0 : Int32)), .val (.int (0 : Int32)), .val (.int (1 : Int32)), .val (.int (1 : Int32))] [(.int (0 : Int32))])) _
    refine XS.iloadN X5.here hx rfl (hb hby at_78) rfl ?_
    show Steps p.tables e below (T5.setTop (mkF m 79 #[.val (.int p0), .val (.int (2 : Int32)), .val (.ref w_MESSAGE_STREAM), .val (.int (0 : Int32)), .val (.int (0 : Int32)), .val (.int (1 : Int32)), .val (.int (1 : Int32))] [(.int (0 : Int32)), (.int (0 : Int32))])) _
    refine XS.icmpNo X5.here hx rfl (hb hby at_79) rfl (teq (by decide : (0 : Int32) = (0 : Int32))).2 ?_
    show Steps p.tables e below (T5.setTop (mkF m 82 #[.val (.int p0), .val (.int (2 : Int32)), .val (.ref w_MESSAGE_STREAM), .val (.int (0 : Int32)), .val (.int (0 : Int32)), .val (.int (1 : Int32)), .val (.int (1 : Int32))] [])) _
    refine XS.iload X5.here hx rfl (hb hby at_82) rfl ?_
    show Steps p.tables e below (T5.setTop (mkF m 84 #[.val (.int p0), .val (.int (2 : Int32)), .val (.ref w_MESSAGE_STREAM), .val (.int (0 : Int32)), .val (.int (0 : Int32)), .val (.int (1 : Int32)), .val (.int (1 : Int32))] [(.int (1 : Int32))])) _
    refine XS.ifNo X5.here hx rfl (hb hby at_84) rfl ((if0 _ _).trans (feq (by decide : ¬ ((1 : Int32) = (0 : Int32)))).1) ?_
    show Steps p.tables e below (T5.setTop (mkF m 87 #[.val (.int p0), .val (.int (2 : Int32)), .val (.ref w_MESSAGE_STREAM), .val (.int (0 : Int32)), .val (.int (0 : Int32)), .val (.int (1 : Int32)), .val (.int (1 : Int32))] [])) _
    refine XS.iload X5.here hx rfl (hb hby at_87) rfl ?_
    show Steps p.tables e below (T5.setTop (mkF m 89 #[.val (.int p0), .val (.int (2 : Int32)), .val (.ref w_MESSAGE_STREAM), .val (.int (0 : Int32)), .val (.int (0 : Int32)), .val (.int (1 : Int32)), .val (.int (1 : Int32))] [(.int (1 : Int32))])) _
    refine XS.ifNo X5.here hx rfl (hb hby at_89) rfl ((if0 _ _).trans (feq (by decide : ¬ ((1 : Int32) = (0 : Int32)))).1) ?_
    show Steps p.tables e below (T5.setTop (mkF m 92 #[.val (.int p0), .val (.int (2 : Int32)), .val (.ref w_MESSAGE_STREAM), .val (.int (0 : Int32)), .val (.int (0 : Int32)), .val (.int (1 : Int32)), .val (.int (1 : Int32))] [])) _
    refine XS.iconst X5.here hx rfl (hb hby at_92) ?_
    show Steps p.tables e below (T5.setTop (mkF m 93 #[.val (.int p0), .val (.int (2 : Int32)), .val (.ref w_MESSAGE_STREAM), .val (.int (0 : Int32)), .val (.int (0 : Int32)), .val (.int (1 : Int32)), .val (.int (1 : Int32))] [(.int (1 : Int32))])) _
    refine XS.goto X5.here hx rfl (pc0 := 93) (pc' := 97) rfl (hb hby at_93) (by decide) (by decide) ?_
    show Steps p.tables e below (T5.setTop (mkF m 97 #[.val (.int p0), .val (.int (2 : Int32)), .val (.ref w_MESSAGE_STREAM), .val (.int (0 : Int32)), .val (.int (0 : Int32)), .val (.int (1 : Int32)), .val (.int (1 : Int32))] [(.int (1 : Int32))])) _
    exact retN X5 hx (t := .boolean) Bd.returns (by simp) (hb hby at_97) hr
  · exact ⟨N5, rfl⟩
set_option maxRecDepth 65536 in
set_option maxHeartbeats 40000000 in
theorem rm1_3 (l : Launch) (Z : State) (a0 : Array Value) (hw : ∀ d ∈ tables_1, d.before a0 Z = true) (ws : List Jvm.Cond) (n0 : Nat) (h0 : Heap) (O : Old Z n0 h0) (w_PRODUCER : Addr) (w_NOTHING : Addr) (w_PAYLOAD : Addr) (w_PROCESSOR : Addr) (w_MESSAGE_STREAM : Addr) (w_MESSAGE : Addr) (w_PAYLOAD_STREAM : Addr) (w_CONSUMER : Addr) (w_ASYNC_PROCESSOR : Addr) (w_MESSAGE_CONSUMER : Addr) (w_ASYNC_MESSAGE_PROCESSOR : Addr) (w_MESSAGE_PROCESSOR : Addr) (W : OwW Z w_PRODUCER w_NOTHING w_PAYLOAD w_PROCESSOR w_MESSAGE_STREAM w_MESSAGE w_PAYLOAD_STREAM w_CONSUMER w_ASYNC_PROCESSOR w_MESSAGE_CONSUMER w_ASYNC_MESSAGE_PROCESSOR w_MESSAGE_PROCESSOR)  :
    OwCon l (⟨"com/example/aizu/aizu/channels/ShapeReadsPinLaw", "shapeAt", "(I)Lcom/example/aizu/aizu/channels/ChannelMethod$Shape;"⟩ : MethodName) method_3_code 1 (some (.object "com/example/aizu/aizu/channels/ChannelMethod$Shape")) ws ({ frames := 0, cells := 0, slots := 0, locals := 0 } : Room) #[(.int (3 : Int32))] Z h0 (OwQ (some (.ref w_PROCESSOR)) h0 n0) := by
  refine MetFree.of_bodySF (plainFor_of_name owpn1) hisR ?_
  intro p e s m args below meth c s₁ Bd hml0 hP hK
  obtain ⟨rfl, hZ, hh⟩ := hP
  have hx := Bd.exec
  have hby := Bd.bytes
  have hml : c.maxLocals = 1 := hml0
  have hown : s.vm.findClass "com/example/aizu/aizu/channels/ShapeReadsPinLaw" = some m.cls := findClass_of_methodNamed Bd.named
  have hnm := (name_of_methodNamed Bd.named Bd.method).1
  have X0 : Stand p l e ({ frames := 0, cells := 0, slots := 0, locals := 0 } : Room) s m #[(.int (3 : Int32))] below meth c s₁ [] 0 0 := Stand.of_body Bd
  have e0 : s₁.heap = h0 := by rw [← hh, Bd.state]; rfl
  have N0 := Fr.nil n0
  have WW := W
  obtain ⟨E_w_PRODUCER, E_w_NOTHING, E_w_PAYLOAD, E_w_PROCESSOR, E_w_MESSAGE_STREAM, E_w_MESSAGE, E_w_PAYLOAD_STREAM, E_w_CONSUMER, E_w_ASYNC_PROCESSOR, E_w_MESSAGE_CONSUMER, E_w_ASYNC_MESSAGE_PROCESSOR, E_w_MESSAGE_PROCESSOR, S_ChannelMethod_Shape_PRODUCER, S_ChannelMethod_Kind_NOTHING, F_w_PRODUCER_takes, S_ChannelMethod_Kind_PAYLOAD, F_w_PRODUCER_gives, F_w_PAYLOAD_ordinal, F_w_NOTHING_ordinal, S_ChannelMethod_Shape_PROCESSOR, F_w_PROCESSOR_takes, S_ChannelMethod_Shape_MESSAGE_STREAM, F_w_MESSAGE_STREAM_takes, S_ChannelMethod_Kind_MESSAGE, F_w_MESSAGE_STREAM_gives, F_w_MESSAGE_ordinal, S_ChannelMethod_Shape_PAYLOAD_STREAM, F_w_PAYLOAD_STREAM_takes, F_w_PAYLOAD_STREAM_gives, S_ChannelMethod_Shape_CONSUMER, F_w_CONSUMER_takes, S_ChannelMethod_Shape_ASYNC_PROCESSOR, F_w_ASYNC_PROCESSOR_takes, S_ChannelMethod_Shape_MESSAGE_CONSUMER, F_w_MESSAGE_CONSUMER_takes, S_ChannelMethod_Shape_ASYNC_MESSAGE_PROCESSOR, F_w_ASYNC_MESSAGE_PROCESSOR_takes, S_ChannelMethod_Shape_MESSAGE_PROCESSOR, F_w_MESSAGE_PROCESSOR_takes, F_w_PROCESSOR_gives, F_w_CONSUMER_gives, F_w_ASYNC_PROCESSOR_gives, F_w_MESSAGE_CONSUMER_gives, F_w_ASYNC_MESSAGE_PROCESSOR_gives, F_w_MESSAGE_PROCESSOR_gives, ne_w_PAYLOAD_w_NOTHING, ne_w_MESSAGE_w_NOTHING, -⟩ := WW
  have ef : entryFrame m #[(.int (3 : Int32))] 1 = mkF m 0 #[.val (.int (3 : Int32))] [] := by first | rfl | (simp [entryFrame, mkF, argsToLocals, Value.category]; done)
  have pre0 : ∀ t, Steps p.tables e below (s₁.setTop (mkF m 0 #[.val (.int (3 : Int32))] [])) t → Steps p.tables e below (s₁.setTop (entryFrame m #[(.int (3 : Int32))] 1)) t := fun t k => castTop ef k
  obtain ⟨T1, X1, e1, st1⟩ := getS2 X0 hx hZ hown (host := "") (Or.inl (hw _ (List.mem_of_getElem? (i := 32) rfl))) Via.refl e0 (S_ChannelMethod_Shape_PROCESSOR.ext O.2) (g := (mkF m 31 #[.val (.int (3 : Int32))] [])) rfl (hb hby d1_31)
  obtain ⟨fs, hr, hrun, hended, hW, hsame⟩ := X1.leave (v := some (.ref w_PROCESSOR)) (fun h => by rw [Bd.returns] at h; cases h)
  refine ⟨_, _, pre0 _ ?_, hrun, hended, _, _, rfl, ?_, ⟨_, rfl⟩, hW, hsame.mono (by decide) (by decide)⟩
  · show Steps p.tables e below (s₁.setTop (mkF m 0 #[.val (.int (3 : Int32))] [])) _
    refine XS.iloadN X0.here hx rfl (hb hby d1_0) rfl ?_
    show Steps p.tables e below (s₁.setTop (mkF m 1 #[.val (.int (3 : Int32))] [(.int (3 : Int32))])) _
    refine XS.ifYes X0.here hx rfl (pc0 := 1) (pc' := 8) rfl (hb hby d1_1) rfl ((if0 _ _).trans (feq (by decide : ¬ ((3 : Int32) = (0 : Int32)))).2) (by decide) (by decide) ?_
    show Steps p.tables e below (s₁.setTop (mkF m 8 #[.val (.int (3 : Int32))] [])) _
    refine XS.iloadN X0.here hx rfl (hb hby d1_8) rfl ?_
    show Steps p.tables e below (s₁.setTop (mkF m 9 #[.val (.int (3 : Int32))] [(.int (3 : Int32))])) _
    refine XS.iconst X0.here hx rfl (hb hby d1_9) ?_
    show Steps p.tables e below (s₁.setTop (mkF m 10 #[.val (.int (3 : Int32))] [(.int (1 : Int32)), (.int (3 : Int32))])) _
    refine XS.icmpYes X0.here hx rfl (pc0 := 10) (pc' := 17) rfl (hb hby d1_10) rfl (feq (by decide : ¬ ((3 : Int32) = (1 : Int32)))).2 (by decide) (by decide) ?_
    show Steps p.tables e below (s₁.setTop (mkF m 17 #[.val (.int (3 : Int32))] [])) _
    refine XS.iloadN X0.here hx rfl (hb hby d1_17) rfl ?_
    show Steps p.tables e below (s₁.setTop (mkF m 18 #[.val (.int (3 : Int32))] [(.int (3 : Int32))])) _
    refine XS.iconst X0.here hx rfl (hb hby d1_18) ?_
    show Steps p.tables e below (s₁.setTop (mkF m 19 #[.val (.int (3 : Int32))] [(.int (2 : Int32)), (.int (3 : Int32))])) _
    refine XS.icmpYes X0.here hx rfl (pc0 := 19) (pc' := 26) rfl (hb hby d1_19) rfl (feq (by decide : ¬ ((3 : Int32) = (2 : Int32)))).2 (by decide) (by decide) ?_
    show Steps p.tables e below (s₁.setTop (mkF m 26 #[.val (.int (3 : Int32))] [])) _
    refine XS.iloadN X0.here hx rfl (hb hby d1_26) rfl ?_
    show Steps p.tables e below (s₁.setTop (mkF m 27 #[.val (.int (3 : Int32))] [(.int (3 : Int32))])) _
    refine XS.iconst X0.here hx rfl (hb hby d1_27) ?_
    show Steps p.tables e below (s₁.setTop (mkF m 28 #[.val (.int (3 : Int32))] [(.int (3 : Int32)), (.int (3 : Int32))])) _
    refine XS.icmpNo X0.here hx rfl (hb hby d1_28) rfl (teq (by decide : (3 : Int32) = (3 : Int32))).2 ?_
    show Steps p.tables e below (s₁.setTop (mkF m 31 #[.val (.int (3 : Int32))] [])) _
    refine st1 _ ?_
    show Steps p.tables e below (T1.setTop (mkF m 34 #[.val (.int (3 : Int32))] [(.ref w_PROCESSOR)])) _
    exact retOut X1 hx Bd.returns rfl (Or.inr (Or.inr (Or.inr (Or.inr ⟨rfl, rfl, rfl⟩)))) (hb hby d1_34) hr
  · exact ⟨rfl, N0, e1⟩
set_option maxRecDepth 65536 in
set_option maxHeartbeats 40000000 in
theorem rm2_3 (l : Launch) (Z : State) (a0 : Array Value) (hw : ∀ d ∈ tables_1, d.before a0 Z = true) (ws : List Jvm.Cond) (n0 : Nat) (h0 : Heap) (O : Old Z n0 h0) (w_PRODUCER : Addr) (w_NOTHING : Addr) (w_PAYLOAD : Addr) (w_PROCESSOR : Addr) (w_MESSAGE_STREAM : Addr) (w_MESSAGE : Addr) (w_PAYLOAD_STREAM : Addr) (w_CONSUMER : Addr) (w_ASYNC_PROCESSOR : Addr) (w_MESSAGE_CONSUMER : Addr) (w_ASYNC_MESSAGE_PROCESSOR : Addr) (w_MESSAGE_PROCESSOR : Addr) (W : OwW Z w_PRODUCER w_NOTHING w_PAYLOAD w_PROCESSOR w_MESSAGE_STREAM w_MESSAGE w_PAYLOAD_STREAM w_CONSUMER w_ASYNC_PROCESSOR w_MESSAGE_CONSUMER w_ASYNC_MESSAGE_PROCESSOR w_MESSAGE_PROCESSOR)  :
    OwCon l (⟨"com/example/aizu/aizu/channels/ChannelMethod$Shape", "reads", "()Z"⟩ : MethodName) prog_6_method_7_code 1 (some .boolean) ws ({ frames := 0, cells := 0, slots := 0, locals := 0 } : Room) #[(.ref w_PROCESSOR)] Z h0 (OwQ (some (.int (1 : Int32))) h0 n0) := by
  refine MetFree.of_bodySF (plainFor_of_name owpn2) hisR ?_
  intro p e s m args below meth c s₁ Bd hml0 hP hK
  obtain ⟨rfl, hZ, hh⟩ := hP
  have hx := Bd.exec
  have hby := Bd.bytes
  have hml : c.maxLocals = 1 := hml0
  have hown : s.vm.findClass "com/example/aizu/aizu/channels/ChannelMethod$Shape" = some m.cls := findClass_of_methodNamed Bd.named
  have hnm := (name_of_methodNamed Bd.named Bd.method).1
  have X0 : Stand p l e ({ frames := 0, cells := 0, slots := 0, locals := 0 } : Room) s m #[(.ref w_PROCESSOR)] below meth c s₁ [] 0 0 := Stand.of_body Bd
  have e0 : s₁.heap = h0 := by rw [← hh, Bd.state]; rfl
  have N0 := Fr.nil n0
  have WW := W
  obtain ⟨E_w_PRODUCER, E_w_NOTHING, E_w_PAYLOAD, E_w_PROCESSOR, E_w_MESSAGE_STREAM, E_w_MESSAGE, E_w_PAYLOAD_STREAM, E_w_CONSUMER, E_w_ASYNC_PROCESSOR, E_w_MESSAGE_CONSUMER, E_w_ASYNC_MESSAGE_PROCESSOR, E_w_MESSAGE_PROCESSOR, S_ChannelMethod_Shape_PRODUCER, S_ChannelMethod_Kind_NOTHING, F_w_PRODUCER_takes, S_ChannelMethod_Kind_PAYLOAD, F_w_PRODUCER_gives, F_w_PAYLOAD_ordinal, F_w_NOTHING_ordinal, S_ChannelMethod_Shape_PROCESSOR, F_w_PROCESSOR_takes, S_ChannelMethod_Shape_MESSAGE_STREAM, F_w_MESSAGE_STREAM_takes, S_ChannelMethod_Kind_MESSAGE, F_w_MESSAGE_STREAM_gives, F_w_MESSAGE_ordinal, S_ChannelMethod_Shape_PAYLOAD_STREAM, F_w_PAYLOAD_STREAM_takes, F_w_PAYLOAD_STREAM_gives, S_ChannelMethod_Shape_CONSUMER, F_w_CONSUMER_takes, S_ChannelMethod_Shape_ASYNC_PROCESSOR, F_w_ASYNC_PROCESSOR_takes, S_ChannelMethod_Shape_MESSAGE_CONSUMER, F_w_MESSAGE_CONSUMER_takes, S_ChannelMethod_Shape_ASYNC_MESSAGE_PROCESSOR, F_w_ASYNC_MESSAGE_PROCESSOR_takes, S_ChannelMethod_Shape_MESSAGE_PROCESSOR, F_w_MESSAGE_PROCESSOR_takes, F_w_PROCESSOR_gives, F_w_CONSUMER_gives, F_w_ASYNC_PROCESSOR_gives, F_w_MESSAGE_CONSUMER_gives, F_w_ASYNC_MESSAGE_PROCESSOR_gives, F_w_MESSAGE_PROCESSOR_gives, ne_w_PAYLOAD_w_NOTHING, ne_w_MESSAGE_w_NOTHING, -⟩ := WW
  have ef : entryFrame m #[(.ref w_PROCESSOR)] 1 = mkF m 0 #[.val (.ref w_PROCESSOR)] [] := by first | rfl | (simp [entryFrame, mkF, argsToLocals, Value.category]; done)
  have pre0 : ∀ t, Steps p.tables e below (s₁.setTop (mkF m 0 #[.val (.ref w_PROCESSOR)] [])) t → Steps p.tables e below (s₁.setTop (entryFrame m #[(.ref w_PROCESSOR)] 1)) t := fun t k => castTop ef k
  obtain ⟨T1, X1, e1, st1⟩ := getF X0 hx hZ hown (host := "") (Or.inl (hw _ (List.mem_of_getElem? (i := 13) rfl))) Via.refl e0 (F_w_PROCESSOR_takes.ext O.2) (g := (mkF m 1 #[.val (.ref w_PROCESSOR)] [(.ref w_PROCESSOR)])) rfl rfl (hb hby d2_1)
  obtain ⟨T2, X2, e2, st2⟩ := getS2 X1 hx hZ hown (host := "") (Or.inl (hw _ (List.mem_of_getElem? (i := 17) rfl))) Via.refl e1 (S_ChannelMethod_Kind_NOTHING.ext O.2) (g := (mkF m 4 #[.val (.ref w_PROCESSOR)] [(.ref w_PAYLOAD)])) rfl (hb hby d2_4)
  obtain ⟨fs, hr, hrun, hended, hW, hsame⟩ := X2.leave (v := some (.int (1 : Int32))) (fun h => by rw [Bd.returns] at h; cases h)
  refine ⟨_, _, pre0 _ ?_, hrun, hended, _, _, rfl, ?_, ⟨_, rfl⟩, hW, hsame.mono (by decide) (by decide)⟩
  · show Steps p.tables e below (s₁.setTop (mkF m 0 #[.val (.ref w_PROCESSOR)] [])) _
    refine XS.aloadN X0.here hx rfl (hb hby d2_0) rfl rfl ?_
    show Steps p.tables e below (s₁.setTop (mkF m 1 #[.val (.ref w_PROCESSOR)] [(.ref w_PROCESSOR)])) _
    refine st1 _ ?_
    show Steps p.tables e below (T1.setTop (mkF m 4 #[.val (.ref w_PROCESSOR)] [(.ref w_PAYLOAD)])) _
    refine st2 _ ?_
    show Steps p.tables e below (T2.setTop (mkF m 7 #[.val (.ref w_PROCESSOR)] [(.ref w_NOTHING), (.ref w_PAYLOAD)])) _
    refine Jvm.RoadKit.acmp (g := (mkF m 7 #[.val (.ref w_PROCESSOR)] [(.ref w_NOTHING), (.ref w_PAYLOAD)])) X2 hx rfl rfl rfl (pc0 := 7) (pc' := 10) (same := false) rfl (hb hby d2_7) rfl (decide_eq_false fun q => ne_w_PAYLOAD_w_NOTHING (Value.ref.inj q)) (by decide) (by decide) ?_
    show Steps p.tables e below (T2.setTop (mkF m 10 #[.val (.ref w_PROCESSOR)] [])) _
    refine XS.iconst X2.here hx rfl (hb hby d2_10) ?_
    show Steps p.tables e below (T2.setTop (mkF m 11 #[.val (.ref w_PROCESSOR)] [(.int (1 : Int32))])) _
    refine XS.goto X2.here hx rfl (pc0 := 11) (pc' := 15) rfl (hb hby d2_11) (by decide) (by decide) ?_
    show Steps p.tables e below (T2.setTop (mkF m 15 #[.val (.ref w_PROCESSOR)] [(.int (1 : Int32))])) _
    exact retN X2 hx (t := .boolean) Bd.returns (by simp) (hb hby d2_15) hr
  · exact ⟨rfl, N0, e2⟩
set_option maxRecDepth 65536 in
set_option maxHeartbeats 40000000 in
theorem rm3_3 (l : Launch) (Z : State) (a0 : Array Value) (hw : ∀ d ∈ tables_1, d.before a0 Z = true) (ws : List Jvm.Cond) (n0 : Nat) (h0 : Heap) (O : Old Z n0 h0) (w_PRODUCER : Addr) (w_NOTHING : Addr) (w_PAYLOAD : Addr) (w_PROCESSOR : Addr) (w_MESSAGE_STREAM : Addr) (w_MESSAGE : Addr) (w_PAYLOAD_STREAM : Addr) (w_CONSUMER : Addr) (w_ASYNC_PROCESSOR : Addr) (w_MESSAGE_CONSUMER : Addr) (w_ASYNC_MESSAGE_PROCESSOR : Addr) (w_MESSAGE_PROCESSOR : Addr) (W : OwW Z w_PRODUCER w_NOTHING w_PAYLOAD w_PROCESSOR w_MESSAGE_STREAM w_MESSAGE w_PAYLOAD_STREAM w_CONSUMER w_ASYNC_PROCESSOR w_MESSAGE_CONSUMER w_ASYNC_MESSAGE_PROCESSOR w_MESSAGE_PROCESSOR)  :
    OwCon l (⟨"com/example/aizu/aizu/channels/ChannelMethod$Shape", "takes", "()Lcom/example/aizu/aizu/channels/ChannelMethod$Kind;"⟩ : MethodName) prog_6_method_4_code 1 (some (.object "com/example/aizu/aizu/channels/ChannelMethod$Kind")) ws ({ frames := 0, cells := 0, slots := 0, locals := 0 } : Room) #[(.ref w_PROCESSOR)] Z h0 (OwQ (some (.ref w_PAYLOAD)) h0 n0) := by
  refine MetFree.of_bodySF (plainFor_of_name owpn3) hisR ?_
  intro p e s m args below meth c s₁ Bd hml0 hP hK
  obtain ⟨rfl, hZ, hh⟩ := hP
  have hx := Bd.exec
  have hby := Bd.bytes
  have hml : c.maxLocals = 1 := hml0
  have hown : s.vm.findClass "com/example/aizu/aizu/channels/ChannelMethod$Shape" = some m.cls := findClass_of_methodNamed Bd.named
  have hnm := (name_of_methodNamed Bd.named Bd.method).1
  have X0 : Stand p l e ({ frames := 0, cells := 0, slots := 0, locals := 0 } : Room) s m #[(.ref w_PROCESSOR)] below meth c s₁ [] 0 0 := Stand.of_body Bd
  have e0 : s₁.heap = h0 := by rw [← hh, Bd.state]; rfl
  have N0 := Fr.nil n0
  have WW := W
  obtain ⟨E_w_PRODUCER, E_w_NOTHING, E_w_PAYLOAD, E_w_PROCESSOR, E_w_MESSAGE_STREAM, E_w_MESSAGE, E_w_PAYLOAD_STREAM, E_w_CONSUMER, E_w_ASYNC_PROCESSOR, E_w_MESSAGE_CONSUMER, E_w_ASYNC_MESSAGE_PROCESSOR, E_w_MESSAGE_PROCESSOR, S_ChannelMethod_Shape_PRODUCER, S_ChannelMethod_Kind_NOTHING, F_w_PRODUCER_takes, S_ChannelMethod_Kind_PAYLOAD, F_w_PRODUCER_gives, F_w_PAYLOAD_ordinal, F_w_NOTHING_ordinal, S_ChannelMethod_Shape_PROCESSOR, F_w_PROCESSOR_takes, S_ChannelMethod_Shape_MESSAGE_STREAM, F_w_MESSAGE_STREAM_takes, S_ChannelMethod_Kind_MESSAGE, F_w_MESSAGE_STREAM_gives, F_w_MESSAGE_ordinal, S_ChannelMethod_Shape_PAYLOAD_STREAM, F_w_PAYLOAD_STREAM_takes, F_w_PAYLOAD_STREAM_gives, S_ChannelMethod_Shape_CONSUMER, F_w_CONSUMER_takes, S_ChannelMethod_Shape_ASYNC_PROCESSOR, F_w_ASYNC_PROCESSOR_takes, S_ChannelMethod_Shape_MESSAGE_CONSUMER, F_w_MESSAGE_CONSUMER_takes, S_ChannelMethod_Shape_ASYNC_MESSAGE_PROCESSOR, F_w_ASYNC_MESSAGE_PROCESSOR_takes, S_ChannelMethod_Shape_MESSAGE_PROCESSOR, F_w_MESSAGE_PROCESSOR_takes, F_w_PROCESSOR_gives, F_w_CONSUMER_gives, F_w_ASYNC_PROCESSOR_gives, F_w_MESSAGE_CONSUMER_gives, F_w_ASYNC_MESSAGE_PROCESSOR_gives, F_w_MESSAGE_PROCESSOR_gives, ne_w_PAYLOAD_w_NOTHING, ne_w_MESSAGE_w_NOTHING, -⟩ := WW
  have ef : entryFrame m #[(.ref w_PROCESSOR)] 1 = mkF m 0 #[.val (.ref w_PROCESSOR)] [] := by first | rfl | (simp [entryFrame, mkF, argsToLocals, Value.category]; done)
  have pre0 : ∀ t, Steps p.tables e below (s₁.setTop (mkF m 0 #[.val (.ref w_PROCESSOR)] [])) t → Steps p.tables e below (s₁.setTop (entryFrame m #[(.ref w_PROCESSOR)] 1)) t := fun t k => castTop ef k
  obtain ⟨T1, X1, e1, st1⟩ := getF X0 hx hZ hown (host := "") (Or.inl (hw _ (List.mem_of_getElem? (i := 13) rfl))) Via.refl e0 (F_w_PROCESSOR_takes.ext O.2) (g := (mkF m 1 #[.val (.ref w_PROCESSOR)] [(.ref w_PROCESSOR)])) rfl rfl (hb hby d3_1)
  obtain ⟨fs, hr, hrun, hended, hW, hsame⟩ := X1.leave (v := some (.ref w_PAYLOAD)) (fun h => by rw [Bd.returns] at h; cases h)
  refine ⟨_, _, pre0 _ ?_, hrun, hended, _, _, rfl, ?_, ⟨_, rfl⟩, hW, hsame.mono (by decide) (by decide)⟩
  · show Steps p.tables e below (s₁.setTop (mkF m 0 #[.val (.ref w_PROCESSOR)] [])) _
    refine XS.aloadN X0.here hx rfl (hb hby d3_0) rfl rfl ?_
    show Steps p.tables e below (s₁.setTop (mkF m 1 #[.val (.ref w_PROCESSOR)] [(.ref w_PROCESSOR)])) _
    refine st1 _ ?_
    show Steps p.tables e below (T1.setTop (mkF m 4 #[.val (.ref w_PROCESSOR)] [(.ref w_PAYLOAD)])) _
    exact retOut X1 hx Bd.returns rfl (Or.inr (Or.inr (Or.inr (Or.inr ⟨rfl, rfl, rfl⟩)))) (hb hby d3_4) hr
  · exact ⟨rfl, N0, e1⟩
set_option maxRecDepth 65536 in
set_option maxHeartbeats 40000000 in
theorem rm0_3 (l : Launch) (Z : State) (a0 : Array Value) (hw : ∀ d ∈ tables_1, d.before a0 Z = true) (ws : List Jvm.Cond) (n0 : Nat) (h0 : Heap) (O : Old Z n0 h0) (w_PRODUCER : Addr) (w_NOTHING : Addr) (w_PAYLOAD : Addr) (w_PROCESSOR : Addr) (w_MESSAGE_STREAM : Addr) (w_MESSAGE : Addr) (w_PAYLOAD_STREAM : Addr) (w_CONSUMER : Addr) (w_ASYNC_PROCESSOR : Addr) (w_MESSAGE_CONSUMER : Addr) (w_ASYNC_MESSAGE_PROCESSOR : Addr) (w_MESSAGE_PROCESSOR : Addr) (W : OwW Z w_PRODUCER w_NOTHING w_PAYLOAD w_PROCESSOR w_MESSAGE_STREAM w_MESSAGE w_PAYLOAD_STREAM w_CONSUMER w_ASYNC_PROCESSOR w_MESSAGE_CONSUMER w_ASYNC_MESSAGE_PROCESSOR w_MESSAGE_PROCESSOR) (p0 : Int32) (hi : (p0 &&& (2147483647 : Int32)) % (9 : Int32) = (3 : Int32)) :
    OwCon l x code maxLocals ret ws room_1 #[(.int p0)] Z h0 (OwP (fun v _ => v = some (.int 1)) n0) := by
  refine MetFree.of_bodySF (plainFor_of_name owpn0) hisR ?_
  intro p e s m args below meth c s₁ Bd hml0 hP hK
  obtain ⟨rfl, hZ, hh⟩ := hP
  have hx := Bd.exec
  have hby := Bd.bytes
  have hml : c.maxLocals = 7 := hml0
  have hown : s.vm.findClass "com/example/aizu/aizu/channels/ShapeReadsPinLaw" = some m.cls := findClass_of_methodNamed Bd.named
  have hnm := (name_of_methodNamed Bd.named Bd.method).1
  have X0 : Stand p l e room_1 s m #[(.int p0)] below meth c s₁ [] 0 0 := Stand.of_body Bd
  have e0 : s₁.heap = h0 := by rw [← hh, Bd.state]; rfl
  have N0 := Fr.nil n0
  have WW := W
  obtain ⟨E_w_PRODUCER, E_w_NOTHING, E_w_PAYLOAD, E_w_PROCESSOR, E_w_MESSAGE_STREAM, E_w_MESSAGE, E_w_PAYLOAD_STREAM, E_w_CONSUMER, E_w_ASYNC_PROCESSOR, E_w_MESSAGE_CONSUMER, E_w_ASYNC_MESSAGE_PROCESSOR, E_w_MESSAGE_PROCESSOR, S_ChannelMethod_Shape_PRODUCER, S_ChannelMethod_Kind_NOTHING, F_w_PRODUCER_takes, S_ChannelMethod_Kind_PAYLOAD, F_w_PRODUCER_gives, F_w_PAYLOAD_ordinal, F_w_NOTHING_ordinal, S_ChannelMethod_Shape_PROCESSOR, F_w_PROCESSOR_takes, S_ChannelMethod_Shape_MESSAGE_STREAM, F_w_MESSAGE_STREAM_takes, S_ChannelMethod_Kind_MESSAGE, F_w_MESSAGE_STREAM_gives, F_w_MESSAGE_ordinal, S_ChannelMethod_Shape_PAYLOAD_STREAM, F_w_PAYLOAD_STREAM_takes, F_w_PAYLOAD_STREAM_gives, S_ChannelMethod_Shape_CONSUMER, F_w_CONSUMER_takes, S_ChannelMethod_Shape_ASYNC_PROCESSOR, F_w_ASYNC_PROCESSOR_takes, S_ChannelMethod_Shape_MESSAGE_CONSUMER, F_w_MESSAGE_CONSUMER_takes, S_ChannelMethod_Shape_ASYNC_MESSAGE_PROCESSOR, F_w_ASYNC_MESSAGE_PROCESSOR_takes, S_ChannelMethod_Shape_MESSAGE_PROCESSOR, F_w_MESSAGE_PROCESSOR_takes, F_w_PROCESSOR_gives, F_w_CONSUMER_gives, F_w_ASYNC_PROCESSOR_gives, F_w_MESSAGE_CONSUMER_gives, F_w_ASYNC_MESSAGE_PROCESSOR_gives, F_w_MESSAGE_PROCESSOR_gives, ne_w_PAYLOAD_w_NOTHING, ne_w_MESSAGE_w_NOTHING, -⟩ := WW
  have ef : entryFrame m #[(.int p0)] maxLocals = mkF m 0 #[.val (.int p0), .unset, .unset, .unset, .unset, .unset, .unset] [] := by first | rfl | (simp [entryFrame, mkF, argsToLocals, Value.category, maxLocals]; done)
  have pre0 : ∀ t, Steps p.tables e below (s₁.setTop (mkF m 0 #[.val (.int p0), .unset, .unset, .unset, .unset, .unset, .unset] [])) t → Steps p.tables e below (s₁.setTop (entryFrame m #[(.int p0)] maxLocals)) t := fun t k => castTop ef k
  obtain ⟨_, _, ⟨T1, L1, k1, n1⟩, -, X1, ⟨Lc1, hQ1, l1, y1, z1⟩, st1⟩ := Jvm.LawKit.callS X0 hx (y := (⟨"com/example/aizu/aizu/channels/ShapeReadsPinLaw", "shapeAt", "(I)Lcom/example/aizu/aizu/channels/ChannelMethod$Shape;"⟩ : MethodName)) hown (mvT hZ (hw _ (List.mem_of_getElem? (i := 1) rfl))) (mvT hZ (hw _ (List.mem_of_getElem? (i := 2) rfl))) (mvT hZ (hw _ (List.mem_of_getElem? (i := 3) rfl))) (mvT hZ (hw _ (List.mem_of_getElem? (i := 4) rfl))) (by decide) (backOf (W := 0) (rm1_3 l Z a0 hw [] n0 h0 O w_PRODUCER w_NOTHING w_PAYLOAD w_PROCESSOR w_MESSAGE_STREAM w_MESSAGE w_PAYLOAD_STREAM w_CONSUMER w_ASYNC_PROCESSOR w_MESSAGE_CONSUMER w_ASYNC_MESSAGE_PROCESSOR w_MESSAGE_PROCESSOR W  ) hZ (hw _ (List.mem_of_getElem? (i := 4) rfl)) (hw _ (List.mem_of_getElem? (i := 3) rfl)) (by decide) (by decide)) (g := (mkF m 9 #[.val (.int p0), .val (.int (3 : Int32)), .unset, .unset, .unset, .unset, .unset] [(.int (3 : Int32))])) rfl (by rw [hml]; rfl) (argsL := [(.int (3 : Int32))]) (rest := []) (lenOf owpd0 rfl) rfl (by show 2 * 0 + _ ≤ _; exact Nat.le_of_eq rfl) (hb hby at_9) (fun _ _ => ⟨rfl, e0, (by decide : 0 + 0 ≤ _), (by decide : 0 + 0 ≤ _)⟩)
  dsimp only [Pt.U, Pt.locs, Pt.cells, Pt.slots] at X1 l1 y1 z1 st1 hQ1
  subst l1 y1 z1
  obtain ⟨rfl, Nq1, e1⟩ := hQ1
  have N1 := Fr.app N0 Nq1
  obtain ⟨cq2, kq2, q2a, q2b, q2c⟩ := isOf hZ e1 (E_w_PROCESSOR.ext O.2)
  obtain ⟨_, _, ⟨T2, L2, k2, n2⟩, -, X2, ⟨Lc2, hQ2, l2, y2, z2⟩, st2⟩ := X1.virtualBack hx (y := (⟨"com/example/aizu/aizu/channels/ChannelMethod$Shape", "reads", "()Z"⟩ : MethodName)) (z := (⟨"com/example/aizu/aizu/channels/ChannelMethod$Shape", "reads", "()Z"⟩ : MethodName)) hown (mvT hZ (hw _ (List.mem_of_getElem? (i := 8) rfl))) (mvT hZ (hw _ (List.mem_of_getElem? (i := 9) rfl))) (notFace_of_selects (args := #[]) (mvT hZ (hw _ (List.mem_of_getElem? (i := 11) rfl)))) (mvT hZ (hw _ (List.mem_of_getElem? (i := 11) rfl))) (mvT hZ (hw _ (List.mem_of_getElem? (i := 10) rfl))) (by decide) (backOf (W := 0) (rm2_3 l Z a0 hw [] n0 h0 O w_PRODUCER w_NOTHING w_PAYLOAD w_PROCESSOR w_MESSAGE_STREAM w_MESSAGE w_PAYLOAD_STREAM w_CONSUMER w_ASYNC_PROCESSOR w_MESSAGE_CONSUMER w_ASYNC_MESSAGE_PROCESSOR w_MESSAGE_PROCESSOR W  ) hZ (hw _ (List.mem_of_getElem? (i := 12) rfl)) (hw _ (List.mem_of_getElem? (i := 6) rfl)) (by decide) (by decide)) q2a q2c (g := (mkF m 25 #[.val (.int p0), .val (.int (3 : Int32)), .val (.ref w_PROCESSOR), .val (.int (1 : Int32)), .unset, .unset, .unset] [(.ref w_PROCESSOR)])) rfl (by rw [hml]; rfl) (Steps.refl _) (argsL := []) (rest := []) (lenOf owpd1 rfl) rfl (by show 2 * 0 + _ ≤ _; exact Nat.le_of_eq rfl) (hb hby at_25) (fun _ _ => ⟨rfl, e1, (by decide : 0 + 0 ≤ _), (by decide : 0 + 0 ≤ _)⟩)
  dsimp only [Pt.U, Pt.locs, Pt.cells, Pt.slots] at X2 l2 y2 z2 st2 hQ2
  subst l2 y2 z2
  obtain ⟨rfl, Nq2, e2⟩ := hQ2
  have N2 := Fr.app N1 Nq2
  obtain ⟨cq3, kq3, q3a, q3b, q3c⟩ := isOf hZ e2 (E_w_PROCESSOR.ext O.2)
  obtain ⟨_, _, ⟨T3, L3, k3, n3⟩, -, X3, ⟨Lc3, hQ3, l3, y3, z3⟩, st3⟩ := X2.virtualBack hx (y := (⟨"com/example/aizu/aizu/channels/ChannelMethod$Shape", "takes", "()Lcom/example/aizu/aizu/channels/ChannelMethod$Kind;"⟩ : MethodName)) (z := (⟨"com/example/aizu/aizu/channels/ChannelMethod$Shape", "takes", "()Lcom/example/aizu/aizu/channels/ChannelMethod$Kind;"⟩ : MethodName)) hown (mvT hZ (hw _ (List.mem_of_getElem? (i := 18) rfl))) (mvT hZ (hw _ (List.mem_of_getElem? (i := 19) rfl))) (notFace_of_selects (args := #[]) (mvT hZ (hw _ (List.mem_of_getElem? (i := 21) rfl)))) (mvT hZ (hw _ (List.mem_of_getElem? (i := 21) rfl))) (mvT hZ (hw _ (List.mem_of_getElem? (i := 20) rfl))) (by decide) (backOf (W := 1) (rm3_3 l Z a0 hw [] n0 h0 O w_PRODUCER w_NOTHING w_PAYLOAD w_PROCESSOR w_MESSAGE_STREAM w_MESSAGE w_PAYLOAD_STREAM w_CONSUMER w_ASYNC_PROCESSOR w_MESSAGE_CONSUMER w_ASYNC_MESSAGE_PROCESSOR w_MESSAGE_PROCESSOR W  ) hZ (hw _ (List.mem_of_getElem? (i := 22) rfl)) (hw _ (List.mem_of_getElem? (i := 6) rfl)) (by decide) (by decide)) q3a q3c (g := (mkF m 33 #[.val (.int p0), .val (.int (3 : Int32)), .val (.ref w_PROCESSOR), .val (.int (1 : Int32)), .val (.int (1 : Int32)), .unset, .unset] [(.ref w_PROCESSOR), (.int (1 : Int32))])) rfl (by rw [hml]; rfl) (Steps.refl _) (argsL := []) (rest := [(.int (1 : Int32))]) (lenOf owpd2 rfl) rfl (by show 2 * 0 + _ ≤ _; exact Nat.le_of_eq rfl) (hb hby at_33) (fun _ _ => ⟨rfl, e2, (by decide : 0 + 0 ≤ _), (by decide : 0 + 0 ≤ _)⟩)
  dsimp only [Pt.U, Pt.locs, Pt.cells, Pt.slots] at X3 l3 y3 z3 st3 hQ3
  subst l3 y3 z3
  obtain ⟨rfl, Nq3, e3⟩ := hQ3
  have N3 := Fr.app N2 Nq3
  obtain ⟨T4, X4, e4, st4⟩ := getS2 X3 hx hZ hown (host := "") (Or.inl (hw _ (List.mem_of_getElem? (i := 23) rfl))) Via.refl e3 (S_ChannelMethod_Kind_NOTHING.ext O.2) (g := (mkF m 36 #[.val (.int p0), .val (.int (3 : Int32)), .val (.ref w_PROCESSOR), .val (.int (1 : Int32)), .val (.int (1 : Int32)), .unset, .unset] [(.ref w_PAYLOAD), (.int (1 : Int32))])) rfl (hb hby at_36)
  obtain ⟨fs, hr, hrun, hended, hW, hsame⟩ := X4.leave (v := some (.int (1 : Int32))) (fun h => by rw [Bd.returns] at h; cases h)
  refine ⟨_, _, pre0 _ ?_, hrun, hended, _, _, rfl, ?_, ⟨_, rfl⟩, hW, hsame.mono (by decide) (by decide)⟩
  · show Steps p.tables e below (s₁.setTop (mkF m 0 #[.val (.int p0), .unset, .unset, .unset, .unset, .unset, .unset] [])) _
    refine XS.iloadN X0.here hx rfl (hb hby at_0) rfl ?_
    show Steps p.tables e below (s₁.setTop (mkF m 1 #[.val (.int p0), .unset, .unset, .unset, .unset, .unset, .unset] [(.int p0)])) _
    refine X0.ldcInt hx hown (mvT hZ (hw _ (List.mem_of_getElem? (i := 0) rfl))) (g := (mkF m 1 #[.val (.int p0), .unset, .unset, .unset, .unset, .unset, .unset] [(.int p0)])) rfl (hb hby at_1) _ ?_
    show Steps p.tables e below (s₁.setTop (mkF m 3 #[.val (.int p0), .unset, .unset, .unset, .unset, .unset, .unset] [(.int (2147483647 : Int32)), (.int p0)])) _
    refine XS.iand X0.here hx rfl (hb hby at_3) rfl ?_
    show Steps p.tables e below (s₁.setTop (mkF m 4 #[.val (.int p0), .unset, .unset, .unset, .unset, .unset, .unset] [(.int (p0 &&& (2147483647 : Int32)))])) _
    refine XS.bipush X0.here hx rfl (hb hby at_4) ?_
    show Steps p.tables e below (s₁.setTop (mkF m 6 #[.val (.int p0), .unset, .unset, .unset, .unset, .unset, .unset] [(.int (9 : Int32)), (.int (p0 &&& (2147483647 : Int32)))])) _
    refine iremM X0 hx rfl (hb hby at_6) rfl (by decide) ?_
    show Steps p.tables e below (s₁.setTop (mkF m 7 #[.val (.int p0), .unset, .unset, .unset, .unset, .unset, .unset] [(.int ((p0 &&& (2147483647 : Int32)) % (9 : Int32)))])) _
    rw [hi]
    show Steps p.tables e below (s₁.setTop (mkF m 7 #[.val (.int p0), .unset, .unset, .unset, .unset, .unset, .unset] [(.int (3 : Int32))])) _
    refine XS.istoreN X0.here hx rfl (hb hby at_7) rfl (l' := #[.val (.int p0), .val (.int (3 : Int32)), .unset, .unset, .unset, .unset, .unset]) rfl ?_
    show Steps p.tables e below (s₁.setTop (mkF m 8 #[.val (.int p0), .val (.int (3 : Int32)), .unset, .unset, .unset, .unset, .unset] [])) _
    refine XS.iloadN X0.here hx rfl (hb hby at_8) rfl ?_
    show Steps p.tables e below (s₁.setTop (mkF m 9 #[.val (.int p0), .val (.int (3 : Int32)), .unset, .unset, .unset, .unset, .unset] [(.int (3 : Int32))])) _
    refine st1 _ ?_
    show Steps p.tables e below (T1.setTop (mkF m 12 #[.val (.int p0), .val (.int (3 : Int32)), .unset, .unset, .unset, .unset, .unset] [(.ref w_PROCESSOR)])) _
    refine XS.astoreN X1.here hx rfl (hb hby at_12) rfl rfl (l' := #[.val (.int p0), .val (.int (3 : Int32)), .val (.ref w_PROCESSOR), .unset, .unset, .unset, .unset]) rfl ?_
    show Steps p.tables e below (T1.setTop (mkF m 13 #[.val (.int p0), .val (.int (3 : Int32)), .val (.ref w_PROCESSOR), .unset, .unset, .unset, .unset] [])) _
    refine XS.iloadN X1.here hx rfl (hb hby at_13) rfl ?_
    show Steps p.tables e below (T1.setTop (mkF m 14 #[.val (.int p0), .val (.int (3 : Int32)), .val (.ref w_PROCESSOR), .unset, .unset, .unset, .unset] [(.int (3 : Int32))])) _
    refine XS.iconst X1.here hx rfl (hb hby at_14) ?_
    show Steps p.tables e below (T1.setTop (mkF m 15 #[.val (.int p0), .val (.int (3 : Int32)), .val (.ref w_PROCESSOR), .unset, .unset, .unset, .unset] [(.int (3 : Int32)), (.int (3 : Int32))])) _
    refine XS.icmpNo X1.here hx rfl (hb hby at_15) rfl (flt (by decide : ¬ ((3 : Int32) < (3 : Int32)))).1 ?_
    show Steps p.tables e below (T1.setTop (mkF m 18 #[.val (.int p0), .val (.int (3 : Int32)), .val (.ref w_PROCESSOR), .unset, .unset, .unset, .unset] [])) _
    refine XS.iconst X1.here hx rfl (hb hby at_18) ?_
    show Steps p.tables e below (T1.setTop (mkF m 19 #[.val (.int p0), .val (.int (3 : Int32)), .val (.ref w_PROCESSOR), .unset, .unset, .unset, .unset] [(.int (1 : Int32))])) _
    refine XS.goto X1.here hx rfl (pc0 := 19) (pc' := 23) rfl (hb hby at_19) (by decide) (by decide) ?_
    show Steps p.tables e below (T1.setTop (mkF m 23 #[.val (.int p0), .val (.int (3 : Int32)), .val (.ref w_PROCESSOR), .unset, .unset, .unset, .unset] [(.int (1 : Int32))])) _
    refine XS.istoreN X1.here hx rfl (hb hby at_23) rfl (l' := #[.val (.int p0), .val (.int (3 : Int32)), .val (.ref w_PROCESSOR), .val (.int (1 : Int32)), .unset, .unset, .unset]) rfl ?_
    show Steps p.tables e below (T1.setTop (mkF m 24 #[.val (.int p0), .val (.int (3 : Int32)), .val (.ref w_PROCESSOR), .val (.int (1 : Int32)), .unset, .unset, .unset] [])) _
    refine XS.aloadN X1.here hx rfl (hb hby at_24) rfl rfl ?_
    show Steps p.tables e below (T1.setTop (mkF m 25 #[.val (.int p0), .val (.int (3 : Int32)), .val (.ref w_PROCESSOR), .val (.int (1 : Int32)), .unset, .unset, .unset] [(.ref w_PROCESSOR)])) _
    refine st2.trans ?_
    show Steps p.tables e below (T2.setTop (mkF m 28 #[.val (.int p0), .val (.int (3 : Int32)), .val (.ref w_PROCESSOR), .val (.int (1 : Int32)), .unset, .unset, .unset] [(.int (1 : Int32))])) _
    refine XS.istore X2.here hx rfl (hb hby at_28) rfl (l' := #[.val (.int p0), .val (.int (3 : Int32)), .val (.ref w_PROCESSOR), .val (.int (1 : Int32)), .val (.int (1 : Int32)), .unset, .unset]) rfl ?_
    show Steps p.tables e below (T2.setTop (mkF m 30 #[.val (.int p0), .val (.int (3 : Int32)), .val (.ref w_PROCESSOR), .val (.int (1 : Int32)), .val (.int (1 : Int32)), .unset, .unset] [])) _
    refine XS.iload X2.here hx rfl (hb hby at_30) rfl ?_
    show Steps p.tables e below (T2.setTop (mkF m 32 #[.val (.int p0), .val (.int (3 : Int32)), .val (.ref w_PROCESSOR), .val (.int (1 : Int32)), .val (.int (1 : Int32)), .unset, .unset] [(.int (1 : Int32))])) _
    refine XS.aloadN X2.here hx rfl (hb hby at_32) rfl rfl ?_
    show Steps p.tables e below (T2.setTop (mkF m 33 #[.val (.int p0), .val (.int (3 : Int32)), .val (.ref w_PROCESSOR), .val (.int (1 : Int32)), .val (.int (1 : Int32)), .unset, .unset] [(.ref w_PROCESSOR), (.int (1 : Int32))])) _
    refine st3.trans ?_
    show Steps p.tables e below (T3.setTop (mkF m 36 #[.val (.int p0), .val (.int (3 : Int32)), .val (.ref w_PROCESSOR), .val (.int (1 : Int32)), .val (.int (1 : Int32)), .unset, .unset] [(.ref w_PAYLOAD), (.int (1 : Int32))])) _
    refine st4 _ ?_
    show Steps p.tables e below (T4.setTop (mkF m 39 #[.val (.int p0), .val (.int (3 : Int32)), .val (.ref w_PROCESSOR), .val (.int (1 : Int32)), .val (.int (1 : Int32)), .unset, .unset] [(.ref w_NOTHING), (.ref w_PAYLOAD), (.int (1 : Int32))])) _
    refine Jvm.RoadKit.acmp (g := (mkF m 39 #[.val (.int p0), .val (.int (3 : Int32)), .val (.ref w_PROCESSOR), .val (.int (1 : Int32)), .val (.int (1 : Int32)), .unset, .unset] [(.ref w_NOTHING), (.ref w_PAYLOAD), (.int (1 : Int32))])) X4 hx rfl rfl rfl (pc0 := 39) (pc' := 42) (same := false) rfl (hb hby at_39) rfl (decide_eq_false fun q => ne_w_PAYLOAD_w_NOTHING (Value.ref.inj q)) (by decide) (by decide) ?_
    show Steps p.tables e below (T4.setTop (mkF m 42 #[.val (.int p0), .val (.int (3 : Int32)), .val (.ref w_PROCESSOR), .val (.int (1 : Int32)), .val (.int (1 : Int32)), .unset, .unset] [(.int (1 : Int32))])) _
    refine XS.iconst X4.here hx rfl (hb hby at_42) ?_
    show Steps p.tables e below (T4.setTop (mkF m 43 #[.val (.int p0), .val (.int (3 : Int32)), .val (.ref w_PROCESSOR), .val (.int (1 : Int32)), .val (.int (1 : Int32)), .unset, .unset] [(.int (1 : Int32)), (.int (1 : Int32))])) _
    refine XS.goto X4.here hx rfl (pc0 := 43) (pc' := 47) rfl (hb hby at_43) (by decide) (by decide) ?_
    show Steps p.tables e below (T4.setTop (mkF m 47 #[.val (.int p0), .val (.int (3 : Int32)), .val (.ref w_PROCESSOR), .val (.int (1 : Int32)), .val (.int (1 : Int32)), .unset, .unset] [(.int (1 : Int32)), (.int (1 : Int32))])) _
    refine XS.icmpNo X4.here hx rfl (hb hby at_47) rfl (teq (by decide : (1 : Int32) = (1 : Int32))).2 ?_
    show Steps p.tables e below (T4.setTop (mkF m 50 #[.val (.int p0), .val (.int (3 : Int32)), .val (.ref w_PROCESSOR), .val (.int (1 : Int32)), .val (.int (1 : Int32)), .unset, .unset] [])) _
    refine XS.iconst X4.here hx rfl (hb hby at_50) ?_
    show Steps p.tables e below (T4.setTop (mkF m 51 #[.val (.int p0), .val (.int (3 : Int32)), .val (.ref w_PROCESSOR), .val (.int (1 : Int32)), .val (.int (1 : Int32)), .unset, .unset] [(.int (1 : Int32))])) _
    refine XS.goto X4.here hx rfl (pc0 := 51) (pc' := 55) rfl (hb hby at_51) (by decide) (by decide) ?_
    show Steps p.tables e below (T4.setTop (mkF m 55 #[.val (.int p0), .val (.int (3 : Int32)), .val (.ref w_PROCESSOR), .val (.int (1 : Int32)), .val (.int (1 : Int32)), .unset, .unset] [(.int (1 : Int32))])) _
    refine XS.istore X4.here hx rfl (hb hby at_55) rfl (l' := #[.val (.int p0), .val (.int (3 : Int32)), .val (.ref w_PROCESSOR), .val (.int (1 : Int32)), .val (.int (1 : Int32)), .val (.int (1 : Int32)), .unset]) rfl ?_
    show Steps p.tables e below (T4.setTop (mkF m 57 #[.val (.int p0), .val (.int (3 : Int32)), .val (.ref w_PROCESSOR), .val (.int (1 : Int32)), .val (.int (1 : Int32)), .val (.int (1 : Int32)), .unset] [])) _
    refine XS.iload X4.here hx rfl (hb hby at_57) rfl ?_
    show Steps p.tables e below (T4.setTop (mkF m 59 #[.val (.int p0), .val (.int (3 : Int32)), .val (.ref w_PROCESSOR), .val (.int (1 : Int32)), .val (.int (1 : Int32)), .val (.int (1 : Int32)), .unset] [(.int (1 : Int32))])) _
    refine XS.ifYes X4.here hx rfl (pc0 := 59) (pc' := 69) rfl (hb hby at_59) rfl ((if0 _ _).trans (feq (by decide : ¬ ((1 : Int32) = (0 : Int32)))).2) (by decide) (by decide) ?_
    show Steps p.tables e below (T4.setTop (mkF m 69 #[.val (.int p0), .val (.int (3 : Int32)), .val (.ref w_PROCESSOR), .val (.int (1 : Int32)), .val (.int (1 : Int32)), .val (.int (1 : Int32)), .unset] [])) _
    refine XS.iconst X4.here hx rfl (hb hby at_69) ?_
    show Steps p.tables e below (T4.setTop (mkF m 70 #[.val (.int p0), .val (.int (3 : Int32)), .val (.ref w_PROCESSOR), .val (.int (1 : Int32)), .val (.int (1 : Int32)), .val (.int (1 : Int32)), .unset] [(.int (1 : Int32))])) _
    refine XS.goto X4.here hx rfl (pc0 := 70) (pc' := 74) rfl (hb hby at_70) (by decide) (by decide) ?_
    show Steps p.tables e below (T4.setTop (mkF m 74 #[.val (.int p0), .val (.int (3 : Int32)), .val (.ref w_PROCESSOR), .val (.int (1 : Int32)), .val (.int (1 : Int32)), .val (.int (1 : Int32)), .unset] [(.int (1 : Int32))])) _
    refine XS.istore X4.here hx rfl (hb hby at_74) rfl (l' := #[.val (.int p0), .val (.int (3 : Int32)), .val (.ref w_PROCESSOR), .val (.int (1 : Int32)), .val (.int (1 : Int32)), .val (.int (1 : Int32)), .val (.int (1 : Int32))]) rfl ?_
    show Steps p.tables e below (T4.setTop (mkF m 76 #[.val (.int p0), .val (.int (3 : Int32)), .val (.ref w_PROCESSOR), .val (.int (1 : Int32)), .val (.int (1 : Int32)), .val (.int (1 : Int32)), .val (.int (1 : Int32))] [])) _
    refine XS.iload X4.here hx rfl (hb hby at_76) rfl ?_
    show Steps p.tables e below (T4.setTop (mkF m 78 #[.val (.int p0), .val (.int (3 : Int32)), .val (.ref w_PROCESSOR), .val (.int (1 : Int32)), .val (.int (1 : Int32)), .val (.int (1 : Int32)), .val (.int (1 : Int32))] [(.int (1 : Int32))])) _
    refine XS.iloadN X4.here hx rfl (hb hby at_78) rfl ?_
    show Steps p.tables e below (T4.setTop (mkF m 79 #[.val (.int p0), .val (.int (3 : Int32)), .val (.ref w_PROCESSOR), .val (.int (1 : Int32)), .val (.int (1 : Int32)), .val (.int (1 : Int32)), .val (.int (1 : Int32))] [(.int (1 : Int32)), (.int (1 : Int32))])) _
    refine XS.icmpNo X4.here hx rfl (hb hby at_79) rfl (teq (by decide : (1 : Int32) = (1 : Int32))).2 ?_
    show Steps p.tables e below (T4.setTop (mkF m 82 #[.val (.int p0), .val (.int (3 : Int32)), .val (.ref w_PROCESSOR), .val (.int (1 : Int32)), .val (.int (1 : Int32)), .val (.int (1 : Int32)), .val (.int (1 : Int32))] [])) _
    refine XS.iload X4.here hx rfl (hb hby at_82) rfl ?_
    show Steps p.tables e below (T4.setTop (mkF m 84 #[.val (.int p0), .val (.int (3 : Int32)), .val (.ref w_PROCESSOR), .val (.int (1 : Int32)), .val (.int (1 : Int32)), .val (.int (1 : Int32)), .val (.int (1 : Int32))] [(.int (1 : Int32))])) _
    refine XS.ifNo X4.here hx rfl (hb hby at_84) rfl ((if0 _ _).trans (feq (by decide : ¬ ((1 : Int32) = (0 : Int32)))).1) ?_
    show Steps p.tables e below (T4.setTop (mkF m 87 #[.val (.int p0), .val (.int (3 : Int32)), .val (.ref w_PROCESSOR), .val (.int (1 : Int32)), .val (.int (1 : Int32)), .val (.int (1 : Int32)), .val (.int (1 : Int32))] [])) _
    refine XS.iload X4.here hx rfl (hb hby at_87) rfl ?_
    show Steps p.tables e below (T4.setTop (mkF m 89 #[.val (.int p0), .val (.int (3 : Int32)), .val (.ref w_PROCESSOR), .val (.int (1 : Int32)), .val (.int (1 : Int32)), .val (.int (1 : Int32)), .val (.int (1 : Int32))] [(.int (1 : Int32))])) _
    refine XS.ifNo X4.here hx rfl (hb hby at_89) rfl ((if0 _ _).trans (feq (by decide : ¬ ((1 : Int32) = (0 : Int32)))).1) ?_
    show Steps p.tables e below (T4.setTop (mkF m 92 #[.val (.int p0), .val (.int (3 : Int32)), .val (.ref w_PROCESSOR), .val (.int (1 : Int32)), .val (.int (1 : Int32)), .val (.int (1 : Int32)), .val (.int (1 : Int32))] [])) _
    refine XS.iconst X4.here hx rfl (hb hby at_92) ?_
    show Steps p.tables e below (T4.setTop (mkF m 93 #[.val (.int p0), .val (.int (3 : Int32)), .val (.ref w_PROCESSOR), .val (.int (1 : Int32)), .val (.int (1 : Int32)), .val (.int (1 : Int32)), .val (.int (1 : Int32))] [(.int (1 : Int32))])) _
    refine XS.goto X4.here hx rfl (pc0 := 93) (pc' := 97) rfl (hb hby at_93) (by decide) (by decide) ?_
    show Steps p.tables e below (T4.setTop (mkF m 97 #[.val (.int p0), .val (.int (3 : Int32)), .val (.ref w_PROCESSOR), .val (.int (1 : Int32)), .val (.int (1 : Int32)), .val (.int (1 : Int32)), .val (.int (1 : Int32))] [(.int (1 : Int32))])) _
    exact retN X4 hx (t := .boolean) Bd.returns (by simp) (hb hby at_97) hr
  · exact ⟨N3, rfl⟩
set_option maxRecDepth 65536 in
set_option maxHeartbeats 40000000 in
theorem rm1_4 (l : Launch) (Z : State) (a0 : Array Value) (hw : ∀ d ∈ tables_1, d.before a0 Z = true) (ws : List Jvm.Cond) (n0 : Nat) (h0 : Heap) (O : Old Z n0 h0) (w_PRODUCER : Addr) (w_NOTHING : Addr) (w_PAYLOAD : Addr) (w_PROCESSOR : Addr) (w_MESSAGE_STREAM : Addr) (w_MESSAGE : Addr) (w_PAYLOAD_STREAM : Addr) (w_CONSUMER : Addr) (w_ASYNC_PROCESSOR : Addr) (w_MESSAGE_CONSUMER : Addr) (w_ASYNC_MESSAGE_PROCESSOR : Addr) (w_MESSAGE_PROCESSOR : Addr) (W : OwW Z w_PRODUCER w_NOTHING w_PAYLOAD w_PROCESSOR w_MESSAGE_STREAM w_MESSAGE w_PAYLOAD_STREAM w_CONSUMER w_ASYNC_PROCESSOR w_MESSAGE_CONSUMER w_ASYNC_MESSAGE_PROCESSOR w_MESSAGE_PROCESSOR)  :
    OwCon l (⟨"com/example/aizu/aizu/channels/ShapeReadsPinLaw", "shapeAt", "(I)Lcom/example/aizu/aizu/channels/ChannelMethod$Shape;"⟩ : MethodName) method_3_code 1 (some (.object "com/example/aizu/aizu/channels/ChannelMethod$Shape")) ws ({ frames := 0, cells := 0, slots := 0, locals := 0 } : Room) #[(.int (4 : Int32))] Z h0 (OwQ (some (.ref w_ASYNC_PROCESSOR)) h0 n0) := by
  refine MetFree.of_bodySF (plainFor_of_name owpn1) hisR ?_
  intro p e s m args below meth c s₁ Bd hml0 hP hK
  obtain ⟨rfl, hZ, hh⟩ := hP
  have hx := Bd.exec
  have hby := Bd.bytes
  have hml : c.maxLocals = 1 := hml0
  have hown : s.vm.findClass "com/example/aizu/aizu/channels/ShapeReadsPinLaw" = some m.cls := findClass_of_methodNamed Bd.named
  have hnm := (name_of_methodNamed Bd.named Bd.method).1
  have X0 : Stand p l e ({ frames := 0, cells := 0, slots := 0, locals := 0 } : Room) s m #[(.int (4 : Int32))] below meth c s₁ [] 0 0 := Stand.of_body Bd
  have e0 : s₁.heap = h0 := by rw [← hh, Bd.state]; rfl
  have N0 := Fr.nil n0
  have WW := W
  obtain ⟨E_w_PRODUCER, E_w_NOTHING, E_w_PAYLOAD, E_w_PROCESSOR, E_w_MESSAGE_STREAM, E_w_MESSAGE, E_w_PAYLOAD_STREAM, E_w_CONSUMER, E_w_ASYNC_PROCESSOR, E_w_MESSAGE_CONSUMER, E_w_ASYNC_MESSAGE_PROCESSOR, E_w_MESSAGE_PROCESSOR, S_ChannelMethod_Shape_PRODUCER, S_ChannelMethod_Kind_NOTHING, F_w_PRODUCER_takes, S_ChannelMethod_Kind_PAYLOAD, F_w_PRODUCER_gives, F_w_PAYLOAD_ordinal, F_w_NOTHING_ordinal, S_ChannelMethod_Shape_PROCESSOR, F_w_PROCESSOR_takes, S_ChannelMethod_Shape_MESSAGE_STREAM, F_w_MESSAGE_STREAM_takes, S_ChannelMethod_Kind_MESSAGE, F_w_MESSAGE_STREAM_gives, F_w_MESSAGE_ordinal, S_ChannelMethod_Shape_PAYLOAD_STREAM, F_w_PAYLOAD_STREAM_takes, F_w_PAYLOAD_STREAM_gives, S_ChannelMethod_Shape_CONSUMER, F_w_CONSUMER_takes, S_ChannelMethod_Shape_ASYNC_PROCESSOR, F_w_ASYNC_PROCESSOR_takes, S_ChannelMethod_Shape_MESSAGE_CONSUMER, F_w_MESSAGE_CONSUMER_takes, S_ChannelMethod_Shape_ASYNC_MESSAGE_PROCESSOR, F_w_ASYNC_MESSAGE_PROCESSOR_takes, S_ChannelMethod_Shape_MESSAGE_PROCESSOR, F_w_MESSAGE_PROCESSOR_takes, F_w_PROCESSOR_gives, F_w_CONSUMER_gives, F_w_ASYNC_PROCESSOR_gives, F_w_MESSAGE_CONSUMER_gives, F_w_ASYNC_MESSAGE_PROCESSOR_gives, F_w_MESSAGE_PROCESSOR_gives, ne_w_PAYLOAD_w_NOTHING, ne_w_MESSAGE_w_NOTHING, -⟩ := WW
  have ef : entryFrame m #[(.int (4 : Int32))] 1 = mkF m 0 #[.val (.int (4 : Int32))] [] := by first | rfl | (simp [entryFrame, mkF, argsToLocals, Value.category]; done)
  have pre0 : ∀ t, Steps p.tables e below (s₁.setTop (mkF m 0 #[.val (.int (4 : Int32))] [])) t → Steps p.tables e below (s₁.setTop (entryFrame m #[(.int (4 : Int32))] 1)) t := fun t k => castTop ef k
  obtain ⟨T1, X1, e1, st1⟩ := getS2 X0 hx hZ hown (host := "") (Or.inl (hw _ (List.mem_of_getElem? (i := 41) rfl))) Via.refl e0 (S_ChannelMethod_Shape_ASYNC_PROCESSOR.ext O.2) (g := (mkF m 40 #[.val (.int (4 : Int32))] [])) rfl (hb hby d1_40)
  obtain ⟨fs, hr, hrun, hended, hW, hsame⟩ := X1.leave (v := some (.ref w_ASYNC_PROCESSOR)) (fun h => by rw [Bd.returns] at h; cases h)
  refine ⟨_, _, pre0 _ ?_, hrun, hended, _, _, rfl, ?_, ⟨_, rfl⟩, hW, hsame.mono (by decide) (by decide)⟩
  · show Steps p.tables e below (s₁.setTop (mkF m 0 #[.val (.int (4 : Int32))] [])) _
    refine XS.iloadN X0.here hx rfl (hb hby d1_0) rfl ?_
    show Steps p.tables e below (s₁.setTop (mkF m 1 #[.val (.int (4 : Int32))] [(.int (4 : Int32))])) _
    refine XS.ifYes X0.here hx rfl (pc0 := 1) (pc' := 8) rfl (hb hby d1_1) rfl ((if0 _ _).trans (feq (by decide : ¬ ((4 : Int32) = (0 : Int32)))).2) (by decide) (by decide) ?_
    show Steps p.tables e below (s₁.setTop (mkF m 8 #[.val (.int (4 : Int32))] [])) _
    refine XS.iloadN X0.here hx rfl (hb hby d1_8) rfl ?_
    show Steps p.tables e below (s₁.setTop (mkF m 9 #[.val (.int (4 : Int32))] [(.int (4 : Int32))])) _
    refine XS.iconst X0.here hx rfl (hb hby d1_9) ?_
    show Steps p.tables e below (s₁.setTop (mkF m 10 #[.val (.int (4 : Int32))] [(.int (1 : Int32)), (.int (4 : Int32))])) _
    refine XS.icmpYes X0.here hx rfl (pc0 := 10) (pc' := 17) rfl (hb hby d1_10) rfl (feq (by decide : ¬ ((4 : Int32) = (1 : Int32)))).2 (by decide) (by decide) ?_
    show Steps p.tables e below (s₁.setTop (mkF m 17 #[.val (.int (4 : Int32))] [])) _
    refine XS.iloadN X0.here hx rfl (hb hby d1_17) rfl ?_
    show Steps p.tables e below (s₁.setTop (mkF m 18 #[.val (.int (4 : Int32))] [(.int (4 : Int32))])) _
    refine XS.iconst X0.here hx rfl (hb hby d1_18) ?_
    show Steps p.tables e below (s₁.setTop (mkF m 19 #[.val (.int (4 : Int32))] [(.int (2 : Int32)), (.int (4 : Int32))])) _
    refine XS.icmpYes X0.here hx rfl (pc0 := 19) (pc' := 26) rfl (hb hby d1_19) rfl (feq (by decide : ¬ ((4 : Int32) = (2 : Int32)))).2 (by decide) (by decide) ?_
    show Steps p.tables e below (s₁.setTop (mkF m 26 #[.val (.int (4 : Int32))] [])) _
    refine XS.iloadN X0.here hx rfl (hb hby d1_26) rfl ?_
    show Steps p.tables e below (s₁.setTop (mkF m 27 #[.val (.int (4 : Int32))] [(.int (4 : Int32))])) _
    refine XS.iconst X0.here hx rfl (hb hby d1_27) ?_
    show Steps p.tables e below (s₁.setTop (mkF m 28 #[.val (.int (4 : Int32))] [(.int (3 : Int32)), (.int (4 : Int32))])) _
    refine XS.icmpYes X0.here hx rfl (pc0 := 28) (pc' := 35) rfl (hb hby d1_28) rfl (feq (by decide : ¬ ((4 : Int32) = (3 : Int32)))).2 (by decide) (by decide) ?_
    show Steps p.tables e below (s₁.setTop (mkF m 35 #[.val (.int (4 : Int32))] [])) _
    refine XS.iloadN X0.here hx rfl (hb hby d1_35) rfl ?_
    show Steps p.tables e below (s₁.setTop (mkF m 36 #[.val (.int (4 : Int32))] [(.int (4 : Int32))])) _
    refine XS.iconst X0.here hx rfl (hb hby d1_36) ?_
    show Steps p.tables e below (s₁.setTop (mkF m 37 #[.val (.int (4 : Int32))] [(.int (4 : Int32)), (.int (4 : Int32))])) _
    refine XS.icmpNo X0.here hx rfl (hb hby d1_37) rfl (teq (by decide : (4 : Int32) = (4 : Int32))).2 ?_
    show Steps p.tables e below (s₁.setTop (mkF m 40 #[.val (.int (4 : Int32))] [])) _
    refine st1 _ ?_
    show Steps p.tables e below (T1.setTop (mkF m 43 #[.val (.int (4 : Int32))] [(.ref w_ASYNC_PROCESSOR)])) _
    exact retOut X1 hx Bd.returns rfl (Or.inr (Or.inr (Or.inr (Or.inr ⟨rfl, rfl, rfl⟩)))) (hb hby d1_43) hr
  · exact ⟨rfl, N0, e1⟩
set_option maxRecDepth 65536 in
set_option maxHeartbeats 40000000 in
theorem rm2_4 (l : Launch) (Z : State) (a0 : Array Value) (hw : ∀ d ∈ tables_1, d.before a0 Z = true) (ws : List Jvm.Cond) (n0 : Nat) (h0 : Heap) (O : Old Z n0 h0) (w_PRODUCER : Addr) (w_NOTHING : Addr) (w_PAYLOAD : Addr) (w_PROCESSOR : Addr) (w_MESSAGE_STREAM : Addr) (w_MESSAGE : Addr) (w_PAYLOAD_STREAM : Addr) (w_CONSUMER : Addr) (w_ASYNC_PROCESSOR : Addr) (w_MESSAGE_CONSUMER : Addr) (w_ASYNC_MESSAGE_PROCESSOR : Addr) (w_MESSAGE_PROCESSOR : Addr) (W : OwW Z w_PRODUCER w_NOTHING w_PAYLOAD w_PROCESSOR w_MESSAGE_STREAM w_MESSAGE w_PAYLOAD_STREAM w_CONSUMER w_ASYNC_PROCESSOR w_MESSAGE_CONSUMER w_ASYNC_MESSAGE_PROCESSOR w_MESSAGE_PROCESSOR)  :
    OwCon l (⟨"com/example/aizu/aizu/channels/ChannelMethod$Shape", "reads", "()Z"⟩ : MethodName) prog_6_method_7_code 1 (some .boolean) ws ({ frames := 0, cells := 0, slots := 0, locals := 0 } : Room) #[(.ref w_ASYNC_PROCESSOR)] Z h0 (OwQ (some (.int (1 : Int32))) h0 n0) := by
  refine MetFree.of_bodySF (plainFor_of_name owpn2) hisR ?_
  intro p e s m args below meth c s₁ Bd hml0 hP hK
  obtain ⟨rfl, hZ, hh⟩ := hP
  have hx := Bd.exec
  have hby := Bd.bytes
  have hml : c.maxLocals = 1 := hml0
  have hown : s.vm.findClass "com/example/aizu/aizu/channels/ChannelMethod$Shape" = some m.cls := findClass_of_methodNamed Bd.named
  have hnm := (name_of_methodNamed Bd.named Bd.method).1
  have X0 : Stand p l e ({ frames := 0, cells := 0, slots := 0, locals := 0 } : Room) s m #[(.ref w_ASYNC_PROCESSOR)] below meth c s₁ [] 0 0 := Stand.of_body Bd
  have e0 : s₁.heap = h0 := by rw [← hh, Bd.state]; rfl
  have N0 := Fr.nil n0
  have WW := W
  obtain ⟨E_w_PRODUCER, E_w_NOTHING, E_w_PAYLOAD, E_w_PROCESSOR, E_w_MESSAGE_STREAM, E_w_MESSAGE, E_w_PAYLOAD_STREAM, E_w_CONSUMER, E_w_ASYNC_PROCESSOR, E_w_MESSAGE_CONSUMER, E_w_ASYNC_MESSAGE_PROCESSOR, E_w_MESSAGE_PROCESSOR, S_ChannelMethod_Shape_PRODUCER, S_ChannelMethod_Kind_NOTHING, F_w_PRODUCER_takes, S_ChannelMethod_Kind_PAYLOAD, F_w_PRODUCER_gives, F_w_PAYLOAD_ordinal, F_w_NOTHING_ordinal, S_ChannelMethod_Shape_PROCESSOR, F_w_PROCESSOR_takes, S_ChannelMethod_Shape_MESSAGE_STREAM, F_w_MESSAGE_STREAM_takes, S_ChannelMethod_Kind_MESSAGE, F_w_MESSAGE_STREAM_gives, F_w_MESSAGE_ordinal, S_ChannelMethod_Shape_PAYLOAD_STREAM, F_w_PAYLOAD_STREAM_takes, F_w_PAYLOAD_STREAM_gives, S_ChannelMethod_Shape_CONSUMER, F_w_CONSUMER_takes, S_ChannelMethod_Shape_ASYNC_PROCESSOR, F_w_ASYNC_PROCESSOR_takes, S_ChannelMethod_Shape_MESSAGE_CONSUMER, F_w_MESSAGE_CONSUMER_takes, S_ChannelMethod_Shape_ASYNC_MESSAGE_PROCESSOR, F_w_ASYNC_MESSAGE_PROCESSOR_takes, S_ChannelMethod_Shape_MESSAGE_PROCESSOR, F_w_MESSAGE_PROCESSOR_takes, F_w_PROCESSOR_gives, F_w_CONSUMER_gives, F_w_ASYNC_PROCESSOR_gives, F_w_MESSAGE_CONSUMER_gives, F_w_ASYNC_MESSAGE_PROCESSOR_gives, F_w_MESSAGE_PROCESSOR_gives, ne_w_PAYLOAD_w_NOTHING, ne_w_MESSAGE_w_NOTHING, -⟩ := WW
  have ef : entryFrame m #[(.ref w_ASYNC_PROCESSOR)] 1 = mkF m 0 #[.val (.ref w_ASYNC_PROCESSOR)] [] := by first | rfl | (simp [entryFrame, mkF, argsToLocals, Value.category]; done)
  have pre0 : ∀ t, Steps p.tables e below (s₁.setTop (mkF m 0 #[.val (.ref w_ASYNC_PROCESSOR)] [])) t → Steps p.tables e below (s₁.setTop (entryFrame m #[(.ref w_ASYNC_PROCESSOR)] 1)) t := fun t k => castTop ef k
  obtain ⟨T1, X1, e1, st1⟩ := getF X0 hx hZ hown (host := "") (Or.inl (hw _ (List.mem_of_getElem? (i := 13) rfl))) Via.refl e0 (F_w_ASYNC_PROCESSOR_takes.ext O.2) (g := (mkF m 1 #[.val (.ref w_ASYNC_PROCESSOR)] [(.ref w_ASYNC_PROCESSOR)])) rfl rfl (hb hby d2_1)
  obtain ⟨T2, X2, e2, st2⟩ := getS2 X1 hx hZ hown (host := "") (Or.inl (hw _ (List.mem_of_getElem? (i := 17) rfl))) Via.refl e1 (S_ChannelMethod_Kind_NOTHING.ext O.2) (g := (mkF m 4 #[.val (.ref w_ASYNC_PROCESSOR)] [(.ref w_PAYLOAD)])) rfl (hb hby d2_4)
  obtain ⟨fs, hr, hrun, hended, hW, hsame⟩ := X2.leave (v := some (.int (1 : Int32))) (fun h => by rw [Bd.returns] at h; cases h)
  refine ⟨_, _, pre0 _ ?_, hrun, hended, _, _, rfl, ?_, ⟨_, rfl⟩, hW, hsame.mono (by decide) (by decide)⟩
  · show Steps p.tables e below (s₁.setTop (mkF m 0 #[.val (.ref w_ASYNC_PROCESSOR)] [])) _
    refine XS.aloadN X0.here hx rfl (hb hby d2_0) rfl rfl ?_
    show Steps p.tables e below (s₁.setTop (mkF m 1 #[.val (.ref w_ASYNC_PROCESSOR)] [(.ref w_ASYNC_PROCESSOR)])) _
    refine st1 _ ?_
    show Steps p.tables e below (T1.setTop (mkF m 4 #[.val (.ref w_ASYNC_PROCESSOR)] [(.ref w_PAYLOAD)])) _
    refine st2 _ ?_
    show Steps p.tables e below (T2.setTop (mkF m 7 #[.val (.ref w_ASYNC_PROCESSOR)] [(.ref w_NOTHING), (.ref w_PAYLOAD)])) _
    refine Jvm.RoadKit.acmp (g := (mkF m 7 #[.val (.ref w_ASYNC_PROCESSOR)] [(.ref w_NOTHING), (.ref w_PAYLOAD)])) X2 hx rfl rfl rfl (pc0 := 7) (pc' := 10) (same := false) rfl (hb hby d2_7) rfl (decide_eq_false fun q => ne_w_PAYLOAD_w_NOTHING (Value.ref.inj q)) (by decide) (by decide) ?_
    show Steps p.tables e below (T2.setTop (mkF m 10 #[.val (.ref w_ASYNC_PROCESSOR)] [])) _
    refine XS.iconst X2.here hx rfl (hb hby d2_10) ?_
    show Steps p.tables e below (T2.setTop (mkF m 11 #[.val (.ref w_ASYNC_PROCESSOR)] [(.int (1 : Int32))])) _
    refine XS.goto X2.here hx rfl (pc0 := 11) (pc' := 15) rfl (hb hby d2_11) (by decide) (by decide) ?_
    show Steps p.tables e below (T2.setTop (mkF m 15 #[.val (.ref w_ASYNC_PROCESSOR)] [(.int (1 : Int32))])) _
    exact retN X2 hx (t := .boolean) Bd.returns (by simp) (hb hby d2_15) hr
  · exact ⟨rfl, N0, e2⟩
set_option maxRecDepth 65536 in
set_option maxHeartbeats 40000000 in
theorem rm3_4 (l : Launch) (Z : State) (a0 : Array Value) (hw : ∀ d ∈ tables_1, d.before a0 Z = true) (ws : List Jvm.Cond) (n0 : Nat) (h0 : Heap) (O : Old Z n0 h0) (w_PRODUCER : Addr) (w_NOTHING : Addr) (w_PAYLOAD : Addr) (w_PROCESSOR : Addr) (w_MESSAGE_STREAM : Addr) (w_MESSAGE : Addr) (w_PAYLOAD_STREAM : Addr) (w_CONSUMER : Addr) (w_ASYNC_PROCESSOR : Addr) (w_MESSAGE_CONSUMER : Addr) (w_ASYNC_MESSAGE_PROCESSOR : Addr) (w_MESSAGE_PROCESSOR : Addr) (W : OwW Z w_PRODUCER w_NOTHING w_PAYLOAD w_PROCESSOR w_MESSAGE_STREAM w_MESSAGE w_PAYLOAD_STREAM w_CONSUMER w_ASYNC_PROCESSOR w_MESSAGE_CONSUMER w_ASYNC_MESSAGE_PROCESSOR w_MESSAGE_PROCESSOR)  :
    OwCon l (⟨"com/example/aizu/aizu/channels/ChannelMethod$Shape", "takes", "()Lcom/example/aizu/aizu/channels/ChannelMethod$Kind;"⟩ : MethodName) prog_6_method_4_code 1 (some (.object "com/example/aizu/aizu/channels/ChannelMethod$Kind")) ws ({ frames := 0, cells := 0, slots := 0, locals := 0 } : Room) #[(.ref w_ASYNC_PROCESSOR)] Z h0 (OwQ (some (.ref w_PAYLOAD)) h0 n0) := by
  refine MetFree.of_bodySF (plainFor_of_name owpn3) hisR ?_
  intro p e s m args below meth c s₁ Bd hml0 hP hK
  obtain ⟨rfl, hZ, hh⟩ := hP
  have hx := Bd.exec
  have hby := Bd.bytes
  have hml : c.maxLocals = 1 := hml0
  have hown : s.vm.findClass "com/example/aizu/aizu/channels/ChannelMethod$Shape" = some m.cls := findClass_of_methodNamed Bd.named
  have hnm := (name_of_methodNamed Bd.named Bd.method).1
  have X0 : Stand p l e ({ frames := 0, cells := 0, slots := 0, locals := 0 } : Room) s m #[(.ref w_ASYNC_PROCESSOR)] below meth c s₁ [] 0 0 := Stand.of_body Bd
  have e0 : s₁.heap = h0 := by rw [← hh, Bd.state]; rfl
  have N0 := Fr.nil n0
  have WW := W
  obtain ⟨E_w_PRODUCER, E_w_NOTHING, E_w_PAYLOAD, E_w_PROCESSOR, E_w_MESSAGE_STREAM, E_w_MESSAGE, E_w_PAYLOAD_STREAM, E_w_CONSUMER, E_w_ASYNC_PROCESSOR, E_w_MESSAGE_CONSUMER, E_w_ASYNC_MESSAGE_PROCESSOR, E_w_MESSAGE_PROCESSOR, S_ChannelMethod_Shape_PRODUCER, S_ChannelMethod_Kind_NOTHING, F_w_PRODUCER_takes, S_ChannelMethod_Kind_PAYLOAD, F_w_PRODUCER_gives, F_w_PAYLOAD_ordinal, F_w_NOTHING_ordinal, S_ChannelMethod_Shape_PROCESSOR, F_w_PROCESSOR_takes, S_ChannelMethod_Shape_MESSAGE_STREAM, F_w_MESSAGE_STREAM_takes, S_ChannelMethod_Kind_MESSAGE, F_w_MESSAGE_STREAM_gives, F_w_MESSAGE_ordinal, S_ChannelMethod_Shape_PAYLOAD_STREAM, F_w_PAYLOAD_STREAM_takes, F_w_PAYLOAD_STREAM_gives, S_ChannelMethod_Shape_CONSUMER, F_w_CONSUMER_takes, S_ChannelMethod_Shape_ASYNC_PROCESSOR, F_w_ASYNC_PROCESSOR_takes, S_ChannelMethod_Shape_MESSAGE_CONSUMER, F_w_MESSAGE_CONSUMER_takes, S_ChannelMethod_Shape_ASYNC_MESSAGE_PROCESSOR, F_w_ASYNC_MESSAGE_PROCESSOR_takes, S_ChannelMethod_Shape_MESSAGE_PROCESSOR, F_w_MESSAGE_PROCESSOR_takes, F_w_PROCESSOR_gives, F_w_CONSUMER_gives, F_w_ASYNC_PROCESSOR_gives, F_w_MESSAGE_CONSUMER_gives, F_w_ASYNC_MESSAGE_PROCESSOR_gives, F_w_MESSAGE_PROCESSOR_gives, ne_w_PAYLOAD_w_NOTHING, ne_w_MESSAGE_w_NOTHING, -⟩ := WW
  have ef : entryFrame m #[(.ref w_ASYNC_PROCESSOR)] 1 = mkF m 0 #[.val (.ref w_ASYNC_PROCESSOR)] [] := by first | rfl | (simp [entryFrame, mkF, argsToLocals, Value.category]; done)
  have pre0 : ∀ t, Steps p.tables e below (s₁.setTop (mkF m 0 #[.val (.ref w_ASYNC_PROCESSOR)] [])) t → Steps p.tables e below (s₁.setTop (entryFrame m #[(.ref w_ASYNC_PROCESSOR)] 1)) t := fun t k => castTop ef k
  obtain ⟨T1, X1, e1, st1⟩ := getF X0 hx hZ hown (host := "") (Or.inl (hw _ (List.mem_of_getElem? (i := 13) rfl))) Via.refl e0 (F_w_ASYNC_PROCESSOR_takes.ext O.2) (g := (mkF m 1 #[.val (.ref w_ASYNC_PROCESSOR)] [(.ref w_ASYNC_PROCESSOR)])) rfl rfl (hb hby d3_1)
  obtain ⟨fs, hr, hrun, hended, hW, hsame⟩ := X1.leave (v := some (.ref w_PAYLOAD)) (fun h => by rw [Bd.returns] at h; cases h)
  refine ⟨_, _, pre0 _ ?_, hrun, hended, _, _, rfl, ?_, ⟨_, rfl⟩, hW, hsame.mono (by decide) (by decide)⟩
  · show Steps p.tables e below (s₁.setTop (mkF m 0 #[.val (.ref w_ASYNC_PROCESSOR)] [])) _
    refine XS.aloadN X0.here hx rfl (hb hby d3_0) rfl rfl ?_
    show Steps p.tables e below (s₁.setTop (mkF m 1 #[.val (.ref w_ASYNC_PROCESSOR)] [(.ref w_ASYNC_PROCESSOR)])) _
    refine st1 _ ?_
    show Steps p.tables e below (T1.setTop (mkF m 4 #[.val (.ref w_ASYNC_PROCESSOR)] [(.ref w_PAYLOAD)])) _
    exact retOut X1 hx Bd.returns rfl (Or.inr (Or.inr (Or.inr (Or.inr ⟨rfl, rfl, rfl⟩)))) (hb hby d3_4) hr
  · exact ⟨rfl, N0, e1⟩
set_option maxRecDepth 65536 in
set_option maxHeartbeats 40000000 in
theorem rm0_4 (l : Launch) (Z : State) (a0 : Array Value) (hw : ∀ d ∈ tables_1, d.before a0 Z = true) (ws : List Jvm.Cond) (n0 : Nat) (h0 : Heap) (O : Old Z n0 h0) (w_PRODUCER : Addr) (w_NOTHING : Addr) (w_PAYLOAD : Addr) (w_PROCESSOR : Addr) (w_MESSAGE_STREAM : Addr) (w_MESSAGE : Addr) (w_PAYLOAD_STREAM : Addr) (w_CONSUMER : Addr) (w_ASYNC_PROCESSOR : Addr) (w_MESSAGE_CONSUMER : Addr) (w_ASYNC_MESSAGE_PROCESSOR : Addr) (w_MESSAGE_PROCESSOR : Addr) (W : OwW Z w_PRODUCER w_NOTHING w_PAYLOAD w_PROCESSOR w_MESSAGE_STREAM w_MESSAGE w_PAYLOAD_STREAM w_CONSUMER w_ASYNC_PROCESSOR w_MESSAGE_CONSUMER w_ASYNC_MESSAGE_PROCESSOR w_MESSAGE_PROCESSOR) (p0 : Int32) (hi : (p0 &&& (2147483647 : Int32)) % (9 : Int32) = (4 : Int32)) :
    OwCon l x code maxLocals ret ws room_1 #[(.int p0)] Z h0 (OwP (fun v _ => v = some (.int 1)) n0) := by
  refine MetFree.of_bodySF (plainFor_of_name owpn0) hisR ?_
  intro p e s m args below meth c s₁ Bd hml0 hP hK
  obtain ⟨rfl, hZ, hh⟩ := hP
  have hx := Bd.exec
  have hby := Bd.bytes
  have hml : c.maxLocals = 7 := hml0
  have hown : s.vm.findClass "com/example/aizu/aizu/channels/ShapeReadsPinLaw" = some m.cls := findClass_of_methodNamed Bd.named
  have hnm := (name_of_methodNamed Bd.named Bd.method).1
  have X0 : Stand p l e room_1 s m #[(.int p0)] below meth c s₁ [] 0 0 := Stand.of_body Bd
  have e0 : s₁.heap = h0 := by rw [← hh, Bd.state]; rfl
  have N0 := Fr.nil n0
  have WW := W
  obtain ⟨E_w_PRODUCER, E_w_NOTHING, E_w_PAYLOAD, E_w_PROCESSOR, E_w_MESSAGE_STREAM, E_w_MESSAGE, E_w_PAYLOAD_STREAM, E_w_CONSUMER, E_w_ASYNC_PROCESSOR, E_w_MESSAGE_CONSUMER, E_w_ASYNC_MESSAGE_PROCESSOR, E_w_MESSAGE_PROCESSOR, S_ChannelMethod_Shape_PRODUCER, S_ChannelMethod_Kind_NOTHING, F_w_PRODUCER_takes, S_ChannelMethod_Kind_PAYLOAD, F_w_PRODUCER_gives, F_w_PAYLOAD_ordinal, F_w_NOTHING_ordinal, S_ChannelMethod_Shape_PROCESSOR, F_w_PROCESSOR_takes, S_ChannelMethod_Shape_MESSAGE_STREAM, F_w_MESSAGE_STREAM_takes, S_ChannelMethod_Kind_MESSAGE, F_w_MESSAGE_STREAM_gives, F_w_MESSAGE_ordinal, S_ChannelMethod_Shape_PAYLOAD_STREAM, F_w_PAYLOAD_STREAM_takes, F_w_PAYLOAD_STREAM_gives, S_ChannelMethod_Shape_CONSUMER, F_w_CONSUMER_takes, S_ChannelMethod_Shape_ASYNC_PROCESSOR, F_w_ASYNC_PROCESSOR_takes, S_ChannelMethod_Shape_MESSAGE_CONSUMER, F_w_MESSAGE_CONSUMER_takes, S_ChannelMethod_Shape_ASYNC_MESSAGE_PROCESSOR, F_w_ASYNC_MESSAGE_PROCESSOR_takes, S_ChannelMethod_Shape_MESSAGE_PROCESSOR, F_w_MESSAGE_PROCESSOR_takes, F_w_PROCESSOR_gives, F_w_CONSUMER_gives, F_w_ASYNC_PROCESSOR_gives, F_w_MESSAGE_CONSUMER_gives, F_w_ASYNC_MESSAGE_PROCESSOR_gives, F_w_MESSAGE_PROCESSOR_gives, ne_w_PAYLOAD_w_NOTHING, ne_w_MESSAGE_w_NOTHING, -⟩ := WW
  have ef : entryFrame m #[(.int p0)] maxLocals = mkF m 0 #[.val (.int p0), .unset, .unset, .unset, .unset, .unset, .unset] [] := by first | rfl | (simp [entryFrame, mkF, argsToLocals, Value.category, maxLocals]; done)
  have pre0 : ∀ t, Steps p.tables e below (s₁.setTop (mkF m 0 #[.val (.int p0), .unset, .unset, .unset, .unset, .unset, .unset] [])) t → Steps p.tables e below (s₁.setTop (entryFrame m #[(.int p0)] maxLocals)) t := fun t k => castTop ef k
  obtain ⟨_, _, ⟨T1, L1, k1, n1⟩, -, X1, ⟨Lc1, hQ1, l1, y1, z1⟩, st1⟩ := Jvm.LawKit.callS X0 hx (y := (⟨"com/example/aizu/aizu/channels/ShapeReadsPinLaw", "shapeAt", "(I)Lcom/example/aizu/aizu/channels/ChannelMethod$Shape;"⟩ : MethodName)) hown (mvT hZ (hw _ (List.mem_of_getElem? (i := 1) rfl))) (mvT hZ (hw _ (List.mem_of_getElem? (i := 2) rfl))) (mvT hZ (hw _ (List.mem_of_getElem? (i := 3) rfl))) (mvT hZ (hw _ (List.mem_of_getElem? (i := 4) rfl))) (by decide) (backOf (W := 0) (rm1_4 l Z a0 hw [] n0 h0 O w_PRODUCER w_NOTHING w_PAYLOAD w_PROCESSOR w_MESSAGE_STREAM w_MESSAGE w_PAYLOAD_STREAM w_CONSUMER w_ASYNC_PROCESSOR w_MESSAGE_CONSUMER w_ASYNC_MESSAGE_PROCESSOR w_MESSAGE_PROCESSOR W  ) hZ (hw _ (List.mem_of_getElem? (i := 4) rfl)) (hw _ (List.mem_of_getElem? (i := 3) rfl)) (by decide) (by decide)) (g := (mkF m 9 #[.val (.int p0), .val (.int (4 : Int32)), .unset, .unset, .unset, .unset, .unset] [(.int (4 : Int32))])) rfl (by rw [hml]; rfl) (argsL := [(.int (4 : Int32))]) (rest := []) (lenOf owpd0 rfl) rfl (by show 2 * 0 + _ ≤ _; exact Nat.le_of_eq rfl) (hb hby at_9) (fun _ _ => ⟨rfl, e0, (by decide : 0 + 0 ≤ _), (by decide : 0 + 0 ≤ _)⟩)
  dsimp only [Pt.U, Pt.locs, Pt.cells, Pt.slots] at X1 l1 y1 z1 st1 hQ1
  subst l1 y1 z1
  obtain ⟨rfl, Nq1, e1⟩ := hQ1
  have N1 := Fr.app N0 Nq1
  obtain ⟨cq2, kq2, q2a, q2b, q2c⟩ := isOf hZ e1 (E_w_ASYNC_PROCESSOR.ext O.2)
  obtain ⟨_, _, ⟨T2, L2, k2, n2⟩, -, X2, ⟨Lc2, hQ2, l2, y2, z2⟩, st2⟩ := X1.virtualBack hx (y := (⟨"com/example/aizu/aizu/channels/ChannelMethod$Shape", "reads", "()Z"⟩ : MethodName)) (z := (⟨"com/example/aizu/aizu/channels/ChannelMethod$Shape", "reads", "()Z"⟩ : MethodName)) hown (mvT hZ (hw _ (List.mem_of_getElem? (i := 8) rfl))) (mvT hZ (hw _ (List.mem_of_getElem? (i := 9) rfl))) (notFace_of_selects (args := #[]) (mvT hZ (hw _ (List.mem_of_getElem? (i := 11) rfl)))) (mvT hZ (hw _ (List.mem_of_getElem? (i := 11) rfl))) (mvT hZ (hw _ (List.mem_of_getElem? (i := 10) rfl))) (by decide) (backOf (W := 0) (rm2_4 l Z a0 hw [] n0 h0 O w_PRODUCER w_NOTHING w_PAYLOAD w_PROCESSOR w_MESSAGE_STREAM w_MESSAGE w_PAYLOAD_STREAM w_CONSUMER w_ASYNC_PROCESSOR w_MESSAGE_CONSUMER w_ASYNC_MESSAGE_PROCESSOR w_MESSAGE_PROCESSOR W  ) hZ (hw _ (List.mem_of_getElem? (i := 12) rfl)) (hw _ (List.mem_of_getElem? (i := 6) rfl)) (by decide) (by decide)) q2a q2c (g := (mkF m 25 #[.val (.int p0), .val (.int (4 : Int32)), .val (.ref w_ASYNC_PROCESSOR), .val (.int (1 : Int32)), .unset, .unset, .unset] [(.ref w_ASYNC_PROCESSOR)])) rfl (by rw [hml]; rfl) (Steps.refl _) (argsL := []) (rest := []) (lenOf owpd1 rfl) rfl (by show 2 * 0 + _ ≤ _; exact Nat.le_of_eq rfl) (hb hby at_25) (fun _ _ => ⟨rfl, e1, (by decide : 0 + 0 ≤ _), (by decide : 0 + 0 ≤ _)⟩)
  dsimp only [Pt.U, Pt.locs, Pt.cells, Pt.slots] at X2 l2 y2 z2 st2 hQ2
  subst l2 y2 z2
  obtain ⟨rfl, Nq2, e2⟩ := hQ2
  have N2 := Fr.app N1 Nq2
  obtain ⟨cq3, kq3, q3a, q3b, q3c⟩ := isOf hZ e2 (E_w_ASYNC_PROCESSOR.ext O.2)
  obtain ⟨_, _, ⟨T3, L3, k3, n3⟩, -, X3, ⟨Lc3, hQ3, l3, y3, z3⟩, st3⟩ := X2.virtualBack hx (y := (⟨"com/example/aizu/aizu/channels/ChannelMethod$Shape", "takes", "()Lcom/example/aizu/aizu/channels/ChannelMethod$Kind;"⟩ : MethodName)) (z := (⟨"com/example/aizu/aizu/channels/ChannelMethod$Shape", "takes", "()Lcom/example/aizu/aizu/channels/ChannelMethod$Kind;"⟩ : MethodName)) hown (mvT hZ (hw _ (List.mem_of_getElem? (i := 18) rfl))) (mvT hZ (hw _ (List.mem_of_getElem? (i := 19) rfl))) (notFace_of_selects (args := #[]) (mvT hZ (hw _ (List.mem_of_getElem? (i := 21) rfl)))) (mvT hZ (hw _ (List.mem_of_getElem? (i := 21) rfl))) (mvT hZ (hw _ (List.mem_of_getElem? (i := 20) rfl))) (by decide) (backOf (W := 1) (rm3_4 l Z a0 hw [] n0 h0 O w_PRODUCER w_NOTHING w_PAYLOAD w_PROCESSOR w_MESSAGE_STREAM w_MESSAGE w_PAYLOAD_STREAM w_CONSUMER w_ASYNC_PROCESSOR w_MESSAGE_CONSUMER w_ASYNC_MESSAGE_PROCESSOR w_MESSAGE_PROCESSOR W  ) hZ (hw _ (List.mem_of_getElem? (i := 22) rfl)) (hw _ (List.mem_of_getElem? (i := 6) rfl)) (by decide) (by decide)) q3a q3c (g := (mkF m 33 #[.val (.int p0), .val (.int (4 : Int32)), .val (.ref w_ASYNC_PROCESSOR), .val (.int (1 : Int32)), .val (.int (1 : Int32)), .unset, .unset] [(.ref w_ASYNC_PROCESSOR), (.int (1 : Int32))])) rfl (by rw [hml]; rfl) (Steps.refl _) (argsL := []) (rest := [(.int (1 : Int32))]) (lenOf owpd2 rfl) rfl (by show 2 * 0 + _ ≤ _; exact Nat.le_of_eq rfl) (hb hby at_33) (fun _ _ => ⟨rfl, e2, (by decide : 0 + 0 ≤ _), (by decide : 0 + 0 ≤ _)⟩)
  dsimp only [Pt.U, Pt.locs, Pt.cells, Pt.slots] at X3 l3 y3 z3 st3 hQ3
  subst l3 y3 z3
  obtain ⟨rfl, Nq3, e3⟩ := hQ3
  have N3 := Fr.app N2 Nq3
  obtain ⟨T4, X4, e4, st4⟩ := getS2 X3 hx hZ hown (host := "") (Or.inl (hw _ (List.mem_of_getElem? (i := 23) rfl))) Via.refl e3 (S_ChannelMethod_Kind_NOTHING.ext O.2) (g := (mkF m 36 #[.val (.int p0), .val (.int (4 : Int32)), .val (.ref w_ASYNC_PROCESSOR), .val (.int (1 : Int32)), .val (.int (1 : Int32)), .unset, .unset] [(.ref w_PAYLOAD), (.int (1 : Int32))])) rfl (hb hby at_36)
  obtain ⟨fs, hr, hrun, hended, hW, hsame⟩ := X4.leave (v := some (.int (1 : Int32))) (fun h => by rw [Bd.returns] at h; cases h)
  refine ⟨_, _, pre0 _ ?_, hrun, hended, _, _, rfl, ?_, ⟨_, rfl⟩, hW, hsame.mono (by decide) (by decide)⟩
  · show Steps p.tables e below (s₁.setTop (mkF m 0 #[.val (.int p0), .unset, .unset, .unset, .unset, .unset, .unset] [])) _
    refine XS.iloadN X0.here hx rfl (hb hby at_0) rfl ?_
    show Steps p.tables e below (s₁.setTop (mkF m 1 #[.val (.int p0), .unset, .unset, .unset, .unset, .unset, .unset] [(.int p0)])) _
    refine X0.ldcInt hx hown (mvT hZ (hw _ (List.mem_of_getElem? (i := 0) rfl))) (g := (mkF m 1 #[.val (.int p0), .unset, .unset, .unset, .unset, .unset, .unset] [(.int p0)])) rfl (hb hby at_1) _ ?_
    show Steps p.tables e below (s₁.setTop (mkF m 3 #[.val (.int p0), .unset, .unset, .unset, .unset, .unset, .unset] [(.int (2147483647 : Int32)), (.int p0)])) _
    refine XS.iand X0.here hx rfl (hb hby at_3) rfl ?_
    show Steps p.tables e below (s₁.setTop (mkF m 4 #[.val (.int p0), .unset, .unset, .unset, .unset, .unset, .unset] [(.int (p0 &&& (2147483647 : Int32)))])) _
    refine XS.bipush X0.here hx rfl (hb hby at_4) ?_
    show Steps p.tables e below (s₁.setTop (mkF m 6 #[.val (.int p0), .unset, .unset, .unset, .unset, .unset, .unset] [(.int (9 : Int32)), (.int (p0 &&& (2147483647 : Int32)))])) _
    refine iremM X0 hx rfl (hb hby at_6) rfl (by decide) ?_
    show Steps p.tables e below (s₁.setTop (mkF m 7 #[.val (.int p0), .unset, .unset, .unset, .unset, .unset, .unset] [(.int ((p0 &&& (2147483647 : Int32)) % (9 : Int32)))])) _
    rw [hi]
    show Steps p.tables e below (s₁.setTop (mkF m 7 #[.val (.int p0), .unset, .unset, .unset, .unset, .unset, .unset] [(.int (4 : Int32))])) _
    refine XS.istoreN X0.here hx rfl (hb hby at_7) rfl (l' := #[.val (.int p0), .val (.int (4 : Int32)), .unset, .unset, .unset, .unset, .unset]) rfl ?_
    show Steps p.tables e below (s₁.setTop (mkF m 8 #[.val (.int p0), .val (.int (4 : Int32)), .unset, .unset, .unset, .unset, .unset] [])) _
    refine XS.iloadN X0.here hx rfl (hb hby at_8) rfl ?_
    show Steps p.tables e below (s₁.setTop (mkF m 9 #[.val (.int p0), .val (.int (4 : Int32)), .unset, .unset, .unset, .unset, .unset] [(.int (4 : Int32))])) _
    refine st1 _ ?_
    show Steps p.tables e below (T1.setTop (mkF m 12 #[.val (.int p0), .val (.int (4 : Int32)), .unset, .unset, .unset, .unset, .unset] [(.ref w_ASYNC_PROCESSOR)])) _
    refine XS.astoreN X1.here hx rfl (hb hby at_12) rfl rfl (l' := #[.val (.int p0), .val (.int (4 : Int32)), .val (.ref w_ASYNC_PROCESSOR), .unset, .unset, .unset, .unset]) rfl ?_
    show Steps p.tables e below (T1.setTop (mkF m 13 #[.val (.int p0), .val (.int (4 : Int32)), .val (.ref w_ASYNC_PROCESSOR), .unset, .unset, .unset, .unset] [])) _
    refine XS.iloadN X1.here hx rfl (hb hby at_13) rfl ?_
    show Steps p.tables e below (T1.setTop (mkF m 14 #[.val (.int p0), .val (.int (4 : Int32)), .val (.ref w_ASYNC_PROCESSOR), .unset, .unset, .unset, .unset] [(.int (4 : Int32))])) _
    refine XS.iconst X1.here hx rfl (hb hby at_14) ?_
    show Steps p.tables e below (T1.setTop (mkF m 15 #[.val (.int p0), .val (.int (4 : Int32)), .val (.ref w_ASYNC_PROCESSOR), .unset, .unset, .unset, .unset] [(.int (3 : Int32)), (.int (4 : Int32))])) _
    refine XS.icmpNo X1.here hx rfl (hb hby at_15) rfl (flt (by decide : ¬ ((4 : Int32) < (3 : Int32)))).1 ?_
    show Steps p.tables e below (T1.setTop (mkF m 18 #[.val (.int p0), .val (.int (4 : Int32)), .val (.ref w_ASYNC_PROCESSOR), .unset, .unset, .unset, .unset] [])) _
    refine XS.iconst X1.here hx rfl (hb hby at_18) ?_
    show Steps p.tables e below (T1.setTop (mkF m 19 #[.val (.int p0), .val (.int (4 : Int32)), .val (.ref w_ASYNC_PROCESSOR), .unset, .unset, .unset, .unset] [(.int (1 : Int32))])) _
    refine XS.goto X1.here hx rfl (pc0 := 19) (pc' := 23) rfl (hb hby at_19) (by decide) (by decide) ?_
    show Steps p.tables e below (T1.setTop (mkF m 23 #[.val (.int p0), .val (.int (4 : Int32)), .val (.ref w_ASYNC_PROCESSOR), .unset, .unset, .unset, .unset] [(.int (1 : Int32))])) _
    refine XS.istoreN X1.here hx rfl (hb hby at_23) rfl (l' := #[.val (.int p0), .val (.int (4 : Int32)), .val (.ref w_ASYNC_PROCESSOR), .val (.int (1 : Int32)), .unset, .unset, .unset]) rfl ?_
    show Steps p.tables e below (T1.setTop (mkF m 24 #[.val (.int p0), .val (.int (4 : Int32)), .val (.ref w_ASYNC_PROCESSOR), .val (.int (1 : Int32)), .unset, .unset, .unset] [])) _
    refine XS.aloadN X1.here hx rfl (hb hby at_24) rfl rfl ?_
    show Steps p.tables e below (T1.setTop (mkF m 25 #[.val (.int p0), .val (.int (4 : Int32)), .val (.ref w_ASYNC_PROCESSOR), .val (.int (1 : Int32)), .unset, .unset, .unset] [(.ref w_ASYNC_PROCESSOR)])) _
    refine st2.trans ?_
    show Steps p.tables e below (T2.setTop (mkF m 28 #[.val (.int p0), .val (.int (4 : Int32)), .val (.ref w_ASYNC_PROCESSOR), .val (.int (1 : Int32)), .unset, .unset, .unset] [(.int (1 : Int32))])) _
    refine XS.istore X2.here hx rfl (hb hby at_28) rfl (l' := #[.val (.int p0), .val (.int (4 : Int32)), .val (.ref w_ASYNC_PROCESSOR), .val (.int (1 : Int32)), .val (.int (1 : Int32)), .unset, .unset]) rfl ?_
    show Steps p.tables e below (T2.setTop (mkF m 30 #[.val (.int p0), .val (.int (4 : Int32)), .val (.ref w_ASYNC_PROCESSOR), .val (.int (1 : Int32)), .val (.int (1 : Int32)), .unset, .unset] [])) _
    refine XS.iload X2.here hx rfl (hb hby at_30) rfl ?_
    show Steps p.tables e below (T2.setTop (mkF m 32 #[.val (.int p0), .val (.int (4 : Int32)), .val (.ref w_ASYNC_PROCESSOR), .val (.int (1 : Int32)), .val (.int (1 : Int32)), .unset, .unset] [(.int (1 : Int32))])) _
    refine XS.aloadN X2.here hx rfl (hb hby at_32) rfl rfl ?_
    show Steps p.tables e below (T2.setTop (mkF m 33 #[.val (.int p0), .val (.int (4 : Int32)), .val (.ref w_ASYNC_PROCESSOR), .val (.int (1 : Int32)), .val (.int (1 : Int32)), .unset, .unset] [(.ref w_ASYNC_PROCESSOR), (.int (1 : Int32))])) _
    refine st3.trans ?_
    show Steps p.tables e below (T3.setTop (mkF m 36 #[.val (.int p0), .val (.int (4 : Int32)), .val (.ref w_ASYNC_PROCESSOR), .val (.int (1 : Int32)), .val (.int (1 : Int32)), .unset, .unset] [(.ref w_PAYLOAD), (.int (1 : Int32))])) _
    refine st4 _ ?_
    show Steps p.tables e below (T4.setTop (mkF m 39 #[.val (.int p0), .val (.int (4 : Int32)), .val (.ref w_ASYNC_PROCESSOR), .val (.int (1 : Int32)), .val (.int (1 : Int32)), .unset, .unset] [(.ref w_NOTHING), (.ref w_PAYLOAD), (.int (1 : Int32))])) _
    refine Jvm.RoadKit.acmp (g := (mkF m 39 #[.val (.int p0), .val (.int (4 : Int32)), .val (.ref w_ASYNC_PROCESSOR), .val (.int (1 : Int32)), .val (.int (1 : Int32)), .unset, .unset] [(.ref w_NOTHING), (.ref w_PAYLOAD), (.int (1 : Int32))])) X4 hx rfl rfl rfl (pc0 := 39) (pc' := 42) (same := false) rfl (hb hby at_39) rfl (decide_eq_false fun q => ne_w_PAYLOAD_w_NOTHING (Value.ref.inj q)) (by decide) (by decide) ?_
    show Steps p.tables e below (T4.setTop (mkF m 42 #[.val (.int p0), .val (.int (4 : Int32)), .val (.ref w_ASYNC_PROCESSOR), .val (.int (1 : Int32)), .val (.int (1 : Int32)), .unset, .unset] [(.int (1 : Int32))])) _
    refine XS.iconst X4.here hx rfl (hb hby at_42) ?_
    show Steps p.tables e below (T4.setTop (mkF m 43 #[.val (.int p0), .val (.int (4 : Int32)), .val (.ref w_ASYNC_PROCESSOR), .val (.int (1 : Int32)), .val (.int (1 : Int32)), .unset, .unset] [(.int (1 : Int32)), (.int (1 : Int32))])) _
    refine XS.goto X4.here hx rfl (pc0 := 43) (pc' := 47) rfl (hb hby at_43) (by decide) (by decide) ?_
    show Steps p.tables e below (T4.setTop (mkF m 47 #[.val (.int p0), .val (.int (4 : Int32)), .val (.ref w_ASYNC_PROCESSOR), .val (.int (1 : Int32)), .val (.int (1 : Int32)), .unset, .unset] [(.int (1 : Int32)), (.int (1 : Int32))])) _
    refine XS.icmpNo X4.here hx rfl (hb hby at_47) rfl (teq (by decide : (1 : Int32) = (1 : Int32))).2 ?_
    show Steps p.tables e below (T4.setTop (mkF m 50 #[.val (.int p0), .val (.int (4 : Int32)), .val (.ref w_ASYNC_PROCESSOR), .val (.int (1 : Int32)), .val (.int (1 : Int32)), .unset, .unset] [])) _
    refine XS.iconst X4.here hx rfl (hb hby at_50) ?_
    show Steps p.tables e below (T4.setTop (mkF m 51 #[.val (.int p0), .val (.int (4 : Int32)), .val (.ref w_ASYNC_PROCESSOR), .val (.int (1 : Int32)), .val (.int (1 : Int32)), .unset, .unset] [(.int (1 : Int32))])) _
    refine XS.goto X4.here hx rfl (pc0 := 51) (pc' := 55) rfl (hb hby at_51) (by decide) (by decide) ?_
    show Steps p.tables e below (T4.setTop (mkF m 55 #[.val (.int p0), .val (.int (4 : Int32)), .val (.ref w_ASYNC_PROCESSOR), .val (.int (1 : Int32)), .val (.int (1 : Int32)), .unset, .unset] [(.int (1 : Int32))])) _
    refine XS.istore X4.here hx rfl (hb hby at_55) rfl (l' := #[.val (.int p0), .val (.int (4 : Int32)), .val (.ref w_ASYNC_PROCESSOR), .val (.int (1 : Int32)), .val (.int (1 : Int32)), .val (.int (1 : Int32)), .unset]) rfl ?_
    show Steps p.tables e below (T4.setTop (mkF m 57 #[.val (.int p0), .val (.int (4 : Int32)), .val (.ref w_ASYNC_PROCESSOR), .val (.int (1 : Int32)), .val (.int (1 : Int32)), .val (.int (1 : Int32)), .unset] [])) _
    refine XS.iload X4.here hx rfl (hb hby at_57) rfl ?_
    show Steps p.tables e below (T4.setTop (mkF m 59 #[.val (.int p0), .val (.int (4 : Int32)), .val (.ref w_ASYNC_PROCESSOR), .val (.int (1 : Int32)), .val (.int (1 : Int32)), .val (.int (1 : Int32)), .unset] [(.int (1 : Int32))])) _
    refine XS.ifYes X4.here hx rfl (pc0 := 59) (pc' := 69) rfl (hb hby at_59) rfl ((if0 _ _).trans (feq (by decide : ¬ ((1 : Int32) = (0 : Int32)))).2) (by decide) (by decide) ?_
    show Steps p.tables e below (T4.setTop (mkF m 69 #[.val (.int p0), .val (.int (4 : Int32)), .val (.ref w_ASYNC_PROCESSOR), .val (.int (1 : Int32)), .val (.int (1 : Int32)), .val (.int (1 : Int32)), .unset] [])) _
    refine XS.iconst X4.here hx rfl (hb hby at_69) ?_
    show Steps p.tables e below (T4.setTop (mkF m 70 #[.val (.int p0), .val (.int (4 : Int32)), .val (.ref w_ASYNC_PROCESSOR), .val (.int (1 : Int32)), .val (.int (1 : Int32)), .val (.int (1 : Int32)), .unset] [(.int (1 : Int32))])) _
    refine XS.goto X4.here hx rfl (pc0 := 70) (pc' := 74) rfl (hb hby at_70) (by decide) (by decide) ?_
    show Steps p.tables e below (T4.setTop (mkF m 74 #[.val (.int p0), .val (.int (4 : Int32)), .val (.ref w_ASYNC_PROCESSOR), .val (.int (1 : Int32)), .val (.int (1 : Int32)), .val (.int (1 : Int32)), .unset] [(.int (1 : Int32))])) _
    refine XS.istore X4.here hx rfl (hb hby at_74) rfl (l' := #[.val (.int p0), .val (.int (4 : Int32)), .val (.ref w_ASYNC_PROCESSOR), .val (.int (1 : Int32)), .val (.int (1 : Int32)), .val (.int (1 : Int32)), .val (.int (1 : Int32))]) rfl ?_
    show Steps p.tables e below (T4.setTop (mkF m 76 #[.val (.int p0), .val (.int (4 : Int32)), .val (.ref w_ASYNC_PROCESSOR), .val (.int (1 : Int32)), .val (.int (1 : Int32)), .val (.int (1 : Int32)), .val (.int (1 : Int32))] [])) _
    refine XS.iload X4.here hx rfl (hb hby at_76) rfl ?_
    show Steps p.tables e below (T4.setTop (mkF m 78 #[.val (.int p0), .val (.int (4 : Int32)), .val (.ref w_ASYNC_PROCESSOR), .val (.int (1 : Int32)), .val (.int (1 : Int32)), .val (.int (1 : Int32)), .val (.int (1 : Int32))] [(.int (1 : Int32))])) _
    refine XS.iloadN X4.here hx rfl (hb hby at_78) rfl ?_
    show Steps p.tables e below (T4.setTop (mkF m 79 #[.val (.int p0), .val (.int (4 : Int32)), .val (.ref w_ASYNC_PROCESSOR), .val (.int (1 : Int32)), .val (.int (1 : Int32)), .val (.int (1 : Int32)), .val (.int (1 : Int32))] [(.int (1 : Int32)), (.int (1 : Int32))])) _
    refine XS.icmpNo X4.here hx rfl (hb hby at_79) rfl (teq (by decide : (1 : Int32) = (1 : Int32))).2 ?_
    show Steps p.tables e below (T4.setTop (mkF m 82 #[.val (.int p0), .val (.int (4 : Int32)), .val (.ref w_ASYNC_PROCESSOR), .val (.int (1 : Int32)), .val (.int (1 : Int32)), .val (.int (1 : Int32)), .val (.int (1 : Int32))] [])) _
    refine XS.iload X4.here hx rfl (hb hby at_82) rfl ?_
    show Steps p.tables e below (T4.setTop (mkF m 84 #[.val (.int p0), .val (.int (4 : Int32)), .val (.ref w_ASYNC_PROCESSOR), .val (.int (1 : Int32)), .val (.int (1 : Int32)), .val (.int (1 : Int32)), .val (.int (1 : Int32))] [(.int (1 : Int32))])) _
    refine XS.ifNo X4.here hx rfl (hb hby at_84) rfl ((if0 _ _).trans (feq (by decide : ¬ ((1 : Int32) = (0 : Int32)))).1) ?_
    show Steps p.tables e below (T4.setTop (mkF m 87 #[.val (.int p0), .val (.int (4 : Int32)), .val (.ref w_ASYNC_PROCESSOR), .val (.int (1 : Int32)), .val (.int (1 : Int32)), .val (.int (1 : Int32)), .val (.int (1 : Int32))] [])) _
    refine XS.iload X4.here hx rfl (hb hby at_87) rfl ?_
    show Steps p.tables e below (T4.setTop (mkF m 89 #[.val (.int p0), .val (.int (4 : Int32)), .val (.ref w_ASYNC_PROCESSOR), .val (.int (1 : Int32)), .val (.int (1 : Int32)), .val (.int (1 : Int32)), .val (.int (1 : Int32))] [(.int (1 : Int32))])) _
    refine XS.ifNo X4.here hx rfl (hb hby at_89) rfl ((if0 _ _).trans (feq (by decide : ¬ ((1 : Int32) = (0 : Int32)))).1) ?_
    show Steps p.tables e below (T4.setTop (mkF m 92 #[.val (.int p0), .val (.int (4 : Int32)), .val (.ref w_ASYNC_PROCESSOR), .val (.int (1 : Int32)), .val (.int (1 : Int32)), .val (.int (1 : Int32)), .val (.int (1 : Int32))] [])) _
    refine XS.iconst X4.here hx rfl (hb hby at_92) ?_
    show Steps p.tables e below (T4.setTop (mkF m 93 #[.val (.int p0), .val (.int (4 : Int32)), .val (.ref w_ASYNC_PROCESSOR), .val (.int (1 : Int32)), .val (.int (1 : Int32)), .val (.int (1 : Int32)), .val (.int (1 : Int32))] [(.int (1 : Int32))])) _
    refine XS.goto X4.here hx rfl (pc0 := 93) (pc' := 97) rfl (hb hby at_93) (by decide) (by decide) ?_
    show Steps p.tables e below (T4.setTop (mkF m 97 #[.val (.int p0), .val (.int (4 : Int32)), .val (.ref w_ASYNC_PROCESSOR), .val (.int (1 : Int32)), .val (.int (1 : Int32)), .val (.int (1 : Int32)), .val (.int (1 : Int32))] [(.int (1 : Int32))])) _
    exact retN X4 hx (t := .boolean) Bd.returns (by simp) (hb hby at_97) hr
  · exact ⟨N3, rfl⟩
set_option maxRecDepth 65536 in
set_option maxHeartbeats 40000000 in
theorem rm1_5 (l : Launch) (Z : State) (a0 : Array Value) (hw : ∀ d ∈ tables_1, d.before a0 Z = true) (ws : List Jvm.Cond) (n0 : Nat) (h0 : Heap) (O : Old Z n0 h0) (w_PRODUCER : Addr) (w_NOTHING : Addr) (w_PAYLOAD : Addr) (w_PROCESSOR : Addr) (w_MESSAGE_STREAM : Addr) (w_MESSAGE : Addr) (w_PAYLOAD_STREAM : Addr) (w_CONSUMER : Addr) (w_ASYNC_PROCESSOR : Addr) (w_MESSAGE_CONSUMER : Addr) (w_ASYNC_MESSAGE_PROCESSOR : Addr) (w_MESSAGE_PROCESSOR : Addr) (W : OwW Z w_PRODUCER w_NOTHING w_PAYLOAD w_PROCESSOR w_MESSAGE_STREAM w_MESSAGE w_PAYLOAD_STREAM w_CONSUMER w_ASYNC_PROCESSOR w_MESSAGE_CONSUMER w_ASYNC_MESSAGE_PROCESSOR w_MESSAGE_PROCESSOR)  :
    OwCon l (⟨"com/example/aizu/aizu/channels/ShapeReadsPinLaw", "shapeAt", "(I)Lcom/example/aizu/aizu/channels/ChannelMethod$Shape;"⟩ : MethodName) method_3_code 1 (some (.object "com/example/aizu/aizu/channels/ChannelMethod$Shape")) ws ({ frames := 0, cells := 0, slots := 0, locals := 0 } : Room) #[(.int (5 : Int32))] Z h0 (OwQ (some (.ref w_MESSAGE_PROCESSOR)) h0 n0) := by
  refine MetFree.of_bodySF (plainFor_of_name owpn1) hisR ?_
  intro p e s m args below meth c s₁ Bd hml0 hP hK
  obtain ⟨rfl, hZ, hh⟩ := hP
  have hx := Bd.exec
  have hby := Bd.bytes
  have hml : c.maxLocals = 1 := hml0
  have hown : s.vm.findClass "com/example/aizu/aizu/channels/ShapeReadsPinLaw" = some m.cls := findClass_of_methodNamed Bd.named
  have hnm := (name_of_methodNamed Bd.named Bd.method).1
  have X0 : Stand p l e ({ frames := 0, cells := 0, slots := 0, locals := 0 } : Room) s m #[(.int (5 : Int32))] below meth c s₁ [] 0 0 := Stand.of_body Bd
  have e0 : s₁.heap = h0 := by rw [← hh, Bd.state]; rfl
  have N0 := Fr.nil n0
  have WW := W
  obtain ⟨E_w_PRODUCER, E_w_NOTHING, E_w_PAYLOAD, E_w_PROCESSOR, E_w_MESSAGE_STREAM, E_w_MESSAGE, E_w_PAYLOAD_STREAM, E_w_CONSUMER, E_w_ASYNC_PROCESSOR, E_w_MESSAGE_CONSUMER, E_w_ASYNC_MESSAGE_PROCESSOR, E_w_MESSAGE_PROCESSOR, S_ChannelMethod_Shape_PRODUCER, S_ChannelMethod_Kind_NOTHING, F_w_PRODUCER_takes, S_ChannelMethod_Kind_PAYLOAD, F_w_PRODUCER_gives, F_w_PAYLOAD_ordinal, F_w_NOTHING_ordinal, S_ChannelMethod_Shape_PROCESSOR, F_w_PROCESSOR_takes, S_ChannelMethod_Shape_MESSAGE_STREAM, F_w_MESSAGE_STREAM_takes, S_ChannelMethod_Kind_MESSAGE, F_w_MESSAGE_STREAM_gives, F_w_MESSAGE_ordinal, S_ChannelMethod_Shape_PAYLOAD_STREAM, F_w_PAYLOAD_STREAM_takes, F_w_PAYLOAD_STREAM_gives, S_ChannelMethod_Shape_CONSUMER, F_w_CONSUMER_takes, S_ChannelMethod_Shape_ASYNC_PROCESSOR, F_w_ASYNC_PROCESSOR_takes, S_ChannelMethod_Shape_MESSAGE_CONSUMER, F_w_MESSAGE_CONSUMER_takes, S_ChannelMethod_Shape_ASYNC_MESSAGE_PROCESSOR, F_w_ASYNC_MESSAGE_PROCESSOR_takes, S_ChannelMethod_Shape_MESSAGE_PROCESSOR, F_w_MESSAGE_PROCESSOR_takes, F_w_PROCESSOR_gives, F_w_CONSUMER_gives, F_w_ASYNC_PROCESSOR_gives, F_w_MESSAGE_CONSUMER_gives, F_w_ASYNC_MESSAGE_PROCESSOR_gives, F_w_MESSAGE_PROCESSOR_gives, ne_w_PAYLOAD_w_NOTHING, ne_w_MESSAGE_w_NOTHING, -⟩ := WW
  have ef : entryFrame m #[(.int (5 : Int32))] 1 = mkF m 0 #[.val (.int (5 : Int32))] [] := by first | rfl | (simp [entryFrame, mkF, argsToLocals, Value.category]; done)
  have pre0 : ∀ t, Steps p.tables e below (s₁.setTop (mkF m 0 #[.val (.int (5 : Int32))] [])) t → Steps p.tables e below (s₁.setTop (entryFrame m #[(.int (5 : Int32))] 1)) t := fun t k => castTop ef k
  obtain ⟨T1, X1, e1, st1⟩ := getS2 X0 hx hZ hown (host := "") (Or.inl (hw _ (List.mem_of_getElem? (i := 47) rfl))) Via.refl e0 (S_ChannelMethod_Shape_MESSAGE_PROCESSOR.ext O.2) (g := (mkF m 49 #[.val (.int (5 : Int32))] [])) rfl (hb hby d1_49)
  obtain ⟨fs, hr, hrun, hended, hW, hsame⟩ := X1.leave (v := some (.ref w_MESSAGE_PROCESSOR)) (fun h => by rw [Bd.returns] at h; cases h)
  refine ⟨_, _, pre0 _ ?_, hrun, hended, _, _, rfl, ?_, ⟨_, rfl⟩, hW, hsame.mono (by decide) (by decide)⟩
  · show Steps p.tables e below (s₁.setTop (mkF m 0 #[.val (.int (5 : Int32))] [])) _
    refine XS.iloadN X0.here hx rfl (hb hby d1_0) rfl ?_
    show Steps p.tables e below (s₁.setTop (mkF m 1 #[.val (.int (5 : Int32))] [(.int (5 : Int32))])) _
    refine XS.ifYes X0.here hx rfl (pc0 := 1) (pc' := 8) rfl (hb hby d1_1) rfl ((if0 _ _).trans (feq (by decide : ¬ ((5 : Int32) = (0 : Int32)))).2) (by decide) (by decide) ?_
    show Steps p.tables e below (s₁.setTop (mkF m 8 #[.val (.int (5 : Int32))] [])) _
    refine XS.iloadN X0.here hx rfl (hb hby d1_8) rfl ?_
    show Steps p.tables e below (s₁.setTop (mkF m 9 #[.val (.int (5 : Int32))] [(.int (5 : Int32))])) _
    refine XS.iconst X0.here hx rfl (hb hby d1_9) ?_
    show Steps p.tables e below (s₁.setTop (mkF m 10 #[.val (.int (5 : Int32))] [(.int (1 : Int32)), (.int (5 : Int32))])) _
    refine XS.icmpYes X0.here hx rfl (pc0 := 10) (pc' := 17) rfl (hb hby d1_10) rfl (feq (by decide : ¬ ((5 : Int32) = (1 : Int32)))).2 (by decide) (by decide) ?_
    show Steps p.tables e below (s₁.setTop (mkF m 17 #[.val (.int (5 : Int32))] [])) _
    refine XS.iloadN X0.here hx rfl (hb hby d1_17) rfl ?_
    show Steps p.tables e below (s₁.setTop (mkF m 18 #[.val (.int (5 : Int32))] [(.int (5 : Int32))])) _
    refine XS.iconst X0.here hx rfl (hb hby d1_18) ?_
    show Steps p.tables e below (s₁.setTop (mkF m 19 #[.val (.int (5 : Int32))] [(.int (2 : Int32)), (.int (5 : Int32))])) _
    refine XS.icmpYes X0.here hx rfl (pc0 := 19) (pc' := 26) rfl (hb hby d1_19) rfl (feq (by decide : ¬ ((5 : Int32) = (2 : Int32)))).2 (by decide) (by decide) ?_
    show Steps p.tables e below (s₁.setTop (mkF m 26 #[.val (.int (5 : Int32))] [])) _
    refine XS.iloadN X0.here hx rfl (hb hby d1_26) rfl ?_
    show Steps p.tables e below (s₁.setTop (mkF m 27 #[.val (.int (5 : Int32))] [(.int (5 : Int32))])) _
    refine XS.iconst X0.here hx rfl (hb hby d1_27) ?_
    show Steps p.tables e below (s₁.setTop (mkF m 28 #[.val (.int (5 : Int32))] [(.int (3 : Int32)), (.int (5 : Int32))])) _
    refine XS.icmpYes X0.here hx rfl (pc0 := 28) (pc' := 35) rfl (hb hby d1_28) rfl (feq (by decide : ¬ ((5 : Int32) = (3 : Int32)))).2 (by decide) (by decide) ?_
    show Steps p.tables e below (s₁.setTop (mkF m 35 #[.val (.int (5 : Int32))] [])) _
    refine XS.iloadN X0.here hx rfl (hb hby d1_35) rfl ?_
    show Steps p.tables e below (s₁.setTop (mkF m 36 #[.val (.int (5 : Int32))] [(.int (5 : Int32))])) _
    refine XS.iconst X0.here hx rfl (hb hby d1_36) ?_
    show Steps p.tables e below (s₁.setTop (mkF m 37 #[.val (.int (5 : Int32))] [(.int (4 : Int32)), (.int (5 : Int32))])) _
    refine XS.icmpYes X0.here hx rfl (pc0 := 37) (pc' := 44) rfl (hb hby d1_37) rfl (feq (by decide : ¬ ((5 : Int32) = (4 : Int32)))).2 (by decide) (by decide) ?_
    show Steps p.tables e below (s₁.setTop (mkF m 44 #[.val (.int (5 : Int32))] [])) _
    refine XS.iloadN X0.here hx rfl (hb hby d1_44) rfl ?_
    show Steps p.tables e below (s₁.setTop (mkF m 45 #[.val (.int (5 : Int32))] [(.int (5 : Int32))])) _
    refine XS.iconst X0.here hx rfl (hb hby d1_45) ?_
    show Steps p.tables e below (s₁.setTop (mkF m 46 #[.val (.int (5 : Int32))] [(.int (5 : Int32)), (.int (5 : Int32))])) _
    refine XS.icmpNo X0.here hx rfl (hb hby d1_46) rfl (teq (by decide : (5 : Int32) = (5 : Int32))).2 ?_
    show Steps p.tables e below (s₁.setTop (mkF m 49 #[.val (.int (5 : Int32))] [])) _
    refine st1 _ ?_
    show Steps p.tables e below (T1.setTop (mkF m 52 #[.val (.int (5 : Int32))] [(.ref w_MESSAGE_PROCESSOR)])) _
    exact retOut X1 hx Bd.returns rfl (Or.inr (Or.inr (Or.inr (Or.inr ⟨rfl, rfl, rfl⟩)))) (hb hby d1_52) hr
  · exact ⟨rfl, N0, e1⟩
set_option maxRecDepth 65536 in
set_option maxHeartbeats 40000000 in
theorem rm2_5 (l : Launch) (Z : State) (a0 : Array Value) (hw : ∀ d ∈ tables_1, d.before a0 Z = true) (ws : List Jvm.Cond) (n0 : Nat) (h0 : Heap) (O : Old Z n0 h0) (w_PRODUCER : Addr) (w_NOTHING : Addr) (w_PAYLOAD : Addr) (w_PROCESSOR : Addr) (w_MESSAGE_STREAM : Addr) (w_MESSAGE : Addr) (w_PAYLOAD_STREAM : Addr) (w_CONSUMER : Addr) (w_ASYNC_PROCESSOR : Addr) (w_MESSAGE_CONSUMER : Addr) (w_ASYNC_MESSAGE_PROCESSOR : Addr) (w_MESSAGE_PROCESSOR : Addr) (W : OwW Z w_PRODUCER w_NOTHING w_PAYLOAD w_PROCESSOR w_MESSAGE_STREAM w_MESSAGE w_PAYLOAD_STREAM w_CONSUMER w_ASYNC_PROCESSOR w_MESSAGE_CONSUMER w_ASYNC_MESSAGE_PROCESSOR w_MESSAGE_PROCESSOR)  :
    OwCon l (⟨"com/example/aizu/aizu/channels/ChannelMethod$Shape", "reads", "()Z"⟩ : MethodName) prog_6_method_7_code 1 (some .boolean) ws ({ frames := 0, cells := 0, slots := 0, locals := 0 } : Room) #[(.ref w_MESSAGE_PROCESSOR)] Z h0 (OwQ (some (.int (1 : Int32))) h0 n0) := by
  refine MetFree.of_bodySF (plainFor_of_name owpn2) hisR ?_
  intro p e s m args below meth c s₁ Bd hml0 hP hK
  obtain ⟨rfl, hZ, hh⟩ := hP
  have hx := Bd.exec
  have hby := Bd.bytes
  have hml : c.maxLocals = 1 := hml0
  have hown : s.vm.findClass "com/example/aizu/aizu/channels/ChannelMethod$Shape" = some m.cls := findClass_of_methodNamed Bd.named
  have hnm := (name_of_methodNamed Bd.named Bd.method).1
  have X0 : Stand p l e ({ frames := 0, cells := 0, slots := 0, locals := 0 } : Room) s m #[(.ref w_MESSAGE_PROCESSOR)] below meth c s₁ [] 0 0 := Stand.of_body Bd
  have e0 : s₁.heap = h0 := by rw [← hh, Bd.state]; rfl
  have N0 := Fr.nil n0
  have WW := W
  obtain ⟨E_w_PRODUCER, E_w_NOTHING, E_w_PAYLOAD, E_w_PROCESSOR, E_w_MESSAGE_STREAM, E_w_MESSAGE, E_w_PAYLOAD_STREAM, E_w_CONSUMER, E_w_ASYNC_PROCESSOR, E_w_MESSAGE_CONSUMER, E_w_ASYNC_MESSAGE_PROCESSOR, E_w_MESSAGE_PROCESSOR, S_ChannelMethod_Shape_PRODUCER, S_ChannelMethod_Kind_NOTHING, F_w_PRODUCER_takes, S_ChannelMethod_Kind_PAYLOAD, F_w_PRODUCER_gives, F_w_PAYLOAD_ordinal, F_w_NOTHING_ordinal, S_ChannelMethod_Shape_PROCESSOR, F_w_PROCESSOR_takes, S_ChannelMethod_Shape_MESSAGE_STREAM, F_w_MESSAGE_STREAM_takes, S_ChannelMethod_Kind_MESSAGE, F_w_MESSAGE_STREAM_gives, F_w_MESSAGE_ordinal, S_ChannelMethod_Shape_PAYLOAD_STREAM, F_w_PAYLOAD_STREAM_takes, F_w_PAYLOAD_STREAM_gives, S_ChannelMethod_Shape_CONSUMER, F_w_CONSUMER_takes, S_ChannelMethod_Shape_ASYNC_PROCESSOR, F_w_ASYNC_PROCESSOR_takes, S_ChannelMethod_Shape_MESSAGE_CONSUMER, F_w_MESSAGE_CONSUMER_takes, S_ChannelMethod_Shape_ASYNC_MESSAGE_PROCESSOR, F_w_ASYNC_MESSAGE_PROCESSOR_takes, S_ChannelMethod_Shape_MESSAGE_PROCESSOR, F_w_MESSAGE_PROCESSOR_takes, F_w_PROCESSOR_gives, F_w_CONSUMER_gives, F_w_ASYNC_PROCESSOR_gives, F_w_MESSAGE_CONSUMER_gives, F_w_ASYNC_MESSAGE_PROCESSOR_gives, F_w_MESSAGE_PROCESSOR_gives, ne_w_PAYLOAD_w_NOTHING, ne_w_MESSAGE_w_NOTHING, -⟩ := WW
  have ef : entryFrame m #[(.ref w_MESSAGE_PROCESSOR)] 1 = mkF m 0 #[.val (.ref w_MESSAGE_PROCESSOR)] [] := by first | rfl | (simp [entryFrame, mkF, argsToLocals, Value.category]; done)
  have pre0 : ∀ t, Steps p.tables e below (s₁.setTop (mkF m 0 #[.val (.ref w_MESSAGE_PROCESSOR)] [])) t → Steps p.tables e below (s₁.setTop (entryFrame m #[(.ref w_MESSAGE_PROCESSOR)] 1)) t := fun t k => castTop ef k
  obtain ⟨T1, X1, e1, st1⟩ := getF X0 hx hZ hown (host := "") (Or.inl (hw _ (List.mem_of_getElem? (i := 13) rfl))) Via.refl e0 (F_w_MESSAGE_PROCESSOR_takes.ext O.2) (g := (mkF m 1 #[.val (.ref w_MESSAGE_PROCESSOR)] [(.ref w_MESSAGE_PROCESSOR)])) rfl rfl (hb hby d2_1)
  obtain ⟨T2, X2, e2, st2⟩ := getS2 X1 hx hZ hown (host := "") (Or.inl (hw _ (List.mem_of_getElem? (i := 17) rfl))) Via.refl e1 (S_ChannelMethod_Kind_NOTHING.ext O.2) (g := (mkF m 4 #[.val (.ref w_MESSAGE_PROCESSOR)] [(.ref w_MESSAGE)])) rfl (hb hby d2_4)
  obtain ⟨fs, hr, hrun, hended, hW, hsame⟩ := X2.leave (v := some (.int (1 : Int32))) (fun h => by rw [Bd.returns] at h; cases h)
  refine ⟨_, _, pre0 _ ?_, hrun, hended, _, _, rfl, ?_, ⟨_, rfl⟩, hW, hsame.mono (by decide) (by decide)⟩
  · show Steps p.tables e below (s₁.setTop (mkF m 0 #[.val (.ref w_MESSAGE_PROCESSOR)] [])) _
    refine XS.aloadN X0.here hx rfl (hb hby d2_0) rfl rfl ?_
    show Steps p.tables e below (s₁.setTop (mkF m 1 #[.val (.ref w_MESSAGE_PROCESSOR)] [(.ref w_MESSAGE_PROCESSOR)])) _
    refine st1 _ ?_
    show Steps p.tables e below (T1.setTop (mkF m 4 #[.val (.ref w_MESSAGE_PROCESSOR)] [(.ref w_MESSAGE)])) _
    refine st2 _ ?_
    show Steps p.tables e below (T2.setTop (mkF m 7 #[.val (.ref w_MESSAGE_PROCESSOR)] [(.ref w_NOTHING), (.ref w_MESSAGE)])) _
    refine Jvm.RoadKit.acmp (g := (mkF m 7 #[.val (.ref w_MESSAGE_PROCESSOR)] [(.ref w_NOTHING), (.ref w_MESSAGE)])) X2 hx rfl rfl rfl (pc0 := 7) (pc' := 10) (same := false) rfl (hb hby d2_7) rfl (decide_eq_false fun q => ne_w_MESSAGE_w_NOTHING (Value.ref.inj q)) (by decide) (by decide) ?_
    show Steps p.tables e below (T2.setTop (mkF m 10 #[.val (.ref w_MESSAGE_PROCESSOR)] [])) _
    refine XS.iconst X2.here hx rfl (hb hby d2_10) ?_
    show Steps p.tables e below (T2.setTop (mkF m 11 #[.val (.ref w_MESSAGE_PROCESSOR)] [(.int (1 : Int32))])) _
    refine XS.goto X2.here hx rfl (pc0 := 11) (pc' := 15) rfl (hb hby d2_11) (by decide) (by decide) ?_
    show Steps p.tables e below (T2.setTop (mkF m 15 #[.val (.ref w_MESSAGE_PROCESSOR)] [(.int (1 : Int32))])) _
    exact retN X2 hx (t := .boolean) Bd.returns (by simp) (hb hby d2_15) hr
  · exact ⟨rfl, N0, e2⟩
set_option maxRecDepth 65536 in
set_option maxHeartbeats 40000000 in
theorem rm3_5 (l : Launch) (Z : State) (a0 : Array Value) (hw : ∀ d ∈ tables_1, d.before a0 Z = true) (ws : List Jvm.Cond) (n0 : Nat) (h0 : Heap) (O : Old Z n0 h0) (w_PRODUCER : Addr) (w_NOTHING : Addr) (w_PAYLOAD : Addr) (w_PROCESSOR : Addr) (w_MESSAGE_STREAM : Addr) (w_MESSAGE : Addr) (w_PAYLOAD_STREAM : Addr) (w_CONSUMER : Addr) (w_ASYNC_PROCESSOR : Addr) (w_MESSAGE_CONSUMER : Addr) (w_ASYNC_MESSAGE_PROCESSOR : Addr) (w_MESSAGE_PROCESSOR : Addr) (W : OwW Z w_PRODUCER w_NOTHING w_PAYLOAD w_PROCESSOR w_MESSAGE_STREAM w_MESSAGE w_PAYLOAD_STREAM w_CONSUMER w_ASYNC_PROCESSOR w_MESSAGE_CONSUMER w_ASYNC_MESSAGE_PROCESSOR w_MESSAGE_PROCESSOR)  :
    OwCon l (⟨"com/example/aizu/aizu/channels/ChannelMethod$Shape", "takes", "()Lcom/example/aizu/aizu/channels/ChannelMethod$Kind;"⟩ : MethodName) prog_6_method_4_code 1 (some (.object "com/example/aizu/aizu/channels/ChannelMethod$Kind")) ws ({ frames := 0, cells := 0, slots := 0, locals := 0 } : Room) #[(.ref w_MESSAGE_PROCESSOR)] Z h0 (OwQ (some (.ref w_MESSAGE)) h0 n0) := by
  refine MetFree.of_bodySF (plainFor_of_name owpn3) hisR ?_
  intro p e s m args below meth c s₁ Bd hml0 hP hK
  obtain ⟨rfl, hZ, hh⟩ := hP
  have hx := Bd.exec
  have hby := Bd.bytes
  have hml : c.maxLocals = 1 := hml0
  have hown : s.vm.findClass "com/example/aizu/aizu/channels/ChannelMethod$Shape" = some m.cls := findClass_of_methodNamed Bd.named
  have hnm := (name_of_methodNamed Bd.named Bd.method).1
  have X0 : Stand p l e ({ frames := 0, cells := 0, slots := 0, locals := 0 } : Room) s m #[(.ref w_MESSAGE_PROCESSOR)] below meth c s₁ [] 0 0 := Stand.of_body Bd
  have e0 : s₁.heap = h0 := by rw [← hh, Bd.state]; rfl
  have N0 := Fr.nil n0
  have WW := W
  obtain ⟨E_w_PRODUCER, E_w_NOTHING, E_w_PAYLOAD, E_w_PROCESSOR, E_w_MESSAGE_STREAM, E_w_MESSAGE, E_w_PAYLOAD_STREAM, E_w_CONSUMER, E_w_ASYNC_PROCESSOR, E_w_MESSAGE_CONSUMER, E_w_ASYNC_MESSAGE_PROCESSOR, E_w_MESSAGE_PROCESSOR, S_ChannelMethod_Shape_PRODUCER, S_ChannelMethod_Kind_NOTHING, F_w_PRODUCER_takes, S_ChannelMethod_Kind_PAYLOAD, F_w_PRODUCER_gives, F_w_PAYLOAD_ordinal, F_w_NOTHING_ordinal, S_ChannelMethod_Shape_PROCESSOR, F_w_PROCESSOR_takes, S_ChannelMethod_Shape_MESSAGE_STREAM, F_w_MESSAGE_STREAM_takes, S_ChannelMethod_Kind_MESSAGE, F_w_MESSAGE_STREAM_gives, F_w_MESSAGE_ordinal, S_ChannelMethod_Shape_PAYLOAD_STREAM, F_w_PAYLOAD_STREAM_takes, F_w_PAYLOAD_STREAM_gives, S_ChannelMethod_Shape_CONSUMER, F_w_CONSUMER_takes, S_ChannelMethod_Shape_ASYNC_PROCESSOR, F_w_ASYNC_PROCESSOR_takes, S_ChannelMethod_Shape_MESSAGE_CONSUMER, F_w_MESSAGE_CONSUMER_takes, S_ChannelMethod_Shape_ASYNC_MESSAGE_PROCESSOR, F_w_ASYNC_MESSAGE_PROCESSOR_takes, S_ChannelMethod_Shape_MESSAGE_PROCESSOR, F_w_MESSAGE_PROCESSOR_takes, F_w_PROCESSOR_gives, F_w_CONSUMER_gives, F_w_ASYNC_PROCESSOR_gives, F_w_MESSAGE_CONSUMER_gives, F_w_ASYNC_MESSAGE_PROCESSOR_gives, F_w_MESSAGE_PROCESSOR_gives, ne_w_PAYLOAD_w_NOTHING, ne_w_MESSAGE_w_NOTHING, -⟩ := WW
  have ef : entryFrame m #[(.ref w_MESSAGE_PROCESSOR)] 1 = mkF m 0 #[.val (.ref w_MESSAGE_PROCESSOR)] [] := by first | rfl | (simp [entryFrame, mkF, argsToLocals, Value.category]; done)
  have pre0 : ∀ t, Steps p.tables e below (s₁.setTop (mkF m 0 #[.val (.ref w_MESSAGE_PROCESSOR)] [])) t → Steps p.tables e below (s₁.setTop (entryFrame m #[(.ref w_MESSAGE_PROCESSOR)] 1)) t := fun t k => castTop ef k
  obtain ⟨T1, X1, e1, st1⟩ := getF X0 hx hZ hown (host := "") (Or.inl (hw _ (List.mem_of_getElem? (i := 13) rfl))) Via.refl e0 (F_w_MESSAGE_PROCESSOR_takes.ext O.2) (g := (mkF m 1 #[.val (.ref w_MESSAGE_PROCESSOR)] [(.ref w_MESSAGE_PROCESSOR)])) rfl rfl (hb hby d3_1)
  obtain ⟨fs, hr, hrun, hended, hW, hsame⟩ := X1.leave (v := some (.ref w_MESSAGE)) (fun h => by rw [Bd.returns] at h; cases h)
  refine ⟨_, _, pre0 _ ?_, hrun, hended, _, _, rfl, ?_, ⟨_, rfl⟩, hW, hsame.mono (by decide) (by decide)⟩
  · show Steps p.tables e below (s₁.setTop (mkF m 0 #[.val (.ref w_MESSAGE_PROCESSOR)] [])) _
    refine XS.aloadN X0.here hx rfl (hb hby d3_0) rfl rfl ?_
    show Steps p.tables e below (s₁.setTop (mkF m 1 #[.val (.ref w_MESSAGE_PROCESSOR)] [(.ref w_MESSAGE_PROCESSOR)])) _
    refine st1 _ ?_
    show Steps p.tables e below (T1.setTop (mkF m 4 #[.val (.ref w_MESSAGE_PROCESSOR)] [(.ref w_MESSAGE)])) _
    exact retOut X1 hx Bd.returns rfl (Or.inr (Or.inr (Or.inr (Or.inr ⟨rfl, rfl, rfl⟩)))) (hb hby d3_4) hr
  · exact ⟨rfl, N0, e1⟩
set_option maxRecDepth 65536 in
set_option maxHeartbeats 40000000 in
theorem rm0_5 (l : Launch) (Z : State) (a0 : Array Value) (hw : ∀ d ∈ tables_1, d.before a0 Z = true) (ws : List Jvm.Cond) (n0 : Nat) (h0 : Heap) (O : Old Z n0 h0) (w_PRODUCER : Addr) (w_NOTHING : Addr) (w_PAYLOAD : Addr) (w_PROCESSOR : Addr) (w_MESSAGE_STREAM : Addr) (w_MESSAGE : Addr) (w_PAYLOAD_STREAM : Addr) (w_CONSUMER : Addr) (w_ASYNC_PROCESSOR : Addr) (w_MESSAGE_CONSUMER : Addr) (w_ASYNC_MESSAGE_PROCESSOR : Addr) (w_MESSAGE_PROCESSOR : Addr) (W : OwW Z w_PRODUCER w_NOTHING w_PAYLOAD w_PROCESSOR w_MESSAGE_STREAM w_MESSAGE w_PAYLOAD_STREAM w_CONSUMER w_ASYNC_PROCESSOR w_MESSAGE_CONSUMER w_ASYNC_MESSAGE_PROCESSOR w_MESSAGE_PROCESSOR) (p0 : Int32) (hi : (p0 &&& (2147483647 : Int32)) % (9 : Int32) = (5 : Int32)) :
    OwCon l x code maxLocals ret ws room_1 #[(.int p0)] Z h0 (OwP (fun v _ => v = some (.int 1)) n0) := by
  refine MetFree.of_bodySF (plainFor_of_name owpn0) hisR ?_
  intro p e s m args below meth c s₁ Bd hml0 hP hK
  obtain ⟨rfl, hZ, hh⟩ := hP
  have hx := Bd.exec
  have hby := Bd.bytes
  have hml : c.maxLocals = 7 := hml0
  have hown : s.vm.findClass "com/example/aizu/aizu/channels/ShapeReadsPinLaw" = some m.cls := findClass_of_methodNamed Bd.named
  have hnm := (name_of_methodNamed Bd.named Bd.method).1
  have X0 : Stand p l e room_1 s m #[(.int p0)] below meth c s₁ [] 0 0 := Stand.of_body Bd
  have e0 : s₁.heap = h0 := by rw [← hh, Bd.state]; rfl
  have N0 := Fr.nil n0
  have WW := W
  obtain ⟨E_w_PRODUCER, E_w_NOTHING, E_w_PAYLOAD, E_w_PROCESSOR, E_w_MESSAGE_STREAM, E_w_MESSAGE, E_w_PAYLOAD_STREAM, E_w_CONSUMER, E_w_ASYNC_PROCESSOR, E_w_MESSAGE_CONSUMER, E_w_ASYNC_MESSAGE_PROCESSOR, E_w_MESSAGE_PROCESSOR, S_ChannelMethod_Shape_PRODUCER, S_ChannelMethod_Kind_NOTHING, F_w_PRODUCER_takes, S_ChannelMethod_Kind_PAYLOAD, F_w_PRODUCER_gives, F_w_PAYLOAD_ordinal, F_w_NOTHING_ordinal, S_ChannelMethod_Shape_PROCESSOR, F_w_PROCESSOR_takes, S_ChannelMethod_Shape_MESSAGE_STREAM, F_w_MESSAGE_STREAM_takes, S_ChannelMethod_Kind_MESSAGE, F_w_MESSAGE_STREAM_gives, F_w_MESSAGE_ordinal, S_ChannelMethod_Shape_PAYLOAD_STREAM, F_w_PAYLOAD_STREAM_takes, F_w_PAYLOAD_STREAM_gives, S_ChannelMethod_Shape_CONSUMER, F_w_CONSUMER_takes, S_ChannelMethod_Shape_ASYNC_PROCESSOR, F_w_ASYNC_PROCESSOR_takes, S_ChannelMethod_Shape_MESSAGE_CONSUMER, F_w_MESSAGE_CONSUMER_takes, S_ChannelMethod_Shape_ASYNC_MESSAGE_PROCESSOR, F_w_ASYNC_MESSAGE_PROCESSOR_takes, S_ChannelMethod_Shape_MESSAGE_PROCESSOR, F_w_MESSAGE_PROCESSOR_takes, F_w_PROCESSOR_gives, F_w_CONSUMER_gives, F_w_ASYNC_PROCESSOR_gives, F_w_MESSAGE_CONSUMER_gives, F_w_ASYNC_MESSAGE_PROCESSOR_gives, F_w_MESSAGE_PROCESSOR_gives, ne_w_PAYLOAD_w_NOTHING, ne_w_MESSAGE_w_NOTHING, -⟩ := WW
  have ef : entryFrame m #[(.int p0)] maxLocals = mkF m 0 #[.val (.int p0), .unset, .unset, .unset, .unset, .unset, .unset] [] := by first | rfl | (simp [entryFrame, mkF, argsToLocals, Value.category, maxLocals]; done)
  have pre0 : ∀ t, Steps p.tables e below (s₁.setTop (mkF m 0 #[.val (.int p0), .unset, .unset, .unset, .unset, .unset, .unset] [])) t → Steps p.tables e below (s₁.setTop (entryFrame m #[(.int p0)] maxLocals)) t := fun t k => castTop ef k
  obtain ⟨_, _, ⟨T1, L1, k1, n1⟩, -, X1, ⟨Lc1, hQ1, l1, y1, z1⟩, st1⟩ := Jvm.LawKit.callS X0 hx (y := (⟨"com/example/aizu/aizu/channels/ShapeReadsPinLaw", "shapeAt", "(I)Lcom/example/aizu/aizu/channels/ChannelMethod$Shape;"⟩ : MethodName)) hown (mvT hZ (hw _ (List.mem_of_getElem? (i := 1) rfl))) (mvT hZ (hw _ (List.mem_of_getElem? (i := 2) rfl))) (mvT hZ (hw _ (List.mem_of_getElem? (i := 3) rfl))) (mvT hZ (hw _ (List.mem_of_getElem? (i := 4) rfl))) (by decide) (backOf (W := 0) (rm1_5 l Z a0 hw [] n0 h0 O w_PRODUCER w_NOTHING w_PAYLOAD w_PROCESSOR w_MESSAGE_STREAM w_MESSAGE w_PAYLOAD_STREAM w_CONSUMER w_ASYNC_PROCESSOR w_MESSAGE_CONSUMER w_ASYNC_MESSAGE_PROCESSOR w_MESSAGE_PROCESSOR W  ) hZ (hw _ (List.mem_of_getElem? (i := 4) rfl)) (hw _ (List.mem_of_getElem? (i := 3) rfl)) (by decide) (by decide)) (g := (mkF m 9 #[.val (.int p0), .val (.int (5 : Int32)), .unset, .unset, .unset, .unset, .unset] [(.int (5 : Int32))])) rfl (by rw [hml]; rfl) (argsL := [(.int (5 : Int32))]) (rest := []) (lenOf owpd0 rfl) rfl (by show 2 * 0 + _ ≤ _; exact Nat.le_of_eq rfl) (hb hby at_9) (fun _ _ => ⟨rfl, e0, (by decide : 0 + 0 ≤ _), (by decide : 0 + 0 ≤ _)⟩)
  dsimp only [Pt.U, Pt.locs, Pt.cells, Pt.slots] at X1 l1 y1 z1 st1 hQ1
  subst l1 y1 z1
  obtain ⟨rfl, Nq1, e1⟩ := hQ1
  have N1 := Fr.app N0 Nq1
  obtain ⟨cq2, kq2, q2a, q2b, q2c⟩ := isOf hZ e1 (E_w_MESSAGE_PROCESSOR.ext O.2)
  obtain ⟨_, _, ⟨T2, L2, k2, n2⟩, -, X2, ⟨Lc2, hQ2, l2, y2, z2⟩, st2⟩ := X1.virtualBack hx (y := (⟨"com/example/aizu/aizu/channels/ChannelMethod$Shape", "reads", "()Z"⟩ : MethodName)) (z := (⟨"com/example/aizu/aizu/channels/ChannelMethod$Shape", "reads", "()Z"⟩ : MethodName)) hown (mvT hZ (hw _ (List.mem_of_getElem? (i := 8) rfl))) (mvT hZ (hw _ (List.mem_of_getElem? (i := 9) rfl))) (notFace_of_selects (args := #[]) (mvT hZ (hw _ (List.mem_of_getElem? (i := 11) rfl)))) (mvT hZ (hw _ (List.mem_of_getElem? (i := 11) rfl))) (mvT hZ (hw _ (List.mem_of_getElem? (i := 10) rfl))) (by decide) (backOf (W := 0) (rm2_5 l Z a0 hw [] n0 h0 O w_PRODUCER w_NOTHING w_PAYLOAD w_PROCESSOR w_MESSAGE_STREAM w_MESSAGE w_PAYLOAD_STREAM w_CONSUMER w_ASYNC_PROCESSOR w_MESSAGE_CONSUMER w_ASYNC_MESSAGE_PROCESSOR w_MESSAGE_PROCESSOR W  ) hZ (hw _ (List.mem_of_getElem? (i := 12) rfl)) (hw _ (List.mem_of_getElem? (i := 6) rfl)) (by decide) (by decide)) q2a q2c (g := (mkF m 25 #[.val (.int p0), .val (.int (5 : Int32)), .val (.ref w_MESSAGE_PROCESSOR), .val (.int (1 : Int32)), .unset, .unset, .unset] [(.ref w_MESSAGE_PROCESSOR)])) rfl (by rw [hml]; rfl) (Steps.refl _) (argsL := []) (rest := []) (lenOf owpd1 rfl) rfl (by show 2 * 0 + _ ≤ _; exact Nat.le_of_eq rfl) (hb hby at_25) (fun _ _ => ⟨rfl, e1, (by decide : 0 + 0 ≤ _), (by decide : 0 + 0 ≤ _)⟩)
  dsimp only [Pt.U, Pt.locs, Pt.cells, Pt.slots] at X2 l2 y2 z2 st2 hQ2
  subst l2 y2 z2
  obtain ⟨rfl, Nq2, e2⟩ := hQ2
  have N2 := Fr.app N1 Nq2
  obtain ⟨cq3, kq3, q3a, q3b, q3c⟩ := isOf hZ e2 (E_w_MESSAGE_PROCESSOR.ext O.2)
  obtain ⟨_, _, ⟨T3, L3, k3, n3⟩, -, X3, ⟨Lc3, hQ3, l3, y3, z3⟩, st3⟩ := X2.virtualBack hx (y := (⟨"com/example/aizu/aizu/channels/ChannelMethod$Shape", "takes", "()Lcom/example/aizu/aizu/channels/ChannelMethod$Kind;"⟩ : MethodName)) (z := (⟨"com/example/aizu/aizu/channels/ChannelMethod$Shape", "takes", "()Lcom/example/aizu/aizu/channels/ChannelMethod$Kind;"⟩ : MethodName)) hown (mvT hZ (hw _ (List.mem_of_getElem? (i := 18) rfl))) (mvT hZ (hw _ (List.mem_of_getElem? (i := 19) rfl))) (notFace_of_selects (args := #[]) (mvT hZ (hw _ (List.mem_of_getElem? (i := 21) rfl)))) (mvT hZ (hw _ (List.mem_of_getElem? (i := 21) rfl))) (mvT hZ (hw _ (List.mem_of_getElem? (i := 20) rfl))) (by decide) (backOf (W := 1) (rm3_5 l Z a0 hw [] n0 h0 O w_PRODUCER w_NOTHING w_PAYLOAD w_PROCESSOR w_MESSAGE_STREAM w_MESSAGE w_PAYLOAD_STREAM w_CONSUMER w_ASYNC_PROCESSOR w_MESSAGE_CONSUMER w_ASYNC_MESSAGE_PROCESSOR w_MESSAGE_PROCESSOR W  ) hZ (hw _ (List.mem_of_getElem? (i := 22) rfl)) (hw _ (List.mem_of_getElem? (i := 6) rfl)) (by decide) (by decide)) q3a q3c (g := (mkF m 33 #[.val (.int p0), .val (.int (5 : Int32)), .val (.ref w_MESSAGE_PROCESSOR), .val (.int (1 : Int32)), .val (.int (1 : Int32)), .unset, .unset] [(.ref w_MESSAGE_PROCESSOR), (.int (1 : Int32))])) rfl (by rw [hml]; rfl) (Steps.refl _) (argsL := []) (rest := [(.int (1 : Int32))]) (lenOf owpd2 rfl) rfl (by show 2 * 0 + _ ≤ _; exact Nat.le_of_eq rfl) (hb hby at_33) (fun _ _ => ⟨rfl, e2, (by decide : 0 + 0 ≤ _), (by decide : 0 + 0 ≤ _)⟩)
  dsimp only [Pt.U, Pt.locs, Pt.cells, Pt.slots] at X3 l3 y3 z3 st3 hQ3
  subst l3 y3 z3
  obtain ⟨rfl, Nq3, e3⟩ := hQ3
  have N3 := Fr.app N2 Nq3
  obtain ⟨T4, X4, e4, st4⟩ := getS2 X3 hx hZ hown (host := "") (Or.inl (hw _ (List.mem_of_getElem? (i := 23) rfl))) Via.refl e3 (S_ChannelMethod_Kind_NOTHING.ext O.2) (g := (mkF m 36 #[.val (.int p0), .val (.int (5 : Int32)), .val (.ref w_MESSAGE_PROCESSOR), .val (.int (1 : Int32)), .val (.int (1 : Int32)), .unset, .unset] [(.ref w_MESSAGE), (.int (1 : Int32))])) rfl (hb hby at_36)
  obtain ⟨fs, hr, hrun, hended, hW, hsame⟩ := X4.leave (v := some (.int (1 : Int32))) (fun h => by rw [Bd.returns] at h; cases h)
  refine ⟨_, _, pre0 _ ?_, hrun, hended, _, _, rfl, ?_, ⟨_, rfl⟩, hW, hsame.mono (by decide) (by decide)⟩
  · show Steps p.tables e below (s₁.setTop (mkF m 0 #[.val (.int p0), .unset, .unset, .unset, .unset, .unset, .unset] [])) _
    refine XS.iloadN X0.here hx rfl (hb hby at_0) rfl ?_
    show Steps p.tables e below (s₁.setTop (mkF m 1 #[.val (.int p0), .unset, .unset, .unset, .unset, .unset, .unset] [(.int p0)])) _
    refine X0.ldcInt hx hown (mvT hZ (hw _ (List.mem_of_getElem? (i := 0) rfl))) (g := (mkF m 1 #[.val (.int p0), .unset, .unset, .unset, .unset, .unset, .unset] [(.int p0)])) rfl (hb hby at_1) _ ?_
    show Steps p.tables e below (s₁.setTop (mkF m 3 #[.val (.int p0), .unset, .unset, .unset, .unset, .unset, .unset] [(.int (2147483647 : Int32)), (.int p0)])) _
    refine XS.iand X0.here hx rfl (hb hby at_3) rfl ?_
    show Steps p.tables e below (s₁.setTop (mkF m 4 #[.val (.int p0), .unset, .unset, .unset, .unset, .unset, .unset] [(.int (p0 &&& (2147483647 : Int32)))])) _
    refine XS.bipush X0.here hx rfl (hb hby at_4) ?_
    show Steps p.tables e below (s₁.setTop (mkF m 6 #[.val (.int p0), .unset, .unset, .unset, .unset, .unset, .unset] [(.int (9 : Int32)), (.int (p0 &&& (2147483647 : Int32)))])) _
    refine iremM X0 hx rfl (hb hby at_6) rfl (by decide) ?_
    show Steps p.tables e below (s₁.setTop (mkF m 7 #[.val (.int p0), .unset, .unset, .unset, .unset, .unset, .unset] [(.int ((p0 &&& (2147483647 : Int32)) % (9 : Int32)))])) _
    rw [hi]
    show Steps p.tables e below (s₁.setTop (mkF m 7 #[.val (.int p0), .unset, .unset, .unset, .unset, .unset, .unset] [(.int (5 : Int32))])) _
    refine XS.istoreN X0.here hx rfl (hb hby at_7) rfl (l' := #[.val (.int p0), .val (.int (5 : Int32)), .unset, .unset, .unset, .unset, .unset]) rfl ?_
    show Steps p.tables e below (s₁.setTop (mkF m 8 #[.val (.int p0), .val (.int (5 : Int32)), .unset, .unset, .unset, .unset, .unset] [])) _
    refine XS.iloadN X0.here hx rfl (hb hby at_8) rfl ?_
    show Steps p.tables e below (s₁.setTop (mkF m 9 #[.val (.int p0), .val (.int (5 : Int32)), .unset, .unset, .unset, .unset, .unset] [(.int (5 : Int32))])) _
    refine st1 _ ?_
    show Steps p.tables e below (T1.setTop (mkF m 12 #[.val (.int p0), .val (.int (5 : Int32)), .unset, .unset, .unset, .unset, .unset] [(.ref w_MESSAGE_PROCESSOR)])) _
    refine XS.astoreN X1.here hx rfl (hb hby at_12) rfl rfl (l' := #[.val (.int p0), .val (.int (5 : Int32)), .val (.ref w_MESSAGE_PROCESSOR), .unset, .unset, .unset, .unset]) rfl ?_
    show Steps p.tables e below (T1.setTop (mkF m 13 #[.val (.int p0), .val (.int (5 : Int32)), .val (.ref w_MESSAGE_PROCESSOR), .unset, .unset, .unset, .unset] [])) _
    refine XS.iloadN X1.here hx rfl (hb hby at_13) rfl ?_
    show Steps p.tables e below (T1.setTop (mkF m 14 #[.val (.int p0), .val (.int (5 : Int32)), .val (.ref w_MESSAGE_PROCESSOR), .unset, .unset, .unset, .unset] [(.int (5 : Int32))])) _
    refine XS.iconst X1.here hx rfl (hb hby at_14) ?_
    show Steps p.tables e below (T1.setTop (mkF m 15 #[.val (.int p0), .val (.int (5 : Int32)), .val (.ref w_MESSAGE_PROCESSOR), .unset, .unset, .unset, .unset] [(.int (3 : Int32)), (.int (5 : Int32))])) _
    refine XS.icmpNo X1.here hx rfl (hb hby at_15) rfl (flt (by decide : ¬ ((5 : Int32) < (3 : Int32)))).1 ?_
    show Steps p.tables e below (T1.setTop (mkF m 18 #[.val (.int p0), .val (.int (5 : Int32)), .val (.ref w_MESSAGE_PROCESSOR), .unset, .unset, .unset, .unset] [])) _
    refine XS.iconst X1.here hx rfl (hb hby at_18) ?_
    show Steps p.tables e below (T1.setTop (mkF m 19 #[.val (.int p0), .val (.int (5 : Int32)), .val (.ref w_MESSAGE_PROCESSOR), .unset, .unset, .unset, .unset] [(.int (1 : Int32))])) _
    refine XS.goto X1.here hx rfl (pc0 := 19) (pc' := 23) rfl (hb hby at_19) (by decide) (by decide) ?_
    show Steps p.tables e below (T1.setTop (mkF m 23 #[.val (.int p0), .val (.int (5 : Int32)), .val (.ref w_MESSAGE_PROCESSOR), .unset, .unset, .unset, .unset] [(.int (1 : Int32))])) _
    refine XS.istoreN X1.here hx rfl (hb hby at_23) rfl (l' := #[.val (.int p0), .val (.int (5 : Int32)), .val (.ref w_MESSAGE_PROCESSOR), .val (.int (1 : Int32)), .unset, .unset, .unset]) rfl ?_
    show Steps p.tables e below (T1.setTop (mkF m 24 #[.val (.int p0), .val (.int (5 : Int32)), .val (.ref w_MESSAGE_PROCESSOR), .val (.int (1 : Int32)), .unset, .unset, .unset] [])) _
    refine XS.aloadN X1.here hx rfl (hb hby at_24) rfl rfl ?_
    show Steps p.tables e below (T1.setTop (mkF m 25 #[.val (.int p0), .val (.int (5 : Int32)), .val (.ref w_MESSAGE_PROCESSOR), .val (.int (1 : Int32)), .unset, .unset, .unset] [(.ref w_MESSAGE_PROCESSOR)])) _
    refine st2.trans ?_
    show Steps p.tables e below (T2.setTop (mkF m 28 #[.val (.int p0), .val (.int (5 : Int32)), .val (.ref w_MESSAGE_PROCESSOR), .val (.int (1 : Int32)), .unset, .unset, .unset] [(.int (1 : Int32))])) _
    refine XS.istore X2.here hx rfl (hb hby at_28) rfl (l' := #[.val (.int p0), .val (.int (5 : Int32)), .val (.ref w_MESSAGE_PROCESSOR), .val (.int (1 : Int32)), .val (.int (1 : Int32)), .unset, .unset]) rfl ?_
    show Steps p.tables e below (T2.setTop (mkF m 30 #[.val (.int p0), .val (.int (5 : Int32)), .val (.ref w_MESSAGE_PROCESSOR), .val (.int (1 : Int32)), .val (.int (1 : Int32)), .unset, .unset] [])) _
    refine XS.iload X2.here hx rfl (hb hby at_30) rfl ?_
    show Steps p.tables e below (T2.setTop (mkF m 32 #[.val (.int p0), .val (.int (5 : Int32)), .val (.ref w_MESSAGE_PROCESSOR), .val (.int (1 : Int32)), .val (.int (1 : Int32)), .unset, .unset] [(.int (1 : Int32))])) _
    refine XS.aloadN X2.here hx rfl (hb hby at_32) rfl rfl ?_
    show Steps p.tables e below (T2.setTop (mkF m 33 #[.val (.int p0), .val (.int (5 : Int32)), .val (.ref w_MESSAGE_PROCESSOR), .val (.int (1 : Int32)), .val (.int (1 : Int32)), .unset, .unset] [(.ref w_MESSAGE_PROCESSOR), (.int (1 : Int32))])) _
    refine st3.trans ?_
    show Steps p.tables e below (T3.setTop (mkF m 36 #[.val (.int p0), .val (.int (5 : Int32)), .val (.ref w_MESSAGE_PROCESSOR), .val (.int (1 : Int32)), .val (.int (1 : Int32)), .unset, .unset] [(.ref w_MESSAGE), (.int (1 : Int32))])) _
    refine st4 _ ?_
    show Steps p.tables e below (T4.setTop (mkF m 39 #[.val (.int p0), .val (.int (5 : Int32)), .val (.ref w_MESSAGE_PROCESSOR), .val (.int (1 : Int32)), .val (.int (1 : Int32)), .unset, .unset] [(.ref w_NOTHING), (.ref w_MESSAGE), (.int (1 : Int32))])) _
    refine Jvm.RoadKit.acmp (g := (mkF m 39 #[.val (.int p0), .val (.int (5 : Int32)), .val (.ref w_MESSAGE_PROCESSOR), .val (.int (1 : Int32)), .val (.int (1 : Int32)), .unset, .unset] [(.ref w_NOTHING), (.ref w_MESSAGE), (.int (1 : Int32))])) X4 hx rfl rfl rfl (pc0 := 39) (pc' := 42) (same := false) rfl (hb hby at_39) rfl (decide_eq_false fun q => ne_w_MESSAGE_w_NOTHING (Value.ref.inj q)) (by decide) (by decide) ?_
    show Steps p.tables e below (T4.setTop (mkF m 42 #[.val (.int p0), .val (.int (5 : Int32)), .val (.ref w_MESSAGE_PROCESSOR), .val (.int (1 : Int32)), .val (.int (1 : Int32)), .unset, .unset] [(.int (1 : Int32))])) _
    refine XS.iconst X4.here hx rfl (hb hby at_42) ?_
    show Steps p.tables e below (T4.setTop (mkF m 43 #[.val (.int p0), .val (.int (5 : Int32)), .val (.ref w_MESSAGE_PROCESSOR), .val (.int (1 : Int32)), .val (.int (1 : Int32)), .unset, .unset] [(.int (1 : Int32)), (.int (1 : Int32))])) _
    refine XS.goto X4.here hx rfl (pc0 := 43) (pc' := 47) rfl (hb hby at_43) (by decide) (by decide) ?_
    show Steps p.tables e below (T4.setTop (mkF m 47 #[.val (.int p0), .val (.int (5 : Int32)), .val (.ref w_MESSAGE_PROCESSOR), .val (.int (1 : Int32)), .val (.int (1 : Int32)), .unset, .unset] [(.int (1 : Int32)), (.int (1 : Int32))])) _
    refine XS.icmpNo X4.here hx rfl (hb hby at_47) rfl (teq (by decide : (1 : Int32) = (1 : Int32))).2 ?_
    show Steps p.tables e below (T4.setTop (mkF m 50 #[.val (.int p0), .val (.int (5 : Int32)), .val (.ref w_MESSAGE_PROCESSOR), .val (.int (1 : Int32)), .val (.int (1 : Int32)), .unset, .unset] [])) _
    refine XS.iconst X4.here hx rfl (hb hby at_50) ?_
    show Steps p.tables e below (T4.setTop (mkF m 51 #[.val (.int p0), .val (.int (5 : Int32)), .val (.ref w_MESSAGE_PROCESSOR), .val (.int (1 : Int32)), .val (.int (1 : Int32)), .unset, .unset] [(.int (1 : Int32))])) _
    refine XS.goto X4.here hx rfl (pc0 := 51) (pc' := 55) rfl (hb hby at_51) (by decide) (by decide) ?_
    show Steps p.tables e below (T4.setTop (mkF m 55 #[.val (.int p0), .val (.int (5 : Int32)), .val (.ref w_MESSAGE_PROCESSOR), .val (.int (1 : Int32)), .val (.int (1 : Int32)), .unset, .unset] [(.int (1 : Int32))])) _
    refine XS.istore X4.here hx rfl (hb hby at_55) rfl (l' := #[.val (.int p0), .val (.int (5 : Int32)), .val (.ref w_MESSAGE_PROCESSOR), .val (.int (1 : Int32)), .val (.int (1 : Int32)), .val (.int (1 : Int32)), .unset]) rfl ?_
    show Steps p.tables e below (T4.setTop (mkF m 57 #[.val (.int p0), .val (.int (5 : Int32)), .val (.ref w_MESSAGE_PROCESSOR), .val (.int (1 : Int32)), .val (.int (1 : Int32)), .val (.int (1 : Int32)), .unset] [])) _
    refine XS.iload X4.here hx rfl (hb hby at_57) rfl ?_
    show Steps p.tables e below (T4.setTop (mkF m 59 #[.val (.int p0), .val (.int (5 : Int32)), .val (.ref w_MESSAGE_PROCESSOR), .val (.int (1 : Int32)), .val (.int (1 : Int32)), .val (.int (1 : Int32)), .unset] [(.int (1 : Int32))])) _
    refine XS.ifYes X4.here hx rfl (pc0 := 59) (pc' := 69) rfl (hb hby at_59) rfl ((if0 _ _).trans (feq (by decide : ¬ ((1 : Int32) = (0 : Int32)))).2) (by decide) (by decide) ?_
    show Steps p.tables e below (T4.setTop (mkF m 69 #[.val (.int p0), .val (.int (5 : Int32)), .val (.ref w_MESSAGE_PROCESSOR), .val (.int (1 : Int32)), .val (.int (1 : Int32)), .val (.int (1 : Int32)), .unset] [])) _
    refine XS.iconst X4.here hx rfl (hb hby at_69) ?_
    show Steps p.tables e below (T4.setTop (mkF m 70 #[.val (.int p0), .val (.int (5 : Int32)), .val (.ref w_MESSAGE_PROCESSOR), .val (.int (1 : Int32)), .val (.int (1 : Int32)), .val (.int (1 : Int32)), .unset] [(.int (1 : Int32))])) _
    refine XS.goto X4.here hx rfl (pc0 := 70) (pc' := 74) rfl (hb hby at_70) (by decide) (by decide) ?_
    show Steps p.tables e below (T4.setTop (mkF m 74 #[.val (.int p0), .val (.int (5 : Int32)), .val (.ref w_MESSAGE_PROCESSOR), .val (.int (1 : Int32)), .val (.int (1 : Int32)), .val (.int (1 : Int32)), .unset] [(.int (1 : Int32))])) _
    refine XS.istore X4.here hx rfl (hb hby at_74) rfl (l' := #[.val (.int p0), .val (.int (5 : Int32)), .val (.ref w_MESSAGE_PROCESSOR), .val (.int (1 : Int32)), .val (.int (1 : Int32)), .val (.int (1 : Int32)), .val (.int (1 : Int32))]) rfl ?_
    show Steps p.tables e below (T4.setTop (mkF m 76 #[.val (.int p0), .val (.int (5 : Int32)), .val (.ref w_MESSAGE_PROCESSOR), .val (.int (1 : Int32)), .val (.int (1 : Int32)), .val (.int (1 : Int32)), .val (.int (1 : Int32))] [])) _
    refine XS.iload X4.here hx rfl (hb hby at_76) rfl ?_
    show Steps p.tables e below (T4.setTop (mkF m 78 #[.val (.int p0), .val (.int (5 : Int32)), .val (.ref w_MESSAGE_PROCESSOR), .val (.int (1 : Int32)), .val (.int (1 : Int32)), .val (.int (1 : Int32)), .val (.int (1 : Int32))] [(.int (1 : Int32))])) _
    refine XS.iloadN X4.here hx rfl (hb hby at_78) rfl ?_
    show Steps p.tables e below (T4.setTop (mkF m 79 #[.val (.int p0), .val (.int (5 : Int32)), .val (.ref w_MESSAGE_PROCESSOR), .val (.int (1 : Int32)), .val (.int (1 : Int32)), .val (.int (1 : Int32)), .val (.int (1 : Int32))] [(.int (1 : Int32)), (.int (1 : Int32))])) _
    refine XS.icmpNo X4.here hx rfl (hb hby at_79) rfl (teq (by decide : (1 : Int32) = (1 : Int32))).2 ?_
    show Steps p.tables e below (T4.setTop (mkF m 82 #[.val (.int p0), .val (.int (5 : Int32)), .val (.ref w_MESSAGE_PROCESSOR), .val (.int (1 : Int32)), .val (.int (1 : Int32)), .val (.int (1 : Int32)), .val (.int (1 : Int32))] [])) _
    refine XS.iload X4.here hx rfl (hb hby at_82) rfl ?_
    show Steps p.tables e below (T4.setTop (mkF m 84 #[.val (.int p0), .val (.int (5 : Int32)), .val (.ref w_MESSAGE_PROCESSOR), .val (.int (1 : Int32)), .val (.int (1 : Int32)), .val (.int (1 : Int32)), .val (.int (1 : Int32))] [(.int (1 : Int32))])) _
    refine XS.ifNo X4.here hx rfl (hb hby at_84) rfl ((if0 _ _).trans (feq (by decide : ¬ ((1 : Int32) = (0 : Int32)))).1) ?_
    show Steps p.tables e below (T4.setTop (mkF m 87 #[.val (.int p0), .val (.int (5 : Int32)), .val (.ref w_MESSAGE_PROCESSOR), .val (.int (1 : Int32)), .val (.int (1 : Int32)), .val (.int (1 : Int32)), .val (.int (1 : Int32))] [])) _
    refine XS.iload X4.here hx rfl (hb hby at_87) rfl ?_
    show Steps p.tables e below (T4.setTop (mkF m 89 #[.val (.int p0), .val (.int (5 : Int32)), .val (.ref w_MESSAGE_PROCESSOR), .val (.int (1 : Int32)), .val (.int (1 : Int32)), .val (.int (1 : Int32)), .val (.int (1 : Int32))] [(.int (1 : Int32))])) _
    refine XS.ifNo X4.here hx rfl (hb hby at_89) rfl ((if0 _ _).trans (feq (by decide : ¬ ((1 : Int32) = (0 : Int32)))).1) ?_
    show Steps p.tables e below (T4.setTop (mkF m 92 #[.val (.int p0), .val (.int (5 : Int32)), .val (.ref w_MESSAGE_PROCESSOR), .val (.int (1 : Int32)), .val (.int (1 : Int32)), .val (.int (1 : Int32)), .val (.int (1 : Int32))] [])) _
    refine XS.iconst X4.here hx rfl (hb hby at_92) ?_
    show Steps p.tables e below (T4.setTop (mkF m 93 #[.val (.int p0), .val (.int (5 : Int32)), .val (.ref w_MESSAGE_PROCESSOR), .val (.int (1 : Int32)), .val (.int (1 : Int32)), .val (.int (1 : Int32)), .val (.int (1 : Int32))] [(.int (1 : Int32))])) _
    refine XS.goto X4.here hx rfl (pc0 := 93) (pc' := 97) rfl (hb hby at_93) (by decide) (by decide) ?_
    show Steps p.tables e below (T4.setTop (mkF m 97 #[.val (.int p0), .val (.int (5 : Int32)), .val (.ref w_MESSAGE_PROCESSOR), .val (.int (1 : Int32)), .val (.int (1 : Int32)), .val (.int (1 : Int32)), .val (.int (1 : Int32))] [(.int (1 : Int32))])) _
    exact retN X4 hx (t := .boolean) Bd.returns (by simp) (hb hby at_97) hr
  · exact ⟨N3, rfl⟩
set_option maxRecDepth 65536 in
set_option maxHeartbeats 40000000 in
theorem rm1_6 (l : Launch) (Z : State) (a0 : Array Value) (hw : ∀ d ∈ tables_1, d.before a0 Z = true) (ws : List Jvm.Cond) (n0 : Nat) (h0 : Heap) (O : Old Z n0 h0) (w_PRODUCER : Addr) (w_NOTHING : Addr) (w_PAYLOAD : Addr) (w_PROCESSOR : Addr) (w_MESSAGE_STREAM : Addr) (w_MESSAGE : Addr) (w_PAYLOAD_STREAM : Addr) (w_CONSUMER : Addr) (w_ASYNC_PROCESSOR : Addr) (w_MESSAGE_CONSUMER : Addr) (w_ASYNC_MESSAGE_PROCESSOR : Addr) (w_MESSAGE_PROCESSOR : Addr) (W : OwW Z w_PRODUCER w_NOTHING w_PAYLOAD w_PROCESSOR w_MESSAGE_STREAM w_MESSAGE w_PAYLOAD_STREAM w_CONSUMER w_ASYNC_PROCESSOR w_MESSAGE_CONSUMER w_ASYNC_MESSAGE_PROCESSOR w_MESSAGE_PROCESSOR)  :
    OwCon l (⟨"com/example/aizu/aizu/channels/ShapeReadsPinLaw", "shapeAt", "(I)Lcom/example/aizu/aizu/channels/ChannelMethod$Shape;"⟩ : MethodName) method_3_code 1 (some (.object "com/example/aizu/aizu/channels/ChannelMethod$Shape")) ws ({ frames := 0, cells := 0, slots := 0, locals := 0 } : Room) #[(.int (6 : Int32))] Z h0 (OwQ (some (.ref w_ASYNC_MESSAGE_PROCESSOR)) h0 n0) := by
  refine MetFree.of_bodySF (plainFor_of_name owpn1) hisR ?_
  intro p e s m args below meth c s₁ Bd hml0 hP hK
  obtain ⟨rfl, hZ, hh⟩ := hP
  have hx := Bd.exec
  have hby := Bd.bytes
  have hml : c.maxLocals = 1 := hml0
  have hown : s.vm.findClass "com/example/aizu/aizu/channels/ShapeReadsPinLaw" = some m.cls := findClass_of_methodNamed Bd.named
  have hnm := (name_of_methodNamed Bd.named Bd.method).1
  have X0 : Stand p l e ({ frames := 0, cells := 0, slots := 0, locals := 0 } : Room) s m #[(.int (6 : Int32))] below meth c s₁ [] 0 0 := Stand.of_body Bd
  have e0 : s₁.heap = h0 := by rw [← hh, Bd.state]; rfl
  have N0 := Fr.nil n0
  have WW := W
  obtain ⟨E_w_PRODUCER, E_w_NOTHING, E_w_PAYLOAD, E_w_PROCESSOR, E_w_MESSAGE_STREAM, E_w_MESSAGE, E_w_PAYLOAD_STREAM, E_w_CONSUMER, E_w_ASYNC_PROCESSOR, E_w_MESSAGE_CONSUMER, E_w_ASYNC_MESSAGE_PROCESSOR, E_w_MESSAGE_PROCESSOR, S_ChannelMethod_Shape_PRODUCER, S_ChannelMethod_Kind_NOTHING, F_w_PRODUCER_takes, S_ChannelMethod_Kind_PAYLOAD, F_w_PRODUCER_gives, F_w_PAYLOAD_ordinal, F_w_NOTHING_ordinal, S_ChannelMethod_Shape_PROCESSOR, F_w_PROCESSOR_takes, S_ChannelMethod_Shape_MESSAGE_STREAM, F_w_MESSAGE_STREAM_takes, S_ChannelMethod_Kind_MESSAGE, F_w_MESSAGE_STREAM_gives, F_w_MESSAGE_ordinal, S_ChannelMethod_Shape_PAYLOAD_STREAM, F_w_PAYLOAD_STREAM_takes, F_w_PAYLOAD_STREAM_gives, S_ChannelMethod_Shape_CONSUMER, F_w_CONSUMER_takes, S_ChannelMethod_Shape_ASYNC_PROCESSOR, F_w_ASYNC_PROCESSOR_takes, S_ChannelMethod_Shape_MESSAGE_CONSUMER, F_w_MESSAGE_CONSUMER_takes, S_ChannelMethod_Shape_ASYNC_MESSAGE_PROCESSOR, F_w_ASYNC_MESSAGE_PROCESSOR_takes, S_ChannelMethod_Shape_MESSAGE_PROCESSOR, F_w_MESSAGE_PROCESSOR_takes, F_w_PROCESSOR_gives, F_w_CONSUMER_gives, F_w_ASYNC_PROCESSOR_gives, F_w_MESSAGE_CONSUMER_gives, F_w_ASYNC_MESSAGE_PROCESSOR_gives, F_w_MESSAGE_PROCESSOR_gives, ne_w_PAYLOAD_w_NOTHING, ne_w_MESSAGE_w_NOTHING, -⟩ := WW
  have ef : entryFrame m #[(.int (6 : Int32))] 1 = mkF m 0 #[.val (.int (6 : Int32))] [] := by first | rfl | (simp [entryFrame, mkF, argsToLocals, Value.category]; done)
  have pre0 : ∀ t, Steps p.tables e below (s₁.setTop (mkF m 0 #[.val (.int (6 : Int32))] [])) t → Steps p.tables e below (s₁.setTop (entryFrame m #[(.int (6 : Int32))] 1)) t := fun t k => castTop ef k
  obtain ⟨T1, X1, e1, st1⟩ := getS2 X0 hx hZ hown (host := "") (Or.inl (hw _ (List.mem_of_getElem? (i := 45) rfl))) Via.refl e0 (S_ChannelMethod_Shape_ASYNC_MESSAGE_PROCESSOR.ext O.2) (g := (mkF m 59 #[.val (.int (6 : Int32))] [])) rfl (hb hby d1_59)
  obtain ⟨fs, hr, hrun, hended, hW, hsame⟩ := X1.leave (v := some (.ref w_ASYNC_MESSAGE_PROCESSOR)) (fun h => by rw [Bd.returns] at h; cases h)
  refine ⟨_, _, pre0 _ ?_, hrun, hended, _, _, rfl, ?_, ⟨_, rfl⟩, hW, hsame.mono (by decide) (by decide)⟩
  · show Steps p.tables e below (s₁.setTop (mkF m 0 #[.val (.int (6 : Int32))] [])) _
    refine XS.iloadN X0.here hx rfl (hb hby d1_0) rfl ?_
    show Steps p.tables e below (s₁.setTop (mkF m 1 #[.val (.int (6 : Int32))] [(.int (6 : Int32))])) _
    refine XS.ifYes X0.here hx rfl (pc0 := 1) (pc' := 8) rfl (hb hby d1_1) rfl ((if0 _ _).trans (feq (by decide : ¬ ((6 : Int32) = (0 : Int32)))).2) (by decide) (by decide) ?_
    show Steps p.tables e below (s₁.setTop (mkF m 8 #[.val (.int (6 : Int32))] [])) _
    refine XS.iloadN X0.here hx rfl (hb hby d1_8) rfl ?_
    show Steps p.tables e below (s₁.setTop (mkF m 9 #[.val (.int (6 : Int32))] [(.int (6 : Int32))])) _
    refine XS.iconst X0.here hx rfl (hb hby d1_9) ?_
    show Steps p.tables e below (s₁.setTop (mkF m 10 #[.val (.int (6 : Int32))] [(.int (1 : Int32)), (.int (6 : Int32))])) _
    refine XS.icmpYes X0.here hx rfl (pc0 := 10) (pc' := 17) rfl (hb hby d1_10) rfl (feq (by decide : ¬ ((6 : Int32) = (1 : Int32)))).2 (by decide) (by decide) ?_
    show Steps p.tables e below (s₁.setTop (mkF m 17 #[.val (.int (6 : Int32))] [])) _
    refine XS.iloadN X0.here hx rfl (hb hby d1_17) rfl ?_
    show Steps p.tables e below (s₁.setTop (mkF m 18 #[.val (.int (6 : Int32))] [(.int (6 : Int32))])) _
    refine XS.iconst X0.here hx rfl (hb hby d1_18) ?_
    show Steps p.tables e below (s₁.setTop (mkF m 19 #[.val (.int (6 : Int32))] [(.int (2 : Int32)), (.int (6 : Int32))])) _
    refine XS.icmpYes X0.here hx rfl (pc0 := 19) (pc' := 26) rfl (hb hby d1_19) rfl (feq (by decide : ¬ ((6 : Int32) = (2 : Int32)))).2 (by decide) (by decide) ?_
    show Steps p.tables e below (s₁.setTop (mkF m 26 #[.val (.int (6 : Int32))] [])) _
    refine XS.iloadN X0.here hx rfl (hb hby d1_26) rfl ?_
    show Steps p.tables e below (s₁.setTop (mkF m 27 #[.val (.int (6 : Int32))] [(.int (6 : Int32))])) _
    refine XS.iconst X0.here hx rfl (hb hby d1_27) ?_
    show Steps p.tables e below (s₁.setTop (mkF m 28 #[.val (.int (6 : Int32))] [(.int (3 : Int32)), (.int (6 : Int32))])) _
    refine XS.icmpYes X0.here hx rfl (pc0 := 28) (pc' := 35) rfl (hb hby d1_28) rfl (feq (by decide : ¬ ((6 : Int32) = (3 : Int32)))).2 (by decide) (by decide) ?_
    show Steps p.tables e below (s₁.setTop (mkF m 35 #[.val (.int (6 : Int32))] [])) _
    refine XS.iloadN X0.here hx rfl (hb hby d1_35) rfl ?_
    show Steps p.tables e below (s₁.setTop (mkF m 36 #[.val (.int (6 : Int32))] [(.int (6 : Int32))])) _
    refine XS.iconst X0.here hx rfl (hb hby d1_36) ?_
    show Steps p.tables e below (s₁.setTop (mkF m 37 #[.val (.int (6 : Int32))] [(.int (4 : Int32)), (.int (6 : Int32))])) _
    refine XS.icmpYes X0.here hx rfl (pc0 := 37) (pc' := 44) rfl (hb hby d1_37) rfl (feq (by decide : ¬ ((6 : Int32) = (4 : Int32)))).2 (by decide) (by decide) ?_
    show Steps p.tables e below (s₁.setTop (mkF m 44 #[.val (.int (6 : Int32))] [])) _
    refine XS.iloadN X0.here hx rfl (hb hby d1_44) rfl ?_
    show Steps p.tables e below (s₁.setTop (mkF m 45 #[.val (.int (6 : Int32))] [(.int (6 : Int32))])) _
    refine XS.iconst X0.here hx rfl (hb hby d1_45) ?_
    show Steps p.tables e below (s₁.setTop (mkF m 46 #[.val (.int (6 : Int32))] [(.int (5 : Int32)), (.int (6 : Int32))])) _
    refine XS.icmpYes X0.here hx rfl (pc0 := 46) (pc' := 53) rfl (hb hby d1_46) rfl (feq (by decide : ¬ ((6 : Int32) = (5 : Int32)))).2 (by decide) (by decide) ?_
    show Steps p.tables e below (s₁.setTop (mkF m 53 #[.val (.int (6 : Int32))] [])) _
    refine XS.iloadN X0.here hx rfl (hb hby d1_53) rfl ?_
    show Steps p.tables e below (s₁.setTop (mkF m 54 #[.val (.int (6 : Int32))] [(.int (6 : Int32))])) _
    refine XS.bipush X0.here hx rfl (hb hby d1_54) ?_
    show Steps p.tables e below (s₁.setTop (mkF m 56 #[.val (.int (6 : Int32))] [(.int (6 : Int32)), (.int (6 : Int32))])) _
    refine XS.icmpNo X0.here hx rfl (hb hby d1_56) rfl (teq (by decide : (6 : Int32) = (6 : Int32))).2 ?_
    show Steps p.tables e below (s₁.setTop (mkF m 59 #[.val (.int (6 : Int32))] [])) _
    refine st1 _ ?_
    show Steps p.tables e below (T1.setTop (mkF m 62 #[.val (.int (6 : Int32))] [(.ref w_ASYNC_MESSAGE_PROCESSOR)])) _
    exact retOut X1 hx Bd.returns rfl (Or.inr (Or.inr (Or.inr (Or.inr ⟨rfl, rfl, rfl⟩)))) (hb hby d1_62) hr
  · exact ⟨rfl, N0, e1⟩
set_option maxRecDepth 65536 in
set_option maxHeartbeats 40000000 in
theorem rm2_6 (l : Launch) (Z : State) (a0 : Array Value) (hw : ∀ d ∈ tables_1, d.before a0 Z = true) (ws : List Jvm.Cond) (n0 : Nat) (h0 : Heap) (O : Old Z n0 h0) (w_PRODUCER : Addr) (w_NOTHING : Addr) (w_PAYLOAD : Addr) (w_PROCESSOR : Addr) (w_MESSAGE_STREAM : Addr) (w_MESSAGE : Addr) (w_PAYLOAD_STREAM : Addr) (w_CONSUMER : Addr) (w_ASYNC_PROCESSOR : Addr) (w_MESSAGE_CONSUMER : Addr) (w_ASYNC_MESSAGE_PROCESSOR : Addr) (w_MESSAGE_PROCESSOR : Addr) (W : OwW Z w_PRODUCER w_NOTHING w_PAYLOAD w_PROCESSOR w_MESSAGE_STREAM w_MESSAGE w_PAYLOAD_STREAM w_CONSUMER w_ASYNC_PROCESSOR w_MESSAGE_CONSUMER w_ASYNC_MESSAGE_PROCESSOR w_MESSAGE_PROCESSOR)  :
    OwCon l (⟨"com/example/aizu/aizu/channels/ChannelMethod$Shape", "reads", "()Z"⟩ : MethodName) prog_6_method_7_code 1 (some .boolean) ws ({ frames := 0, cells := 0, slots := 0, locals := 0 } : Room) #[(.ref w_ASYNC_MESSAGE_PROCESSOR)] Z h0 (OwQ (some (.int (1 : Int32))) h0 n0) := by
  refine MetFree.of_bodySF (plainFor_of_name owpn2) hisR ?_
  intro p e s m args below meth c s₁ Bd hml0 hP hK
  obtain ⟨rfl, hZ, hh⟩ := hP
  have hx := Bd.exec
  have hby := Bd.bytes
  have hml : c.maxLocals = 1 := hml0
  have hown : s.vm.findClass "com/example/aizu/aizu/channels/ChannelMethod$Shape" = some m.cls := findClass_of_methodNamed Bd.named
  have hnm := (name_of_methodNamed Bd.named Bd.method).1
  have X0 : Stand p l e ({ frames := 0, cells := 0, slots := 0, locals := 0 } : Room) s m #[(.ref w_ASYNC_MESSAGE_PROCESSOR)] below meth c s₁ [] 0 0 := Stand.of_body Bd
  have e0 : s₁.heap = h0 := by rw [← hh, Bd.state]; rfl
  have N0 := Fr.nil n0
  have WW := W
  obtain ⟨E_w_PRODUCER, E_w_NOTHING, E_w_PAYLOAD, E_w_PROCESSOR, E_w_MESSAGE_STREAM, E_w_MESSAGE, E_w_PAYLOAD_STREAM, E_w_CONSUMER, E_w_ASYNC_PROCESSOR, E_w_MESSAGE_CONSUMER, E_w_ASYNC_MESSAGE_PROCESSOR, E_w_MESSAGE_PROCESSOR, S_ChannelMethod_Shape_PRODUCER, S_ChannelMethod_Kind_NOTHING, F_w_PRODUCER_takes, S_ChannelMethod_Kind_PAYLOAD, F_w_PRODUCER_gives, F_w_PAYLOAD_ordinal, F_w_NOTHING_ordinal, S_ChannelMethod_Shape_PROCESSOR, F_w_PROCESSOR_takes, S_ChannelMethod_Shape_MESSAGE_STREAM, F_w_MESSAGE_STREAM_takes, S_ChannelMethod_Kind_MESSAGE, F_w_MESSAGE_STREAM_gives, F_w_MESSAGE_ordinal, S_ChannelMethod_Shape_PAYLOAD_STREAM, F_w_PAYLOAD_STREAM_takes, F_w_PAYLOAD_STREAM_gives, S_ChannelMethod_Shape_CONSUMER, F_w_CONSUMER_takes, S_ChannelMethod_Shape_ASYNC_PROCESSOR, F_w_ASYNC_PROCESSOR_takes, S_ChannelMethod_Shape_MESSAGE_CONSUMER, F_w_MESSAGE_CONSUMER_takes, S_ChannelMethod_Shape_ASYNC_MESSAGE_PROCESSOR, F_w_ASYNC_MESSAGE_PROCESSOR_takes, S_ChannelMethod_Shape_MESSAGE_PROCESSOR, F_w_MESSAGE_PROCESSOR_takes, F_w_PROCESSOR_gives, F_w_CONSUMER_gives, F_w_ASYNC_PROCESSOR_gives, F_w_MESSAGE_CONSUMER_gives, F_w_ASYNC_MESSAGE_PROCESSOR_gives, F_w_MESSAGE_PROCESSOR_gives, ne_w_PAYLOAD_w_NOTHING, ne_w_MESSAGE_w_NOTHING, -⟩ := WW
  have ef : entryFrame m #[(.ref w_ASYNC_MESSAGE_PROCESSOR)] 1 = mkF m 0 #[.val (.ref w_ASYNC_MESSAGE_PROCESSOR)] [] := by first | rfl | (simp [entryFrame, mkF, argsToLocals, Value.category]; done)
  have pre0 : ∀ t, Steps p.tables e below (s₁.setTop (mkF m 0 #[.val (.ref w_ASYNC_MESSAGE_PROCESSOR)] [])) t → Steps p.tables e below (s₁.setTop (entryFrame m #[(.ref w_ASYNC_MESSAGE_PROCESSOR)] 1)) t := fun t k => castTop ef k
  obtain ⟨T1, X1, e1, st1⟩ := getF X0 hx hZ hown (host := "") (Or.inl (hw _ (List.mem_of_getElem? (i := 13) rfl))) Via.refl e0 (F_w_ASYNC_MESSAGE_PROCESSOR_takes.ext O.2) (g := (mkF m 1 #[.val (.ref w_ASYNC_MESSAGE_PROCESSOR)] [(.ref w_ASYNC_MESSAGE_PROCESSOR)])) rfl rfl (hb hby d2_1)
  obtain ⟨T2, X2, e2, st2⟩ := getS2 X1 hx hZ hown (host := "") (Or.inl (hw _ (List.mem_of_getElem? (i := 17) rfl))) Via.refl e1 (S_ChannelMethod_Kind_NOTHING.ext O.2) (g := (mkF m 4 #[.val (.ref w_ASYNC_MESSAGE_PROCESSOR)] [(.ref w_MESSAGE)])) rfl (hb hby d2_4)
  obtain ⟨fs, hr, hrun, hended, hW, hsame⟩ := X2.leave (v := some (.int (1 : Int32))) (fun h => by rw [Bd.returns] at h; cases h)
  refine ⟨_, _, pre0 _ ?_, hrun, hended, _, _, rfl, ?_, ⟨_, rfl⟩, hW, hsame.mono (by decide) (by decide)⟩
  · show Steps p.tables e below (s₁.setTop (mkF m 0 #[.val (.ref w_ASYNC_MESSAGE_PROCESSOR)] [])) _
    refine XS.aloadN X0.here hx rfl (hb hby d2_0) rfl rfl ?_
    show Steps p.tables e below (s₁.setTop (mkF m 1 #[.val (.ref w_ASYNC_MESSAGE_PROCESSOR)] [(.ref w_ASYNC_MESSAGE_PROCESSOR)])) _
    refine st1 _ ?_
    show Steps p.tables e below (T1.setTop (mkF m 4 #[.val (.ref w_ASYNC_MESSAGE_PROCESSOR)] [(.ref w_MESSAGE)])) _
    refine st2 _ ?_
    show Steps p.tables e below (T2.setTop (mkF m 7 #[.val (.ref w_ASYNC_MESSAGE_PROCESSOR)] [(.ref w_NOTHING), (.ref w_MESSAGE)])) _
    refine Jvm.RoadKit.acmp (g := (mkF m 7 #[.val (.ref w_ASYNC_MESSAGE_PROCESSOR)] [(.ref w_NOTHING), (.ref w_MESSAGE)])) X2 hx rfl rfl rfl (pc0 := 7) (pc' := 10) (same := false) rfl (hb hby d2_7) rfl (decide_eq_false fun q => ne_w_MESSAGE_w_NOTHING (Value.ref.inj q)) (by decide) (by decide) ?_
    show Steps p.tables e below (T2.setTop (mkF m 10 #[.val (.ref w_ASYNC_MESSAGE_PROCESSOR)] [])) _
    refine XS.iconst X2.here hx rfl (hb hby d2_10) ?_
    show Steps p.tables e below (T2.setTop (mkF m 11 #[.val (.ref w_ASYNC_MESSAGE_PROCESSOR)] [(.int (1 : Int32))])) _
    refine XS.goto X2.here hx rfl (pc0 := 11) (pc' := 15) rfl (hb hby d2_11) (by decide) (by decide) ?_
    show Steps p.tables e below (T2.setTop (mkF m 15 #[.val (.ref w_ASYNC_MESSAGE_PROCESSOR)] [(.int (1 : Int32))])) _
    exact retN X2 hx (t := .boolean) Bd.returns (by simp) (hb hby d2_15) hr
  · exact ⟨rfl, N0, e2⟩
set_option maxRecDepth 65536 in
set_option maxHeartbeats 40000000 in
theorem rm3_6 (l : Launch) (Z : State) (a0 : Array Value) (hw : ∀ d ∈ tables_1, d.before a0 Z = true) (ws : List Jvm.Cond) (n0 : Nat) (h0 : Heap) (O : Old Z n0 h0) (w_PRODUCER : Addr) (w_NOTHING : Addr) (w_PAYLOAD : Addr) (w_PROCESSOR : Addr) (w_MESSAGE_STREAM : Addr) (w_MESSAGE : Addr) (w_PAYLOAD_STREAM : Addr) (w_CONSUMER : Addr) (w_ASYNC_PROCESSOR : Addr) (w_MESSAGE_CONSUMER : Addr) (w_ASYNC_MESSAGE_PROCESSOR : Addr) (w_MESSAGE_PROCESSOR : Addr) (W : OwW Z w_PRODUCER w_NOTHING w_PAYLOAD w_PROCESSOR w_MESSAGE_STREAM w_MESSAGE w_PAYLOAD_STREAM w_CONSUMER w_ASYNC_PROCESSOR w_MESSAGE_CONSUMER w_ASYNC_MESSAGE_PROCESSOR w_MESSAGE_PROCESSOR)  :
    OwCon l (⟨"com/example/aizu/aizu/channels/ChannelMethod$Shape", "takes", "()Lcom/example/aizu/aizu/channels/ChannelMethod$Kind;"⟩ : MethodName) prog_6_method_4_code 1 (some (.object "com/example/aizu/aizu/channels/ChannelMethod$Kind")) ws ({ frames := 0, cells := 0, slots := 0, locals := 0 } : Room) #[(.ref w_ASYNC_MESSAGE_PROCESSOR)] Z h0 (OwQ (some (.ref w_MESSAGE)) h0 n0) := by
  refine MetFree.of_bodySF (plainFor_of_name owpn3) hisR ?_
  intro p e s m args below meth c s₁ Bd hml0 hP hK
  obtain ⟨rfl, hZ, hh⟩ := hP
  have hx := Bd.exec
  have hby := Bd.bytes
  have hml : c.maxLocals = 1 := hml0
  have hown : s.vm.findClass "com/example/aizu/aizu/channels/ChannelMethod$Shape" = some m.cls := findClass_of_methodNamed Bd.named
  have hnm := (name_of_methodNamed Bd.named Bd.method).1
  have X0 : Stand p l e ({ frames := 0, cells := 0, slots := 0, locals := 0 } : Room) s m #[(.ref w_ASYNC_MESSAGE_PROCESSOR)] below meth c s₁ [] 0 0 := Stand.of_body Bd
  have e0 : s₁.heap = h0 := by rw [← hh, Bd.state]; rfl
  have N0 := Fr.nil n0
  have WW := W
  obtain ⟨E_w_PRODUCER, E_w_NOTHING, E_w_PAYLOAD, E_w_PROCESSOR, E_w_MESSAGE_STREAM, E_w_MESSAGE, E_w_PAYLOAD_STREAM, E_w_CONSUMER, E_w_ASYNC_PROCESSOR, E_w_MESSAGE_CONSUMER, E_w_ASYNC_MESSAGE_PROCESSOR, E_w_MESSAGE_PROCESSOR, S_ChannelMethod_Shape_PRODUCER, S_ChannelMethod_Kind_NOTHING, F_w_PRODUCER_takes, S_ChannelMethod_Kind_PAYLOAD, F_w_PRODUCER_gives, F_w_PAYLOAD_ordinal, F_w_NOTHING_ordinal, S_ChannelMethod_Shape_PROCESSOR, F_w_PROCESSOR_takes, S_ChannelMethod_Shape_MESSAGE_STREAM, F_w_MESSAGE_STREAM_takes, S_ChannelMethod_Kind_MESSAGE, F_w_MESSAGE_STREAM_gives, F_w_MESSAGE_ordinal, S_ChannelMethod_Shape_PAYLOAD_STREAM, F_w_PAYLOAD_STREAM_takes, F_w_PAYLOAD_STREAM_gives, S_ChannelMethod_Shape_CONSUMER, F_w_CONSUMER_takes, S_ChannelMethod_Shape_ASYNC_PROCESSOR, F_w_ASYNC_PROCESSOR_takes, S_ChannelMethod_Shape_MESSAGE_CONSUMER, F_w_MESSAGE_CONSUMER_takes, S_ChannelMethod_Shape_ASYNC_MESSAGE_PROCESSOR, F_w_ASYNC_MESSAGE_PROCESSOR_takes, S_ChannelMethod_Shape_MESSAGE_PROCESSOR, F_w_MESSAGE_PROCESSOR_takes, F_w_PROCESSOR_gives, F_w_CONSUMER_gives, F_w_ASYNC_PROCESSOR_gives, F_w_MESSAGE_CONSUMER_gives, F_w_ASYNC_MESSAGE_PROCESSOR_gives, F_w_MESSAGE_PROCESSOR_gives, ne_w_PAYLOAD_w_NOTHING, ne_w_MESSAGE_w_NOTHING, -⟩ := WW
  have ef : entryFrame m #[(.ref w_ASYNC_MESSAGE_PROCESSOR)] 1 = mkF m 0 #[.val (.ref w_ASYNC_MESSAGE_PROCESSOR)] [] := by first | rfl | (simp [entryFrame, mkF, argsToLocals, Value.category]; done)
  have pre0 : ∀ t, Steps p.tables e below (s₁.setTop (mkF m 0 #[.val (.ref w_ASYNC_MESSAGE_PROCESSOR)] [])) t → Steps p.tables e below (s₁.setTop (entryFrame m #[(.ref w_ASYNC_MESSAGE_PROCESSOR)] 1)) t := fun t k => castTop ef k
  obtain ⟨T1, X1, e1, st1⟩ := getF X0 hx hZ hown (host := "") (Or.inl (hw _ (List.mem_of_getElem? (i := 13) rfl))) Via.refl e0 (F_w_ASYNC_MESSAGE_PROCESSOR_takes.ext O.2) (g := (mkF m 1 #[.val (.ref w_ASYNC_MESSAGE_PROCESSOR)] [(.ref w_ASYNC_MESSAGE_PROCESSOR)])) rfl rfl (hb hby d3_1)
  obtain ⟨fs, hr, hrun, hended, hW, hsame⟩ := X1.leave (v := some (.ref w_MESSAGE)) (fun h => by rw [Bd.returns] at h; cases h)
  refine ⟨_, _, pre0 _ ?_, hrun, hended, _, _, rfl, ?_, ⟨_, rfl⟩, hW, hsame.mono (by decide) (by decide)⟩
  · show Steps p.tables e below (s₁.setTop (mkF m 0 #[.val (.ref w_ASYNC_MESSAGE_PROCESSOR)] [])) _
    refine XS.aloadN X0.here hx rfl (hb hby d3_0) rfl rfl ?_
    show Steps p.tables e below (s₁.setTop (mkF m 1 #[.val (.ref w_ASYNC_MESSAGE_PROCESSOR)] [(.ref w_ASYNC_MESSAGE_PROCESSOR)])) _
    refine st1 _ ?_
    show Steps p.tables e below (T1.setTop (mkF m 4 #[.val (.ref w_ASYNC_MESSAGE_PROCESSOR)] [(.ref w_MESSAGE)])) _
    exact retOut X1 hx Bd.returns rfl (Or.inr (Or.inr (Or.inr (Or.inr ⟨rfl, rfl, rfl⟩)))) (hb hby d3_4) hr
  · exact ⟨rfl, N0, e1⟩
set_option maxRecDepth 65536 in
set_option maxHeartbeats 40000000 in
theorem rm0_6 (l : Launch) (Z : State) (a0 : Array Value) (hw : ∀ d ∈ tables_1, d.before a0 Z = true) (ws : List Jvm.Cond) (n0 : Nat) (h0 : Heap) (O : Old Z n0 h0) (w_PRODUCER : Addr) (w_NOTHING : Addr) (w_PAYLOAD : Addr) (w_PROCESSOR : Addr) (w_MESSAGE_STREAM : Addr) (w_MESSAGE : Addr) (w_PAYLOAD_STREAM : Addr) (w_CONSUMER : Addr) (w_ASYNC_PROCESSOR : Addr) (w_MESSAGE_CONSUMER : Addr) (w_ASYNC_MESSAGE_PROCESSOR : Addr) (w_MESSAGE_PROCESSOR : Addr) (W : OwW Z w_PRODUCER w_NOTHING w_PAYLOAD w_PROCESSOR w_MESSAGE_STREAM w_MESSAGE w_PAYLOAD_STREAM w_CONSUMER w_ASYNC_PROCESSOR w_MESSAGE_CONSUMER w_ASYNC_MESSAGE_PROCESSOR w_MESSAGE_PROCESSOR) (p0 : Int32) (hi : (p0 &&& (2147483647 : Int32)) % (9 : Int32) = (6 : Int32)) :
    OwCon l x code maxLocals ret ws room_1 #[(.int p0)] Z h0 (OwP (fun v _ => v = some (.int 1)) n0) := by
  refine MetFree.of_bodySF (plainFor_of_name owpn0) hisR ?_
  intro p e s m args below meth c s₁ Bd hml0 hP hK
  obtain ⟨rfl, hZ, hh⟩ := hP
  have hx := Bd.exec
  have hby := Bd.bytes
  have hml : c.maxLocals = 7 := hml0
  have hown : s.vm.findClass "com/example/aizu/aizu/channels/ShapeReadsPinLaw" = some m.cls := findClass_of_methodNamed Bd.named
  have hnm := (name_of_methodNamed Bd.named Bd.method).1
  have X0 : Stand p l e room_1 s m #[(.int p0)] below meth c s₁ [] 0 0 := Stand.of_body Bd
  have e0 : s₁.heap = h0 := by rw [← hh, Bd.state]; rfl
  have N0 := Fr.nil n0
  have WW := W
  obtain ⟨E_w_PRODUCER, E_w_NOTHING, E_w_PAYLOAD, E_w_PROCESSOR, E_w_MESSAGE_STREAM, E_w_MESSAGE, E_w_PAYLOAD_STREAM, E_w_CONSUMER, E_w_ASYNC_PROCESSOR, E_w_MESSAGE_CONSUMER, E_w_ASYNC_MESSAGE_PROCESSOR, E_w_MESSAGE_PROCESSOR, S_ChannelMethod_Shape_PRODUCER, S_ChannelMethod_Kind_NOTHING, F_w_PRODUCER_takes, S_ChannelMethod_Kind_PAYLOAD, F_w_PRODUCER_gives, F_w_PAYLOAD_ordinal, F_w_NOTHING_ordinal, S_ChannelMethod_Shape_PROCESSOR, F_w_PROCESSOR_takes, S_ChannelMethod_Shape_MESSAGE_STREAM, F_w_MESSAGE_STREAM_takes, S_ChannelMethod_Kind_MESSAGE, F_w_MESSAGE_STREAM_gives, F_w_MESSAGE_ordinal, S_ChannelMethod_Shape_PAYLOAD_STREAM, F_w_PAYLOAD_STREAM_takes, F_w_PAYLOAD_STREAM_gives, S_ChannelMethod_Shape_CONSUMER, F_w_CONSUMER_takes, S_ChannelMethod_Shape_ASYNC_PROCESSOR, F_w_ASYNC_PROCESSOR_takes, S_ChannelMethod_Shape_MESSAGE_CONSUMER, F_w_MESSAGE_CONSUMER_takes, S_ChannelMethod_Shape_ASYNC_MESSAGE_PROCESSOR, F_w_ASYNC_MESSAGE_PROCESSOR_takes, S_ChannelMethod_Shape_MESSAGE_PROCESSOR, F_w_MESSAGE_PROCESSOR_takes, F_w_PROCESSOR_gives, F_w_CONSUMER_gives, F_w_ASYNC_PROCESSOR_gives, F_w_MESSAGE_CONSUMER_gives, F_w_ASYNC_MESSAGE_PROCESSOR_gives, F_w_MESSAGE_PROCESSOR_gives, ne_w_PAYLOAD_w_NOTHING, ne_w_MESSAGE_w_NOTHING, -⟩ := WW
  have ef : entryFrame m #[(.int p0)] maxLocals = mkF m 0 #[.val (.int p0), .unset, .unset, .unset, .unset, .unset, .unset] [] := by first | rfl | (simp [entryFrame, mkF, argsToLocals, Value.category, maxLocals]; done)
  have pre0 : ∀ t, Steps p.tables e below (s₁.setTop (mkF m 0 #[.val (.int p0), .unset, .unset, .unset, .unset, .unset, .unset] [])) t → Steps p.tables e below (s₁.setTop (entryFrame m #[(.int p0)] maxLocals)) t := fun t k => castTop ef k
  obtain ⟨_, _, ⟨T1, L1, k1, n1⟩, -, X1, ⟨Lc1, hQ1, l1, y1, z1⟩, st1⟩ := Jvm.LawKit.callS X0 hx (y := (⟨"com/example/aizu/aizu/channels/ShapeReadsPinLaw", "shapeAt", "(I)Lcom/example/aizu/aizu/channels/ChannelMethod$Shape;"⟩ : MethodName)) hown (mvT hZ (hw _ (List.mem_of_getElem? (i := 1) rfl))) (mvT hZ (hw _ (List.mem_of_getElem? (i := 2) rfl))) (mvT hZ (hw _ (List.mem_of_getElem? (i := 3) rfl))) (mvT hZ (hw _ (List.mem_of_getElem? (i := 4) rfl))) (by decide) (backOf (W := 0) (rm1_6 l Z a0 hw [] n0 h0 O w_PRODUCER w_NOTHING w_PAYLOAD w_PROCESSOR w_MESSAGE_STREAM w_MESSAGE w_PAYLOAD_STREAM w_CONSUMER w_ASYNC_PROCESSOR w_MESSAGE_CONSUMER w_ASYNC_MESSAGE_PROCESSOR w_MESSAGE_PROCESSOR W  ) hZ (hw _ (List.mem_of_getElem? (i := 4) rfl)) (hw _ (List.mem_of_getElem? (i := 3) rfl)) (by decide) (by decide)) (g := (mkF m 9 #[.val (.int p0), .val (.int (6 : Int32)), .unset, .unset, .unset, .unset, .unset] [(.int (6 : Int32))])) rfl (by rw [hml]; rfl) (argsL := [(.int (6 : Int32))]) (rest := []) (lenOf owpd0 rfl) rfl (by show 2 * 0 + _ ≤ _; exact Nat.le_of_eq rfl) (hb hby at_9) (fun _ _ => ⟨rfl, e0, (by decide : 0 + 0 ≤ _), (by decide : 0 + 0 ≤ _)⟩)
  dsimp only [Pt.U, Pt.locs, Pt.cells, Pt.slots] at X1 l1 y1 z1 st1 hQ1
  subst l1 y1 z1
  obtain ⟨rfl, Nq1, e1⟩ := hQ1
  have N1 := Fr.app N0 Nq1
  obtain ⟨cq2, kq2, q2a, q2b, q2c⟩ := isOf hZ e1 (E_w_ASYNC_MESSAGE_PROCESSOR.ext O.2)
  obtain ⟨_, _, ⟨T2, L2, k2, n2⟩, -, X2, ⟨Lc2, hQ2, l2, y2, z2⟩, st2⟩ := X1.virtualBack hx (y := (⟨"com/example/aizu/aizu/channels/ChannelMethod$Shape", "reads", "()Z"⟩ : MethodName)) (z := (⟨"com/example/aizu/aizu/channels/ChannelMethod$Shape", "reads", "()Z"⟩ : MethodName)) hown (mvT hZ (hw _ (List.mem_of_getElem? (i := 8) rfl))) (mvT hZ (hw _ (List.mem_of_getElem? (i := 9) rfl))) (notFace_of_selects (args := #[]) (mvT hZ (hw _ (List.mem_of_getElem? (i := 11) rfl)))) (mvT hZ (hw _ (List.mem_of_getElem? (i := 11) rfl))) (mvT hZ (hw _ (List.mem_of_getElem? (i := 10) rfl))) (by decide) (backOf (W := 0) (rm2_6 l Z a0 hw [] n0 h0 O w_PRODUCER w_NOTHING w_PAYLOAD w_PROCESSOR w_MESSAGE_STREAM w_MESSAGE w_PAYLOAD_STREAM w_CONSUMER w_ASYNC_PROCESSOR w_MESSAGE_CONSUMER w_ASYNC_MESSAGE_PROCESSOR w_MESSAGE_PROCESSOR W  ) hZ (hw _ (List.mem_of_getElem? (i := 12) rfl)) (hw _ (List.mem_of_getElem? (i := 6) rfl)) (by decide) (by decide)) q2a q2c (g := (mkF m 25 #[.val (.int p0), .val (.int (6 : Int32)), .val (.ref w_ASYNC_MESSAGE_PROCESSOR), .val (.int (1 : Int32)), .unset, .unset, .unset] [(.ref w_ASYNC_MESSAGE_PROCESSOR)])) rfl (by rw [hml]; rfl) (Steps.refl _) (argsL := []) (rest := []) (lenOf owpd1 rfl) rfl (by show 2 * 0 + _ ≤ _; exact Nat.le_of_eq rfl) (hb hby at_25) (fun _ _ => ⟨rfl, e1, (by decide : 0 + 0 ≤ _), (by decide : 0 + 0 ≤ _)⟩)
  dsimp only [Pt.U, Pt.locs, Pt.cells, Pt.slots] at X2 l2 y2 z2 st2 hQ2
  subst l2 y2 z2
  obtain ⟨rfl, Nq2, e2⟩ := hQ2
  have N2 := Fr.app N1 Nq2
  obtain ⟨cq3, kq3, q3a, q3b, q3c⟩ := isOf hZ e2 (E_w_ASYNC_MESSAGE_PROCESSOR.ext O.2)
  obtain ⟨_, _, ⟨T3, L3, k3, n3⟩, -, X3, ⟨Lc3, hQ3, l3, y3, z3⟩, st3⟩ := X2.virtualBack hx (y := (⟨"com/example/aizu/aizu/channels/ChannelMethod$Shape", "takes", "()Lcom/example/aizu/aizu/channels/ChannelMethod$Kind;"⟩ : MethodName)) (z := (⟨"com/example/aizu/aizu/channels/ChannelMethod$Shape", "takes", "()Lcom/example/aizu/aizu/channels/ChannelMethod$Kind;"⟩ : MethodName)) hown (mvT hZ (hw _ (List.mem_of_getElem? (i := 18) rfl))) (mvT hZ (hw _ (List.mem_of_getElem? (i := 19) rfl))) (notFace_of_selects (args := #[]) (mvT hZ (hw _ (List.mem_of_getElem? (i := 21) rfl)))) (mvT hZ (hw _ (List.mem_of_getElem? (i := 21) rfl))) (mvT hZ (hw _ (List.mem_of_getElem? (i := 20) rfl))) (by decide) (backOf (W := 1) (rm3_6 l Z a0 hw [] n0 h0 O w_PRODUCER w_NOTHING w_PAYLOAD w_PROCESSOR w_MESSAGE_STREAM w_MESSAGE w_PAYLOAD_STREAM w_CONSUMER w_ASYNC_PROCESSOR w_MESSAGE_CONSUMER w_ASYNC_MESSAGE_PROCESSOR w_MESSAGE_PROCESSOR W  ) hZ (hw _ (List.mem_of_getElem? (i := 22) rfl)) (hw _ (List.mem_of_getElem? (i := 6) rfl)) (by decide) (by decide)) q3a q3c (g := (mkF m 33 #[.val (.int p0), .val (.int (6 : Int32)), .val (.ref w_ASYNC_MESSAGE_PROCESSOR), .val (.int (1 : Int32)), .val (.int (1 : Int32)), .unset, .unset] [(.ref w_ASYNC_MESSAGE_PROCESSOR), (.int (1 : Int32))])) rfl (by rw [hml]; rfl) (Steps.refl _) (argsL := []) (rest := [(.int (1 : Int32))]) (lenOf owpd2 rfl) rfl (by show 2 * 0 + _ ≤ _; exact Nat.le_of_eq rfl) (hb hby at_33) (fun _ _ => ⟨rfl, e2, (by decide : 0 + 0 ≤ _), (by decide : 0 + 0 ≤ _)⟩)
  dsimp only [Pt.U, Pt.locs, Pt.cells, Pt.slots] at X3 l3 y3 z3 st3 hQ3
  subst l3 y3 z3
  obtain ⟨rfl, Nq3, e3⟩ := hQ3
  have N3 := Fr.app N2 Nq3
  obtain ⟨T4, X4, e4, st4⟩ := getS2 X3 hx hZ hown (host := "") (Or.inl (hw _ (List.mem_of_getElem? (i := 23) rfl))) Via.refl e3 (S_ChannelMethod_Kind_NOTHING.ext O.2) (g := (mkF m 36 #[.val (.int p0), .val (.int (6 : Int32)), .val (.ref w_ASYNC_MESSAGE_PROCESSOR), .val (.int (1 : Int32)), .val (.int (1 : Int32)), .unset, .unset] [(.ref w_MESSAGE), (.int (1 : Int32))])) rfl (hb hby at_36)
  obtain ⟨fs, hr, hrun, hended, hW, hsame⟩ := X4.leave (v := some (.int (1 : Int32))) (fun h => by rw [Bd.returns] at h; cases h)
  refine ⟨_, _, pre0 _ ?_, hrun, hended, _, _, rfl, ?_, ⟨_, rfl⟩, hW, hsame.mono (by decide) (by decide)⟩
  · show Steps p.tables e below (s₁.setTop (mkF m 0 #[.val (.int p0), .unset, .unset, .unset, .unset, .unset, .unset] [])) _
    refine XS.iloadN X0.here hx rfl (hb hby at_0) rfl ?_
    show Steps p.tables e below (s₁.setTop (mkF m 1 #[.val (.int p0), .unset, .unset, .unset, .unset, .unset, .unset] [(.int p0)])) _
    refine X0.ldcInt hx hown (mvT hZ (hw _ (List.mem_of_getElem? (i := 0) rfl))) (g := (mkF m 1 #[.val (.int p0), .unset, .unset, .unset, .unset, .unset, .unset] [(.int p0)])) rfl (hb hby at_1) _ ?_
    show Steps p.tables e below (s₁.setTop (mkF m 3 #[.val (.int p0), .unset, .unset, .unset, .unset, .unset, .unset] [(.int (2147483647 : Int32)), (.int p0)])) _
    refine XS.iand X0.here hx rfl (hb hby at_3) rfl ?_
    show Steps p.tables e below (s₁.setTop (mkF m 4 #[.val (.int p0), .unset, .unset, .unset, .unset, .unset, .unset] [(.int (p0 &&& (2147483647 : Int32)))])) _
    refine XS.bipush X0.here hx rfl (hb hby at_4) ?_
    show Steps p.tables e below (s₁.setTop (mkF m 6 #[.val (.int p0), .unset, .unset, .unset, .unset, .unset, .unset] [(.int (9 : Int32)), (.int (p0 &&& (2147483647 : Int32)))])) _
    refine iremM X0 hx rfl (hb hby at_6) rfl (by decide) ?_
    show Steps p.tables e below (s₁.setTop (mkF m 7 #[.val (.int p0), .unset, .unset, .unset, .unset, .unset, .unset] [(.int ((p0 &&& (2147483647 : Int32)) % (9 : Int32)))])) _
    rw [hi]
    show Steps p.tables e below (s₁.setTop (mkF m 7 #[.val (.int p0), .unset, .unset, .unset, .unset, .unset, .unset] [(.int (6 : Int32))])) _
    refine XS.istoreN X0.here hx rfl (hb hby at_7) rfl (l' := #[.val (.int p0), .val (.int (6 : Int32)), .unset, .unset, .unset, .unset, .unset]) rfl ?_
    show Steps p.tables e below (s₁.setTop (mkF m 8 #[.val (.int p0), .val (.int (6 : Int32)), .unset, .unset, .unset, .unset, .unset] [])) _
    refine XS.iloadN X0.here hx rfl (hb hby at_8) rfl ?_
    show Steps p.tables e below (s₁.setTop (mkF m 9 #[.val (.int p0), .val (.int (6 : Int32)), .unset, .unset, .unset, .unset, .unset] [(.int (6 : Int32))])) _
    refine st1 _ ?_
    show Steps p.tables e below (T1.setTop (mkF m 12 #[.val (.int p0), .val (.int (6 : Int32)), .unset, .unset, .unset, .unset, .unset] [(.ref w_ASYNC_MESSAGE_PROCESSOR)])) _
    refine XS.astoreN X1.here hx rfl (hb hby at_12) rfl rfl (l' := #[.val (.int p0), .val (.int (6 : Int32)), .val (.ref w_ASYNC_MESSAGE_PROCESSOR), .unset, .unset, .unset, .unset]) rfl ?_
    show Steps p.tables e below (T1.setTop (mkF m 13 #[.val (.int p0), .val (.int (6 : Int32)), .val (.ref w_ASYNC_MESSAGE_PROCESSOR), .unset, .unset, .unset, .unset] [])) _
    refine XS.iloadN X1.here hx rfl (hb hby at_13) rfl ?_
    show Steps p.tables e below (T1.setTop (mkF m 14 #[.val (.int p0), .val (.int (6 : Int32)), .val (.ref w_ASYNC_MESSAGE_PROCESSOR), .unset, .unset, .unset, .unset] [(.int (6 : Int32))])) _
    refine XS.iconst X1.here hx rfl (hb hby at_14) ?_
    show Steps p.tables e below (T1.setTop (mkF m 15 #[.val (.int p0), .val (.int (6 : Int32)), .val (.ref w_ASYNC_MESSAGE_PROCESSOR), .unset, .unset, .unset, .unset] [(.int (3 : Int32)), (.int (6 : Int32))])) _
    refine XS.icmpNo X1.here hx rfl (hb hby at_15) rfl (flt (by decide : ¬ ((6 : Int32) < (3 : Int32)))).1 ?_
    show Steps p.tables e below (T1.setTop (mkF m 18 #[.val (.int p0), .val (.int (6 : Int32)), .val (.ref w_ASYNC_MESSAGE_PROCESSOR), .unset, .unset, .unset, .unset] [])) _
    refine XS.iconst X1.here hx rfl (hb hby at_18) ?_
    show Steps p.tables e below (T1.setTop (mkF m 19 #[.val (.int p0), .val (.int (6 : Int32)), .val (.ref w_ASYNC_MESSAGE_PROCESSOR), .unset, .unset, .unset, .unset] [(.int (1 : Int32))])) _
    refine XS.goto X1.here hx rfl (pc0 := 19) (pc' := 23) rfl (hb hby at_19) (by decide) (by decide) ?_
    show Steps p.tables e below (T1.setTop (mkF m 23 #[.val (.int p0), .val (.int (6 : Int32)), .val (.ref w_ASYNC_MESSAGE_PROCESSOR), .unset, .unset, .unset, .unset] [(.int (1 : Int32))])) _
    refine XS.istoreN X1.here hx rfl (hb hby at_23) rfl (l' := #[.val (.int p0), .val (.int (6 : Int32)), .val (.ref w_ASYNC_MESSAGE_PROCESSOR), .val (.int (1 : Int32)), .unset, .unset, .unset]) rfl ?_
    show Steps p.tables e below (T1.setTop (mkF m 24 #[.val (.int p0), .val (.int (6 : Int32)), .val (.ref w_ASYNC_MESSAGE_PROCESSOR), .val (.int (1 : Int32)), .unset, .unset, .unset] [])) _
    refine XS.aloadN X1.here hx rfl (hb hby at_24) rfl rfl ?_
    show Steps p.tables e below (T1.setTop (mkF m 25 #[.val (.int p0), .val (.int (6 : Int32)), .val (.ref w_ASYNC_MESSAGE_PROCESSOR), .val (.int (1 : Int32)), .unset, .unset, .unset] [(.ref w_ASYNC_MESSAGE_PROCESSOR)])) _
    refine st2.trans ?_
    show Steps p.tables e below (T2.setTop (mkF m 28 #[.val (.int p0), .val (.int (6 : Int32)), .val (.ref w_ASYNC_MESSAGE_PROCESSOR), .val (.int (1 : Int32)), .unset, .unset, .unset] [(.int (1 : Int32))])) _
    refine XS.istore X2.here hx rfl (hb hby at_28) rfl (l' := #[.val (.int p0), .val (.int (6 : Int32)), .val (.ref w_ASYNC_MESSAGE_PROCESSOR), .val (.int (1 : Int32)), .val (.int (1 : Int32)), .unset, .unset]) rfl ?_
    show Steps p.tables e below (T2.setTop (mkF m 30 #[.val (.int p0), .val (.int (6 : Int32)), .val (.ref w_ASYNC_MESSAGE_PROCESSOR), .val (.int (1 : Int32)), .val (.int (1 : Int32)), .unset, .unset] [])) _
    refine XS.iload X2.here hx rfl (hb hby at_30) rfl ?_
    show Steps p.tables e below (T2.setTop (mkF m 32 #[.val (.int p0), .val (.int (6 : Int32)), .val (.ref w_ASYNC_MESSAGE_PROCESSOR), .val (.int (1 : Int32)), .val (.int (1 : Int32)), .unset, .unset] [(.int (1 : Int32))])) _
    refine XS.aloadN X2.here hx rfl (hb hby at_32) rfl rfl ?_
    show Steps p.tables e below (T2.setTop (mkF m 33 #[.val (.int p0), .val (.int (6 : Int32)), .val (.ref w_ASYNC_MESSAGE_PROCESSOR), .val (.int (1 : Int32)), .val (.int (1 : Int32)), .unset, .unset] [(.ref w_ASYNC_MESSAGE_PROCESSOR), (.int (1 : Int32))])) _
    refine st3.trans ?_
    show Steps p.tables e below (T3.setTop (mkF m 36 #[.val (.int p0), .val (.int (6 : Int32)), .val (.ref w_ASYNC_MESSAGE_PROCESSOR), .val (.int (1 : Int32)), .val (.int (1 : Int32)), .unset, .unset] [(.ref w_MESSAGE), (.int (1 : Int32))])) _
    refine st4 _ ?_
    show Steps p.tables e below (T4.setTop (mkF m 39 #[.val (.int p0), .val (.int (6 : Int32)), .val (.ref w_ASYNC_MESSAGE_PROCESSOR), .val (.int (1 : Int32)), .val (.int (1 : Int32)), .unset, .unset] [(.ref w_NOTHING), (.ref w_MESSAGE), (.int (1 : Int32))])) _
    refine Jvm.RoadKit.acmp (g := (mkF m 39 #[.val (.int p0), .val (.int (6 : Int32)), .val (.ref w_ASYNC_MESSAGE_PROCESSOR), .val (.int (1 : Int32)), .val (.int (1 : Int32)), .unset, .unset] [(.ref w_NOTHING), (.ref w_MESSAGE), (.int (1 : Int32))])) X4 hx rfl rfl rfl (pc0 := 39) (pc' := 42) (same := false) rfl (hb hby at_39) rfl (decide_eq_false fun q => ne_w_MESSAGE_w_NOTHING (Value.ref.inj q)) (by decide) (by decide) ?_
    show Steps p.tables e below (T4.setTop (mkF m 42 #[.val (.int p0), .val (.int (6 : Int32)), .val (.ref w_ASYNC_MESSAGE_PROCESSOR), .val (.int (1 : Int32)), .val (.int (1 : Int32)), .unset, .unset] [(.int (1 : Int32))])) _
    refine XS.iconst X4.here hx rfl (hb hby at_42) ?_
    show Steps p.tables e below (T4.setTop (mkF m 43 #[.val (.int p0), .val (.int (6 : Int32)), .val (.ref w_ASYNC_MESSAGE_PROCESSOR), .val (.int (1 : Int32)), .val (.int (1 : Int32)), .unset, .unset] [(.int (1 : Int32)), (.int (1 : Int32))])) _
    refine XS.goto X4.here hx rfl (pc0 := 43) (pc' := 47) rfl (hb hby at_43) (by decide) (by decide) ?_
    show Steps p.tables e below (T4.setTop (mkF m 47 #[.val (.int p0), .val (.int (6 : Int32)), .val (.ref w_ASYNC_MESSAGE_PROCESSOR), .val (.int (1 : Int32)), .val (.int (1 : Int32)), .unset, .unset] [(.int (1 : Int32)), (.int (1 : Int32))])) _
    refine XS.icmpNo X4.here hx rfl (hb hby at_47) rfl (teq (by decide : (1 : Int32) = (1 : Int32))).2 ?_
    show Steps p.tables e below (T4.setTop (mkF m 50 #[.val (.int p0), .val (.int (6 : Int32)), .val (.ref w_ASYNC_MESSAGE_PROCESSOR), .val (.int (1 : Int32)), .val (.int (1 : Int32)), .unset, .unset] [])) _
    refine XS.iconst X4.here hx rfl (hb hby at_50) ?_
    show Steps p.tables e below (T4.setTop (mkF m 51 #[.val (.int p0), .val (.int (6 : Int32)), .val (.ref w_ASYNC_MESSAGE_PROCESSOR), .val (.int (1 : Int32)), .val (.int (1 : Int32)), .unset, .unset] [(.int (1 : Int32))])) _
    refine XS.goto X4.here hx rfl (pc0 := 51) (pc' := 55) rfl (hb hby at_51) (by decide) (by decide) ?_
    show Steps p.tables e below (T4.setTop (mkF m 55 #[.val (.int p0), .val (.int (6 : Int32)), .val (.ref w_ASYNC_MESSAGE_PROCESSOR), .val (.int (1 : Int32)), .val (.int (1 : Int32)), .unset, .unset] [(.int (1 : Int32))])) _
    refine XS.istore X4.here hx rfl (hb hby at_55) rfl (l' := #[.val (.int p0), .val (.int (6 : Int32)), .val (.ref w_ASYNC_MESSAGE_PROCESSOR), .val (.int (1 : Int32)), .val (.int (1 : Int32)), .val (.int (1 : Int32)), .unset]) rfl ?_
    show Steps p.tables e below (T4.setTop (mkF m 57 #[.val (.int p0), .val (.int (6 : Int32)), .val (.ref w_ASYNC_MESSAGE_PROCESSOR), .val (.int (1 : Int32)), .val (.int (1 : Int32)), .val (.int (1 : Int32)), .unset] [])) _
    refine XS.iload X4.here hx rfl (hb hby at_57) rfl ?_
    show Steps p.tables e below (T4.setTop (mkF m 59 #[.val (.int p0), .val (.int (6 : Int32)), .val (.ref w_ASYNC_MESSAGE_PROCESSOR), .val (.int (1 : Int32)), .val (.int (1 : Int32)), .val (.int (1 : Int32)), .unset] [(.int (1 : Int32))])) _
    refine XS.ifYes X4.here hx rfl (pc0 := 59) (pc' := 69) rfl (hb hby at_59) rfl ((if0 _ _).trans (feq (by decide : ¬ ((1 : Int32) = (0 : Int32)))).2) (by decide) (by decide) ?_
    show Steps p.tables e below (T4.setTop (mkF m 69 #[.val (.int p0), .val (.int (6 : Int32)), .val (.ref w_ASYNC_MESSAGE_PROCESSOR), .val (.int (1 : Int32)), .val (.int (1 : Int32)), .val (.int (1 : Int32)), .unset] [])) _
    refine XS.iconst X4.here hx rfl (hb hby at_69) ?_
    show Steps p.tables e below (T4.setTop (mkF m 70 #[.val (.int p0), .val (.int (6 : Int32)), .val (.ref w_ASYNC_MESSAGE_PROCESSOR), .val (.int (1 : Int32)), .val (.int (1 : Int32)), .val (.int (1 : Int32)), .unset] [(.int (1 : Int32))])) _
    refine XS.goto X4.here hx rfl (pc0 := 70) (pc' := 74) rfl (hb hby at_70) (by decide) (by decide) ?_
    show Steps p.tables e below (T4.setTop (mkF m 74 #[.val (.int p0), .val (.int (6 : Int32)), .val (.ref w_ASYNC_MESSAGE_PROCESSOR), .val (.int (1 : Int32)), .val (.int (1 : Int32)), .val (.int (1 : Int32)), .unset] [(.int (1 : Int32))])) _
    refine XS.istore X4.here hx rfl (hb hby at_74) rfl (l' := #[.val (.int p0), .val (.int (6 : Int32)), .val (.ref w_ASYNC_MESSAGE_PROCESSOR), .val (.int (1 : Int32)), .val (.int (1 : Int32)), .val (.int (1 : Int32)), .val (.int (1 : Int32))]) rfl ?_
    show Steps p.tables e below (T4.setTop (mkF m 76 #[.val (.int p0), .val (.int (6 : Int32)), .val (.ref w_ASYNC_MESSAGE_PROCESSOR), .val (.int (1 : Int32)), .val (.int (1 : Int32)), .val (.int (1 : Int32)), .val (.int (1 : Int32))] [])) _
    refine XS.iload X4.here hx rfl (hb hby at_76) rfl ?_
    show Steps p.tables e below (T4.setTop (mkF m 78 #[.val (.int p0), .val (.int (6 : Int32)), .val (.ref w_ASYNC_MESSAGE_PROCESSOR), .val (.int (1 : Int32)), .val (.int (1 : Int32)), .val (.int (1 : Int32)), .val (.int (1 : Int32))] [(.int (1 : Int32))])) _
    refine XS.iloadN X4.here hx rfl (hb hby at_78) rfl ?_
    show Steps p.tables e below (T4.setTop (mkF m 79 #[.val (.int p0), .val (.int (6 : Int32)), .val (.ref w_ASYNC_MESSAGE_PROCESSOR), .val (.int (1 : Int32)), .val (.int (1 : Int32)), .val (.int (1 : Int32)), .val (.int (1 : Int32))] [(.int (1 : Int32)), (.int (1 : Int32))])) _
    refine XS.icmpNo X4.here hx rfl (hb hby at_79) rfl (teq (by decide : (1 : Int32) = (1 : Int32))).2 ?_
    show Steps p.tables e below (T4.setTop (mkF m 82 #[.val (.int p0), .val (.int (6 : Int32)), .val (.ref w_ASYNC_MESSAGE_PROCESSOR), .val (.int (1 : Int32)), .val (.int (1 : Int32)), .val (.int (1 : Int32)), .val (.int (1 : Int32))] [])) _
    refine XS.iload X4.here hx rfl (hb hby at_82) rfl ?_
    show Steps p.tables e below (T4.setTop (mkF m 84 #[.val (.int p0), .val (.int (6 : Int32)), .val (.ref w_ASYNC_MESSAGE_PROCESSOR), .val (.int (1 : Int32)), .val (.int (1 : Int32)), .val (.int (1 : Int32)), .val (.int (1 : Int32))] [(.int (1 : Int32))])) _
    refine XS.ifNo X4.here hx rfl (hb hby at_84) rfl ((if0 _ _).trans (feq (by decide : ¬ ((1 : Int32) = (0 : Int32)))).1) ?_
    show Steps p.tables e below (T4.setTop (mkF m 87 #[.val (.int p0), .val (.int (6 : Int32)), .val (.ref w_ASYNC_MESSAGE_PROCESSOR), .val (.int (1 : Int32)), .val (.int (1 : Int32)), .val (.int (1 : Int32)), .val (.int (1 : Int32))] [])) _
    refine XS.iload X4.here hx rfl (hb hby at_87) rfl ?_
    show Steps p.tables e below (T4.setTop (mkF m 89 #[.val (.int p0), .val (.int (6 : Int32)), .val (.ref w_ASYNC_MESSAGE_PROCESSOR), .val (.int (1 : Int32)), .val (.int (1 : Int32)), .val (.int (1 : Int32)), .val (.int (1 : Int32))] [(.int (1 : Int32))])) _
    refine XS.ifNo X4.here hx rfl (hb hby at_89) rfl ((if0 _ _).trans (feq (by decide : ¬ ((1 : Int32) = (0 : Int32)))).1) ?_
    show Steps p.tables e below (T4.setTop (mkF m 92 #[.val (.int p0), .val (.int (6 : Int32)), .val (.ref w_ASYNC_MESSAGE_PROCESSOR), .val (.int (1 : Int32)), .val (.int (1 : Int32)), .val (.int (1 : Int32)), .val (.int (1 : Int32))] [])) _
    refine XS.iconst X4.here hx rfl (hb hby at_92) ?_
    show Steps p.tables e below (T4.setTop (mkF m 93 #[.val (.int p0), .val (.int (6 : Int32)), .val (.ref w_ASYNC_MESSAGE_PROCESSOR), .val (.int (1 : Int32)), .val (.int (1 : Int32)), .val (.int (1 : Int32)), .val (.int (1 : Int32))] [(.int (1 : Int32))])) _
    refine XS.goto X4.here hx rfl (pc0 := 93) (pc' := 97) rfl (hb hby at_93) (by decide) (by decide) ?_
    show Steps p.tables e below (T4.setTop (mkF m 97 #[.val (.int p0), .val (.int (6 : Int32)), .val (.ref w_ASYNC_MESSAGE_PROCESSOR), .val (.int (1 : Int32)), .val (.int (1 : Int32)), .val (.int (1 : Int32)), .val (.int (1 : Int32))] [(.int (1 : Int32))])) _
    exact retN X4 hx (t := .boolean) Bd.returns (by simp) (hb hby at_97) hr
  · exact ⟨N3, rfl⟩
set_option maxRecDepth 65536 in
set_option maxHeartbeats 40000000 in
theorem rm1_7 (l : Launch) (Z : State) (a0 : Array Value) (hw : ∀ d ∈ tables_1, d.before a0 Z = true) (ws : List Jvm.Cond) (n0 : Nat) (h0 : Heap) (O : Old Z n0 h0) (w_PRODUCER : Addr) (w_NOTHING : Addr) (w_PAYLOAD : Addr) (w_PROCESSOR : Addr) (w_MESSAGE_STREAM : Addr) (w_MESSAGE : Addr) (w_PAYLOAD_STREAM : Addr) (w_CONSUMER : Addr) (w_ASYNC_PROCESSOR : Addr) (w_MESSAGE_CONSUMER : Addr) (w_ASYNC_MESSAGE_PROCESSOR : Addr) (w_MESSAGE_PROCESSOR : Addr) (W : OwW Z w_PRODUCER w_NOTHING w_PAYLOAD w_PROCESSOR w_MESSAGE_STREAM w_MESSAGE w_PAYLOAD_STREAM w_CONSUMER w_ASYNC_PROCESSOR w_MESSAGE_CONSUMER w_ASYNC_MESSAGE_PROCESSOR w_MESSAGE_PROCESSOR)  :
    OwCon l (⟨"com/example/aizu/aizu/channels/ShapeReadsPinLaw", "shapeAt", "(I)Lcom/example/aizu/aizu/channels/ChannelMethod$Shape;"⟩ : MethodName) method_3_code 1 (some (.object "com/example/aizu/aizu/channels/ChannelMethod$Shape")) ws ({ frames := 0, cells := 0, slots := 0, locals := 0 } : Room) #[(.int (7 : Int32))] Z h0 (OwQ (some (.ref w_CONSUMER)) h0 n0) := by
  refine MetFree.of_bodySF (plainFor_of_name owpn1) hisR ?_
  intro p e s m args below meth c s₁ Bd hml0 hP hK
  obtain ⟨rfl, hZ, hh⟩ := hP
  have hx := Bd.exec
  have hby := Bd.bytes
  have hml : c.maxLocals = 1 := hml0
  have hown : s.vm.findClass "com/example/aizu/aizu/channels/ShapeReadsPinLaw" = some m.cls := findClass_of_methodNamed Bd.named
  have hnm := (name_of_methodNamed Bd.named Bd.method).1
  have X0 : Stand p l e ({ frames := 0, cells := 0, slots := 0, locals := 0 } : Room) s m #[(.int (7 : Int32))] below meth c s₁ [] 0 0 := Stand.of_body Bd
  have e0 : s₁.heap = h0 := by rw [← hh, Bd.state]; rfl
  have N0 := Fr.nil n0
  have WW := W
  obtain ⟨E_w_PRODUCER, E_w_NOTHING, E_w_PAYLOAD, E_w_PROCESSOR, E_w_MESSAGE_STREAM, E_w_MESSAGE, E_w_PAYLOAD_STREAM, E_w_CONSUMER, E_w_ASYNC_PROCESSOR, E_w_MESSAGE_CONSUMER, E_w_ASYNC_MESSAGE_PROCESSOR, E_w_MESSAGE_PROCESSOR, S_ChannelMethod_Shape_PRODUCER, S_ChannelMethod_Kind_NOTHING, F_w_PRODUCER_takes, S_ChannelMethod_Kind_PAYLOAD, F_w_PRODUCER_gives, F_w_PAYLOAD_ordinal, F_w_NOTHING_ordinal, S_ChannelMethod_Shape_PROCESSOR, F_w_PROCESSOR_takes, S_ChannelMethod_Shape_MESSAGE_STREAM, F_w_MESSAGE_STREAM_takes, S_ChannelMethod_Kind_MESSAGE, F_w_MESSAGE_STREAM_gives, F_w_MESSAGE_ordinal, S_ChannelMethod_Shape_PAYLOAD_STREAM, F_w_PAYLOAD_STREAM_takes, F_w_PAYLOAD_STREAM_gives, S_ChannelMethod_Shape_CONSUMER, F_w_CONSUMER_takes, S_ChannelMethod_Shape_ASYNC_PROCESSOR, F_w_ASYNC_PROCESSOR_takes, S_ChannelMethod_Shape_MESSAGE_CONSUMER, F_w_MESSAGE_CONSUMER_takes, S_ChannelMethod_Shape_ASYNC_MESSAGE_PROCESSOR, F_w_ASYNC_MESSAGE_PROCESSOR_takes, S_ChannelMethod_Shape_MESSAGE_PROCESSOR, F_w_MESSAGE_PROCESSOR_takes, F_w_PROCESSOR_gives, F_w_CONSUMER_gives, F_w_ASYNC_PROCESSOR_gives, F_w_MESSAGE_CONSUMER_gives, F_w_ASYNC_MESSAGE_PROCESSOR_gives, F_w_MESSAGE_PROCESSOR_gives, ne_w_PAYLOAD_w_NOTHING, ne_w_MESSAGE_w_NOTHING, -⟩ := WW
  have ef : entryFrame m #[(.int (7 : Int32))] 1 = mkF m 0 #[.val (.int (7 : Int32))] [] := by first | rfl | (simp [entryFrame, mkF, argsToLocals, Value.category]; done)
  have pre0 : ∀ t, Steps p.tables e below (s₁.setTop (mkF m 0 #[.val (.int (7 : Int32))] [])) t → Steps p.tables e below (s₁.setTop (entryFrame m #[(.int (7 : Int32))] 1)) t := fun t k => castTop ef k
  obtain ⟨T1, X1, e1, st1⟩ := getS2 X0 hx hZ hown (host := "") (Or.inl (hw _ (List.mem_of_getElem? (i := 39) rfl))) Via.refl e0 (S_ChannelMethod_Shape_CONSUMER.ext O.2) (g := (mkF m 69 #[.val (.int (7 : Int32))] [])) rfl (hb hby d1_69)
  obtain ⟨fs, hr, hrun, hended, hW, hsame⟩ := X1.leave (v := some (.ref w_CONSUMER)) (fun h => by rw [Bd.returns] at h; cases h)
  refine ⟨_, _, pre0 _ ?_, hrun, hended, _, _, rfl, ?_, ⟨_, rfl⟩, hW, hsame.mono (by decide) (by decide)⟩
  · show Steps p.tables e below (s₁.setTop (mkF m 0 #[.val (.int (7 : Int32))] [])) _
    refine XS.iloadN X0.here hx rfl (hb hby d1_0) rfl ?_
    show Steps p.tables e below (s₁.setTop (mkF m 1 #[.val (.int (7 : Int32))] [(.int (7 : Int32))])) _
    refine XS.ifYes X0.here hx rfl (pc0 := 1) (pc' := 8) rfl (hb hby d1_1) rfl ((if0 _ _).trans (feq (by decide : ¬ ((7 : Int32) = (0 : Int32)))).2) (by decide) (by decide) ?_
    show Steps p.tables e below (s₁.setTop (mkF m 8 #[.val (.int (7 : Int32))] [])) _
    refine XS.iloadN X0.here hx rfl (hb hby d1_8) rfl ?_
    show Steps p.tables e below (s₁.setTop (mkF m 9 #[.val (.int (7 : Int32))] [(.int (7 : Int32))])) _
    refine XS.iconst X0.here hx rfl (hb hby d1_9) ?_
    show Steps p.tables e below (s₁.setTop (mkF m 10 #[.val (.int (7 : Int32))] [(.int (1 : Int32)), (.int (7 : Int32))])) _
    refine XS.icmpYes X0.here hx rfl (pc0 := 10) (pc' := 17) rfl (hb hby d1_10) rfl (feq (by decide : ¬ ((7 : Int32) = (1 : Int32)))).2 (by decide) (by decide) ?_
    show Steps p.tables e below (s₁.setTop (mkF m 17 #[.val (.int (7 : Int32))] [])) _
    refine XS.iloadN X0.here hx rfl (hb hby d1_17) rfl ?_
    show Steps p.tables e below (s₁.setTop (mkF m 18 #[.val (.int (7 : Int32))] [(.int (7 : Int32))])) _
    refine XS.iconst X0.here hx rfl (hb hby d1_18) ?_
    show Steps p.tables e below (s₁.setTop (mkF m 19 #[.val (.int (7 : Int32))] [(.int (2 : Int32)), (.int (7 : Int32))])) _
    refine XS.icmpYes X0.here hx rfl (pc0 := 19) (pc' := 26) rfl (hb hby d1_19) rfl (feq (by decide : ¬ ((7 : Int32) = (2 : Int32)))).2 (by decide) (by decide) ?_
    show Steps p.tables e below (s₁.setTop (mkF m 26 #[.val (.int (7 : Int32))] [])) _
    refine XS.iloadN X0.here hx rfl (hb hby d1_26) rfl ?_
    show Steps p.tables e below (s₁.setTop (mkF m 27 #[.val (.int (7 : Int32))] [(.int (7 : Int32))])) _
    refine XS.iconst X0.here hx rfl (hb hby d1_27) ?_
    show Steps p.tables e below (s₁.setTop (mkF m 28 #[.val (.int (7 : Int32))] [(.int (3 : Int32)), (.int (7 : Int32))])) _
    refine XS.icmpYes X0.here hx rfl (pc0 := 28) (pc' := 35) rfl (hb hby d1_28) rfl (feq (by decide : ¬ ((7 : Int32) = (3 : Int32)))).2 (by decide) (by decide) ?_
    show Steps p.tables e below (s₁.setTop (mkF m 35 #[.val (.int (7 : Int32))] [])) _
    refine XS.iloadN X0.here hx rfl (hb hby d1_35) rfl ?_
    show Steps p.tables e below (s₁.setTop (mkF m 36 #[.val (.int (7 : Int32))] [(.int (7 : Int32))])) _
    refine XS.iconst X0.here hx rfl (hb hby d1_36) ?_
    show Steps p.tables e below (s₁.setTop (mkF m 37 #[.val (.int (7 : Int32))] [(.int (4 : Int32)), (.int (7 : Int32))])) _
    refine XS.icmpYes X0.here hx rfl (pc0 := 37) (pc' := 44) rfl (hb hby d1_37) rfl (feq (by decide : ¬ ((7 : Int32) = (4 : Int32)))).2 (by decide) (by decide) ?_
    show Steps p.tables e below (s₁.setTop (mkF m 44 #[.val (.int (7 : Int32))] [])) _
    refine XS.iloadN X0.here hx rfl (hb hby d1_44) rfl ?_
    show Steps p.tables e below (s₁.setTop (mkF m 45 #[.val (.int (7 : Int32))] [(.int (7 : Int32))])) _
    refine XS.iconst X0.here hx rfl (hb hby d1_45) ?_
    show Steps p.tables e below (s₁.setTop (mkF m 46 #[.val (.int (7 : Int32))] [(.int (5 : Int32)), (.int (7 : Int32))])) _
    refine XS.icmpYes X0.here hx rfl (pc0 := 46) (pc' := 53) rfl (hb hby d1_46) rfl (feq (by decide : ¬ ((7 : Int32) = (5 : Int32)))).2 (by decide) (by decide) ?_
    show Steps p.tables e below (s₁.setTop (mkF m 53 #[.val (.int (7 : Int32))] [])) _
    refine XS.iloadN X0.here hx rfl (hb hby d1_53) rfl ?_
    show Steps p.tables e below (s₁.setTop (mkF m 54 #[.val (.int (7 : Int32))] [(.int (7 : Int32))])) _
    refine XS.bipush X0.here hx rfl (hb hby d1_54) ?_
    show Steps p.tables e below (s₁.setTop (mkF m 56 #[.val (.int (7 : Int32))] [(.int (6 : Int32)), (.int (7 : Int32))])) _
    refine XS.icmpYes X0.here hx rfl (pc0 := 56) (pc' := 63) rfl (hb hby d1_56) rfl (feq (by decide : ¬ ((7 : Int32) = (6 : Int32)))).2 (by decide) (by decide) ?_
    show Steps p.tables e below (s₁.setTop (mkF m 63 #[.val (.int (7 : Int32))] [])) _
    refine XS.iloadN X0.here hx rfl (hb hby d1_63) rfl ?_
    show Steps p.tables e below (s₁.setTop (mkF m 64 #[.val (.int (7 : Int32))] [(.int (7 : Int32))])) _
    refine XS.bipush X0.here hx rfl (hb hby d1_64) ?_
    show Steps p.tables e below (s₁.setTop (mkF m 66 #[.val (.int (7 : Int32))] [(.int (7 : Int32)), (.int (7 : Int32))])) _
    refine XS.icmpNo X0.here hx rfl (hb hby d1_66) rfl (teq (by decide : (7 : Int32) = (7 : Int32))).2 ?_
    show Steps p.tables e below (s₁.setTop (mkF m 69 #[.val (.int (7 : Int32))] [])) _
    refine st1 _ ?_
    show Steps p.tables e below (T1.setTop (mkF m 72 #[.val (.int (7 : Int32))] [(.ref w_CONSUMER)])) _
    exact retOut X1 hx Bd.returns rfl (Or.inr (Or.inr (Or.inr (Or.inr ⟨rfl, rfl, rfl⟩)))) (hb hby d1_72) hr
  · exact ⟨rfl, N0, e1⟩
set_option maxRecDepth 65536 in
set_option maxHeartbeats 40000000 in
theorem rm2_7 (l : Launch) (Z : State) (a0 : Array Value) (hw : ∀ d ∈ tables_1, d.before a0 Z = true) (ws : List Jvm.Cond) (n0 : Nat) (h0 : Heap) (O : Old Z n0 h0) (w_PRODUCER : Addr) (w_NOTHING : Addr) (w_PAYLOAD : Addr) (w_PROCESSOR : Addr) (w_MESSAGE_STREAM : Addr) (w_MESSAGE : Addr) (w_PAYLOAD_STREAM : Addr) (w_CONSUMER : Addr) (w_ASYNC_PROCESSOR : Addr) (w_MESSAGE_CONSUMER : Addr) (w_ASYNC_MESSAGE_PROCESSOR : Addr) (w_MESSAGE_PROCESSOR : Addr) (W : OwW Z w_PRODUCER w_NOTHING w_PAYLOAD w_PROCESSOR w_MESSAGE_STREAM w_MESSAGE w_PAYLOAD_STREAM w_CONSUMER w_ASYNC_PROCESSOR w_MESSAGE_CONSUMER w_ASYNC_MESSAGE_PROCESSOR w_MESSAGE_PROCESSOR)  :
    OwCon l (⟨"com/example/aizu/aizu/channels/ChannelMethod$Shape", "reads", "()Z"⟩ : MethodName) prog_6_method_7_code 1 (some .boolean) ws ({ frames := 0, cells := 0, slots := 0, locals := 0 } : Room) #[(.ref w_CONSUMER)] Z h0 (OwQ (some (.int (1 : Int32))) h0 n0) := by
  refine MetFree.of_bodySF (plainFor_of_name owpn2) hisR ?_
  intro p e s m args below meth c s₁ Bd hml0 hP hK
  obtain ⟨rfl, hZ, hh⟩ := hP
  have hx := Bd.exec
  have hby := Bd.bytes
  have hml : c.maxLocals = 1 := hml0
  have hown : s.vm.findClass "com/example/aizu/aizu/channels/ChannelMethod$Shape" = some m.cls := findClass_of_methodNamed Bd.named
  have hnm := (name_of_methodNamed Bd.named Bd.method).1
  have X0 : Stand p l e ({ frames := 0, cells := 0, slots := 0, locals := 0 } : Room) s m #[(.ref w_CONSUMER)] below meth c s₁ [] 0 0 := Stand.of_body Bd
  have e0 : s₁.heap = h0 := by rw [← hh, Bd.state]; rfl
  have N0 := Fr.nil n0
  have WW := W
  obtain ⟨E_w_PRODUCER, E_w_NOTHING, E_w_PAYLOAD, E_w_PROCESSOR, E_w_MESSAGE_STREAM, E_w_MESSAGE, E_w_PAYLOAD_STREAM, E_w_CONSUMER, E_w_ASYNC_PROCESSOR, E_w_MESSAGE_CONSUMER, E_w_ASYNC_MESSAGE_PROCESSOR, E_w_MESSAGE_PROCESSOR, S_ChannelMethod_Shape_PRODUCER, S_ChannelMethod_Kind_NOTHING, F_w_PRODUCER_takes, S_ChannelMethod_Kind_PAYLOAD, F_w_PRODUCER_gives, F_w_PAYLOAD_ordinal, F_w_NOTHING_ordinal, S_ChannelMethod_Shape_PROCESSOR, F_w_PROCESSOR_takes, S_ChannelMethod_Shape_MESSAGE_STREAM, F_w_MESSAGE_STREAM_takes, S_ChannelMethod_Kind_MESSAGE, F_w_MESSAGE_STREAM_gives, F_w_MESSAGE_ordinal, S_ChannelMethod_Shape_PAYLOAD_STREAM, F_w_PAYLOAD_STREAM_takes, F_w_PAYLOAD_STREAM_gives, S_ChannelMethod_Shape_CONSUMER, F_w_CONSUMER_takes, S_ChannelMethod_Shape_ASYNC_PROCESSOR, F_w_ASYNC_PROCESSOR_takes, S_ChannelMethod_Shape_MESSAGE_CONSUMER, F_w_MESSAGE_CONSUMER_takes, S_ChannelMethod_Shape_ASYNC_MESSAGE_PROCESSOR, F_w_ASYNC_MESSAGE_PROCESSOR_takes, S_ChannelMethod_Shape_MESSAGE_PROCESSOR, F_w_MESSAGE_PROCESSOR_takes, F_w_PROCESSOR_gives, F_w_CONSUMER_gives, F_w_ASYNC_PROCESSOR_gives, F_w_MESSAGE_CONSUMER_gives, F_w_ASYNC_MESSAGE_PROCESSOR_gives, F_w_MESSAGE_PROCESSOR_gives, ne_w_PAYLOAD_w_NOTHING, ne_w_MESSAGE_w_NOTHING, -⟩ := WW
  have ef : entryFrame m #[(.ref w_CONSUMER)] 1 = mkF m 0 #[.val (.ref w_CONSUMER)] [] := by first | rfl | (simp [entryFrame, mkF, argsToLocals, Value.category]; done)
  have pre0 : ∀ t, Steps p.tables e below (s₁.setTop (mkF m 0 #[.val (.ref w_CONSUMER)] [])) t → Steps p.tables e below (s₁.setTop (entryFrame m #[(.ref w_CONSUMER)] 1)) t := fun t k => castTop ef k
  obtain ⟨T1, X1, e1, st1⟩ := getF X0 hx hZ hown (host := "") (Or.inl (hw _ (List.mem_of_getElem? (i := 13) rfl))) Via.refl e0 (F_w_CONSUMER_takes.ext O.2) (g := (mkF m 1 #[.val (.ref w_CONSUMER)] [(.ref w_CONSUMER)])) rfl rfl (hb hby d2_1)
  obtain ⟨T2, X2, e2, st2⟩ := getS2 X1 hx hZ hown (host := "") (Or.inl (hw _ (List.mem_of_getElem? (i := 17) rfl))) Via.refl e1 (S_ChannelMethod_Kind_NOTHING.ext O.2) (g := (mkF m 4 #[.val (.ref w_CONSUMER)] [(.ref w_PAYLOAD)])) rfl (hb hby d2_4)
  obtain ⟨fs, hr, hrun, hended, hW, hsame⟩ := X2.leave (v := some (.int (1 : Int32))) (fun h => by rw [Bd.returns] at h; cases h)
  refine ⟨_, _, pre0 _ ?_, hrun, hended, _, _, rfl, ?_, ⟨_, rfl⟩, hW, hsame.mono (by decide) (by decide)⟩
  · show Steps p.tables e below (s₁.setTop (mkF m 0 #[.val (.ref w_CONSUMER)] [])) _
    refine XS.aloadN X0.here hx rfl (hb hby d2_0) rfl rfl ?_
    show Steps p.tables e below (s₁.setTop (mkF m 1 #[.val (.ref w_CONSUMER)] [(.ref w_CONSUMER)])) _
    refine st1 _ ?_
    show Steps p.tables e below (T1.setTop (mkF m 4 #[.val (.ref w_CONSUMER)] [(.ref w_PAYLOAD)])) _
    refine st2 _ ?_
    show Steps p.tables e below (T2.setTop (mkF m 7 #[.val (.ref w_CONSUMER)] [(.ref w_NOTHING), (.ref w_PAYLOAD)])) _
    refine Jvm.RoadKit.acmp (g := (mkF m 7 #[.val (.ref w_CONSUMER)] [(.ref w_NOTHING), (.ref w_PAYLOAD)])) X2 hx rfl rfl rfl (pc0 := 7) (pc' := 10) (same := false) rfl (hb hby d2_7) rfl (decide_eq_false fun q => ne_w_PAYLOAD_w_NOTHING (Value.ref.inj q)) (by decide) (by decide) ?_
    show Steps p.tables e below (T2.setTop (mkF m 10 #[.val (.ref w_CONSUMER)] [])) _
    refine XS.iconst X2.here hx rfl (hb hby d2_10) ?_
    show Steps p.tables e below (T2.setTop (mkF m 11 #[.val (.ref w_CONSUMER)] [(.int (1 : Int32))])) _
    refine XS.goto X2.here hx rfl (pc0 := 11) (pc' := 15) rfl (hb hby d2_11) (by decide) (by decide) ?_
    show Steps p.tables e below (T2.setTop (mkF m 15 #[.val (.ref w_CONSUMER)] [(.int (1 : Int32))])) _
    exact retN X2 hx (t := .boolean) Bd.returns (by simp) (hb hby d2_15) hr
  · exact ⟨rfl, N0, e2⟩
set_option maxRecDepth 65536 in
set_option maxHeartbeats 40000000 in
theorem rm3_7 (l : Launch) (Z : State) (a0 : Array Value) (hw : ∀ d ∈ tables_1, d.before a0 Z = true) (ws : List Jvm.Cond) (n0 : Nat) (h0 : Heap) (O : Old Z n0 h0) (w_PRODUCER : Addr) (w_NOTHING : Addr) (w_PAYLOAD : Addr) (w_PROCESSOR : Addr) (w_MESSAGE_STREAM : Addr) (w_MESSAGE : Addr) (w_PAYLOAD_STREAM : Addr) (w_CONSUMER : Addr) (w_ASYNC_PROCESSOR : Addr) (w_MESSAGE_CONSUMER : Addr) (w_ASYNC_MESSAGE_PROCESSOR : Addr) (w_MESSAGE_PROCESSOR : Addr) (W : OwW Z w_PRODUCER w_NOTHING w_PAYLOAD w_PROCESSOR w_MESSAGE_STREAM w_MESSAGE w_PAYLOAD_STREAM w_CONSUMER w_ASYNC_PROCESSOR w_MESSAGE_CONSUMER w_ASYNC_MESSAGE_PROCESSOR w_MESSAGE_PROCESSOR)  :
    OwCon l (⟨"com/example/aizu/aizu/channels/ChannelMethod$Shape", "takes", "()Lcom/example/aizu/aizu/channels/ChannelMethod$Kind;"⟩ : MethodName) prog_6_method_4_code 1 (some (.object "com/example/aizu/aizu/channels/ChannelMethod$Kind")) ws ({ frames := 0, cells := 0, slots := 0, locals := 0 } : Room) #[(.ref w_CONSUMER)] Z h0 (OwQ (some (.ref w_PAYLOAD)) h0 n0) := by
  refine MetFree.of_bodySF (plainFor_of_name owpn3) hisR ?_
  intro p e s m args below meth c s₁ Bd hml0 hP hK
  obtain ⟨rfl, hZ, hh⟩ := hP
  have hx := Bd.exec
  have hby := Bd.bytes
  have hml : c.maxLocals = 1 := hml0
  have hown : s.vm.findClass "com/example/aizu/aizu/channels/ChannelMethod$Shape" = some m.cls := findClass_of_methodNamed Bd.named
  have hnm := (name_of_methodNamed Bd.named Bd.method).1
  have X0 : Stand p l e ({ frames := 0, cells := 0, slots := 0, locals := 0 } : Room) s m #[(.ref w_CONSUMER)] below meth c s₁ [] 0 0 := Stand.of_body Bd
  have e0 : s₁.heap = h0 := by rw [← hh, Bd.state]; rfl
  have N0 := Fr.nil n0
  have WW := W
  obtain ⟨E_w_PRODUCER, E_w_NOTHING, E_w_PAYLOAD, E_w_PROCESSOR, E_w_MESSAGE_STREAM, E_w_MESSAGE, E_w_PAYLOAD_STREAM, E_w_CONSUMER, E_w_ASYNC_PROCESSOR, E_w_MESSAGE_CONSUMER, E_w_ASYNC_MESSAGE_PROCESSOR, E_w_MESSAGE_PROCESSOR, S_ChannelMethod_Shape_PRODUCER, S_ChannelMethod_Kind_NOTHING, F_w_PRODUCER_takes, S_ChannelMethod_Kind_PAYLOAD, F_w_PRODUCER_gives, F_w_PAYLOAD_ordinal, F_w_NOTHING_ordinal, S_ChannelMethod_Shape_PROCESSOR, F_w_PROCESSOR_takes, S_ChannelMethod_Shape_MESSAGE_STREAM, F_w_MESSAGE_STREAM_takes, S_ChannelMethod_Kind_MESSAGE, F_w_MESSAGE_STREAM_gives, F_w_MESSAGE_ordinal, S_ChannelMethod_Shape_PAYLOAD_STREAM, F_w_PAYLOAD_STREAM_takes, F_w_PAYLOAD_STREAM_gives, S_ChannelMethod_Shape_CONSUMER, F_w_CONSUMER_takes, S_ChannelMethod_Shape_ASYNC_PROCESSOR, F_w_ASYNC_PROCESSOR_takes, S_ChannelMethod_Shape_MESSAGE_CONSUMER, F_w_MESSAGE_CONSUMER_takes, S_ChannelMethod_Shape_ASYNC_MESSAGE_PROCESSOR, F_w_ASYNC_MESSAGE_PROCESSOR_takes, S_ChannelMethod_Shape_MESSAGE_PROCESSOR, F_w_MESSAGE_PROCESSOR_takes, F_w_PROCESSOR_gives, F_w_CONSUMER_gives, F_w_ASYNC_PROCESSOR_gives, F_w_MESSAGE_CONSUMER_gives, F_w_ASYNC_MESSAGE_PROCESSOR_gives, F_w_MESSAGE_PROCESSOR_gives, ne_w_PAYLOAD_w_NOTHING, ne_w_MESSAGE_w_NOTHING, -⟩ := WW
  have ef : entryFrame m #[(.ref w_CONSUMER)] 1 = mkF m 0 #[.val (.ref w_CONSUMER)] [] := by first | rfl | (simp [entryFrame, mkF, argsToLocals, Value.category]; done)
  have pre0 : ∀ t, Steps p.tables e below (s₁.setTop (mkF m 0 #[.val (.ref w_CONSUMER)] [])) t → Steps p.tables e below (s₁.setTop (entryFrame m #[(.ref w_CONSUMER)] 1)) t := fun t k => castTop ef k
  obtain ⟨T1, X1, e1, st1⟩ := getF X0 hx hZ hown (host := "") (Or.inl (hw _ (List.mem_of_getElem? (i := 13) rfl))) Via.refl e0 (F_w_CONSUMER_takes.ext O.2) (g := (mkF m 1 #[.val (.ref w_CONSUMER)] [(.ref w_CONSUMER)])) rfl rfl (hb hby d3_1)
  obtain ⟨fs, hr, hrun, hended, hW, hsame⟩ := X1.leave (v := some (.ref w_PAYLOAD)) (fun h => by rw [Bd.returns] at h; cases h)
  refine ⟨_, _, pre0 _ ?_, hrun, hended, _, _, rfl, ?_, ⟨_, rfl⟩, hW, hsame.mono (by decide) (by decide)⟩
  · show Steps p.tables e below (s₁.setTop (mkF m 0 #[.val (.ref w_CONSUMER)] [])) _
    refine XS.aloadN X0.here hx rfl (hb hby d3_0) rfl rfl ?_
    show Steps p.tables e below (s₁.setTop (mkF m 1 #[.val (.ref w_CONSUMER)] [(.ref w_CONSUMER)])) _
    refine st1 _ ?_
    show Steps p.tables e below (T1.setTop (mkF m 4 #[.val (.ref w_CONSUMER)] [(.ref w_PAYLOAD)])) _
    exact retOut X1 hx Bd.returns rfl (Or.inr (Or.inr (Or.inr (Or.inr ⟨rfl, rfl, rfl⟩)))) (hb hby d3_4) hr
  · exact ⟨rfl, N0, e1⟩
set_option maxRecDepth 65536 in
set_option maxHeartbeats 40000000 in
theorem rm0_7 (l : Launch) (Z : State) (a0 : Array Value) (hw : ∀ d ∈ tables_1, d.before a0 Z = true) (ws : List Jvm.Cond) (n0 : Nat) (h0 : Heap) (O : Old Z n0 h0) (w_PRODUCER : Addr) (w_NOTHING : Addr) (w_PAYLOAD : Addr) (w_PROCESSOR : Addr) (w_MESSAGE_STREAM : Addr) (w_MESSAGE : Addr) (w_PAYLOAD_STREAM : Addr) (w_CONSUMER : Addr) (w_ASYNC_PROCESSOR : Addr) (w_MESSAGE_CONSUMER : Addr) (w_ASYNC_MESSAGE_PROCESSOR : Addr) (w_MESSAGE_PROCESSOR : Addr) (W : OwW Z w_PRODUCER w_NOTHING w_PAYLOAD w_PROCESSOR w_MESSAGE_STREAM w_MESSAGE w_PAYLOAD_STREAM w_CONSUMER w_ASYNC_PROCESSOR w_MESSAGE_CONSUMER w_ASYNC_MESSAGE_PROCESSOR w_MESSAGE_PROCESSOR) (p0 : Int32) (hi : (p0 &&& (2147483647 : Int32)) % (9 : Int32) = (7 : Int32)) :
    OwCon l x code maxLocals ret ws room_1 #[(.int p0)] Z h0 (OwP (fun v _ => v = some (.int 1)) n0) := by
  refine MetFree.of_bodySF (plainFor_of_name owpn0) hisR ?_
  intro p e s m args below meth c s₁ Bd hml0 hP hK
  obtain ⟨rfl, hZ, hh⟩ := hP
  have hx := Bd.exec
  have hby := Bd.bytes
  have hml : c.maxLocals = 7 := hml0
  have hown : s.vm.findClass "com/example/aizu/aizu/channels/ShapeReadsPinLaw" = some m.cls := findClass_of_methodNamed Bd.named
  have hnm := (name_of_methodNamed Bd.named Bd.method).1
  have X0 : Stand p l e room_1 s m #[(.int p0)] below meth c s₁ [] 0 0 := Stand.of_body Bd
  have e0 : s₁.heap = h0 := by rw [← hh, Bd.state]; rfl
  have N0 := Fr.nil n0
  have WW := W
  obtain ⟨E_w_PRODUCER, E_w_NOTHING, E_w_PAYLOAD, E_w_PROCESSOR, E_w_MESSAGE_STREAM, E_w_MESSAGE, E_w_PAYLOAD_STREAM, E_w_CONSUMER, E_w_ASYNC_PROCESSOR, E_w_MESSAGE_CONSUMER, E_w_ASYNC_MESSAGE_PROCESSOR, E_w_MESSAGE_PROCESSOR, S_ChannelMethod_Shape_PRODUCER, S_ChannelMethod_Kind_NOTHING, F_w_PRODUCER_takes, S_ChannelMethod_Kind_PAYLOAD, F_w_PRODUCER_gives, F_w_PAYLOAD_ordinal, F_w_NOTHING_ordinal, S_ChannelMethod_Shape_PROCESSOR, F_w_PROCESSOR_takes, S_ChannelMethod_Shape_MESSAGE_STREAM, F_w_MESSAGE_STREAM_takes, S_ChannelMethod_Kind_MESSAGE, F_w_MESSAGE_STREAM_gives, F_w_MESSAGE_ordinal, S_ChannelMethod_Shape_PAYLOAD_STREAM, F_w_PAYLOAD_STREAM_takes, F_w_PAYLOAD_STREAM_gives, S_ChannelMethod_Shape_CONSUMER, F_w_CONSUMER_takes, S_ChannelMethod_Shape_ASYNC_PROCESSOR, F_w_ASYNC_PROCESSOR_takes, S_ChannelMethod_Shape_MESSAGE_CONSUMER, F_w_MESSAGE_CONSUMER_takes, S_ChannelMethod_Shape_ASYNC_MESSAGE_PROCESSOR, F_w_ASYNC_MESSAGE_PROCESSOR_takes, S_ChannelMethod_Shape_MESSAGE_PROCESSOR, F_w_MESSAGE_PROCESSOR_takes, F_w_PROCESSOR_gives, F_w_CONSUMER_gives, F_w_ASYNC_PROCESSOR_gives, F_w_MESSAGE_CONSUMER_gives, F_w_ASYNC_MESSAGE_PROCESSOR_gives, F_w_MESSAGE_PROCESSOR_gives, ne_w_PAYLOAD_w_NOTHING, ne_w_MESSAGE_w_NOTHING, -⟩ := WW
  have ef : entryFrame m #[(.int p0)] maxLocals = mkF m 0 #[.val (.int p0), .unset, .unset, .unset, .unset, .unset, .unset] [] := by first | rfl | (simp [entryFrame, mkF, argsToLocals, Value.category, maxLocals]; done)
  have pre0 : ∀ t, Steps p.tables e below (s₁.setTop (mkF m 0 #[.val (.int p0), .unset, .unset, .unset, .unset, .unset, .unset] [])) t → Steps p.tables e below (s₁.setTop (entryFrame m #[(.int p0)] maxLocals)) t := fun t k => castTop ef k
  obtain ⟨_, _, ⟨T1, L1, k1, n1⟩, -, X1, ⟨Lc1, hQ1, l1, y1, z1⟩, st1⟩ := Jvm.LawKit.callS X0 hx (y := (⟨"com/example/aizu/aizu/channels/ShapeReadsPinLaw", "shapeAt", "(I)Lcom/example/aizu/aizu/channels/ChannelMethod$Shape;"⟩ : MethodName)) hown (mvT hZ (hw _ (List.mem_of_getElem? (i := 1) rfl))) (mvT hZ (hw _ (List.mem_of_getElem? (i := 2) rfl))) (mvT hZ (hw _ (List.mem_of_getElem? (i := 3) rfl))) (mvT hZ (hw _ (List.mem_of_getElem? (i := 4) rfl))) (by decide) (backOf (W := 0) (rm1_7 l Z a0 hw [] n0 h0 O w_PRODUCER w_NOTHING w_PAYLOAD w_PROCESSOR w_MESSAGE_STREAM w_MESSAGE w_PAYLOAD_STREAM w_CONSUMER w_ASYNC_PROCESSOR w_MESSAGE_CONSUMER w_ASYNC_MESSAGE_PROCESSOR w_MESSAGE_PROCESSOR W  ) hZ (hw _ (List.mem_of_getElem? (i := 4) rfl)) (hw _ (List.mem_of_getElem? (i := 3) rfl)) (by decide) (by decide)) (g := (mkF m 9 #[.val (.int p0), .val (.int (7 : Int32)), .unset, .unset, .unset, .unset, .unset] [(.int (7 : Int32))])) rfl (by rw [hml]; rfl) (argsL := [(.int (7 : Int32))]) (rest := []) (lenOf owpd0 rfl) rfl (by show 2 * 0 + _ ≤ _; exact Nat.le_of_eq rfl) (hb hby at_9) (fun _ _ => ⟨rfl, e0, (by decide : 0 + 0 ≤ _), (by decide : 0 + 0 ≤ _)⟩)
  dsimp only [Pt.U, Pt.locs, Pt.cells, Pt.slots] at X1 l1 y1 z1 st1 hQ1
  subst l1 y1 z1
  obtain ⟨rfl, Nq1, e1⟩ := hQ1
  have N1 := Fr.app N0 Nq1
  obtain ⟨cq2, kq2, q2a, q2b, q2c⟩ := isOf hZ e1 (E_w_CONSUMER.ext O.2)
  obtain ⟨_, _, ⟨T2, L2, k2, n2⟩, -, X2, ⟨Lc2, hQ2, l2, y2, z2⟩, st2⟩ := X1.virtualBack hx (y := (⟨"com/example/aizu/aizu/channels/ChannelMethod$Shape", "reads", "()Z"⟩ : MethodName)) (z := (⟨"com/example/aizu/aizu/channels/ChannelMethod$Shape", "reads", "()Z"⟩ : MethodName)) hown (mvT hZ (hw _ (List.mem_of_getElem? (i := 8) rfl))) (mvT hZ (hw _ (List.mem_of_getElem? (i := 9) rfl))) (notFace_of_selects (args := #[]) (mvT hZ (hw _ (List.mem_of_getElem? (i := 11) rfl)))) (mvT hZ (hw _ (List.mem_of_getElem? (i := 11) rfl))) (mvT hZ (hw _ (List.mem_of_getElem? (i := 10) rfl))) (by decide) (backOf (W := 0) (rm2_7 l Z a0 hw [] n0 h0 O w_PRODUCER w_NOTHING w_PAYLOAD w_PROCESSOR w_MESSAGE_STREAM w_MESSAGE w_PAYLOAD_STREAM w_CONSUMER w_ASYNC_PROCESSOR w_MESSAGE_CONSUMER w_ASYNC_MESSAGE_PROCESSOR w_MESSAGE_PROCESSOR W  ) hZ (hw _ (List.mem_of_getElem? (i := 12) rfl)) (hw _ (List.mem_of_getElem? (i := 6) rfl)) (by decide) (by decide)) q2a q2c (g := (mkF m 25 #[.val (.int p0), .val (.int (7 : Int32)), .val (.ref w_CONSUMER), .val (.int (1 : Int32)), .unset, .unset, .unset] [(.ref w_CONSUMER)])) rfl (by rw [hml]; rfl) (Steps.refl _) (argsL := []) (rest := []) (lenOf owpd1 rfl) rfl (by show 2 * 0 + _ ≤ _; exact Nat.le_of_eq rfl) (hb hby at_25) (fun _ _ => ⟨rfl, e1, (by decide : 0 + 0 ≤ _), (by decide : 0 + 0 ≤ _)⟩)
  dsimp only [Pt.U, Pt.locs, Pt.cells, Pt.slots] at X2 l2 y2 z2 st2 hQ2
  subst l2 y2 z2
  obtain ⟨rfl, Nq2, e2⟩ := hQ2
  have N2 := Fr.app N1 Nq2
  obtain ⟨cq3, kq3, q3a, q3b, q3c⟩ := isOf hZ e2 (E_w_CONSUMER.ext O.2)
  obtain ⟨_, _, ⟨T3, L3, k3, n3⟩, -, X3, ⟨Lc3, hQ3, l3, y3, z3⟩, st3⟩ := X2.virtualBack hx (y := (⟨"com/example/aizu/aizu/channels/ChannelMethod$Shape", "takes", "()Lcom/example/aizu/aizu/channels/ChannelMethod$Kind;"⟩ : MethodName)) (z := (⟨"com/example/aizu/aizu/channels/ChannelMethod$Shape", "takes", "()Lcom/example/aizu/aizu/channels/ChannelMethod$Kind;"⟩ : MethodName)) hown (mvT hZ (hw _ (List.mem_of_getElem? (i := 18) rfl))) (mvT hZ (hw _ (List.mem_of_getElem? (i := 19) rfl))) (notFace_of_selects (args := #[]) (mvT hZ (hw _ (List.mem_of_getElem? (i := 21) rfl)))) (mvT hZ (hw _ (List.mem_of_getElem? (i := 21) rfl))) (mvT hZ (hw _ (List.mem_of_getElem? (i := 20) rfl))) (by decide) (backOf (W := 1) (rm3_7 l Z a0 hw [] n0 h0 O w_PRODUCER w_NOTHING w_PAYLOAD w_PROCESSOR w_MESSAGE_STREAM w_MESSAGE w_PAYLOAD_STREAM w_CONSUMER w_ASYNC_PROCESSOR w_MESSAGE_CONSUMER w_ASYNC_MESSAGE_PROCESSOR w_MESSAGE_PROCESSOR W  ) hZ (hw _ (List.mem_of_getElem? (i := 22) rfl)) (hw _ (List.mem_of_getElem? (i := 6) rfl)) (by decide) (by decide)) q3a q3c (g := (mkF m 33 #[.val (.int p0), .val (.int (7 : Int32)), .val (.ref w_CONSUMER), .val (.int (1 : Int32)), .val (.int (1 : Int32)), .unset, .unset] [(.ref w_CONSUMER), (.int (1 : Int32))])) rfl (by rw [hml]; rfl) (Steps.refl _) (argsL := []) (rest := [(.int (1 : Int32))]) (lenOf owpd2 rfl) rfl (by show 2 * 0 + _ ≤ _; exact Nat.le_of_eq rfl) (hb hby at_33) (fun _ _ => ⟨rfl, e2, (by decide : 0 + 0 ≤ _), (by decide : 0 + 0 ≤ _)⟩)
  dsimp only [Pt.U, Pt.locs, Pt.cells, Pt.slots] at X3 l3 y3 z3 st3 hQ3
  subst l3 y3 z3
  obtain ⟨rfl, Nq3, e3⟩ := hQ3
  have N3 := Fr.app N2 Nq3
  obtain ⟨T4, X4, e4, st4⟩ := getS2 X3 hx hZ hown (host := "") (Or.inl (hw _ (List.mem_of_getElem? (i := 23) rfl))) Via.refl e3 (S_ChannelMethod_Kind_NOTHING.ext O.2) (g := (mkF m 36 #[.val (.int p0), .val (.int (7 : Int32)), .val (.ref w_CONSUMER), .val (.int (1 : Int32)), .val (.int (1 : Int32)), .unset, .unset] [(.ref w_PAYLOAD), (.int (1 : Int32))])) rfl (hb hby at_36)
  obtain ⟨fs, hr, hrun, hended, hW, hsame⟩ := X4.leave (v := some (.int (1 : Int32))) (fun h => by rw [Bd.returns] at h; cases h)
  refine ⟨_, _, pre0 _ ?_, hrun, hended, _, _, rfl, ?_, ⟨_, rfl⟩, hW, hsame.mono (by decide) (by decide)⟩
  · show Steps p.tables e below (s₁.setTop (mkF m 0 #[.val (.int p0), .unset, .unset, .unset, .unset, .unset, .unset] [])) _
    refine XS.iloadN X0.here hx rfl (hb hby at_0) rfl ?_
    show Steps p.tables e below (s₁.setTop (mkF m 1 #[.val (.int p0), .unset, .unset, .unset, .unset, .unset, .unset] [(.int p0)])) _
    refine X0.ldcInt hx hown (mvT hZ (hw _ (List.mem_of_getElem? (i := 0) rfl))) (g := (mkF m 1 #[.val (.int p0), .unset, .unset, .unset, .unset, .unset, .unset] [(.int p0)])) rfl (hb hby at_1) _ ?_
    show Steps p.tables e below (s₁.setTop (mkF m 3 #[.val (.int p0), .unset, .unset, .unset, .unset, .unset, .unset] [(.int (2147483647 : Int32)), (.int p0)])) _
    refine XS.iand X0.here hx rfl (hb hby at_3) rfl ?_
    show Steps p.tables e below (s₁.setTop (mkF m 4 #[.val (.int p0), .unset, .unset, .unset, .unset, .unset, .unset] [(.int (p0 &&& (2147483647 : Int32)))])) _
    refine XS.bipush X0.here hx rfl (hb hby at_4) ?_
    show Steps p.tables e below (s₁.setTop (mkF m 6 #[.val (.int p0), .unset, .unset, .unset, .unset, .unset, .unset] [(.int (9 : Int32)), (.int (p0 &&& (2147483647 : Int32)))])) _
    refine iremM X0 hx rfl (hb hby at_6) rfl (by decide) ?_
    show Steps p.tables e below (s₁.setTop (mkF m 7 #[.val (.int p0), .unset, .unset, .unset, .unset, .unset, .unset] [(.int ((p0 &&& (2147483647 : Int32)) % (9 : Int32)))])) _
    rw [hi]
    show Steps p.tables e below (s₁.setTop (mkF m 7 #[.val (.int p0), .unset, .unset, .unset, .unset, .unset, .unset] [(.int (7 : Int32))])) _
    refine XS.istoreN X0.here hx rfl (hb hby at_7) rfl (l' := #[.val (.int p0), .val (.int (7 : Int32)), .unset, .unset, .unset, .unset, .unset]) rfl ?_
    show Steps p.tables e below (s₁.setTop (mkF m 8 #[.val (.int p0), .val (.int (7 : Int32)), .unset, .unset, .unset, .unset, .unset] [])) _
    refine XS.iloadN X0.here hx rfl (hb hby at_8) rfl ?_
    show Steps p.tables e below (s₁.setTop (mkF m 9 #[.val (.int p0), .val (.int (7 : Int32)), .unset, .unset, .unset, .unset, .unset] [(.int (7 : Int32))])) _
    refine st1 _ ?_
    show Steps p.tables e below (T1.setTop (mkF m 12 #[.val (.int p0), .val (.int (7 : Int32)), .unset, .unset, .unset, .unset, .unset] [(.ref w_CONSUMER)])) _
    refine XS.astoreN X1.here hx rfl (hb hby at_12) rfl rfl (l' := #[.val (.int p0), .val (.int (7 : Int32)), .val (.ref w_CONSUMER), .unset, .unset, .unset, .unset]) rfl ?_
    show Steps p.tables e below (T1.setTop (mkF m 13 #[.val (.int p0), .val (.int (7 : Int32)), .val (.ref w_CONSUMER), .unset, .unset, .unset, .unset] [])) _
    refine XS.iloadN X1.here hx rfl (hb hby at_13) rfl ?_
    show Steps p.tables e below (T1.setTop (mkF m 14 #[.val (.int p0), .val (.int (7 : Int32)), .val (.ref w_CONSUMER), .unset, .unset, .unset, .unset] [(.int (7 : Int32))])) _
    refine XS.iconst X1.here hx rfl (hb hby at_14) ?_
    show Steps p.tables e below (T1.setTop (mkF m 15 #[.val (.int p0), .val (.int (7 : Int32)), .val (.ref w_CONSUMER), .unset, .unset, .unset, .unset] [(.int (3 : Int32)), (.int (7 : Int32))])) _
    refine XS.icmpNo X1.here hx rfl (hb hby at_15) rfl (flt (by decide : ¬ ((7 : Int32) < (3 : Int32)))).1 ?_
    show Steps p.tables e below (T1.setTop (mkF m 18 #[.val (.int p0), .val (.int (7 : Int32)), .val (.ref w_CONSUMER), .unset, .unset, .unset, .unset] [])) _
    refine XS.iconst X1.here hx rfl (hb hby at_18) ?_
    show Steps p.tables e below (T1.setTop (mkF m 19 #[.val (.int p0), .val (.int (7 : Int32)), .val (.ref w_CONSUMER), .unset, .unset, .unset, .unset] [(.int (1 : Int32))])) _
    refine XS.goto X1.here hx rfl (pc0 := 19) (pc' := 23) rfl (hb hby at_19) (by decide) (by decide) ?_
    show Steps p.tables e below (T1.setTop (mkF m 23 #[.val (.int p0), .val (.int (7 : Int32)), .val (.ref w_CONSUMER), .unset, .unset, .unset, .unset] [(.int (1 : Int32))])) _
    refine XS.istoreN X1.here hx rfl (hb hby at_23) rfl (l' := #[.val (.int p0), .val (.int (7 : Int32)), .val (.ref w_CONSUMER), .val (.int (1 : Int32)), .unset, .unset, .unset]) rfl ?_
    show Steps p.tables e below (T1.setTop (mkF m 24 #[.val (.int p0), .val (.int (7 : Int32)), .val (.ref w_CONSUMER), .val (.int (1 : Int32)), .unset, .unset, .unset] [])) _
    refine XS.aloadN X1.here hx rfl (hb hby at_24) rfl rfl ?_
    show Steps p.tables e below (T1.setTop (mkF m 25 #[.val (.int p0), .val (.int (7 : Int32)), .val (.ref w_CONSUMER), .val (.int (1 : Int32)), .unset, .unset, .unset] [(.ref w_CONSUMER)])) _
    refine st2.trans ?_
    show Steps p.tables e below (T2.setTop (mkF m 28 #[.val (.int p0), .val (.int (7 : Int32)), .val (.ref w_CONSUMER), .val (.int (1 : Int32)), .unset, .unset, .unset] [(.int (1 : Int32))])) _
    refine XS.istore X2.here hx rfl (hb hby at_28) rfl (l' := #[.val (.int p0), .val (.int (7 : Int32)), .val (.ref w_CONSUMER), .val (.int (1 : Int32)), .val (.int (1 : Int32)), .unset, .unset]) rfl ?_
    show Steps p.tables e below (T2.setTop (mkF m 30 #[.val (.int p0), .val (.int (7 : Int32)), .val (.ref w_CONSUMER), .val (.int (1 : Int32)), .val (.int (1 : Int32)), .unset, .unset] [])) _
    refine XS.iload X2.here hx rfl (hb hby at_30) rfl ?_
    show Steps p.tables e below (T2.setTop (mkF m 32 #[.val (.int p0), .val (.int (7 : Int32)), .val (.ref w_CONSUMER), .val (.int (1 : Int32)), .val (.int (1 : Int32)), .unset, .unset] [(.int (1 : Int32))])) _
    refine XS.aloadN X2.here hx rfl (hb hby at_32) rfl rfl ?_
    show Steps p.tables e below (T2.setTop (mkF m 33 #[.val (.int p0), .val (.int (7 : Int32)), .val (.ref w_CONSUMER), .val (.int (1 : Int32)), .val (.int (1 : Int32)), .unset, .unset] [(.ref w_CONSUMER), (.int (1 : Int32))])) _
    refine st3.trans ?_
    show Steps p.tables e below (T3.setTop (mkF m 36 #[.val (.int p0), .val (.int (7 : Int32)), .val (.ref w_CONSUMER), .val (.int (1 : Int32)), .val (.int (1 : Int32)), .unset, .unset] [(.ref w_PAYLOAD), (.int (1 : Int32))])) _
    refine st4 _ ?_
    show Steps p.tables e below (T4.setTop (mkF m 39 #[.val (.int p0), .val (.int (7 : Int32)), .val (.ref w_CONSUMER), .val (.int (1 : Int32)), .val (.int (1 : Int32)), .unset, .unset] [(.ref w_NOTHING), (.ref w_PAYLOAD), (.int (1 : Int32))])) _
    refine Jvm.RoadKit.acmp (g := (mkF m 39 #[.val (.int p0), .val (.int (7 : Int32)), .val (.ref w_CONSUMER), .val (.int (1 : Int32)), .val (.int (1 : Int32)), .unset, .unset] [(.ref w_NOTHING), (.ref w_PAYLOAD), (.int (1 : Int32))])) X4 hx rfl rfl rfl (pc0 := 39) (pc' := 42) (same := false) rfl (hb hby at_39) rfl (decide_eq_false fun q => ne_w_PAYLOAD_w_NOTHING (Value.ref.inj q)) (by decide) (by decide) ?_
    show Steps p.tables e below (T4.setTop (mkF m 42 #[.val (.int p0), .val (.int (7 : Int32)), .val (.ref w_CONSUMER), .val (.int (1 : Int32)), .val (.int (1 : Int32)), .unset, .unset] [(.int (1 : Int32))])) _
    refine XS.iconst X4.here hx rfl (hb hby at_42) ?_
    show Steps p.tables e below (T4.setTop (mkF m 43 #[.val (.int p0), .val (.int (7 : Int32)), .val (.ref w_CONSUMER), .val (.int (1 : Int32)), .val (.int (1 : Int32)), .unset, .unset] [(.int (1 : Int32)), (.int (1 : Int32))])) _
    refine XS.goto X4.here hx rfl (pc0 := 43) (pc' := 47) rfl (hb hby at_43) (by decide) (by decide) ?_
    show Steps p.tables e below (T4.setTop (mkF m 47 #[.val (.int p0), .val (.int (7 : Int32)), .val (.ref w_CONSUMER), .val (.int (1 : Int32)), .val (.int (1 : Int32)), .unset, .unset] [(.int (1 : Int32)), (.int (1 : Int32))])) _
    refine XS.icmpNo X4.here hx rfl (hb hby at_47) rfl (teq (by decide : (1 : Int32) = (1 : Int32))).2 ?_
    show Steps p.tables e below (T4.setTop (mkF m 50 #[.val (.int p0), .val (.int (7 : Int32)), .val (.ref w_CONSUMER), .val (.int (1 : Int32)), .val (.int (1 : Int32)), .unset, .unset] [])) _
    refine XS.iconst X4.here hx rfl (hb hby at_50) ?_
    show Steps p.tables e below (T4.setTop (mkF m 51 #[.val (.int p0), .val (.int (7 : Int32)), .val (.ref w_CONSUMER), .val (.int (1 : Int32)), .val (.int (1 : Int32)), .unset, .unset] [(.int (1 : Int32))])) _
    refine XS.goto X4.here hx rfl (pc0 := 51) (pc' := 55) rfl (hb hby at_51) (by decide) (by decide) ?_
    show Steps p.tables e below (T4.setTop (mkF m 55 #[.val (.int p0), .val (.int (7 : Int32)), .val (.ref w_CONSUMER), .val (.int (1 : Int32)), .val (.int (1 : Int32)), .unset, .unset] [(.int (1 : Int32))])) _
    refine XS.istore X4.here hx rfl (hb hby at_55) rfl (l' := #[.val (.int p0), .val (.int (7 : Int32)), .val (.ref w_CONSUMER), .val (.int (1 : Int32)), .val (.int (1 : Int32)), .val (.int (1 : Int32)), .unset]) rfl ?_
    show Steps p.tables e below (T4.setTop (mkF m 57 #[.val (.int p0), .val (.int (7 : Int32)), .val (.ref w_CONSUMER), .val (.int (1 : Int32)), .val (.int (1 : Int32)), .val (.int (1 : Int32)), .unset] [])) _
    refine XS.iload X4.here hx rfl (hb hby at_57) rfl ?_
    show Steps p.tables e below (T4.setTop (mkF m 59 #[.val (.int p0), .val (.int (7 : Int32)), .val (.ref w_CONSUMER), .val (.int (1 : Int32)), .val (.int (1 : Int32)), .val (.int (1 : Int32)), .unset] [(.int (1 : Int32))])) _
    refine XS.ifYes X4.here hx rfl (pc0 := 59) (pc' := 69) rfl (hb hby at_59) rfl ((if0 _ _).trans (feq (by decide : ¬ ((1 : Int32) = (0 : Int32)))).2) (by decide) (by decide) ?_
    show Steps p.tables e below (T4.setTop (mkF m 69 #[.val (.int p0), .val (.int (7 : Int32)), .val (.ref w_CONSUMER), .val (.int (1 : Int32)), .val (.int (1 : Int32)), .val (.int (1 : Int32)), .unset] [])) _
    refine XS.iconst X4.here hx rfl (hb hby at_69) ?_
    show Steps p.tables e below (T4.setTop (mkF m 70 #[.val (.int p0), .val (.int (7 : Int32)), .val (.ref w_CONSUMER), .val (.int (1 : Int32)), .val (.int (1 : Int32)), .val (.int (1 : Int32)), .unset] [(.int (1 : Int32))])) _
    refine XS.goto X4.here hx rfl (pc0 := 70) (pc' := 74) rfl (hb hby at_70) (by decide) (by decide) ?_
    show Steps p.tables e below (T4.setTop (mkF m 74 #[.val (.int p0), .val (.int (7 : Int32)), .val (.ref w_CONSUMER), .val (.int (1 : Int32)), .val (.int (1 : Int32)), .val (.int (1 : Int32)), .unset] [(.int (1 : Int32))])) _
    refine XS.istore X4.here hx rfl (hb hby at_74) rfl (l' := #[.val (.int p0), .val (.int (7 : Int32)), .val (.ref w_CONSUMER), .val (.int (1 : Int32)), .val (.int (1 : Int32)), .val (.int (1 : Int32)), .val (.int (1 : Int32))]) rfl ?_
    show Steps p.tables e below (T4.setTop (mkF m 76 #[.val (.int p0), .val (.int (7 : Int32)), .val (.ref w_CONSUMER), .val (.int (1 : Int32)), .val (.int (1 : Int32)), .val (.int (1 : Int32)), .val (.int (1 : Int32))] [])) _
    refine XS.iload X4.here hx rfl (hb hby at_76) rfl ?_
    show Steps p.tables e below (T4.setTop (mkF m 78 #[.val (.int p0), .val (.int (7 : Int32)), .val (.ref w_CONSUMER), .val (.int (1 : Int32)), .val (.int (1 : Int32)), .val (.int (1 : Int32)), .val (.int (1 : Int32))] [(.int (1 : Int32))])) _
    refine XS.iloadN X4.here hx rfl (hb hby at_78) rfl ?_
    show Steps p.tables e below (T4.setTop (mkF m 79 #[.val (.int p0), .val (.int (7 : Int32)), .val (.ref w_CONSUMER), .val (.int (1 : Int32)), .val (.int (1 : Int32)), .val (.int (1 : Int32)), .val (.int (1 : Int32))] [(.int (1 : Int32)), (.int (1 : Int32))])) _
    refine XS.icmpNo X4.here hx rfl (hb hby at_79) rfl (teq (by decide : (1 : Int32) = (1 : Int32))).2 ?_
    show Steps p.tables e below (T4.setTop (mkF m 82 #[.val (.int p0), .val (.int (7 : Int32)), .val (.ref w_CONSUMER), .val (.int (1 : Int32)), .val (.int (1 : Int32)), .val (.int (1 : Int32)), .val (.int (1 : Int32))] [])) _
    refine XS.iload X4.here hx rfl (hb hby at_82) rfl ?_
    show Steps p.tables e below (T4.setTop (mkF m 84 #[.val (.int p0), .val (.int (7 : Int32)), .val (.ref w_CONSUMER), .val (.int (1 : Int32)), .val (.int (1 : Int32)), .val (.int (1 : Int32)), .val (.int (1 : Int32))] [(.int (1 : Int32))])) _
    refine XS.ifNo X4.here hx rfl (hb hby at_84) rfl ((if0 _ _).trans (feq (by decide : ¬ ((1 : Int32) = (0 : Int32)))).1) ?_
    show Steps p.tables e below (T4.setTop (mkF m 87 #[.val (.int p0), .val (.int (7 : Int32)), .val (.ref w_CONSUMER), .val (.int (1 : Int32)), .val (.int (1 : Int32)), .val (.int (1 : Int32)), .val (.int (1 : Int32))] [])) _
    refine XS.iload X4.here hx rfl (hb hby at_87) rfl ?_
    show Steps p.tables e below (T4.setTop (mkF m 89 #[.val (.int p0), .val (.int (7 : Int32)), .val (.ref w_CONSUMER), .val (.int (1 : Int32)), .val (.int (1 : Int32)), .val (.int (1 : Int32)), .val (.int (1 : Int32))] [(.int (1 : Int32))])) _
    refine XS.ifNo X4.here hx rfl (hb hby at_89) rfl ((if0 _ _).trans (feq (by decide : ¬ ((1 : Int32) = (0 : Int32)))).1) ?_
    show Steps p.tables e below (T4.setTop (mkF m 92 #[.val (.int p0), .val (.int (7 : Int32)), .val (.ref w_CONSUMER), .val (.int (1 : Int32)), .val (.int (1 : Int32)), .val (.int (1 : Int32)), .val (.int (1 : Int32))] [])) _
    refine XS.iconst X4.here hx rfl (hb hby at_92) ?_
    show Steps p.tables e below (T4.setTop (mkF m 93 #[.val (.int p0), .val (.int (7 : Int32)), .val (.ref w_CONSUMER), .val (.int (1 : Int32)), .val (.int (1 : Int32)), .val (.int (1 : Int32)), .val (.int (1 : Int32))] [(.int (1 : Int32))])) _
    refine XS.goto X4.here hx rfl (pc0 := 93) (pc' := 97) rfl (hb hby at_93) (by decide) (by decide) ?_
    show Steps p.tables e below (T4.setTop (mkF m 97 #[.val (.int p0), .val (.int (7 : Int32)), .val (.ref w_CONSUMER), .val (.int (1 : Int32)), .val (.int (1 : Int32)), .val (.int (1 : Int32)), .val (.int (1 : Int32))] [(.int (1 : Int32))])) _
    exact retN X4 hx (t := .boolean) Bd.returns (by simp) (hb hby at_97) hr
  · exact ⟨N3, rfl⟩
set_option maxRecDepth 65536 in
set_option maxHeartbeats 40000000 in
theorem rm1_8 (l : Launch) (Z : State) (a0 : Array Value) (hw : ∀ d ∈ tables_1, d.before a0 Z = true) (ws : List Jvm.Cond) (n0 : Nat) (h0 : Heap) (O : Old Z n0 h0) (w_PRODUCER : Addr) (w_NOTHING : Addr) (w_PAYLOAD : Addr) (w_PROCESSOR : Addr) (w_MESSAGE_STREAM : Addr) (w_MESSAGE : Addr) (w_PAYLOAD_STREAM : Addr) (w_CONSUMER : Addr) (w_ASYNC_PROCESSOR : Addr) (w_MESSAGE_CONSUMER : Addr) (w_ASYNC_MESSAGE_PROCESSOR : Addr) (w_MESSAGE_PROCESSOR : Addr) (W : OwW Z w_PRODUCER w_NOTHING w_PAYLOAD w_PROCESSOR w_MESSAGE_STREAM w_MESSAGE w_PAYLOAD_STREAM w_CONSUMER w_ASYNC_PROCESSOR w_MESSAGE_CONSUMER w_ASYNC_MESSAGE_PROCESSOR w_MESSAGE_PROCESSOR)  :
    OwCon l (⟨"com/example/aizu/aizu/channels/ShapeReadsPinLaw", "shapeAt", "(I)Lcom/example/aizu/aizu/channels/ChannelMethod$Shape;"⟩ : MethodName) method_3_code 1 (some (.object "com/example/aizu/aizu/channels/ChannelMethod$Shape")) ws ({ frames := 0, cells := 0, slots := 0, locals := 0 } : Room) #[(.int (8 : Int32))] Z h0 (OwQ (some (.ref w_MESSAGE_CONSUMER)) h0 n0) := by
  refine MetFree.of_bodySF (plainFor_of_name owpn1) hisR ?_
  intro p e s m args below meth c s₁ Bd hml0 hP hK
  obtain ⟨rfl, hZ, hh⟩ := hP
  have hx := Bd.exec
  have hby := Bd.bytes
  have hml : c.maxLocals = 1 := hml0
  have hown : s.vm.findClass "com/example/aizu/aizu/channels/ShapeReadsPinLaw" = some m.cls := findClass_of_methodNamed Bd.named
  have hnm := (name_of_methodNamed Bd.named Bd.method).1
  have X0 : Stand p l e ({ frames := 0, cells := 0, slots := 0, locals := 0 } : Room) s m #[(.int (8 : Int32))] below meth c s₁ [] 0 0 := Stand.of_body Bd
  have e0 : s₁.heap = h0 := by rw [← hh, Bd.state]; rfl
  have N0 := Fr.nil n0
  have WW := W
  obtain ⟨E_w_PRODUCER, E_w_NOTHING, E_w_PAYLOAD, E_w_PROCESSOR, E_w_MESSAGE_STREAM, E_w_MESSAGE, E_w_PAYLOAD_STREAM, E_w_CONSUMER, E_w_ASYNC_PROCESSOR, E_w_MESSAGE_CONSUMER, E_w_ASYNC_MESSAGE_PROCESSOR, E_w_MESSAGE_PROCESSOR, S_ChannelMethod_Shape_PRODUCER, S_ChannelMethod_Kind_NOTHING, F_w_PRODUCER_takes, S_ChannelMethod_Kind_PAYLOAD, F_w_PRODUCER_gives, F_w_PAYLOAD_ordinal, F_w_NOTHING_ordinal, S_ChannelMethod_Shape_PROCESSOR, F_w_PROCESSOR_takes, S_ChannelMethod_Shape_MESSAGE_STREAM, F_w_MESSAGE_STREAM_takes, S_ChannelMethod_Kind_MESSAGE, F_w_MESSAGE_STREAM_gives, F_w_MESSAGE_ordinal, S_ChannelMethod_Shape_PAYLOAD_STREAM, F_w_PAYLOAD_STREAM_takes, F_w_PAYLOAD_STREAM_gives, S_ChannelMethod_Shape_CONSUMER, F_w_CONSUMER_takes, S_ChannelMethod_Shape_ASYNC_PROCESSOR, F_w_ASYNC_PROCESSOR_takes, S_ChannelMethod_Shape_MESSAGE_CONSUMER, F_w_MESSAGE_CONSUMER_takes, S_ChannelMethod_Shape_ASYNC_MESSAGE_PROCESSOR, F_w_ASYNC_MESSAGE_PROCESSOR_takes, S_ChannelMethod_Shape_MESSAGE_PROCESSOR, F_w_MESSAGE_PROCESSOR_takes, F_w_PROCESSOR_gives, F_w_CONSUMER_gives, F_w_ASYNC_PROCESSOR_gives, F_w_MESSAGE_CONSUMER_gives, F_w_ASYNC_MESSAGE_PROCESSOR_gives, F_w_MESSAGE_PROCESSOR_gives, ne_w_PAYLOAD_w_NOTHING, ne_w_MESSAGE_w_NOTHING, -⟩ := WW
  have ef : entryFrame m #[(.int (8 : Int32))] 1 = mkF m 0 #[.val (.int (8 : Int32))] [] := by first | rfl | (simp [entryFrame, mkF, argsToLocals, Value.category]; done)
  have pre0 : ∀ t, Steps p.tables e below (s₁.setTop (mkF m 0 #[.val (.int (8 : Int32))] [])) t → Steps p.tables e below (s₁.setTop (entryFrame m #[(.int (8 : Int32))] 1)) t := fun t k => castTop ef k
  obtain ⟨T1, X1, e1, st1⟩ := getS2 X0 hx hZ hown (host := "") (Or.inl (hw _ (List.mem_of_getElem? (i := 43) rfl))) Via.refl e0 (S_ChannelMethod_Shape_MESSAGE_CONSUMER.ext O.2) (g := (mkF m 73 #[.val (.int (8 : Int32))] [])) rfl (hb hby d1_73)
  obtain ⟨fs, hr, hrun, hended, hW, hsame⟩ := X1.leave (v := some (.ref w_MESSAGE_CONSUMER)) (fun h => by rw [Bd.returns] at h; cases h)
  refine ⟨_, _, pre0 _ ?_, hrun, hended, _, _, rfl, ?_, ⟨_, rfl⟩, hW, hsame.mono (by decide) (by decide)⟩
  · show Steps p.tables e below (s₁.setTop (mkF m 0 #[.val (.int (8 : Int32))] [])) _
    refine XS.iloadN X0.here hx rfl (hb hby d1_0) rfl ?_
    show Steps p.tables e below (s₁.setTop (mkF m 1 #[.val (.int (8 : Int32))] [(.int (8 : Int32))])) _
    refine XS.ifYes X0.here hx rfl (pc0 := 1) (pc' := 8) rfl (hb hby d1_1) rfl ((if0 _ _).trans (feq (by decide : ¬ ((8 : Int32) = (0 : Int32)))).2) (by decide) (by decide) ?_
    show Steps p.tables e below (s₁.setTop (mkF m 8 #[.val (.int (8 : Int32))] [])) _
    refine XS.iloadN X0.here hx rfl (hb hby d1_8) rfl ?_
    show Steps p.tables e below (s₁.setTop (mkF m 9 #[.val (.int (8 : Int32))] [(.int (8 : Int32))])) _
    refine XS.iconst X0.here hx rfl (hb hby d1_9) ?_
    show Steps p.tables e below (s₁.setTop (mkF m 10 #[.val (.int (8 : Int32))] [(.int (1 : Int32)), (.int (8 : Int32))])) _
    refine XS.icmpYes X0.here hx rfl (pc0 := 10) (pc' := 17) rfl (hb hby d1_10) rfl (feq (by decide : ¬ ((8 : Int32) = (1 : Int32)))).2 (by decide) (by decide) ?_
    show Steps p.tables e below (s₁.setTop (mkF m 17 #[.val (.int (8 : Int32))] [])) _
    refine XS.iloadN X0.here hx rfl (hb hby d1_17) rfl ?_
    show Steps p.tables e below (s₁.setTop (mkF m 18 #[.val (.int (8 : Int32))] [(.int (8 : Int32))])) _
    refine XS.iconst X0.here hx rfl (hb hby d1_18) ?_
    show Steps p.tables e below (s₁.setTop (mkF m 19 #[.val (.int (8 : Int32))] [(.int (2 : Int32)), (.int (8 : Int32))])) _
    refine XS.icmpYes X0.here hx rfl (pc0 := 19) (pc' := 26) rfl (hb hby d1_19) rfl (feq (by decide : ¬ ((8 : Int32) = (2 : Int32)))).2 (by decide) (by decide) ?_
    show Steps p.tables e below (s₁.setTop (mkF m 26 #[.val (.int (8 : Int32))] [])) _
    refine XS.iloadN X0.here hx rfl (hb hby d1_26) rfl ?_
    show Steps p.tables e below (s₁.setTop (mkF m 27 #[.val (.int (8 : Int32))] [(.int (8 : Int32))])) _
    refine XS.iconst X0.here hx rfl (hb hby d1_27) ?_
    show Steps p.tables e below (s₁.setTop (mkF m 28 #[.val (.int (8 : Int32))] [(.int (3 : Int32)), (.int (8 : Int32))])) _
    refine XS.icmpYes X0.here hx rfl (pc0 := 28) (pc' := 35) rfl (hb hby d1_28) rfl (feq (by decide : ¬ ((8 : Int32) = (3 : Int32)))).2 (by decide) (by decide) ?_
    show Steps p.tables e below (s₁.setTop (mkF m 35 #[.val (.int (8 : Int32))] [])) _
    refine XS.iloadN X0.here hx rfl (hb hby d1_35) rfl ?_
    show Steps p.tables e below (s₁.setTop (mkF m 36 #[.val (.int (8 : Int32))] [(.int (8 : Int32))])) _
    refine XS.iconst X0.here hx rfl (hb hby d1_36) ?_
    show Steps p.tables e below (s₁.setTop (mkF m 37 #[.val (.int (8 : Int32))] [(.int (4 : Int32)), (.int (8 : Int32))])) _
    refine XS.icmpYes X0.here hx rfl (pc0 := 37) (pc' := 44) rfl (hb hby d1_37) rfl (feq (by decide : ¬ ((8 : Int32) = (4 : Int32)))).2 (by decide) (by decide) ?_
    show Steps p.tables e below (s₁.setTop (mkF m 44 #[.val (.int (8 : Int32))] [])) _
    refine XS.iloadN X0.here hx rfl (hb hby d1_44) rfl ?_
    show Steps p.tables e below (s₁.setTop (mkF m 45 #[.val (.int (8 : Int32))] [(.int (8 : Int32))])) _
    refine XS.iconst X0.here hx rfl (hb hby d1_45) ?_
    show Steps p.tables e below (s₁.setTop (mkF m 46 #[.val (.int (8 : Int32))] [(.int (5 : Int32)), (.int (8 : Int32))])) _
    refine XS.icmpYes X0.here hx rfl (pc0 := 46) (pc' := 53) rfl (hb hby d1_46) rfl (feq (by decide : ¬ ((8 : Int32) = (5 : Int32)))).2 (by decide) (by decide) ?_
    show Steps p.tables e below (s₁.setTop (mkF m 53 #[.val (.int (8 : Int32))] [])) _
    refine XS.iloadN X0.here hx rfl (hb hby d1_53) rfl ?_
    show Steps p.tables e below (s₁.setTop (mkF m 54 #[.val (.int (8 : Int32))] [(.int (8 : Int32))])) _
    refine XS.bipush X0.here hx rfl (hb hby d1_54) ?_
    show Steps p.tables e below (s₁.setTop (mkF m 56 #[.val (.int (8 : Int32))] [(.int (6 : Int32)), (.int (8 : Int32))])) _
    refine XS.icmpYes X0.here hx rfl (pc0 := 56) (pc' := 63) rfl (hb hby d1_56) rfl (feq (by decide : ¬ ((8 : Int32) = (6 : Int32)))).2 (by decide) (by decide) ?_
    show Steps p.tables e below (s₁.setTop (mkF m 63 #[.val (.int (8 : Int32))] [])) _
    refine XS.iloadN X0.here hx rfl (hb hby d1_63) rfl ?_
    show Steps p.tables e below (s₁.setTop (mkF m 64 #[.val (.int (8 : Int32))] [(.int (8 : Int32))])) _
    refine XS.bipush X0.here hx rfl (hb hby d1_64) ?_
    show Steps p.tables e below (s₁.setTop (mkF m 66 #[.val (.int (8 : Int32))] [(.int (7 : Int32)), (.int (8 : Int32))])) _
    refine XS.icmpYes X0.here hx rfl (pc0 := 66) (pc' := 73) rfl (hb hby d1_66) rfl (feq (by decide : ¬ ((8 : Int32) = (7 : Int32)))).2 (by decide) (by decide) ?_
    show Steps p.tables e below (s₁.setTop (mkF m 73 #[.val (.int (8 : Int32))] [])) _
    refine st1 _ ?_
    show Steps p.tables e below (T1.setTop (mkF m 76 #[.val (.int (8 : Int32))] [(.ref w_MESSAGE_CONSUMER)])) _
    exact retOut X1 hx Bd.returns rfl (Or.inr (Or.inr (Or.inr (Or.inr ⟨rfl, rfl, rfl⟩)))) (hb hby d1_76) hr
  · exact ⟨rfl, N0, e1⟩
set_option maxRecDepth 65536 in
set_option maxHeartbeats 40000000 in
theorem rm2_8 (l : Launch) (Z : State) (a0 : Array Value) (hw : ∀ d ∈ tables_1, d.before a0 Z = true) (ws : List Jvm.Cond) (n0 : Nat) (h0 : Heap) (O : Old Z n0 h0) (w_PRODUCER : Addr) (w_NOTHING : Addr) (w_PAYLOAD : Addr) (w_PROCESSOR : Addr) (w_MESSAGE_STREAM : Addr) (w_MESSAGE : Addr) (w_PAYLOAD_STREAM : Addr) (w_CONSUMER : Addr) (w_ASYNC_PROCESSOR : Addr) (w_MESSAGE_CONSUMER : Addr) (w_ASYNC_MESSAGE_PROCESSOR : Addr) (w_MESSAGE_PROCESSOR : Addr) (W : OwW Z w_PRODUCER w_NOTHING w_PAYLOAD w_PROCESSOR w_MESSAGE_STREAM w_MESSAGE w_PAYLOAD_STREAM w_CONSUMER w_ASYNC_PROCESSOR w_MESSAGE_CONSUMER w_ASYNC_MESSAGE_PROCESSOR w_MESSAGE_PROCESSOR)  :
    OwCon l (⟨"com/example/aizu/aizu/channels/ChannelMethod$Shape", "reads", "()Z"⟩ : MethodName) prog_6_method_7_code 1 (some .boolean) ws ({ frames := 0, cells := 0, slots := 0, locals := 0 } : Room) #[(.ref w_MESSAGE_CONSUMER)] Z h0 (OwQ (some (.int (1 : Int32))) h0 n0) := by
  refine MetFree.of_bodySF (plainFor_of_name owpn2) hisR ?_
  intro p e s m args below meth c s₁ Bd hml0 hP hK
  obtain ⟨rfl, hZ, hh⟩ := hP
  have hx := Bd.exec
  have hby := Bd.bytes
  have hml : c.maxLocals = 1 := hml0
  have hown : s.vm.findClass "com/example/aizu/aizu/channels/ChannelMethod$Shape" = some m.cls := findClass_of_methodNamed Bd.named
  have hnm := (name_of_methodNamed Bd.named Bd.method).1
  have X0 : Stand p l e ({ frames := 0, cells := 0, slots := 0, locals := 0 } : Room) s m #[(.ref w_MESSAGE_CONSUMER)] below meth c s₁ [] 0 0 := Stand.of_body Bd
  have e0 : s₁.heap = h0 := by rw [← hh, Bd.state]; rfl
  have N0 := Fr.nil n0
  have WW := W
  obtain ⟨E_w_PRODUCER, E_w_NOTHING, E_w_PAYLOAD, E_w_PROCESSOR, E_w_MESSAGE_STREAM, E_w_MESSAGE, E_w_PAYLOAD_STREAM, E_w_CONSUMER, E_w_ASYNC_PROCESSOR, E_w_MESSAGE_CONSUMER, E_w_ASYNC_MESSAGE_PROCESSOR, E_w_MESSAGE_PROCESSOR, S_ChannelMethod_Shape_PRODUCER, S_ChannelMethod_Kind_NOTHING, F_w_PRODUCER_takes, S_ChannelMethod_Kind_PAYLOAD, F_w_PRODUCER_gives, F_w_PAYLOAD_ordinal, F_w_NOTHING_ordinal, S_ChannelMethod_Shape_PROCESSOR, F_w_PROCESSOR_takes, S_ChannelMethod_Shape_MESSAGE_STREAM, F_w_MESSAGE_STREAM_takes, S_ChannelMethod_Kind_MESSAGE, F_w_MESSAGE_STREAM_gives, F_w_MESSAGE_ordinal, S_ChannelMethod_Shape_PAYLOAD_STREAM, F_w_PAYLOAD_STREAM_takes, F_w_PAYLOAD_STREAM_gives, S_ChannelMethod_Shape_CONSUMER, F_w_CONSUMER_takes, S_ChannelMethod_Shape_ASYNC_PROCESSOR, F_w_ASYNC_PROCESSOR_takes, S_ChannelMethod_Shape_MESSAGE_CONSUMER, F_w_MESSAGE_CONSUMER_takes, S_ChannelMethod_Shape_ASYNC_MESSAGE_PROCESSOR, F_w_ASYNC_MESSAGE_PROCESSOR_takes, S_ChannelMethod_Shape_MESSAGE_PROCESSOR, F_w_MESSAGE_PROCESSOR_takes, F_w_PROCESSOR_gives, F_w_CONSUMER_gives, F_w_ASYNC_PROCESSOR_gives, F_w_MESSAGE_CONSUMER_gives, F_w_ASYNC_MESSAGE_PROCESSOR_gives, F_w_MESSAGE_PROCESSOR_gives, ne_w_PAYLOAD_w_NOTHING, ne_w_MESSAGE_w_NOTHING, -⟩ := WW
  have ef : entryFrame m #[(.ref w_MESSAGE_CONSUMER)] 1 = mkF m 0 #[.val (.ref w_MESSAGE_CONSUMER)] [] := by first | rfl | (simp [entryFrame, mkF, argsToLocals, Value.category]; done)
  have pre0 : ∀ t, Steps p.tables e below (s₁.setTop (mkF m 0 #[.val (.ref w_MESSAGE_CONSUMER)] [])) t → Steps p.tables e below (s₁.setTop (entryFrame m #[(.ref w_MESSAGE_CONSUMER)] 1)) t := fun t k => castTop ef k
  obtain ⟨T1, X1, e1, st1⟩ := getF X0 hx hZ hown (host := "") (Or.inl (hw _ (List.mem_of_getElem? (i := 13) rfl))) Via.refl e0 (F_w_MESSAGE_CONSUMER_takes.ext O.2) (g := (mkF m 1 #[.val (.ref w_MESSAGE_CONSUMER)] [(.ref w_MESSAGE_CONSUMER)])) rfl rfl (hb hby d2_1)
  obtain ⟨T2, X2, e2, st2⟩ := getS2 X1 hx hZ hown (host := "") (Or.inl (hw _ (List.mem_of_getElem? (i := 17) rfl))) Via.refl e1 (S_ChannelMethod_Kind_NOTHING.ext O.2) (g := (mkF m 4 #[.val (.ref w_MESSAGE_CONSUMER)] [(.ref w_MESSAGE)])) rfl (hb hby d2_4)
  obtain ⟨fs, hr, hrun, hended, hW, hsame⟩ := X2.leave (v := some (.int (1 : Int32))) (fun h => by rw [Bd.returns] at h; cases h)
  refine ⟨_, _, pre0 _ ?_, hrun, hended, _, _, rfl, ?_, ⟨_, rfl⟩, hW, hsame.mono (by decide) (by decide)⟩
  · show Steps p.tables e below (s₁.setTop (mkF m 0 #[.val (.ref w_MESSAGE_CONSUMER)] [])) _
    refine XS.aloadN X0.here hx rfl (hb hby d2_0) rfl rfl ?_
    show Steps p.tables e below (s₁.setTop (mkF m 1 #[.val (.ref w_MESSAGE_CONSUMER)] [(.ref w_MESSAGE_CONSUMER)])) _
    refine st1 _ ?_
    show Steps p.tables e below (T1.setTop (mkF m 4 #[.val (.ref w_MESSAGE_CONSUMER)] [(.ref w_MESSAGE)])) _
    refine st2 _ ?_
    show Steps p.tables e below (T2.setTop (mkF m 7 #[.val (.ref w_MESSAGE_CONSUMER)] [(.ref w_NOTHING), (.ref w_MESSAGE)])) _
    refine Jvm.RoadKit.acmp (g := (mkF m 7 #[.val (.ref w_MESSAGE_CONSUMER)] [(.ref w_NOTHING), (.ref w_MESSAGE)])) X2 hx rfl rfl rfl (pc0 := 7) (pc' := 10) (same := false) rfl (hb hby d2_7) rfl (decide_eq_false fun q => ne_w_MESSAGE_w_NOTHING (Value.ref.inj q)) (by decide) (by decide) ?_
    show Steps p.tables e below (T2.setTop (mkF m 10 #[.val (.ref w_MESSAGE_CONSUMER)] [])) _
    refine XS.iconst X2.here hx rfl (hb hby d2_10) ?_
    show Steps p.tables e below (T2.setTop (mkF m 11 #[.val (.ref w_MESSAGE_CONSUMER)] [(.int (1 : Int32))])) _
    refine XS.goto X2.here hx rfl (pc0 := 11) (pc' := 15) rfl (hb hby d2_11) (by decide) (by decide) ?_
    show Steps p.tables e below (T2.setTop (mkF m 15 #[.val (.ref w_MESSAGE_CONSUMER)] [(.int (1 : Int32))])) _
    exact retN X2 hx (t := .boolean) Bd.returns (by simp) (hb hby d2_15) hr
  · exact ⟨rfl, N0, e2⟩
set_option maxRecDepth 65536 in
set_option maxHeartbeats 40000000 in
theorem rm3_8 (l : Launch) (Z : State) (a0 : Array Value) (hw : ∀ d ∈ tables_1, d.before a0 Z = true) (ws : List Jvm.Cond) (n0 : Nat) (h0 : Heap) (O : Old Z n0 h0) (w_PRODUCER : Addr) (w_NOTHING : Addr) (w_PAYLOAD : Addr) (w_PROCESSOR : Addr) (w_MESSAGE_STREAM : Addr) (w_MESSAGE : Addr) (w_PAYLOAD_STREAM : Addr) (w_CONSUMER : Addr) (w_ASYNC_PROCESSOR : Addr) (w_MESSAGE_CONSUMER : Addr) (w_ASYNC_MESSAGE_PROCESSOR : Addr) (w_MESSAGE_PROCESSOR : Addr) (W : OwW Z w_PRODUCER w_NOTHING w_PAYLOAD w_PROCESSOR w_MESSAGE_STREAM w_MESSAGE w_PAYLOAD_STREAM w_CONSUMER w_ASYNC_PROCESSOR w_MESSAGE_CONSUMER w_ASYNC_MESSAGE_PROCESSOR w_MESSAGE_PROCESSOR)  :
    OwCon l (⟨"com/example/aizu/aizu/channels/ChannelMethod$Shape", "takes", "()Lcom/example/aizu/aizu/channels/ChannelMethod$Kind;"⟩ : MethodName) prog_6_method_4_code 1 (some (.object "com/example/aizu/aizu/channels/ChannelMethod$Kind")) ws ({ frames := 0, cells := 0, slots := 0, locals := 0 } : Room) #[(.ref w_MESSAGE_CONSUMER)] Z h0 (OwQ (some (.ref w_MESSAGE)) h0 n0) := by
  refine MetFree.of_bodySF (plainFor_of_name owpn3) hisR ?_
  intro p e s m args below meth c s₁ Bd hml0 hP hK
  obtain ⟨rfl, hZ, hh⟩ := hP
  have hx := Bd.exec
  have hby := Bd.bytes
  have hml : c.maxLocals = 1 := hml0
  have hown : s.vm.findClass "com/example/aizu/aizu/channels/ChannelMethod$Shape" = some m.cls := findClass_of_methodNamed Bd.named
  have hnm := (name_of_methodNamed Bd.named Bd.method).1
  have X0 : Stand p l e ({ frames := 0, cells := 0, slots := 0, locals := 0 } : Room) s m #[(.ref w_MESSAGE_CONSUMER)] below meth c s₁ [] 0 0 := Stand.of_body Bd
  have e0 : s₁.heap = h0 := by rw [← hh, Bd.state]; rfl
  have N0 := Fr.nil n0
  have WW := W
  obtain ⟨E_w_PRODUCER, E_w_NOTHING, E_w_PAYLOAD, E_w_PROCESSOR, E_w_MESSAGE_STREAM, E_w_MESSAGE, E_w_PAYLOAD_STREAM, E_w_CONSUMER, E_w_ASYNC_PROCESSOR, E_w_MESSAGE_CONSUMER, E_w_ASYNC_MESSAGE_PROCESSOR, E_w_MESSAGE_PROCESSOR, S_ChannelMethod_Shape_PRODUCER, S_ChannelMethod_Kind_NOTHING, F_w_PRODUCER_takes, S_ChannelMethod_Kind_PAYLOAD, F_w_PRODUCER_gives, F_w_PAYLOAD_ordinal, F_w_NOTHING_ordinal, S_ChannelMethod_Shape_PROCESSOR, F_w_PROCESSOR_takes, S_ChannelMethod_Shape_MESSAGE_STREAM, F_w_MESSAGE_STREAM_takes, S_ChannelMethod_Kind_MESSAGE, F_w_MESSAGE_STREAM_gives, F_w_MESSAGE_ordinal, S_ChannelMethod_Shape_PAYLOAD_STREAM, F_w_PAYLOAD_STREAM_takes, F_w_PAYLOAD_STREAM_gives, S_ChannelMethod_Shape_CONSUMER, F_w_CONSUMER_takes, S_ChannelMethod_Shape_ASYNC_PROCESSOR, F_w_ASYNC_PROCESSOR_takes, S_ChannelMethod_Shape_MESSAGE_CONSUMER, F_w_MESSAGE_CONSUMER_takes, S_ChannelMethod_Shape_ASYNC_MESSAGE_PROCESSOR, F_w_ASYNC_MESSAGE_PROCESSOR_takes, S_ChannelMethod_Shape_MESSAGE_PROCESSOR, F_w_MESSAGE_PROCESSOR_takes, F_w_PROCESSOR_gives, F_w_CONSUMER_gives, F_w_ASYNC_PROCESSOR_gives, F_w_MESSAGE_CONSUMER_gives, F_w_ASYNC_MESSAGE_PROCESSOR_gives, F_w_MESSAGE_PROCESSOR_gives, ne_w_PAYLOAD_w_NOTHING, ne_w_MESSAGE_w_NOTHING, -⟩ := WW
  have ef : entryFrame m #[(.ref w_MESSAGE_CONSUMER)] 1 = mkF m 0 #[.val (.ref w_MESSAGE_CONSUMER)] [] := by first | rfl | (simp [entryFrame, mkF, argsToLocals, Value.category]; done)
  have pre0 : ∀ t, Steps p.tables e below (s₁.setTop (mkF m 0 #[.val (.ref w_MESSAGE_CONSUMER)] [])) t → Steps p.tables e below (s₁.setTop (entryFrame m #[(.ref w_MESSAGE_CONSUMER)] 1)) t := fun t k => castTop ef k
  obtain ⟨T1, X1, e1, st1⟩ := getF X0 hx hZ hown (host := "") (Or.inl (hw _ (List.mem_of_getElem? (i := 13) rfl))) Via.refl e0 (F_w_MESSAGE_CONSUMER_takes.ext O.2) (g := (mkF m 1 #[.val (.ref w_MESSAGE_CONSUMER)] [(.ref w_MESSAGE_CONSUMER)])) rfl rfl (hb hby d3_1)
  obtain ⟨fs, hr, hrun, hended, hW, hsame⟩ := X1.leave (v := some (.ref w_MESSAGE)) (fun h => by rw [Bd.returns] at h; cases h)
  refine ⟨_, _, pre0 _ ?_, hrun, hended, _, _, rfl, ?_, ⟨_, rfl⟩, hW, hsame.mono (by decide) (by decide)⟩
  · show Steps p.tables e below (s₁.setTop (mkF m 0 #[.val (.ref w_MESSAGE_CONSUMER)] [])) _
    refine XS.aloadN X0.here hx rfl (hb hby d3_0) rfl rfl ?_
    show Steps p.tables e below (s₁.setTop (mkF m 1 #[.val (.ref w_MESSAGE_CONSUMER)] [(.ref w_MESSAGE_CONSUMER)])) _
    refine st1 _ ?_
    show Steps p.tables e below (T1.setTop (mkF m 4 #[.val (.ref w_MESSAGE_CONSUMER)] [(.ref w_MESSAGE)])) _
    exact retOut X1 hx Bd.returns rfl (Or.inr (Or.inr (Or.inr (Or.inr ⟨rfl, rfl, rfl⟩)))) (hb hby d3_4) hr
  · exact ⟨rfl, N0, e1⟩
set_option maxRecDepth 65536 in
set_option maxHeartbeats 40000000 in
theorem rm0_8 (l : Launch) (Z : State) (a0 : Array Value) (hw : ∀ d ∈ tables_1, d.before a0 Z = true) (ws : List Jvm.Cond) (n0 : Nat) (h0 : Heap) (O : Old Z n0 h0) (w_PRODUCER : Addr) (w_NOTHING : Addr) (w_PAYLOAD : Addr) (w_PROCESSOR : Addr) (w_MESSAGE_STREAM : Addr) (w_MESSAGE : Addr) (w_PAYLOAD_STREAM : Addr) (w_CONSUMER : Addr) (w_ASYNC_PROCESSOR : Addr) (w_MESSAGE_CONSUMER : Addr) (w_ASYNC_MESSAGE_PROCESSOR : Addr) (w_MESSAGE_PROCESSOR : Addr) (W : OwW Z w_PRODUCER w_NOTHING w_PAYLOAD w_PROCESSOR w_MESSAGE_STREAM w_MESSAGE w_PAYLOAD_STREAM w_CONSUMER w_ASYNC_PROCESSOR w_MESSAGE_CONSUMER w_ASYNC_MESSAGE_PROCESSOR w_MESSAGE_PROCESSOR) (p0 : Int32) (hi : (p0 &&& (2147483647 : Int32)) % (9 : Int32) = (8 : Int32)) :
    OwCon l x code maxLocals ret ws room_1 #[(.int p0)] Z h0 (OwP (fun v _ => v = some (.int 1)) n0) := by
  refine MetFree.of_bodySF (plainFor_of_name owpn0) hisR ?_
  intro p e s m args below meth c s₁ Bd hml0 hP hK
  obtain ⟨rfl, hZ, hh⟩ := hP
  have hx := Bd.exec
  have hby := Bd.bytes
  have hml : c.maxLocals = 7 := hml0
  have hown : s.vm.findClass "com/example/aizu/aizu/channels/ShapeReadsPinLaw" = some m.cls := findClass_of_methodNamed Bd.named
  have hnm := (name_of_methodNamed Bd.named Bd.method).1
  have X0 : Stand p l e room_1 s m #[(.int p0)] below meth c s₁ [] 0 0 := Stand.of_body Bd
  have e0 : s₁.heap = h0 := by rw [← hh, Bd.state]; rfl
  have N0 := Fr.nil n0
  have WW := W
  obtain ⟨E_w_PRODUCER, E_w_NOTHING, E_w_PAYLOAD, E_w_PROCESSOR, E_w_MESSAGE_STREAM, E_w_MESSAGE, E_w_PAYLOAD_STREAM, E_w_CONSUMER, E_w_ASYNC_PROCESSOR, E_w_MESSAGE_CONSUMER, E_w_ASYNC_MESSAGE_PROCESSOR, E_w_MESSAGE_PROCESSOR, S_ChannelMethod_Shape_PRODUCER, S_ChannelMethod_Kind_NOTHING, F_w_PRODUCER_takes, S_ChannelMethod_Kind_PAYLOAD, F_w_PRODUCER_gives, F_w_PAYLOAD_ordinal, F_w_NOTHING_ordinal, S_ChannelMethod_Shape_PROCESSOR, F_w_PROCESSOR_takes, S_ChannelMethod_Shape_MESSAGE_STREAM, F_w_MESSAGE_STREAM_takes, S_ChannelMethod_Kind_MESSAGE, F_w_MESSAGE_STREAM_gives, F_w_MESSAGE_ordinal, S_ChannelMethod_Shape_PAYLOAD_STREAM, F_w_PAYLOAD_STREAM_takes, F_w_PAYLOAD_STREAM_gives, S_ChannelMethod_Shape_CONSUMER, F_w_CONSUMER_takes, S_ChannelMethod_Shape_ASYNC_PROCESSOR, F_w_ASYNC_PROCESSOR_takes, S_ChannelMethod_Shape_MESSAGE_CONSUMER, F_w_MESSAGE_CONSUMER_takes, S_ChannelMethod_Shape_ASYNC_MESSAGE_PROCESSOR, F_w_ASYNC_MESSAGE_PROCESSOR_takes, S_ChannelMethod_Shape_MESSAGE_PROCESSOR, F_w_MESSAGE_PROCESSOR_takes, F_w_PROCESSOR_gives, F_w_CONSUMER_gives, F_w_ASYNC_PROCESSOR_gives, F_w_MESSAGE_CONSUMER_gives, F_w_ASYNC_MESSAGE_PROCESSOR_gives, F_w_MESSAGE_PROCESSOR_gives, ne_w_PAYLOAD_w_NOTHING, ne_w_MESSAGE_w_NOTHING, -⟩ := WW
  have ef : entryFrame m #[(.int p0)] maxLocals = mkF m 0 #[.val (.int p0), .unset, .unset, .unset, .unset, .unset, .unset] [] := by first | rfl | (simp [entryFrame, mkF, argsToLocals, Value.category, maxLocals]; done)
  have pre0 : ∀ t, Steps p.tables e below (s₁.setTop (mkF m 0 #[.val (.int p0), .unset, .unset, .unset, .unset, .unset, .unset] [])) t → Steps p.tables e below (s₁.setTop (entryFrame m #[(.int p0)] maxLocals)) t := fun t k => castTop ef k
  obtain ⟨_, _, ⟨T1, L1, k1, n1⟩, -, X1, ⟨Lc1, hQ1, l1, y1, z1⟩, st1⟩ := Jvm.LawKit.callS X0 hx (y := (⟨"com/example/aizu/aizu/channels/ShapeReadsPinLaw", "shapeAt", "(I)Lcom/example/aizu/aizu/channels/ChannelMethod$Shape;"⟩ : MethodName)) hown (mvT hZ (hw _ (List.mem_of_getElem? (i := 1) rfl))) (mvT hZ (hw _ (List.mem_of_getElem? (i := 2) rfl))) (mvT hZ (hw _ (List.mem_of_getElem? (i := 3) rfl))) (mvT hZ (hw _ (List.mem_of_getElem? (i := 4) rfl))) (by decide) (backOf (W := 0) (rm1_8 l Z a0 hw [] n0 h0 O w_PRODUCER w_NOTHING w_PAYLOAD w_PROCESSOR w_MESSAGE_STREAM w_MESSAGE w_PAYLOAD_STREAM w_CONSUMER w_ASYNC_PROCESSOR w_MESSAGE_CONSUMER w_ASYNC_MESSAGE_PROCESSOR w_MESSAGE_PROCESSOR W  ) hZ (hw _ (List.mem_of_getElem? (i := 4) rfl)) (hw _ (List.mem_of_getElem? (i := 3) rfl)) (by decide) (by decide)) (g := (mkF m 9 #[.val (.int p0), .val (.int (8 : Int32)), .unset, .unset, .unset, .unset, .unset] [(.int (8 : Int32))])) rfl (by rw [hml]; rfl) (argsL := [(.int (8 : Int32))]) (rest := []) (lenOf owpd0 rfl) rfl (by show 2 * 0 + _ ≤ _; exact Nat.le_of_eq rfl) (hb hby at_9) (fun _ _ => ⟨rfl, e0, (by decide : 0 + 0 ≤ _), (by decide : 0 + 0 ≤ _)⟩)
  dsimp only [Pt.U, Pt.locs, Pt.cells, Pt.slots] at X1 l1 y1 z1 st1 hQ1
  subst l1 y1 z1
  obtain ⟨rfl, Nq1, e1⟩ := hQ1
  have N1 := Fr.app N0 Nq1
  obtain ⟨cq2, kq2, q2a, q2b, q2c⟩ := isOf hZ e1 (E_w_MESSAGE_CONSUMER.ext O.2)
  obtain ⟨_, _, ⟨T2, L2, k2, n2⟩, -, X2, ⟨Lc2, hQ2, l2, y2, z2⟩, st2⟩ := X1.virtualBack hx (y := (⟨"com/example/aizu/aizu/channels/ChannelMethod$Shape", "reads", "()Z"⟩ : MethodName)) (z := (⟨"com/example/aizu/aizu/channels/ChannelMethod$Shape", "reads", "()Z"⟩ : MethodName)) hown (mvT hZ (hw _ (List.mem_of_getElem? (i := 8) rfl))) (mvT hZ (hw _ (List.mem_of_getElem? (i := 9) rfl))) (notFace_of_selects (args := #[]) (mvT hZ (hw _ (List.mem_of_getElem? (i := 11) rfl)))) (mvT hZ (hw _ (List.mem_of_getElem? (i := 11) rfl))) (mvT hZ (hw _ (List.mem_of_getElem? (i := 10) rfl))) (by decide) (backOf (W := 0) (rm2_8 l Z a0 hw [] n0 h0 O w_PRODUCER w_NOTHING w_PAYLOAD w_PROCESSOR w_MESSAGE_STREAM w_MESSAGE w_PAYLOAD_STREAM w_CONSUMER w_ASYNC_PROCESSOR w_MESSAGE_CONSUMER w_ASYNC_MESSAGE_PROCESSOR w_MESSAGE_PROCESSOR W  ) hZ (hw _ (List.mem_of_getElem? (i := 12) rfl)) (hw _ (List.mem_of_getElem? (i := 6) rfl)) (by decide) (by decide)) q2a q2c (g := (mkF m 25 #[.val (.int p0), .val (.int (8 : Int32)), .val (.ref w_MESSAGE_CONSUMER), .val (.int (1 : Int32)), .unset, .unset, .unset] [(.ref w_MESSAGE_CONSUMER)])) rfl (by rw [hml]; rfl) (Steps.refl _) (argsL := []) (rest := []) (lenOf owpd1 rfl) rfl (by show 2 * 0 + _ ≤ _; exact Nat.le_of_eq rfl) (hb hby at_25) (fun _ _ => ⟨rfl, e1, (by decide : 0 + 0 ≤ _), (by decide : 0 + 0 ≤ _)⟩)
  dsimp only [Pt.U, Pt.locs, Pt.cells, Pt.slots] at X2 l2 y2 z2 st2 hQ2
  subst l2 y2 z2
  obtain ⟨rfl, Nq2, e2⟩ := hQ2
  have N2 := Fr.app N1 Nq2
  obtain ⟨cq3, kq3, q3a, q3b, q3c⟩ := isOf hZ e2 (E_w_MESSAGE_CONSUMER.ext O.2)
  obtain ⟨_, _, ⟨T3, L3, k3, n3⟩, -, X3, ⟨Lc3, hQ3, l3, y3, z3⟩, st3⟩ := X2.virtualBack hx (y := (⟨"com/example/aizu/aizu/channels/ChannelMethod$Shape", "takes", "()Lcom/example/aizu/aizu/channels/ChannelMethod$Kind;"⟩ : MethodName)) (z := (⟨"com/example/aizu/aizu/channels/ChannelMethod$Shape", "takes", "()Lcom/example/aizu/aizu/channels/ChannelMethod$Kind;"⟩ : MethodName)) hown (mvT hZ (hw _ (List.mem_of_getElem? (i := 18) rfl))) (mvT hZ (hw _ (List.mem_of_getElem? (i := 19) rfl))) (notFace_of_selects (args := #[]) (mvT hZ (hw _ (List.mem_of_getElem? (i := 21) rfl)))) (mvT hZ (hw _ (List.mem_of_getElem? (i := 21) rfl))) (mvT hZ (hw _ (List.mem_of_getElem? (i := 20) rfl))) (by decide) (backOf (W := 1) (rm3_8 l Z a0 hw [] n0 h0 O w_PRODUCER w_NOTHING w_PAYLOAD w_PROCESSOR w_MESSAGE_STREAM w_MESSAGE w_PAYLOAD_STREAM w_CONSUMER w_ASYNC_PROCESSOR w_MESSAGE_CONSUMER w_ASYNC_MESSAGE_PROCESSOR w_MESSAGE_PROCESSOR W  ) hZ (hw _ (List.mem_of_getElem? (i := 22) rfl)) (hw _ (List.mem_of_getElem? (i := 6) rfl)) (by decide) (by decide)) q3a q3c (g := (mkF m 33 #[.val (.int p0), .val (.int (8 : Int32)), .val (.ref w_MESSAGE_CONSUMER), .val (.int (1 : Int32)), .val (.int (1 : Int32)), .unset, .unset] [(.ref w_MESSAGE_CONSUMER), (.int (1 : Int32))])) rfl (by rw [hml]; rfl) (Steps.refl _) (argsL := []) (rest := [(.int (1 : Int32))]) (lenOf owpd2 rfl) rfl (by show 2 * 0 + _ ≤ _; exact Nat.le_of_eq rfl) (hb hby at_33) (fun _ _ => ⟨rfl, e2, (by decide : 0 + 0 ≤ _), (by decide : 0 + 0 ≤ _)⟩)
  dsimp only [Pt.U, Pt.locs, Pt.cells, Pt.slots] at X3 l3 y3 z3 st3 hQ3
  subst l3 y3 z3
  obtain ⟨rfl, Nq3, e3⟩ := hQ3
  have N3 := Fr.app N2 Nq3
  obtain ⟨T4, X4, e4, st4⟩ := getS2 X3 hx hZ hown (host := "") (Or.inl (hw _ (List.mem_of_getElem? (i := 23) rfl))) Via.refl e3 (S_ChannelMethod_Kind_NOTHING.ext O.2) (g := (mkF m 36 #[.val (.int p0), .val (.int (8 : Int32)), .val (.ref w_MESSAGE_CONSUMER), .val (.int (1 : Int32)), .val (.int (1 : Int32)), .unset, .unset] [(.ref w_MESSAGE), (.int (1 : Int32))])) rfl (hb hby at_36)
  obtain ⟨fs, hr, hrun, hended, hW, hsame⟩ := X4.leave (v := some (.int (1 : Int32))) (fun h => by rw [Bd.returns] at h; cases h)
  refine ⟨_, _, pre0 _ ?_, hrun, hended, _, _, rfl, ?_, ⟨_, rfl⟩, hW, hsame.mono (by decide) (by decide)⟩
  · show Steps p.tables e below (s₁.setTop (mkF m 0 #[.val (.int p0), .unset, .unset, .unset, .unset, .unset, .unset] [])) _
    refine XS.iloadN X0.here hx rfl (hb hby at_0) rfl ?_
    show Steps p.tables e below (s₁.setTop (mkF m 1 #[.val (.int p0), .unset, .unset, .unset, .unset, .unset, .unset] [(.int p0)])) _
    refine X0.ldcInt hx hown (mvT hZ (hw _ (List.mem_of_getElem? (i := 0) rfl))) (g := (mkF m 1 #[.val (.int p0), .unset, .unset, .unset, .unset, .unset, .unset] [(.int p0)])) rfl (hb hby at_1) _ ?_
    show Steps p.tables e below (s₁.setTop (mkF m 3 #[.val (.int p0), .unset, .unset, .unset, .unset, .unset, .unset] [(.int (2147483647 : Int32)), (.int p0)])) _
    refine XS.iand X0.here hx rfl (hb hby at_3) rfl ?_
    show Steps p.tables e below (s₁.setTop (mkF m 4 #[.val (.int p0), .unset, .unset, .unset, .unset, .unset, .unset] [(.int (p0 &&& (2147483647 : Int32)))])) _
    refine XS.bipush X0.here hx rfl (hb hby at_4) ?_
    show Steps p.tables e below (s₁.setTop (mkF m 6 #[.val (.int p0), .unset, .unset, .unset, .unset, .unset, .unset] [(.int (9 : Int32)), (.int (p0 &&& (2147483647 : Int32)))])) _
    refine iremM X0 hx rfl (hb hby at_6) rfl (by decide) ?_
    show Steps p.tables e below (s₁.setTop (mkF m 7 #[.val (.int p0), .unset, .unset, .unset, .unset, .unset, .unset] [(.int ((p0 &&& (2147483647 : Int32)) % (9 : Int32)))])) _
    rw [hi]
    show Steps p.tables e below (s₁.setTop (mkF m 7 #[.val (.int p0), .unset, .unset, .unset, .unset, .unset, .unset] [(.int (8 : Int32))])) _
    refine XS.istoreN X0.here hx rfl (hb hby at_7) rfl (l' := #[.val (.int p0), .val (.int (8 : Int32)), .unset, .unset, .unset, .unset, .unset]) rfl ?_
    show Steps p.tables e below (s₁.setTop (mkF m 8 #[.val (.int p0), .val (.int (8 : Int32)), .unset, .unset, .unset, .unset, .unset] [])) _
    refine XS.iloadN X0.here hx rfl (hb hby at_8) rfl ?_
    show Steps p.tables e below (s₁.setTop (mkF m 9 #[.val (.int p0), .val (.int (8 : Int32)), .unset, .unset, .unset, .unset, .unset] [(.int (8 : Int32))])) _
    refine st1 _ ?_
    show Steps p.tables e below (T1.setTop (mkF m 12 #[.val (.int p0), .val (.int (8 : Int32)), .unset, .unset, .unset, .unset, .unset] [(.ref w_MESSAGE_CONSUMER)])) _
    refine XS.astoreN X1.here hx rfl (hb hby at_12) rfl rfl (l' := #[.val (.int p0), .val (.int (8 : Int32)), .val (.ref w_MESSAGE_CONSUMER), .unset, .unset, .unset, .unset]) rfl ?_
    show Steps p.tables e below (T1.setTop (mkF m 13 #[.val (.int p0), .val (.int (8 : Int32)), .val (.ref w_MESSAGE_CONSUMER), .unset, .unset, .unset, .unset] [])) _
    refine XS.iloadN X1.here hx rfl (hb hby at_13) rfl ?_
    show Steps p.tables e below (T1.setTop (mkF m 14 #[.val (.int p0), .val (.int (8 : Int32)), .val (.ref w_MESSAGE_CONSUMER), .unset, .unset, .unset, .unset] [(.int (8 : Int32))])) _
    refine XS.iconst X1.here hx rfl (hb hby at_14) ?_
    show Steps p.tables e below (T1.setTop (mkF m 15 #[.val (.int p0), .val (.int (8 : Int32)), .val (.ref w_MESSAGE_CONSUMER), .unset, .unset, .unset, .unset] [(.int (3 : Int32)), (.int (8 : Int32))])) _
    refine XS.icmpNo X1.here hx rfl (hb hby at_15) rfl (flt (by decide : ¬ ((8 : Int32) < (3 : Int32)))).1 ?_
    show Steps p.tables e below (T1.setTop (mkF m 18 #[.val (.int p0), .val (.int (8 : Int32)), .val (.ref w_MESSAGE_CONSUMER), .unset, .unset, .unset, .unset] [])) _
    refine XS.iconst X1.here hx rfl (hb hby at_18) ?_
    show Steps p.tables e below (T1.setTop (mkF m 19 #[.val (.int p0), .val (.int (8 : Int32)), .val (.ref w_MESSAGE_CONSUMER), .unset, .unset, .unset, .unset] [(.int (1 : Int32))])) _
    refine XS.goto X1.here hx rfl (pc0 := 19) (pc' := 23) rfl (hb hby at_19) (by decide) (by decide) ?_
    show Steps p.tables e below (T1.setTop (mkF m 23 #[.val (.int p0), .val (.int (8 : Int32)), .val (.ref w_MESSAGE_CONSUMER), .unset, .unset, .unset, .unset] [(.int (1 : Int32))])) _
    refine XS.istoreN X1.here hx rfl (hb hby at_23) rfl (l' := #[.val (.int p0), .val (.int (8 : Int32)), .val (.ref w_MESSAGE_CONSUMER), .val (.int (1 : Int32)), .unset, .unset, .unset]) rfl ?_
    show Steps p.tables e below (T1.setTop (mkF m 24 #[.val (.int p0), .val (.int (8 : Int32)), .val (.ref w_MESSAGE_CONSUMER), .val (.int (1 : Int32)), .unset, .unset, .unset] [])) _
    refine XS.aloadN X1.here hx rfl (hb hby at_24) rfl rfl ?_
    show Steps p.tables e below (T1.setTop (mkF m 25 #[.val (.int p0), .val (.int (8 : Int32)), .val (.ref w_MESSAGE_CONSUMER), .val (.int (1 : Int32)), .unset, .unset, .unset] [(.ref w_MESSAGE_CONSUMER)])) _
    refine st2.trans ?_
    show Steps p.tables e below (T2.setTop (mkF m 28 #[.val (.int p0), .val (.int (8 : Int32)), .val (.ref w_MESSAGE_CONSUMER), .val (.int (1 : Int32)), .unset, .unset, .unset] [(.int (1 : Int32))])) _
    refine XS.istore X2.here hx rfl (hb hby at_28) rfl (l' := #[.val (.int p0), .val (.int (8 : Int32)), .val (.ref w_MESSAGE_CONSUMER), .val (.int (1 : Int32)), .val (.int (1 : Int32)), .unset, .unset]) rfl ?_
    show Steps p.tables e below (T2.setTop (mkF m 30 #[.val (.int p0), .val (.int (8 : Int32)), .val (.ref w_MESSAGE_CONSUMER), .val (.int (1 : Int32)), .val (.int (1 : Int32)), .unset, .unset] [])) _
    refine XS.iload X2.here hx rfl (hb hby at_30) rfl ?_
    show Steps p.tables e below (T2.setTop (mkF m 32 #[.val (.int p0), .val (.int (8 : Int32)), .val (.ref w_MESSAGE_CONSUMER), .val (.int (1 : Int32)), .val (.int (1 : Int32)), .unset, .unset] [(.int (1 : Int32))])) _
    refine XS.aloadN X2.here hx rfl (hb hby at_32) rfl rfl ?_
    show Steps p.tables e below (T2.setTop (mkF m 33 #[.val (.int p0), .val (.int (8 : Int32)), .val (.ref w_MESSAGE_CONSUMER), .val (.int (1 : Int32)), .val (.int (1 : Int32)), .unset, .unset] [(.ref w_MESSAGE_CONSUMER), (.int (1 : Int32))])) _
    refine st3.trans ?_
    show Steps p.tables e below (T3.setTop (mkF m 36 #[.val (.int p0), .val (.int (8 : Int32)), .val (.ref w_MESSAGE_CONSUMER), .val (.int (1 : Int32)), .val (.int (1 : Int32)), .unset, .unset] [(.ref w_MESSAGE), (.int (1 : Int32))])) _
    refine st4 _ ?_
    show Steps p.tables e below (T4.setTop (mkF m 39 #[.val (.int p0), .val (.int (8 : Int32)), .val (.ref w_MESSAGE_CONSUMER), .val (.int (1 : Int32)), .val (.int (1 : Int32)), .unset, .unset] [(.ref w_NOTHING), (.ref w_MESSAGE), (.int (1 : Int32))])) _
    refine Jvm.RoadKit.acmp (g := (mkF m 39 #[.val (.int p0), .val (.int (8 : Int32)), .val (.ref w_MESSAGE_CONSUMER), .val (.int (1 : Int32)), .val (.int (1 : Int32)), .unset, .unset] [(.ref w_NOTHING), (.ref w_MESSAGE), (.int (1 : Int32))])) X4 hx rfl rfl rfl (pc0 := 39) (pc' := 42) (same := false) rfl (hb hby at_39) rfl (decide_eq_false fun q => ne_w_MESSAGE_w_NOTHING (Value.ref.inj q)) (by decide) (by decide) ?_
    show Steps p.tables e below (T4.setTop (mkF m 42 #[.val (.int p0), .val (.int (8 : Int32)), .val (.ref w_MESSAGE_CONSUMER), .val (.int (1 : Int32)), .val (.int (1 : Int32)), .unset, .unset] [(.int (1 : Int32))])) _
    refine XS.iconst X4.here hx rfl (hb hby at_42) ?_
    show Steps p.tables e below (T4.setTop (mkF m 43 #[.val (.int p0), .val (.int (8 : Int32)), .val (.ref w_MESSAGE_CONSUMER), .val (.int (1 : Int32)), .val (.int (1 : Int32)), .unset, .unset] [(.int (1 : Int32)), (.int (1 : Int32))])) _
    refine XS.goto X4.here hx rfl (pc0 := 43) (pc' := 47) rfl (hb hby at_43) (by decide) (by decide) ?_
    show Steps p.tables e below (T4.setTop (mkF m 47 #[.val (.int p0), .val (.int (8 : Int32)), .val (.ref w_MESSAGE_CONSUMER), .val (.int (1 : Int32)), .val (.int (1 : Int32)), .unset, .unset] [(.int (1 : Int32)), (.int (1 : Int32))])) _
    refine XS.icmpNo X4.here hx rfl (hb hby at_47) rfl (teq (by decide : (1 : Int32) = (1 : Int32))).2 ?_
    show Steps p.tables e below (T4.setTop (mkF m 50 #[.val (.int p0), .val (.int (8 : Int32)), .val (.ref w_MESSAGE_CONSUMER), .val (.int (1 : Int32)), .val (.int (1 : Int32)), .unset, .unset] [])) _
    refine XS.iconst X4.here hx rfl (hb hby at_50) ?_
    show Steps p.tables e below (T4.setTop (mkF m 51 #[.val (.int p0), .val (.int (8 : Int32)), .val (.ref w_MESSAGE_CONSUMER), .val (.int (1 : Int32)), .val (.int (1 : Int32)), .unset, .unset] [(.int (1 : Int32))])) _
    refine XS.goto X4.here hx rfl (pc0 := 51) (pc' := 55) rfl (hb hby at_51) (by decide) (by decide) ?_
    show Steps p.tables e below (T4.setTop (mkF m 55 #[.val (.int p0), .val (.int (8 : Int32)), .val (.ref w_MESSAGE_CONSUMER), .val (.int (1 : Int32)), .val (.int (1 : Int32)), .unset, .unset] [(.int (1 : Int32))])) _
    refine XS.istore X4.here hx rfl (hb hby at_55) rfl (l' := #[.val (.int p0), .val (.int (8 : Int32)), .val (.ref w_MESSAGE_CONSUMER), .val (.int (1 : Int32)), .val (.int (1 : Int32)), .val (.int (1 : Int32)), .unset]) rfl ?_
    show Steps p.tables e below (T4.setTop (mkF m 57 #[.val (.int p0), .val (.int (8 : Int32)), .val (.ref w_MESSAGE_CONSUMER), .val (.int (1 : Int32)), .val (.int (1 : Int32)), .val (.int (1 : Int32)), .unset] [])) _
    refine XS.iload X4.here hx rfl (hb hby at_57) rfl ?_
    show Steps p.tables e below (T4.setTop (mkF m 59 #[.val (.int p0), .val (.int (8 : Int32)), .val (.ref w_MESSAGE_CONSUMER), .val (.int (1 : Int32)), .val (.int (1 : Int32)), .val (.int (1 : Int32)), .unset] [(.int (1 : Int32))])) _
    refine XS.ifYes X4.here hx rfl (pc0 := 59) (pc' := 69) rfl (hb hby at_59) rfl ((if0 _ _).trans (feq (by decide : ¬ ((1 : Int32) = (0 : Int32)))).2) (by decide) (by decide) ?_
    show Steps p.tables e below (T4.setTop (mkF m 69 #[.val (.int p0), .val (.int (8 : Int32)), .val (.ref w_MESSAGE_CONSUMER), .val (.int (1 : Int32)), .val (.int (1 : Int32)), .val (.int (1 : Int32)), .unset] [])) _
    refine XS.iconst X4.here hx rfl (hb hby at_69) ?_
    show Steps p.tables e below (T4.setTop (mkF m 70 #[.val (.int p0), .val (.int (8 : Int32)), .val (.ref w_MESSAGE_CONSUMER), .val (.int (1 : Int32)), .val (.int (1 : Int32)), .val (.int (1 : Int32)), .unset] [(.int (1 : Int32))])) _
    refine XS.goto X4.here hx rfl (pc0 := 70) (pc' := 74) rfl (hb hby at_70) (by decide) (by decide) ?_
    show Steps p.tables e below (T4.setTop (mkF m 74 #[.val (.int p0), .val (.int (8 : Int32)), .val (.ref w_MESSAGE_CONSUMER), .val (.int (1 : Int32)), .val (.int (1 : Int32)), .val (.int (1 : Int32)), .unset] [(.int (1 : Int32))])) _
    refine XS.istore X4.here hx rfl (hb hby at_74) rfl (l' := #[.val (.int p0), .val (.int (8 : Int32)), .val (.ref w_MESSAGE_CONSUMER), .val (.int (1 : Int32)), .val (.int (1 : Int32)), .val (.int (1 : Int32)), .val (.int (1 : Int32))]) rfl ?_
    show Steps p.tables e below (T4.setTop (mkF m 76 #[.val (.int p0), .val (.int (8 : Int32)), .val (.ref w_MESSAGE_CONSUMER), .val (.int (1 : Int32)), .val (.int (1 : Int32)), .val (.int (1 : Int32)), .val (.int (1 : Int32))] [])) _
    refine XS.iload X4.here hx rfl (hb hby at_76) rfl ?_
    show Steps p.tables e below (T4.setTop (mkF m 78 #[.val (.int p0), .val (.int (8 : Int32)), .val (.ref w_MESSAGE_CONSUMER), .val (.int (1 : Int32)), .val (.int (1 : Int32)), .val (.int (1 : Int32)), .val (.int (1 : Int32))] [(.int (1 : Int32))])) _
    refine XS.iloadN X4.here hx rfl (hb hby at_78) rfl ?_
    show Steps p.tables e below (T4.setTop (mkF m 79 #[.val (.int p0), .val (.int (8 : Int32)), .val (.ref w_MESSAGE_CONSUMER), .val (.int (1 : Int32)), .val (.int (1 : Int32)), .val (.int (1 : Int32)), .val (.int (1 : Int32))] [(.int (1 : Int32)), (.int (1 : Int32))])) _
    refine XS.icmpNo X4.here hx rfl (hb hby at_79) rfl (teq (by decide : (1 : Int32) = (1 : Int32))).2 ?_
    show Steps p.tables e below (T4.setTop (mkF m 82 #[.val (.int p0), .val (.int (8 : Int32)), .val (.ref w_MESSAGE_CONSUMER), .val (.int (1 : Int32)), .val (.int (1 : Int32)), .val (.int (1 : Int32)), .val (.int (1 : Int32))] [])) _
    refine XS.iload X4.here hx rfl (hb hby at_82) rfl ?_
    show Steps p.tables e below (T4.setTop (mkF m 84 #[.val (.int p0), .val (.int (8 : Int32)), .val (.ref w_MESSAGE_CONSUMER), .val (.int (1 : Int32)), .val (.int (1 : Int32)), .val (.int (1 : Int32)), .val (.int (1 : Int32))] [(.int (1 : Int32))])) _
    refine XS.ifNo X4.here hx rfl (hb hby at_84) rfl ((if0 _ _).trans (feq (by decide : ¬ ((1 : Int32) = (0 : Int32)))).1) ?_
    show Steps p.tables e below (T4.setTop (mkF m 87 #[.val (.int p0), .val (.int (8 : Int32)), .val (.ref w_MESSAGE_CONSUMER), .val (.int (1 : Int32)), .val (.int (1 : Int32)), .val (.int (1 : Int32)), .val (.int (1 : Int32))] [])) _
    refine XS.iload X4.here hx rfl (hb hby at_87) rfl ?_
    show Steps p.tables e below (T4.setTop (mkF m 89 #[.val (.int p0), .val (.int (8 : Int32)), .val (.ref w_MESSAGE_CONSUMER), .val (.int (1 : Int32)), .val (.int (1 : Int32)), .val (.int (1 : Int32)), .val (.int (1 : Int32))] [(.int (1 : Int32))])) _
    refine XS.ifNo X4.here hx rfl (hb hby at_89) rfl ((if0 _ _).trans (feq (by decide : ¬ ((1 : Int32) = (0 : Int32)))).1) ?_
    show Steps p.tables e below (T4.setTop (mkF m 92 #[.val (.int p0), .val (.int (8 : Int32)), .val (.ref w_MESSAGE_CONSUMER), .val (.int (1 : Int32)), .val (.int (1 : Int32)), .val (.int (1 : Int32)), .val (.int (1 : Int32))] [])) _
    refine XS.iconst X4.here hx rfl (hb hby at_92) ?_
    show Steps p.tables e below (T4.setTop (mkF m 93 #[.val (.int p0), .val (.int (8 : Int32)), .val (.ref w_MESSAGE_CONSUMER), .val (.int (1 : Int32)), .val (.int (1 : Int32)), .val (.int (1 : Int32)), .val (.int (1 : Int32))] [(.int (1 : Int32))])) _
    refine XS.goto X4.here hx rfl (pc0 := 93) (pc' := 97) rfl (hb hby at_93) (by decide) (by decide) ?_
    show Steps p.tables e below (T4.setTop (mkF m 97 #[.val (.int p0), .val (.int (8 : Int32)), .val (.ref w_MESSAGE_CONSUMER), .val (.int (1 : Int32)), .val (.int (1 : Int32)), .val (.int (1 : Int32)), .val (.int (1 : Int32))] [(.int (1 : Int32))])) _
    exact retN X4 hx (t := .boolean) Bd.returns (by simp) (hb hby at_97) hr
  · exact ⟨N3, rfl⟩
set_option maxRecDepth 65536 in
set_option maxHeartbeats 40000000 in
theorem comes_1 {Post : Tables → Env → Array Value → State → Outcome → State → Prop} (hpost : ∀ tb e args s v u, (limb_1_1.after args s (.returned v) u = true ∧ limb_1_2.after args s (.returned v) u = true ∧ True) → FrameEnd s (.returned v) u (Jvm.fieldLocs frame_1_writes args s ++ Jvm.arrayLocs frame_1_arrays args s ++ Jvm.staticLocs frame_1_statics s) 0 0 → Post tb e args s (.returned v) u) :
    ArmFor flags0 classFile x code maxLocals ret World_1 tables_1 room_1 Calls_1 rest_1 Pre_1 Post := by
  intro l hfl _ _ p e ha hc hk s m args below hf hA hF happ hP
  obtain ⟨hcalls, hrest, hpre⟩ := hP
  obtain ⟨-, -, -, hnamed, -, -, -, hat⟩ := (Spec.applies_iff hf).mp happ
  obtain ⟨hg, hn⟩ := and_e (Cond.before_iff.mp (show (Jvm.Cond.and given_1 narrow_1).before args s = true from hpre))
  obtain ⟨ga1, gb1⟩ := and_e hg
  obtain ⟨w0, rfl⟩ : ∃ w0 : Value, args = #[w0] := by
    have hs : args.size = 1 := by simpa [Cond.value, given_1] using ga1
    obtain ⟨L⟩ := args
    match L, hs with
    | [w0], _ => exact ⟨w0, rfl⟩
  have hw := fun d (hd : d ∈ tables_1) => atoms_spec (ws := Jvm.Cond.code x code maxLocals ret :: tables_1) hat d (List.mem_cons_of_mem _ hd)
  have hfit : Fit s := fun {y c} hc i hi => by
    obtain ⟨ha, rfl⟩ := Array.getElem?_eq_some_iff.mp hc
    have q := List.all_eq_true.mp ((Array.all_eq_true_iff_forall_mem.mp hF) _ (Array.getElem_mem ha)) i (List.mem_range.mpr hi)
    simpa [Array.getElem?_eq_getElem hi] using q
  obtain ⟨i0, ei0⟩ := is_v gb1
  obtain rfl : w0 = (.int i0) := Option.some.inj ei0
  obtain ⟨nn1, nn2⟩ := and_e hn
  obtain ⟨nn3, nn4⟩ := and_e nn2
  obtain ⟨nn5, nn6⟩ := and_e nn4
  obtain ⟨nn7, nn8⟩ := and_e nn6
  obtain ⟨nn9, nn10⟩ := and_e nn8
  obtain ⟨nn11, nn12⟩ := and_e nn10
  obtain ⟨nn13, nn14⟩ := and_e nn12
  obtain ⟨nn15, nn16⟩ := and_e nn14
  obtain ⟨nn17, nn18⟩ := and_e nn16
  obtain ⟨nn19, nn20⟩ := and_e nn18
  obtain ⟨nn21, nn22⟩ := and_e nn20
  obtain ⟨nn23, nn24⟩ := and_e nn22
  obtain ⟨nn25, nn26⟩ := and_e nn24
  obtain ⟨nn27, nn28⟩ := and_e nn26
  obtain ⟨nn29, nn30⟩ := and_e nn28
  obtain ⟨nn31, nn32⟩ := and_e nn30
  obtain ⟨nn33, nn34⟩ := and_e nn32
  obtain ⟨nn35, nn36⟩ := and_e nn34
  obtain ⟨nn37, nn38⟩ := and_e nn36
  obtain ⟨nn39, nn40⟩ := and_e nn38
  obtain ⟨nn41, nn42⟩ := and_e nn40
  obtain ⟨nn43, nn44⟩ := and_e nn42
  obtain ⟨nn45, nn46⟩ := and_e nn44
  obtain ⟨nn47, nn48⟩ := and_e nn46
  obtain ⟨nn49, nn50⟩ := and_e nn48
  obtain ⟨nn51, nn52⟩ := and_e nn50
  obtain ⟨nn53, nn54⟩ := and_e nn52
  obtain ⟨nn55, nn56⟩ := and_e nn54
  obtain ⟨nn57, nn58⟩ := and_e nn56
  obtain ⟨nn59, nn60⟩ := and_e nn58
  obtain ⟨nn61, nn62⟩ := and_e nn60
  obtain ⟨nn63, nn64⟩ := and_e nn62
  obtain ⟨w_PRODUCER, ev_w_PRODUCER⟩ := exa_v nn1
  have E_w_PRODUCER : Exa s s.heap w_PRODUCER "com/example/aizu/aizu/channels/ChannelMethod$Shape" := Exa.start ev_w_PRODUCER nn1
  obtain ⟨w_NOTHING, ev_w_NOTHING⟩ := exa_v nn3
  have E_w_NOTHING : Exa s s.heap w_NOTHING "com/example/aizu/aizu/channels/ChannelMethod$Kind" := Exa.start ev_w_NOTHING nn3
  have ev65 := own_eqR nn5 ev_w_NOTHING
  obtain ⟨w_PAYLOAD, ev_w_PAYLOAD⟩ := exa_v nn7
  have E_w_PAYLOAD : Exa s s.heap w_PAYLOAD "com/example/aizu/aizu/channels/ChannelMethod$Kind" := Exa.start ev_w_PAYLOAD nn7
  have ev66 := own_eqR nn9 ev_w_PAYLOAD
  have ev67 := own_eqI nn11
  have ev68 := own_eqI nn13
  obtain ⟨w_PROCESSOR, ev_w_PROCESSOR⟩ := exa_v nn15
  have E_w_PROCESSOR : Exa s s.heap w_PROCESSOR "com/example/aizu/aizu/channels/ChannelMethod$Shape" := Exa.start ev_w_PROCESSOR nn15
  have ev69 := own_eqR nn17 ev_w_PAYLOAD
  obtain ⟨w_MESSAGE_STREAM, ev_w_MESSAGE_STREAM⟩ := exa_v nn19
  have E_w_MESSAGE_STREAM : Exa s s.heap w_MESSAGE_STREAM "com/example/aizu/aizu/channels/ChannelMethod$Shape" := Exa.start ev_w_MESSAGE_STREAM nn19
  have ev70 := own_eqR nn21 ev_w_NOTHING
  obtain ⟨w_MESSAGE, ev_w_MESSAGE⟩ := exa_v nn23
  have E_w_MESSAGE : Exa s s.heap w_MESSAGE "com/example/aizu/aizu/channels/ChannelMethod$Kind" := Exa.start ev_w_MESSAGE nn23
  have ev71 := own_eqR nn25 ev_w_MESSAGE
  have ev72 := own_eqI nn27
  obtain ⟨w_PAYLOAD_STREAM, ev_w_PAYLOAD_STREAM⟩ := exa_v nn29
  have E_w_PAYLOAD_STREAM : Exa s s.heap w_PAYLOAD_STREAM "com/example/aizu/aizu/channels/ChannelMethod$Shape" := Exa.start ev_w_PAYLOAD_STREAM nn29
  have ev73 := own_eqR nn31 ev_w_NOTHING
  have ev74 := own_eqR nn33 ev_w_PAYLOAD
  obtain ⟨w_CONSUMER, ev_w_CONSUMER⟩ := exa_v nn35
  have E_w_CONSUMER : Exa s s.heap w_CONSUMER "com/example/aizu/aizu/channels/ChannelMethod$Shape" := Exa.start ev_w_CONSUMER nn35
  have ev75 := own_eqR nn37 ev_w_PAYLOAD
  obtain ⟨w_ASYNC_PROCESSOR, ev_w_ASYNC_PROCESSOR⟩ := exa_v nn39
  have E_w_ASYNC_PROCESSOR : Exa s s.heap w_ASYNC_PROCESSOR "com/example/aizu/aizu/channels/ChannelMethod$Shape" := Exa.start ev_w_ASYNC_PROCESSOR nn39
  have ev76 := own_eqR nn41 ev_w_PAYLOAD
  obtain ⟨w_MESSAGE_CONSUMER, ev_w_MESSAGE_CONSUMER⟩ := exa_v nn43
  have E_w_MESSAGE_CONSUMER : Exa s s.heap w_MESSAGE_CONSUMER "com/example/aizu/aizu/channels/ChannelMethod$Shape" := Exa.start ev_w_MESSAGE_CONSUMER nn43
  have ev77 := own_eqR nn45 ev_w_MESSAGE
  obtain ⟨w_ASYNC_MESSAGE_PROCESSOR, ev_w_ASYNC_MESSAGE_PROCESSOR⟩ := exa_v nn47
  have E_w_ASYNC_MESSAGE_PROCESSOR : Exa s s.heap w_ASYNC_MESSAGE_PROCESSOR "com/example/aizu/aizu/channels/ChannelMethod$Shape" := Exa.start ev_w_ASYNC_MESSAGE_PROCESSOR nn47
  have ev78 := own_eqR nn49 ev_w_MESSAGE
  obtain ⟨w_MESSAGE_PROCESSOR, ev_w_MESSAGE_PROCESSOR⟩ := exa_v nn51
  have E_w_MESSAGE_PROCESSOR : Exa s s.heap w_MESSAGE_PROCESSOR "com/example/aizu/aizu/channels/ChannelMethod$Shape" := Exa.start ev_w_MESSAGE_PROCESSOR nn51
  have ev79 := own_eqR nn53 ev_w_MESSAGE
  have ev80 := own_eqR nn55 ev_w_PAYLOAD
  have ev81 := own_eqR nn57 ev_w_NOTHING
  have ev82 := own_eqR nn59 ev_w_PAYLOAD
  have ev83 := own_eqR nn61 ev_w_NOTHING
  have ev84 := own_eqR nn63 ev_w_MESSAGE
  have ev85 := own_eqR nn64 ev_w_MESSAGE
  have S_ChannelMethod_Shape_PRODUCER : Sta s s.heap "com/example/aizu/aizu/channels/ChannelMethod$Shape" "PRODUCER" "Lcom/example/aizu/aizu/channels/ChannelMethod$Shape;" (.ref w_PRODUCER) := Sta.start ev_w_PRODUCER (Or.inr ⟨(hw _ (List.mem_of_getElem? (i := 6) rfl)), (hw _ (List.mem_of_getElem? (i := 7) rfl))⟩)
  have S_ChannelMethod_Kind_NOTHING : Sta s s.heap "com/example/aizu/aizu/channels/ChannelMethod$Kind" "NOTHING" "Lcom/example/aizu/aizu/channels/ChannelMethod$Kind;" (.ref w_NOTHING) := Sta.start ev_w_NOTHING (Or.inr ⟨(hw _ (List.mem_of_getElem? (i := 15) rfl)), (hw _ (List.mem_of_getElem? (i := 16) rfl))⟩)
  have F_w_PRODUCER_takes : Fld s s.heap w_PRODUCER "com/example/aizu/aizu/channels/ChannelMethod$Shape" "takes" "Lcom/example/aizu/aizu/channels/ChannelMethod$Kind;" (.ref w_NOTHING) := own_fld ev_w_PRODUCER ev65
  have S_ChannelMethod_Kind_PAYLOAD : Sta s s.heap "com/example/aizu/aizu/channels/ChannelMethod$Kind" "PAYLOAD" "Lcom/example/aizu/aizu/channels/ChannelMethod$Kind;" (.ref w_PAYLOAD) := Sta.start ev_w_PAYLOAD (Or.inr ⟨(hw _ (List.mem_of_getElem? (i := 15) rfl)), (hw _ (List.mem_of_getElem? (i := 31) rfl))⟩)
  have F_w_PRODUCER_gives : Fld s s.heap w_PRODUCER "com/example/aizu/aizu/channels/ChannelMethod$Shape" "gives" "Lcom/example/aizu/aizu/channels/ChannelMethod$Kind;" (.ref w_PAYLOAD) := own_fld ev_w_PRODUCER ev66
  have F_w_PAYLOAD_ordinal : Fld s s.heap w_PAYLOAD "java/lang/Enum" "ordinal" "I" (.int (1 : Int32)) := own_fld ev_w_PAYLOAD ev67
  have F_w_NOTHING_ordinal : Fld s s.heap w_NOTHING "java/lang/Enum" "ordinal" "I" (.int (0 : Int32)) := own_fld ev_w_NOTHING ev68
  have S_ChannelMethod_Shape_PROCESSOR : Sta s s.heap "com/example/aizu/aizu/channels/ChannelMethod$Shape" "PROCESSOR" "Lcom/example/aizu/aizu/channels/ChannelMethod$Shape;" (.ref w_PROCESSOR) := Sta.start ev_w_PROCESSOR (Or.inr ⟨(hw _ (List.mem_of_getElem? (i := 6) rfl)), (hw _ (List.mem_of_getElem? (i := 33) rfl))⟩)
  have F_w_PROCESSOR_takes : Fld s s.heap w_PROCESSOR "com/example/aizu/aizu/channels/ChannelMethod$Shape" "takes" "Lcom/example/aizu/aizu/channels/ChannelMethod$Kind;" (.ref w_PAYLOAD) := own_fld ev_w_PROCESSOR ev69
  have S_ChannelMethod_Shape_MESSAGE_STREAM : Sta s s.heap "com/example/aizu/aizu/channels/ChannelMethod$Shape" "MESSAGE_STREAM" "Lcom/example/aizu/aizu/channels/ChannelMethod$Shape;" (.ref w_MESSAGE_STREAM) := Sta.start ev_w_MESSAGE_STREAM (Or.inr ⟨(hw _ (List.mem_of_getElem? (i := 6) rfl)), (hw _ (List.mem_of_getElem? (i := 35) rfl))⟩)
  have F_w_MESSAGE_STREAM_takes : Fld s s.heap w_MESSAGE_STREAM "com/example/aizu/aizu/channels/ChannelMethod$Shape" "takes" "Lcom/example/aizu/aizu/channels/ChannelMethod$Kind;" (.ref w_NOTHING) := own_fld ev_w_MESSAGE_STREAM ev70
  have S_ChannelMethod_Kind_MESSAGE : Sta s s.heap "com/example/aizu/aizu/channels/ChannelMethod$Kind" "MESSAGE" "Lcom/example/aizu/aizu/channels/ChannelMethod$Kind;" (.ref w_MESSAGE) := Sta.start ev_w_MESSAGE (Or.inr ⟨(hw _ (List.mem_of_getElem? (i := 15) rfl)), (hw _ (List.mem_of_getElem? (i := 36) rfl))⟩)
  have F_w_MESSAGE_STREAM_gives : Fld s s.heap w_MESSAGE_STREAM "com/example/aizu/aizu/channels/ChannelMethod$Shape" "gives" "Lcom/example/aizu/aizu/channels/ChannelMethod$Kind;" (.ref w_MESSAGE) := own_fld ev_w_MESSAGE_STREAM ev71
  have F_w_MESSAGE_ordinal : Fld s s.heap w_MESSAGE "java/lang/Enum" "ordinal" "I" (.int (2 : Int32)) := own_fld ev_w_MESSAGE ev72
  have S_ChannelMethod_Shape_PAYLOAD_STREAM : Sta s s.heap "com/example/aizu/aizu/channels/ChannelMethod$Shape" "PAYLOAD_STREAM" "Lcom/example/aizu/aizu/channels/ChannelMethod$Shape;" (.ref w_PAYLOAD_STREAM) := Sta.start ev_w_PAYLOAD_STREAM (Or.inr ⟨(hw _ (List.mem_of_getElem? (i := 6) rfl)), (hw _ (List.mem_of_getElem? (i := 38) rfl))⟩)
  have F_w_PAYLOAD_STREAM_takes : Fld s s.heap w_PAYLOAD_STREAM "com/example/aizu/aizu/channels/ChannelMethod$Shape" "takes" "Lcom/example/aizu/aizu/channels/ChannelMethod$Kind;" (.ref w_NOTHING) := own_fld ev_w_PAYLOAD_STREAM ev73
  have F_w_PAYLOAD_STREAM_gives : Fld s s.heap w_PAYLOAD_STREAM "com/example/aizu/aizu/channels/ChannelMethod$Shape" "gives" "Lcom/example/aizu/aizu/channels/ChannelMethod$Kind;" (.ref w_PAYLOAD) := own_fld ev_w_PAYLOAD_STREAM ev74
  have S_ChannelMethod_Shape_CONSUMER : Sta s s.heap "com/example/aizu/aizu/channels/ChannelMethod$Shape" "CONSUMER" "Lcom/example/aizu/aizu/channels/ChannelMethod$Shape;" (.ref w_CONSUMER) := Sta.start ev_w_CONSUMER (Or.inr ⟨(hw _ (List.mem_of_getElem? (i := 6) rfl)), (hw _ (List.mem_of_getElem? (i := 40) rfl))⟩)
  have F_w_CONSUMER_takes : Fld s s.heap w_CONSUMER "com/example/aizu/aizu/channels/ChannelMethod$Shape" "takes" "Lcom/example/aizu/aizu/channels/ChannelMethod$Kind;" (.ref w_PAYLOAD) := own_fld ev_w_CONSUMER ev75
  have S_ChannelMethod_Shape_ASYNC_PROCESSOR : Sta s s.heap "com/example/aizu/aizu/channels/ChannelMethod$Shape" "ASYNC_PROCESSOR" "Lcom/example/aizu/aizu/channels/ChannelMethod$Shape;" (.ref w_ASYNC_PROCESSOR) := Sta.start ev_w_ASYNC_PROCESSOR (Or.inr ⟨(hw _ (List.mem_of_getElem? (i := 6) rfl)), (hw _ (List.mem_of_getElem? (i := 42) rfl))⟩)
  have F_w_ASYNC_PROCESSOR_takes : Fld s s.heap w_ASYNC_PROCESSOR "com/example/aizu/aizu/channels/ChannelMethod$Shape" "takes" "Lcom/example/aizu/aizu/channels/ChannelMethod$Kind;" (.ref w_PAYLOAD) := own_fld ev_w_ASYNC_PROCESSOR ev76
  have S_ChannelMethod_Shape_MESSAGE_CONSUMER : Sta s s.heap "com/example/aizu/aizu/channels/ChannelMethod$Shape" "MESSAGE_CONSUMER" "Lcom/example/aizu/aizu/channels/ChannelMethod$Shape;" (.ref w_MESSAGE_CONSUMER) := Sta.start ev_w_MESSAGE_CONSUMER (Or.inr ⟨(hw _ (List.mem_of_getElem? (i := 6) rfl)), (hw _ (List.mem_of_getElem? (i := 44) rfl))⟩)
  have F_w_MESSAGE_CONSUMER_takes : Fld s s.heap w_MESSAGE_CONSUMER "com/example/aizu/aizu/channels/ChannelMethod$Shape" "takes" "Lcom/example/aizu/aizu/channels/ChannelMethod$Kind;" (.ref w_MESSAGE) := own_fld ev_w_MESSAGE_CONSUMER ev77
  have S_ChannelMethod_Shape_ASYNC_MESSAGE_PROCESSOR : Sta s s.heap "com/example/aizu/aizu/channels/ChannelMethod$Shape" "ASYNC_MESSAGE_PROCESSOR" "Lcom/example/aizu/aizu/channels/ChannelMethod$Shape;" (.ref w_ASYNC_MESSAGE_PROCESSOR) := Sta.start ev_w_ASYNC_MESSAGE_PROCESSOR (Or.inr ⟨(hw _ (List.mem_of_getElem? (i := 6) rfl)), (hw _ (List.mem_of_getElem? (i := 46) rfl))⟩)
  have F_w_ASYNC_MESSAGE_PROCESSOR_takes : Fld s s.heap w_ASYNC_MESSAGE_PROCESSOR "com/example/aizu/aizu/channels/ChannelMethod$Shape" "takes" "Lcom/example/aizu/aizu/channels/ChannelMethod$Kind;" (.ref w_MESSAGE) := own_fld ev_w_ASYNC_MESSAGE_PROCESSOR ev78
  have S_ChannelMethod_Shape_MESSAGE_PROCESSOR : Sta s s.heap "com/example/aizu/aizu/channels/ChannelMethod$Shape" "MESSAGE_PROCESSOR" "Lcom/example/aizu/aizu/channels/ChannelMethod$Shape;" (.ref w_MESSAGE_PROCESSOR) := Sta.start ev_w_MESSAGE_PROCESSOR (Or.inr ⟨(hw _ (List.mem_of_getElem? (i := 6) rfl)), (hw _ (List.mem_of_getElem? (i := 48) rfl))⟩)
  have F_w_MESSAGE_PROCESSOR_takes : Fld s s.heap w_MESSAGE_PROCESSOR "com/example/aizu/aizu/channels/ChannelMethod$Shape" "takes" "Lcom/example/aizu/aizu/channels/ChannelMethod$Kind;" (.ref w_MESSAGE) := own_fld ev_w_MESSAGE_PROCESSOR ev79
  have F_w_PROCESSOR_gives : Fld s s.heap w_PROCESSOR "com/example/aizu/aizu/channels/ChannelMethod$Shape" "gives" "Lcom/example/aizu/aizu/channels/ChannelMethod$Kind;" (.ref w_PAYLOAD) := own_fld ev_w_PROCESSOR ev80
  have F_w_CONSUMER_gives : Fld s s.heap w_CONSUMER "com/example/aizu/aizu/channels/ChannelMethod$Shape" "gives" "Lcom/example/aizu/aizu/channels/ChannelMethod$Kind;" (.ref w_NOTHING) := own_fld ev_w_CONSUMER ev81
  have F_w_ASYNC_PROCESSOR_gives : Fld s s.heap w_ASYNC_PROCESSOR "com/example/aizu/aizu/channels/ChannelMethod$Shape" "gives" "Lcom/example/aizu/aizu/channels/ChannelMethod$Kind;" (.ref w_PAYLOAD) := own_fld ev_w_ASYNC_PROCESSOR ev82
  have F_w_MESSAGE_CONSUMER_gives : Fld s s.heap w_MESSAGE_CONSUMER "com/example/aizu/aizu/channels/ChannelMethod$Shape" "gives" "Lcom/example/aizu/aizu/channels/ChannelMethod$Kind;" (.ref w_NOTHING) := own_fld ev_w_MESSAGE_CONSUMER ev83
  have F_w_ASYNC_MESSAGE_PROCESSOR_gives : Fld s s.heap w_ASYNC_MESSAGE_PROCESSOR "com/example/aizu/aizu/channels/ChannelMethod$Shape" "gives" "Lcom/example/aizu/aizu/channels/ChannelMethod$Kind;" (.ref w_MESSAGE) := own_fld ev_w_ASYNC_MESSAGE_PROCESSOR ev84
  have F_w_MESSAGE_PROCESSOR_gives : Fld s s.heap w_MESSAGE_PROCESSOR "com/example/aizu/aizu/channels/ChannelMethod$Shape" "gives" "Lcom/example/aizu/aizu/channels/ChannelMethod$Kind;" (.ref w_MESSAGE) := own_fld ev_w_MESSAGE_PROCESSOR ev85
  have ne_w_PAYLOAD_w_NOTHING : w_PAYLOAD ≠ w_NOTHING := F_w_PAYLOAD_ordinal.ne F_w_NOTHING_ordinal (by decide)
  have ne_w_MESSAGE_w_NOTHING : w_MESSAGE ≠ w_NOTHING := F_w_MESSAGE_ordinal.ne F_w_NOTHING_ordinal (by decide)
  have W : OwW s w_PRODUCER w_NOTHING w_PAYLOAD w_PROCESSOR w_MESSAGE_STREAM w_MESSAGE w_PAYLOAD_STREAM w_CONSUMER w_ASYNC_PROCESSOR w_MESSAGE_CONSUMER w_ASYNC_MESSAGE_PROCESSOR w_MESSAGE_PROCESSOR := ⟨E_w_PRODUCER, E_w_NOTHING, E_w_PAYLOAD, E_w_PROCESSOR, E_w_MESSAGE_STREAM, E_w_MESSAGE, E_w_PAYLOAD_STREAM, E_w_CONSUMER, E_w_ASYNC_PROCESSOR, E_w_MESSAGE_CONSUMER, E_w_ASYNC_MESSAGE_PROCESSOR, E_w_MESSAGE_PROCESSOR, S_ChannelMethod_Shape_PRODUCER, S_ChannelMethod_Kind_NOTHING, F_w_PRODUCER_takes, S_ChannelMethod_Kind_PAYLOAD, F_w_PRODUCER_gives, F_w_PAYLOAD_ordinal, F_w_NOTHING_ordinal, S_ChannelMethod_Shape_PROCESSOR, F_w_PROCESSOR_takes, S_ChannelMethod_Shape_MESSAGE_STREAM, F_w_MESSAGE_STREAM_takes, S_ChannelMethod_Kind_MESSAGE, F_w_MESSAGE_STREAM_gives, F_w_MESSAGE_ordinal, S_ChannelMethod_Shape_PAYLOAD_STREAM, F_w_PAYLOAD_STREAM_takes, F_w_PAYLOAD_STREAM_gives, S_ChannelMethod_Shape_CONSUMER, F_w_CONSUMER_takes, S_ChannelMethod_Shape_ASYNC_PROCESSOR, F_w_ASYNC_PROCESSOR_takes, S_ChannelMethod_Shape_MESSAGE_CONSUMER, F_w_MESSAGE_CONSUMER_takes, S_ChannelMethod_Shape_ASYNC_MESSAGE_PROCESSOR, F_w_ASYNC_MESSAGE_PROCESSOR_takes, S_ChannelMethod_Shape_MESSAGE_PROCESSOR, F_w_MESSAGE_PROCESSOR_takes, F_w_PROCESSOR_gives, F_w_CONSUMER_gives, F_w_ASYNC_PROCESSOR_gives, F_w_MESSAGE_CONSUMER_gives, F_w_ASYNC_MESSAGE_PROCESSOR_gives, F_w_MESSAGE_PROCESSOR_gives, ne_w_PAYLOAD_w_NOTHING, ne_w_MESSAGE_w_NOTHING, trivial⟩
  have fin : OwCon l x code maxLocals ret tables_1 room_1 #[(.int i0)] s s.heap (OwP (fun v _ => v = some (.int 1)) s.heap.size) := by
    rcases own_i9 i0 with h | h | h | h | h | h | h | h | h
    · exact rm0_0 l s _ hw tables_1 s.heap.size s.heap (Old.start s) w_PRODUCER w_NOTHING w_PAYLOAD w_PROCESSOR w_MESSAGE_STREAM w_MESSAGE w_PAYLOAD_STREAM w_CONSUMER w_ASYNC_PROCESSOR w_MESSAGE_CONSUMER w_ASYNC_MESSAGE_PROCESSOR w_MESSAGE_PROCESSOR W i0 h
    · exact rm0_1 l s _ hw tables_1 s.heap.size s.heap (Old.start s) w_PRODUCER w_NOTHING w_PAYLOAD w_PROCESSOR w_MESSAGE_STREAM w_MESSAGE w_PAYLOAD_STREAM w_CONSUMER w_ASYNC_PROCESSOR w_MESSAGE_CONSUMER w_ASYNC_MESSAGE_PROCESSOR w_MESSAGE_PROCESSOR W i0 h
    · exact rm0_2 l s _ hw tables_1 s.heap.size s.heap (Old.start s) w_PRODUCER w_NOTHING w_PAYLOAD w_PROCESSOR w_MESSAGE_STREAM w_MESSAGE w_PAYLOAD_STREAM w_CONSUMER w_ASYNC_PROCESSOR w_MESSAGE_CONSUMER w_ASYNC_MESSAGE_PROCESSOR w_MESSAGE_PROCESSOR W i0 h
    · exact rm0_3 l s _ hw tables_1 s.heap.size s.heap (Old.start s) w_PRODUCER w_NOTHING w_PAYLOAD w_PROCESSOR w_MESSAGE_STREAM w_MESSAGE w_PAYLOAD_STREAM w_CONSUMER w_ASYNC_PROCESSOR w_MESSAGE_CONSUMER w_ASYNC_MESSAGE_PROCESSOR w_MESSAGE_PROCESSOR W i0 h
    · exact rm0_4 l s _ hw tables_1 s.heap.size s.heap (Old.start s) w_PRODUCER w_NOTHING w_PAYLOAD w_PROCESSOR w_MESSAGE_STREAM w_MESSAGE w_PAYLOAD_STREAM w_CONSUMER w_ASYNC_PROCESSOR w_MESSAGE_CONSUMER w_ASYNC_MESSAGE_PROCESSOR w_MESSAGE_PROCESSOR W i0 h
    · exact rm0_5 l s _ hw tables_1 s.heap.size s.heap (Old.start s) w_PRODUCER w_NOTHING w_PAYLOAD w_PROCESSOR w_MESSAGE_STREAM w_MESSAGE w_PAYLOAD_STREAM w_CONSUMER w_ASYNC_PROCESSOR w_MESSAGE_CONSUMER w_ASYNC_MESSAGE_PROCESSOR w_MESSAGE_PROCESSOR W i0 h
    · exact rm0_6 l s _ hw tables_1 s.heap.size s.heap (Old.start s) w_PRODUCER w_NOTHING w_PAYLOAD w_PROCESSOR w_MESSAGE_STREAM w_MESSAGE w_PAYLOAD_STREAM w_CONSUMER w_ASYNC_PROCESSOR w_MESSAGE_CONSUMER w_ASYNC_MESSAGE_PROCESSOR w_MESSAGE_PROCESSOR W i0 h
    · exact rm0_7 l s _ hw tables_1 s.heap.size s.heap (Old.start s) w_PRODUCER w_NOTHING w_PAYLOAD w_PROCESSOR w_MESSAGE_STREAM w_MESSAGE w_PAYLOAD_STREAM w_CONSUMER w_ASYNC_PROCESSOR w_MESSAGE_CONSUMER w_ASYNC_MESSAGE_PROCESSOR w_MESSAGE_PROCESSOR W i0 h
    · exact rm0_8 l s _ hw tables_1 s.heap.size s.heap (Old.start s) w_PRODUCER w_NOTHING w_PAYLOAD w_PROCESSOR w_MESSAGE_STREAM w_MESSAGE w_PAYLOAD_STREAM w_CONSUMER w_ASYNC_PROCESSOR w_MESSAGE_CONSUMER w_ASYNC_MESSAGE_PROCESSOR w_MESSAGE_PROCESSOR W i0 h
  obtain ⟨n, o, h1, h2, h3, _, L, rfl, ⟨N, rfl⟩, hq⟩ := fin p e ha hc hk s m _ below hf ((Spec.applies_iff_loose hf).mp happ).1 ⟨rfl, State.Warmed39.refl s, rfl⟩ trivial
  refine ⟨n, _, h1, h2, h3, hpost _ _ _ _ _ _ ⟨Cond.after_iff.mpr rfl, Cond.after_iff.mpr (eq_i res_at (Term.int_eval (1)) rfl), trivial⟩ ⟨hq.1, hq.2.1, (hq.2.2.sift fun y hy => Or.inr (N y hy)).mono (by decide) (by decide)⟩⟩
theorem main_1_1 : Claimed_1_1 := comes_1 fun _ _ _ _ _ _ h hF => ⟨h.1, hF⟩
theorem main_1_2 : Claimed_1_2 := comes_1 fun _ _ _ _ _ _ h hF => ⟨h.2.1, hF⟩
end Jvm.Pilot.@@N@@
namespace Jvm.Pilot.@@N@@
open Jvm Jvm.ClassFile Sem Op Lib Jvm.Free Jvm.Stand Jvm.Pilot.@@N@@.Jvm.D
/-! MADE BY PROGRAM (witnessworld.py) out of the Statement's table words and the real class files: 13 classes; the members and pool entries that the words name. The judged class is class 1, her method 1. -/
namespace start1
open Jvm.ClassFile
def u (s : String) : CpInfo := .utf8 (stringToUtf16 s)
/-- a pool by its gaps: so many unusable entries, then the entry; so many at the end -/
def gap : Nat → List CpInfo → List CpInfo
  | 0, r => r
  | n + 1, r => .unusable :: gap n r
def poolList (es : List (Nat × CpInfo)) (last : Nat) : List CpInfo := es.foldr (fun e r => gap e.1 (e.2 :: r)) (gap last [])
def pool (es : List (Nat × CpInfo)) (last : Nat) : Array CpInfo := ⟨poolList es last⟩
def fileOf (pool : Array CpInfo) (this : Nat) (attrs : Array Attribute := #[]) (ms : Array MethodInfo := #[]) (fl : Nat := 33) (sup : Nat := 0) (ifs : Array Nat := #[]) (fds : Array FieldInfo := #[]) : ClassFile where
  minorVersion := 0
  majorVersion := 65
  constantPool := pool
  accessFlags := fl
  thisClass := this
  superClass := sup
  interfaces := ifs
  fields := fds
  methods := ms
  attributes := attrs
def plain (name : String) (sup : Option ClassId) : Class where
  name := name
  kind := .ordinary
  loader := none
  accessFlags := 33
  super := sup
  interfaces := #[]
  cf := none
  fields := #[]
  methods := #[]
  instanceTypes := #[]
  staticTypes := #[]
  resolved := #[]
  callSites := []
  init := .initialized
  statics := none
  mirror := none

def pool0 : Array CpInfo := pool [(5, u "<init>"), (0, u "()V"), (1, .class_ 10), (1, u "java/lang/Object")] 113

def k0m0 : Method := { name := "<init>", desc := "()V", sig := { parameters := [], returnType := none }, accessFlags := 1, code := none }
/-- java/lang/Object -/
def k0 : Class := { plain "java/lang/Object" none with
  accessFlags := 33
  interfaces := #[]
  cf := some (fileOf pool0 8 #[] #[{ accessFlags := 1, nameIndex := 5, descriptorIndex := 6, attributes := #[] }] 33 0 #[] #[])
  fields := #[]
  methods := #[k0m0]
  instanceTypes := #[]
  staticTypes := #[]
  resolved := Array.replicate 124 none
  statics := none }

def pool1 : Array CpInfo := pool [(2, .class_ 4), (1, u "java/lang/Object"), (0, u "<init>"), (0, u "()V"), (0, .integer 2147483647), (0, .methodref 9 10), (0, .class_ 11), (0, .nameAndType 12 13), (0, u "com/example/aizu/aizu/channels/ShapeReadsPinLaw"), (0, u "shapeAt"), (0, u "(I)Lcom/example/aizu/aizu/channels/ChannelMethod$Shape;"), (0, .methodref 15 16), (0, .class_ 17), (0, .nameAndType 18 19), (0, u "com/example/aizu/aizu/channels/ChannelMethod$Shape"), (0, u "reads"), (0, u "()Z"), (0, .methodref 15 21), (0, .nameAndType 22 23), (0, u "takes"), (0, u "()Lcom/example/aizu/aizu/channels/ChannelMethod$Kind;"), (0, .fieldref 25 26), (0, .class_ 27), (0, .nameAndType 28 29), (0, u "com/example/aizu/aizu/channels/ChannelMethod$Kind"), (0, u "NOTHING"), (0, u "Lcom/example/aizu/aizu/channels/ChannelMethod$Kind;"), (0, .methodref 15 31), (0, .nameAndType 32 19), (0, u "writes"), (0, .fieldref 15 34), (0, .nameAndType 35 36), (0, u "PRODUCER"), (0, u "Lcom/example/aizu/aizu/channels/ChannelMethod$Shape;"), (0, .fieldref 15 38), (0, .nameAndType 39 36), (0, u "PAYLOAD_STREAM"), (0, .fieldref 15 41), (0, .nameAndType 42 36), (0, u "MESSAGE_STREAM"), (0, .fieldref 15 44), (0, .nameAndType 45 36), (0, u "PROCESSOR"), (0, .fieldref 15 47), (0, .nameAndType 48 36), (0, u "ASYNC_PROCESSOR"), (0, .fieldref 15 50), (0, .nameAndType 51 36), (0, u "MESSAGE_PROCESSOR"), (0, .fieldref 15 53), (0, .nameAndType 54 36), (0, u "ASYNC_MESSAGE_PROCESSOR"), (0, .fieldref 15 56), (0, .nameAndType 57 36), (0, u "CONSUMER"), (0, .fieldref 15 59), (0, .nameAndType 60 36), (0, u "MESSAGE_CONSUMER"), (2, u "law"), (0, u "(I)Z")] 8

def k1m0 : Method := { name := "<init>", desc := "()V", sig := { parameters := [], returnType := none }, accessFlags := 1, code := none }
def k1c1 : Code := { maxStack := 3, maxLocals := 7, code := code, exceptionTable := #[], attributes := #[] }
def k1m1 : Method := { name := "law", desc := "(I)Z", sig := { parameters := [.int], returnType := some .boolean }, accessFlags := 9, code := some k1c1 }
def k1c2 : Code := { maxStack := 2, maxLocals := 1, code := method_3_code, exceptionTable := #[], attributes := #[] }
def k1m2 : Method := { name := "shapeAt", desc := "(I)Lcom/example/aizu/aizu/channels/ChannelMethod$Shape;", sig := { parameters := [.int], returnType := some (.object "com/example/aizu/aizu/channels/ChannelMethod$Shape") }, accessFlags := 10, code := some k1c2 }
/-- com/example/aizu/aizu/channels/ShapeReadsPinLaw -/
def k1 : Class := { plain "com/example/aizu/aizu/channels/ShapeReadsPinLaw" (some 0) with
  accessFlags := 49
  interfaces := #[]
  cf := some (fileOf pool1 9 #[] #[{ accessFlags := 1, nameIndex := 5, descriptorIndex := 6, attributes := #[] }, { accessFlags := 9, nameIndex := 63, descriptorIndex := 64, attributes := #[] }, { accessFlags := 10, nameIndex := 12, descriptorIndex := 13, attributes := #[] }] 49 2 #[] #[])
  fields := #[]
  methods := #[k1m0, k1m1, k1m2]
  instanceTypes := #[]
  staticTypes := #[]
  resolved := Array.replicate 73 none
  statics := none }

def pool2 : Array CpInfo := pool [(1, .class_ 2), (0, u "java/lang/constant/Constable"), (0, .class_ 4), (0, u "java/lang/Object")] 6

/-- java/lang/constant/Constable -/
def k2 : Class := { plain "java/lang/constant/Constable" (some 0) with
  accessFlags := 1537
  interfaces := #[]
  cf := some (fileOf pool2 1 #[] #[] 1537 3 #[] #[])
  fields := #[]
  methods := #[]
  instanceTypes := #[]
  staticTypes := #[]
  resolved := Array.replicate 11 none
  statics := none }

def pool3 : Array CpInfo := pool [(1, .class_ 2), (0, u "java/lang/Comparable"), (0, .class_ 4), (0, u "java/lang/Object")] 7

/-- java/lang/Comparable -/
def k3 : Class := { plain "java/lang/Comparable" (some 0) with
  accessFlags := 1537
  interfaces := #[]
  cf := some (fileOf pool3 1 #[] #[] 1537 3 #[] #[])
  fields := #[]
  methods := #[]
  instanceTypes := #[]
  staticTypes := #[]
  resolved := Array.replicate 12 none
  statics := none }

def pool4 : Array CpInfo := pool [(1, .class_ 2), (0, u "java/io/Serializable"), (0, .class_ 4), (0, u "java/lang/Object")] 2

/-- java/io/Serializable -/
def k4 : Class := { plain "java/io/Serializable" (some 0) with
  accessFlags := 1537
  interfaces := #[]
  cf := some (fileOf pool4 1 #[] #[] 1537 3 #[] #[])
  fields := #[]
  methods := #[]
  instanceTypes := #[]
  staticTypes := #[]
  resolved := Array.replicate 7 none
  statics := none }

def pool5 : Array CpInfo := pool [(2, .class_ 4), (1, u "java/lang/Enum"), (0, u "name"), (0, u "Ljava/lang/String;"), (2, u "ordinal"), (0, u "I"), (1, .class_ 14), (1, u "java/lang/Object"), (4, u "hash"), (86, .class_ 108), (1, u "java/lang/Enum$EnumDesc"), (2, .class_ 112), (0, u "java/lang/constant/Constable"), (0, .class_ 114), (0, u "java/lang/Comparable"), (0, .class_ 116), (0, u "java/io/Serializable")] 87

/-- java/lang/Enum -/
def k5 : Class := { plain "java/lang/Enum" (some 0) with
  accessFlags := 1057
  interfaces := #[2, 3, 4]
  cf := some (fileOf pool5 2 #[.nestMembers #[106]] #[] 1057 12 #[111, 113, 115] #[{ accessFlags := 18, nameIndex := 5, descriptorIndex := 6, attributes := #[] }, { accessFlags := 18, nameIndex := 9, descriptorIndex := 10, attributes := #[] }, { accessFlags := 2, nameIndex := 19, descriptorIndex := 10, attributes := #[] }])
  fields := #[{ name := "name", type := (.object "java/lang/String"), accessFlags := 18, slot := 0, constantValue := 0 }, { name := "ordinal", type := .int, accessFlags := 18, slot := 1, constantValue := 0 }, { name := "hash", type := .int, accessFlags := 2, slot := 2, constantValue := 0 }]
  methods := #[]
  instanceTypes := #[(.object "java/lang/String"), .int, .int]
  staticTypes := #[]
  resolved := Array.replicate 204 none
  statics := none }

def pool6 : Array CpInfo := pool [(1, .class_ 2), (0, u "com/example/aizu/aizu/channels/ChannelMethod$Shape"), (2, u "PRODUCER"), (0, u "Lcom/example/aizu/aizu/channels/ChannelMethod$Shape;"), (2, u "PAYLOAD_STREAM"), (2, u "MESSAGE_STREAM"), (2, u "PROCESSOR"), (2, u "ASYNC_PROCESSOR"), (2, u "MESSAGE_PROCESSOR"), (2, u "ASYNC_MESSAGE_PROCESSOR"), (2, u "CONSUMER"), (2, u "ASYNC_CONSUMER"), (2, u "MESSAGE_CONSUMER"), (2, u "$VALUES"), (0, u "[Lcom/example/aizu/aizu/channels/ChannelMethod$Shape;"), (6, .class_ 46), (1, u "java/lang/Enum"), (6, .fieldref 1 54), (0, .nameAndType 55 56), (0, u "takes"), (0, u "Lcom/example/aizu/aizu/channels/ChannelMethod$Kind;"), (2, u "form"), (0, u "Lcom/example/aizu/aizu/channels/ChannelMethod$Form;"), (0, .fieldref 1 62), (0, .nameAndType 63 56), (0, u "gives"), (2, u "written"), (0, u "Ljava/lang/String;"), (2, u "byDefault"), (0, u "Lcom/example/aizu/aizu/channels/Acknowledgment$Strategy;"), (10, u "strategies"), (0, u "Ljava/util/Set;"), (12, .fieldref 97 98), (0, .class_ 99), (0, .nameAndType 100 56), (0, u "com/example/aizu/aizu/channels/ChannelMethod$Kind"), (0, u "NOTHING"), (74, u "()Lcom/example/aizu/aizu/channels/ChannelMethod$Kind;"), (1, u "reads"), (0, u "()Z"), (1, u "writes"), (6, .class_ 188), (0, u "com/example/aizu/aizu/channels/ChannelMethod")] 7

def k6c0 : Code := { maxStack := 1, maxLocals := 1, code := prog_6_method_4_code, exceptionTable := #[], attributes := #[] }
def k6m0 : Method := { name := "takes", desc := "()Lcom/example/aizu/aizu/channels/ChannelMethod$Kind;", sig := { parameters := [], returnType := some (.object "com/example/aizu/aizu/channels/ChannelMethod$Kind") }, accessFlags := 0, code := some k6c0 }
def k6c1 : Code := { maxStack := 2, maxLocals := 1, code := prog_6_method_7_code, exceptionTable := #[], attributes := #[] }
def k6m1 : Method := { name := "reads", desc := "()Z", sig := { parameters := [], returnType := some .boolean }, accessFlags := 0, code := some k6c1 }
def k6c2 : Code := { maxStack := 2, maxLocals := 1, code := prog_6_method_8_code, exceptionTable := #[], attributes := #[] }
def k6m2 : Method := { name := "writes", desc := "()Z", sig := { parameters := [], returnType := some .boolean }, accessFlags := 0, code := some k6c2 }
/-- com/example/aizu/aizu/channels/ChannelMethod$Shape -/
def k6 : Class := { plain "com/example/aizu/aizu/channels/ChannelMethod$Shape" (some 5) with
  accessFlags := 16432
  interfaces := #[]
  cf := some (fileOf pool6 1 #[.nestHost 187] #[{ accessFlags := 0, nameIndex := 55, descriptorIndex := 175, attributes := #[] }, { accessFlags := 0, nameIndex := 177, descriptorIndex := 178, attributes := #[] }, { accessFlags := 0, nameIndex := 180, descriptorIndex := 178, attributes := #[] }] 16432 44 #[] #[{ accessFlags := 16409, nameIndex := 5, descriptorIndex := 6, attributes := #[] }, { accessFlags := 16409, nameIndex := 9, descriptorIndex := 6, attributes := #[] }, { accessFlags := 16409, nameIndex := 12, descriptorIndex := 6, attributes := #[] }, { accessFlags := 16409, nameIndex := 15, descriptorIndex := 6, attributes := #[] }, { accessFlags := 16409, nameIndex := 18, descriptorIndex := 6, attributes := #[] }, { accessFlags := 16409, nameIndex := 21, descriptorIndex := 6, attributes := #[] }, { accessFlags := 16409, nameIndex := 24, descriptorIndex := 6, attributes := #[] }, { accessFlags := 16409, nameIndex := 27, descriptorIndex := 6, attributes := #[] }, { accessFlags := 16409, nameIndex := 30, descriptorIndex := 6, attributes := #[] }, { accessFlags := 16409, nameIndex := 33, descriptorIndex := 6, attributes := #[] }, { accessFlags := 18, nameIndex := 55, descriptorIndex := 56, attributes := #[] }, { accessFlags := 18, nameIndex := 59, descriptorIndex := 60, attributes := #[] }, { accessFlags := 18, nameIndex := 63, descriptorIndex := 56, attributes := #[] }, { accessFlags := 18, nameIndex := 66, descriptorIndex := 67, attributes := #[] }, { accessFlags := 18, nameIndex := 70, descriptorIndex := 71, attributes := #[] }, { accessFlags := 18, nameIndex := 82, descriptorIndex := 83, attributes := #[] }, { accessFlags := 4122, nameIndex := 36, descriptorIndex := 37, attributes := #[] }])
  fields := #[{ name := "PRODUCER", type := (.object "com/example/aizu/aizu/channels/ChannelMethod$Shape"), accessFlags := 16409, slot := 0, constantValue := 0 }, { name := "PAYLOAD_STREAM", type := (.object "com/example/aizu/aizu/channels/ChannelMethod$Shape"), accessFlags := 16409, slot := 1, constantValue := 0 }, { name := "MESSAGE_STREAM", type := (.object "com/example/aizu/aizu/channels/ChannelMethod$Shape"), accessFlags := 16409, slot := 2, constantValue := 0 }, { name := "PROCESSOR", type := (.object "com/example/aizu/aizu/channels/ChannelMethod$Shape"), accessFlags := 16409, slot := 3, constantValue := 0 }, { name := "ASYNC_PROCESSOR", type := (.object "com/example/aizu/aizu/channels/ChannelMethod$Shape"), accessFlags := 16409, slot := 4, constantValue := 0 }, { name := "MESSAGE_PROCESSOR", type := (.object "com/example/aizu/aizu/channels/ChannelMethod$Shape"), accessFlags := 16409, slot := 5, constantValue := 0 }, { name := "ASYNC_MESSAGE_PROCESSOR", type := (.object "com/example/aizu/aizu/channels/ChannelMethod$Shape"), accessFlags := 16409, slot := 6, constantValue := 0 }, { name := "CONSUMER", type := (.object "com/example/aizu/aizu/channels/ChannelMethod$Shape"), accessFlags := 16409, slot := 7, constantValue := 0 }, { name := "ASYNC_CONSUMER", type := (.object "com/example/aizu/aizu/channels/ChannelMethod$Shape"), accessFlags := 16409, slot := 8, constantValue := 0 }, { name := "MESSAGE_CONSUMER", type := (.object "com/example/aizu/aizu/channels/ChannelMethod$Shape"), accessFlags := 16409, slot := 9, constantValue := 0 }, { name := "takes", type := (.object "com/example/aizu/aizu/channels/ChannelMethod$Kind"), accessFlags := 18, slot := 3, constantValue := 0 }, { name := "form", type := (.object "com/example/aizu/aizu/channels/ChannelMethod$Form"), accessFlags := 18, slot := 4, constantValue := 0 }, { name := "gives", type := (.object "com/example/aizu/aizu/channels/ChannelMethod$Kind"), accessFlags := 18, slot := 5, constantValue := 0 }, { name := "written", type := (.object "java/lang/String"), accessFlags := 18, slot := 6, constantValue := 0 }, { name := "byDefault", type := (.object "com/example/aizu/aizu/channels/Acknowledgment$Strategy"), accessFlags := 18, slot := 7, constantValue := 0 }, { name := "strategies", type := (.object "java/util/Set"), accessFlags := 18, slot := 8, constantValue := 0 }, { name := "$VALUES", type := (.array (.object "com/example/aizu/aizu/channels/ChannelMethod$Shape")), accessFlags := 4122, slot := 10, constantValue := 0 }]
  methods := #[k6m0, k6m1, k6m2]
  instanceTypes := #[(.object "java/lang/String"), .int, .int, (.object "com/example/aizu/aizu/channels/ChannelMethod$Kind"), (.object "com/example/aizu/aizu/channels/ChannelMethod$Form"), (.object "com/example/aizu/aizu/channels/ChannelMethod$Kind"), (.object "java/lang/String"), (.object "com/example/aizu/aizu/channels/Acknowledgment$Strategy"), (.object "java/util/Set")]
  staticTypes := #[(.object "com/example/aizu/aizu/channels/ChannelMethod$Shape"), (.object "com/example/aizu/aizu/channels/ChannelMethod$Shape"), (.object "com/example/aizu/aizu/channels/ChannelMethod$Shape"), (.object "com/example/aizu/aizu/channels/ChannelMethod$Shape"), (.object "com/example/aizu/aizu/channels/ChannelMethod$Shape"), (.object "com/example/aizu/aizu/channels/ChannelMethod$Shape"), (.object "com/example/aizu/aizu/channels/ChannelMethod$Shape"), (.object "com/example/aizu/aizu/channels/ChannelMethod$Shape"), (.object "com/example/aizu/aizu/channels/ChannelMethod$Shape"), (.object "com/example/aizu/aizu/channels/ChannelMethod$Shape"), (.array (.object "com/example/aizu/aizu/channels/ChannelMethod$Shape"))]
  resolved := Array.replicate 196 none
  statics := some 0 }

def pool7 : Array CpInfo := pool [(1, .class_ 2), (0, u "com/example/aizu/aizu/channels/ChannelMethod$Kind"), (2, u "NOTHING"), (0, u "Lcom/example/aizu/aizu/channels/ChannelMethod$Kind;"), (2, u "PAYLOAD"), (2, u "MESSAGE"), (2, u "$VALUES"), (0, u "[Lcom/example/aizu/aizu/channels/ChannelMethod$Kind;"), (6, .class_ 25), (1, u "java/lang/Enum"), (26, .class_ 53), (0, u "com/example/aizu/aizu/channels/ChannelMethod")] 2

/-- com/example/aizu/aizu/channels/ChannelMethod$Kind -/
def k7 : Class := { plain "com/example/aizu/aizu/channels/ChannelMethod$Kind" (some 5) with
  accessFlags := 16432
  interfaces := #[]
  cf := some (fileOf pool7 1 #[.nestHost 52] #[] 16432 23 #[] #[{ accessFlags := 16409, nameIndex := 5, descriptorIndex := 6, attributes := #[] }, { accessFlags := 16409, nameIndex := 9, descriptorIndex := 6, attributes := #[] }, { accessFlags := 16409, nameIndex := 12, descriptorIndex := 6, attributes := #[] }, { accessFlags := 4122, nameIndex := 15, descriptorIndex := 16, attributes := #[] }])
  fields := #[{ name := "NOTHING", type := (.object "com/example/aizu/aizu/channels/ChannelMethod$Kind"), accessFlags := 16409, slot := 0, constantValue := 0 }, { name := "PAYLOAD", type := (.object "com/example/aizu/aizu/channels/ChannelMethod$Kind"), accessFlags := 16409, slot := 1, constantValue := 0 }, { name := "MESSAGE", type := (.object "com/example/aizu/aizu/channels/ChannelMethod$Kind"), accessFlags := 16409, slot := 2, constantValue := 0 }, { name := "$VALUES", type := (.array (.object "com/example/aizu/aizu/channels/ChannelMethod$Kind")), accessFlags := 4122, slot := 3, constantValue := 0 }]
  methods := #[]
  instanceTypes := #[(.object "java/lang/String"), .int, .int]
  staticTypes := #[(.object "com/example/aizu/aizu/channels/ChannelMethod$Kind"), (.object "com/example/aizu/aizu/channels/ChannelMethod$Kind"), (.object "com/example/aizu/aizu/channels/ChannelMethod$Kind"), (.array (.object "com/example/aizu/aizu/channels/ChannelMethod$Kind"))]
  resolved := Array.replicate 56 none
  statics := some 1 }

def pool8 : Array CpInfo := pool [(1, u "java/lang/Cloneable"), (0, .class_ 1), (0, u "java/lang/Object"), (0, .class_ 3)] 3

/-- java/lang/Cloneable -/
def k8 : Class := { plain "java/lang/Cloneable" (some 0) with
  accessFlags := 1537
  interfaces := #[]
  cf := some (fileOf pool8 2 #[] #[] 1537 4 #[] #[])
  fields := #[]
  methods := #[]
  instanceTypes := #[]
  staticTypes := #[]
  resolved := Array.replicate 8 none
  statics := none }

/-- the primitive byte -/
def k9 : Class := { plain "byte" none with kind := .primitive 'B', accessFlags := 0x411 }
/-- [B -/
def k10 : Class := { plain "[B" (some 0) with kind := .array 9 .byte, interfaces := #[8, 4], accessFlags := 1041 }

/-- the primitive int -/
def k11 : Class := { plain "int" none with kind := .primitive 'I', accessFlags := 0x411 }
/-- [I -/
def k12 : Class := { plain "[I" (some 0) with kind := .array 11 .int, interfaces := #[8, 4], accessFlags := 1041 }

def heap : Heap := #[{ cls := 6, slots := #[.ref 2, .ref 8, .ref 6, .ref 5, .ref 10, .ref 13, .ref 12, .ref 9, .null, .ref 11, .null], vm := .statics 6 },
  { cls := 7, slots := #[.ref 3, .ref 4, .ref 7, .null], vm := .statics 7 },
  { cls := 6, slots := #[.null, .int 0, .int 0, .ref 3, .null, .ref 4, .null, .null, .null], vm := .none },
  { cls := 7, slots := #[.null, .int 0, .int 0], vm := .none },
  { cls := 7, slots := #[.null, .int 1, .int 0], vm := .none },
  { cls := 6, slots := #[.null, .int 0, .int 0, .ref 4, .null, .ref 4, .null, .null, .null], vm := .none },
  { cls := 6, slots := #[.null, .int 0, .int 0, .ref 3, .null, .ref 7, .null, .null, .null], vm := .none },
  { cls := 7, slots := #[.null, .int 2, .int 0], vm := .none },
  { cls := 6, slots := #[.null, .int 0, .int 0, .ref 3, .null, .ref 4, .null, .null, .null], vm := .none },
  { cls := 6, slots := #[.null, .int 0, .int 0, .ref 4, .null, .ref 3, .null, .null, .null], vm := .none },
  { cls := 6, slots := #[.null, .int 0, .int 0, .ref 4, .null, .ref 4, .null, .null, .null], vm := .none },
  { cls := 6, slots := #[.null, .int 0, .int 0, .ref 7, .null, .ref 3, .null, .null, .null], vm := .none },
  { cls := 6, slots := #[.null, .int 0, .int 0, .ref 7, .null, .ref 7, .null, .null, .null], vm := .none },
  { cls := 6, slots := #[.null, .int 0, .int 0, .ref 7, .null, .ref 7, .null, .null, .null], vm := .none }]
def classes : Array Class := #[k0, k1, k2, k3, k4, k5, k6, k7, k8, k9, k10, k11, k12]
def interned : List (Array UInt16 × Addr) := []
def slotsUsed : Nat := 105
def theMethod : MethodId := ⟨1, 1⟩
def args0 : Array Value := #[.int 7]
def aboutOver (below : List Frame) : State where
  vm := { classes := classes, interned := interned.toArray }
  heap := heap
  slotsUsed := slotsUsed
  threads := #[{ frames := .invoking theMethod args0 :: below }]
def below0 : List Frame := [.native { method := ⟨0, 0⟩, args := #[] }]
def about1 : State := aboutOver below0
def p0 : Program := .bare "" "" ""
def e0 : Env := launch0.env 0 0 0
theorem w_frames : about1.frames = Frame.invoking theMethod args0 :: below0 := rfl
set_option maxRecDepth 65536 in
theorem w_args : argsFit about1.vm theMethod args0 = true := by decide +kernel
set_option maxRecDepth 65536 in
theorem w_heap : heapFits about1 = true := by decide +kernel
set_option maxRecDepth 65536 in
theorem w_runnable : about1.curStatus? = some .runnable := by decide +kernel
set_option maxRecDepth 65536 in
theorem w_alone : about1.alone = true := by decide +kernel
set_option maxRecDepth 65536 in
theorem w_named : about1.methodNamed? x = some theMethod := by decide +kernel
set_option maxRecDepth 65536 in
theorem w_hears : about1.hears theMethod below0 = true := by decide +kernel
set_option maxRecDepth 65536 in
theorem w_ripe : about1.ripe theMethod args0 below0 = true := by decide +kernel
theorem w_running : about1.status = .running := rfl
set_option maxRecDepth 65536 in
theorem w_room : about1.hasRoom e0.platform room_1 = true :=
  launch0.hasRoom_least _ room_1 (by decide +kernel) (by decide +kernel) (by decide +kernel) (by decide +kernel) (by decide +kernel) (by decide +kernel)
theorem allAtoms_all (ts : List Jvm.Cond) (a : Array Jvm.Value) (st : Jvm.State) : (allAtoms ts).before a st = ts.all (fun c => c.before a st) := by
  induction ts with
  | nil => rfl
  | cons c t ih =>
    show (Jvm.Cond.and c (allAtoms t)).before a st = _
    rw [Jvm.Cond.before_and, ih, List.all_cons]
def words1 : List Jvm.Cond := Jvm.Cond.code x code maxLocals ret :: tables_1
/-- a 'code' word, met by the world's own term for the bytes: nothing is compared byte by byte -/
theorem code_word {y : MethodName} {bytes : ByteArray} {mx : Nat} {rt : Option FieldType} {a : Array Value} {s : State} {m : MethodId} {meth : Method} {c : Code} (h1 : s.methodNamed? y = some m) (h2 : s.vm.method? m = some meth) (h3 : meth.code = some c) (h4 : c.code = bytes)
    (h5 : (c.maxLocals == mx && c.exceptionTable.isEmpty && decide (c.maxStack ≤ mostOperands) && decide (meth.sig.returnType = rt) && !meth.locks && decide (parseMethodDescriptor y.desc = some meth.sig)) = true) : (Jvm.Cond.code y bytes mx rt).before a s = true := by
  simp only [Bool.and_eq_true, beq_iff_eq, Bool.not_eq_true', decide_eq_true_eq] at h5
  obtain ⟨⟨⟨⟨⟨g1, g2⟩, g3⟩, g4⟩, g5⟩, g6⟩ := h5
  simp [Cond.before, Cond.holds, Cond.value, h1, h2, h3, h4, g1, g2, g3, g4, g5, g6]
def isCode : Jvm.Cond → Bool
  | .code _ _ _ _ => true
  | _ => false
theorem all_split {L : List Jvm.Cond} {P : Jvm.Cond → Bool} (h1 : L.all (fun c => isCode c || P c) = true) (h2 : ∀ c ∈ L.filter isCode, P c = true) : L.all P = true := by
  refine List.all_eq_true.mpr fun c hc => ?_
  have h := List.all_eq_true.mp h1 c hc
  rcases Bool.eq_false_or_eq_true (isCode c) with hi | hi
  · exact h2 c (List.mem_filter.mpr ⟨hc, hi⟩)
  · simpa [hi] using h
set_option maxRecDepth 65536 in
theorem w_c0 : (Jvm.Cond.code x code maxLocals ret).before args0 about1 = true := code_word (m := ⟨1, 1⟩) (meth := k1m1) (c := k1c1) (by decide +kernel) rfl rfl rfl (by decide +kernel)
set_option maxRecDepth 65536 in
theorem w_c1 : (Jvm.Cond.code ({ cls := "com/example/aizu/aizu/channels/ShapeReadsPinLaw", name := "shapeAt", desc := "(I)Lcom/example/aizu/aizu/channels/ChannelMethod$Shape;" } : Jvm.MethodName) method_3_code (1 : Nat) (Option.some (Jvm.ClassFile.FieldType.object "com/example/aizu/aizu/channels/ChannelMethod$Shape"))).before args0 about1 = true := code_word (m := ⟨1, 2⟩) (meth := k1m2) (c := k1c2) (by decide +kernel) rfl rfl rfl (by decide +kernel)
set_option maxRecDepth 65536 in
theorem w_c2 : (Jvm.Cond.code ({ cls := "com/example/aizu/aizu/channels/ChannelMethod$Shape", name := "reads", desc := "()Z" } : Jvm.MethodName) prog_6_method_7_code (1 : Nat) (Option.some Jvm.ClassFile.FieldType.boolean)).before args0 about1 = true := code_word (m := ⟨6, 1⟩) (meth := k6m1) (c := k6c1) (by decide +kernel) rfl rfl rfl (by decide +kernel)
set_option maxRecDepth 65536 in
theorem w_c3 : (Jvm.Cond.code ({ cls := "com/example/aizu/aizu/channels/ChannelMethod$Shape", name := "takes", desc := "()Lcom/example/aizu/aizu/channels/ChannelMethod$Kind;" } : Jvm.MethodName) prog_6_method_4_code (1 : Nat) (Option.some (Jvm.ClassFile.FieldType.object "com/example/aizu/aizu/channels/ChannelMethod$Kind"))).before args0 about1 = true := code_word (m := ⟨6, 0⟩) (meth := k6m0) (c := k6c0) (by decide +kernel) rfl rfl rfl (by decide +kernel)
set_option maxRecDepth 65536 in
theorem w_c4 : (Jvm.Cond.code ({ cls := "com/example/aizu/aizu/channels/ChannelMethod$Shape", name := "writes", desc := "()Z" } : Jvm.MethodName) prog_6_method_8_code (1 : Nat) (Option.some Jvm.ClassFile.FieldType.boolean)).before args0 about1 = true := code_word (m := ⟨6, 2⟩) (meth := k6m2) (c := k6c2) (by decide +kernel) rfl rfl rfl (by decide +kernel)
def codes1 : List Jvm.Cond := [Jvm.Cond.code x code maxLocals ret, Jvm.Cond.code ({ cls := "com/example/aizu/aizu/channels/ShapeReadsPinLaw", name := "shapeAt", desc := "(I)Lcom/example/aizu/aizu/channels/ChannelMethod$Shape;" } : Jvm.MethodName) method_3_code (1 : Nat) (Option.some (Jvm.ClassFile.FieldType.object "com/example/aizu/aizu/channels/ChannelMethod$Shape")), Jvm.Cond.code ({ cls := "com/example/aizu/aizu/channels/ChannelMethod$Shape", name := "reads", desc := "()Z" } : Jvm.MethodName) prog_6_method_7_code (1 : Nat) (Option.some Jvm.ClassFile.FieldType.boolean), Jvm.Cond.code ({ cls := "com/example/aizu/aizu/channels/ChannelMethod$Shape", name := "takes", desc := "()Lcom/example/aizu/aizu/channels/ChannelMethod$Kind;" } : Jvm.MethodName) prog_6_method_4_code (1 : Nat) (Option.some (Jvm.ClassFile.FieldType.object "com/example/aizu/aizu/channels/ChannelMethod$Kind")), Jvm.Cond.code ({ cls := "com/example/aizu/aizu/channels/ChannelMethod$Shape", name := "writes", desc := "()Z" } : Jvm.MethodName) prog_6_method_8_code (1 : Nat) (Option.some Jvm.ClassFile.FieldType.boolean)]
set_option maxRecDepth 65536 in
theorem codes_eq : words1.filter isCode = codes1 := rfl
theorem w_codes : ∀ c ∈ words1.filter isCode, c.before args0 about1 = true := by
  rw [codes_eq]
  intro c hc
  simp only [codes1, List.mem_cons, List.not_mem_nil, or_false] at hc
  rcases hc with rfl | rfl | rfl | rfl | rfl
  · exact w_c0
  · exact w_c1
  · exact w_c2
  · exact w_c3
  · exact w_c4
set_option maxRecDepth 65536 in
theorem w_t1 : (words1.take 24).all (fun c => isCode c || c.before args0 about1) = true := by decide +kernel
set_option maxRecDepth 65536 in
theorem w_t2 : ((words1.drop 24).take 24).all (fun c => isCode c || c.before args0 about1) = true := by decide +kernel
set_option maxRecDepth 65536 in
theorem w_t3 : ((words1.drop 24).drop 24).all (fun c => isCode c || c.before args0 about1) = true := by decide +kernel
theorem w_tables : (allAtoms (Jvm.Cond.code x code maxLocals ret :: tables_1)).before args0 about1 = true := by
  rw [allAtoms_all]
  show words1.all (fun c => c.before args0 about1) = true
  refine all_split ?_ w_codes
  rw [← List.take_append_drop 24 words1, List.all_append, w_t1, ← List.take_append_drop 24 (words1.drop 24), List.all_append, w_t2, w_t3]
  rfl
set_option maxRecDepth 65536 in
theorem w_case : (Jvm.Cond.and given_1 narrow_1).before args0 about1 = true := by decide +kernel
theorem w_applies : (headSpec (Jvm.Cond.code x code maxLocals ret :: tables_1) room_1).applies x e0.platform about1 = true :=
  (Spec.applies_iff w_frames).mpr ⟨w_running, w_runnable, w_alone, w_named, w_hears, w_ripe, w_room, w_tables⟩
theorem atStart : AtStart classFile x code maxLocals ret World_1 tables_1 room_1 Calls_1 rest_1 Pre_1 launch0 p0 e0 about1 theMethod args0 below0 :=
  ⟨lists_1, trivial, launch0.admits_env _ _ _, launch0.least_env, fairChoices_fair.cas, fairChoices_fair.clock, w_frames, w_args, w_heap, w_applies, trivial, trivial, w_case⟩
end start1
theorem witness_1 : WitnessClaimed_1 := ⟨start1.p0, start1.e0, start1.about1, start1.theMethod, start1.args0, start1.below0, start1.atStart⟩
end Jvm.Pilot.@@N@@
