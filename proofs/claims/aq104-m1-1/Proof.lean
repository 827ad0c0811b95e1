import JvmDerived
import JvmDerived.Pilot.@@N@@Statement
import JvmDerived.Pilot.@@N@@Code
set_option linter.unusedVariables false
set_option linter.unusedSimpArgs false
namespace Jvm.RoadKit
open Sem ClassFile Op Lib Jvm.Stand Jvm.Free Jvm.LawKit
section New
variable {p : Program} {l : Launch} {e : Env} {R : Room} {s : State} {m : MethodId} {args : Array Value} {below : List Frame} {meth : Method} {c : Code} {T : State} {locs : List Loc} {cells slots : Nat}
theorem retI (X : Stand p l e R s m args below meth c T locs cells slots) (hx : p.tables.exec = Jvm.exec) {pc : Nat} {Ls : Array Slot} {z : Int32} {rest : List Value} (hret : meth.sig.returnType = some .int) (hd : decode c.code pc = .ok (.ireturn, 1)) {fs : List Frame}
    (hl : ∀ (f : JFrame) (acts : List Action), f.method = m → f.locked = none → f.entered = [] → (doReturn e (T.setTop f) acts (some (.int z))).1 = T.setFrames fs) : Steps p.tables e below (T.setTop (mkF m pc Ls (.int z :: rest))) (T.setFrames fs) := by
  have hm' : T.vm.method? m = some meth := X.method'
  have hn : narrow .int (.int z) = .int z := rfl
  show Steps p.tables e below (T.setTop { method := m, pc := pc, locals := Ls, stack := _ :: rest, locked := none }) _
  jvm_step X.here [X.here.top, hx, hd, hm', hret, hn]
  first | (intro acts; rw [hl _ acts rfl rfl rfl]) | rw [hl _ _ rfl rfl rfl]
  exact Steps.refl _
end New
end Jvm.RoadKit
namespace Jvm.Pilot.@@N@@
open Jvm Jvm.ClassFile Sem Op Lib Jvm.Free Jvm.Stand Jvm.LawKit Jvm.RoadKit Bundle Jvm.Pilot.@@N@@.Jvm.D

def own_QV (r : Option Value) (h0 : Heap) (n0 : Nat) (v : Option Value) (h : Heap) (L : List Loc) : Prop := v = r ∧ Fr n0 L ∧ h = h0
def own_QL (n0 : Nat) (v : Option Value) (h : Heap) (L : List Loc) : Prop := v = some (.int (1 : Int32)) ∧ Fr n0 L
theorem own_fldi {args : Array Value} {Z : State} {t : Term} {C n d : String} {k : Int32} {a : Addr} (ht : t.eval args Z none [] Z = some (.ref a)) (h : (Jvm.Cond.eq (.field t C n d) (.int k)).value args Z none Z [] = some true) : Fld Z Z.heap a C n d (.int k) := by
  obtain ⟨x, y, hx, hy, -, k2⟩ := cmp_v (Or.inl h)
  have hy' : y = .int k := by simpa [Term.eval] using hy.symm
  subst hy'
  obtain ⟨z, rfl⟩ := k2
  have e : z = k := by simpa [Cond.value, hx, hy] using h
  subst e
  exact Fld.start (by rw [← fld_at ht]; exact hx)

theorem own_fldr {args : Array Value} {Z : State} {t u : Term} {C n d : String} {a b : Addr} (ht : t.eval args Z none [] Z = some (.ref a)) (hu : u.eval args Z none [] Z = some (.ref b)) (h : (Jvm.Cond.eq (.field t C n d) u).value args Z none Z [] = some true) : Fld Z Z.heap a C n d (.ref b) := by
  obtain ⟨x, y, hx, hy, -, k2⟩ := cmp_v (Or.inl h)
  cases hu.symm.trans hy
  have e := gotT (eq_R hx hy k2.2 rfl) h
  subst e
  exact Fld.start (by rw [← fld_at ht]; exact hx)
theorem own_fld {args : Array Value} {Z : State} {t : Term} {C n d : String} {a : Addr} {v : Value} (ht : t.eval args Z none [] Z = some (.ref a)) (h : (Term.field t C n d).eval args Z none [] Z = some v) : Fld Z Z.heap a C n d v := Fld.start (by rw [← fld_at ht]; exact h)
theorem own_len {args : Array Value} {Z : State} {t : Term} {k : Int32} {a : Addr} {cl : Cell} {ty : FieldType} (ht : t.eval args Z none [] Z = some (.ref a)) (A : Arr Z Z.heap a cl ty) (h : (Jvm.Cond.eq (.length t) (.int k)).value args Z none Z [] = some true) : cl.slots.size = k.toNatClampNeg ∧ ¬ k < 0 ∧ cl.slots.size < 2 ^ 31 ∧ cl.slots.size.toInt32 = k := by
  have ha : Z.arrayAt? a = some cl := A.fin (Vm.Alike.refl _)
  obtain ⟨x, y, hx, hy, -, k2⟩ := cmp_v (Or.inl h)
  have hl : cl.slots.size < 2 ^ 31 := by
    by_cases q : cl.slots.size < 2 ^ 31
    · exact q
    · exfalso
      have q' : ¬ cl.slots.size < 2147483648 := q
      simp [Term.eval, ht, ha, q'] at hx
  have e := len_f (args := args) (first := Z) (o := none) (idx := []) ht ha hl
  have e2 : cl.slots.size.toInt32 = k := by
    have h' := h
    simp only [Cond.value, e, Term.int_eval] at h'
    simpa using h'
  subst e2
  have t1 : cl.slots.size.toInt32.toInt = cl.slots.size := len_toInt hl
  refine ⟨?_, ?_, hl, rfl⟩
  · show cl.slots.size = (cl.slots.size.toInt32.toInt).toNat
    rw [t1]; rfl
  · rw [Int32.lt_iff_toInt_lt, t1]
    show ¬ ((cl.slots.size : Int) < 0)
    omega

def own_QA (Z : State) (cl : Cell) (ty : FieldType) (ad : String) (h0 : Heap) (n0 : Nat) (v : Option Value) (h : Heap) (L : List Loc) : Prop := ∃ b : Addr, v = some (.ref b) ∧ Fr n0 L ∧ b = h0.size ∧ Ext h0 h ∧ Arr Z h b (cloneOf cl) ty ∧ Exa Z h b ad
theorem own_elem {args : Array Value} {Z : State} {t u : Term} {k : Int32} {a b : Addr} {cl : Cell} {ty : FieldType} (ht : t.eval args Z none [] Z = some (.ref a)) (A : Arr Z Z.heap a cl ty) (hu : u.eval args Z none [] Z = some (.ref b)) (h : (Jvm.Cond.eq (.elem t (.int k)) u).value args Z none Z [] = some true) : cl.slots[k.toNatClampNeg]? = some (.ref b) := by
  obtain ⟨x, y, hx, hy, -, k2⟩ := cmp_v (Or.inl h)
  cases hu.symm.trans hy
  have e := gotT (eq_R hx hy k2.2 rfl) h
  subst e
  exact (elem_in hx ht (Term.int_eval k) A.1).2
theorem own_in6 {c : Cell} {vs : Array Value} (h : c.slots = vs) (hz : vs.size = 6) {k : Int32} (hk : ¬ (k < 0 ∨ 6 ≤ k.toNatClampNeg)) : ¬ (k < 0 ∨ c.slots.size ≤ k.toNatClampNeg) := by rw [h, hz]; exact hk
def own_QI (Z : State) (a1 : Addr) (h0 : Heap) (n0 : Nat) (v : Option Value) (h : Heap) (L : List Loc) : Prop := v = none ∧ Fr n0 L ∧ ∃ (ca : Addr) (c : Cell), Keep h0 h [a1] ∧ Fld Z h a1 "com/example/foreloom/foreloom/featuremodel/RuleTally" "counts" "[I" (.ref ca) ∧ Arr Z h ca c .int ∧ c.slots = #[.int 0, .int 0, .int 0, .int 0, .int 0, .int 0] ∧ h0.size ≤ ca
def own_QD (Z : State) (ca : Addr) (vs : Array Value) (h0 : Heap) (n0 : Nat) (v : Option Value) (h : Heap) (L : List Loc) : Prop := v = none ∧ Fr n0 L ∧ ∃ c : Cell, Keep h0 h [ca] ∧ Arr Z h ca c .int ∧ c.slots = vs
theorem d5_0 : decode jdk_37_method_2_code 0 = .ok (.aload_n 0, 1) := by decide +kernel
theorem d5_1 : decode jdk_37_method_2_code 1 = .ok (.getfield 7, 3) := by decide +kernel
theorem d5_4 : decode jdk_37_method_2_code 4 = .ok (.ireturn, 1) := by decide +kernel
theorem pn_5 : plainName "java/lang/Enum" = true := by first | (simp [plainName, overriddenIn]; done) | decide +kernel
theorem ef_5 (m : MethodId) (x0 : Addr) : entryFrame m #[(.ref x0)] 1 = mkF m 0 #[.val (.ref x0)] [] := by first | (simp [entryFrame, mkF, argsToLocals, Value.category]; done) | rfl
theorem d6_0 : decode jdk_29_method_43_code 0 = .ok (.lload_n 0, 1) := by decide +kernel
theorem d6_1 : decode jdk_29_method_43_code 1 = .ok (.l2i, 1) := by decide +kernel
theorem d6_2 : decode jdk_29_method_43_code 2 = .ok (.i2l, 1) := by decide +kernel
theorem d6_3 : decode jdk_29_method_43_code 3 = .ok (.lload_n 0, 1) := by decide +kernel
theorem d6_4 : decode jdk_29_method_43_code 4 = .ok (.lcmp, 1) := by decide +kernel
theorem d6_5 : decode jdk_29_method_43_code 5 = .ok (.ifCond .eq 13, 3) := by decide +kernel
theorem d6_18 : decode jdk_29_method_43_code 18 = .ok (.lload_n 0, 1) := by decide +kernel
theorem d6_19 : decode jdk_29_method_43_code 19 = .ok (.l2i, 1) := by decide +kernel
theorem d6_20 : decode jdk_29_method_43_code 20 = .ok (.ireturn, 1) := by decide +kernel
theorem ef_6 (m : MethodId) (x0 : Int64) : entryFrame m #[(.long x0)] 2 = mkF m 0 #[.val (.long x0), .second] [] := by first | (simp [entryFrame, mkF, argsToLocals, Value.category]; done) | rfl
theorem d7_0 : decode jdk_29_method_24_code 0 = .ok (.iload_n 0, 1) := by decide +kernel
theorem d7_1 : decode jdk_29_method_24_code 1 = .ok (.iload_n 1, 1) := by decide +kernel
theorem d7_2 : decode jdk_29_method_24_code 2 = .ok (.iadd, 1) := by decide +kernel
theorem d7_3 : decode jdk_29_method_24_code 3 = .ok (.istore_n 2, 1) := by decide +kernel
theorem d7_4 : decode jdk_29_method_24_code 4 = .ok (.iload_n 0, 1) := by decide +kernel
theorem d7_5 : decode jdk_29_method_24_code 5 = .ok (.iload_n 2, 1) := by decide +kernel
theorem d7_6 : decode jdk_29_method_24_code 6 = .ok (.ixor, 1) := by decide +kernel
theorem d7_7 : decode jdk_29_method_24_code 7 = .ok (.iload_n 1, 1) := by decide +kernel
theorem d7_8 : decode jdk_29_method_24_code 8 = .ok (.iload_n 2, 1) := by decide +kernel
theorem d7_9 : decode jdk_29_method_24_code 9 = .ok (.ixor, 1) := by decide +kernel
theorem d7_10 : decode jdk_29_method_24_code 10 = .ok (.iand, 1) := by decide +kernel
theorem d7_11 : decode jdk_29_method_24_code 11 = .ok (.ifCond .ge 13, 3) := by decide +kernel
theorem d7_24 : decode jdk_29_method_24_code 24 = .ok (.iload_n 2, 1) := by decide +kernel
theorem d7_25 : decode jdk_29_method_24_code 25 = .ok (.ireturn, 1) := by decide +kernel
theorem ef_7 (m : MethodId) (x0 : Int32) (x1 : Int32) : entryFrame m #[(.int x0), (.int x1)] 3 = mkF m 0 #[.val (.int x0), .val (.int x1), .unset] [] := by first | (simp [entryFrame, mkF, argsToLocals, Value.category]; done) | rfl
theorem d3_0 : decode prog_36_method_1_code 0 = .ok (.getstatic 22, 3) := by decide +kernel
theorem d3_3 : decode prog_36_method_1_code 3 = .ok (.invokevirtual 26, 3) := by decide +kernel
theorem d3_6 : decode prog_36_method_1_code 6 = .ok (.checkcast 27, 3) := by decide +kernel
theorem d3_9 : decode prog_36_method_1_code 9 = .ok (.areturn, 1) := by decide +kernel
theorem pn_3 : plainName "com/example/foreloom/foreloom/featuremodel/RuleKind" = true := by first | (simp [plainName, overriddenIn]; done) | decide +kernel
theorem ef_3 (m : MethodId)  : entryFrame m #[] 0 = mkF m 0 #[] [] := by first | (simp [entryFrame, mkF, argsToLocals, Value.category]; done) | rfl
theorem d1_0 : decode prog_37_method_1_code 0 = .ok (.aload_n 0, 1) := by decide +kernel
theorem d1_1 : decode prog_37_method_1_code 1 = .ok (.invokespecial 1, 3) := by decide +kernel
theorem d1_4 : decode prog_37_method_1_code 4 = .ok (.aload_n 0, 1) := by decide +kernel
theorem d1_5 : decode prog_37_method_1_code 5 = .ok (.invokestatic 7, 3) := by decide +kernel
theorem d1_8 : decode prog_37_method_1_code 8 = .ok (.arraylength, 1) := by decide +kernel
theorem d1_9 : decode prog_37_method_1_code 9 = .ok (.newarray .int, 2) := by decide +kernel
theorem d1_11 : decode prog_37_method_1_code 11 = .ok (.putfield 13, 3) := by decide +kernel
theorem d1_14 : decode prog_37_method_1_code 14 = .ok (.return_, 1) := by decide +kernel
theorem pn_1 : plainName "com/example/foreloom/foreloom/featuremodel/RuleTally" = true := by first | (simp [plainName, overriddenIn]; done) | decide +kernel
theorem pd_1_1 : parseMethodDescriptor "()[Lcom/example/foreloom/foreloom/featuremodel/RuleKind;" = some ⟨[], some (.array (.object "com/example/foreloom/foreloom/featuremodel/RuleKind"))⟩ := by decide +kernel
theorem ef_1 (m : MethodId) (x0 : Addr) : entryFrame m #[(.ref x0)] 1 = mkF m 0 #[.val (.ref x0)] [] := by first | (simp [entryFrame, mkF, argsToLocals, Value.category]; done) | rfl
theorem d4_0 : decode prog_37_method_2_code 0 = .ok (.aload_n 0, 1) := by decide +kernel
theorem d4_1 : decode prog_37_method_2_code 1 = .ok (.getfield 13, 3) := by decide +kernel
theorem d4_4 : decode prog_37_method_2_code 4 = .ok (.aload_n 1, 1) := by decide +kernel
theorem d4_5 : decode prog_37_method_2_code 5 = .ok (.invokevirtual 19, 3) := by decide +kernel
theorem d4_8 : decode prog_37_method_2_code 8 = .ok (.aload_n 0, 1) := by decide +kernel
theorem d4_9 : decode prog_37_method_2_code 9 = .ok (.getfield 13, 3) := by decide +kernel
theorem d4_12 : decode prog_37_method_2_code 12 = .ok (.aload_n 1, 1) := by decide +kernel
theorem d4_13 : decode prog_37_method_2_code 13 = .ok (.invokevirtual 19, 3) := by decide +kernel
theorem d4_16 : decode prog_37_method_2_code 16 = .ok (.iaload, 1) := by decide +kernel
theorem d4_17 : decode prog_37_method_2_code 17 = .ok (.lload_n 2, 1) := by decide +kernel
theorem d4_18 : decode prog_37_method_2_code 18 = .ok (.invokestatic 23, 3) := by decide +kernel
theorem d4_21 : decode prog_37_method_2_code 21 = .ok (.invokestatic 29, 3) := by decide +kernel
theorem d4_24 : decode prog_37_method_2_code 24 = .ok (.iastore, 1) := by decide +kernel
theorem d4_25 : decode prog_37_method_2_code 25 = .ok (.return_, 1) := by decide +kernel
theorem pn_4 : plainName "com/example/foreloom/foreloom/featuremodel/RuleTally" = true := by first | (simp [plainName, overriddenIn]; done) | decide +kernel
theorem pd_4_4 : parseMethodDescriptor "()I" = some ⟨[], some .int⟩ := by decide +kernel
theorem pd_4_5 : parseMethodDescriptor "(J)I" = some ⟨[.long], some .int⟩ := by decide +kernel
theorem pd_4_6 : parseMethodDescriptor "(II)I" = some ⟨[.int, .int], some .int⟩ := by decide +kernel
theorem ef_4 (m : MethodId) (x0 : Addr) (x1 : Addr) (x2 : Int64) : entryFrame m #[(.ref x0), (.ref x1), (.long x2)] 4 = mkF m 0 #[.val (.ref x0), .val (.ref x1), .val (.long x2), .second] [] := by first | (simp [entryFrame, mkF, argsToLocals, Value.category]; done) | rfl
theorem d8_0 : decode prog_37_method_4_code 0 = .ok (.iconst 0, 1) := by decide +kernel
theorem d8_1 : decode prog_37_method_4_code 1 = .ok (.istore_n 1, 1) := by decide +kernel
theorem d8_2 : decode prog_37_method_4_code 2 = .ok (.aload_n 0, 1) := by decide +kernel
theorem d8_3 : decode prog_37_method_4_code 3 = .ok (.getfield 13, 3) := by decide +kernel
theorem d8_6 : decode prog_37_method_4_code 6 = .ok (.astore_n 2, 1) := by decide +kernel
theorem d8_7 : decode prog_37_method_4_code 7 = .ok (.aload_n 2, 1) := by decide +kernel
theorem d8_8 : decode prog_37_method_4_code 8 = .ok (.arraylength, 1) := by decide +kernel
theorem d8_9 : decode prog_37_method_4_code 9 = .ok (.istore_n 3, 1) := by decide +kernel
theorem d8_10 : decode prog_37_method_4_code 10 = .ok (.iconst 0, 1) := by decide +kernel
theorem d8_11 : decode prog_37_method_4_code 11 = .ok (.istore 4, 2) := by decide +kernel
theorem d8_13 : decode prog_37_method_4_code 13 = .ok (.iload 4, 2) := by decide +kernel
theorem d8_15 : decode prog_37_method_4_code 15 = .ok (.iload_n 3, 1) := by decide +kernel
theorem d8_16 : decode prog_37_method_4_code 16 = .ok (.if_icmp .ge 20, 3) := by decide +kernel
theorem d8_36 : decode prog_37_method_4_code 36 = .ok (.iload_n 1, 1) := by decide +kernel
theorem d8_37 : decode prog_37_method_4_code 37 = .ok (.ireturn, 1) := by decide +kernel
theorem pn_8 : plainName "com/example/foreloom/foreloom/featuremodel/RuleTally" = true := by first | (simp [plainName, overriddenIn]; done) | decide +kernel
theorem ef_8 (m : MethodId) (x0 : Addr) : entryFrame m #[(.ref x0)] 6 = mkF m 0 #[.val (.ref x0), .unset, .unset, .unset, .unset, .unset] [] := by first | (simp [entryFrame, mkF, argsToLocals, Value.category]; done) | rfl
theorem d8_19 : decode prog_37_method_4_code 19 = .ok (.aload_n 2, 1) := by decide +kernel
theorem d8_20 : decode prog_37_method_4_code 20 = .ok (.iload 4, 2) := by decide +kernel
theorem d8_22 : decode prog_37_method_4_code 22 = .ok (.iaload, 1) := by decide +kernel
theorem d8_23 : decode prog_37_method_4_code 23 = .ok (.istore 5, 2) := by decide +kernel
theorem d8_25 : decode prog_37_method_4_code 25 = .ok (.iload_n 1, 1) := by decide +kernel
theorem d8_26 : decode prog_37_method_4_code 26 = .ok (.iload 5, 2) := by decide +kernel
theorem d8_28 : decode prog_37_method_4_code 28 = .ok (.iadd, 1) := by decide +kernel
theorem d8_29 : decode prog_37_method_4_code 29 = .ok (.istore_n 1, 1) := by decide +kernel
theorem d8_30 : decode prog_37_method_4_code 30 = .ok (.iinc 4 1, 3) := by decide +kernel
theorem d8_33 : decode prog_37_method_4_code 33 = .ok (.goto (-20), 3) := by decide +kernel
theorem os_own_turn_23 {s0 : Slot} {z1 : Value} {z2 : Value} {z3 : Value} {z4 : Value} {s5 : Slot} {v : Int32} (h : One s5) : storeLocals #[s0, .val z1, .val z2, .val z3, .val z4, s5] 5 (.int v) = some #[s0, .val z1, .val z2, .val z3, .val z4, .val (.int v)] := by
  rcases h with rfl | ⟨w, rfl, hw⟩
  · rfl
  · cases w <;> first | rfl | (simp [Value.category] at hw)
theorem pn_0 : plainName "com/example/foreloom/foreloom/featuremodel/RuleTallyTotalPinLaw" = true := by first | (simp [plainName, overriddenIn]; done) | decide +kernel
theorem pd_0_0 : parseMethodDescriptor "()V" = some ⟨[], none⟩ := by decide +kernel
theorem pd_0_3 : parseMethodDescriptor "(Lcom/example/foreloom/foreloom/featuremodel/RuleKind;J)V" = some ⟨[(.object "com/example/foreloom/foreloom/featuremodel/RuleKind"), .long], none⟩ := by decide +kernel
theorem pd_0_4 : parseMethodDescriptor "()I" = some ⟨[], some .int⟩ := by decide +kernel
theorem ef_0 (m : MethodId) (x0 : Int32) (x1 : Int32) (x2 : Int32) (x3 : Int32) (x4 : Int32) (x5 : Int32) : entryFrame m #[(.int x0), (.int x1), (.int x2), (.int x3), (.int x4), (.int x5)] maxLocals = mkF m 0 #[.val (.int x0), .val (.int x1), .val (.int x2), .val (.int x3), .val (.int x4), .val (.int x5), .unset, .unset] [] := by first | (simp [entryFrame, mkF, argsToLocals, Value.category, maxLocals]; done) | rfl
set_option maxRecDepth 65536 in
set_option maxHeartbeats 40000000 in
theorem rm5 (l : Launch) (Z : State) (a0 : Array Value) (hw : ∀ d ∈ tables_1, d.before a0 Z = true) (ws : List Jvm.Cond) (a1 : Addr) (w2 : Int32) (h0 : Heap) (n0 : Nat) (Z0 : n0 ≤ h0.size) (F_ordinal_a1 : Fld Z h0 a1 "java/lang/Enum" "ordinal" "I" (.int w2)) :
    MetFree l (⟨"java/lang/Enum", "ordinal", "()I"⟩ : MethodName) (head1 (Jvm.Cond.code (⟨"java/lang/Enum", "ordinal", "()I"⟩ : MethodName) jdk_37_method_2_code 1 (some .int) :: ws) ({ frames := 0, cells := 0, slots := 0, locals := 0 } : Room)) (fun a U => a = #[(.ref a1)] ∧ Z.Warmed39 U.vm ∧ U.heap = h0) (fun _ _ _ _ _ => True) (fun _ U o U' => ∃ v L, o = .returned v ∧ own_QV (some (.int w2)) h0 n0 v U'.heap L ∧ FrameEnd U o U' L ({ frames := 0, cells := 0, slots := 0, locals := 0 } : Room).cells ({ frames := 0, cells := 0, slots := 0, locals := 0 } : Room).slots) := by
  refine MetFree.of_bodySF (plainFor_of_name pn_5) hisR ?_
  intro p e s m args below meth c s₁ Bd hml0 hP hK
  obtain ⟨rfl, hZ, hh⟩ := hP
  have hx := Bd.exec
  have hby := Bd.bytes
  have hml : c.maxLocals = 1 := hml0
  have hown : s.vm.findClass "java/lang/Enum" = some m.cls := findClass_of_methodNamed Bd.named
  have hnm := (name_of_methodNamed Bd.named Bd.method).1
  have X0 : Stand p l e ({ frames := 0, cells := 0, slots := 0, locals := 0 } : Room) s m #[(.ref a1)] below meth c s₁ [] 0 0 := Stand.of_body Bd
  have e0 : s₁.heap = h0 := by rw [← hh, Bd.state]; rfl
  have N0 := Fr.nil n0
  have pre0 : ∀ t, Steps p.tables e below (s₁.setTop (mkF m 0 #[.val (.ref a1)] [])) t → Steps p.tables e below (s₁.setTop (entryFrame m #[(.ref a1)] 1)) t := fun t k => castTop (ef_5 m a1) k
  obtain ⟨T3, X3, e3, st3⟩ := getF X0 hx hZ hown (host := "") (Or.inl (hw _ (List.mem_of_getElem? (i := 47) rfl))) Via.refl e0 F_ordinal_a1 (g := (mkF m 1 #[.val (.ref a1)] [(.ref a1)])) rfl rfl (hb hby d5_1)
  obtain ⟨fs, hr, hrun, hended, hW, hsame⟩ := X3.leave (v := some (.int w2)) (fun h => by rw [Bd.returns] at h; cases h)
  refine ⟨_, _, pre0 _ ?_, hrun, hended, _, _, rfl, ?_, ⟨_, rfl⟩, hW, hsame.mono (by decide) (by decide)⟩
  · show Steps p.tables e below (s₁.setTop (mkF m 0 #[.val (.ref a1)] [])) _
    refine XS.aloadN X0.here hx rfl (hb hby d5_0) rfl rfl ?_
    show Steps p.tables e below (s₁.setTop (mkF m 1 #[.val (.ref a1)] [(.ref a1)])) _
    refine st3 _ ?_
    show Steps p.tables e below (T3.setTop (mkF m 4 #[.val (.ref a1)] [(.int w2)])) _
    exact retI X3 hx Bd.returns (hb hby d5_4) hr      -- retI stands in the head ('lawwalk <made dir>' prints it)
  · show own_QV (some (.int w2)) h0 n0 _ T3.heap _
    rw [e3]
    exact ⟨rfl, N0, rfl⟩
set_option maxRecDepth 65536 in
set_option maxHeartbeats 40000000 in
theorem rm6 (l : Launch) (Z : State) (a0 : Array Value) (hw : ∀ d ∈ tables_1, d.before a0 Z = true) (ws : List Jvm.Cond) (q1 : Int64) (h0 : Heap) (n0 : Nat) (Z0 : n0 ≤ h0.size) (hc5 : (lcmpW ((q1.toInt32).toInt64) q1) = (0 : Int32)) :
    MetFree l (⟨"java/lang/Math", "toIntExact", "(J)I"⟩ : MethodName) (head1 (Jvm.Cond.code (⟨"java/lang/Math", "toIntExact", "(J)I"⟩ : MethodName) jdk_29_method_43_code 2 (some .int) :: ws) ({ frames := 0, cells := 0, slots := 0, locals := 0 } : Room)) (fun a U => a = #[(.long q1)] ∧ Z.Warmed39 U.vm ∧ U.heap = h0) (fun _ _ _ _ _ => True) (fun _ U o U' => ∃ v L, o = .returned v ∧ own_QV (some (.int q1.toInt32)) h0 n0 v U'.heap L ∧ FrameEnd U o U' L ({ frames := 0, cells := 0, slots := 0, locals := 0 } : Room).cells ({ frames := 0, cells := 0, slots := 0, locals := 0 } : Room).slots) := by
  refine MetFree.of_bodySF (Jvm.Free.JP.mathPlain rfl (by decide +kernel)) hisR ?_
  intro p e s m args below meth c s₁ Bd hml0 hP hK
  obtain ⟨rfl, hZ, hh⟩ := hP
  have hx := Bd.exec
  have hby := Bd.bytes
  have hml : c.maxLocals = 2 := hml0
  have hown : s.vm.findClass "java/lang/Math" = some m.cls := findClass_of_methodNamed Bd.named
  have hnm := (name_of_methodNamed Bd.named Bd.method).1
  have X0 : Stand p l e ({ frames := 0, cells := 0, slots := 0, locals := 0 } : Room) s m #[(.long q1)] below meth c s₁ [] 0 0 := Stand.of_body Bd
  have e0 : s₁.heap = h0 := by rw [← hh, Bd.state]; rfl
  have N0 := Fr.nil n0
  have pre0 : ∀ t, Steps p.tables e below (s₁.setTop (mkF m 0 #[.val (.long q1), .second] [])) t → Steps p.tables e below (s₁.setTop (entryFrame m #[(.long q1)] 2)) t := fun t k => castTop (ef_6 m q1) k

  obtain ⟨fs, hr, hrun, hended, hW, hsame⟩ := X0.leave (v := some (.int (q1.toInt32))) (fun h => by rw [Bd.returns] at h; cases h)
  refine ⟨_, _, pre0 _ ?_, hrun, hended, _, _, rfl, ?_, ⟨_, rfl⟩, hW, hsame.mono (by decide) (by decide)⟩
  · show Steps p.tables e below (s₁.setTop (mkF m 0 #[.val (.long q1), .second] [])) _
    refine XS.lloadN X0.here hx rfl (hb hby d6_0) rfl ?_
    show Steps p.tables e below (s₁.setTop (mkF m 1 #[.val (.long q1), .second] [(.long q1)])) _
    refine XS.l2i X0.here hx rfl (hb hby d6_1) rfl ?_
    show Steps p.tables e below (s₁.setTop (mkF m 2 #[.val (.long q1), .second] [(.int (q1.toInt32))])) _
    refine XS.i2l X0.here hx rfl (hb hby d6_2) rfl ?_
    show Steps p.tables e below (s₁.setTop (mkF m 3 #[.val (.long q1), .second] [(.long ((q1.toInt32).toInt64))])) _
    refine XS.lloadN X0.here hx rfl (hb hby d6_3) rfl ?_
    show Steps p.tables e below (s₁.setTop (mkF m 4 #[.val (.long q1), .second] [(.long q1), (.long ((q1.toInt32).toInt64))])) _
    refine XS.lcmp X0.here hx rfl (hb hby d6_4) rfl ?_
    show Steps p.tables e below (s₁.setTop (mkF m 5 #[.val (.long q1), .second] [(.int (lcmpW ((q1.toInt32).toInt64) q1))])) _
    refine XS.ifYes X0.here hx rfl (pc0 := 5) (pc' := 18) rfl (hb hby d6_5) rfl ((if0 _ _).trans (teq hc5).1) (by decide) (by decide) ?_
    show Steps p.tables e below (s₁.setTop (mkF m 18 #[.val (.long q1), .second] [])) _
    refine XS.lloadN X0.here hx rfl (hb hby d6_18) rfl ?_
    show Steps p.tables e below (s₁.setTop (mkF m 19 #[.val (.long q1), .second] [(.long q1)])) _
    refine XS.l2i X0.here hx rfl (hb hby d6_19) rfl ?_
    show Steps p.tables e below (s₁.setTop (mkF m 20 #[.val (.long q1), .second] [(.int (q1.toInt32))])) _
    exact retI X0 hx Bd.returns (hb hby d6_20) hr      -- retI stands in the head ('lawwalk <made dir>' prints it)
  · show own_QV (some (.int q1.toInt32)) h0 n0 _ s₁.heap _
    rw [e0]
    exact ⟨rfl, N0, rfl⟩
set_option maxRecDepth 65536 in
set_option maxHeartbeats 40000000 in
theorem rm7 (l : Launch) (Z : State) (a0 : Array Value) (hw : ∀ d ∈ tables_1, d.before a0 Z = true) (ws : List Jvm.Cond) (p1 : Int32) (p2 : Int32) (h0 : Heap) (n0 : Nat) (Z0 : n0 ≤ h0.size) (hc11 : ¬ (((p1 ^^^ (p1 + p2)) &&& (p2 ^^^ (p1 + p2))) < (0 : Int32))) :
    MetFree l (⟨"java/lang/Math", "addExact", "(II)I"⟩ : MethodName) (head1 (Jvm.Cond.code (⟨"java/lang/Math", "addExact", "(II)I"⟩ : MethodName) jdk_29_method_24_code 3 (some .int) :: ws) ({ frames := 0, cells := 0, slots := 0, locals := 0 } : Room)) (fun a U => a = #[(.int p1), (.int p2)] ∧ Z.Warmed39 U.vm ∧ U.heap = h0) (fun _ _ _ _ _ => True) (fun _ U o U' => ∃ v L, o = .returned v ∧ own_QV (some (.int (p1 + p2))) h0 n0 v U'.heap L ∧ FrameEnd U o U' L ({ frames := 0, cells := 0, slots := 0, locals := 0 } : Room).cells ({ frames := 0, cells := 0, slots := 0, locals := 0 } : Room).slots) := by
  refine MetFree.of_bodySF (Jvm.Free.JP.mathPlain rfl (by decide +kernel)) hisR ?_
  intro p e s m args below meth c s₁ Bd hml0 hP hK
  obtain ⟨rfl, hZ, hh⟩ := hP
  have hx := Bd.exec
  have hby := Bd.bytes
  have hml : c.maxLocals = 3 := hml0
  have hown : s.vm.findClass "java/lang/Math" = some m.cls := findClass_of_methodNamed Bd.named
  have hnm := (name_of_methodNamed Bd.named Bd.method).1
  have X0 : Stand p l e ({ frames := 0, cells := 0, slots := 0, locals := 0 } : Room) s m #[(.int p1), (.int p2)] below meth c s₁ [] 0 0 := Stand.of_body Bd
  have e0 : s₁.heap = h0 := by rw [← hh, Bd.state]; rfl
  have N0 := Fr.nil n0
  have pre0 : ∀ t, Steps p.tables e below (s₁.setTop (mkF m 0 #[.val (.int p1), .val (.int p2), .unset] [])) t → Steps p.tables e below (s₁.setTop (entryFrame m #[(.int p1), (.int p2)] 3)) t := fun t k => castTop (ef_7 m p1 p2) k

  obtain ⟨fs, hr, hrun, hended, hW, hsame⟩ := X0.leave (v := some (.int (p1 + p2))) (fun h => by rw [Bd.returns] at h; cases h)
  refine ⟨_, _, pre0 _ ?_, hrun, hended, _, _, rfl, ?_, ⟨_, rfl⟩, hW, hsame.mono (by decide) (by decide)⟩
  · show Steps p.tables e below (s₁.setTop (mkF m 0 #[.val (.int p1), .val (.int p2), .unset] [])) _
    refine XS.iloadN X0.here hx rfl (hb hby d7_0) rfl ?_
    show Steps p.tables e below (s₁.setTop (mkF m 1 #[.val (.int p1), .val (.int p2), .unset] [(.int p1)])) _
    refine XS.iloadN X0.here hx rfl (hb hby d7_1) rfl ?_
    show Steps p.tables e below (s₁.setTop (mkF m 2 #[.val (.int p1), .val (.int p2), .unset] [(.int p2), (.int p1)])) _
    refine XS.iadd X0.here hx rfl (hb hby d7_2) rfl ?_
    show Steps p.tables e below (s₁.setTop (mkF m 3 #[.val (.int p1), .val (.int p2), .unset] [(.int (p1 + p2))])) _
    refine XS.istoreN X0.here hx rfl (hb hby d7_3) rfl (l' := #[.val (.int p1), .val (.int p2), .val (.int (p1 + p2))]) rfl ?_
    show Steps p.tables e below (s₁.setTop (mkF m 4 #[.val (.int p1), .val (.int p2), .val (.int (p1 + p2))] [])) _
    refine XS.iloadN X0.here hx rfl (hb hby d7_4) rfl ?_
    show Steps p.tables e below (s₁.setTop (mkF m 5 #[.val (.int p1), .val (.int p2), .val (.int (p1 + p2))] [(.int p1)])) _
    refine XS.iloadN X0.here hx rfl (hb hby d7_5) rfl ?_
    show Steps p.tables e below (s₁.setTop (mkF m 6 #[.val (.int p1), .val (.int p2), .val (.int (p1 + p2))] [(.int (p1 + p2)), (.int p1)])) _
    refine XS.ixor X0.here hx rfl (hb hby d7_6) rfl ?_
    show Steps p.tables e below (s₁.setTop (mkF m 7 #[.val (.int p1), .val (.int p2), .val (.int (p1 + p2))] [(.int (p1 ^^^ (p1 + p2)))])) _
    refine XS.iloadN X0.here hx rfl (hb hby d7_7) rfl ?_
    show Steps p.tables e below (s₁.setTop (mkF m 8 #[.val (.int p1), .val (.int p2), .val (.int (p1 + p2))] [(.int p2), (.int (p1 ^^^ (p1 + p2)))])) _
    refine XS.iloadN X0.here hx rfl (hb hby d7_8) rfl ?_
    show Steps p.tables e below (s₁.setTop (mkF m 9 #[.val (.int p1), .val (.int p2), .val (.int (p1 + p2))] [(.int (p1 + p2)), (.int p2), (.int (p1 ^^^ (p1 + p2)))])) _
    refine XS.ixor X0.here hx rfl (hb hby d7_9) rfl ?_
    show Steps p.tables e below (s₁.setTop (mkF m 10 #[.val (.int p1), .val (.int p2), .val (.int (p1 + p2))] [(.int (p2 ^^^ (p1 + p2))), (.int (p1 ^^^ (p1 + p2)))])) _
    refine XS.iand X0.here hx rfl (hb hby d7_10) rfl ?_
    show Steps p.tables e below (s₁.setTop (mkF m 11 #[.val (.int p1), .val (.int p2), .val (.int (p1 + p2))] [(.int ((p1 ^^^ (p1 + p2)) &&& (p2 ^^^ (p1 + p2))))])) _
    refine XS.ifYes X0.here hx rfl (pc0 := 11) (pc' := 24) rfl (hb hby d7_11) rfl ((if0 _ _).trans (flt hc11).2.1) (by decide) (by decide) ?_
    show Steps p.tables e below (s₁.setTop (mkF m 24 #[.val (.int p1), .val (.int p2), .val (.int (p1 + p2))] [])) _
    refine XS.iloadN X0.here hx rfl (hb hby d7_24) rfl ?_
    show Steps p.tables e below (s₁.setTop (mkF m 25 #[.val (.int p1), .val (.int p2), .val (.int (p1 + p2))] [(.int (p1 + p2))])) _
    exact retI X0 hx Bd.returns (hb hby d7_25) hr      -- retI stands in the head ('lawwalk <made dir>' prints it)
  · show own_QV (some (.int (p1 + p2))) h0 n0 _ s₁.heap _
    rw [e0]
    exact ⟨rfl, N0, rfl⟩
set_option maxRecDepth 65536 in
set_option maxHeartbeats 40000000 in
theorem rm3 (l : Launch) (Z : State) (a0 : Array Value) (hw : ∀ d ∈ tables_1, d.before a0 Z = true) (ws : List Jvm.Cond) (w1 : Addr) (cl_w1 : Cell) (h0 : Heap) (n0 : Nat) (Z0 : n0 ≤ h0.size) (S__VALUES : Sta Z h0 "com/example/foreloom/foreloom/featuremodel/RuleKind" "$VALUES" "[Lcom/example/foreloom/foreloom/featuremodel/RuleKind;" (.ref w1)) (Ar_w1 : Arr Z h0 w1 cl_w1 (.object "com/example/foreloom/foreloom/featuremodel/RuleKind")) (Fc_w1 : FitC Z cl_w1) (hcap_w1 : cl_w1.slots.size ≤ 6) (E_w1 : Exa Z h0 w1 "[Lcom/example/foreloom/foreloom/featuremodel/RuleKind;") :
    MetFree l (⟨"com/example/foreloom/foreloom/featuremodel/RuleKind", "values", "()[Lcom/example/foreloom/foreloom/featuremodel/RuleKind;"⟩ : MethodName) (head1 (Jvm.Cond.code (⟨"com/example/foreloom/foreloom/featuremodel/RuleKind", "values", "()[Lcom/example/foreloom/foreloom/featuremodel/RuleKind;"⟩ : MethodName) prog_36_method_1_code 0 (some (.array (.object "com/example/foreloom/foreloom/featuremodel/RuleKind"))) :: ws) ({ frames := 1, cells := 1, slots := 6, locals := 14 } : Room)) (fun a U => a = #[] ∧ Z.Warmed39 U.vm ∧ U.heap = h0) (fun _ _ _ _ _ => True) (fun _ U o U' => ∃ v L, o = .returned v ∧ own_QA Z cl_w1 (.object "com/example/foreloom/foreloom/featuremodel/RuleKind") "[Lcom/example/foreloom/foreloom/featuremodel/RuleKind;" h0 n0 v U'.heap L ∧ FrameEnd U o U' L ({ frames := 1, cells := 1, slots := 6, locals := 14 } : Room).cells ({ frames := 1, cells := 1, slots := 6, locals := 14 } : Room).slots) := by
  refine MetFree.of_bodySF (plainFor_of_name pn_3) hisR ?_
  intro p e s m args below meth c s₁ Bd hml0 hP hK
  obtain ⟨rfl, hZ, hh⟩ := hP
  have hx := Bd.exec
  have hby := Bd.bytes
  have hml : c.maxLocals = 0 := hml0
  have hown : s.vm.findClass "com/example/foreloom/foreloom/featuremodel/RuleKind" = some m.cls := findClass_of_methodNamed Bd.named
  have hnm := (name_of_methodNamed Bd.named Bd.method).1
  have X0 : Stand p l e ({ frames := 1, cells := 1, slots := 6, locals := 14 } : Room) s m #[] below meth c s₁ [] 0 0 := Stand.of_body Bd
  have e0 : s₁.heap = h0 := by rw [← hh, Bd.state]; rfl
  have N0 := Fr.nil n0
  have pre0 : ∀ t, Steps p.tables e below (s₁.setTop (mkF m 0 #[] [])) t → Steps p.tables e below (s₁.setTop (entryFrame m #[] 0)) t := fun t k => castTop (ef_3 m ) k
  obtain ⟨T2, X2, e2, st2⟩ := getS2 X0 hx hZ hown (host := "") (Or.inl (hw _ (List.mem_of_getElem? (i := 13) rfl))) Via.refl e0 S__VALUES (g := (mkF m 0 #[] [])) rfl (hb hby d3_0)
  obtain ⟨T3, h3, X3, e3, E3, A3, B3, st3⟩ := cloneA X2 hx hZ hown (hw _ (List.mem_of_getElem? (i := 15) rfl)) (hw _ (List.mem_of_getElem? (i := 16) rfl)) (hw _ (List.mem_of_getElem? (i := 20) rfl)) (hw _ (List.mem_of_getElem? (i := 18) rfl)) (hw _ (List.mem_of_getElem? (i := 19) rfl)) (hw _ (List.mem_of_getElem? (i := 21) rfl)) e2 Ar_w1 E_w1 Fc_w1 (g := (mkF m 3 #[] [(.ref w1)])) rfl (by rw [hml]; rfl) rfl (hb hby d3_3) (by decide) (W := 0) (by show 2 * 0 + _ ≤ _; exact Nat.le_of_eq rfl) (by decide) (cap := 6) hcap_w1 (by decide) (by decide)
  obtain ⟨b3, g3⟩ : ∃ z, z = h0.size := ⟨_, rfl⟩
  rw [← g3] at A3 B3 st3
  have g_b3 : n0 ≤ b3 := Nat.le_trans Z0 (Nat.le_of_eq g3.symm)
  have K3 : Keep h0 h3 [] := (Keep.refl h0 []).ext E3
  obtain ⟨T4, X4, e4, st4⟩ := castY X3 hx hZ hown (hw _ (List.mem_of_getElem? (i := 29) rfl)) e3 (Ins.self B3) (g := (mkF m 6 #[] [(.ref b3)])) rfl rfl (hb hby d3_6)
  obtain ⟨fs, hr, hrun, hended, hW, hsame⟩ := X4.leave (v := some (.ref b3)) (fun h => by rw [Bd.returns] at h; cases h)
  refine ⟨_, _, pre0 _ ?_, hrun, hended, _, _, rfl, ?_, ⟨_, rfl⟩, hW, hsame.mono (by decide) (by decide)⟩
  · show Steps p.tables e below (s₁.setTop (mkF m 0 #[] [])) _
    refine st2 _ ?_
    show Steps p.tables e below (T2.setTop (mkF m 3 #[] [(.ref w1)])) _
    refine st3 _ ?_
    show Steps p.tables e below (T3.setTop (mkF m 6 #[] [(.ref b3)])) _
    refine st4 _ ?_
    show Steps p.tables e below (T4.setTop (mkF m 9 #[] [(.ref b3)])) _
    jvm_step X4.here [X4.here.top, hx, (hb hby d3_9), X4.method', Bd.returns, Value.isRef, FieldType.isReference]
    first | (intro acts; rw [hr _ acts rfl rfl rfl]) | rw [hr _ _ rfl rfl rfl]
    exact Steps.refl _
  · show own_QA Z cl_w1 (.object "com/example/foreloom/foreloom/featuremodel/RuleKind") "[Lcom/example/foreloom/foreloom/featuremodel/RuleKind;" h0 n0 _ T4.heap _
    rw [e4]
    exact ⟨_, rfl, N0, g3, E3, A3, B3⟩
set_option maxRecDepth 65536 in
set_option maxHeartbeats 40000000 in
theorem rm1 (l : Launch) (Z : State) (a0 : Array Value) (hw : ∀ d ∈ tables_1, d.before a0 Z = true) (ws : List Jvm.Cond) (a1 : Addr) (wv : Addr) (cl : Cell) (h0 : Heap) (n0 : Nat) (Z0 : n0 ≤ h0.size) (E_a1 : Exa Z h0 a1 "com/example/foreloom/foreloom/featuremodel/RuleTally") (F_counts_a1 : Fld Z h0 a1 "com/example/foreloom/foreloom/featuremodel/RuleTally" "counts" "[I" .null) (g_a1 : n0 ≤ a1) (Sv : Sta Z h0 "com/example/foreloom/foreloom/featuremodel/RuleKind" "$VALUES" "[Lcom/example/foreloom/foreloom/featuremodel/RuleKind;" (.ref wv)) (Av : Arr Z h0 wv cl (.object "com/example/foreloom/foreloom/featuremodel/RuleKind")) (Fc : FitC Z cl) (hcap : cl.slots.size ≤ 6) (Ev : Exa Z h0 wv "[Lcom/example/foreloom/foreloom/featuremodel/RuleKind;") (Sz : cl.slots.size = (6 : Int32).toNatClampNeg) :
    MetFree l (⟨"com/example/foreloom/foreloom/featuremodel/RuleTally", "<init>", "()V"⟩ : MethodName) (head1 (Jvm.Cond.code (⟨"com/example/foreloom/foreloom/featuremodel/RuleTally", "<init>", "()V"⟩ : MethodName) prog_37_method_1_code 1 none :: ws) ({ frames := 2, cells := 2, slots := 12, locals := 26 } : Room)) (fun a U => a = #[(.ref a1)] ∧ Z.Warmed39 U.vm ∧ U.heap = h0) (fun _ _ _ _ _ => True) (fun _ U o U' => ∃ v L, o = .returned v ∧ own_QI Z a1 h0 n0 v U'.heap L ∧ FrameEnd U o U' L ({ frames := 2, cells := 2, slots := 12, locals := 26 } : Room).cells ({ frames := 2, cells := 2, slots := 12, locals := 26 } : Room).slots) := by
  refine MetFree.of_bodySF (plainFor_of_name pn_1) hisR ?_
  intro p e s m args below meth c s₁ Bd hml0 hP hK
  obtain ⟨rfl, hZ, hh⟩ := hP
  have hx := Bd.exec
  have hby := Bd.bytes
  have hml : c.maxLocals = 1 := hml0
  have hown : s.vm.findClass "com/example/foreloom/foreloom/featuremodel/RuleTally" = some m.cls := findClass_of_methodNamed Bd.named
  have hnm := (name_of_methodNamed Bd.named Bd.method).1
  have X0 : Stand p l e ({ frames := 2, cells := 2, slots := 12, locals := 26 } : Room) s m #[(.ref a1)] below meth c s₁ [] 0 0 := Stand.of_body Bd
  have e0 : s₁.heap = h0 := by rw [← hh, Bd.state]; rfl
  have N0 := Fr.nil n0
  have pre0 : ∀ t, Steps p.tables e below (s₁.setTop (mkF m 0 #[.val (.ref a1)] [])) t → Steps p.tables e below (s₁.setTop (entryFrame m #[(.ref a1)] 1)) t := fun t k => castTop (ef_1 m a1) k
  obtain ⟨T2, X2, e2, st2⟩ := initO X0 hx hZ hown (hw _ (List.mem_of_getElem? (i := 6) rfl)) (hw _ (List.mem_of_getElem? (i := 7) rfl)) (hw _ (List.mem_of_getElem? (i := 8) rfl)) e0 (g := (mkF m 1 #[.val (.ref a1)] [(.ref a1)])) rfl (by rw [hml]; rfl) rfl (hb hby d1_1) (by decide) (W := 0) (by show 2 * 0 + _ ≤ _; exact Nat.le_of_eq rfl) (by decide)
  obtain ⟨_, _, ⟨T3, L3, k3, n3⟩, -, X3, ⟨Lc3, hQ3, l3, y3, z3⟩, st3⟩ := Jvm.LawKit.callS X2 hx (y := (⟨"com/example/foreloom/foreloom/featuremodel/RuleKind", "values", "()[Lcom/example/foreloom/foreloom/featuremodel/RuleKind;"⟩ : MethodName)) hown (mvT hZ (hw _ (List.mem_of_getElem? (i := 9) rfl))) (mvT hZ (hw _ (List.mem_of_getElem? (i := 10) rfl))) (mvT hZ (hw _ (List.mem_of_getElem? (i := 11) rfl))) (mvT hZ (hw _ (List.mem_of_getElem? (i := 12) rfl))) (by decide) (backOf (W := 1) (rm3 l Z a0 hw []  wv cl h0 n0 Z0 Sv Av Fc hcap Ev) hZ (hw _ (List.mem_of_getElem? (i := 12) rfl)) (hw _ (List.mem_of_getElem? (i := 11) rfl)) (by decide) (by decide)) (g := (mkF m 5 #[.val (.ref a1)] [(.ref a1)])) rfl (by rw [hml]; rfl) (argsL := []) (rest := [(.ref a1)]) (lenOf pd_1_1 rfl) rfl (by show 2 * 0 + _ ≤ _; exact Nat.le_of_eq rfl) (hb hby d1_5) (fun _ _ => ⟨rfl, e2, (Nat.le_of_ble_eq_true rfl), (Nat.le_of_ble_eq_true rfl)⟩)
  dsimp only [Pt.U, Pt.locs, Pt.cells, Pt.slots] at X3 l3 y3 z3 st3 hQ3
  subst l3 y3 z3
  obtain ⟨vb, rfl, N3q, gvb, EX3, Ar_vb, EE3⟩ := hQ3
  have KC3 : Keep h0 T3.heap [a1] := (Keep.refl _ _).ext EX3
  have N3 := Fr.app N0 N3q
  obtain ⟨T4, h4, k4, X4, e4, E4, A4, st4⟩ := newP X3 hx hZ (hw _ (List.mem_of_getElem? (i := 31) rfl)) rfl (g := (mkF m 9 #[.val (.ref a1)] [(.int (6 : Int32)), (.ref a1)])) rfl (hb hby d1_9) rfl (by decide) (cap := 6) (by decide) (by decide) (by decide) (by decide)
  obtain ⟨b4, g4⟩ : ∃ z, z = T3.heap.size := ⟨_, rfl⟩      -- the fresh array's address
  rw [← g4] at A4 st4
  have V_b4 := Arv.new A4 (by decide)      -- Arv Z h4 b4 k4 .int (6 : Int32) [] (its first value); a place must be in the list before it's written: Arv.pad with pad_rep
  have g_b4 : n0 ≤ b4 := Nat.le_trans (Nat.le_trans Z0 KC3.1) (Nat.le_of_eq g4.symm)
  have sz_b4 : h0.size ≤ b4 := (Nat.le_trans KC3.1 (Nat.le_of_eq g4.symm))
  have K4 : Keep h0 h4 [a1] := KC3.ext E4
  obtain ⟨T5, h5, X5, e5, W5, st5⟩ := putF X4 hx hZ hown (host := "") (Or.inl (hw _ (List.mem_of_getElem? (i := 32) rfl))) Via.refl e4 ((F_counts_a1.ext EX3).ext E4) ((E_a1.keep KC3).ext E4) (Or.inr ⟨(hw _ (List.mem_of_getElem? (i := 33) rfl)), rfl, hnm⟩) (hw _ (List.mem_of_getElem? (i := 1) rfl)) (ty := (.array .int)) (by decide) rfl rfl (g := (mkF m 11 #[.val (.ref a1)] [(.ref b4), (.ref a1)])) rfl rfl (hb hby d1_11)
  have Fw5 := ((F_counts_a1.ext EX3).ext E4).same W5      -- the field now holds (.ref b4)
  have K5 : Keep h0 h5 [a1] := K4.wr W5 (Or.inl (List.mem_of_getElem? (i := 0) rfl))
  have N5 := Fr.snoc X5 N3 g_a1
  obtain ⟨fs, hr, hrun, hended, hW, hsame⟩ := X5.leave (v := none) (fun _ => rfl)
  refine ⟨_, _, pre0 _ ?_, hrun, hended, _, _, rfl, ?_, ⟨_, rfl⟩, hW, hsame.mono (by decide) (by decide)⟩
  · show Steps p.tables e below (s₁.setTop (mkF m 0 #[.val (.ref a1)] [])) _
    refine XS.aloadN X0.here hx rfl (hb hby d1_0) rfl rfl ?_
    show Steps p.tables e below (s₁.setTop (mkF m 1 #[.val (.ref a1)] [(.ref a1)])) _
    refine st2 _ ?_
    show Steps p.tables e below (T2.setTop (mkF m 4 #[.val (.ref a1)] [])) _
    refine XS.aloadN X2.here hx rfl (hb hby d1_4) rfl rfl ?_
    show Steps p.tables e below (T2.setTop (mkF m 5 #[.val (.ref a1)] [(.ref a1)])) _
    refine st3 _ ?_
    show Steps p.tables e below (T3.setTop (mkF m 8 #[.val (.ref a1)] [(.ref vb), (.ref a1)])) _
    refine X3.arraylength hx Ar_vb.1 (State.isArrayOf_alike hZ.alike Ar_vb.2.1) (g := (mkF m 8 #[.val (.ref a1)] [(.ref vb), (.ref a1)])) rfl rfl (hb hby d1_8) _ ?_
    rw [len_of Sz (by decide)]
    show Steps p.tables e below (T3.setTop (mkF m 9 #[.val (.ref a1)] [(.int (6 : Int32)), (.ref a1)])) _
    refine st4 _ ?_
    show Steps p.tables e below (T4.setTop (mkF m 11 #[.val (.ref a1)] [(.ref b4), (.ref a1)])) _
    refine st5 _ ?_
    show Steps p.tables e below (T5.setTop (mkF m 14 #[.val (.ref a1)] [])) _
    exact X5.returnOut hx Bd.returns (hb hby d1_14) hr
  · show own_QI Z a1 h0 n0 _ T5.heap _
    rw [e5]
    exact ⟨rfl, N5, b4, _, K5, Fw5, A4.other W5 (Nat.ne_of_gt (Nat.lt_of_lt_of_le E_a1.lt sz_b4)), rfl, sz_b4⟩
set_option maxRecDepth 65536 in
set_option maxHeartbeats 40000000 in
theorem rm4 (l : Launch) (Z : State) (a0 : Array Value) (hw : ∀ d ∈ tables_1, d.before a0 Z = true) (ws : List Jvm.Cond) (a1 : Addr) (a2 : Addr) (q3 : Int64) (w4 : Addr) (w9 : Int32) (cl_w4 : Cell) (ov y : Int32) (vs : Array Value) (h0 : Heap) (n0 : Nat) (Z0 : n0 ≤ h0.size) (F_counts_a1 : Fld Z h0 a1 "com/example/foreloom/foreloom/featuremodel/RuleTally" "counts" "[I" (.ref w4)) (E_a2 : Exa Z h0 a2 "com/example/foreloom/foreloom/featuremodel/RuleKind") (Ar_w4 : Arr Z h0 w4 cl_w4 .int) (hin16 : ¬ (ov < 0 ∨ cl_w4.slots.size ≤ (ov).toNatClampNeg)) (hat16 : cl_w4.slots[(ov).toNatClampNeg]? = some (.int w9)) (hin24 : ¬ (ov < 0 ∨ cl_w4.slots.size ≤ (ov).toNatClampNeg)) (g_w4 : n0 ≤ w4) (Fo : Fld Z h0 a2 "java/lang/Enum" "ordinal" "I" (.int ov)) (Hy : (lcmpW ((q3.toInt32).toInt64) q3) = (0 : Int32)) (Hadd : ¬ (((w9 ^^^ (w9 + q3.toInt32)) &&& (q3.toInt32 ^^^ (w9 + q3.toInt32))) < (0 : Int32))) (Hz : w9 + q3.toInt32 = y) (Hs : cl_w4.slots = vs) :
    MetFree l (⟨"com/example/foreloom/foreloom/featuremodel/RuleTally", "add", "(Lcom/example/foreloom/foreloom/featuremodel/RuleKind;J)V"⟩ : MethodName) (head1 (Jvm.Cond.code (⟨"com/example/foreloom/foreloom/featuremodel/RuleTally", "add", "(Lcom/example/foreloom/foreloom/featuremodel/RuleKind;J)V"⟩ : MethodName) prog_37_method_2_code 4 none :: ws) ({ frames := 1, cells := 0, slots := 0, locals := 17 } : Room)) (fun a U => a = #[(.ref a1), (.ref a2), (.long q3)] ∧ Z.Warmed39 U.vm ∧ U.heap = h0) (fun _ _ _ _ _ => True) (fun _ U o U' => ∃ v L, o = .returned v ∧ own_QD Z w4 (vs.setIfInBounds ov.toNatClampNeg (.int y)) h0 n0 v U'.heap L ∧ FrameEnd U o U' L ({ frames := 1, cells := 0, slots := 0, locals := 17 } : Room).cells ({ frames := 1, cells := 0, slots := 0, locals := 17 } : Room).slots) := by
  subst Hz
  refine MetFree.of_bodySF (plainFor_of_name pn_4) hisR ?_
  intro p e s m args below meth c s₁ Bd hml0 hP hK
  obtain ⟨rfl, hZ, hh⟩ := hP
  have hx := Bd.exec
  have hby := Bd.bytes
  have hml : c.maxLocals = 4 := hml0
  have hown : s.vm.findClass "com/example/foreloom/foreloom/featuremodel/RuleTally" = some m.cls := findClass_of_methodNamed Bd.named
  have hnm := (name_of_methodNamed Bd.named Bd.method).1
  have X0 : Stand p l e ({ frames := 1, cells := 0, slots := 0, locals := 17 } : Room) s m #[(.ref a1), (.ref a2), (.long q3)] below meth c s₁ [] 0 0 := Stand.of_body Bd
  have e0 : s₁.heap = h0 := by rw [← hh, Bd.state]; rfl
  have N0 := Fr.nil n0
  have pre0 : ∀ t, Steps p.tables e below (s₁.setTop (mkF m 0 #[.val (.ref a1), .val (.ref a2), .val (.long q3), .second] [])) t → Steps p.tables e below (s₁.setTop (entryFrame m #[(.ref a1), (.ref a2), (.long q3)] 4)) t := fun t k => castTop (ef_4 m a1 a2 q3) k
  obtain ⟨T5, X5, e5, st5⟩ := getF X0 hx hZ hown (host := "") (Or.inl (hw _ (List.mem_of_getElem? (i := 32) rfl))) Via.refl e0 F_counts_a1 (g := (mkF m 1 #[.val (.ref a1), .val (.ref a2), .val (.long q3), .second] [(.ref a1)])) rfl rfl (hb hby d4_1)
  obtain ⟨cq6, kq6, q6a, q6b, q6c⟩ := isOf hZ e5 E_a2
  obtain ⟨_, _, ⟨T6, L6, k6, n6⟩, -, X6, ⟨Lc6, hQ6, l6, y6, z6⟩, st6⟩ := X5.virtualBackUp hx (x := (⟨"com/example/foreloom/foreloom/featuremodel/RuleKind", "ordinal", "()I"⟩ : MethodName)) (y := (⟨"java/lang/Enum", "ordinal", "()I"⟩ : MethodName)) (owner := "java/lang/Enum") hown (mvT hZ (hw _ (List.mem_of_getElem? (i := 40) rfl))) (mvT hZ (hw _ (List.mem_of_getElem? (i := 41) rfl))) (mvT hZ (hw _ (List.mem_of_getElem? (i := 42) rfl))) (by decide) (mvT hZ (hw _ (List.mem_of_getElem? (i := 44) rfl))) (mvT hZ (hw _ (List.mem_of_getElem? (i := 43) rfl))) (backOf (W := 1) (rm5 l Z a0 hw [] a2 ov h0 n0 Z0 Fo) hZ (hw _ (List.mem_of_getElem? (i := 46) rfl)) (hw _ (List.mem_of_getElem? (i := 45) rfl)) (by decide) (by decide)) q6a q6c (g := (mkF m 5 #[.val (.ref a1), .val (.ref a2), .val (.long q3), .second] [(.ref a2), (.ref w4)])) rfl (by rw [hml]; rfl) (Steps.refl _) (argsL := []) (rest := [(.ref w4)]) (lenOf pd_4_4 rfl) rfl (by show 2 * 0 + _ ≤ _; exact Nat.le_of_eq rfl) (hb hby d4_5) (fun _ _ => ⟨rfl, e5, (Nat.le_of_ble_eq_true rfl), (Nat.le_of_ble_eq_true rfl)⟩)
  dsimp only [Pt.U, Pt.locs, Pt.cells, Pt.slots] at X6 l6 y6 z6 st6 hQ6
  subst l6 y6 z6
  obtain ⟨rfl, N6q, eh6⟩ := hQ6
  have N6 := Fr.app N0 N6q
  obtain ⟨T7, X7, e7, st7⟩ := getF X6 hx hZ hown (host := "") (Or.inl (hw _ (List.mem_of_getElem? (i := 32) rfl))) Via.refl eh6 F_counts_a1 (g := (mkF m 9 #[.val (.ref a1), .val (.ref a2), .val (.long q3), .second] [(.ref a1), (.int ov), (.ref w4)])) rfl rfl (hb hby d4_9)
  obtain ⟨cq8, kq8, q8a, q8b, q8c⟩ := isOf hZ e7 E_a2
  obtain ⟨_, _, ⟨T8, L8, k8, n8⟩, -, X8, ⟨Lc8, hQ8, l8, y8, z8⟩, st8⟩ := X7.virtualBackUp hx (x := (⟨"com/example/foreloom/foreloom/featuremodel/RuleKind", "ordinal", "()I"⟩ : MethodName)) (y := (⟨"java/lang/Enum", "ordinal", "()I"⟩ : MethodName)) (owner := "java/lang/Enum") hown (mvT hZ (hw _ (List.mem_of_getElem? (i := 40) rfl))) (mvT hZ (hw _ (List.mem_of_getElem? (i := 41) rfl))) (mvT hZ (hw _ (List.mem_of_getElem? (i := 42) rfl))) (by decide) (mvT hZ (hw _ (List.mem_of_getElem? (i := 44) rfl))) (mvT hZ (hw _ (List.mem_of_getElem? (i := 43) rfl))) (backOf (W := 3) (rm5 l Z a0 hw [] a2 ov h0 n0 Z0 Fo) hZ (hw _ (List.mem_of_getElem? (i := 46) rfl)) (hw _ (List.mem_of_getElem? (i := 45) rfl)) (by decide) (by decide)) q8a q8c (g := (mkF m 13 #[.val (.ref a1), .val (.ref a2), .val (.long q3), .second] [(.ref a2), (.ref w4), (.int ov), (.ref w4)])) rfl (by rw [hml]; rfl) (Steps.refl _) (argsL := []) (rest := [(.ref w4), (.int ov), (.ref w4)]) (lenOf pd_4_4 rfl) rfl (by show 2 * 0 + _ ≤ _; exact Nat.le_of_eq rfl) (hb hby d4_13) (fun _ _ => ⟨rfl, e7, (Nat.le_of_ble_eq_true rfl), (Nat.le_of_ble_eq_true rfl)⟩)
  dsimp only [Pt.U, Pt.locs, Pt.cells, Pt.slots] at X8 l8 y8 z8 st8 hQ8
  subst l8 y8 z8
  obtain ⟨rfl, N8q, eh8⟩ := hQ8
  have N8 := Fr.app N6 N8q
  obtain ⟨_, _, ⟨T10, L10, k10, n10⟩, -, X10, ⟨Lc10, hQ10, l10, y10, z10⟩, st10⟩ := Jvm.LawKit.callS X8 hx (y := (⟨"java/lang/Math", "toIntExact", "(J)I"⟩ : MethodName)) hown (mvT hZ (hw _ (List.mem_of_getElem? (i := 49) rfl))) (mvT hZ (hw _ (List.mem_of_getElem? (i := 50) rfl))) (mvT hZ (hw _ (List.mem_of_getElem? (i := 51) rfl))) (mvT hZ (hw _ (List.mem_of_getElem? (i := 52) rfl))) (by decide) (backOf (W := 3) (rm6 l Z a0 hw [] q3  h0 n0 Z0 Hy) hZ (hw _ (List.mem_of_getElem? (i := 52) rfl)) (hw _ (List.mem_of_getElem? (i := 51) rfl)) (by decide) (by decide)) (g := (mkF m 18 #[.val (.ref a1), .val (.ref a2), .val (.long q3), .second] [(.long q3), (.int w9), (.int ov), (.ref w4)])) rfl (by rw [hml]; rfl) (argsL := [(.long q3)]) (rest := [(.int w9), (.int ov), (.ref w4)]) (lenOf pd_4_5 rfl) rfl (by show 2 * 0 + _ ≤ _; exact Nat.le_of_eq rfl) (hb hby d4_18) (fun _ _ => ⟨rfl, eh8, (Nat.le_of_ble_eq_true rfl), (Nat.le_of_ble_eq_true rfl)⟩)
  dsimp only [Pt.U, Pt.locs, Pt.cells, Pt.slots] at X10 l10 y10 z10 st10 hQ10
  subst l10 y10 z10
  obtain ⟨rfl, N10q, eh10⟩ := hQ10
  have N10 := Fr.app N8 N10q
  obtain ⟨_, _, ⟨T11, L11, k11, n11⟩, -, X11, ⟨Lc11, hQ11, l11, y11, z11⟩, st11⟩ := Jvm.LawKit.callS X10 hx (y := (⟨"java/lang/Math", "addExact", "(II)I"⟩ : MethodName)) hown (mvT hZ (hw _ (List.mem_of_getElem? (i := 53) rfl))) (mvT hZ (hw _ (List.mem_of_getElem? (i := 54) rfl))) (mvT hZ (hw _ (List.mem_of_getElem? (i := 51) rfl))) (mvT hZ (hw _ (List.mem_of_getElem? (i := 55) rfl))) (by decide) (backOf (W := 2) (rm7 l Z a0 hw [] w9 q3.toInt32  h0 n0 Z0 Hadd) hZ (hw _ (List.mem_of_getElem? (i := 55) rfl)) (hw _ (List.mem_of_getElem? (i := 51) rfl)) (by decide) (by decide)) (g := (mkF m 21 #[.val (.ref a1), .val (.ref a2), .val (.long q3), .second] [(.int q3.toInt32), (.int w9), (.int ov), (.ref w4)])) rfl (by rw [hml]; rfl) (argsL := [(.int w9), (.int q3.toInt32)]) (rest := [(.int ov), (.ref w4)]) (lenOf pd_4_6 rfl) rfl (by show 2 * 0 + _ ≤ _; exact Nat.le_of_eq rfl) (hb hby d4_21) (fun _ _ => ⟨rfl, eh10, (Nat.le_of_ble_eq_true rfl), (Nat.le_of_ble_eq_true rfl)⟩)
  dsimp only [Pt.U, Pt.locs, Pt.cells, Pt.slots] at X11 l11 y11 z11 st11 hQ11
  subst l11 y11 z11
  obtain ⟨rfl, N11q, eh11⟩ := hQ11
  have N11 := Fr.app N10 N11q
  obtain ⟨T12, h12, X12, e12, W12, st12⟩ := stI X11 hx hZ eh11 Ar_w4 (j := ov) hin24 (g := (mkF m 24 #[.val (.ref a1), .val (.ref a2), .val (.long q3), .second] [(.int (w9 + q3.toInt32)), (.int ov), (.ref w4)])) rfl rfl (hb hby d4_24)
  have N12 := Fr.snoc X12 N11 g_w4
  have K12 : Keep h0 h12 [w4] := (Keep.refl h0 [w4]).wr W12 (Or.inl (List.mem_of_getElem? (i := 0) rfl))
  obtain ⟨fs, hr, hrun, hended, hW, hsame⟩ := X12.leave (v := none) (fun _ => rfl)
  refine ⟨_, _, pre0 _ ?_, hrun, hended, _, _, rfl, ?_, ⟨_, rfl⟩, hW, hsame.mono (by decide) (by decide)⟩
  · show Steps p.tables e below (s₁.setTop (mkF m 0 #[.val (.ref a1), .val (.ref a2), .val (.long q3), .second] [])) _
    refine XS.aloadN X0.here hx rfl (hb hby d4_0) rfl rfl ?_
    show Steps p.tables e below (s₁.setTop (mkF m 1 #[.val (.ref a1), .val (.ref a2), .val (.long q3), .second] [(.ref a1)])) _
    refine st5 _ ?_
    show Steps p.tables e below (T5.setTop (mkF m 4 #[.val (.ref a1), .val (.ref a2), .val (.long q3), .second] [(.ref w4)])) _
    refine XS.aloadN X5.here hx rfl (hb hby d4_4) rfl rfl ?_
    show Steps p.tables e below (T5.setTop (mkF m 5 #[.val (.ref a1), .val (.ref a2), .val (.long q3), .second] [(.ref a2), (.ref w4)])) _
    refine st6.trans ?_
    show Steps p.tables e below (T6.setTop (mkF m 8 #[.val (.ref a1), .val (.ref a2), .val (.long q3), .second] [(.int ov), (.ref w4)])) _
    refine XS.aloadN X6.here hx rfl (hb hby d4_8) rfl rfl ?_
    show Steps p.tables e below (T6.setTop (mkF m 9 #[.val (.ref a1), .val (.ref a2), .val (.long q3), .second] [(.ref a1), (.int ov), (.ref w4)])) _
    refine st7 _ ?_
    show Steps p.tables e below (T7.setTop (mkF m 12 #[.val (.ref a1), .val (.ref a2), .val (.long q3), .second] [(.ref w4), (.int ov), (.ref w4)])) _
    refine XS.aloadN X7.here hx rfl (hb hby d4_12) rfl rfl ?_
    show Steps p.tables e below (T7.setTop (mkF m 13 #[.val (.ref a1), .val (.ref a2), .val (.long q3), .second] [(.ref a2), (.ref w4), (.int ov), (.ref w4)])) _
    refine st8.trans ?_
    show Steps p.tables e below (T8.setTop (mkF m 16 #[.val (.ref a1), .val (.ref a2), .val (.long q3), .second] [(.int ov), (.ref w4), (.int ov), (.ref w4)])) _
    refine X8.iaload hx (j := ov) (v := (.int w9)) (by rw [eh8]; exact Ar_w4.1) (State.isArrayOf_alike hZ.alike Ar_w4.2.1) Ar_w4.2.2 hin16 hat16 (g := (mkF m 16 #[.val (.ref a1), .val (.ref a2), .val (.long q3), .second] [(.int ov), (.ref w4), (.int ov), (.ref w4)])) rfl rfl (hb hby d4_16) _ ?_
    show Steps p.tables e below (T8.setTop (mkF m 17 #[.val (.ref a1), .val (.ref a2), .val (.long q3), .second] [(.int w9), (.int ov), (.ref w4)])) _
    refine XS.lloadN X8.here hx rfl (hb hby d4_17) rfl ?_
    show Steps p.tables e below (T8.setTop (mkF m 18 #[.val (.ref a1), .val (.ref a2), .val (.long q3), .second] [(.long q3), (.int w9), (.int ov), (.ref w4)])) _
    refine st10 _ ?_
    show Steps p.tables e below (T10.setTop (mkF m 21 #[.val (.ref a1), .val (.ref a2), .val (.long q3), .second] [(.int q3.toInt32), (.int w9), (.int ov), (.ref w4)])) _
    refine st11 _ ?_
    show Steps p.tables e below (T11.setTop (mkF m 24 #[.val (.ref a1), .val (.ref a2), .val (.long q3), .second] [(.int (w9 + q3.toInt32)), (.int ov), (.ref w4)])) _
    refine st12 _ ?_
    show Steps p.tables e below (T12.setTop (mkF m 25 #[.val (.ref a1), .val (.ref a2), .val (.long q3), .second] [])) _
    exact X12.returnOut hx Bd.returns (hb hby d4_25) hr
  · show own_QD Z w4 (vs.setIfInBounds ov.toNatClampNeg (.int (w9 + q3.toInt32))) h0 n0 _ T12.heap _
    rw [e12]
    exact ⟨rfl, N12, _, K12, Ar_w4.same W12, by rw [← Hs]; rfl⟩
set_option maxRecDepth 65536 in
set_option maxHeartbeats 40000000 in
theorem own_turn {p : Program} {l : Launch} {e : Env} {R : Room} {s : State} {m : MethodId} {args : Array Value} {below : List Frame} {meth : Method} {c : Code} {T0 : State} {locs : List Loc} {cells slots : Nat} {Z : State} {a0 : Array Value} {h0 : Heap} (s0 : Slot) (i1 : Int32) (o2 : Addr) (i3 : Int32) (i4 : Int32) (s5 : Slot) (w2 : Int32) (cl_o2 : Cell)
    (X0 : Stand p l e R s m args below meth c T0 locs cells slots) (hx : p.tables.exec = Jvm.exec) (hZ : Z.Warmed39 s.vm) (hw : ∀ d ∈ tables_1, d.before a0 Z = true) (hby : c.code = prog_37_method_4_code) (hml : c.maxLocals = 6) (hown : s.vm.findClass "com/example/foreloom/foreloom/featuremodel/RuleTally" = some m.cls) (e0 : T0.heap = h0) (Ar_o2 : Arr Z h0 o2 cl_o2 .int) (hin22 : ¬ (i4 < 0 ∨ cl_o2.slots.size ≤ (i4).toNatClampNeg)) (hat22 : cl_o2.slots[(i4).toNatClampNeg]? = some (.int w2)) (hs5 : One s5) (hc16 : i4 < i3) :
    ∃ (T' : State), Stand p l e R s m args below meth c T' locs cells slots ∧ T'.heap = h0 ∧
      ∀ target, Steps p.tables e below (T'.setTop (mkF m 13 #[s0, .val (.int (i1 + w2)), .val (.ref o2), .val (.int i3), .val (.int (i4 + (1 : Int32))), .val (.int w2)] [])) target → Steps p.tables e below (T0.setTop (mkF m 13 #[s0, .val (.int i1), .val (.ref o2), .val (.int i3), .val (.int i4), s5] [])) target := by
  refine ⟨T0, X0, e0, fun target kt => ?_⟩
  show Steps p.tables e below (T0.setTop (mkF m 13 #[s0, .val (.int i1), .val (.ref o2), .val (.int i3), .val (.int i4), s5] [])) _
  refine XS.iload X0.here hx rfl (hb hby d8_13) rfl ?_
  show Steps p.tables e below (T0.setTop (mkF m 15 #[s0, .val (.int i1), .val (.ref o2), .val (.int i3), .val (.int i4), s5] [(.int i4)])) _
  refine XS.iloadN X0.here hx rfl (hb hby d8_15) rfl ?_
  show Steps p.tables e below (T0.setTop (mkF m 16 #[s0, .val (.int i1), .val (.ref o2), .val (.int i3), .val (.int i4), s5] [(.int i3), (.int i4)])) _
  refine XS.icmpNo X0.here hx rfl (hb hby d8_16) rfl (tlt hc16).2.1 ?_
  show Steps p.tables e below (T0.setTop (mkF m 19 #[s0, .val (.int i1), .val (.ref o2), .val (.int i3), .val (.int i4), s5] [])) _
  refine XS.aloadN X0.here hx rfl (hb hby d8_19) rfl rfl ?_
  show Steps p.tables e below (T0.setTop (mkF m 20 #[s0, .val (.int i1), .val (.ref o2), .val (.int i3), .val (.int i4), s5] [(.ref o2)])) _
  refine XS.iload X0.here hx rfl (hb hby d8_20) rfl ?_
  show Steps p.tables e below (T0.setTop (mkF m 22 #[s0, .val (.int i1), .val (.ref o2), .val (.int i3), .val (.int i4), s5] [(.int i4), (.ref o2)])) _
  refine X0.iaload hx (j := i4) (v := (.int w2)) (by rw [e0]; exact Ar_o2.1) (State.isArrayOf_alike hZ.alike Ar_o2.2.1) Ar_o2.2.2 hin22 hat22 (g := (mkF m 22 #[s0, .val (.int i1), .val (.ref o2), .val (.int i3), .val (.int i4), s5] [(.int i4), (.ref o2)])) rfl rfl (hb hby d8_22) _ ?_
  show Steps p.tables e below (T0.setTop (mkF m 23 #[s0, .val (.int i1), .val (.ref o2), .val (.int i3), .val (.int i4), s5] [(.int w2)])) _
  refine XS.istore X0.here hx rfl (hb hby d8_23) rfl (l' := #[s0, .val (.int i1), .val (.ref o2), .val (.int i3), .val (.int i4), .val (.int w2)]) (os_own_turn_23 hs5) ?_
  show Steps p.tables e below (T0.setTop (mkF m 25 #[s0, .val (.int i1), .val (.ref o2), .val (.int i3), .val (.int i4), .val (.int w2)] [])) _
  refine XS.iloadN X0.here hx rfl (hb hby d8_25) rfl ?_
  show Steps p.tables e below (T0.setTop (mkF m 26 #[s0, .val (.int i1), .val (.ref o2), .val (.int i3), .val (.int i4), .val (.int w2)] [(.int i1)])) _
  refine XS.iload X0.here hx rfl (hb hby d8_26) rfl ?_
  show Steps p.tables e below (T0.setTop (mkF m 28 #[s0, .val (.int i1), .val (.ref o2), .val (.int i3), .val (.int i4), .val (.int w2)] [(.int w2), (.int i1)])) _
  refine XS.iadd X0.here hx rfl (hb hby d8_28) rfl ?_
  show Steps p.tables e below (T0.setTop (mkF m 29 #[s0, .val (.int i1), .val (.ref o2), .val (.int i3), .val (.int i4), .val (.int w2)] [(.int (i1 + w2))])) _
  refine XS.istoreN X0.here hx rfl (hb hby d8_29) rfl (l' := #[s0, .val (.int (i1 + w2)), .val (.ref o2), .val (.int i3), .val (.int i4), .val (.int w2)]) rfl ?_
  show Steps p.tables e below (T0.setTop (mkF m 30 #[s0, .val (.int (i1 + w2)), .val (.ref o2), .val (.int i3), .val (.int i4), .val (.int w2)] [])) _
  refine XS.iinc X0.here hx rfl (hb hby d8_30) rfl (l' := #[s0, .val (.int (i1 + w2)), .val (.ref o2), .val (.int i3), .val (.int (i4 + (1 : Int32))), .val (.int w2)]) rfl ?_
  show Steps p.tables e below (T0.setTop (mkF m 33 #[s0, .val (.int (i1 + w2)), .val (.ref o2), .val (.int i3), .val (.int (i4 + (1 : Int32))), .val (.int w2)] [])) _
  refine XS.goto X0.here hx rfl (pc0 := 33) (pc' := 13) rfl (hb hby d8_33) (by decide) (by decide) ?_
  exact kt
set_option maxRecDepth 65536 in
set_option maxHeartbeats 40000000 in
theorem rm8 (l : Launch) (Z : State) (a0 : Array Value) (hw : ∀ d ∈ tables_1, d.before a0 Z = true) (ws : List Jvm.Cond) (a1 : Addr) (w2 : Addr) (cl_w2 : Cell) (x1 x2 x3 x4 x5 x6 : Int32) (h0 : Heap) (n0 : Nat) (Z0 : n0 ≤ h0.size) (F_counts_a1 : Fld Z h0 a1 "com/example/foreloom/foreloom/featuremodel/RuleTally" "counts" "[I" (.ref w2)) (Ar_w2 : Arr Z h0 w2 cl_w2 .int) (Hs : cl_w2.slots = #[.int x1, .int x2, .int x3, .int x4, .int x5, .int x6]) :
    MetFree l (⟨"com/example/foreloom/foreloom/featuremodel/RuleTally", "total", "()I"⟩ : MethodName) (head1 (Jvm.Cond.code (⟨"com/example/foreloom/foreloom/featuremodel/RuleTally", "total", "()I"⟩ : MethodName) prog_37_method_4_code 6 (some .int) :: ws) ({ frames := 0, cells := 0, slots := 0, locals := 0 } : Room)) (fun a U => a = #[(.ref a1)] ∧ Z.Warmed39 U.vm ∧ U.heap = h0) (fun _ _ _ _ _ => True) (fun _ U o U' => ∃ v L, o = .returned v ∧ own_QV (some (.int (((((((0 : Int32) + x1) + x2) + x3) + x4) + x5) + x6))) h0 n0 v U'.heap L ∧ FrameEnd U o U' L ({ frames := 0, cells := 0, slots := 0, locals := 0 } : Room).cells ({ frames := 0, cells := 0, slots := 0, locals := 0 } : Room).slots) := by
  refine MetFree.of_bodySF (plainFor_of_name pn_8) hisR ?_
  intro p e s m args below meth c s₁ Bd hml0 hP hK
  obtain ⟨rfl, hZ, hh⟩ := hP
  have hx := Bd.exec
  have hby := Bd.bytes
  have hml : c.maxLocals = 6 := hml0
  have hown : s.vm.findClass "com/example/foreloom/foreloom/featuremodel/RuleTally" = some m.cls := findClass_of_methodNamed Bd.named
  have hnm := (name_of_methodNamed Bd.named Bd.method).1
  have X0 : Stand p l e ({ frames := 0, cells := 0, slots := 0, locals := 0 } : Room) s m #[(.ref a1)] below meth c s₁ [] 0 0 := Stand.of_body Bd
  have e0 : s₁.heap = h0 := by rw [← hh, Bd.state]; rfl
  have N0 := Fr.nil n0
  have pre0 : ∀ t, Steps p.tables e below (s₁.setTop (mkF m 0 #[.val (.ref a1), .unset, .unset, .unset, .unset, .unset] [])) t → Steps p.tables e below (s₁.setTop (entryFrame m #[(.ref a1)] 6)) t := fun t k => castTop (ef_8 m a1) k
  obtain ⟨T3, X3, e3, st3⟩ := getF X0 hx hZ hown (host := "") (Or.inl (hw _ (List.mem_of_getElem? (i := 32) rfl))) Via.refl e0 F_counts_a1 (g := (mkF m 3 #[.val (.ref a1), .val (.int (0 : Int32)), .unset, .unset, .unset, .unset] [(.ref a1)])) rfl rfl (hb hby d8_3)
  have Sz : cl_w2.slots.size = (6 : Int32).toNatClampNeg := by rw [Hs]; rfl
  obtain ⟨TT0, XX0, ee0, tt0⟩ := own_turn (.val (.ref a1)) (0 : Int32) w2 (6 : Int32) (0 : Int32) .unset x1 cl_w2 X3 hx hZ hw hby hml hown e3 Ar_w2 (by rw [Sz]; decide) (by rw [Hs]; rfl) (by first | exact One.u | exact One.val rfl) (by decide)
  obtain ⟨TT1, XX1, ee1, tt1⟩ := own_turn (.val (.ref a1)) ((0 : Int32) + x1) w2 (6 : Int32) ((0 : Int32) + (1 : Int32)) (.val (.int x1)) x2 cl_w2 XX0 hx hZ hw hby hml hown ee0 Ar_w2 (by rw [Sz]; decide) (by rw [Hs]; rfl) (by first | exact One.u | exact One.val rfl) (by decide)
  obtain ⟨TT2, XX2, ee2, tt2⟩ := own_turn (.val (.ref a1)) (((0 : Int32) + x1) + x2) w2 (6 : Int32) (((0 : Int32) + (1 : Int32)) + (1 : Int32)) (.val (.int x2)) x3 cl_w2 XX1 hx hZ hw hby hml hown ee1 Ar_w2 (by rw [Sz]; decide) (by rw [Hs]; rfl) (by first | exact One.u | exact One.val rfl) (by decide)
  obtain ⟨TT3, XX3, ee3, tt3⟩ := own_turn (.val (.ref a1)) ((((0 : Int32) + x1) + x2) + x3) w2 (6 : Int32) ((((0 : Int32) + (1 : Int32)) + (1 : Int32)) + (1 : Int32)) (.val (.int x3)) x4 cl_w2 XX2 hx hZ hw hby hml hown ee2 Ar_w2 (by rw [Sz]; decide) (by rw [Hs]; rfl) (by first | exact One.u | exact One.val rfl) (by decide)
  obtain ⟨TT4, XX4, ee4, tt4⟩ := own_turn (.val (.ref a1)) (((((0 : Int32) + x1) + x2) + x3) + x4) w2 (6 : Int32) (((((0 : Int32) + (1 : Int32)) + (1 : Int32)) + (1 : Int32)) + (1 : Int32)) (.val (.int x4)) x5 cl_w2 XX3 hx hZ hw hby hml hown ee3 Ar_w2 (by rw [Sz]; decide) (by rw [Hs]; rfl) (by first | exact One.u | exact One.val rfl) (by decide)
  obtain ⟨TT5, XX5, ee5, tt5⟩ := own_turn (.val (.ref a1)) ((((((0 : Int32) + x1) + x2) + x3) + x4) + x5) w2 (6 : Int32) ((((((0 : Int32) + (1 : Int32)) + (1 : Int32)) + (1 : Int32)) + (1 : Int32)) + (1 : Int32)) (.val (.int x5)) x6 cl_w2 XX4 hx hZ hw hby hml hown ee4 Ar_w2 (by rw [Sz]; decide) (by rw [Hs]; rfl) (by first | exact One.u | exact One.val rfl) (by decide)
  obtain ⟨fs, hr, hrun, hended, hW, hsame⟩ := XX5.leave (v := some (.int (((((((0 : Int32) + x1) + x2) + x3) + x4) + x5) + x6))) (fun h => by rw [Bd.returns] at h; cases h)
  refine ⟨_, _, pre0 _ ?_, hrun, hended, _, _, rfl, ?_, ⟨_, rfl⟩, hW, hsame.mono (by decide) (by decide)⟩
  · show Steps p.tables e below (s₁.setTop (mkF m 0 #[.val (.ref a1), .unset, .unset, .unset, .unset, .unset] [])) _
    refine XS.iconst X0.here hx rfl (hb hby d8_0) ?_
    show Steps p.tables e below (s₁.setTop (mkF m 1 #[.val (.ref a1), .unset, .unset, .unset, .unset, .unset] [(.int (0 : Int32))])) _
    refine XS.istoreN X0.here hx rfl (hb hby d8_1) rfl (l' := #[.val (.ref a1), .val (.int (0 : Int32)), .unset, .unset, .unset, .unset]) rfl ?_
    show Steps p.tables e below (s₁.setTop (mkF m 2 #[.val (.ref a1), .val (.int (0 : Int32)), .unset, .unset, .unset, .unset] [])) _
    refine XS.aloadN X0.here hx rfl (hb hby d8_2) rfl rfl ?_
    show Steps p.tables e below (s₁.setTop (mkF m 3 #[.val (.ref a1), .val (.int (0 : Int32)), .unset, .unset, .unset, .unset] [(.ref a1)])) _
    refine st3 _ ?_
    show Steps p.tables e below (T3.setTop (mkF m 6 #[.val (.ref a1), .val (.int (0 : Int32)), .unset, .unset, .unset, .unset] [(.ref w2)])) _
    refine XS.astoreN X3.here hx rfl (hb hby d8_6) rfl rfl (l' := #[.val (.ref a1), .val (.int (0 : Int32)), .val (.ref w2), .unset, .unset, .unset]) rfl ?_
    show Steps p.tables e below (T3.setTop (mkF m 7 #[.val (.ref a1), .val (.int (0 : Int32)), .val (.ref w2), .unset, .unset, .unset] [])) _
    refine XS.aloadN X3.here hx rfl (hb hby d8_7) rfl rfl ?_
    show Steps p.tables e below (T3.setTop (mkF m 8 #[.val (.ref a1), .val (.int (0 : Int32)), .val (.ref w2), .unset, .unset, .unset] [(.ref w2)])) _
    refine X3.arraylength hx (by rw [e3]; exact Ar_w2.1) (State.isArrayOf_alike hZ.alike Ar_w2.2.1) (g := (mkF m 8 #[.val (.ref a1), .val (.int (0 : Int32)), .val (.ref w2), .unset, .unset, .unset] [(.ref w2)])) rfl rfl (hb hby d8_8) _ ?_
    rw [len_of Sz (by decide)]
    show Steps p.tables e below (T3.setTop (mkF m 9 #[.val (.ref a1), .val (.int (0 : Int32)), .val (.ref w2), .unset, .unset, .unset] [(.int (6 : Int32))])) _
    refine XS.istoreN X3.here hx rfl (hb hby d8_9) rfl (l' := #[.val (.ref a1), .val (.int (0 : Int32)), .val (.ref w2), .val (.int (6 : Int32)), .unset, .unset]) rfl ?_
    show Steps p.tables e below (T3.setTop (mkF m 10 #[.val (.ref a1), .val (.int (0 : Int32)), .val (.ref w2), .val (.int (6 : Int32)), .unset, .unset] [])) _
    refine XS.iconst X3.here hx rfl (hb hby d8_10) ?_
    show Steps p.tables e below (T3.setTop (mkF m 11 #[.val (.ref a1), .val (.int (0 : Int32)), .val (.ref w2), .val (.int (6 : Int32)), .unset, .unset] [(.int (0 : Int32))])) _
    refine XS.istore X3.here hx rfl (hb hby d8_11) rfl (l' := #[.val (.ref a1), .val (.int (0 : Int32)), .val (.ref w2), .val (.int (6 : Int32)), .val (.int (0 : Int32)), .unset]) rfl ?_
    show Steps p.tables e below (T3.setTop (mkF m 13 #[.val (.ref a1), .val (.int (0 : Int32)), .val (.ref w2), .val (.int (6 : Int32)), .val (.int (0 : Int32)), .unset] [])) _
    refine tt0 _ (tt1 _ (tt2 _ (tt3 _ (tt4 _ (tt5 _ (?_))))))
    show Steps p.tables e below (TT5.setTop (mkF m 13 #[.val (.ref a1), .val (.int (((((((0 : Int32) + x1) + x2) + x3) + x4) + x5) + x6)), .val (.ref w2), .val (.int (6 : Int32)), .val (.int (((((((0 : Int32) + (1 : Int32)) + (1 : Int32)) + (1 : Int32)) + (1 : Int32)) + (1 : Int32)) + (1 : Int32))), .val (.int x6)] [])) _
    refine XS.iload XX5.here hx rfl (hb hby d8_13) rfl ?_
    show Steps p.tables e below (TT5.setTop (mkF m 15 #[.val (.ref a1), .val (.int (((((((0 : Int32) + x1) + x2) + x3) + x4) + x5) + x6)), .val (.ref w2), .val (.int (6 : Int32)), .val (.int (((((((0 : Int32) + (1 : Int32)) + (1 : Int32)) + (1 : Int32)) + (1 : Int32)) + (1 : Int32)) + (1 : Int32))), .val (.int x6)] [(.int (((((((0 : Int32) + (1 : Int32)) + (1 : Int32)) + (1 : Int32)) + (1 : Int32)) + (1 : Int32)) + (1 : Int32)))])) _
    refine XS.iloadN XX5.here hx rfl (hb hby d8_15) rfl ?_
    show Steps p.tables e below (TT5.setTop (mkF m 16 #[.val (.ref a1), .val (.int (((((((0 : Int32) + x1) + x2) + x3) + x4) + x5) + x6)), .val (.ref w2), .val (.int (6 : Int32)), .val (.int (((((((0 : Int32) + (1 : Int32)) + (1 : Int32)) + (1 : Int32)) + (1 : Int32)) + (1 : Int32)) + (1 : Int32))), .val (.int x6)] [(.int (6 : Int32)), (.int (((((((0 : Int32) + (1 : Int32)) + (1 : Int32)) + (1 : Int32)) + (1 : Int32)) + (1 : Int32)) + (1 : Int32)))])) _
    refine XS.icmpYes XX5.here hx rfl (pc0 := 16) (pc' := 36) rfl (hb hby d8_16) rfl (flt (by decide)).2.1 (by decide) (by decide) ?_
    show Steps p.tables e below (TT5.setTop (mkF m 36 #[.val (.ref a1), .val (.int (((((((0 : Int32) + x1) + x2) + x3) + x4) + x5) + x6)), .val (.ref w2), .val (.int (6 : Int32)), .val (.int (((((((0 : Int32) + (1 : Int32)) + (1 : Int32)) + (1 : Int32)) + (1 : Int32)) + (1 : Int32)) + (1 : Int32))), .val (.int x6)] [])) _
    refine XS.iloadN XX5.here hx rfl (hb hby d8_36) rfl ?_
    show Steps p.tables e below (TT5.setTop (mkF m 37 #[.val (.ref a1), .val (.int (((((((0 : Int32) + x1) + x2) + x3) + x4) + x5) + x6)), .val (.ref w2), .val (.int (6 : Int32)), .val (.int (((((((0 : Int32) + (1 : Int32)) + (1 : Int32)) + (1 : Int32)) + (1 : Int32)) + (1 : Int32)) + (1 : Int32))), .val (.int x6)] [(.int (((((((0 : Int32) + x1) + x2) + x3) + x4) + x5) + x6))])) _
    exact retI XX5 hx Bd.returns (hb hby d8_37) hr
  · show own_QV (some (.int (((((((0 : Int32) + x1) + x2) + x3) + x4) + x5) + x6))) h0 n0 _ TT5.heap _
    rw [ee5]
    exact ⟨rfl, N0, rfl⟩
theorem own_32 (x : Int32) : x.toInt64.toInt32 = x := by
  apply Int32.toInt_inj.mp
  have h1 := c_l2i x.toInt64
  rw [c_i2l] at h1
  have h2 := rng32 x
  have h3 := rng32 x.toInt64.toInt32
  omega
theorem own_back (x : Int32) : (lcmpW ((x.toInt64.toInt32).toInt64) x.toInt64) = (0 : Int32) := by rw [own_32]; exact (lw_eq _ _).mpr rfl
theorem own_zero (x : Int32) : (0 : Int32) + x.toInt64.toInt32 = x := by rw [own_32]; exact Int32.zero_add x
theorem own_add (x : Int32) : ¬ ((((0 : Int32) ^^^ ((0 : Int32) + x.toInt64.toInt32)) &&& (x.toInt64.toInt32 ^^^ ((0 : Int32) + x.toInt64.toInt32))) < (0 : Int32)) := by
  rw [own_zero, own_32, Int32.xor_self, Int32.and_zero]
  decide
set_option maxRecDepth 65536 in
set_option maxHeartbeats 40000000 in
theorem rm0 (l : Launch) (Z : State) (a0 : Array Value) (hw : ∀ d ∈ tables_1, d.before a0 Z = true) (ws : List Jvm.Cond) (p1 : Int32) (p2 : Int32) (p3 : Int32) (p4 : Int32) (p5 : Int32) (p6 : Int32) (w9 : Addr) (w12 : Addr) (w15 : Addr) (w18 : Addr) (w21 : Addr) (w24 : Addr) (wv : Addr) (cl : Cell) (h0 : Heap) (n0 : Nat) (Z0 : n0 ≤ h0.size) (S_ROOT : Sta Z Z.heap "com/example/foreloom/foreloom/featuremodel/RuleKind" "ROOT" "Lcom/example/foreloom/foreloom/featuremodel/RuleKind;" (.ref w9)) (S_PARENT : Sta Z Z.heap "com/example/foreloom/foreloom/featuremodel/RuleKind" "PARENT" "Lcom/example/foreloom/foreloom/featuremodel/RuleKind;" (.ref w12)) (S_MANDATORY : Sta Z Z.heap "com/example/foreloom/foreloom/featuremodel/RuleKind" "MANDATORY" "Lcom/example/foreloom/foreloom/featuremodel/RuleKind;" (.ref w15)) (S_GROUP_MIN : Sta Z Z.heap "com/example/foreloom/foreloom/featuremodel/RuleKind" "GROUP_MIN" "Lcom/example/foreloom/foreloom/featuremodel/RuleKind;" (.ref w18)) (S_GROUP_MAX : Sta Z Z.heap "com/example/foreloom/foreloom/featuremodel/RuleKind" "GROUP_MAX" "Lcom/example/foreloom/foreloom/featuremodel/RuleKind;" (.ref w21)) (S_CROSS_TREE : Sta Z Z.heap "com/example/foreloom/foreloom/featuremodel/RuleKind" "CROSS_TREE" "Lcom/example/foreloom/foreloom/featuremodel/RuleKind;" (.ref w24)) (O0 : Old Z n0 h0) (Sv : Sta Z Z.heap "com/example/foreloom/foreloom/featuremodel/RuleKind" "$VALUES" "[Lcom/example/foreloom/foreloom/featuremodel/RuleKind;" (.ref wv)) (Av : Arr Z Z.heap wv cl (.object "com/example/foreloom/foreloom/featuremodel/RuleKind")) (Fcl : FitC Z cl) (hcap : cl.slots.size ≤ 6) (Ev : Exa Z Z.heap wv "[Lcom/example/foreloom/foreloom/featuremodel/RuleKind;") (Sz : cl.slots.size = (6 : Int32).toNatClampNeg) (E0 : Exa Z Z.heap w9 "com/example/foreloom/foreloom/featuremodel/RuleKind") (F0 : Fld Z Z.heap w9 "java/lang/Enum" "ordinal" "I" (.int 0)) (E1 : Exa Z Z.heap w12 "com/example/foreloom/foreloom/featuremodel/RuleKind") (F1 : Fld Z Z.heap w12 "java/lang/Enum" "ordinal" "I" (.int 1)) (E2 : Exa Z Z.heap w15 "com/example/foreloom/foreloom/featuremodel/RuleKind") (F2 : Fld Z Z.heap w15 "java/lang/Enum" "ordinal" "I" (.int 2)) (E3 : Exa Z Z.heap w18 "com/example/foreloom/foreloom/featuremodel/RuleKind") (F3 : Fld Z Z.heap w18 "java/lang/Enum" "ordinal" "I" (.int 3)) (E4 : Exa Z Z.heap w21 "com/example/foreloom/foreloom/featuremodel/RuleKind") (F4 : Fld Z Z.heap w21 "java/lang/Enum" "ordinal" "I" (.int 4)) (E5 : Exa Z Z.heap w24 "com/example/foreloom/foreloom/featuremodel/RuleKind") (F5 : Fld Z Z.heap w24 "java/lang/Enum" "ordinal" "I" (.int 5)) :
    MetFree l x (head1 (Jvm.Cond.code x code maxLocals ret :: ws) room_1) (fun a U => a = #[(.int p1), (.int p2), (.int p3), (.int p4), (.int p5), (.int p6)] ∧ Z.Warmed39 U.vm ∧ U.heap = h0) (fun _ _ _ _ _ => True) (fun _ U o U' => ∃ v L, o = .returned v ∧ own_QL n0 v U'.heap L ∧ FrameEnd U o U' L room_1.cells room_1.slots) := by
  have own_sum : (((((((0 : Int32) + p1) + p2) + p3) + p4) + p5) + p6) = (((((p1 + p2) + p3) + p4) + p5) + p6) := by rw [Int32.zero_add]
  refine MetFree.of_bodySF (plainFor_of_name pn_0) hisR ?_
  intro p e s m args below meth c s₁ Bd hml0 hP hK
  obtain ⟨rfl, hZ, hh⟩ := hP
  have hx := Bd.exec
  have hby := Bd.bytes
  have hml : c.maxLocals = 8 := hml0
  have hown : s.vm.findClass "com/example/foreloom/foreloom/featuremodel/RuleTallyTotalPinLaw" = some m.cls := findClass_of_methodNamed Bd.named
  have hnm := (name_of_methodNamed Bd.named Bd.method).1
  have X0 : Stand p l e room_1 s m #[(.int p1), (.int p2), (.int p3), (.int p4), (.int p5), (.int p6)] below meth c s₁ [] 0 0 := Stand.of_body Bd
  have e0 : s₁.heap = h0 := by rw [← hh, Bd.state]; rfl
  have N0 := Fr.nil n0
  have pre0 : ∀ t, Steps p.tables e below (s₁.setTop (mkF m 0 #[.val (.int p1), .val (.int p2), .val (.int p3), .val (.int p4), .val (.int p5), .val (.int p6), .unset, .unset] [])) t → Steps p.tables e below (s₁.setTop (entryFrame m #[(.int p1), (.int p2), (.int p3), (.int p4), (.int p5), (.int p6)] maxLocals)) t := fun t k => castTop (ef_0 m p1 p2 p3 p4 p5 p6) k
  obtain ⟨T7, h7, X7, e7, E7, A7, D7, -, st7⟩ := newO X0 hx hZ hown (hw _ (List.mem_of_getElem? (i := 0) rfl)) (hw _ (List.mem_of_getElem? (i := 1) rfl)) (hw _ (List.mem_of_getElem? (i := 2) rfl)) e0 (g := (mkF m 0 #[.val (.int p1), .val (.int p2), .val (.int p3), .val (.int p4), .val (.int p5), .val (.int p6), .unset, .unset] [])) rfl (hb hby at_0) (by decide) (by decide)
  obtain ⟨b7, g7⟩ : ∃ z, z = h0.size := ⟨_, rfl⟩      -- the fresh object's address
  rw [← g7] at A7 D7 st7      -- A7 : Exa Z h7 b7 "com/example/foreloom/foreloom/featuremodel/RuleTally"; E7 : Ext h0 h7 (carries every older fact: .ext E7)
  have F_counts_b7 : Fld Z h7 b7 "com/example/foreloom/foreloom/featuremodel/RuleTally" "counts" "[I" .null := D7 (Or.inr (hw _ (List.mem_of_getElem? (i := 33) rfl))) (ty := (.array .int)) (by decide)
  have E_b7 := A7
  have g_b7 : n0 ≤ b7 := Nat.le_trans Z0 (Nat.le_of_eq g7.symm)
  have sz_b7 : h0.size ≤ b7 := (Nat.le_trans (Keep.refl h0 []).1 (Nat.le_of_eq g7.symm))
  have O7 : Old Z n0 h7 := O0.ext E7
  have K7 : Keep h0 h7 [] := (Keep.refl h0 []).ext E7
  obtain ⟨_, _, ⟨T8, L8, k8, n8⟩, -, X8, ⟨Lc8, hQ8, l8, y8, z8⟩, st8⟩ := X7.specialBack hx (y := (⟨"com/example/foreloom/foreloom/featuremodel/RuleTally", "<init>", "()V"⟩ : MethodName)) rfl hown (mvT hZ (hw _ (List.mem_of_getElem? (i := 3) rfl))) (mvT hZ (hw _ (List.mem_of_getElem? (i := 4) rfl))) (mvT hZ (hw _ (List.mem_of_getElem? (i := 5) rfl))) (by decide) (backOf (W := 1) (rm1 l Z a0 hw [] b7 wv cl h7 n0 (Nat.le_trans Z0 E7.1) E_b7 F_counts_b7 g_b7 (Sv.ext O7.2) ⟨(O7.2.2 _ _ Av.1), Av.2⟩ Fcl hcap (Ev.ext O7.2) Sz) hZ (hw _ (List.mem_of_getElem? (i := 5) rfl)) (hw _ (List.mem_of_getElem? (i := 2) rfl)) (by decide) (by decide)) (g := (mkF m 4 #[.val (.int p1), .val (.int p2), .val (.int p3), .val (.int p4), .val (.int p5), .val (.int p6), .unset, .unset] [(.ref b7), (.ref b7)])) rfl (by rw [hml]; rfl) (Steps.refl _) (a := b7) (argsL := []) (rest := [(.ref b7)]) (lenOf pd_0_0 rfl) rfl (by show 2 * 0 + _ ≤ _; exact Nat.le_of_eq rfl) (hb hby at_4) (fun _ _ => ⟨rfl, e7, (Nat.le_of_ble_eq_true rfl), (Nat.le_of_ble_eq_true rfl)⟩)
  dsimp only [Pt.U, Pt.locs, Pt.cells, Pt.slots] at X8 l8 y8 z8 st8 hQ8
  subst l8 y8 z8
  obtain ⟨rfl, N8q, ca, c8, KC8, Fc8, Ar8, Sl8, gca⟩ := hQ8
  have N8 := Fr.app N0 N8q
  have gcn : n0 ≤ ca := Nat.le_trans (Nat.le_trans Z0 E7.1) gca
  have nca : b7 ≠ ca := Nat.ne_of_lt (Nat.lt_of_lt_of_le E_b7.lt gca)
  have FC8 := Fc8
  have O8 : Old Z n0 T8.heap := O7.keep KC8 (allS g_b7 all0)
  obtain ⟨T10, X10, e10, st10⟩ := getS2 X8 hx hZ hown (host := "") (Or.inl (hw _ (List.mem_of_getElem? (i := 34) rfl))) Via.refl rfl (S_ROOT.ext O8.2) (g := (mkF m 11 #[.val (.int p1), .val (.int p2), .val (.int p3), .val (.int p4), .val (.int p5), .val (.int p6), .val (.ref b7), .unset] [(.ref b7)])) rfl (hb hby at_11)
  obtain ⟨cq11, kq11, q11a, q11b, q11c⟩ := isOf hZ e10 (E_b7.keep KC8)
  obtain ⟨_, _, ⟨T11, L11, k11, n11⟩, -, X11, ⟨Lc11, hQ11, l11, y11, z11⟩, st11⟩ := X10.virtualBack hx (y := (⟨"com/example/foreloom/foreloom/featuremodel/RuleTally", "add", "(Lcom/example/foreloom/foreloom/featuremodel/RuleKind;J)V"⟩ : MethodName)) (z := (⟨"com/example/foreloom/foreloom/featuremodel/RuleTally", "add", "(Lcom/example/foreloom/foreloom/featuremodel/RuleKind;J)V"⟩ : MethodName)) hown (mvT hZ (hw _ (List.mem_of_getElem? (i := 35) rfl))) (mvT hZ (hw _ (List.mem_of_getElem? (i := 36) rfl))) (notFace_of_selects (args := #[]) (mvT hZ (hw _ (List.mem_of_getElem? (i := 38) rfl)))) (mvT hZ (hw _ (List.mem_of_getElem? (i := 38) rfl))) (mvT hZ (hw _ (List.mem_of_getElem? (i := 37) rfl))) (by decide) (backOf (W := 0) (rm4 l Z a0 hw [] b7 w9 (p1.toInt64) ca (0 : Int32) c8 0 p1 #[.int 0, .int 0, .int 0, .int 0, .int 0, .int 0] T8.heap n0 (Nat.le_trans (Nat.le_trans Z0 E7.1) KC8.1) FC8 (E0.ext O8.2) Ar8 (own_in6 Sl8 rfl (by decide)) (by rw [Sl8]; rfl) (own_in6 Sl8 rfl (by decide)) gcn (F0.ext O8.2) (own_back p1) (own_add p1) (own_zero p1) Sl8) hZ (hw _ (List.mem_of_getElem? (i := 39) rfl)) (hw _ (List.mem_of_getElem? (i := 2) rfl)) (by decide) (by decide)) q11a q11c (g := (mkF m 16 #[.val (.int p1), .val (.int p2), .val (.int p3), .val (.int p4), .val (.int p5), .val (.int p6), .val (.ref b7), .unset] [(.long (p1.toInt64)), (.ref w9), (.ref b7)])) rfl (by rw [hml]; rfl) (Steps.refl _) (argsL := [(.ref w9), (.long (p1.toInt64))]) (rest := []) (lenOf pd_0_3 rfl) rfl (by show 2 * 0 + _ ≤ _; exact Nat.le_of_eq rfl) (hb hby at_16) (fun _ _ => ⟨rfl, e10, (Nat.le_of_ble_eq_true rfl), (Nat.le_of_ble_eq_true rfl)⟩)
  dsimp only [Pt.U, Pt.locs, Pt.cells, Pt.slots] at X11 l11 y11 z11 st11 hQ11
  subst l11 y11 z11
  obtain ⟨rfl, N11q, c11, KC11, Ar11, Sl11⟩ := hQ11
  have N11 := Fr.app N8 N11q
  have FC11 := FC8.keep KC11 (ninS nca nin0)
  have Sl11 : c11.slots = #[.int p1, .int 0, .int 0, .int 0, .int 0, .int 0] := Sl11
  have O11 : Old Z n0 T11.heap := O8.keep KC11 (allS gcn all0)
  obtain ⟨T13, X13, e13, st13⟩ := getS2 X11 hx hZ hown (host := "") (Or.inl (hw _ (List.mem_of_getElem? (i := 56) rfl))) Via.refl rfl (S_PARENT.ext O11.2) (g := (mkF m 21 #[.val (.int p1), .val (.int p2), .val (.int p3), .val (.int p4), .val (.int p5), .val (.int p6), .val (.ref b7), .unset] [(.ref b7)])) rfl (hb hby at_21)
  obtain ⟨cq14, kq14, q14a, q14b, q14c⟩ := isOf hZ e13 ((E_b7.keep KC8).keep KC11)
  obtain ⟨_, _, ⟨T14, L14, k14, n14⟩, -, X14, ⟨Lc14, hQ14, l14, y14, z14⟩, st14⟩ := X13.virtualBack hx (y := (⟨"com/example/foreloom/foreloom/featuremodel/RuleTally", "add", "(Lcom/example/foreloom/foreloom/featuremodel/RuleKind;J)V"⟩ : MethodName)) (z := (⟨"com/example/foreloom/foreloom/featuremodel/RuleTally", "add", "(Lcom/example/foreloom/foreloom/featuremodel/RuleKind;J)V"⟩ : MethodName)) hown (mvT hZ (hw _ (List.mem_of_getElem? (i := 35) rfl))) (mvT hZ (hw _ (List.mem_of_getElem? (i := 36) rfl))) (notFace_of_selects (args := #[]) (mvT hZ (hw _ (List.mem_of_getElem? (i := 38) rfl)))) (mvT hZ (hw _ (List.mem_of_getElem? (i := 38) rfl))) (mvT hZ (hw _ (List.mem_of_getElem? (i := 37) rfl))) (by decide) (backOf (W := 0) (rm4 l Z a0 hw [] b7 w12 (p2.toInt64) ca (0 : Int32) c11 1 p2 #[.int p1, .int 0, .int 0, .int 0, .int 0, .int 0] T11.heap n0 (Nat.le_trans (Nat.le_trans (Nat.le_trans Z0 E7.1) KC8.1) KC11.1) FC11 (E1.ext O11.2) Ar11 (own_in6 Sl11 rfl (by decide)) (by rw [Sl11]; rfl) (own_in6 Sl11 rfl (by decide)) gcn (F1.ext O11.2) (own_back p2) (own_add p2) (own_zero p2) Sl11) hZ (hw _ (List.mem_of_getElem? (i := 39) rfl)) (hw _ (List.mem_of_getElem? (i := 2) rfl)) (by decide) (by decide)) q14a q14c (g := (mkF m 26 #[.val (.int p1), .val (.int p2), .val (.int p3), .val (.int p4), .val (.int p5), .val (.int p6), .val (.ref b7), .unset] [(.long (p2.toInt64)), (.ref w12), (.ref b7)])) rfl (by rw [hml]; rfl) (Steps.refl _) (argsL := [(.ref w12), (.long (p2.toInt64))]) (rest := []) (lenOf pd_0_3 rfl) rfl (by show 2 * 0 + _ ≤ _; exact Nat.le_of_eq rfl) (hb hby at_26) (fun _ _ => ⟨rfl, e13, (Nat.le_of_ble_eq_true rfl), (Nat.le_of_ble_eq_true rfl)⟩)
  dsimp only [Pt.U, Pt.locs, Pt.cells, Pt.slots] at X14 l14 y14 z14 st14 hQ14
  subst l14 y14 z14
  obtain ⟨rfl, N14q, c14, KC14, Ar14, Sl14⟩ := hQ14
  have N14 := Fr.app N11 N14q
  have FC14 := FC11.keep KC14 (ninS nca nin0)
  have Sl14 : c14.slots = #[.int p1, .int p2, .int 0, .int 0, .int 0, .int 0] := Sl14
  have O14 : Old Z n0 T14.heap := O11.keep KC14 (allS gcn all0)
  obtain ⟨T16, X16, e16, st16⟩ := getS2 X14 hx hZ hown (host := "") (Or.inl (hw _ (List.mem_of_getElem? (i := 57) rfl))) Via.refl rfl (S_MANDATORY.ext O14.2) (g := (mkF m 31 #[.val (.int p1), .val (.int p2), .val (.int p3), .val (.int p4), .val (.int p5), .val (.int p6), .val (.ref b7), .unset] [(.ref b7)])) rfl (hb hby at_31)
  obtain ⟨cq17, kq17, q17a, q17b, q17c⟩ := isOf hZ e16 (((E_b7.keep KC8).keep KC11).keep KC14)
  obtain ⟨_, _, ⟨T17, L17, k17, n17⟩, -, X17, ⟨Lc17, hQ17, l17, y17, z17⟩, st17⟩ := X16.virtualBack hx (y := (⟨"com/example/foreloom/foreloom/featuremodel/RuleTally", "add", "(Lcom/example/foreloom/foreloom/featuremodel/RuleKind;J)V"⟩ : MethodName)) (z := (⟨"com/example/foreloom/foreloom/featuremodel/RuleTally", "add", "(Lcom/example/foreloom/foreloom/featuremodel/RuleKind;J)V"⟩ : MethodName)) hown (mvT hZ (hw _ (List.mem_of_getElem? (i := 35) rfl))) (mvT hZ (hw _ (List.mem_of_getElem? (i := 36) rfl))) (notFace_of_selects (args := #[]) (mvT hZ (hw _ (List.mem_of_getElem? (i := 38) rfl)))) (mvT hZ (hw _ (List.mem_of_getElem? (i := 38) rfl))) (mvT hZ (hw _ (List.mem_of_getElem? (i := 37) rfl))) (by decide) (backOf (W := 0) (rm4 l Z a0 hw [] b7 w15 (p3.toInt64) ca (0 : Int32) c14 2 p3 #[.int p1, .int p2, .int 0, .int 0, .int 0, .int 0] T14.heap n0 (Nat.le_trans (Nat.le_trans (Nat.le_trans (Nat.le_trans Z0 E7.1) KC8.1) KC11.1) KC14.1) FC14 (E2.ext O14.2) Ar14 (own_in6 Sl14 rfl (by decide)) (by rw [Sl14]; rfl) (own_in6 Sl14 rfl (by decide)) gcn (F2.ext O14.2) (own_back p3) (own_add p3) (own_zero p3) Sl14) hZ (hw _ (List.mem_of_getElem? (i := 39) rfl)) (hw _ (List.mem_of_getElem? (i := 2) rfl)) (by decide) (by decide)) q17a q17c (g := (mkF m 36 #[.val (.int p1), .val (.int p2), .val (.int p3), .val (.int p4), .val (.int p5), .val (.int p6), .val (.ref b7), .unset] [(.long (p3.toInt64)), (.ref w15), (.ref b7)])) rfl (by rw [hml]; rfl) (Steps.refl _) (argsL := [(.ref w15), (.long (p3.toInt64))]) (rest := []) (lenOf pd_0_3 rfl) rfl (by show 2 * 0 + _ ≤ _; exact Nat.le_of_eq rfl) (hb hby at_36) (fun _ _ => ⟨rfl, e16, (Nat.le_of_ble_eq_true rfl), (Nat.le_of_ble_eq_true rfl)⟩)
  dsimp only [Pt.U, Pt.locs, Pt.cells, Pt.slots] at X17 l17 y17 z17 st17 hQ17
  subst l17 y17 z17
  obtain ⟨rfl, N17q, c17, KC17, Ar17, Sl17⟩ := hQ17
  have N17 := Fr.app N14 N17q
  have FC17 := FC14.keep KC17 (ninS nca nin0)
  have Sl17 : c17.slots = #[.int p1, .int p2, .int p3, .int 0, .int 0, .int 0] := Sl17
  have O17 : Old Z n0 T17.heap := O14.keep KC17 (allS gcn all0)
  obtain ⟨T19, X19, e19, st19⟩ := getS2 X17 hx hZ hown (host := "") (Or.inl (hw _ (List.mem_of_getElem? (i := 58) rfl))) Via.refl rfl (S_GROUP_MIN.ext O17.2) (g := (mkF m 41 #[.val (.int p1), .val (.int p2), .val (.int p3), .val (.int p4), .val (.int p5), .val (.int p6), .val (.ref b7), .unset] [(.ref b7)])) rfl (hb hby at_41)
  obtain ⟨cq20, kq20, q20a, q20b, q20c⟩ := isOf hZ e19 ((((E_b7.keep KC8).keep KC11).keep KC14).keep KC17)
  obtain ⟨_, _, ⟨T20, L20, k20, n20⟩, -, X20, ⟨Lc20, hQ20, l20, y20, z20⟩, st20⟩ := X19.virtualBack hx (y := (⟨"com/example/foreloom/foreloom/featuremodel/RuleTally", "add", "(Lcom/example/foreloom/foreloom/featuremodel/RuleKind;J)V"⟩ : MethodName)) (z := (⟨"com/example/foreloom/foreloom/featuremodel/RuleTally", "add", "(Lcom/example/foreloom/foreloom/featuremodel/RuleKind;J)V"⟩ : MethodName)) hown (mvT hZ (hw _ (List.mem_of_getElem? (i := 35) rfl))) (mvT hZ (hw _ (List.mem_of_getElem? (i := 36) rfl))) (notFace_of_selects (args := #[]) (mvT hZ (hw _ (List.mem_of_getElem? (i := 38) rfl)))) (mvT hZ (hw _ (List.mem_of_getElem? (i := 38) rfl))) (mvT hZ (hw _ (List.mem_of_getElem? (i := 37) rfl))) (by decide) (backOf (W := 0) (rm4 l Z a0 hw [] b7 w18 (p4.toInt64) ca (0 : Int32) c17 3 p4 #[.int p1, .int p2, .int p3, .int 0, .int 0, .int 0] T17.heap n0 (Nat.le_trans (Nat.le_trans (Nat.le_trans (Nat.le_trans (Nat.le_trans Z0 E7.1) KC8.1) KC11.1) KC14.1) KC17.1) FC17 (E3.ext O17.2) Ar17 (own_in6 Sl17 rfl (by decide)) (by rw [Sl17]; rfl) (own_in6 Sl17 rfl (by decide)) gcn (F3.ext O17.2) (own_back p4) (own_add p4) (own_zero p4) Sl17) hZ (hw _ (List.mem_of_getElem? (i := 39) rfl)) (hw _ (List.mem_of_getElem? (i := 2) rfl)) (by decide) (by decide)) q20a q20c (g := (mkF m 46 #[.val (.int p1), .val (.int p2), .val (.int p3), .val (.int p4), .val (.int p5), .val (.int p6), .val (.ref b7), .unset] [(.long (p4.toInt64)), (.ref w18), (.ref b7)])) rfl (by rw [hml]; rfl) (Steps.refl _) (argsL := [(.ref w18), (.long (p4.toInt64))]) (rest := []) (lenOf pd_0_3 rfl) rfl (by show 2 * 0 + _ ≤ _; exact Nat.le_of_eq rfl) (hb hby at_46) (fun _ _ => ⟨rfl, e19, (Nat.le_of_ble_eq_true rfl), (Nat.le_of_ble_eq_true rfl)⟩)
  dsimp only [Pt.U, Pt.locs, Pt.cells, Pt.slots] at X20 l20 y20 z20 st20 hQ20
  subst l20 y20 z20
  obtain ⟨rfl, N20q, c20, KC20, Ar20, Sl20⟩ := hQ20
  have N20 := Fr.app N17 N20q
  have FC20 := FC17.keep KC20 (ninS nca nin0)
  have Sl20 : c20.slots = #[.int p1, .int p2, .int p3, .int p4, .int 0, .int 0] := Sl20
  have O20 : Old Z n0 T20.heap := O17.keep KC20 (allS gcn all0)
  obtain ⟨T22, X22, e22, st22⟩ := getS2 X20 hx hZ hown (host := "") (Or.inl (hw _ (List.mem_of_getElem? (i := 59) rfl))) Via.refl rfl (S_GROUP_MAX.ext O20.2) (g := (mkF m 51 #[.val (.int p1), .val (.int p2), .val (.int p3), .val (.int p4), .val (.int p5), .val (.int p6), .val (.ref b7), .unset] [(.ref b7)])) rfl (hb hby at_51)
  obtain ⟨cq23, kq23, q23a, q23b, q23c⟩ := isOf hZ e22 (((((E_b7.keep KC8).keep KC11).keep KC14).keep KC17).keep KC20)
  obtain ⟨_, _, ⟨T23, L23, k23, n23⟩, -, X23, ⟨Lc23, hQ23, l23, y23, z23⟩, st23⟩ := X22.virtualBack hx (y := (⟨"com/example/foreloom/foreloom/featuremodel/RuleTally", "add", "(Lcom/example/foreloom/foreloom/featuremodel/RuleKind;J)V"⟩ : MethodName)) (z := (⟨"com/example/foreloom/foreloom/featuremodel/RuleTally", "add", "(Lcom/example/foreloom/foreloom/featuremodel/RuleKind;J)V"⟩ : MethodName)) hown (mvT hZ (hw _ (List.mem_of_getElem? (i := 35) rfl))) (mvT hZ (hw _ (List.mem_of_getElem? (i := 36) rfl))) (notFace_of_selects (args := #[]) (mvT hZ (hw _ (List.mem_of_getElem? (i := 38) rfl)))) (mvT hZ (hw _ (List.mem_of_getElem? (i := 38) rfl))) (mvT hZ (hw _ (List.mem_of_getElem? (i := 37) rfl))) (by decide) (backOf (W := 0) (rm4 l Z a0 hw [] b7 w21 (p5.toInt64) ca (0 : Int32) c20 4 p5 #[.int p1, .int p2, .int p3, .int p4, .int 0, .int 0] T20.heap n0 (Nat.le_trans (Nat.le_trans (Nat.le_trans (Nat.le_trans (Nat.le_trans (Nat.le_trans Z0 E7.1) KC8.1) KC11.1) KC14.1) KC17.1) KC20.1) FC20 (E4.ext O20.2) Ar20 (own_in6 Sl20 rfl (by decide)) (by rw [Sl20]; rfl) (own_in6 Sl20 rfl (by decide)) gcn (F4.ext O20.2) (own_back p5) (own_add p5) (own_zero p5) Sl20) hZ (hw _ (List.mem_of_getElem? (i := 39) rfl)) (hw _ (List.mem_of_getElem? (i := 2) rfl)) (by decide) (by decide)) q23a q23c (g := (mkF m 57 #[.val (.int p1), .val (.int p2), .val (.int p3), .val (.int p4), .val (.int p5), .val (.int p6), .val (.ref b7), .unset] [(.long (p5.toInt64)), (.ref w21), (.ref b7)])) rfl (by rw [hml]; rfl) (Steps.refl _) (argsL := [(.ref w21), (.long (p5.toInt64))]) (rest := []) (lenOf pd_0_3 rfl) rfl (by show 2 * 0 + _ ≤ _; exact Nat.le_of_eq rfl) (hb hby at_57) (fun _ _ => ⟨rfl, e22, (Nat.le_of_ble_eq_true rfl), (Nat.le_of_ble_eq_true rfl)⟩)
  dsimp only [Pt.U, Pt.locs, Pt.cells, Pt.slots] at X23 l23 y23 z23 st23 hQ23
  subst l23 y23 z23
  obtain ⟨rfl, N23q, c23, KC23, Ar23, Sl23⟩ := hQ23
  have N23 := Fr.app N20 N23q
  have FC23 := FC20.keep KC23 (ninS nca nin0)
  have Sl23 : c23.slots = #[.int p1, .int p2, .int p3, .int p4, .int p5, .int 0] := Sl23
  have O23 : Old Z n0 T23.heap := O20.keep KC23 (allS gcn all0)
  obtain ⟨T25, X25, e25, st25⟩ := getS2 X23 hx hZ hown (host := "") (Or.inl (hw _ (List.mem_of_getElem? (i := 60) rfl))) Via.refl rfl (S_CROSS_TREE.ext O23.2) (g := (mkF m 62 #[.val (.int p1), .val (.int p2), .val (.int p3), .val (.int p4), .val (.int p5), .val (.int p6), .val (.ref b7), .unset] [(.ref b7)])) rfl (hb hby at_62)
  obtain ⟨cq26, kq26, q26a, q26b, q26c⟩ := isOf hZ e25 ((((((E_b7.keep KC8).keep KC11).keep KC14).keep KC17).keep KC20).keep KC23)
  obtain ⟨_, _, ⟨T26, L26, k26, n26⟩, -, X26, ⟨Lc26, hQ26, l26, y26, z26⟩, st26⟩ := X25.virtualBack hx (y := (⟨"com/example/foreloom/foreloom/featuremodel/RuleTally", "add", "(Lcom/example/foreloom/foreloom/featuremodel/RuleKind;J)V"⟩ : MethodName)) (z := (⟨"com/example/foreloom/foreloom/featuremodel/RuleTally", "add", "(Lcom/example/foreloom/foreloom/featuremodel/RuleKind;J)V"⟩ : MethodName)) hown (mvT hZ (hw _ (List.mem_of_getElem? (i := 35) rfl))) (mvT hZ (hw _ (List.mem_of_getElem? (i := 36) rfl))) (notFace_of_selects (args := #[]) (mvT hZ (hw _ (List.mem_of_getElem? (i := 38) rfl)))) (mvT hZ (hw _ (List.mem_of_getElem? (i := 38) rfl))) (mvT hZ (hw _ (List.mem_of_getElem? (i := 37) rfl))) (by decide) (backOf (W := 0) (rm4 l Z a0 hw [] b7 w24 (p6.toInt64) ca (0 : Int32) c23 5 p6 #[.int p1, .int p2, .int p3, .int p4, .int p5, .int 0] T23.heap n0 (Nat.le_trans (Nat.le_trans (Nat.le_trans (Nat.le_trans (Nat.le_trans (Nat.le_trans (Nat.le_trans Z0 E7.1) KC8.1) KC11.1) KC14.1) KC17.1) KC20.1) KC23.1) FC23 (E5.ext O23.2) Ar23 (own_in6 Sl23 rfl (by decide)) (by rw [Sl23]; rfl) (own_in6 Sl23 rfl (by decide)) gcn (F5.ext O23.2) (own_back p6) (own_add p6) (own_zero p6) Sl23) hZ (hw _ (List.mem_of_getElem? (i := 39) rfl)) (hw _ (List.mem_of_getElem? (i := 2) rfl)) (by decide) (by decide)) q26a q26c (g := (mkF m 68 #[.val (.int p1), .val (.int p2), .val (.int p3), .val (.int p4), .val (.int p5), .val (.int p6), .val (.ref b7), .unset] [(.long (p6.toInt64)), (.ref w24), (.ref b7)])) rfl (by rw [hml]; rfl) (Steps.refl _) (argsL := [(.ref w24), (.long (p6.toInt64))]) (rest := []) (lenOf pd_0_3 rfl) rfl (by show 2 * 0 + _ ≤ _; exact Nat.le_of_eq rfl) (hb hby at_68) (fun _ _ => ⟨rfl, e25, (Nat.le_of_ble_eq_true rfl), (Nat.le_of_ble_eq_true rfl)⟩)
  dsimp only [Pt.U, Pt.locs, Pt.cells, Pt.slots] at X26 l26 y26 z26 st26 hQ26
  subst l26 y26 z26
  obtain ⟨rfl, N26q, c26, KC26, Ar26, Sl26⟩ := hQ26
  have N26 := Fr.app N23 N26q
  have FC26 := FC23.keep KC26 (ninS nca nin0)
  have Sl26 : c26.slots = #[.int p1, .int p2, .int p3, .int p4, .int p5, .int p6] := Sl26
  have O26 : Old Z n0 T26.heap := O23.keep KC26 (allS gcn all0)
  obtain ⟨cq27, kq27, q27a, q27b, q27c⟩ := isOf hZ rfl (((((((E_b7.keep KC8).keep KC11).keep KC14).keep KC17).keep KC20).keep KC23).keep KC26)
  obtain ⟨_, _, ⟨T27, L27, k27, n27⟩, -, X27, ⟨Lc27, hQ27, l27, y27, z27⟩, st27⟩ := X26.virtualBack hx (y := (⟨"com/example/foreloom/foreloom/featuremodel/RuleTally", "total", "()I"⟩ : MethodName)) (z := (⟨"com/example/foreloom/foreloom/featuremodel/RuleTally", "total", "()I"⟩ : MethodName)) hown (mvT hZ (hw _ (List.mem_of_getElem? (i := 61) rfl))) (mvT hZ (hw _ (List.mem_of_getElem? (i := 62) rfl))) (notFace_of_selects (args := #[]) (mvT hZ (hw _ (List.mem_of_getElem? (i := 64) rfl)))) (mvT hZ (hw _ (List.mem_of_getElem? (i := 64) rfl))) (mvT hZ (hw _ (List.mem_of_getElem? (i := 63) rfl))) (by decide) (backOf (W := 0) (rm8 l Z a0 hw [] b7 ca c26 p1 p2 p3 p4 p5 p6 T26.heap n0 (Nat.le_trans (Nat.le_trans (Nat.le_trans (Nat.le_trans (Nat.le_trans (Nat.le_trans (Nat.le_trans (Nat.le_trans Z0 E7.1) KC8.1) KC11.1) KC14.1) KC17.1) KC20.1) KC23.1) KC26.1) FC26 Ar26 Sl26) hZ (hw _ (List.mem_of_getElem? (i := 65) rfl)) (hw _ (List.mem_of_getElem? (i := 2) rfl)) (by decide) (by decide)) q27a q27c (g := (mkF m 88 #[.val (.int p1), .val (.int p2), .val (.int p3), .val (.int p4), .val (.int p5), .val (.int p6), .val (.ref b7), .val (.int (((((p1 + p2) + p3) + p4) + p5) + p6))] [(.ref b7)])) rfl (by rw [hml]; rfl) (Steps.refl _) (argsL := []) (rest := []) (lenOf pd_0_4 rfl) rfl (by show 2 * 0 + _ ≤ _; exact Nat.le_of_eq rfl) (hb hby at_88) (fun _ _ => ⟨rfl, rfl, (Nat.le_of_ble_eq_true rfl), (Nat.le_of_ble_eq_true rfl)⟩)
  dsimp only [Pt.U, Pt.locs, Pt.cells, Pt.slots] at X27 l27 y27 z27 st27 hQ27
  subst l27 y27 z27
  obtain ⟨rfl, N27q, eh27⟩ := hQ27
  have N27 := Fr.app N26 N27q
  obtain ⟨fs, hr, hrun, hended, hW, hsame⟩ := X27.leave (v := some (.int (1 : Int32))) (fun h => by rw [Bd.returns] at h; cases h)
  refine ⟨_, _, pre0 _ ?_, hrun, hended, _, _, rfl, ?_, ⟨_, rfl⟩, hW, hsame.mono (by decide) (by decide)⟩
  · show Steps p.tables e below (s₁.setTop (mkF m 0 #[.val (.int p1), .val (.int p2), .val (.int p3), .val (.int p4), .val (.int p5), .val (.int p6), .unset, .unset] [])) _
    refine st7 _ ?_
    show Steps p.tables e below (T7.setTop (mkF m 3 #[.val (.int p1), .val (.int p2), .val (.int p3), .val (.int p4), .val (.int p5), .val (.int p6), .unset, .unset] [(.ref b7)])) _
    refine XS.dup X7.here hx rfl (hb hby at_3) rfl rfl ?_
    show Steps p.tables e below (T7.setTop (mkF m 4 #[.val (.int p1), .val (.int p2), .val (.int p3), .val (.int p4), .val (.int p5), .val (.int p6), .unset, .unset] [(.ref b7), (.ref b7)])) _
    refine st8.trans ?_
    show Steps p.tables e below (T8.setTop (mkF m 7 #[.val (.int p1), .val (.int p2), .val (.int p3), .val (.int p4), .val (.int p5), .val (.int p6), .unset, .unset] [(.ref b7)])) _
    refine XS.astore X8.here hx rfl (hb hby at_7) rfl rfl (l' := #[.val (.int p1), .val (.int p2), .val (.int p3), .val (.int p4), .val (.int p5), .val (.int p6), .val (.ref b7), .unset]) rfl ?_
    show Steps p.tables e below (T8.setTop (mkF m 9 #[.val (.int p1), .val (.int p2), .val (.int p3), .val (.int p4), .val (.int p5), .val (.int p6), .val (.ref b7), .unset] [])) _
    refine XS.aload X8.here hx rfl (hb hby at_9) rfl rfl ?_
    show Steps p.tables e below (T8.setTop (mkF m 11 #[.val (.int p1), .val (.int p2), .val (.int p3), .val (.int p4), .val (.int p5), .val (.int p6), .val (.ref b7), .unset] [(.ref b7)])) _
    refine st10 _ ?_
    show Steps p.tables e below (T10.setTop (mkF m 14 #[.val (.int p1), .val (.int p2), .val (.int p3), .val (.int p4), .val (.int p5), .val (.int p6), .val (.ref b7), .unset] [(.ref w9), (.ref b7)])) _
    refine XS.iloadN X10.here hx rfl (hb hby at_14) rfl ?_
    show Steps p.tables e below (T10.setTop (mkF m 15 #[.val (.int p1), .val (.int p2), .val (.int p3), .val (.int p4), .val (.int p5), .val (.int p6), .val (.ref b7), .unset] [(.int p1), (.ref w9), (.ref b7)])) _
    refine XS.i2l X10.here hx rfl (hb hby at_15) rfl ?_
    show Steps p.tables e below (T10.setTop (mkF m 16 #[.val (.int p1), .val (.int p2), .val (.int p3), .val (.int p4), .val (.int p5), .val (.int p6), .val (.ref b7), .unset] [(.long (p1.toInt64)), (.ref w9), (.ref b7)])) _
    refine st11.trans ?_
    show Steps p.tables e below (T11.setTop (mkF m 19 #[.val (.int p1), .val (.int p2), .val (.int p3), .val (.int p4), .val (.int p5), .val (.int p6), .val (.ref b7), .unset] [])) _
    refine XS.aload X11.here hx rfl (hb hby at_19) rfl rfl ?_
    show Steps p.tables e below (T11.setTop (mkF m 21 #[.val (.int p1), .val (.int p2), .val (.int p3), .val (.int p4), .val (.int p5), .val (.int p6), .val (.ref b7), .unset] [(.ref b7)])) _
    refine st13 _ ?_
    show Steps p.tables e below (T13.setTop (mkF m 24 #[.val (.int p1), .val (.int p2), .val (.int p3), .val (.int p4), .val (.int p5), .val (.int p6), .val (.ref b7), .unset] [(.ref w12), (.ref b7)])) _
    refine XS.iloadN X13.here hx rfl (hb hby at_24) rfl ?_
    show Steps p.tables e below (T13.setTop (mkF m 25 #[.val (.int p1), .val (.int p2), .val (.int p3), .val (.int p4), .val (.int p5), .val (.int p6), .val (.ref b7), .unset] [(.int p2), (.ref w12), (.ref b7)])) _
    refine XS.i2l X13.here hx rfl (hb hby at_25) rfl ?_
    show Steps p.tables e below (T13.setTop (mkF m 26 #[.val (.int p1), .val (.int p2), .val (.int p3), .val (.int p4), .val (.int p5), .val (.int p6), .val (.ref b7), .unset] [(.long (p2.toInt64)), (.ref w12), (.ref b7)])) _
    refine st14.trans ?_
    show Steps p.tables e below (T14.setTop (mkF m 29 #[.val (.int p1), .val (.int p2), .val (.int p3), .val (.int p4), .val (.int p5), .val (.int p6), .val (.ref b7), .unset] [])) _
    refine XS.aload X14.here hx rfl (hb hby at_29) rfl rfl ?_
    show Steps p.tables e below (T14.setTop (mkF m 31 #[.val (.int p1), .val (.int p2), .val (.int p3), .val (.int p4), .val (.int p5), .val (.int p6), .val (.ref b7), .unset] [(.ref b7)])) _
    refine st16 _ ?_
    show Steps p.tables e below (T16.setTop (mkF m 34 #[.val (.int p1), .val (.int p2), .val (.int p3), .val (.int p4), .val (.int p5), .val (.int p6), .val (.ref b7), .unset] [(.ref w15), (.ref b7)])) _
    refine XS.iloadN X16.here hx rfl (hb hby at_34) rfl ?_
    show Steps p.tables e below (T16.setTop (mkF m 35 #[.val (.int p1), .val (.int p2), .val (.int p3), .val (.int p4), .val (.int p5), .val (.int p6), .val (.ref b7), .unset] [(.int p3), (.ref w15), (.ref b7)])) _
    refine XS.i2l X16.here hx rfl (hb hby at_35) rfl ?_
    show Steps p.tables e below (T16.setTop (mkF m 36 #[.val (.int p1), .val (.int p2), .val (.int p3), .val (.int p4), .val (.int p5), .val (.int p6), .val (.ref b7), .unset] [(.long (p3.toInt64)), (.ref w15), (.ref b7)])) _
    refine st17.trans ?_
    show Steps p.tables e below (T17.setTop (mkF m 39 #[.val (.int p1), .val (.int p2), .val (.int p3), .val (.int p4), .val (.int p5), .val (.int p6), .val (.ref b7), .unset] [])) _
    refine XS.aload X17.here hx rfl (hb hby at_39) rfl rfl ?_
    show Steps p.tables e below (T17.setTop (mkF m 41 #[.val (.int p1), .val (.int p2), .val (.int p3), .val (.int p4), .val (.int p5), .val (.int p6), .val (.ref b7), .unset] [(.ref b7)])) _
    refine st19 _ ?_
    show Steps p.tables e below (T19.setTop (mkF m 44 #[.val (.int p1), .val (.int p2), .val (.int p3), .val (.int p4), .val (.int p5), .val (.int p6), .val (.ref b7), .unset] [(.ref w18), (.ref b7)])) _
    refine XS.iloadN X19.here hx rfl (hb hby at_44) rfl ?_
    show Steps p.tables e below (T19.setTop (mkF m 45 #[.val (.int p1), .val (.int p2), .val (.int p3), .val (.int p4), .val (.int p5), .val (.int p6), .val (.ref b7), .unset] [(.int p4), (.ref w18), (.ref b7)])) _
    refine XS.i2l X19.here hx rfl (hb hby at_45) rfl ?_
    show Steps p.tables e below (T19.setTop (mkF m 46 #[.val (.int p1), .val (.int p2), .val (.int p3), .val (.int p4), .val (.int p5), .val (.int p6), .val (.ref b7), .unset] [(.long (p4.toInt64)), (.ref w18), (.ref b7)])) _
    refine st20.trans ?_
    show Steps p.tables e below (T20.setTop (mkF m 49 #[.val (.int p1), .val (.int p2), .val (.int p3), .val (.int p4), .val (.int p5), .val (.int p6), .val (.ref b7), .unset] [])) _
    refine XS.aload X20.here hx rfl (hb hby at_49) rfl rfl ?_
    show Steps p.tables e below (T20.setTop (mkF m 51 #[.val (.int p1), .val (.int p2), .val (.int p3), .val (.int p4), .val (.int p5), .val (.int p6), .val (.ref b7), .unset] [(.ref b7)])) _
    refine st22 _ ?_
    show Steps p.tables e below (T22.setTop (mkF m 54 #[.val (.int p1), .val (.int p2), .val (.int p3), .val (.int p4), .val (.int p5), .val (.int p6), .val (.ref b7), .unset] [(.ref w21), (.ref b7)])) _
    refine XS.iload X22.here hx rfl (hb hby at_54) rfl ?_
    show Steps p.tables e below (T22.setTop (mkF m 56 #[.val (.int p1), .val (.int p2), .val (.int p3), .val (.int p4), .val (.int p5), .val (.int p6), .val (.ref b7), .unset] [(.int p5), (.ref w21), (.ref b7)])) _
    refine XS.i2l X22.here hx rfl (hb hby at_56) rfl ?_
    show Steps p.tables e below (T22.setTop (mkF m 57 #[.val (.int p1), .val (.int p2), .val (.int p3), .val (.int p4), .val (.int p5), .val (.int p6), .val (.ref b7), .unset] [(.long (p5.toInt64)), (.ref w21), (.ref b7)])) _
    refine st23.trans ?_
    show Steps p.tables e below (T23.setTop (mkF m 60 #[.val (.int p1), .val (.int p2), .val (.int p3), .val (.int p4), .val (.int p5), .val (.int p6), .val (.ref b7), .unset] [])) _
    refine XS.aload X23.here hx rfl (hb hby at_60) rfl rfl ?_
    show Steps p.tables e below (T23.setTop (mkF m 62 #[.val (.int p1), .val (.int p2), .val (.int p3), .val (.int p4), .val (.int p5), .val (.int p6), .val (.ref b7), .unset] [(.ref b7)])) _
    refine st25 _ ?_
    show Steps p.tables e below (T25.setTop (mkF m 65 #[.val (.int p1), .val (.int p2), .val (.int p3), .val (.int p4), .val (.int p5), .val (.int p6), .val (.ref b7), .unset] [(.ref w24), (.ref b7)])) _
    refine XS.iload X25.here hx rfl (hb hby at_65) rfl ?_
    show Steps p.tables e below (T25.setTop (mkF m 67 #[.val (.int p1), .val (.int p2), .val (.int p3), .val (.int p4), .val (.int p5), .val (.int p6), .val (.ref b7), .unset] [(.int p6), (.ref w24), (.ref b7)])) _
    refine XS.i2l X25.here hx rfl (hb hby at_67) rfl ?_
    show Steps p.tables e below (T25.setTop (mkF m 68 #[.val (.int p1), .val (.int p2), .val (.int p3), .val (.int p4), .val (.int p5), .val (.int p6), .val (.ref b7), .unset] [(.long (p6.toInt64)), (.ref w24), (.ref b7)])) _
    refine st26.trans ?_
    show Steps p.tables e below (T26.setTop (mkF m 71 #[.val (.int p1), .val (.int p2), .val (.int p3), .val (.int p4), .val (.int p5), .val (.int p6), .val (.ref b7), .unset] [])) _
    refine XS.iloadN X26.here hx rfl (hb hby at_71) rfl ?_
    show Steps p.tables e below (T26.setTop (mkF m 72 #[.val (.int p1), .val (.int p2), .val (.int p3), .val (.int p4), .val (.int p5), .val (.int p6), .val (.ref b7), .unset] [(.int p1)])) _
    refine XS.iloadN X26.here hx rfl (hb hby at_72) rfl ?_
    show Steps p.tables e below (T26.setTop (mkF m 73 #[.val (.int p1), .val (.int p2), .val (.int p3), .val (.int p4), .val (.int p5), .val (.int p6), .val (.ref b7), .unset] [(.int p2), (.int p1)])) _
    refine XS.iadd X26.here hx rfl (hb hby at_73) rfl ?_
    show Steps p.tables e below (T26.setTop (mkF m 74 #[.val (.int p1), .val (.int p2), .val (.int p3), .val (.int p4), .val (.int p5), .val (.int p6), .val (.ref b7), .unset] [(.int (p1 + p2))])) _
    refine XS.iloadN X26.here hx rfl (hb hby at_74) rfl ?_
    show Steps p.tables e below (T26.setTop (mkF m 75 #[.val (.int p1), .val (.int p2), .val (.int p3), .val (.int p4), .val (.int p5), .val (.int p6), .val (.ref b7), .unset] [(.int p3), (.int (p1 + p2))])) _
    refine XS.iadd X26.here hx rfl (hb hby at_75) rfl ?_
    show Steps p.tables e below (T26.setTop (mkF m 76 #[.val (.int p1), .val (.int p2), .val (.int p3), .val (.int p4), .val (.int p5), .val (.int p6), .val (.ref b7), .unset] [(.int ((p1 + p2) + p3))])) _
    refine XS.iloadN X26.here hx rfl (hb hby at_76) rfl ?_
    show Steps p.tables e below (T26.setTop (mkF m 77 #[.val (.int p1), .val (.int p2), .val (.int p3), .val (.int p4), .val (.int p5), .val (.int p6), .val (.ref b7), .unset] [(.int p4), (.int ((p1 + p2) + p3))])) _
    refine XS.iadd X26.here hx rfl (hb hby at_77) rfl ?_
    show Steps p.tables e below (T26.setTop (mkF m 78 #[.val (.int p1), .val (.int p2), .val (.int p3), .val (.int p4), .val (.int p5), .val (.int p6), .val (.ref b7), .unset] [(.int (((p1 + p2) + p3) + p4))])) _
    refine XS.iload X26.here hx rfl (hb hby at_78) rfl ?_
    show Steps p.tables e below (T26.setTop (mkF m 80 #[.val (.int p1), .val (.int p2), .val (.int p3), .val (.int p4), .val (.int p5), .val (.int p6), .val (.ref b7), .unset] [(.int p5), (.int (((p1 + p2) + p3) + p4))])) _
    refine XS.iadd X26.here hx rfl (hb hby at_80) rfl ?_
    show Steps p.tables e below (T26.setTop (mkF m 81 #[.val (.int p1), .val (.int p2), .val (.int p3), .val (.int p4), .val (.int p5), .val (.int p6), .val (.ref b7), .unset] [(.int ((((p1 + p2) + p3) + p4) + p5))])) _
    refine XS.iload X26.here hx rfl (hb hby at_81) rfl ?_
    show Steps p.tables e below (T26.setTop (mkF m 83 #[.val (.int p1), .val (.int p2), .val (.int p3), .val (.int p4), .val (.int p5), .val (.int p6), .val (.ref b7), .unset] [(.int p6), (.int ((((p1 + p2) + p3) + p4) + p5))])) _
    refine XS.iadd X26.here hx rfl (hb hby at_83) rfl ?_
    show Steps p.tables e below (T26.setTop (mkF m 84 #[.val (.int p1), .val (.int p2), .val (.int p3), .val (.int p4), .val (.int p5), .val (.int p6), .val (.ref b7), .unset] [(.int (((((p1 + p2) + p3) + p4) + p5) + p6))])) _
    refine XS.istore X26.here hx rfl (hb hby at_84) rfl (l' := #[.val (.int p1), .val (.int p2), .val (.int p3), .val (.int p4), .val (.int p5), .val (.int p6), .val (.ref b7), .val (.int (((((p1 + p2) + p3) + p4) + p5) + p6))]) rfl ?_
    show Steps p.tables e below (T26.setTop (mkF m 86 #[.val (.int p1), .val (.int p2), .val (.int p3), .val (.int p4), .val (.int p5), .val (.int p6), .val (.ref b7), .val (.int (((((p1 + p2) + p3) + p4) + p5) + p6))] [])) _
    refine XS.aload X26.here hx rfl (hb hby at_86) rfl rfl ?_
    show Steps p.tables e below (T26.setTop (mkF m 88 #[.val (.int p1), .val (.int p2), .val (.int p3), .val (.int p4), .val (.int p5), .val (.int p6), .val (.ref b7), .val (.int (((((p1 + p2) + p3) + p4) + p5) + p6))] [(.ref b7)])) _
    refine st27.trans ?_
    show Steps p.tables e below (T27.setTop (mkF m 91 #[.val (.int p1), .val (.int p2), .val (.int p3), .val (.int p4), .val (.int p5), .val (.int p6), .val (.ref b7), .val (.int (((((p1 + p2) + p3) + p4) + p5) + p6))] [(.int (((((((0 : Int32) + p1) + p2) + p3) + p4) + p5) + p6))])) _
    refine XS.iload X27.here hx rfl (hb hby at_91) rfl ?_
    show Steps p.tables e below (T27.setTop (mkF m 93 #[.val (.int p1), .val (.int p2), .val (.int p3), .val (.int p4), .val (.int p5), .val (.int p6), .val (.ref b7), .val (.int (((((p1 + p2) + p3) + p4) + p5) + p6))] [(.int (((((p1 + p2) + p3) + p4) + p5) + p6)), (.int (((((((0 : Int32) + p1) + p2) + p3) + p4) + p5) + p6))])) _
    refine XS.icmpNo X27.here hx rfl (hb hby at_93) rfl (teq own_sum).2 ?_
    show Steps p.tables e below (T27.setTop (mkF m 96 #[.val (.int p1), .val (.int p2), .val (.int p3), .val (.int p4), .val (.int p5), .val (.int p6), .val (.ref b7), .val (.int (((((p1 + p2) + p3) + p4) + p5) + p6))] [])) _
    refine XS.iconst X27.here hx rfl (hb hby at_96) ?_
    show Steps p.tables e below (T27.setTop (mkF m 97 #[.val (.int p1), .val (.int p2), .val (.int p3), .val (.int p4), .val (.int p5), .val (.int p6), .val (.ref b7), .val (.int (((((p1 + p2) + p3) + p4) + p5) + p6))] [(.int (1 : Int32))])) _
    refine XS.goto X27.here hx rfl (pc0 := 97) (pc' := 101) rfl (hb hby at_97) (by decide) (by decide) ?_
    show Steps p.tables e below (T27.setTop (mkF m 101 #[.val (.int p1), .val (.int p2), .val (.int p3), .val (.int p4), .val (.int p5), .val (.int p6), .val (.ref b7), .val (.int (((((p1 + p2) + p3) + p4) + p5) + p6))] [(.int (1 : Int32))])) _
    exact retN X27 hx (t := .boolean) Bd.returns (by simp) (hb hby at_101) hr
  · show own_QL n0 _ T27.heap _
    rw [eh27]
    exact ⟨rfl, N27⟩
set_option maxRecDepth 65536 in
set_option maxHeartbeats 40000000 in
theorem comes_1 {Post : Tables → Env → Array Value → State → Outcome → State → Prop} (hpost : ∀ tb e args s v u, (limb_1_1.after args s (.returned v) u = true ∧ limb_1_2.after args s (.returned v) u = true ∧ True) → FrameEnd s (.returned v) u (Jvm.fieldLocs frame_1_writes args s ++ Jvm.arrayLocs frame_1_arrays args s ++ Jvm.staticLocs frame_1_statics s) 16 128 → Post tb e args s (.returned v) u) :
    ArmFor flags0 classFile x code maxLocals ret World_1 tables_1 room_1 Calls_1 rest_1 Pre_1 Post := by
  intro l hfl _ _ p e ha hc hk s m args below hf hA hF happ hP
  obtain ⟨hcalls, hrest, hpre⟩ := hP
  obtain ⟨-, -, -, hnamed, -, -, -, hat⟩ := (Spec.applies_iff hf).mp happ
  obtain ⟨hg, hn⟩ := and_e (Cond.before_iff.mp (show (Jvm.Cond.and given_1 narrow_1).before args s = true from hpre))
  obtain ⟨g28, g29⟩ := and_e hg
  obtain ⟨g30, g31⟩ := and_e g29
  obtain ⟨g32, g33⟩ := and_e g31
  obtain ⟨g34, g35⟩ := and_e g33
  obtain ⟨g36, g37⟩ := and_e g35
  obtain ⟨g38, g39⟩ := and_e g37
  obtain ⟨w0, w1, w2, w3, w4, w5, rfl⟩ : ∃ w0 w1 w2 w3 w4 w5 : Value, args = #[w0, w1, w2, w3, w4, w5] := by
    have hs : args.size = 6 := by simpa [Cond.value, given_1] using g28
    obtain ⟨L⟩ := args
    match L, hs with
    | [w0, w1, w2, w3, w4, w5], _ => exact ⟨w0, w1, w2, w3, w4, w5, rfl⟩
  have hw := fun d (hd : d ∈ tables_1) => atoms_spec (ws := Jvm.Cond.code x code maxLocals ret :: tables_1) hat d (List.mem_cons_of_mem _ hd)
  have hfit : Fit s := fun {y c} hc i hi => by
    obtain ⟨ha, rfl⟩ := Array.getElem?_eq_some_iff.mp hc
    have q := List.all_eq_true.mp ((Array.all_eq_true_iff_forall_mem.mp hF) _ (Array.getElem_mem ha)) i (List.mem_range.mpr hi)
    simpa [Array.getElem?_eq_getElem hi] using q
  obtain ⟨i0, ei0⟩ := is_v g30
  obtain rfl : w0 = (.int i0) := Option.some.inj ei0
  obtain ⟨i1, ei1⟩ := is_v g32
  obtain rfl : w1 = (.int i1) := Option.some.inj ei1
  obtain ⟨i2, ei2⟩ := is_v g34
  obtain rfl : w2 = (.int i2) := Option.some.inj ei2
  obtain ⟨i3, ei3⟩ := is_v g36
  obtain rfl : w3 = (.int i3) := Option.some.inj ei3
  obtain ⟨i4, ei4⟩ := is_v g38
  obtain rfl : w4 = (.int i4) := Option.some.inj ei4
  obtain ⟨i5, ei5⟩ := is_v g39
  obtain rfl : w5 = (.int i5) := Option.some.inj ei5
  obtain ⟨nw0, nx0⟩ := and_e hn
  obtain ⟨nw1, nx1⟩ := and_e nx0
  obtain ⟨nw2, nx2⟩ := and_e nx1
  obtain ⟨nw3, nx3⟩ := and_e nx2
  obtain ⟨nw4, nx4⟩ := and_e nx3
  obtain ⟨nw5, nx5⟩ := and_e nx4
  obtain ⟨nw6, nx6⟩ := and_e nx5
  obtain ⟨nw7, nx7⟩ := and_e nx6
  obtain ⟨nw8, nx8⟩ := and_e nx7
  obtain ⟨nw9, nx9⟩ := and_e nx8
  obtain ⟨nw10, nx10⟩ := and_e nx9
  obtain ⟨nw11, nx11⟩ := and_e nx10
  obtain ⟨nw12, nx12⟩ := and_e nx11
  obtain ⟨nw13, nx13⟩ := and_e nx12
  obtain ⟨nw14, nx14⟩ := and_e nx13
  obtain ⟨nw15, nx15⟩ := and_e nx14
  obtain ⟨nw16, nx16⟩ := and_e nx15
  obtain ⟨nw17, nx17⟩ := and_e nx16
  obtain ⟨nw18, nx18⟩ := and_e nx17
  obtain ⟨nw19, nx19⟩ := and_e nx18
  obtain ⟨a_VALUES, ev_VALUES⟩ := arr_v nw0
  have S_VALUES := Sta.start ev_VALUES (Or.inr ⟨hw _ (List.mem_of_getElem? (i := 11) rfl), hw _ (List.mem_of_getElem? (i := 14) rfl)⟩)
  obtain ⟨cl_VALUES, Ar_VALUES⟩ := Arr.start ev_VALUES nw0
  have E_VALUES := Exa.start ev_VALUES nw1
  obtain ⟨a_ROOT, ev_ROOT⟩ := exa_v nw3
  have S_ROOT := Sta.start ev_ROOT (Or.inr ⟨hw _ (List.mem_of_getElem? (i := 11) rfl), hw _ (List.mem_of_getElem? (i := 22) rfl)⟩)
  have E_ROOT := Exa.start ev_ROOT nw3
  obtain ⟨a_PARENT, ev_PARENT⟩ := exa_v nw5
  have S_PARENT := Sta.start ev_PARENT (Or.inr ⟨hw _ (List.mem_of_getElem? (i := 11) rfl), hw _ (List.mem_of_getElem? (i := 23) rfl)⟩)
  have E_PARENT := Exa.start ev_PARENT nw5
  obtain ⟨a_MANDATORY, ev_MANDATORY⟩ := exa_v nw7
  have S_MANDATORY := Sta.start ev_MANDATORY (Or.inr ⟨hw _ (List.mem_of_getElem? (i := 11) rfl), hw _ (List.mem_of_getElem? (i := 24) rfl)⟩)
  have E_MANDATORY := Exa.start ev_MANDATORY nw7
  obtain ⟨a_GROUP_MIN, ev_GROUP_MIN⟩ := exa_v nw9
  have S_GROUP_MIN := Sta.start ev_GROUP_MIN (Or.inr ⟨hw _ (List.mem_of_getElem? (i := 11) rfl), hw _ (List.mem_of_getElem? (i := 25) rfl)⟩)
  have E_GROUP_MIN := Exa.start ev_GROUP_MIN nw9
  obtain ⟨a_GROUP_MAX, ev_GROUP_MAX⟩ := exa_v nw11
  have S_GROUP_MAX := Sta.start ev_GROUP_MAX (Or.inr ⟨hw _ (List.mem_of_getElem? (i := 11) rfl), hw _ (List.mem_of_getElem? (i := 26) rfl)⟩)
  have E_GROUP_MAX := Exa.start ev_GROUP_MAX nw11
  obtain ⟨a_CROSS_TREE, ev_CROSS_TREE⟩ := exa_v nw13
  have S_CROSS_TREE := Sta.start ev_CROSS_TREE (Or.inr ⟨hw _ (List.mem_of_getElem? (i := 11) rfl), hw _ (List.mem_of_getElem? (i := 27) rfl)⟩)
  have E_CROSS_TREE := Exa.start ev_CROSS_TREE nw13
  obtain ⟨SZ_VALUES, NG_VALUES, LT_VALUES, LE_VALUES⟩ := own_len ev_VALUES Ar_VALUES nw2
  have H_VALUES_0 := own_elem ev_VALUES Ar_VALUES ev_ROOT nw4
  have H_VALUES_1 := own_elem ev_VALUES Ar_VALUES ev_PARENT nw6
  have H_VALUES_2 := own_elem ev_VALUES Ar_VALUES ev_MANDATORY nw8
  have H_VALUES_3 := own_elem ev_VALUES Ar_VALUES ev_GROUP_MIN nw10
  have H_VALUES_4 := own_elem ev_VALUES Ar_VALUES ev_GROUP_MAX nw12
  have H_VALUES_5 := own_elem ev_VALUES Ar_VALUES ev_CROSS_TREE nw14
  have F_ROOT_ordinal := own_fldi ev_ROOT nw15
  have F_PARENT_ordinal := own_fldi ev_PARENT nw16
  have F_MANDATORY_ordinal := own_fldi ev_MANDATORY nw17
  have F_GROUP_MIN_ordinal := own_fldi ev_GROUP_MIN nw18
  have F_GROUP_MAX_ordinal := own_fldi ev_GROUP_MAX nw19
  have F_CROSS_TREE_ordinal := own_fldi ev_CROSS_TREE nx19
  have hcap : cl_VALUES.slots.size ≤ 6 := Nat.le_of_eq (by rw [SZ_VALUES]; rfl)
  obtain ⟨n, o, h1, h2, h3, _, L, rfl, ⟨rfl, N⟩, hq⟩ := rm0 l s _ hw tables_1 i0 i1 i2 i3 i4 i5 _ _ _ _ _ _ _ _ s.heap s.heap.size (Nat.le_refl _) S_ROOT S_PARENT S_MANDATORY S_GROUP_MIN S_GROUP_MAX S_CROSS_TREE (Old.start s) S_VALUES Ar_VALUES (FitC.start hfit Ar_VALUES) hcap E_VALUES SZ_VALUES E_ROOT F_ROOT_ordinal E_PARENT F_PARENT_ordinal E_MANDATORY F_MANDATORY_ordinal E_GROUP_MIN F_GROUP_MIN_ordinal E_GROUP_MAX F_GROUP_MAX_ordinal E_CROSS_TREE F_CROSS_TREE_ordinal p e ha hc hk s m _ below hf ((Spec.applies_iff_loose hf).mp happ).1 ⟨rfl, State.Warmed39.refl s, rfl⟩ trivial
  refine ⟨n, _, h1, h2, h3, hpost _ _ _ _ _ _ ⟨Cond.after_iff.mpr rfl, Cond.after_iff.mpr (eq_i res_at (Term.int_eval (1)) rfl), trivial⟩ ⟨hq.1, hq.2.1, (hq.2.2.sift fun y hy => Or.inr (N y hy)).mono (by decide) (by decide)⟩⟩
theorem main_1_1 : Claimed_1_1 := comes_1 fun _ _ _ _ _ _ h hF => ⟨h.1, hF⟩
theorem main_1_2 : Claimed_1_2 := comes_1 fun _ _ _ _ _ _ h hF => ⟨h.2.1, hF⟩

end Jvm.Pilot.@@N@@
namespace Jvm.Pilot.@@N@@
open Jvm Jvm.ClassFile Sem Op Lib Jvm.Free Jvm.Stand Jvm.Pilot.@@N@@.Jvm.D
/-! MADE BY PROGRAM (witnessworld.py) out of the Statement's table words and the real class files: 15 classes; the members and pool entries that the words name. The judged class is class 1, her method 1. -/
namespace start1
open Jvm.ClassFile
def u (s : String) : CpInfo := .utf8 (stringToUtf16 s)
/-- a pool by its gaps: so many unusable entries, then the entry; so many at the end -/
def gap : Nat → List CpInfo → List CpInfo
  | 0, r => r
  | n + 1, r => .unusable :: gap n r
def poolList (es : List (Nat × CpInfo)) (last : Nat) : List CpInfo := es.foldr (fun e r => gap e.1 (e.2 :: r)) (gap last [])
def pool (es : List (Nat × CpInfo)) (last : Nat) : Array CpInfo := ⟨poolList es last⟩
def fileOf (pool : Array CpInfo) (this : Nat) (attrs : Array Attribute := #[]) (ms : Array MethodInfo := #[]) (fl : Nat := 33) (sup : Nat := 0) (ifs : Array Nat := #[]) (fds : Array FieldInfo := #[]) : ClassFile where
  minorVersion := 0
  majorVersion := 65
  constantPool := pool
  accessFlags := fl
  thisClass := this
  superClass := sup
  interfaces := ifs
  fields := fds
  methods := ms
  attributes := attrs
def plain (name : String) (sup : Option ClassId) : Class where
  name := name
  kind := .ordinary
  loader := none
  accessFlags := 33
  super := sup
  interfaces := #[]
  cf := none
  fields := #[]
  methods := #[]
  instanceTypes := #[]
  staticTypes := #[]
  resolved := #[]
  callSites := []
  init := .initialized
  statics := none
  mirror := none

def pool0 : Array CpInfo := pool [(5, u "<init>"), (0, u "()V"), (1, .class_ 10), (1, u "java/lang/Object"), (85, u "clone"), (0, u "()Ljava/lang/Object;")] 26

def k0c0 : Code := { maxStack := 0, maxLocals := 1, code := object_method_1_code, exceptionTable := #[], attributes := #[] }
def k0m0 : Method := { name := "<init>", desc := "()V", sig := { parameters := [], returnType := none }, accessFlags := 1, code := some k0c0 }
def k0m1 : Method := { name := "clone", desc := "()Ljava/lang/Object;", sig := { parameters := [], returnType := some (.object "java/lang/Object") }, accessFlags := 260, code := none }
/-- java/lang/Object -/
def k0 : Class := { plain "java/lang/Object" none with
  accessFlags := 33
  interfaces := #[]
  cf := some (fileOf pool0 8 #[] #[{ accessFlags := 1, nameIndex := 5, descriptorIndex := 6, attributes := #[] }, { accessFlags := 260, nameIndex := 96, descriptorIndex := 97, attributes := #[] }] 33 0 #[] #[])
  fields := #[]
  methods := #[k0m0, k0m1]
  instanceTypes := #[]
  staticTypes := #[]
  resolved := Array.replicate 124 none
  statics := none }

def pool1 : Array CpInfo := pool [(2, .class_ 4), (0, .nameAndType 5 6), (0, u "java/lang/Object"), (0, u "<init>"), (0, u "()V"), (0, .class_ 8), (0, u "com/example/foreloom/foreloom/featuremodel/RuleTally"), (0, .methodref 7 3), (0, .fieldref 11 12), (0, .class_ 13), (0, .nameAndType 14 15), (0, u "com/example/foreloom/foreloom/featuremodel/RuleKind"), (0, u "ROOT"), (0, u "Lcom/example/foreloom/foreloom/featuremodel/RuleKind;"), (0, .methodref 7 17), (0, .nameAndType 18 19), (0, u "add"), (0, u "(Lcom/example/foreloom/foreloom/featuremodel/RuleKind;J)V"), (0, .fieldref 11 21), (0, .nameAndType 22 15), (0, u "PARENT"), (0, .fieldref 11 24), (0, .nameAndType 25 15), (0, u "MANDATORY"), (0, .fieldref 11 27), (0, .nameAndType 28 15), (0, u "GROUP_MIN"), (0, .fieldref 11 30), (0, .nameAndType 31 15), (0, u "GROUP_MAX"), (0, .fieldref 11 33), (0, .nameAndType 34 15), (0, u "CROSS_TREE"), (0, .methodref 7 36), (0, .nameAndType 37 38), (0, u "total"), (0, u "()I"), (0, .class_ 40), (0, u "com/example/foreloom/foreloom/featuremodel/RuleTallyTotalPinLaw"), (2, u "law"), (0, u "(IIIIII)Z")] 3

def k1m0 : Method := { name := "<init>", desc := "()V", sig := { parameters := [], returnType := none }, accessFlags := 1, code := none }
def k1c1 : Code := { maxStack := 4, maxLocals := 8, code := code, exceptionTable := #[], attributes := #[] }
def k1m1 : Method := { name := "law", desc := "(IIIIII)Z", sig := { parameters := [.int, .int, .int, .int, .int, .int], returnType := some .boolean }, accessFlags := 9, code := some k1c1 }
/-- com/example/foreloom/foreloom/featuremodel/RuleTallyTotalPinLaw -/
def k1 : Class := { plain "com/example/foreloom/foreloom/featuremodel/RuleTallyTotalPinLaw" (some 0) with
  accessFlags := 49
  interfaces := #[]
  cf := some (fileOf pool1 39 #[] #[{ accessFlags := 1, nameIndex := 5, descriptorIndex := 6, attributes := #[] }, { accessFlags := 9, nameIndex := 43, descriptorIndex := 44, attributes := #[] }] 49 2 #[] #[])
  fields := #[]
  methods := #[k1m0, k1m1]
  instanceTypes := #[]
  staticTypes := #[]
  resolved := Array.replicate 48 none
  statics := none }

def pool2 : Array CpInfo := pool [(1, .methodref 2 3), (0, .class_ 4), (0, .nameAndType 5 6), (0, u "java/lang/Object"), (0, u "<init>"), (0, u "()V"), (0, .methodref 8 9), (0, .class_ 10), (0, .nameAndType 11 12), (0, u "com/example/foreloom/foreloom/featuremodel/RuleKind"), (0, u "values"), (0, u "()[Lcom/example/foreloom/foreloom/featuremodel/RuleKind;"), (0, .fieldref 14 15), (0, .class_ 16), (0, .nameAndType 17 18), (0, u "com/example/foreloom/foreloom/featuremodel/RuleTally"), (0, u "counts"), (0, u "[I"), (0, .methodref 8 20), (0, .nameAndType 21 22), (0, u "ordinal"), (0, u "()I"), (0, .methodref 24 25), (0, .class_ 26), (0, .nameAndType 27 28), (0, u "java/lang/Math"), (0, u "toIntExact"), (0, u "(J)I"), (0, .methodref 24 30), (0, .nameAndType 31 32), (0, u "addExact"), (0, u "(II)I"), (2, u "add"), (0, u "(Lcom/example/foreloom/foreloom/featuremodel/RuleKind;J)V"), (2, u "total")] 4

def k2c0 : Code := { maxStack := 2, maxLocals := 1, code := prog_37_method_1_code, exceptionTable := #[], attributes := #[] }
def k2m0 : Method := { name := "<init>", desc := "()V", sig := { parameters := [], returnType := none }, accessFlags := 0, code := some k2c0 }
def k2c1 : Code := { maxStack := 5, maxLocals := 4, code := prog_37_method_2_code, exceptionTable := #[], attributes := #[] }
def k2m1 : Method := { name := "add", desc := "(Lcom/example/foreloom/foreloom/featuremodel/RuleKind;J)V", sig := { parameters := [(.object "com/example/foreloom/foreloom/featuremodel/RuleKind"), .long], returnType := none }, accessFlags := 0, code := some k2c1 }
def k2c2 : Code := { maxStack := 2, maxLocals := 6, code := prog_37_method_4_code, exceptionTable := #[], attributes := #[] }
def k2m2 : Method := { name := "total", desc := "()I", sig := { parameters := [], returnType := some .int }, accessFlags := 1, code := some k2c2 }
/-- com/example/foreloom/foreloom/featuremodel/RuleTally -/
def k2 : Class := { plain "com/example/foreloom/foreloom/featuremodel/RuleTally" (some 0) with
  accessFlags := 49
  interfaces := #[]
  cf := some (fileOf pool2 14 #[] #[{ accessFlags := 0, nameIndex := 5, descriptorIndex := 6, attributes := #[] }, { accessFlags := 0, nameIndex := 35, descriptorIndex := 36, attributes := #[] }, { accessFlags := 1, nameIndex := 39, descriptorIndex := 22, attributes := #[] }] 49 2 #[] #[{ accessFlags := 18, nameIndex := 17, descriptorIndex := 18, attributes := #[] }])
  fields := #[{ name := "counts", type := (.array .int), accessFlags := 18, slot := 0, constantValue := 0 }]
  methods := #[k2m0, k2m1, k2m2]
  instanceTypes := #[(.array .int)]
  staticTypes := #[]
  resolved := Array.replicate 44 none
  statics := none }

def pool3 : Array CpInfo := pool [(1, .class_ 2), (0, u "java/lang/constant/Constable"), (0, .class_ 4), (0, u "java/lang/Object")] 6

/-- java/lang/constant/Constable -/
def k3 : Class := { plain "java/lang/constant/Constable" (some 0) with
  accessFlags := 1537
  interfaces := #[]
  cf := some (fileOf pool3 1 #[] #[] 1537 3 #[] #[])
  fields := #[]
  methods := #[]
  instanceTypes := #[]
  staticTypes := #[]
  resolved := Array.replicate 11 none
  statics := none }

def pool4 : Array CpInfo := pool [(1, .class_ 2), (0, u "java/lang/Comparable"), (0, .class_ 4), (0, u "java/lang/Object")] 7

/-- java/lang/Comparable -/
def k4 : Class := { plain "java/lang/Comparable" (some 0) with
  accessFlags := 1537
  interfaces := #[]
  cf := some (fileOf pool4 1 #[] #[] 1537 3 #[] #[])
  fields := #[]
  methods := #[]
  instanceTypes := #[]
  staticTypes := #[]
  resolved := Array.replicate 12 none
  statics := none }

def pool5 : Array CpInfo := pool [(1, .class_ 2), (0, u "java/io/Serializable"), (0, .class_ 4), (0, u "java/lang/Object")] 2

/-- java/io/Serializable -/
def k5 : Class := { plain "java/io/Serializable" (some 0) with
  accessFlags := 1537
  interfaces := #[]
  cf := some (fileOf pool5 1 #[] #[] 1537 3 #[] #[])
  fields := #[]
  methods := #[]
  instanceTypes := #[]
  staticTypes := #[]
  resolved := Array.replicate 7 none
  statics := none }

def pool6 : Array CpInfo := pool [(2, .class_ 4), (1, u "java/lang/Enum"), (0, u "name"), (0, u "Ljava/lang/String;"), (0, .fieldref 2 8), (0, .nameAndType 9 10), (0, u "ordinal"), (0, u "I"), (1, .class_ 14), (1, u "java/lang/Object"), (4, u "hash"), (86, .class_ 108), (1, u "java/lang/Enum$EnumDesc"), (2, .class_ 112), (0, u "java/lang/constant/Constable"), (0, .class_ 114), (0, u "java/lang/Comparable"), (0, .class_ 116), (0, u "java/io/Serializable"), (9, u "()I")] 77

def k6c0 : Code := { maxStack := 1, maxLocals := 1, code := jdk_37_method_2_code, exceptionTable := #[], attributes := #[] }
def k6m0 : Method := { name := "ordinal", desc := "()I", sig := { parameters := [], returnType := some .int }, accessFlags := 17, code := some k6c0 }
/-- java/lang/Enum -/
def k6 : Class := { plain "java/lang/Enum" (some 0) with
  accessFlags := 1057
  interfaces := #[3, 4, 5]
  cf := some (fileOf pool6 2 #[.nestMembers #[106]] #[{ accessFlags := 17, nameIndex := 9, descriptorIndex := 126, attributes := #[] }] 1057 12 #[111, 113, 115] #[{ accessFlags := 18, nameIndex := 5, descriptorIndex := 6, attributes := #[] }, { accessFlags := 18, nameIndex := 9, descriptorIndex := 10, attributes := #[] }, { accessFlags := 2, nameIndex := 19, descriptorIndex := 10, attributes := #[] }])
  fields := #[{ name := "name", type := (.object "java/lang/String"), accessFlags := 18, slot := 0, constantValue := 0 }, { name := "ordinal", type := .int, accessFlags := 18, slot := 1, constantValue := 0 }, { name := "hash", type := .int, accessFlags := 2, slot := 2, constantValue := 0 }]
  methods := #[k6m0]
  instanceTypes := #[(.object "java/lang/String"), .int, .int]
  staticTypes := #[]
  resolved := Array.replicate 204 none
  statics := none }

def pool7 : Array CpInfo := pool [(1, .class_ 2), (0, u "com/example/foreloom/foreloom/featuremodel/RuleKind"), (2, u "ROOT"), (0, u "Lcom/example/foreloom/foreloom/featuremodel/RuleKind;"), (2, u "PARENT"), (2, u "MANDATORY"), (2, u "GROUP_MIN"), (2, u "GROUP_MAX"), (2, u "CROSS_TREE"), (0, .fieldref 1 23), (0, .nameAndType 24 25), (0, u "$VALUES"), (0, u "[Lcom/example/foreloom/foreloom/featuremodel/RuleKind;"), (0, .methodref 27 28), (0, .class_ 25), (0, .nameAndType 29 30), (0, u "clone"), (0, u "()Ljava/lang/Object;"), (1, .class_ 34), (1, u "java/lang/Enum"), (31, u "()[Lcom/example/foreloom/foreloom/featuremodel/RuleKind;"), (0, u "values")] 11

def k7c0 : Code := { maxStack := 1, maxLocals := 0, code := prog_36_method_1_code, exceptionTable := #[], attributes := #[] }
def k7m0 : Method := { name := "values", desc := "()[Lcom/example/foreloom/foreloom/featuremodel/RuleKind;", sig := { parameters := [], returnType := some (.array (.object "com/example/foreloom/foreloom/featuremodel/RuleKind")) }, accessFlags := 9, code := some k7c0 }
/-- com/example/foreloom/foreloom/featuremodel/RuleKind -/
def k7 : Class := { plain "com/example/foreloom/foreloom/featuremodel/RuleKind" (some 6) with
  accessFlags := 16433
  interfaces := #[]
  cf := some (fileOf pool7 1 #[] #[{ accessFlags := 9, nameIndex := 67, descriptorIndex := 66, attributes := #[] }] 16433 32 #[] #[{ accessFlags := 16409, nameIndex := 5, descriptorIndex := 6, attributes := #[] }, { accessFlags := 16409, nameIndex := 9, descriptorIndex := 6, attributes := #[] }, { accessFlags := 16409, nameIndex := 12, descriptorIndex := 6, attributes := #[] }, { accessFlags := 16409, nameIndex := 15, descriptorIndex := 6, attributes := #[] }, { accessFlags := 16409, nameIndex := 18, descriptorIndex := 6, attributes := #[] }, { accessFlags := 16409, nameIndex := 21, descriptorIndex := 6, attributes := #[] }, { accessFlags := 4122, nameIndex := 24, descriptorIndex := 25, attributes := #[] }])
  fields := #[{ name := "ROOT", type := (.object "com/example/foreloom/foreloom/featuremodel/RuleKind"), accessFlags := 16409, slot := 0, constantValue := 0 }, { name := "PARENT", type := (.object "com/example/foreloom/foreloom/featuremodel/RuleKind"), accessFlags := 16409, slot := 1, constantValue := 0 }, { name := "MANDATORY", type := (.object "com/example/foreloom/foreloom/featuremodel/RuleKind"), accessFlags := 16409, slot := 2, constantValue := 0 }, { name := "GROUP_MIN", type := (.object "com/example/foreloom/foreloom/featuremodel/RuleKind"), accessFlags := 16409, slot := 3, constantValue := 0 }, { name := "GROUP_MAX", type := (.object "com/example/foreloom/foreloom/featuremodel/RuleKind"), accessFlags := 16409, slot := 4, constantValue := 0 }, { name := "CROSS_TREE", type := (.object "com/example/foreloom/foreloom/featuremodel/RuleKind"), accessFlags := 16409, slot := 5, constantValue := 0 }, { name := "$VALUES", type := (.array (.object "com/example/foreloom/foreloom/featuremodel/RuleKind")), accessFlags := 4122, slot := 6, constantValue := 0 }]
  methods := #[k7m0]
  instanceTypes := #[(.object "java/lang/String"), .int, .int]
  staticTypes := #[(.object "com/example/foreloom/foreloom/featuremodel/RuleKind"), (.object "com/example/foreloom/foreloom/featuremodel/RuleKind"), (.object "com/example/foreloom/foreloom/featuremodel/RuleKind"), (.object "com/example/foreloom/foreloom/featuremodel/RuleKind"), (.object "com/example/foreloom/foreloom/featuremodel/RuleKind"), (.object "com/example/foreloom/foreloom/featuremodel/RuleKind"), (.array (.object "com/example/foreloom/foreloom/featuremodel/RuleKind"))]
  resolved := Array.replicate 79 none
  statics := some 0 }

def pool8 : Array CpInfo := pool [(1, .class_ 2), (0, u "java/lang/Cloneable"), (0, .class_ 4), (0, u "java/lang/Object")] 2

/-- java/lang/Cloneable -/
def k8 : Class := { plain "java/lang/Cloneable" (some 0) with
  accessFlags := 1537
  interfaces := #[]
  cf := some (fileOf pool8 1 #[] #[] 1537 3 #[] #[])
  fields := #[]
  methods := #[]
  instanceTypes := #[]
  staticTypes := #[]
  resolved := Array.replicate 7 none
  statics := none }

def pool9 : Array CpInfo := pool [(1, .class_ 2), (0, u "java/lang/Math"), (1, .class_ 6), (1, u "java/lang/Object"), (0, u "<init>"), (0, u "()V"), (89, .class_ 100), (1, u "java/lang/Math$RandomNumberGeneratorHolder"), (71, u "negativeZeroFloatBits"), (0, u "J"), (2, u "negativeZeroDoubleBits"), (68, u "$assertionsDisabled"), (0, u "Z"), (88, u "(II)I"), (2, u "twoToTheDoubleScaleDown"), (0, u "D"), (4, u "twoToTheDoubleScaleUp"), (9, u "E"), (3, u "PI"), (2, u "TAU"), (2, u "DEGREES_TO_RADIANS"), (0, u "RADIANS_TO_DEGREES"), (27, u "addExact"), (11, u "toIntExact"), (0, u "(J)I")] 53

def k9m0 : Method := { name := "<init>", desc := "()V", sig := { parameters := [], returnType := none }, accessFlags := 2, code := none }
def k9c1 : Code := { maxStack := 3, maxLocals := 3, code := jdk_29_method_24_code, exceptionTable := #[], attributes := #[] }
def k9m1 : Method := { name := "addExact", desc := "(II)I", sig := { parameters := [.int, .int], returnType := some .int }, accessFlags := 9, code := some k9c1 }
def k9c2 : Code := { maxStack := 4, maxLocals := 2, code := jdk_29_method_43_code, exceptionTable := #[], attributes := #[] }
def k9m2 : Method := { name := "toIntExact", desc := "(J)I", sig := { parameters := [.long], returnType := some .int }, accessFlags := 9, code := some k9c2 }
/-- java/lang/Math -/
def k9 : Class := { plain "java/lang/Math" (some 0) with
  accessFlags := 49
  interfaces := #[]
  cf := some (fileOf pool9 1 #[.nestMembers #[98]] #[{ accessFlags := 2, nameIndex := 7, descriptorIndex := 8, attributes := #[] }, { accessFlags := 9, nameIndex := 393, descriptorIndex := 335, attributes := #[] }, { accessFlags := 9, nameIndex := 405, descriptorIndex := 406, attributes := #[] }] 49 4 #[] #[{ accessFlags := 25, nameIndex := 354, descriptorIndex := 339, attributes := #[] }, { accessFlags := 25, nameIndex := 358, descriptorIndex := 339, attributes := #[] }, { accessFlags := 25, nameIndex := 361, descriptorIndex := 339, attributes := #[] }, { accessFlags := 26, nameIndex := 364, descriptorIndex := 339, attributes := #[] }, { accessFlags := 26, nameIndex := 365, descriptorIndex := 339, attributes := #[] }, { accessFlags := 26, nameIndex := 172, descriptorIndex := 173, attributes := #[] }, { accessFlags := 26, nameIndex := 176, descriptorIndex := 173, attributes := #[] }, { accessFlags := 8, nameIndex := 344, descriptorIndex := 339, attributes := #[] }, { accessFlags := 8, nameIndex := 338, descriptorIndex := 339, attributes := #[] }, { accessFlags := 4120, nameIndex := 245, descriptorIndex := 246, attributes := #[] }])
  fields := #[{ name := "E", type := .double, accessFlags := 25, slot := 0, constantValue := 0 }, { name := "PI", type := .double, accessFlags := 25, slot := 1, constantValue := 0 }, { name := "TAU", type := .double, accessFlags := 25, slot := 2, constantValue := 0 }, { name := "DEGREES_TO_RADIANS", type := .double, accessFlags := 26, slot := 3, constantValue := 0 }, { name := "RADIANS_TO_DEGREES", type := .double, accessFlags := 26, slot := 4, constantValue := 0 }, { name := "negativeZeroFloatBits", type := .long, accessFlags := 26, slot := 5, constantValue := 0 }, { name := "negativeZeroDoubleBits", type := .long, accessFlags := 26, slot := 6, constantValue := 0 }, { name := "twoToTheDoubleScaleUp", type := .double, accessFlags := 8, slot := 7, constantValue := 0 }, { name := "twoToTheDoubleScaleDown", type := .double, accessFlags := 8, slot := 8, constantValue := 0 }, { name := "$assertionsDisabled", type := .boolean, accessFlags := 4120, slot := 9, constantValue := 0 }]
  methods := #[k9m0, k9m1, k9m2]
  instanceTypes := #[]
  staticTypes := #[.double, .double, .double, .double, .double, .long, .long, .double, .double, .boolean]
  resolved := Array.replicate 460 none
  statics := none }

/-- the primitive byte -/
def k10 : Class := { plain "byte" none with kind := .primitive 'B', accessFlags := 0x411 }
/-- [B -/
def k11 : Class := { plain "[B" (some 0) with kind := .array 10 .byte, interfaces := #[8, 5], accessFlags := 1041 }

/-- the primitive int -/
def k12 : Class := { plain "int" none with kind := .primitive 'I', accessFlags := 0x411 }
/-- [I -/
def k13 : Class := { plain "[I" (some 0) with kind := .array 12 .int, interfaces := #[8, 5], accessFlags := 1041 }

/-- [Lcom/example/foreloom/foreloom/featuremodel/RuleKind; -/
def k14 : Class := { plain "[Lcom/example/foreloom/foreloom/featuremodel/RuleKind;" (some 0) with kind := .array 7 (.object "com/example/foreloom/foreloom/featuremodel/RuleKind"), interfaces := #[8, 5], accessFlags := 1041 }

def heap : Heap := #[{ cls := 7, slots := #[.ref 2, .ref 3, .ref 4, .ref 5, .ref 6, .ref 7, .ref 1], vm := .statics 7 },
  { cls := 14, slots := #[.ref 2, .ref 3, .ref 4, .ref 5, .ref 6, .ref 7], vm := .none },
  { cls := 7, slots := #[.null, .int 0, .int 0], vm := .none },
  { cls := 7, slots := #[.null, .int 1, .int 0], vm := .none },
  { cls := 7, slots := #[.null, .int 2, .int 0], vm := .none },
  { cls := 7, slots := #[.null, .int 3, .int 0], vm := .none },
  { cls := 7, slots := #[.null, .int 4, .int 0], vm := .none },
  { cls := 7, slots := #[.null, .int 5, .int 0], vm := .none }]
def classes : Array Class := #[k0, k1, k2, k3, k4, k5, k6, k7, k8, k9, k10, k11, k12, k13, k14]
def interned : List (Array UInt16 × Addr) := []
def slotsUsed : Nat := 31
def theMethod : MethodId := ⟨1, 1⟩
def args0 : Array Value := #[.int 1, .int 2, .int 3, .int 4, .int 5, .int 6]
def aboutOver (below : List Frame) : State where
  vm := { classes := classes, interned := interned.toArray }
  heap := heap
  slotsUsed := slotsUsed
  threads := #[{ frames := .invoking theMethod args0 :: below }]
def below0 : List Frame := [.native { method := ⟨0, 0⟩, args := #[] }]
def about1 : State := aboutOver below0
def p0 : Program := .bare "" "" ""
def e0 : Env := launch0.env 0 0 0
theorem w_frames : about1.frames = Frame.invoking theMethod args0 :: below0 := rfl
set_option maxRecDepth 65536 in
theorem w_args : argsFit about1.vm theMethod args0 = true := by decide +kernel
set_option maxRecDepth 65536 in
theorem w_heap : heapFits about1 = true := by decide +kernel
set_option maxRecDepth 65536 in
theorem w_runnable : about1.curStatus? = some .runnable := by decide +kernel
set_option maxRecDepth 65536 in
theorem w_alone : about1.alone = true := by decide +kernel
set_option maxRecDepth 65536 in
theorem w_named : about1.methodNamed? x = some theMethod := by decide +kernel
set_option maxRecDepth 65536 in
theorem w_hears : about1.hears theMethod below0 = true := by decide +kernel
set_option maxRecDepth 65536 in
theorem w_ripe : about1.ripe theMethod args0 below0 = true := by decide +kernel
theorem w_running : about1.status = .running := rfl
set_option maxRecDepth 65536 in
theorem w_room : about1.hasRoom e0.platform room_1 = true :=
  launch0.hasRoom_least _ room_1 (by decide +kernel) (by decide +kernel) (by decide +kernel) (by decide +kernel) (by decide +kernel) (by decide +kernel)
theorem allAtoms_all (ts : List Jvm.Cond) (a : Array Jvm.Value) (st : Jvm.State) : (allAtoms ts).before a st = ts.all (fun c => c.before a st) := by
  induction ts with
  | nil => rfl
  | cons c t ih =>
    show (Jvm.Cond.and c (allAtoms t)).before a st = _
    rw [Jvm.Cond.before_and, ih, List.all_cons]
def words1 : List Jvm.Cond := Jvm.Cond.code x code maxLocals ret :: tables_1
/-- a 'code' word, met by the world's own term for the bytes: nothing is compared byte by byte -/
theorem code_word {y : MethodName} {bytes : ByteArray} {mx : Nat} {rt : Option FieldType} {a : Array Value} {s : State} {m : MethodId} {meth : Method} {c : Code} (h1 : s.methodNamed? y = some m) (h2 : s.vm.method? m = some meth) (h3 : meth.code = some c) (h4 : c.code = bytes)
    (h5 : (c.maxLocals == mx && c.exceptionTable.isEmpty && decide (c.maxStack ≤ mostOperands) && decide (meth.sig.returnType = rt) && !meth.locks && decide (parseMethodDescriptor y.desc = some meth.sig)) = true) : (Jvm.Cond.code y bytes mx rt).before a s = true := by
  simp only [Bool.and_eq_true, beq_iff_eq, Bool.not_eq_true', decide_eq_true_eq] at h5
  obtain ⟨⟨⟨⟨⟨g1, g2⟩, g3⟩, g4⟩, g5⟩, g6⟩ := h5
  simp [Cond.before, Cond.holds, Cond.value, h1, h2, h3, h4, g1, g2, g3, g4, g5, g6]
def isCode : Jvm.Cond → Bool
  | .code _ _ _ _ => true
  | _ => false
theorem all_split {L : List Jvm.Cond} {P : Jvm.Cond → Bool} (h1 : L.all (fun c => isCode c || P c) = true) (h2 : ∀ c ∈ L.filter isCode, P c = true) : L.all P = true := by
  refine List.all_eq_true.mpr fun c hc => ?_
  have h := List.all_eq_true.mp h1 c hc
  rcases Bool.eq_false_or_eq_true (isCode c) with hi | hi
  · exact h2 c (List.mem_filter.mpr ⟨hc, hi⟩)
  · simpa [hi] using h
set_option maxRecDepth 65536 in
theorem w_c0 : (Jvm.Cond.code x code maxLocals ret).before args0 about1 = true := code_word (m := ⟨1, 1⟩) (meth := k1m1) (c := k1c1) (by decide +kernel) rfl rfl rfl (by decide +kernel)
set_option maxRecDepth 65536 in
theorem w_c1 : (Jvm.Cond.code ({ cls := "com/example/foreloom/foreloom/featuremodel/RuleTally", name := "<init>", desc := "()V" } : Jvm.MethodName) prog_37_method_1_code (1 : Nat) (Option.none : Option Jvm.ClassFile.FieldType)).before args0 about1 = true := code_word (m := ⟨2, 0⟩) (meth := k2m0) (c := k2c0) (by decide +kernel) rfl rfl rfl (by decide +kernel)
set_option maxRecDepth 65536 in
theorem w_c2 : (Jvm.Cond.code ({ cls := "java/lang/Object", name := "<init>", desc := "()V" } : Jvm.MethodName) object_method_1_code (1 : Nat) (Option.none : Option Jvm.ClassFile.FieldType)).before args0 about1 = true := code_word (m := ⟨0, 0⟩) (meth := k0m0) (c := k0c0) (by decide +kernel) rfl rfl rfl (by decide +kernel)
set_option maxRecDepth 65536 in
theorem w_c3 : (Jvm.Cond.code ({ cls := "com/example/foreloom/foreloom/featuremodel/RuleKind", name := "values", desc := "()[Lcom/example/foreloom/foreloom/featuremodel/RuleKind;" } : Jvm.MethodName) prog_36_method_1_code (0 : Nat) (Option.some (Jvm.ClassFile.FieldType.array (Jvm.ClassFile.FieldType.object "com/example/foreloom/foreloom/featuremodel/RuleKind")))).before args0 about1 = true := code_word (m := ⟨7, 0⟩) (meth := k7m0) (c := k7c0) (by decide +kernel) rfl rfl rfl (by decide +kernel)
set_option maxRecDepth 65536 in
theorem w_c4 : (Jvm.Cond.code ({ cls := "com/example/foreloom/foreloom/featuremodel/RuleTally", name := "add", desc := "(Lcom/example/foreloom/foreloom/featuremodel/RuleKind;J)V" } : Jvm.MethodName) prog_37_method_2_code (4 : Nat) (Option.none : Option Jvm.ClassFile.FieldType)).before args0 about1 = true := code_word (m := ⟨2, 1⟩) (meth := k2m1) (c := k2c1) (by decide +kernel) rfl rfl rfl (by decide +kernel)
set_option maxRecDepth 65536 in
theorem w_c5 : (Jvm.Cond.code ({ cls := "java/lang/Enum", name := "ordinal", desc := "()I" } : Jvm.MethodName) jdk_37_method_2_code (1 : Nat) (Option.some Jvm.ClassFile.FieldType.int)).before args0 about1 = true := code_word (m := ⟨6, 0⟩) (meth := k6m0) (c := k6c0) (by decide +kernel) rfl rfl rfl (by decide +kernel)
set_option maxRecDepth 65536 in
theorem w_c6 : (Jvm.Cond.code ({ cls := "java/lang/Math", name := "toIntExact", desc := "(J)I" } : Jvm.MethodName) jdk_29_method_43_code (2 : Nat) (Option.some Jvm.ClassFile.FieldType.int)).before args0 about1 = true := code_word (m := ⟨9, 2⟩) (meth := k9m2) (c := k9c2) (by decide +kernel) rfl rfl rfl (by decide +kernel)
set_option maxRecDepth 65536 in
theorem w_c7 : (Jvm.Cond.code ({ cls := "java/lang/Math", name := "addExact", desc := "(II)I" } : Jvm.MethodName) jdk_29_method_24_code (3 : Nat) (Option.some Jvm.ClassFile.FieldType.int)).before args0 about1 = true := code_word (m := ⟨9, 1⟩) (meth := k9m1) (c := k9c1) (by decide +kernel) rfl rfl rfl (by decide +kernel)
set_option maxRecDepth 65536 in
theorem w_c8 : (Jvm.Cond.code ({ cls := "com/example/foreloom/foreloom/featuremodel/RuleTally", name := "total", desc := "()I" } : Jvm.MethodName) prog_37_method_4_code (6 : Nat) (Option.some Jvm.ClassFile.FieldType.int)).before args0 about1 = true := code_word (m := ⟨2, 2⟩) (meth := k2m2) (c := k2c2) (by decide +kernel) rfl rfl rfl (by decide +kernel)
def codes1 : List Jvm.Cond := [Jvm.Cond.code x code maxLocals ret, Jvm.Cond.code ({ cls := "com/example/foreloom/foreloom/featuremodel/RuleTally", name := "<init>", desc := "()V" } : Jvm.MethodName) prog_37_method_1_code (1 : Nat) (Option.none : Option Jvm.ClassFile.FieldType), Jvm.Cond.code ({ cls := "java/lang/Object", name := "<init>", desc := "()V" } : Jvm.MethodName) object_method_1_code (1 : Nat) (Option.none : Option Jvm.ClassFile.FieldType), Jvm.Cond.code ({ cls := "com/example/foreloom/foreloom/featuremodel/RuleKind", name := "values", desc := "()[Lcom/example/foreloom/foreloom/featuremodel/RuleKind;" } : Jvm.MethodName) prog_36_method_1_code (0 : Nat) (Option.some (Jvm.ClassFile.FieldType.array (Jvm.ClassFile.FieldType.object "com/example/foreloom/foreloom/featuremodel/RuleKind"))), Jvm.Cond.code ({ cls := "com/example/foreloom/foreloom/featuremodel/RuleTally", name := "add", desc := "(Lcom/example/foreloom/foreloom/featuremodel/RuleKind;J)V" } : Jvm.MethodName) prog_37_method_2_code (4 : Nat) (Option.none : Option Jvm.ClassFile.FieldType), Jvm.Cond.code ({ cls := "java/lang/Enum", name := "ordinal", desc := "()I" } : Jvm.MethodName) jdk_37_method_2_code (1 : Nat) (Option.some Jvm.ClassFile.FieldType.int), Jvm.Cond.code ({ cls := "java/lang/Math", name := "toIntExact", desc := "(J)I" } : Jvm.MethodName) jdk_29_method_43_code (2 : Nat) (Option.some Jvm.ClassFile.FieldType.int), Jvm.Cond.code ({ cls := "java/lang/Math", name := "addExact", desc := "(II)I" } : Jvm.MethodName) jdk_29_method_24_code (3 : Nat) (Option.some Jvm.ClassFile.FieldType.int), Jvm.Cond.code ({ cls := "com/example/foreloom/foreloom/featuremodel/RuleTally", name := "total", desc := "()I" } : Jvm.MethodName) prog_37_method_4_code (6 : Nat) (Option.some Jvm.ClassFile.FieldType.int)]
set_option maxRecDepth 65536 in
theorem codes_eq : words1.filter isCode = codes1 := rfl
theorem w_codes : ∀ c ∈ words1.filter isCode, c.before args0 about1 = true := by
  rw [codes_eq]
  intro c hc
  simp only [codes1, List.mem_cons, List.not_mem_nil, or_false] at hc
  rcases hc with rfl | rfl | rfl | rfl | rfl | rfl | rfl | rfl | rfl
  · exact w_c0
  · exact w_c1
  · exact w_c2
  · exact w_c3
  · exact w_c4
  · exact w_c5
  · exact w_c6
  · exact w_c7
  · exact w_c8
set_option maxRecDepth 65536 in
theorem w_t1 : (words1.take 24).all (fun c => isCode c || c.before args0 about1) = true := by decide +kernel
set_option maxRecDepth 65536 in
theorem w_t2 : ((words1.drop 24).take 24).all (fun c => isCode c || c.before args0 about1) = true := by decide +kernel
set_option maxRecDepth 65536 in
theorem w_t3 : ((words1.drop 24).drop 24).all (fun c => isCode c || c.before args0 about1) = true := by decide +kernel
theorem w_tables : (allAtoms (Jvm.Cond.code x code maxLocals ret :: tables_1)).before args0 about1 = true := by
  rw [allAtoms_all]
  show words1.all (fun c => c.before args0 about1) = true
  refine all_split ?_ w_codes
  rw [← List.take_append_drop 24 words1, List.all_append, w_t1, ← List.take_append_drop 24 (words1.drop 24), List.all_append, w_t2, w_t3]
  rfl
set_option maxRecDepth 65536 in
theorem w_case : (Jvm.Cond.and given_1 narrow_1).before args0 about1 = true := by decide +kernel
theorem w_applies : (headSpec (Jvm.Cond.code x code maxLocals ret :: tables_1) room_1).applies x e0.platform about1 = true :=
  (Spec.applies_iff w_frames).mpr ⟨w_running, w_runnable, w_alone, w_named, w_hears, w_ripe, w_room, w_tables⟩
theorem atStart : AtStart classFile x code maxLocals ret World_1 tables_1 room_1 Calls_1 rest_1 Pre_1 launch0 p0 e0 about1 theMethod args0 below0 :=
  ⟨lists_1, trivial, launch0.admits_env _ _ _, launch0.least_env, fairChoices_fair.cas, fairChoices_fair.clock, w_frames, w_args, w_heap, w_applies, trivial, trivial, w_case⟩
end start1
theorem witness_1 : WitnessClaimed_1 := ⟨start1.p0, start1.e0, start1.about1, start1.theMethod, start1.args0, start1.below0, start1.atStart⟩
end Jvm.Pilot.@@N@@
