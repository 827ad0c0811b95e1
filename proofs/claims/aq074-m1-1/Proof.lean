import JvmDerived
import JvmDerived.Pilot.@@N@@Statement
import JvmDerived.Pilot.@@N@@Code
set_option linter.unusedVariables false
set_option linter.unusedSimpArgs false
namespace Jvm.RoadKit
open Sem ClassFile Op Lib Jvm.Stand Jvm.Free Jvm.LawKit
section New
variable {p : Program} {l : Launch} {e : Env} {R : Room} {s : State} {m : MethodId} {args : Array Value} {below : List Frame} {meth : Method} {c : Code} {T : State} {locs : List Loc} {cells slots : Nat}
theorem retI (X : Stand p l e R s m args below meth c T locs cells slots) (hx : p.tables.exec = Jvm.exec) {pc : Nat} {Ls : Array Slot} {z : Int32} {rest : List Value} (hret : meth.sig.returnType = some .int) (hd : decode c.code pc = .ok (.ireturn, 1)) {fs : List Frame}
    (hl : ∀ (f : JFrame) (acts : List Action), f.method = m → f.locked = none → f.entered = [] → (doReturn e (T.setTop f) acts (some (.int z))).1 = T.setFrames fs) : Steps p.tables e below (T.setTop (mkF m pc Ls (.int z :: rest))) (T.setFrames fs) := by
  have hm' : T.vm.method? m = some meth := X.method'
  have hn : narrow .int (.int z) = .int z := rfl
  show Steps p.tables e below (T.setTop { method := m, pc := pc, locals := Ls, stack := _ :: rest, locked := none }) _
  jvm_step X.here [X.here.top, hx, hd, hm', hret, hn]
  first | (intro acts; rw [hl _ acts rfl rfl rfl]) | rw [hl _ _ rfl rfl rfl]
  exact Steps.refl _
end New
end Jvm.RoadKit
namespace Jvm.Pilot.@@N@@
open Jvm Jvm.ClassFile Sem Op Lib Jvm.Free Jvm.Stand Jvm.LawKit Jvm.RoadKit Bundle Jvm.Pilot.@@N@@.Jvm.D

def own_QV (r : Option Value) (h0 : Heap) (n0 : Nat) (v : Option Value) (h : Heap) (L : List Loc) : Prop := v = r ∧ Fr n0 L ∧ h = h0
def own_QL (n0 : Nat) (v : Option Value) (h : Heap) (L : List Loc) : Prop := v = some (.int (1 : Int32)) ∧ Fr n0 L
theorem own_fldi {args : Array Value} {Z : State} {t : Term} {C n d : String} {k : Int32} {a : Addr} (ht : t.eval args Z none [] Z = some (.ref a)) (h : (Jvm.Cond.eq (.field t C n d) (.int k)).value args Z none Z [] = some true) : Fld Z Z.heap a C n d (.int k) := by
  obtain ⟨x, y, hx, hy, -, k2⟩ := cmp_v (Or.inl h)
  have hy' : y = .int k := by simpa [Term.eval] using hy.symm
  subst hy'
  obtain ⟨z, rfl⟩ := k2
  have e : z = k := by simpa [Cond.value, hx, hy] using h
  subst e
  exact Fld.start (by rw [← fld_at ht]; exact hx)

theorem own_fldr {args : Array Value} {Z : State} {t u : Term} {C n d : String} {a b : Addr} (ht : t.eval args Z none [] Z = some (.ref a)) (hu : u.eval args Z none [] Z = some (.ref b)) (h : (Jvm.Cond.eq (.field t C n d) u).value args Z none Z [] = some true) : Fld Z Z.heap a C n d (.ref b) := by
  obtain ⟨x, y, hx, hy, -, k2⟩ := cmp_v (Or.inl h)
  cases hu.symm.trans hy
  have e := gotT (eq_R hx hy k2.2 rfl) h
  subst e
  exact Fld.start (by rw [← fld_at ht]; exact hx)
theorem own_fld {args : Array Value} {Z : State} {t : Term} {C n d : String} {a : Addr} {v : Value} (ht : t.eval args Z none [] Z = some (.ref a)) (h : (Term.field t C n d).eval args Z none [] Z = some v) : Fld Z Z.heap a C n d v := Fld.start (by rw [← fld_at ht]; exact h)
theorem own_len {args : Array Value} {Z : State} {t : Term} {k : Int32} {a : Addr} {cl : Cell} {ty : FieldType} (ht : t.eval args Z none [] Z = some (.ref a)) (A : Arr Z Z.heap a cl ty) (h : (Jvm.Cond.eq (.length t) (.int k)).value args Z none Z [] = some true) : cl.slots.size = k.toNatClampNeg ∧ ¬ k < 0 ∧ cl.slots.size < 2 ^ 31 ∧ cl.slots.size.toInt32 = k := by
  have ha : Z.arrayAt? a = some cl := A.fin (Vm.Alike.refl _)
  obtain ⟨x, y, hx, hy, -, k2⟩ := cmp_v (Or.inl h)
  have hl : cl.slots.size < 2 ^ 31 := by
    by_cases q : cl.slots.size < 2 ^ 31
    · exact q
    · exfalso
      have q' : ¬ cl.slots.size < 2147483648 := q
      simp [Term.eval, ht, ha, q'] at hx
  have e := len_f (args := args) (first := Z) (o := none) (idx := []) ht ha hl
  have e2 : cl.slots.size.toInt32 = k := by
    have h' := h
    simp only [Cond.value, e, Term.int_eval] at h'
    simpa using h'
  subst e2
  have t1 : cl.slots.size.toInt32.toInt = cl.slots.size := len_toInt hl
  refine ⟨?_, ?_, hl, rfl⟩
  · show cl.slots.size = (cl.slots.size.toInt32.toInt).toNat
    rw [t1]; rfl
  · rw [Int32.lt_iff_toInt_lt, t1]
    show ¬ ((cl.slots.size : Int) < 0)
    omega

def own_QA (Z : State) (cl : Cell) (ty : FieldType) (ad : String) (h0 : Heap) (n0 : Nat) (v : Option Value) (h : Heap) (L : List Loc) : Prop := ∃ b : Addr, v = some (.ref b) ∧ Fr n0 L ∧ b = h0.size ∧ Ext h0 h ∧ Arr Z h b (cloneOf cl) ty ∧ Exa Z h b ad
def own_QE (r : Option Value) (h0 : Heap) (n0 : Nat) (v : Option Value) (h : Heap) (L : List Loc) : Prop := v = r ∧ Fr n0 L ∧ Ext h0 h
theorem own_elem {args : Array Value} {Z : State} {t u : Term} {k : Int32} {a b : Addr} {cl : Cell} {ty : FieldType} (ht : t.eval args Z none [] Z = some (.ref a)) (A : Arr Z Z.heap a cl ty) (hu : u.eval args Z none [] Z = some (.ref b)) (h : (Jvm.Cond.eq (.elem t (.int k)) u).value args Z none Z [] = some true) : cl.slots[k.toNatClampNeg]? = some (.ref b) := by
  obtain ⟨x, y, hx, hy, -, k2⟩ := cmp_v (Or.inl h)
  cases hu.symm.trans hy
  have e := gotT (eq_R hx hy k2.2 rfl) h
  subst e
  exact (elem_in hx ht (Term.int_eval k) A.1).2
theorem d6_0 : decode jdk_37_method_2_code 0 = .ok (.aload_n 0, 1) := by decide +kernel
theorem d6_1 : decode jdk_37_method_2_code 1 = .ok (.getfield 7, 3) := by decide +kernel
theorem d6_4 : decode jdk_37_method_2_code 4 = .ok (.ireturn, 1) := by decide +kernel
theorem pn_6 : plainName "java/lang/Enum" = true := by first | (simp [plainName, overriddenIn]; done) | decide +kernel
theorem ef_6 (m : MethodId) (x0 : Addr) : entryFrame m #[(.ref x0)] 1 = mkF m 0 #[.val (.ref x0)] [] := by first | (simp [entryFrame, mkF, argsToLocals, Value.category]; done) | rfl
theorem d5_0 : decode prog_46_method_1_code 0 = .ok (.getstatic 16, 3) := by decide +kernel
theorem d5_3 : decode prog_46_method_1_code 3 = .ok (.invokevirtual 20, 3) := by decide +kernel
theorem d5_6 : decode prog_46_method_1_code 6 = .ok (.checkcast 21, 3) := by decide +kernel
theorem d5_9 : decode prog_46_method_1_code 9 = .ok (.areturn, 1) := by decide +kernel
theorem pn_5 : plainName "com/example/kozir_tables/kozirtables/games/Seat" = true := by first | (simp [plainName, overriddenIn]; done) | decide +kernel
theorem ef_5 (m : MethodId)  : entryFrame m #[] 0 = mkF m 0 #[] [] := by first | (simp [entryFrame, mkF, argsToLocals, Value.category]; done) | rfl
theorem d4_0 : decode prog_46_method_4_code 0 = .ok (.invokestatic 35, 3) := by decide +kernel
theorem d4_3 : decode prog_46_method_4_code 3 = .ok (.astore_n 1, 1) := by decide +kernel
theorem d4_4 : decode prog_46_method_4_code 4 = .ok (.aload_n 1, 1) := by decide +kernel
theorem d4_5 : decode prog_46_method_4_code 5 = .ok (.aload_n 0, 1) := by decide +kernel
theorem d4_6 : decode prog_46_method_4_code 6 = .ok (.invokevirtual 39, 3) := by decide +kernel
theorem d4_9 : decode prog_46_method_4_code 9 = .ok (.iconst 1, 1) := by decide +kernel
theorem d4_10 : decode prog_46_method_4_code 10 = .ok (.iadd, 1) := by decide +kernel
theorem d4_11 : decode prog_46_method_4_code 11 = .ok (.aload_n 1, 1) := by decide +kernel
theorem d4_12 : decode prog_46_method_4_code 12 = .ok (.arraylength, 1) := by decide +kernel
theorem d4_13 : decode prog_46_method_4_code 13 = .ok (.irem, 1) := by decide +kernel
theorem d4_14 : decode prog_46_method_4_code 14 = .ok (.aaload, 1) := by decide +kernel
theorem d4_15 : decode prog_46_method_4_code 15 = .ok (.areturn, 1) := by decide +kernel
theorem pn_4 : plainName "com/example/kozir_tables/kozirtables/games/Seat" = true := by first | (simp [plainName, overriddenIn]; done) | decide +kernel
theorem pd_4_4 : parseMethodDescriptor "()[Lcom/example/kozir_tables/kozirtables/games/Seat;" = some ⟨[], some (.array (.object "com/example/kozir_tables/kozirtables/games/Seat"))⟩ := by decide +kernel
theorem pd_4_6 : parseMethodDescriptor "()I" = some ⟨[], some .int⟩ := by decide +kernel
theorem ef_4 (m : MethodId) (x0 : Addr) : entryFrame m #[(.ref x0)] 2 = mkF m 0 #[.val (.ref x0), .unset] [] := by first | (simp [entryFrame, mkF, argsToLocals, Value.category]; done) | rfl
theorem d1_0 : decode method_2_code 0 = .ok (.iload_n 0, 1) := by decide +kernel
theorem d1_1 : decode method_2_code 1 = .ok (.ifCond .ne 7, 3) := by decide +kernel
theorem d1_4 : decode method_2_code 4 = .ok (.getstatic 7, 3) := by decide +kernel
theorem d1_7 : decode method_2_code 7 = .ok (.areturn, 1) := by decide +kernel
theorem pn_1 : plainName "com/example/kozir_tables/kozirtables/games/SideOtherPinLaw" = true := by first | (simp [plainName, overriddenIn]; done) | decide +kernel
theorem ef_1 (m : MethodId) (x0 : Int32) : entryFrame m #[(.int x0)] 1 = mkF m 0 #[.val (.int x0)] [] := by first | (simp [entryFrame, mkF, argsToLocals, Value.category]; done) | rfl
theorem d1_8 : decode method_2_code 8 = .ok (.iload_n 0, 1) := by decide +kernel
theorem d1_9 : decode method_2_code 9 = .ok (.iconst 1, 1) := by decide +kernel
theorem d1_10 : decode method_2_code 10 = .ok (.if_icmp .ne 7, 3) := by decide +kernel
theorem d1_13 : decode method_2_code 13 = .ok (.getstatic 13, 3) := by decide +kernel
theorem d1_16 : decode method_2_code 16 = .ok (.areturn, 1) := by decide +kernel
theorem d1_17 : decode method_2_code 17 = .ok (.iload_n 0, 1) := by decide +kernel
theorem d1_18 : decode method_2_code 18 = .ok (.iconst 2, 1) := by decide +kernel
theorem d1_19 : decode method_2_code 19 = .ok (.if_icmp .ne 7, 3) := by decide +kernel
theorem d1_22 : decode method_2_code 22 = .ok (.getstatic 16, 3) := by decide +kernel
theorem d1_25 : decode method_2_code 25 = .ok (.areturn, 1) := by decide +kernel
theorem d1_26 : decode method_2_code 26 = .ok (.getstatic 19, 3) := by decide +kernel
theorem d1_29 : decode method_2_code 29 = .ok (.areturn, 1) := by decide +kernel
theorem d2_0 : decode prog_47_method_5_code 0 = .ok (.aload_n 0, 1) := by decide +kernel
theorem d2_1 : decode prog_47_method_5_code 1 = .ok (.getstatic 3, 3) := by decide +kernel
theorem d2_4 : decode prog_47_method_5_code 4 = .ok (.if_acmp .ne 9, 3) := by decide +kernel
theorem d2_7 : decode prog_47_method_5_code 7 = .ok (.getstatic 7, 3) := by decide +kernel
theorem d2_10 : decode prog_47_method_5_code 10 = .ok (.goto 6, 3) := by decide +kernel
theorem d2_16 : decode prog_47_method_5_code 16 = .ok (.areturn, 1) := by decide +kernel
theorem pn_2 : plainName "com/example/kozir_tables/kozirtables/games/Side" = true := by first | (simp [plainName, overriddenIn]; done) | decide +kernel
theorem ef_2 (m : MethodId) (x0 : Addr) : entryFrame m #[(.ref x0)] 1 = mkF m 0 #[.val (.ref x0)] [] := by first | (simp [entryFrame, mkF, argsToLocals, Value.category]; done) | rfl
theorem d2_13 : decode prog_47_method_5_code 13 = .ok (.getstatic 3, 3) := by decide +kernel
theorem d3_0 : decode prog_47_method_4_code 0 = .ok (.aload_n 0, 1) := by decide +kernel
theorem d3_1 : decode prog_47_method_4_code 1 = .ok (.getstatic 29, 3) := by decide +kernel
theorem d3_4 : decode prog_47_method_4_code 4 = .ok (.if_acmp .eq 10, 3) := by decide +kernel
theorem d3_14 : decode prog_47_method_4_code 14 = .ok (.getstatic 3, 3) := by decide +kernel
theorem d3_17 : decode prog_47_method_4_code 17 = .ok (.goto 6, 3) := by decide +kernel
theorem d3_23 : decode prog_47_method_4_code 23 = .ok (.areturn, 1) := by decide +kernel
theorem pn_3 : plainName "com/example/kozir_tables/kozirtables/games/Side" = true := by first | (simp [plainName, overriddenIn]; done) | decide +kernel
theorem ef_3 (m : MethodId) (x0 : Addr) : entryFrame m #[(.ref x0)] 1 = mkF m 0 #[.val (.ref x0)] [] := by first | (simp [entryFrame, mkF, argsToLocals, Value.category]; done) | rfl
theorem d3_7 : decode prog_47_method_4_code 7 = .ok (.aload_n 0, 1) := by decide +kernel
theorem d3_8 : decode prog_47_method_4_code 8 = .ok (.getstatic 35, 3) := by decide +kernel
theorem d3_11 : decode prog_47_method_4_code 11 = .ok (.if_acmp .ne 9, 3) := by decide +kernel
theorem d3_20 : decode prog_47_method_4_code 20 = .ok (.getstatic 7, 3) := by decide +kernel
theorem pn_0 : plainName "com/example/kozir_tables/kozirtables/games/SideOtherPinLaw" = true := by first | (simp [plainName, overriddenIn]; done) | decide +kernel
theorem pd_0_0 : parseMethodDescriptor "(I)Lcom/example/kozir_tables/kozirtables/games/Seat;" = some ⟨[.int], some (.object "com/example/kozir_tables/kozirtables/games/Seat")⟩ := by decide +kernel
theorem pd_0_1 : parseMethodDescriptor "()Lcom/example/kozir_tables/kozirtables/games/Side;" = some ⟨[], some (.object "com/example/kozir_tables/kozirtables/games/Side")⟩ := by decide +kernel
theorem pd_0_2 : parseMethodDescriptor "(Lcom/example/kozir_tables/kozirtables/games/Seat;)Lcom/example/kozir_tables/kozirtables/games/Side;" = some ⟨[(.object "com/example/kozir_tables/kozirtables/games/Seat")], some (.object "com/example/kozir_tables/kozirtables/games/Side")⟩ := by decide +kernel
theorem pd_0_3 : parseMethodDescriptor "()Lcom/example/kozir_tables/kozirtables/games/Seat;" = some ⟨[], some (.object "com/example/kozir_tables/kozirtables/games/Seat")⟩ := by decide +kernel
theorem ef_0 (m : MethodId) (x0 : Int32) (x1 : Int32) : entryFrame m #[(.int x0), (.int x1)] maxLocals = mkF m 0 #[.val (.int x0), .val (.int x1), .unset, .unset, .unset, .unset, .unset, .unset, .unset, .unset] [] := by first | (simp [entryFrame, mkF, argsToLocals, Value.category, maxLocals]; done) | rfl
set_option maxRecDepth 65536 in
set_option maxHeartbeats 40000000 in
theorem rm6 (l : Launch) (Z : State) (a0 : Array Value) (hw : ∀ d ∈ tables_1, d.before a0 Z = true) (ws : List Jvm.Cond) (a1 : Addr) (w2 : Int32) (h0 : Heap) (n0 : Nat) (Z0 : n0 ≤ h0.size) (F_ordinal_a1 : Fld Z h0 a1 "java/lang/Enum" "ordinal" "I" (.int w2)) :
    MetFree l (⟨"java/lang/Enum", "ordinal", "()I"⟩ : MethodName) (head1 (Jvm.Cond.code (⟨"java/lang/Enum", "ordinal", "()I"⟩ : MethodName) jdk_37_method_2_code 1 (some .int) :: ws) ({ frames := 0, cells := 0, slots := 0, locals := 0 } : Room)) (fun a U => a = #[(.ref a1)] ∧ Z.Warmed39 U.vm ∧ U.heap = h0) (fun _ _ _ _ _ => True) (fun _ U o U' => ∃ v L, o = .returned v ∧ own_QV (some (.int w2)) h0 n0 v U'.heap L ∧ FrameEnd U o U' L ({ frames := 0, cells := 0, slots := 0, locals := 0 } : Room).cells ({ frames := 0, cells := 0, slots := 0, locals := 0 } : Room).slots) := by
  refine MetFree.of_bodySF (plainFor_of_name pn_6) hisR ?_
  intro p e s m args below meth c s₁ Bd hml0 hP hK
  obtain ⟨rfl, hZ, hh⟩ := hP
  have hx := Bd.exec
  have hby := Bd.bytes
  have hml : c.maxLocals = 1 := hml0
  have hown : s.vm.findClass "java/lang/Enum" = some m.cls := findClass_of_methodNamed Bd.named
  have hnm := (name_of_methodNamed Bd.named Bd.method).1
  have X0 : Stand p l e ({ frames := 0, cells := 0, slots := 0, locals := 0 } : Room) s m #[(.ref a1)] below meth c s₁ [] 0 0 := Stand.of_body Bd
  have e0 : s₁.heap = h0 := by rw [← hh, Bd.state]; rfl
  have N0 := Fr.nil n0
  have pre0 : ∀ t, Steps p.tables e below (s₁.setTop (mkF m 0 #[.val (.ref a1)] [])) t → Steps p.tables e below (s₁.setTop (entryFrame m #[(.ref a1)] 1)) t := fun t k => castTop (ef_6 m a1) k
  obtain ⟨T3, X3, e3, st3⟩ := getF X0 hx hZ hown (host := "") (Or.inl (hw _ (List.mem_of_getElem? (i := 53) rfl))) Via.refl e0 F_ordinal_a1 (g := (mkF m 1 #[.val (.ref a1)] [(.ref a1)])) rfl rfl (hb hby d6_1)
  obtain ⟨fs, hr, hrun, hended, hW, hsame⟩ := X3.leave (v := some (.int w2)) (fun h => by rw [Bd.returns] at h; cases h)
  refine ⟨_, _, pre0 _ ?_, hrun, hended, _, _, rfl, ?_, ⟨_, rfl⟩, hW, hsame.mono (by decide) (by decide)⟩
  · show Steps p.tables e below (s₁.setTop (mkF m 0 #[.val (.ref a1)] [])) _
    refine XS.aloadN X0.here hx rfl (hb hby d6_0) rfl rfl ?_
    show Steps p.tables e below (s₁.setTop (mkF m 1 #[.val (.ref a1)] [(.ref a1)])) _
    refine st3 _ ?_
    show Steps p.tables e below (T3.setTop (mkF m 4 #[.val (.ref a1)] [(.int w2)])) _
    exact retI X3 hx Bd.returns (hb hby d6_4) hr      -- retI stands in the head ('lawwalk <made dir>' prints it)
  · show own_QV (some (.int w2)) h0 n0 _ T3.heap _
    rw [e3]
    exact ⟨rfl, N0, rfl⟩
set_option maxRecDepth 65536 in
set_option maxHeartbeats 40000000 in
theorem rm5 (l : Launch) (Z : State) (a0 : Array Value) (hw : ∀ d ∈ tables_1, d.before a0 Z = true) (ws : List Jvm.Cond) (w1 : Addr) (cl_w1 : Cell) (h0 : Heap) (n0 : Nat) (Z0 : n0 ≤ h0.size) (S__VALUES : Sta Z h0 "com/example/kozir_tables/kozirtables/games/Seat" "$VALUES" "[Lcom/example/kozir_tables/kozirtables/games/Seat;" (.ref w1)) (Ar_w1 : Arr Z h0 w1 cl_w1 (.object "com/example/kozir_tables/kozirtables/games/Seat")) (Fc_w1 : FitC Z cl_w1) (hcap_w1 : cl_w1.slots.size ≤ 4) (E_w1 : Exa Z h0 w1 "[Lcom/example/kozir_tables/kozirtables/games/Seat;") :
    MetFree l (⟨"com/example/kozir_tables/kozirtables/games/Seat", "values", "()[Lcom/example/kozir_tables/kozirtables/games/Seat;"⟩ : MethodName) (head1 (Jvm.Cond.code (⟨"com/example/kozir_tables/kozirtables/games/Seat", "values", "()[Lcom/example/kozir_tables/kozirtables/games/Seat;"⟩ : MethodName) prog_46_method_1_code 0 (some (.array (.object "com/example/kozir_tables/kozirtables/games/Seat"))) :: ws) ({ frames := 1, cells := 1, slots := 4, locals := 14 } : Room)) (fun a U => a = #[] ∧ Z.Warmed39 U.vm ∧ U.heap = h0) (fun _ _ _ _ _ => True) (fun _ U o U' => ∃ v L, o = .returned v ∧ own_QA Z cl_w1 (.object "com/example/kozir_tables/kozirtables/games/Seat") "[Lcom/example/kozir_tables/kozirtables/games/Seat;" h0 n0 v U'.heap L ∧ FrameEnd U o U' L ({ frames := 1, cells := 1, slots := 4, locals := 14 } : Room).cells ({ frames := 1, cells := 1, slots := 4, locals := 14 } : Room).slots) := by
  refine MetFree.of_bodySF (plainFor_of_name pn_5) hisR ?_
  intro p e s m args below meth c s₁ Bd hml0 hP hK
  obtain ⟨rfl, hZ, hh⟩ := hP
  have hx := Bd.exec
  have hby := Bd.bytes
  have hml : c.maxLocals = 0 := hml0
  have hown : s.vm.findClass "com/example/kozir_tables/kozirtables/games/Seat" = some m.cls := findClass_of_methodNamed Bd.named
  have hnm := (name_of_methodNamed Bd.named Bd.method).1
  have X0 : Stand p l e ({ frames := 1, cells := 1, slots := 4, locals := 14 } : Room) s m #[] below meth c s₁ [] 0 0 := Stand.of_body Bd
  have e0 : s₁.heap = h0 := by rw [← hh, Bd.state]; rfl
  have N0 := Fr.nil n0
  have pre0 : ∀ t, Steps p.tables e below (s₁.setTop (mkF m 0 #[] [])) t → Steps p.tables e below (s₁.setTop (entryFrame m #[] 0)) t := fun t k => castTop (ef_5 m ) k
  obtain ⟨T2, X2, e2, st2⟩ := getS2 X0 hx hZ hown (host := "") (Or.inl (hw _ (List.mem_of_getElem? (i := 33) rfl))) Via.refl e0 S__VALUES (g := (mkF m 0 #[] [])) rfl (hb hby d5_0)
  obtain ⟨T3, h3, X3, e3, E3, A3, B3, st3⟩ := cloneA X2 hx hZ hown (hw _ (List.mem_of_getElem? (i := 35) rfl)) (hw _ (List.mem_of_getElem? (i := 36) rfl)) (hw _ (List.mem_of_getElem? (i := 40) rfl)) (hw _ (List.mem_of_getElem? (i := 38) rfl)) (hw _ (List.mem_of_getElem? (i := 39) rfl)) (hw _ (List.mem_of_getElem? (i := 41) rfl)) e2 Ar_w1 E_w1 Fc_w1 (g := (mkF m 3 #[] [(.ref w1)])) rfl (by rw [hml]; rfl) rfl (hb hby d5_3) (by decide) (W := 0) (by show 2 * 0 + _ ≤ _; exact Nat.le_of_eq rfl) (by decide) (cap := 4) hcap_w1 (by decide) (by decide)
  obtain ⟨b3, g3⟩ : ∃ z, z = h0.size := ⟨_, rfl⟩
  rw [← g3] at A3 B3 st3
  have g_b3 : n0 ≤ b3 := Nat.le_trans Z0 (Nat.le_of_eq g3.symm)
  have K3 : Keep h0 h3 [] := (Keep.refl h0 []).ext E3
  obtain ⟨T4, X4, e4, st4⟩ := castY X3 hx hZ hown (hw _ (List.mem_of_getElem? (i := 44) rfl)) e3 (Ins.self B3) (g := (mkF m 6 #[] [(.ref b3)])) rfl rfl (hb hby d5_6)
  obtain ⟨fs, hr, hrun, hended, hW, hsame⟩ := X4.leave (v := some (.ref b3)) (fun h => by rw [Bd.returns] at h; cases h)
  refine ⟨_, _, pre0 _ ?_, hrun, hended, _, _, rfl, ?_, ⟨_, rfl⟩, hW, hsame.mono (by decide) (by decide)⟩
  · show Steps p.tables e below (s₁.setTop (mkF m 0 #[] [])) _
    refine st2 _ ?_
    show Steps p.tables e below (T2.setTop (mkF m 3 #[] [(.ref w1)])) _
    refine st3 _ ?_
    show Steps p.tables e below (T3.setTop (mkF m 6 #[] [(.ref b3)])) _
    refine st4 _ ?_
    show Steps p.tables e below (T4.setTop (mkF m 9 #[] [(.ref b3)])) _
    jvm_step X4.here [X4.here.top, hx, (hb hby d5_9), X4.method', Bd.returns, Value.isRef, FieldType.isReference]
    first | (intro acts; rw [hr _ acts rfl rfl rfl]) | rw [hr _ _ rfl rfl rfl]
    exact Steps.refl _
  · show own_QA Z cl_w1 (.object "com/example/kozir_tables/kozirtables/games/Seat") "[Lcom/example/kozir_tables/kozirtables/games/Seat;" h0 n0 _ T4.heap _
    rw [e4]
    exact ⟨_, rfl, N0, g3, E3, A3, B3⟩
set_option maxRecDepth 65536 in
set_option maxHeartbeats 40000000 in
theorem rm4 (l : Launch) (Z : State) (a0 : Array Value) (hw : ∀ d ∈ tables_1, d.before a0 Z = true) (ws : List Jvm.Cond) (a1 : Addr) (wv : Addr) (cl : Cell) (ov : Int32) (w4 : Addr) (h0 : Heap) (n0 : Nat) (Z0 : n0 ≤ h0.size) (E_a1 : Exa Z h0 a1 "com/example/kozir_tables/kozirtables/games/Seat") (Fo : Fld Z h0 a1 "java/lang/Enum" "ordinal" "I" (.int ov)) (Sv : Sta Z h0 "com/example/kozir_tables/kozirtables/games/Seat" "$VALUES" "[Lcom/example/kozir_tables/kozirtables/games/Seat;" (.ref wv)) (Av : Arr Z h0 wv cl (.object "com/example/kozir_tables/kozirtables/games/Seat")) (Fc : FitC Z cl) (hcap : cl.slots.size ≤ 4) (Ev : Exa Z h0 wv "[Lcom/example/kozir_tables/kozirtables/games/Seat;") (Sz : cl.slots.size = (4 : Int32).toNatClampNeg) (Hin : ¬ (((ov + (1 : Int32)) % (4 : Int32)) < 0 ∨ cl.slots.size ≤ (((ov + (1 : Int32)) % (4 : Int32))).toNatClampNeg)) (Hat : cl.slots[(((ov + (1 : Int32)) % (4 : Int32))).toNatClampNeg]? = some (.ref w4)) :
    MetFree l (⟨"com/example/kozir_tables/kozirtables/games/Seat", "next", "()Lcom/example/kozir_tables/kozirtables/games/Seat;"⟩ : MethodName) (head1 (Jvm.Cond.code (⟨"com/example/kozir_tables/kozirtables/games/Seat", "next", "()Lcom/example/kozir_tables/kozirtables/games/Seat;"⟩ : MethodName) prog_46_method_4_code 2 (some (.object "com/example/kozir_tables/kozirtables/games/Seat")) :: ws) ({ frames := 2, cells := 1, slots := 4, locals := 25 } : Room)) (fun a U => a = #[(.ref a1)] ∧ Z.Warmed39 U.vm ∧ U.heap = h0) (fun _ _ _ _ _ => True) (fun _ U o U' => ∃ v L, o = .returned v ∧ own_QE (some (.ref w4)) h0 n0 v U'.heap L ∧ FrameEnd U o U' L ({ frames := 2, cells := 1, slots := 4, locals := 25 } : Room).cells ({ frames := 2, cells := 1, slots := 4, locals := 25 } : Room).slots) := by
  refine MetFree.of_bodySF (plainFor_of_name pn_4) hisR ?_
  intro p e s m args below meth c s₁ Bd hml0 hP hK
  obtain ⟨rfl, hZ, hh⟩ := hP
  have hx := Bd.exec
  have hby := Bd.bytes
  have hml : c.maxLocals = 2 := hml0
  have hown : s.vm.findClass "com/example/kozir_tables/kozirtables/games/Seat" = some m.cls := findClass_of_methodNamed Bd.named
  have hnm := (name_of_methodNamed Bd.named Bd.method).1
  have X0 : Stand p l e ({ frames := 2, cells := 1, slots := 4, locals := 25 } : Room) s m #[(.ref a1)] below meth c s₁ [] 0 0 := Stand.of_body Bd
  have e0 : s₁.heap = h0 := by rw [← hh, Bd.state]; rfl
  have N0 := Fr.nil n0
  have pre0 : ∀ t, Steps p.tables e below (s₁.setTop (mkF m 0 #[.val (.ref a1), .unset] [])) t → Steps p.tables e below (s₁.setTop (entryFrame m #[(.ref a1)] 2)) t := fun t k => castTop (ef_4 m a1) k
  obtain ⟨_, _, ⟨T2, L2, k2, n2⟩, -, X2, ⟨Lc2, hQ2, l2, y2, z2⟩, st2⟩ := Jvm.LawKit.callS X0 hx (y := (⟨"com/example/kozir_tables/kozirtables/games/Seat", "values", "()[Lcom/example/kozir_tables/kozirtables/games/Seat;"⟩ : MethodName)) hown (mvT hZ (hw _ (List.mem_of_getElem? (i := 30) rfl))) (mvT hZ (hw _ (List.mem_of_getElem? (i := 31) rfl))) (mvT hZ (hw _ (List.mem_of_getElem? (i := 8) rfl))) (mvT hZ (hw _ (List.mem_of_getElem? (i := 32) rfl))) (by decide) (backOf (W := 0) (rm5 l Z a0 hw []  wv cl h0 n0 Z0 Sv Av Fc hcap Ev) hZ (hw _ (List.mem_of_getElem? (i := 32) rfl)) (hw _ (List.mem_of_getElem? (i := 8) rfl)) (by decide) (by decide)) (g := (mkF m 0 #[.val (.ref a1), .unset] [])) rfl (by rw [hml]; rfl) (argsL := []) (rest := []) (lenOf pd_4_4 rfl) rfl (by show 2 * 0 + _ ≤ _; exact Nat.le_of_eq rfl) (hb hby d4_0) (fun _ _ => ⟨rfl, e0, (Nat.le_of_ble_eq_true rfl), (Nat.le_of_ble_eq_true rfl)⟩)
  dsimp only [Pt.U, Pt.locs, Pt.cells, Pt.slots] at X2 l2 y2 z2 st2 hQ2
  subst l2 y2 z2
  obtain ⟨vb, rfl, N2q, gvb, EX2, Ar_vb, EE2⟩ := hQ2
  have KC2 : Keep h0 T2.heap [] := (Keep.refl _ _).ext EX2
  have N2 := Fr.app N0 N2q
  obtain ⟨cq3, kq3, q3a, q3b, q3c⟩ := isOf hZ rfl (E_a1.keep KC2)
  obtain ⟨_, _, ⟨T3, L3, k3, n3⟩, -, X3, ⟨Lc3, hQ3, l3, y3, z3⟩, st3⟩ := X2.virtualBackUp hx (x := (⟨"com/example/kozir_tables/kozirtables/games/Seat", "ordinal", "()I"⟩ : MethodName)) (y := (⟨"java/lang/Enum", "ordinal", "()I"⟩ : MethodName)) (owner := "java/lang/Enum") hown (mvT hZ (hw _ (List.mem_of_getElem? (i := 46) rfl))) (mvT hZ (hw _ (List.mem_of_getElem? (i := 47) rfl))) (mvT hZ (hw _ (List.mem_of_getElem? (i := 48) rfl))) (by decide) (mvT hZ (hw _ (List.mem_of_getElem? (i := 50) rfl))) (mvT hZ (hw _ (List.mem_of_getElem? (i := 49) rfl))) (backOf (W := 1) (rm6 l Z a0 hw [] a1 ov T2.heap n0 (Nat.le_trans Z0 KC2.1) (Fo.ext EX2)) hZ (hw _ (List.mem_of_getElem? (i := 52) rfl)) (hw _ (List.mem_of_getElem? (i := 51) rfl)) (by decide) (by decide)) q3a q3c (g := (mkF m 6 #[.val (.ref a1), .val (.ref vb)] [(.ref a1), (.ref vb)])) rfl (by rw [hml]; rfl) (Steps.refl _) (argsL := []) (rest := [(.ref vb)]) (lenOf pd_4_6 rfl) rfl (by show 2 * 0 + _ ≤ _; exact Nat.le_of_eq rfl) (hb hby d4_6) (fun _ _ => ⟨rfl, rfl, (Nat.le_of_ble_eq_true rfl), (Nat.le_of_ble_eq_true rfl)⟩)
  dsimp only [Pt.U, Pt.locs, Pt.cells, Pt.slots] at X3 l3 y3 z3 st3 hQ3
  subst l3 y3 z3
  obtain ⟨rfl, N3q, eh3⟩ := hQ3
  have N3 := Fr.app N2 N3q
  obtain ⟨fs, hr, hrun, hended, hW, hsame⟩ := X3.leave (v := some (.ref w4)) (fun h => by rw [Bd.returns] at h; cases h)
  refine ⟨_, _, pre0 _ ?_, hrun, hended, _, _, rfl, ?_, ⟨_, rfl⟩, hW, hsame.mono (by decide) (by decide)⟩
  · show Steps p.tables e below (s₁.setTop (mkF m 0 #[.val (.ref a1), .unset] [])) _
    refine st2 _ ?_
    show Steps p.tables e below (T2.setTop (mkF m 3 #[.val (.ref a1), .unset] [(.ref vb)])) _
    refine XS.astoreN X2.here hx rfl (hb hby d4_3) rfl rfl (l' := #[.val (.ref a1), .val (.ref vb)]) rfl ?_
    show Steps p.tables e below (T2.setTop (mkF m 4 #[.val (.ref a1), .val (.ref vb)] [])) _
    refine XS.aloadN X2.here hx rfl (hb hby d4_4) rfl rfl ?_
    show Steps p.tables e below (T2.setTop (mkF m 5 #[.val (.ref a1), .val (.ref vb)] [(.ref vb)])) _
    refine XS.aloadN X2.here hx rfl (hb hby d4_5) rfl rfl ?_
    show Steps p.tables e below (T2.setTop (mkF m 6 #[.val (.ref a1), .val (.ref vb)] [(.ref a1), (.ref vb)])) _
    refine st3.trans ?_
    show Steps p.tables e below (T3.setTop (mkF m 9 #[.val (.ref a1), .val (.ref vb)] [(.int ov), (.ref vb)])) _
    refine XS.iconst X3.here hx rfl (hb hby d4_9) ?_
    show Steps p.tables e below (T3.setTop (mkF m 10 #[.val (.ref a1), .val (.ref vb)] [(.int (1 : Int32)), (.int ov), (.ref vb)])) _
    refine XS.iadd X3.here hx rfl (hb hby d4_10) rfl ?_
    show Steps p.tables e below (T3.setTop (mkF m 11 #[.val (.ref a1), .val (.ref vb)] [(.int (ov + (1 : Int32))), (.ref vb)])) _
    refine XS.aloadN X3.here hx rfl (hb hby d4_11) rfl rfl ?_
    show Steps p.tables e below (T3.setTop (mkF m 12 #[.val (.ref a1), .val (.ref vb)] [(.ref vb), (.int (ov + (1 : Int32))), (.ref vb)])) _
    refine X3.arraylength hx (by rw [eh3]; exact Ar_vb.1) (State.isArrayOf_alike hZ.alike Ar_vb.2.1) (g := (mkF m 12 #[.val (.ref a1), .val (.ref vb)] [(.ref vb), (.int (ov + (1 : Int32))), (.ref vb)])) rfl rfl (hb hby d4_12) _ ?_
    rw [len_of Sz (by decide)]
    show Steps p.tables e below (T3.setTop (mkF m 13 #[.val (.ref a1), .val (.ref vb)] [(.int (4 : Int32)), (.int (ov + (1 : Int32))), (.ref vb)])) _
    refine iremM X3 hx rfl (hb hby d4_13) rfl (by decide) ?_
    show Steps p.tables e below (T3.setTop (mkF m 14 #[.val (.ref a1), .val (.ref vb)] [(.int ((ov + (1 : Int32)) % (4 : Int32))), (.ref vb)])) _
    refine X3.aaload hx (j := ((ov + (1 : Int32)) % (4 : Int32))) (v := (.ref w4)) (by rw [eh3]; exact Ar_vb.1) (State.isArrayOf_alike hZ.alike Ar_vb.2.1) rfl Ar_vb.2.2 Hin Hat (g := (mkF m 14 #[.val (.ref a1), .val (.ref vb)] [(.int ((ov + (1 : Int32)) % (4 : Int32))), (.ref vb)])) rfl rfl (hb hby d4_14) _ ?_
    show Steps p.tables e below (T3.setTop (mkF m 15 #[.val (.ref a1), .val (.ref vb)] [(.ref w4)])) _
    jvm_step X3.here [X3.here.top, hx, (hb hby d4_15), X3.method', Bd.returns, Value.isRef, FieldType.isReference]
    first | (intro acts; rw [hr _ acts rfl rfl rfl]) | rw [hr _ _ rfl rfl rfl]
    exact Steps.refl _
  · show own_QE (some (.ref w4)) h0 n0 _ T3.heap _
    rw [eh3]
    exact ⟨rfl, N3, EX2⟩
set_option maxRecDepth 65536 in
set_option maxHeartbeats 40000000 in
theorem rm1_f (l : Launch) (Z : State) (a0 : Array Value) (hw : ∀ d ∈ tables_1, d.before a0 Z = true) (ws : List Jvm.Cond) (p1 : Int32) (w2 : Addr) (h0 : Heap) (n0 : Nat) (Z0 : n0 ≤ h0.size) (S_N : Sta Z h0 "com/example/kozir_tables/kozirtables/games/Seat" "N" "Lcom/example/kozir_tables/kozirtables/games/Seat;" (.ref w2)) (hc1 : p1 = (0 : Int32)) :
    MetFree l (⟨"com/example/kozir_tables/kozirtables/games/SideOtherPinLaw", "seatOf", "(I)Lcom/example/kozir_tables/kozirtables/games/Seat;"⟩ : MethodName) (head1 (Jvm.Cond.code (⟨"com/example/kozir_tables/kozirtables/games/SideOtherPinLaw", "seatOf", "(I)Lcom/example/kozir_tables/kozirtables/games/Seat;"⟩ : MethodName) method_2_code 1 (some (.object "com/example/kozir_tables/kozirtables/games/Seat")) :: ws) ({ frames := 0, cells := 0, slots := 0, locals := 0 } : Room)) (fun a U => a = #[(.int p1)] ∧ Z.Warmed39 U.vm ∧ U.heap = h0) (fun _ _ _ _ _ => True) (fun _ U o U' => ∃ v L, o = .returned v ∧ own_QV (some (.ref w2)) h0 n0 v U'.heap L ∧ FrameEnd U o U' L ({ frames := 0, cells := 0, slots := 0, locals := 0 } : Room).cells ({ frames := 0, cells := 0, slots := 0, locals := 0 } : Room).slots) := by
  refine MetFree.of_bodySF (plainFor_of_name pn_1) hisR ?_
  intro p e s m args below meth c s₁ Bd hml0 hP hK
  obtain ⟨rfl, hZ, hh⟩ := hP
  have hx := Bd.exec
  have hby := Bd.bytes
  have hml : c.maxLocals = 1 := hml0
  have hown : s.vm.findClass "com/example/kozir_tables/kozirtables/games/SideOtherPinLaw" = some m.cls := findClass_of_methodNamed Bd.named
  have hnm := (name_of_methodNamed Bd.named Bd.method).1
  have X0 : Stand p l e ({ frames := 0, cells := 0, slots := 0, locals := 0 } : Room) s m #[(.int p1)] below meth c s₁ [] 0 0 := Stand.of_body Bd
  have e0 : s₁.heap = h0 := by rw [← hh, Bd.state]; rfl
  have N0 := Fr.nil n0
  have pre0 : ∀ t, Steps p.tables e below (s₁.setTop (mkF m 0 #[.val (.int p1)] [])) t → Steps p.tables e below (s₁.setTop (entryFrame m #[(.int p1)] 1)) t := fun t k => castTop (ef_1 m p1) k
  obtain ⟨T3, X3, e3, st3⟩ := getS2 X0 hx hZ hown (host := "") (Or.inl (hw _ (List.mem_of_getElem? (i := 56) rfl))) Via.refl e0 S_N (g := (mkF m 4 #[.val (.int p1)] [])) rfl (hb hby d1_4)
  obtain ⟨fs, hr, hrun, hended, hW, hsame⟩ := X3.leave (v := some (.ref w2)) (fun h => by rw [Bd.returns] at h; cases h)
  refine ⟨_, _, pre0 _ ?_, hrun, hended, _, _, rfl, ?_, ⟨_, rfl⟩, hW, hsame.mono (by decide) (by decide)⟩
  · show Steps p.tables e below (s₁.setTop (mkF m 0 #[.val (.int p1)] [])) _
    refine XS.iloadN X0.here hx rfl (hb hby d1_0) rfl ?_
    show Steps p.tables e below (s₁.setTop (mkF m 1 #[.val (.int p1)] [(.int p1)])) _
    refine XS.ifNo X0.here hx rfl (hb hby d1_1) rfl ((if0 _ _).trans (teq hc1).2) ?_
    show Steps p.tables e below (s₁.setTop (mkF m 4 #[.val (.int p1)] [])) _
    refine st3 _ ?_
    show Steps p.tables e below (T3.setTop (mkF m 7 #[.val (.int p1)] [(.ref w2)])) _
    jvm_step X3.here [X3.here.top, hx, (hb hby d1_7), X3.method', Bd.returns, Value.isRef, FieldType.isReference]
    first | (intro acts; rw [hr _ acts rfl rfl rfl]) | rw [hr _ _ rfl rfl rfl]
    exact Steps.refl _
  · show own_QV (some (.ref w2)) h0 n0 _ T3.heap _
    rw [e3]
    exact ⟨rfl, N0, rfl⟩
set_option maxRecDepth 65536 in
set_option maxHeartbeats 40000000 in
theorem rm1_tf (l : Launch) (Z : State) (a0 : Array Value) (hw : ∀ d ∈ tables_1, d.before a0 Z = true) (ws : List Jvm.Cond) (p1 : Int32) (w2 : Addr) (h0 : Heap) (n0 : Nat) (Z0 : n0 ≤ h0.size) (S_E : Sta Z h0 "com/example/kozir_tables/kozirtables/games/Seat" "E" "Lcom/example/kozir_tables/kozirtables/games/Seat;" (.ref w2)) (hc1 : ¬ (p1 = (0 : Int32))) (hc10 : p1 = (1 : Int32)) :
    MetFree l (⟨"com/example/kozir_tables/kozirtables/games/SideOtherPinLaw", "seatOf", "(I)Lcom/example/kozir_tables/kozirtables/games/Seat;"⟩ : MethodName) (head1 (Jvm.Cond.code (⟨"com/example/kozir_tables/kozirtables/games/SideOtherPinLaw", "seatOf", "(I)Lcom/example/kozir_tables/kozirtables/games/Seat;"⟩ : MethodName) method_2_code 1 (some (.object "com/example/kozir_tables/kozirtables/games/Seat")) :: ws) ({ frames := 0, cells := 0, slots := 0, locals := 0 } : Room)) (fun a U => a = #[(.int p1)] ∧ Z.Warmed39 U.vm ∧ U.heap = h0) (fun _ _ _ _ _ => True) (fun _ U o U' => ∃ v L, o = .returned v ∧ own_QV (some (.ref w2)) h0 n0 v U'.heap L ∧ FrameEnd U o U' L ({ frames := 0, cells := 0, slots := 0, locals := 0 } : Room).cells ({ frames := 0, cells := 0, slots := 0, locals := 0 } : Room).slots) := by
  refine MetFree.of_bodySF (plainFor_of_name pn_1) hisR ?_
  intro p e s m args below meth c s₁ Bd hml0 hP hK
  obtain ⟨rfl, hZ, hh⟩ := hP
  have hx := Bd.exec
  have hby := Bd.bytes
  have hml : c.maxLocals = 1 := hml0
  have hown : s.vm.findClass "com/example/kozir_tables/kozirtables/games/SideOtherPinLaw" = some m.cls := findClass_of_methodNamed Bd.named
  have hnm := (name_of_methodNamed Bd.named Bd.method).1
  have X0 : Stand p l e ({ frames := 0, cells := 0, slots := 0, locals := 0 } : Room) s m #[(.int p1)] below meth c s₁ [] 0 0 := Stand.of_body Bd
  have e0 : s₁.heap = h0 := by rw [← hh, Bd.state]; rfl
  have N0 := Fr.nil n0
  have pre0 : ∀ t, Steps p.tables e below (s₁.setTop (mkF m 0 #[.val (.int p1)] [])) t → Steps p.tables e below (s₁.setTop (entryFrame m #[(.int p1)] 1)) t := fun t k => castTop (ef_1 m p1) k
  obtain ⟨T3, X3, e3, st3⟩ := getS2 X0 hx hZ hown (host := "") (Or.inl (hw _ (List.mem_of_getElem? (i := 55) rfl))) Via.refl e0 S_E (g := (mkF m 13 #[.val (.int p1)] [])) rfl (hb hby d1_13)
  obtain ⟨fs, hr, hrun, hended, hW, hsame⟩ := X3.leave (v := some (.ref w2)) (fun h => by rw [Bd.returns] at h; cases h)
  refine ⟨_, _, pre0 _ ?_, hrun, hended, _, _, rfl, ?_, ⟨_, rfl⟩, hW, hsame.mono (by decide) (by decide)⟩
  · show Steps p.tables e below (s₁.setTop (mkF m 0 #[.val (.int p1)] [])) _
    refine XS.iloadN X0.here hx rfl (hb hby d1_0) rfl ?_
    show Steps p.tables e below (s₁.setTop (mkF m 1 #[.val (.int p1)] [(.int p1)])) _
    refine XS.ifYes X0.here hx rfl (pc0 := 1) (pc' := 8) rfl (hb hby d1_1) rfl ((if0 _ _).trans (feq hc1).2) (by decide) (by decide) ?_
    show Steps p.tables e below (s₁.setTop (mkF m 8 #[.val (.int p1)] [])) _
    refine XS.iloadN X0.here hx rfl (hb hby d1_8) rfl ?_
    show Steps p.tables e below (s₁.setTop (mkF m 9 #[.val (.int p1)] [(.int p1)])) _
    refine XS.iconst X0.here hx rfl (hb hby d1_9) ?_
    show Steps p.tables e below (s₁.setTop (mkF m 10 #[.val (.int p1)] [(.int (1 : Int32)), (.int p1)])) _
    refine XS.icmpNo X0.here hx rfl (hb hby d1_10) rfl (teq hc10).2 ?_
    show Steps p.tables e below (s₁.setTop (mkF m 13 #[.val (.int p1)] [])) _
    refine st3 _ ?_
    show Steps p.tables e below (T3.setTop (mkF m 16 #[.val (.int p1)] [(.ref w2)])) _
    jvm_step X3.here [X3.here.top, hx, (hb hby d1_16), X3.method', Bd.returns, Value.isRef, FieldType.isReference]
    first | (intro acts; rw [hr _ acts rfl rfl rfl]) | rw [hr _ _ rfl rfl rfl]
    exact Steps.refl _
  · show own_QV (some (.ref w2)) h0 n0 _ T3.heap _
    rw [e3]
    exact ⟨rfl, N0, rfl⟩
set_option maxRecDepth 65536 in
set_option maxHeartbeats 40000000 in
theorem rm1_ttf (l : Launch) (Z : State) (a0 : Array Value) (hw : ∀ d ∈ tables_1, d.before a0 Z = true) (ws : List Jvm.Cond) (p1 : Int32) (w2 : Addr) (h0 : Heap) (n0 : Nat) (Z0 : n0 ≤ h0.size) (S_S : Sta Z h0 "com/example/kozir_tables/kozirtables/games/Seat" "S" "Lcom/example/kozir_tables/kozirtables/games/Seat;" (.ref w2)) (hc1 : ¬ (p1 = (0 : Int32))) (hc10 : ¬ (p1 = (1 : Int32))) (hc19 : p1 = (2 : Int32)) :
    MetFree l (⟨"com/example/kozir_tables/kozirtables/games/SideOtherPinLaw", "seatOf", "(I)Lcom/example/kozir_tables/kozirtables/games/Seat;"⟩ : MethodName) (head1 (Jvm.Cond.code (⟨"com/example/kozir_tables/kozirtables/games/SideOtherPinLaw", "seatOf", "(I)Lcom/example/kozir_tables/kozirtables/games/Seat;"⟩ : MethodName) method_2_code 1 (some (.object "com/example/kozir_tables/kozirtables/games/Seat")) :: ws) ({ frames := 0, cells := 0, slots := 0, locals := 0 } : Room)) (fun a U => a = #[(.int p1)] ∧ Z.Warmed39 U.vm ∧ U.heap = h0) (fun _ _ _ _ _ => True) (fun _ U o U' => ∃ v L, o = .returned v ∧ own_QV (some (.ref w2)) h0 n0 v U'.heap L ∧ FrameEnd U o U' L ({ frames := 0, cells := 0, slots := 0, locals := 0 } : Room).cells ({ frames := 0, cells := 0, slots := 0, locals := 0 } : Room).slots) := by
  refine MetFree.of_bodySF (plainFor_of_name pn_1) hisR ?_
  intro p e s m args below meth c s₁ Bd hml0 hP hK
  obtain ⟨rfl, hZ, hh⟩ := hP
  have hx := Bd.exec
  have hby := Bd.bytes
  have hml : c.maxLocals = 1 := hml0
  have hown : s.vm.findClass "com/example/kozir_tables/kozirtables/games/SideOtherPinLaw" = some m.cls := findClass_of_methodNamed Bd.named
  have hnm := (name_of_methodNamed Bd.named Bd.method).1
  have X0 : Stand p l e ({ frames := 0, cells := 0, slots := 0, locals := 0 } : Room) s m #[(.int p1)] below meth c s₁ [] 0 0 := Stand.of_body Bd
  have e0 : s₁.heap = h0 := by rw [← hh, Bd.state]; rfl
  have N0 := Fr.nil n0
  have pre0 : ∀ t, Steps p.tables e below (s₁.setTop (mkF m 0 #[.val (.int p1)] [])) t → Steps p.tables e below (s₁.setTop (entryFrame m #[(.int p1)] 1)) t := fun t k => castTop (ef_1 m p1) k
  obtain ⟨T3, X3, e3, st3⟩ := getS2 X0 hx hZ hown (host := "") (Or.inl (hw _ (List.mem_of_getElem? (i := 58) rfl))) Via.refl e0 S_S (g := (mkF m 22 #[.val (.int p1)] [])) rfl (hb hby d1_22)
  obtain ⟨fs, hr, hrun, hended, hW, hsame⟩ := X3.leave (v := some (.ref w2)) (fun h => by rw [Bd.returns] at h; cases h)
  refine ⟨_, _, pre0 _ ?_, hrun, hended, _, _, rfl, ?_, ⟨_, rfl⟩, hW, hsame.mono (by decide) (by decide)⟩
  · show Steps p.tables e below (s₁.setTop (mkF m 0 #[.val (.int p1)] [])) _
    refine XS.iloadN X0.here hx rfl (hb hby d1_0) rfl ?_
    show Steps p.tables e below (s₁.setTop (mkF m 1 #[.val (.int p1)] [(.int p1)])) _
    refine XS.ifYes X0.here hx rfl (pc0 := 1) (pc' := 8) rfl (hb hby d1_1) rfl ((if0 _ _).trans (feq hc1).2) (by decide) (by decide) ?_
    show Steps p.tables e below (s₁.setTop (mkF m 8 #[.val (.int p1)] [])) _
    refine XS.iloadN X0.here hx rfl (hb hby d1_8) rfl ?_
    show Steps p.tables e below (s₁.setTop (mkF m 9 #[.val (.int p1)] [(.int p1)])) _
    refine XS.iconst X0.here hx rfl (hb hby d1_9) ?_
    show Steps p.tables e below (s₁.setTop (mkF m 10 #[.val (.int p1)] [(.int (1 : Int32)), (.int p1)])) _
    refine XS.icmpYes X0.here hx rfl (pc0 := 10) (pc' := 17) rfl (hb hby d1_10) rfl (feq hc10).2 (by decide) (by decide) ?_
    show Steps p.tables e below (s₁.setTop (mkF m 17 #[.val (.int p1)] [])) _
    refine XS.iloadN X0.here hx rfl (hb hby d1_17) rfl ?_
    show Steps p.tables e below (s₁.setTop (mkF m 18 #[.val (.int p1)] [(.int p1)])) _
    refine XS.iconst X0.here hx rfl (hb hby d1_18) ?_
    show Steps p.tables e below (s₁.setTop (mkF m 19 #[.val (.int p1)] [(.int (2 : Int32)), (.int p1)])) _
    refine XS.icmpNo X0.here hx rfl (hb hby d1_19) rfl (teq hc19).2 ?_
    show Steps p.tables e below (s₁.setTop (mkF m 22 #[.val (.int p1)] [])) _
    refine st3 _ ?_
    show Steps p.tables e below (T3.setTop (mkF m 25 #[.val (.int p1)] [(.ref w2)])) _
    jvm_step X3.here [X3.here.top, hx, (hb hby d1_25), X3.method', Bd.returns, Value.isRef, FieldType.isReference]
    first | (intro acts; rw [hr _ acts rfl rfl rfl]) | rw [hr _ _ rfl rfl rfl]
    exact Steps.refl _
  · show own_QV (some (.ref w2)) h0 n0 _ T3.heap _
    rw [e3]
    exact ⟨rfl, N0, rfl⟩
set_option maxRecDepth 65536 in
set_option maxHeartbeats 40000000 in
theorem rm1_ttt (l : Launch) (Z : State) (a0 : Array Value) (hw : ∀ d ∈ tables_1, d.before a0 Z = true) (ws : List Jvm.Cond) (p1 : Int32) (w2 : Addr) (h0 : Heap) (n0 : Nat) (Z0 : n0 ≤ h0.size) (S_W : Sta Z h0 "com/example/kozir_tables/kozirtables/games/Seat" "W" "Lcom/example/kozir_tables/kozirtables/games/Seat;" (.ref w2)) (hc1 : ¬ (p1 = (0 : Int32))) (hc10 : ¬ (p1 = (1 : Int32))) (hc19 : ¬ (p1 = (2 : Int32))) :
    MetFree l (⟨"com/example/kozir_tables/kozirtables/games/SideOtherPinLaw", "seatOf", "(I)Lcom/example/kozir_tables/kozirtables/games/Seat;"⟩ : MethodName) (head1 (Jvm.Cond.code (⟨"com/example/kozir_tables/kozirtables/games/SideOtherPinLaw", "seatOf", "(I)Lcom/example/kozir_tables/kozirtables/games/Seat;"⟩ : MethodName) method_2_code 1 (some (.object "com/example/kozir_tables/kozirtables/games/Seat")) :: ws) ({ frames := 0, cells := 0, slots := 0, locals := 0 } : Room)) (fun a U => a = #[(.int p1)] ∧ Z.Warmed39 U.vm ∧ U.heap = h0) (fun _ _ _ _ _ => True) (fun _ U o U' => ∃ v L, o = .returned v ∧ own_QV (some (.ref w2)) h0 n0 v U'.heap L ∧ FrameEnd U o U' L ({ frames := 0, cells := 0, slots := 0, locals := 0 } : Room).cells ({ frames := 0, cells := 0, slots := 0, locals := 0 } : Room).slots) := by
  refine MetFree.of_bodySF (plainFor_of_name pn_1) hisR ?_
  intro p e s m args below meth c s₁ Bd hml0 hP hK
  obtain ⟨rfl, hZ, hh⟩ := hP
  have hx := Bd.exec
  have hby := Bd.bytes
  have hml : c.maxLocals = 1 := hml0
  have hown : s.vm.findClass "com/example/kozir_tables/kozirtables/games/SideOtherPinLaw" = some m.cls := findClass_of_methodNamed Bd.named
  have hnm := (name_of_methodNamed Bd.named Bd.method).1
  have X0 : Stand p l e ({ frames := 0, cells := 0, slots := 0, locals := 0 } : Room) s m #[(.int p1)] below meth c s₁ [] 0 0 := Stand.of_body Bd
  have e0 : s₁.heap = h0 := by rw [← hh, Bd.state]; rfl
  have N0 := Fr.nil n0
  have pre0 : ∀ t, Steps p.tables e below (s₁.setTop (mkF m 0 #[.val (.int p1)] [])) t → Steps p.tables e below (s₁.setTop (entryFrame m #[(.int p1)] 1)) t := fun t k => castTop (ef_1 m p1) k
  obtain ⟨T3, X3, e3, st3⟩ := getS2 X0 hx hZ hown (host := "") (Or.inl (hw _ (List.mem_of_getElem? (i := 7) rfl))) Via.refl e0 S_W (g := (mkF m 26 #[.val (.int p1)] [])) rfl (hb hby d1_26)
  obtain ⟨fs, hr, hrun, hended, hW, hsame⟩ := X3.leave (v := some (.ref w2)) (fun h => by rw [Bd.returns] at h; cases h)
  refine ⟨_, _, pre0 _ ?_, hrun, hended, _, _, rfl, ?_, ⟨_, rfl⟩, hW, hsame.mono (by decide) (by decide)⟩
  · show Steps p.tables e below (s₁.setTop (mkF m 0 #[.val (.int p1)] [])) _
    refine XS.iloadN X0.here hx rfl (hb hby d1_0) rfl ?_
    show Steps p.tables e below (s₁.setTop (mkF m 1 #[.val (.int p1)] [(.int p1)])) _
    refine XS.ifYes X0.here hx rfl (pc0 := 1) (pc' := 8) rfl (hb hby d1_1) rfl ((if0 _ _).trans (feq hc1).2) (by decide) (by decide) ?_
    show Steps p.tables e below (s₁.setTop (mkF m 8 #[.val (.int p1)] [])) _
    refine XS.iloadN X0.here hx rfl (hb hby d1_8) rfl ?_
    show Steps p.tables e below (s₁.setTop (mkF m 9 #[.val (.int p1)] [(.int p1)])) _
    refine XS.iconst X0.here hx rfl (hb hby d1_9) ?_
    show Steps p.tables e below (s₁.setTop (mkF m 10 #[.val (.int p1)] [(.int (1 : Int32)), (.int p1)])) _
    refine XS.icmpYes X0.here hx rfl (pc0 := 10) (pc' := 17) rfl (hb hby d1_10) rfl (feq hc10).2 (by decide) (by decide) ?_
    show Steps p.tables e below (s₁.setTop (mkF m 17 #[.val (.int p1)] [])) _
    refine XS.iloadN X0.here hx rfl (hb hby d1_17) rfl ?_
    show Steps p.tables e below (s₁.setTop (mkF m 18 #[.val (.int p1)] [(.int p1)])) _
    refine XS.iconst X0.here hx rfl (hb hby d1_18) ?_
    show Steps p.tables e below (s₁.setTop (mkF m 19 #[.val (.int p1)] [(.int (2 : Int32)), (.int p1)])) _
    refine XS.icmpYes X0.here hx rfl (pc0 := 19) (pc' := 26) rfl (hb hby d1_19) rfl (feq hc19).2 (by decide) (by decide) ?_
    show Steps p.tables e below (s₁.setTop (mkF m 26 #[.val (.int p1)] [])) _
    refine st3 _ ?_
    show Steps p.tables e below (T3.setTop (mkF m 29 #[.val (.int p1)] [(.ref w2)])) _
    jvm_step X3.here [X3.here.top, hx, (hb hby d1_29), X3.method', Bd.returns, Value.isRef, FieldType.isReference]
    first | (intro acts; rw [hr _ acts rfl rfl rfl]) | rw [hr _ _ rfl rfl rfl]
    exact Steps.refl _
  · show own_QV (some (.ref w2)) h0 n0 _ T3.heap _
    rw [e3]
    exact ⟨rfl, N0, rfl⟩
set_option maxRecDepth 65536 in
set_option maxHeartbeats 40000000 in
theorem rm2_f (l : Launch) (Z : State) (a0 : Array Value) (hw : ∀ d ∈ tables_1, d.before a0 Z = true) (ws : List Jvm.Cond) (a1 : Addr) (w2 : Addr) (w4 : Addr) (h0 : Heap) (n0 : Nat) (Z0 : n0 ≤ h0.size) (S_NS : Sta Z h0 "com/example/kozir_tables/kozirtables/games/Side" "NS" "Lcom/example/kozir_tables/kozirtables/games/Side;" (.ref w2)) (S_EW : Sta Z h0 "com/example/kozir_tables/kozirtables/games/Side" "EW" "Lcom/example/kozir_tables/kozirtables/games/Side;" (.ref w4)) (ha4 : a1 = w2) :
    MetFree l (⟨"com/example/kozir_tables/kozirtables/games/Side", "other", "()Lcom/example/kozir_tables/kozirtables/games/Side;"⟩ : MethodName) (head1 (Jvm.Cond.code (⟨"com/example/kozir_tables/kozirtables/games/Side", "other", "()Lcom/example/kozir_tables/kozirtables/games/Side;"⟩ : MethodName) prog_47_method_5_code 1 (some (.object "com/example/kozir_tables/kozirtables/games/Side")) :: ws) ({ frames := 0, cells := 0, slots := 0, locals := 0 } : Room)) (fun a U => a = #[(.ref a1)] ∧ Z.Warmed39 U.vm ∧ U.heap = h0) (fun _ _ _ _ _ => True) (fun _ U o U' => ∃ v L, o = .returned v ∧ own_QV (some (.ref w4)) h0 n0 v U'.heap L ∧ FrameEnd U o U' L ({ frames := 0, cells := 0, slots := 0, locals := 0 } : Room).cells ({ frames := 0, cells := 0, slots := 0, locals := 0 } : Room).slots) := by
  refine MetFree.of_bodySF (plainFor_of_name pn_2) hisR ?_
  intro p e s m args below meth c s₁ Bd hml0 hP hK
  obtain ⟨rfl, hZ, hh⟩ := hP
  have hx := Bd.exec
  have hby := Bd.bytes
  have hml : c.maxLocals = 1 := hml0
  have hown : s.vm.findClass "com/example/kozir_tables/kozirtables/games/Side" = some m.cls := findClass_of_methodNamed Bd.named
  have hnm := (name_of_methodNamed Bd.named Bd.method).1
  have X0 : Stand p l e ({ frames := 0, cells := 0, slots := 0, locals := 0 } : Room) s m #[(.ref a1)] below meth c s₁ [] 0 0 := Stand.of_body Bd
  have e0 : s₁.heap = h0 := by rw [← hh, Bd.state]; rfl
  have N0 := Fr.nil n0
  have pre0 : ∀ t, Steps p.tables e below (s₁.setTop (mkF m 0 #[.val (.ref a1)] [])) t → Steps p.tables e below (s₁.setTop (entryFrame m #[(.ref a1)] 1)) t := fun t k => castTop (ef_2 m a1) k
  obtain ⟨T3, X3, e3, st3⟩ := getS2 X0 hx hZ hown (host := "") (Or.inl (hw _ (List.mem_of_getElem? (i := 15) rfl))) Via.refl e0 S_NS (g := (mkF m 1 #[.val (.ref a1)] [(.ref a1)])) rfl (hb hby d2_1)
  obtain ⟨T5, X5, e5, st5⟩ := getS2 X3 hx hZ hown (host := "") (Or.inl (hw _ (List.mem_of_getElem? (i := 16) rfl))) Via.refl e3 S_EW (g := (mkF m 7 #[.val (.ref a1)] [])) rfl (hb hby d2_7)
  obtain ⟨fs, hr, hrun, hended, hW, hsame⟩ := X5.leave (v := some (.ref w4)) (fun h => by rw [Bd.returns] at h; cases h)
  refine ⟨_, _, pre0 _ ?_, hrun, hended, _, _, rfl, ?_, ⟨_, rfl⟩, hW, hsame.mono (by decide) (by decide)⟩
  · show Steps p.tables e below (s₁.setTop (mkF m 0 #[.val (.ref a1)] [])) _
    refine XS.aloadN X0.here hx rfl (hb hby d2_0) rfl rfl ?_
    show Steps p.tables e below (s₁.setTop (mkF m 1 #[.val (.ref a1)] [(.ref a1)])) _
    refine st3 _ ?_
    show Steps p.tables e below (T3.setTop (mkF m 4 #[.val (.ref a1)] [(.ref w2), (.ref a1)])) _
    refine Jvm.RoadKit.acmp (g := (mkF m 4 #[.val (.ref a1)] [(.ref w2), (.ref a1)])) X3 hx rfl rfl rfl (pc0 := 4) (pc' := 7) (same := true) rfl (hb hby d2_4) rfl (decide_eq_true (congrArg Value.ref ha4)) (by decide) (by decide) ?_
    show Steps p.tables e below (T3.setTop (mkF m 7 #[.val (.ref a1)] [])) _
    refine st5 _ ?_
    show Steps p.tables e below (T5.setTop (mkF m 10 #[.val (.ref a1)] [(.ref w4)])) _
    refine XS.goto X5.here hx rfl (pc0 := 10) (pc' := 16) rfl (hb hby d2_10) (by decide) (by decide) ?_
    show Steps p.tables e below (T5.setTop (mkF m 16 #[.val (.ref a1)] [(.ref w4)])) _
    jvm_step X5.here [X5.here.top, hx, (hb hby d2_16), X5.method', Bd.returns, Value.isRef, FieldType.isReference]
    first | (intro acts; rw [hr _ acts rfl rfl rfl]) | rw [hr _ _ rfl rfl rfl]
    exact Steps.refl _
  · show own_QV (some (.ref w4)) h0 n0 _ T5.heap _
    rw [e5]
    exact ⟨rfl, N0, rfl⟩
set_option maxRecDepth 65536 in
set_option maxHeartbeats 40000000 in
theorem rm2_t (l : Launch) (Z : State) (a0 : Array Value) (hw : ∀ d ∈ tables_1, d.before a0 Z = true) (ws : List Jvm.Cond) (a1 : Addr) (w2 : Addr) (h0 : Heap) (n0 : Nat) (Z0 : n0 ≤ h0.size) (S_NS : Sta Z h0 "com/example/kozir_tables/kozirtables/games/Side" "NS" "Lcom/example/kozir_tables/kozirtables/games/Side;" (.ref w2)) (ha4 : ¬ (a1 = w2)) :
    MetFree l (⟨"com/example/kozir_tables/kozirtables/games/Side", "other", "()Lcom/example/kozir_tables/kozirtables/games/Side;"⟩ : MethodName) (head1 (Jvm.Cond.code (⟨"com/example/kozir_tables/kozirtables/games/Side", "other", "()Lcom/example/kozir_tables/kozirtables/games/Side;"⟩ : MethodName) prog_47_method_5_code 1 (some (.object "com/example/kozir_tables/kozirtables/games/Side")) :: ws) ({ frames := 0, cells := 0, slots := 0, locals := 0 } : Room)) (fun a U => a = #[(.ref a1)] ∧ Z.Warmed39 U.vm ∧ U.heap = h0) (fun _ _ _ _ _ => True) (fun _ U o U' => ∃ v L, o = .returned v ∧ own_QV (some (.ref w2)) h0 n0 v U'.heap L ∧ FrameEnd U o U' L ({ frames := 0, cells := 0, slots := 0, locals := 0 } : Room).cells ({ frames := 0, cells := 0, slots := 0, locals := 0 } : Room).slots) := by
  refine MetFree.of_bodySF (plainFor_of_name pn_2) hisR ?_
  intro p e s m args below meth c s₁ Bd hml0 hP hK
  obtain ⟨rfl, hZ, hh⟩ := hP
  have hx := Bd.exec
  have hby := Bd.bytes
  have hml : c.maxLocals = 1 := hml0
  have hown : s.vm.findClass "com/example/kozir_tables/kozirtables/games/Side" = some m.cls := findClass_of_methodNamed Bd.named
  have hnm := (name_of_methodNamed Bd.named Bd.method).1
  have X0 : Stand p l e ({ frames := 0, cells := 0, slots := 0, locals := 0 } : Room) s m #[(.ref a1)] below meth c s₁ [] 0 0 := Stand.of_body Bd
  have e0 : s₁.heap = h0 := by rw [← hh, Bd.state]; rfl
  have N0 := Fr.nil n0
  have pre0 : ∀ t, Steps p.tables e below (s₁.setTop (mkF m 0 #[.val (.ref a1)] [])) t → Steps p.tables e below (s₁.setTop (entryFrame m #[(.ref a1)] 1)) t := fun t k => castTop (ef_2 m a1) k
  obtain ⟨T3, X3, e3, st3⟩ := getS2 X0 hx hZ hown (host := "") (Or.inl (hw _ (List.mem_of_getElem? (i := 15) rfl))) Via.refl e0 S_NS (g := (mkF m 1 #[.val (.ref a1)] [(.ref a1)])) rfl (hb hby d2_1)
  obtain ⟨T4, X4, e4, st4⟩ := getS2 X3 hx hZ hown (host := "") (Or.inl (hw _ (List.mem_of_getElem? (i := 15) rfl))) Via.refl e3 S_NS (g := (mkF m 13 #[.val (.ref a1)] [])) rfl (hb hby d2_13)
  obtain ⟨fs, hr, hrun, hended, hW, hsame⟩ := X4.leave (v := some (.ref w2)) (fun h => by rw [Bd.returns] at h; cases h)
  refine ⟨_, _, pre0 _ ?_, hrun, hended, _, _, rfl, ?_, ⟨_, rfl⟩, hW, hsame.mono (by decide) (by decide)⟩
  · show Steps p.tables e below (s₁.setTop (mkF m 0 #[.val (.ref a1)] [])) _
    refine XS.aloadN X0.here hx rfl (hb hby d2_0) rfl rfl ?_
    show Steps p.tables e below (s₁.setTop (mkF m 1 #[.val (.ref a1)] [(.ref a1)])) _
    refine st3 _ ?_
    show Steps p.tables e below (T3.setTop (mkF m 4 #[.val (.ref a1)] [(.ref w2), (.ref a1)])) _
    refine Jvm.RoadKit.acmp (g := (mkF m 4 #[.val (.ref a1)] [(.ref w2), (.ref a1)])) X3 hx rfl rfl rfl (pc0 := 4) (pc' := 13) (same := false) rfl (hb hby d2_4) rfl (decide_eq_false fun q => ha4 (Value.ref.inj q)) (by decide) (by decide) ?_
    show Steps p.tables e below (T3.setTop (mkF m 13 #[.val (.ref a1)] [])) _
    refine st4 _ ?_
    show Steps p.tables e below (T4.setTop (mkF m 16 #[.val (.ref a1)] [(.ref w2)])) _
    jvm_step X4.here [X4.here.top, hx, (hb hby d2_16), X4.method', Bd.returns, Value.isRef, FieldType.isReference]
    first | (intro acts; rw [hr _ acts rfl rfl rfl]) | rw [hr _ _ rfl rfl rfl]
    exact Steps.refl _
  · show own_QV (some (.ref w2)) h0 n0 _ T4.heap _
    rw [e4]
    exact ⟨rfl, N0, rfl⟩
set_option maxRecDepth 65536 in
set_option maxHeartbeats 40000000 in
theorem rm3_t (l : Launch) (Z : State) (a0 : Array Value) (hw : ∀ d ∈ tables_1, d.before a0 Z = true) (ws : List Jvm.Cond) (a1 : Addr) (w2 : Addr) (w4 : Addr) (h0 : Heap) (n0 : Nat) (Z0 : n0 ≤ h0.size) (S_N : Sta Z h0 "com/example/kozir_tables/kozirtables/games/Seat" "N" "Lcom/example/kozir_tables/kozirtables/games/Seat;" (.ref w2)) (S_NS : Sta Z h0 "com/example/kozir_tables/kozirtables/games/Side" "NS" "Lcom/example/kozir_tables/kozirtables/games/Side;" (.ref w4)) (ha4 : a1 = w2) :
    MetFree l (⟨"com/example/kozir_tables/kozirtables/games/Side", "of", "(Lcom/example/kozir_tables/kozirtables/games/Seat;)Lcom/example/kozir_tables/kozirtables/games/Side;"⟩ : MethodName) (head1 (Jvm.Cond.code (⟨"com/example/kozir_tables/kozirtables/games/Side", "of", "(Lcom/example/kozir_tables/kozirtables/games/Seat;)Lcom/example/kozir_tables/kozirtables/games/Side;"⟩ : MethodName) prog_47_method_4_code 1 (some (.object "com/example/kozir_tables/kozirtables/games/Side")) :: ws) ({ frames := 0, cells := 0, slots := 0, locals := 0 } : Room)) (fun a U => a = #[(.ref a1)] ∧ Z.Warmed39 U.vm ∧ U.heap = h0) (fun _ _ _ _ _ => True) (fun _ U o U' => ∃ v L, o = .returned v ∧ own_QV (some (.ref w4)) h0 n0 v U'.heap L ∧ FrameEnd U o U' L ({ frames := 0, cells := 0, slots := 0, locals := 0 } : Room).cells ({ frames := 0, cells := 0, slots := 0, locals := 0 } : Room).slots) := by
  refine MetFree.of_bodySF (plainFor_of_name pn_3) hisR ?_
  intro p e s m args below meth c s₁ Bd hml0 hP hK
  obtain ⟨rfl, hZ, hh⟩ := hP
  have hx := Bd.exec
  have hby := Bd.bytes
  have hml : c.maxLocals = 1 := hml0
  have hown : s.vm.findClass "com/example/kozir_tables/kozirtables/games/Side" = some m.cls := findClass_of_methodNamed Bd.named
  have hnm := (name_of_methodNamed Bd.named Bd.method).1
  have X0 : Stand p l e ({ frames := 0, cells := 0, slots := 0, locals := 0 } : Room) s m #[(.ref a1)] below meth c s₁ [] 0 0 := Stand.of_body Bd
  have e0 : s₁.heap = h0 := by rw [← hh, Bd.state]; rfl
  have N0 := Fr.nil n0
  have pre0 : ∀ t, Steps p.tables e below (s₁.setTop (mkF m 0 #[.val (.ref a1)] [])) t → Steps p.tables e below (s₁.setTop (entryFrame m #[(.ref a1)] 1)) t := fun t k => castTop (ef_3 m a1) k
  obtain ⟨T3, X3, e3, st3⟩ := getS2 X0 hx hZ hown (host := "") (Or.inl (hw _ (List.mem_of_getElem? (i := 21) rfl))) Via.refl e0 S_N (g := (mkF m 1 #[.val (.ref a1)] [(.ref a1)])) rfl (hb hby d3_1)
  obtain ⟨T5, X5, e5, st5⟩ := getS2 X3 hx hZ hown (host := "") (Or.inl (hw _ (List.mem_of_getElem? (i := 15) rfl))) Via.refl e3 S_NS (g := (mkF m 14 #[.val (.ref a1)] [])) rfl (hb hby d3_14)
  obtain ⟨fs, hr, hrun, hended, hW, hsame⟩ := X5.leave (v := some (.ref w4)) (fun h => by rw [Bd.returns] at h; cases h)
  refine ⟨_, _, pre0 _ ?_, hrun, hended, _, _, rfl, ?_, ⟨_, rfl⟩, hW, hsame.mono (by decide) (by decide)⟩
  · show Steps p.tables e below (s₁.setTop (mkF m 0 #[.val (.ref a1)] [])) _
    refine XS.aloadN X0.here hx rfl (hb hby d3_0) rfl rfl ?_
    show Steps p.tables e below (s₁.setTop (mkF m 1 #[.val (.ref a1)] [(.ref a1)])) _
    refine st3 _ ?_
    show Steps p.tables e below (T3.setTop (mkF m 4 #[.val (.ref a1)] [(.ref w2), (.ref a1)])) _
    refine Jvm.RoadKit.acmp (g := (mkF m 4 #[.val (.ref a1)] [(.ref w2), (.ref a1)])) X3 hx rfl rfl rfl (pc0 := 4) (pc' := 14) (same := true) rfl (hb hby d3_4) rfl (decide_eq_true (congrArg Value.ref ha4)) (by decide) (by decide) ?_
    show Steps p.tables e below (T3.setTop (mkF m 14 #[.val (.ref a1)] [])) _
    refine st5 _ ?_
    show Steps p.tables e below (T5.setTop (mkF m 17 #[.val (.ref a1)] [(.ref w4)])) _
    refine XS.goto X5.here hx rfl (pc0 := 17) (pc' := 23) rfl (hb hby d3_17) (by decide) (by decide) ?_
    show Steps p.tables e below (T5.setTop (mkF m 23 #[.val (.ref a1)] [(.ref w4)])) _
    jvm_step X5.here [X5.here.top, hx, (hb hby d3_23), X5.method', Bd.returns, Value.isRef, FieldType.isReference]
    first | (intro acts; rw [hr _ acts rfl rfl rfl]) | rw [hr _ _ rfl rfl rfl]
    exact Steps.refl _
  · show own_QV (some (.ref w4)) h0 n0 _ T5.heap _
    rw [e5]
    exact ⟨rfl, N0, rfl⟩
set_option maxRecDepth 65536 in
set_option maxHeartbeats 40000000 in
theorem rm3_ff (l : Launch) (Z : State) (a0 : Array Value) (hw : ∀ d ∈ tables_1, d.before a0 Z = true) (ws : List Jvm.Cond) (a1 : Addr) (w2 : Addr) (w4 : Addr) (w6 : Addr) (h0 : Heap) (n0 : Nat) (Z0 : n0 ≤ h0.size) (S_N : Sta Z h0 "com/example/kozir_tables/kozirtables/games/Seat" "N" "Lcom/example/kozir_tables/kozirtables/games/Seat;" (.ref w2)) (S_S : Sta Z h0 "com/example/kozir_tables/kozirtables/games/Seat" "S" "Lcom/example/kozir_tables/kozirtables/games/Seat;" (.ref w4)) (S_NS : Sta Z h0 "com/example/kozir_tables/kozirtables/games/Side" "NS" "Lcom/example/kozir_tables/kozirtables/games/Side;" (.ref w6)) (ha4 : ¬ (a1 = w2)) (ha11 : a1 = w4) :
    MetFree l (⟨"com/example/kozir_tables/kozirtables/games/Side", "of", "(Lcom/example/kozir_tables/kozirtables/games/Seat;)Lcom/example/kozir_tables/kozirtables/games/Side;"⟩ : MethodName) (head1 (Jvm.Cond.code (⟨"com/example/kozir_tables/kozirtables/games/Side", "of", "(Lcom/example/kozir_tables/kozirtables/games/Seat;)Lcom/example/kozir_tables/kozirtables/games/Side;"⟩ : MethodName) prog_47_method_4_code 1 (some (.object "com/example/kozir_tables/kozirtables/games/Side")) :: ws) ({ frames := 0, cells := 0, slots := 0, locals := 0 } : Room)) (fun a U => a = #[(.ref a1)] ∧ Z.Warmed39 U.vm ∧ U.heap = h0) (fun _ _ _ _ _ => True) (fun _ U o U' => ∃ v L, o = .returned v ∧ own_QV (some (.ref w6)) h0 n0 v U'.heap L ∧ FrameEnd U o U' L ({ frames := 0, cells := 0, slots := 0, locals := 0 } : Room).cells ({ frames := 0, cells := 0, slots := 0, locals := 0 } : Room).slots) := by
  refine MetFree.of_bodySF (plainFor_of_name pn_3) hisR ?_
  intro p e s m args below meth c s₁ Bd hml0 hP hK
  obtain ⟨rfl, hZ, hh⟩ := hP
  have hx := Bd.exec
  have hby := Bd.bytes
  have hml : c.maxLocals = 1 := hml0
  have hown : s.vm.findClass "com/example/kozir_tables/kozirtables/games/Side" = some m.cls := findClass_of_methodNamed Bd.named
  have hnm := (name_of_methodNamed Bd.named Bd.method).1
  have X0 : Stand p l e ({ frames := 0, cells := 0, slots := 0, locals := 0 } : Room) s m #[(.ref a1)] below meth c s₁ [] 0 0 := Stand.of_body Bd
  have e0 : s₁.heap = h0 := by rw [← hh, Bd.state]; rfl
  have N0 := Fr.nil n0
  have pre0 : ∀ t, Steps p.tables e below (s₁.setTop (mkF m 0 #[.val (.ref a1)] [])) t → Steps p.tables e below (s₁.setTop (entryFrame m #[(.ref a1)] 1)) t := fun t k => castTop (ef_3 m a1) k
  obtain ⟨T3, X3, e3, st3⟩ := getS2 X0 hx hZ hown (host := "") (Or.inl (hw _ (List.mem_of_getElem? (i := 21) rfl))) Via.refl e0 S_N (g := (mkF m 1 #[.val (.ref a1)] [(.ref a1)])) rfl (hb hby d3_1)
  obtain ⟨T5, X5, e5, st5⟩ := getS2 X3 hx hZ hown (host := "") (Or.inl (hw _ (List.mem_of_getElem? (i := 23) rfl))) Via.refl e3 S_S (g := (mkF m 8 #[.val (.ref a1)] [(.ref a1)])) rfl (hb hby d3_8)
  obtain ⟨T7, X7, e7, st7⟩ := getS2 X5 hx hZ hown (host := "") (Or.inl (hw _ (List.mem_of_getElem? (i := 15) rfl))) Via.refl e5 S_NS (g := (mkF m 14 #[.val (.ref a1)] [])) rfl (hb hby d3_14)
  obtain ⟨fs, hr, hrun, hended, hW, hsame⟩ := X7.leave (v := some (.ref w6)) (fun h => by rw [Bd.returns] at h; cases h)
  refine ⟨_, _, pre0 _ ?_, hrun, hended, _, _, rfl, ?_, ⟨_, rfl⟩, hW, hsame.mono (by decide) (by decide)⟩
  · show Steps p.tables e below (s₁.setTop (mkF m 0 #[.val (.ref a1)] [])) _
    refine XS.aloadN X0.here hx rfl (hb hby d3_0) rfl rfl ?_
    show Steps p.tables e below (s₁.setTop (mkF m 1 #[.val (.ref a1)] [(.ref a1)])) _
    refine st3 _ ?_
    show Steps p.tables e below (T3.setTop (mkF m 4 #[.val (.ref a1)] [(.ref w2), (.ref a1)])) _
    refine Jvm.RoadKit.acmp (g := (mkF m 4 #[.val (.ref a1)] [(.ref w2), (.ref a1)])) X3 hx rfl rfl rfl (pc0 := 4) (pc' := 7) (same := false) rfl (hb hby d3_4) rfl (decide_eq_false fun q => ha4 (Value.ref.inj q)) (by decide) (by decide) ?_
    show Steps p.tables e below (T3.setTop (mkF m 7 #[.val (.ref a1)] [])) _
    refine XS.aloadN X3.here hx rfl (hb hby d3_7) rfl rfl ?_
    show Steps p.tables e below (T3.setTop (mkF m 8 #[.val (.ref a1)] [(.ref a1)])) _
    refine st5 _ ?_
    show Steps p.tables e below (T5.setTop (mkF m 11 #[.val (.ref a1)] [(.ref w4), (.ref a1)])) _
    refine Jvm.RoadKit.acmp (g := (mkF m 11 #[.val (.ref a1)] [(.ref w4), (.ref a1)])) X5 hx rfl rfl rfl (pc0 := 11) (pc' := 14) (same := true) rfl (hb hby d3_11) rfl (decide_eq_true (congrArg Value.ref ha11)) (by decide) (by decide) ?_
    show Steps p.tables e below (T5.setTop (mkF m 14 #[.val (.ref a1)] [])) _
    refine st7 _ ?_
    show Steps p.tables e below (T7.setTop (mkF m 17 #[.val (.ref a1)] [(.ref w6)])) _
    refine XS.goto X7.here hx rfl (pc0 := 17) (pc' := 23) rfl (hb hby d3_17) (by decide) (by decide) ?_
    show Steps p.tables e below (T7.setTop (mkF m 23 #[.val (.ref a1)] [(.ref w6)])) _
    jvm_step X7.here [X7.here.top, hx, (hb hby d3_23), X7.method', Bd.returns, Value.isRef, FieldType.isReference]
    first | (intro acts; rw [hr _ acts rfl rfl rfl]) | rw [hr _ _ rfl rfl rfl]
    exact Steps.refl _
  · show own_QV (some (.ref w6)) h0 n0 _ T7.heap _
    rw [e7]
    exact ⟨rfl, N0, rfl⟩
set_option maxRecDepth 65536 in
set_option maxHeartbeats 40000000 in
theorem rm3_ft (l : Launch) (Z : State) (a0 : Array Value) (hw : ∀ d ∈ tables_1, d.before a0 Z = true) (ws : List Jvm.Cond) (a1 : Addr) (w2 : Addr) (w4 : Addr) (w6 : Addr) (h0 : Heap) (n0 : Nat) (Z0 : n0 ≤ h0.size) (S_N : Sta Z h0 "com/example/kozir_tables/kozirtables/games/Seat" "N" "Lcom/example/kozir_tables/kozirtables/games/Seat;" (.ref w2)) (S_S : Sta Z h0 "com/example/kozir_tables/kozirtables/games/Seat" "S" "Lcom/example/kozir_tables/kozirtables/games/Seat;" (.ref w4)) (S_EW : Sta Z h0 "com/example/kozir_tables/kozirtables/games/Side" "EW" "Lcom/example/kozir_tables/kozirtables/games/Side;" (.ref w6)) (ha4 : ¬ (a1 = w2)) (ha11 : ¬ (a1 = w4)) :
    MetFree l (⟨"com/example/kozir_tables/kozirtables/games/Side", "of", "(Lcom/example/kozir_tables/kozirtables/games/Seat;)Lcom/example/kozir_tables/kozirtables/games/Side;"⟩ : MethodName) (head1 (Jvm.Cond.code (⟨"com/example/kozir_tables/kozirtables/games/Side", "of", "(Lcom/example/kozir_tables/kozirtables/games/Seat;)Lcom/example/kozir_tables/kozirtables/games/Side;"⟩ : MethodName) prog_47_method_4_code 1 (some (.object "com/example/kozir_tables/kozirtables/games/Side")) :: ws) ({ frames := 0, cells := 0, slots := 0, locals := 0 } : Room)) (fun a U => a = #[(.ref a1)] ∧ Z.Warmed39 U.vm ∧ U.heap = h0) (fun _ _ _ _ _ => True) (fun _ U o U' => ∃ v L, o = .returned v ∧ own_QV (some (.ref w6)) h0 n0 v U'.heap L ∧ FrameEnd U o U' L ({ frames := 0, cells := 0, slots := 0, locals := 0 } : Room).cells ({ frames := 0, cells := 0, slots := 0, locals := 0 } : Room).slots) := by
  refine MetFree.of_bodySF (plainFor_of_name pn_3) hisR ?_
  intro p e s m args below meth c s₁ Bd hml0 hP hK
  obtain ⟨rfl, hZ, hh⟩ := hP
  have hx := Bd.exec
  have hby := Bd.bytes
  have hml : c.maxLocals = 1 := hml0
  have hown : s.vm.findClass "com/example/kozir_tables/kozirtables/games/Side" = some m.cls := findClass_of_methodNamed Bd.named
  have hnm := (name_of_methodNamed Bd.named Bd.method).1
  have X0 : Stand p l e ({ frames := 0, cells := 0, slots := 0, locals := 0 } : Room) s m #[(.ref a1)] below meth c s₁ [] 0 0 := Stand.of_body Bd
  have e0 : s₁.heap = h0 := by rw [← hh, Bd.state]; rfl
  have N0 := Fr.nil n0
  have pre0 : ∀ t, Steps p.tables e below (s₁.setTop (mkF m 0 #[.val (.ref a1)] [])) t → Steps p.tables e below (s₁.setTop (entryFrame m #[(.ref a1)] 1)) t := fun t k => castTop (ef_3 m a1) k
  obtain ⟨T3, X3, e3, st3⟩ := getS2 X0 hx hZ hown (host := "") (Or.inl (hw _ (List.mem_of_getElem? (i := 21) rfl))) Via.refl e0 S_N (g := (mkF m 1 #[.val (.ref a1)] [(.ref a1)])) rfl (hb hby d3_1)
  obtain ⟨T5, X5, e5, st5⟩ := getS2 X3 hx hZ hown (host := "") (Or.inl (hw _ (List.mem_of_getElem? (i := 23) rfl))) Via.refl e3 S_S (g := (mkF m 8 #[.val (.ref a1)] [(.ref a1)])) rfl (hb hby d3_8)
  obtain ⟨T7, X7, e7, st7⟩ := getS2 X5 hx hZ hown (host := "") (Or.inl (hw _ (List.mem_of_getElem? (i := 16) rfl))) Via.refl e5 S_EW (g := (mkF m 20 #[.val (.ref a1)] [])) rfl (hb hby d3_20)
  obtain ⟨fs, hr, hrun, hended, hW, hsame⟩ := X7.leave (v := some (.ref w6)) (fun h => by rw [Bd.returns] at h; cases h)
  refine ⟨_, _, pre0 _ ?_, hrun, hended, _, _, rfl, ?_, ⟨_, rfl⟩, hW, hsame.mono (by decide) (by decide)⟩
  · show Steps p.tables e below (s₁.setTop (mkF m 0 #[.val (.ref a1)] [])) _
    refine XS.aloadN X0.here hx rfl (hb hby d3_0) rfl rfl ?_
    show Steps p.tables e below (s₁.setTop (mkF m 1 #[.val (.ref a1)] [(.ref a1)])) _
    refine st3 _ ?_
    show Steps p.tables e below (T3.setTop (mkF m 4 #[.val (.ref a1)] [(.ref w2), (.ref a1)])) _
    refine Jvm.RoadKit.acmp (g := (mkF m 4 #[.val (.ref a1)] [(.ref w2), (.ref a1)])) X3 hx rfl rfl rfl (pc0 := 4) (pc' := 7) (same := false) rfl (hb hby d3_4) rfl (decide_eq_false fun q => ha4 (Value.ref.inj q)) (by decide) (by decide) ?_
    show Steps p.tables e below (T3.setTop (mkF m 7 #[.val (.ref a1)] [])) _
    refine XS.aloadN X3.here hx rfl (hb hby d3_7) rfl rfl ?_
    show Steps p.tables e below (T3.setTop (mkF m 8 #[.val (.ref a1)] [(.ref a1)])) _
    refine st5 _ ?_
    show Steps p.tables e below (T5.setTop (mkF m 11 #[.val (.ref a1)] [(.ref w4), (.ref a1)])) _
    refine Jvm.RoadKit.acmp (g := (mkF m 11 #[.val (.ref a1)] [(.ref w4), (.ref a1)])) X5 hx rfl rfl rfl (pc0 := 11) (pc' := 20) (same := false) rfl (hb hby d3_11) rfl (decide_eq_false fun q => ha11 (Value.ref.inj q)) (by decide) (by decide) ?_
    show Steps p.tables e below (T5.setTop (mkF m 20 #[.val (.ref a1)] [])) _
    refine st7 _ ?_
    show Steps p.tables e below (T7.setTop (mkF m 23 #[.val (.ref a1)] [(.ref w6)])) _
    jvm_step X7.here [X7.here.top, hx, (hb hby d3_23), X7.method', Bd.returns, Value.isRef, FieldType.isReference]
    first | (intro acts; rw [hr _ acts rfl rfl rfl]) | rw [hr _ _ rfl rfl rfl]
    exact Steps.refl _
  · show own_QV (some (.ref w6)) h0 n0 _ T7.heap _
    rw [e7]
    exact ⟨rfl, N0, rfl⟩
def own_seat (k : Int32) (sN sE sS sW : Addr) : Addr := if k = 0 then sN else if k = 1 then sE else if k = 2 then sS else sW
def own_other (a ns ew : Addr) : Addr := if a = ns then ew else ns
def own_of (a sN sS ns ew : Addr) : Addr := if a = sN then ns else if a = sS then ns else ew
theorem rm1 (l : Launch) (Z : State) (a0 : Array Value) (hw : ∀ d ∈ tables_1, d.before a0 Z = true) (ws : List Jvm.Cond) (p1 : Int32) (sN sE sS sW r : Addr) (h0 : Heap) (n0 : Nat) (Z0 : n0 ≤ h0.size) (SN : Sta Z h0 "com/example/kozir_tables/kozirtables/games/Seat" "N" "Lcom/example/kozir_tables/kozirtables/games/Seat;" (.ref sN)) (SE : Sta Z h0 "com/example/kozir_tables/kozirtables/games/Seat" "E" "Lcom/example/kozir_tables/kozirtables/games/Seat;" (.ref sE)) (SS : Sta Z h0 "com/example/kozir_tables/kozirtables/games/Seat" "S" "Lcom/example/kozir_tables/kozirtables/games/Seat;" (.ref sS)) (SW : Sta Z h0 "com/example/kozir_tables/kozirtables/games/Seat" "W" "Lcom/example/kozir_tables/kozirtables/games/Seat;" (.ref sW)) (hr : r = own_seat p1 sN sE sS sW) :
    MetFree l (⟨"com/example/kozir_tables/kozirtables/games/SideOtherPinLaw", "seatOf", "(I)Lcom/example/kozir_tables/kozirtables/games/Seat;"⟩ : MethodName) (head1 (Jvm.Cond.code (⟨"com/example/kozir_tables/kozirtables/games/SideOtherPinLaw", "seatOf", "(I)Lcom/example/kozir_tables/kozirtables/games/Seat;"⟩ : MethodName) method_2_code 1 (some (.object "com/example/kozir_tables/kozirtables/games/Seat")) :: ws) ({ frames := 0, cells := 0, slots := 0, locals := 0 } : Room)) (fun a U => a = #[(.int p1)] ∧ Z.Warmed39 U.vm ∧ U.heap = h0) (fun _ _ _ _ _ => True) (fun _ U o U' => ∃ v L, o = .returned v ∧ own_QV (some (.ref r)) h0 n0 v U'.heap L ∧ FrameEnd U o U' L ({ frames := 0, cells := 0, slots := 0, locals := 0 } : Room).cells ({ frames := 0, cells := 0, slots := 0, locals := 0 } : Room).slots) := by
  by_cases c0 : p1 = (0 : Int32)
  · obtain rfl : r = sN := by rw [hr, own_seat, if_pos c0]
    exact rm1_f l Z a0 hw ws p1 _ h0 n0 Z0 SN c0
  · by_cases c1 : p1 = (1 : Int32)
    · obtain rfl : r = sE := by rw [hr, own_seat, if_neg c0, if_pos c1]
      exact rm1_tf l Z a0 hw ws p1 _ h0 n0 Z0 SE c0 c1
    · by_cases c2 : p1 = (2 : Int32)
      · obtain rfl : r = sS := by rw [hr, own_seat, if_neg c0, if_neg c1, if_pos c2]
        exact rm1_ttf l Z a0 hw ws p1 _ h0 n0 Z0 SS c0 c1 c2
      · obtain rfl : r = sW := by rw [hr, own_seat, if_neg c0, if_neg c1, if_neg c2]
        exact rm1_ttt l Z a0 hw ws p1 _ h0 n0 Z0 SW c0 c1 c2
theorem rm2 (l : Launch) (Z : State) (a0 : Array Value) (hw : ∀ d ∈ tables_1, d.before a0 Z = true) (ws : List Jvm.Cond) (a1 ns ew r : Addr) (h0 : Heap) (n0 : Nat) (Z0 : n0 ≤ h0.size) (SNS : Sta Z h0 "com/example/kozir_tables/kozirtables/games/Side" "NS" "Lcom/example/kozir_tables/kozirtables/games/Side;" (.ref ns)) (SEW : Sta Z h0 "com/example/kozir_tables/kozirtables/games/Side" "EW" "Lcom/example/kozir_tables/kozirtables/games/Side;" (.ref ew)) (hr : r = own_other a1 ns ew) :
    MetFree l (⟨"com/example/kozir_tables/kozirtables/games/Side", "other", "()Lcom/example/kozir_tables/kozirtables/games/Side;"⟩ : MethodName) (head1 (Jvm.Cond.code (⟨"com/example/kozir_tables/kozirtables/games/Side", "other", "()Lcom/example/kozir_tables/kozirtables/games/Side;"⟩ : MethodName) prog_47_method_5_code 1 (some (.object "com/example/kozir_tables/kozirtables/games/Side")) :: ws) ({ frames := 0, cells := 0, slots := 0, locals := 0 } : Room)) (fun a U => a = #[(.ref a1)] ∧ Z.Warmed39 U.vm ∧ U.heap = h0) (fun _ _ _ _ _ => True) (fun _ U o U' => ∃ v L, o = .returned v ∧ own_QV (some (.ref r)) h0 n0 v U'.heap L ∧ FrameEnd U o U' L ({ frames := 0, cells := 0, slots := 0, locals := 0 } : Room).cells ({ frames := 0, cells := 0, slots := 0, locals := 0 } : Room).slots) := by
  by_cases c0 : a1 = ns
  · obtain rfl : r = ew := by rw [hr, own_other, if_pos c0]
    exact rm2_f l Z a0 hw ws a1 _ _ h0 n0 Z0 SNS SEW c0
  · obtain rfl : r = ns := by rw [hr, own_other, if_neg c0]
    exact rm2_t l Z a0 hw ws a1 _ h0 n0 Z0 SNS c0
theorem rm3 (l : Launch) (Z : State) (a0 : Array Value) (hw : ∀ d ∈ tables_1, d.before a0 Z = true) (ws : List Jvm.Cond) (a1 sN sS ns ew r : Addr) (h0 : Heap) (n0 : Nat) (Z0 : n0 ≤ h0.size) (SN : Sta Z h0 "com/example/kozir_tables/kozirtables/games/Seat" "N" "Lcom/example/kozir_tables/kozirtables/games/Seat;" (.ref sN)) (SS : Sta Z h0 "com/example/kozir_tables/kozirtables/games/Seat" "S" "Lcom/example/kozir_tables/kozirtables/games/Seat;" (.ref sS)) (SNS : Sta Z h0 "com/example/kozir_tables/kozirtables/games/Side" "NS" "Lcom/example/kozir_tables/kozirtables/games/Side;" (.ref ns)) (SEW : Sta Z h0 "com/example/kozir_tables/kozirtables/games/Side" "EW" "Lcom/example/kozir_tables/kozirtables/games/Side;" (.ref ew)) (hr : r = own_of a1 sN sS ns ew) :
    MetFree l (⟨"com/example/kozir_tables/kozirtables/games/Side", "of", "(Lcom/example/kozir_tables/kozirtables/games/Seat;)Lcom/example/kozir_tables/kozirtables/games/Side;"⟩ : MethodName) (head1 (Jvm.Cond.code (⟨"com/example/kozir_tables/kozirtables/games/Side", "of", "(Lcom/example/kozir_tables/kozirtables/games/Seat;)Lcom/example/kozir_tables/kozirtables/games/Side;"⟩ : MethodName) prog_47_method_4_code 1 (some (.object "com/example/kozir_tables/kozirtables/games/Side")) :: ws) ({ frames := 0, cells := 0, slots := 0, locals := 0 } : Room)) (fun a U => a = #[(.ref a1)] ∧ Z.Warmed39 U.vm ∧ U.heap = h0) (fun _ _ _ _ _ => True) (fun _ U o U' => ∃ v L, o = .returned v ∧ own_QV (some (.ref r)) h0 n0 v U'.heap L ∧ FrameEnd U o U' L ({ frames := 0, cells := 0, slots := 0, locals := 0 } : Room).cells ({ frames := 0, cells := 0, slots := 0, locals := 0 } : Room).slots) := by
  by_cases c0 : a1 = sN
  · obtain rfl : r = ns := by rw [hr, own_of, if_pos c0]
    exact rm3_t l Z a0 hw ws a1 _ _ h0 n0 Z0 SN SNS c0
  · by_cases c1 : a1 = sS
    · obtain rfl : r = ns := by rw [hr, own_of, if_neg c0, if_pos c1]
      exact rm3_ff l Z a0 hw ws a1 _ _ _ h0 n0 Z0 SN SS SNS c0 c1
    · obtain rfl : r = ew := by rw [hr, own_of, if_neg c0, if_neg c1]
      exact rm3_ft l Z a0 hw ws a1 _ _ _ h0 n0 Z0 SN SS SEW c0 c1
set_option maxRecDepth 65536 in
set_option maxHeartbeats 40000000 in
theorem rm0_f (l : Launch) (Z : State) (a0 : Array Value) (hw : ∀ d ∈ tables_1, d.before a0 Z = true) (ws : List Jvm.Cond) (p1 : Int32) (p2 : Int32) (w3 : Addr) (ns ew sN sE sS sW wv st o1 hre nx th : Addr) (cl : Cell) (ov : Int32) (h0 : Heap) (n0 : Nat) (Z0 : n0 ≤ h0.size) (S_NS : Sta Z h0 "com/example/kozir_tables/kozirtables/games/Side" "NS" "Lcom/example/kozir_tables/kozirtables/games/Side;" (.ref w3)) (E_w3 : Exa Z h0 w3 "com/example/kozir_tables/kozirtables/games/Side") (E_o1 : Exa Z h0 o1 "com/example/kozir_tables/kozirtables/games/Side") (E_st : Exa Z h0 st "com/example/kozir_tables/kozirtables/games/Seat") (E_hre : Exa Z h0 hre "com/example/kozir_tables/kozirtables/games/Side") (hc3 : (p1 &&& (1 : Int32)) = (0 : Int32)) (ha39 : ¬ (o1 = w3)) (hc99 : ¬ ((1 : Int32) = (0 : Int32))) (hc104 : ¬ ((1 : Int32) = (0 : Int32))) (hc109 : ¬ ((1 : Int32) = (0 : Int32))) (SNS : Sta Z h0 "com/example/kozir_tables/kozirtables/games/Side" "NS" "Lcom/example/kozir_tables/kozirtables/games/Side;" (.ref ns)) (SEW : Sta Z h0 "com/example/kozir_tables/kozirtables/games/Side" "EW" "Lcom/example/kozir_tables/kozirtables/games/Side;" (.ref ew)) (SN : Sta Z h0 "com/example/kozir_tables/kozirtables/games/Seat" "N" "Lcom/example/kozir_tables/kozirtables/games/Seat;" (.ref sN)) (SE : Sta Z h0 "com/example/kozir_tables/kozirtables/games/Seat" "E" "Lcom/example/kozir_tables/kozirtables/games/Seat;" (.ref sE)) (SS : Sta Z h0 "com/example/kozir_tables/kozirtables/games/Seat" "S" "Lcom/example/kozir_tables/kozirtables/games/Seat;" (.ref sS)) (SW : Sta Z h0 "com/example/kozir_tables/kozirtables/games/Seat" "W" "Lcom/example/kozir_tables/kozirtables/games/Seat;" (.ref sW)) (Sv : Sta Z h0 "com/example/kozir_tables/kozirtables/games/Seat" "$VALUES" "[Lcom/example/kozir_tables/kozirtables/games/Seat;" (.ref wv)) (Av : Arr Z h0 wv cl (.object "com/example/kozir_tables/kozirtables/games/Seat")) (Fc : FitC Z cl) (hcap : cl.slots.size ≤ 4) (Ev : Exa Z h0 wv "[Lcom/example/kozir_tables/kozirtables/games/Seat;") (Sz : cl.slots.size = (4 : Int32).toNatClampNeg) (Fo : Fld Z h0 st "java/lang/Enum" "ordinal" "I" (.int ov)) (Hin : ¬ (((ov + (1 : Int32)) % (4 : Int32)) < 0 ∨ cl.slots.size ≤ (((ov + (1 : Int32)) % (4 : Int32))).toNatClampNeg)) (Hat : cl.slots[(((ov + (1 : Int32)) % (4 : Int32))).toNatClampNeg]? = some (.ref nx)) (h19 : st = own_seat (p2 &&& (3 : Int32)) sN sE sS sW) (h24 : o1 = own_other w3 ns ew) (h51 : w3 = own_other o1 ns ew) (h66 : hre = own_of st sN sS ns ew) (h75 : th = own_of nx sN sS ns ew) (h84 : th = own_other hre ns ew) :
    MetFree l x (head1 (Jvm.Cond.code x code maxLocals ret :: ws) room_1) (fun a U => a = #[(.int p1), (.int p2)] ∧ Z.Warmed39 U.vm ∧ U.heap = h0) (fun _ _ _ _ _ => True) (fun _ U o U' => ∃ v L, o = .returned v ∧ own_QL n0 v U'.heap L ∧ FrameEnd U o U' L room_1.cells room_1.slots) := by
  refine MetFree.of_bodySF (plainFor_of_name pn_0) hisR ?_
  intro p e s m args below meth c s₁ Bd hml0 hP hK
  obtain ⟨rfl, hZ, hh⟩ := hP
  have hx := Bd.exec
  have hby := Bd.bytes
  have hml : c.maxLocals = 10 := hml0
  have hown : s.vm.findClass "com/example/kozir_tables/kozirtables/games/SideOtherPinLaw" = some m.cls := findClass_of_methodNamed Bd.named
  have hnm := (name_of_methodNamed Bd.named Bd.method).1
  have X0 : Stand p l e room_1 s m #[(.int p1), (.int p2)] below meth c s₁ [] 0 0 := Stand.of_body Bd
  have e0 : s₁.heap = h0 := by rw [← hh, Bd.state]; rfl
  have N0 := Fr.nil n0
  have pre0 : ∀ t, Steps p.tables e below (s₁.setTop (mkF m 0 #[.val (.int p1), .val (.int p2), .unset, .unset, .unset, .unset, .unset, .unset, .unset, .unset] [])) t → Steps p.tables e below (s₁.setTop (entryFrame m #[(.int p1), (.int p2)] maxLocals)) t := fun t k => castTop (ef_0 m p1 p2) k
  obtain ⟨T4, X4, e4, st4⟩ := getS2 X0 hx hZ hown (host := "") (Or.inl (hw _ (List.mem_of_getElem? (i := 0) rfl))) Via.refl e0 S_NS (g := (mkF m 6 #[.val (.int p1), .val (.int p2), .unset, .unset, .unset, .unset, .unset, .unset, .unset, .unset] [])) rfl (hb hby at_6)
  obtain ⟨_, _, ⟨T5, L5, k5, n5⟩, -, X5, ⟨Lc5, hQ5, l5, y5, z5⟩, st5⟩ := Jvm.LawKit.callS X4 hx (y := (⟨"com/example/kozir_tables/kozirtables/games/SideOtherPinLaw", "seatOf", "(I)Lcom/example/kozir_tables/kozirtables/games/Seat;"⟩ : MethodName)) hown (mvT hZ (hw _ (List.mem_of_getElem? (i := 3) rfl))) (mvT hZ (hw _ (List.mem_of_getElem? (i := 4) rfl))) (mvT hZ (hw _ (List.mem_of_getElem? (i := 5) rfl))) (mvT hZ (hw _ (List.mem_of_getElem? (i := 6) rfl))) (by decide) (backOf (W := 0) (rm1 l Z a0 hw [] (p2 &&& (3 : Int32)) sN sE sS sW st h0 n0 Z0 SN SE SS SW h19) hZ (hw _ (List.mem_of_getElem? (i := 6) rfl)) (hw _ (List.mem_of_getElem? (i := 5) rfl)) (by decide) (by decide)) (g := (mkF m 19 #[.val (.int p1), .val (.int p2), .val (.ref w3), .unset, .unset, .unset, .unset, .unset, .unset, .unset] [(.int (p2 &&& (3 : Int32)))])) rfl (by rw [hml]; rfl) (argsL := [(.int (p2 &&& (3 : Int32)))]) (rest := []) (lenOf pd_0_0 rfl) rfl (by show 2 * 0 + _ ≤ _; exact Nat.le_of_eq rfl) (hb hby at_19) (fun _ _ => ⟨rfl, e4, (Nat.le_of_ble_eq_true rfl), (Nat.le_of_ble_eq_true rfl)⟩)
  dsimp only [Pt.U, Pt.locs, Pt.cells, Pt.slots] at X5 l5 y5 z5 st5 hQ5
  subst l5 y5 z5
  obtain ⟨rfl, N5q, eh5⟩ := hQ5
  have N5 := Fr.app N0 N5q
  obtain ⟨cq6, kq6, q6a, q6b, q6c⟩ := isOf hZ eh5 E_w3
  obtain ⟨_, _, ⟨T6, L6, k6, n6⟩, -, X6, ⟨Lc6, hQ6, l6, y6, z6⟩, st6⟩ := X5.virtualBack hx (y := (⟨"com/example/kozir_tables/kozirtables/games/Side", "other", "()Lcom/example/kozir_tables/kozirtables/games/Side;"⟩ : MethodName)) (z := (⟨"com/example/kozir_tables/kozirtables/games/Side", "other", "()Lcom/example/kozir_tables/kozirtables/games/Side;"⟩ : MethodName)) hown (mvT hZ (hw _ (List.mem_of_getElem? (i := 10) rfl))) (mvT hZ (hw _ (List.mem_of_getElem? (i := 11) rfl))) (notFace_of_selects (args := #[]) (mvT hZ (hw _ (List.mem_of_getElem? (i := 13) rfl)))) (mvT hZ (hw _ (List.mem_of_getElem? (i := 13) rfl))) (mvT hZ (hw _ (List.mem_of_getElem? (i := 12) rfl))) (by decide) (backOf (W := 0) (rm2 l Z a0 hw [] w3 ns ew o1 h0 n0 Z0 SNS SEW h24) hZ (hw _ (List.mem_of_getElem? (i := 14) rfl)) (hw _ (List.mem_of_getElem? (i := 1) rfl)) (by decide) (by decide)) q6a q6c (g := (mkF m 24 #[.val (.int p1), .val (.int p2), .val (.ref w3), .val (.ref st), .unset, .unset, .unset, .unset, .unset, .unset] [(.ref w3)])) rfl (by rw [hml]; rfl) (Steps.refl _) (argsL := []) (rest := []) (lenOf pd_0_1 rfl) rfl (by show 2 * 0 + _ ≤ _; exact Nat.le_of_eq rfl) (hb hby at_24) (fun _ _ => ⟨rfl, eh5, (Nat.le_of_ble_eq_true rfl), (Nat.le_of_ble_eq_true rfl)⟩)
  dsimp only [Pt.U, Pt.locs, Pt.cells, Pt.slots] at X6 l6 y6 z6 st6 hQ6
  subst l6 y6 z6
  obtain ⟨rfl, N6q, eh6⟩ := hQ6
  have N6 := Fr.app N5 N6q
  obtain ⟨cq7, kq7, q7a, q7b, q7c⟩ := isOf hZ eh6 E_o1
  obtain ⟨_, _, ⟨T7, L7, k7, n7⟩, -, X7, ⟨Lc7, hQ7, l7, y7, z7⟩, st7⟩ := X6.virtualBack hx (y := (⟨"com/example/kozir_tables/kozirtables/games/Side", "other", "()Lcom/example/kozir_tables/kozirtables/games/Side;"⟩ : MethodName)) (z := (⟨"com/example/kozir_tables/kozirtables/games/Side", "other", "()Lcom/example/kozir_tables/kozirtables/games/Side;"⟩ : MethodName)) hown (mvT hZ (hw _ (List.mem_of_getElem? (i := 10) rfl))) (mvT hZ (hw _ (List.mem_of_getElem? (i := 11) rfl))) (notFace_of_selects (args := #[]) (mvT hZ (hw _ (List.mem_of_getElem? (i := 13) rfl)))) (mvT hZ (hw _ (List.mem_of_getElem? (i := 13) rfl))) (mvT hZ (hw _ (List.mem_of_getElem? (i := 12) rfl))) (by decide) (backOf (W := 0) (rm2 l Z a0 hw [] o1 ns ew w3 h0 n0 Z0 SNS SEW h51) hZ (hw _ (List.mem_of_getElem? (i := 14) rfl)) (hw _ (List.mem_of_getElem? (i := 1) rfl)) (by decide) (by decide)) q7a q7c (g := (mkF m 51 #[.val (.int p1), .val (.int p2), .val (.ref w3), .val (.ref st), .val (.ref o1), .val (.int (1 : Int32)), .unset, .unset, .unset, .unset] [(.ref o1)])) rfl (by rw [hml]; rfl) (Steps.refl _) (argsL := []) (rest := []) (lenOf pd_0_1 rfl) rfl (by show 2 * 0 + _ ≤ _; exact Nat.le_of_eq rfl) (hb hby at_51) (fun _ _ => ⟨rfl, eh6, (Nat.le_of_ble_eq_true rfl), (Nat.le_of_ble_eq_true rfl)⟩)
  dsimp only [Pt.U, Pt.locs, Pt.cells, Pt.slots] at X7 l7 y7 z7 st7 hQ7
  subst l7 y7 z7
  obtain ⟨rfl, N7q, eh7⟩ := hQ7
  have N7 := Fr.app N6 N7q
  obtain ⟨_, _, ⟨T8, L8, k8, n8⟩, -, X8, ⟨Lc8, hQ8, l8, y8, z8⟩, st8⟩ := Jvm.LawKit.callS X7 hx (y := (⟨"com/example/kozir_tables/kozirtables/games/Side", "of", "(Lcom/example/kozir_tables/kozirtables/games/Seat;)Lcom/example/kozir_tables/kozirtables/games/Side;"⟩ : MethodName)) hown (mvT hZ (hw _ (List.mem_of_getElem? (i := 18) rfl))) (mvT hZ (hw _ (List.mem_of_getElem? (i := 19) rfl))) (mvT hZ (hw _ (List.mem_of_getElem? (i := 1) rfl))) (mvT hZ (hw _ (List.mem_of_getElem? (i := 20) rfl))) (by decide) (backOf (W := 0) (rm3 l Z a0 hw [] st sN sS ns ew hre h0 n0 Z0 SN SS SNS SEW h66) hZ (hw _ (List.mem_of_getElem? (i := 20) rfl)) (hw _ (List.mem_of_getElem? (i := 1) rfl)) (by decide) (by decide)) (g := (mkF m 66 #[.val (.int p1), .val (.int p2), .val (.ref w3), .val (.ref st), .val (.ref o1), .val (.int (1 : Int32)), .val (.int (1 : Int32)), .unset, .unset, .unset] [(.ref st)])) rfl (by rw [hml]; rfl) (argsL := [(.ref st)]) (rest := []) (lenOf pd_0_2 rfl) rfl (by show 2 * 0 + _ ≤ _; exact Nat.le_of_eq rfl) (hb hby at_66) (fun _ _ => ⟨rfl, eh7, (Nat.le_of_ble_eq_true rfl), (Nat.le_of_ble_eq_true rfl)⟩)
  dsimp only [Pt.U, Pt.locs, Pt.cells, Pt.slots] at X8 l8 y8 z8 st8 hQ8
  subst l8 y8 z8
  obtain ⟨rfl, N8q, eh8⟩ := hQ8
  have N8 := Fr.app N7 N8q
  obtain ⟨cq9, kq9, q9a, q9b, q9c⟩ := isOf hZ eh8 E_st
  obtain ⟨_, _, ⟨T9, L9, k9, n9⟩, -, X9, ⟨Lc9, hQ9, l9, y9, z9⟩, st9⟩ := X8.virtualBack hx (y := (⟨"com/example/kozir_tables/kozirtables/games/Seat", "next", "()Lcom/example/kozir_tables/kozirtables/games/Seat;"⟩ : MethodName)) (z := (⟨"com/example/kozir_tables/kozirtables/games/Seat", "next", "()Lcom/example/kozir_tables/kozirtables/games/Seat;"⟩ : MethodName)) hown (mvT hZ (hw _ (List.mem_of_getElem? (i := 25) rfl))) (mvT hZ (hw _ (List.mem_of_getElem? (i := 26) rfl))) (notFace_of_selects (args := #[]) (mvT hZ (hw _ (List.mem_of_getElem? (i := 28) rfl)))) (mvT hZ (hw _ (List.mem_of_getElem? (i := 28) rfl))) (mvT hZ (hw _ (List.mem_of_getElem? (i := 27) rfl))) (by decide) (backOf (W := 0) (rm4 l Z a0 hw [] st wv cl ov nx h0 n0 Z0 E_st Fo Sv Av Fc hcap Ev Sz Hin Hat) hZ (hw _ (List.mem_of_getElem? (i := 29) rfl)) (hw _ (List.mem_of_getElem? (i := 8) rfl)) (by decide) (by decide)) q9a q9c (g := (mkF m 72 #[.val (.int p1), .val (.int p2), .val (.ref w3), .val (.ref st), .val (.ref o1), .val (.int (1 : Int32)), .val (.int (1 : Int32)), .val (.ref hre), .unset, .unset] [(.ref st)])) rfl (by rw [hml]; rfl) (Steps.refl _) (argsL := []) (rest := []) (lenOf pd_0_3 rfl) rfl (by show 2 * 0 + _ ≤ _; exact Nat.le_of_eq rfl) (hb hby at_72) (fun _ _ => ⟨rfl, eh8, (Nat.le_of_ble_eq_true rfl), (Nat.le_of_ble_eq_true rfl)⟩)
  dsimp only [Pt.U, Pt.locs, Pt.cells, Pt.slots] at X9 l9 y9 z9 st9 hQ9
  subst l9 y9 z9
  obtain ⟨rfl, N9q, EX⟩ := hQ9
  have KX : Keep h0 T9.heap [] := (Keep.refl _ _).ext EX
  have N9 := Fr.app N8 N9q
  obtain ⟨_, _, ⟨T10, L10, k10, n10⟩, -, X10, ⟨Lc10, hQ10, l10, y10, z10⟩, st10⟩ := Jvm.LawKit.callS X9 hx (y := (⟨"com/example/kozir_tables/kozirtables/games/Side", "of", "(Lcom/example/kozir_tables/kozirtables/games/Seat;)Lcom/example/kozir_tables/kozirtables/games/Side;"⟩ : MethodName)) hown (mvT hZ (hw _ (List.mem_of_getElem? (i := 18) rfl))) (mvT hZ (hw _ (List.mem_of_getElem? (i := 19) rfl))) (mvT hZ (hw _ (List.mem_of_getElem? (i := 1) rfl))) (mvT hZ (hw _ (List.mem_of_getElem? (i := 20) rfl))) (by decide) (backOf (W := 0) (rm3 l Z a0 hw [] nx sN sS ns ew th T9.heap n0 (Nat.le_trans Z0 KX.1) (SN.ext EX) (SS.ext EX) (SNS.ext EX) (SEW.ext EX) h75) hZ (hw _ (List.mem_of_getElem? (i := 20) rfl)) (hw _ (List.mem_of_getElem? (i := 1) rfl)) (by decide) (by decide)) (g := (mkF m 75 #[.val (.int p1), .val (.int p2), .val (.ref w3), .val (.ref st), .val (.ref o1), .val (.int (1 : Int32)), .val (.int (1 : Int32)), .val (.ref hre), .unset, .unset] [(.ref nx)])) rfl (by rw [hml]; rfl) (argsL := [(.ref nx)]) (rest := []) (lenOf pd_0_2 rfl) rfl (by show 2 * 0 + _ ≤ _; exact Nat.le_of_eq rfl) (hb hby at_75) (fun _ _ => ⟨rfl, rfl, (Nat.le_of_ble_eq_true rfl), (Nat.le_of_ble_eq_true rfl)⟩)
  dsimp only [Pt.U, Pt.locs, Pt.cells, Pt.slots] at X10 l10 y10 z10 st10 hQ10
  subst l10 y10 z10
  obtain ⟨rfl, N10q, eh10⟩ := hQ10
  have N10 := Fr.app N9 N10q
  obtain ⟨cq11, kq11, q11a, q11b, q11c⟩ := isOf hZ eh10 (E_hre.keep KX)
  obtain ⟨_, _, ⟨T11, L11, k11, n11⟩, -, X11, ⟨Lc11, hQ11, l11, y11, z11⟩, st11⟩ := X10.virtualBack hx (y := (⟨"com/example/kozir_tables/kozirtables/games/Side", "other", "()Lcom/example/kozir_tables/kozirtables/games/Side;"⟩ : MethodName)) (z := (⟨"com/example/kozir_tables/kozirtables/games/Side", "other", "()Lcom/example/kozir_tables/kozirtables/games/Side;"⟩ : MethodName)) hown (mvT hZ (hw _ (List.mem_of_getElem? (i := 10) rfl))) (mvT hZ (hw _ (List.mem_of_getElem? (i := 11) rfl))) (notFace_of_selects (args := #[]) (mvT hZ (hw _ (List.mem_of_getElem? (i := 13) rfl)))) (mvT hZ (hw _ (List.mem_of_getElem? (i := 13) rfl))) (mvT hZ (hw _ (List.mem_of_getElem? (i := 12) rfl))) (by decide) (backOf (W := 1) (rm2 l Z a0 hw [] hre ns ew th T9.heap n0 (Nat.le_trans Z0 KX.1) (SNS.ext EX) (SEW.ext EX) h84) hZ (hw _ (List.mem_of_getElem? (i := 14) rfl)) (hw _ (List.mem_of_getElem? (i := 1) rfl)) (by decide) (by decide)) q11a q11c (g := (mkF m 84 #[.val (.int p1), .val (.int p2), .val (.ref w3), .val (.ref st), .val (.ref o1), .val (.int (1 : Int32)), .val (.int (1 : Int32)), .val (.ref hre), .val (.ref th), .unset] [(.ref hre), (.ref th)])) rfl (by rw [hml]; rfl) (Steps.refl _) (argsL := []) (rest := [(.ref th)]) (lenOf pd_0_1 rfl) rfl (by show 2 * 0 + _ ≤ _; exact Nat.le_of_eq rfl) (hb hby at_84) (fun _ _ => ⟨rfl, eh10, (Nat.le_of_ble_eq_true rfl), (Nat.le_of_ble_eq_true rfl)⟩)
  dsimp only [Pt.U, Pt.locs, Pt.cells, Pt.slots] at X11 l11 y11 z11 st11 hQ11
  subst l11 y11 z11
  obtain ⟨rfl, N11q, eh11⟩ := hQ11
  have N11 := Fr.app N10 N11q
  obtain ⟨fs, hr, hrun, hended, hW, hsame⟩ := X11.leave (v := some (.int (1 : Int32))) (fun h => by rw [Bd.returns] at h; cases h)
  refine ⟨_, _, pre0 _ ?_, hrun, hended, _, _, rfl, ?_, ⟨_, rfl⟩, hW, hsame.mono (by decide) (by decide)⟩
  · show Steps p.tables e below (s₁.setTop (mkF m 0 #[.val (.int p1), .val (.int p2), .unset, .unset, .unset, .unset, .unset, .unset, .unset, .unset] [])) _
    refine XS.iloadN X0.here hx rfl (hb hby at_0) rfl ?_
    show Steps p.tables e below (s₁.setTop (mkF m 1 #[.val (.int p1), .val (.int p2), .unset, .unset, .unset, .unset, .unset, .unset, .unset, .unset] [(.int p1)])) _
    refine XS.iconst X0.here hx rfl (hb hby at_1) ?_
    show Steps p.tables e below (s₁.setTop (mkF m 2 #[.val (.int p1), .val (.int p2), .unset, .unset, .unset, .unset, .unset, .unset, .unset, .unset] [(.int (1 : Int32)), (.int p1)])) _
    refine XS.iand X0.here hx rfl (hb hby at_2) rfl ?_
    show Steps p.tables e below (s₁.setTop (mkF m 3 #[.val (.int p1), .val (.int p2), .unset, .unset, .unset, .unset, .unset, .unset, .unset, .unset] [(.int (p1 &&& (1 : Int32)))])) _
    refine XS.ifNo X0.here hx rfl (hb hby at_3) rfl ((if0 _ _).trans (teq hc3).2) ?_
    show Steps p.tables e below (s₁.setTop (mkF m 6 #[.val (.int p1), .val (.int p2), .unset, .unset, .unset, .unset, .unset, .unset, .unset, .unset] [])) _
    refine st4 _ ?_
    show Steps p.tables e below (T4.setTop (mkF m 9 #[.val (.int p1), .val (.int p2), .unset, .unset, .unset, .unset, .unset, .unset, .unset, .unset] [(.ref w3)])) _
    refine XS.goto X4.here hx rfl (pc0 := 9) (pc' := 15) rfl (hb hby at_9) (by decide) (by decide) ?_
    show Steps p.tables e below (T4.setTop (mkF m 15 #[.val (.int p1), .val (.int p2), .unset, .unset, .unset, .unset, .unset, .unset, .unset, .unset] [(.ref w3)])) _
    refine XS.astoreN X4.here hx rfl (hb hby at_15) rfl rfl (l' := #[.val (.int p1), .val (.int p2), .val (.ref w3), .unset, .unset, .unset, .unset, .unset, .unset, .unset]) rfl ?_
    show Steps p.tables e below (T4.setTop (mkF m 16 #[.val (.int p1), .val (.int p2), .val (.ref w3), .unset, .unset, .unset, .unset, .unset, .unset, .unset] [])) _
    refine XS.iloadN X4.here hx rfl (hb hby at_16) rfl ?_
    show Steps p.tables e below (T4.setTop (mkF m 17 #[.val (.int p1), .val (.int p2), .val (.ref w3), .unset, .unset, .unset, .unset, .unset, .unset, .unset] [(.int p2)])) _
    refine XS.iconst X4.here hx rfl (hb hby at_17) ?_
    show Steps p.tables e below (T4.setTop (mkF m 18 #[.val (.int p1), .val (.int p2), .val (.ref w3), .unset, .unset, .unset, .unset, .unset, .unset, .unset] [(.int (3 : Int32)), (.int p2)])) _
    refine XS.iand X4.here hx rfl (hb hby at_18) rfl ?_
    show Steps p.tables e below (T4.setTop (mkF m 19 #[.val (.int p1), .val (.int p2), .val (.ref w3), .unset, .unset, .unset, .unset, .unset, .unset, .unset] [(.int (p2 &&& (3 : Int32)))])) _
    refine st5 _ ?_
    show Steps p.tables e below (T5.setTop (mkF m 22 #[.val (.int p1), .val (.int p2), .val (.ref w3), .unset, .unset, .unset, .unset, .unset, .unset, .unset] [(.ref st)])) _
    refine XS.astoreN X5.here hx rfl (hb hby at_22) rfl rfl (l' := #[.val (.int p1), .val (.int p2), .val (.ref w3), .val (.ref st), .unset, .unset, .unset, .unset, .unset, .unset]) rfl ?_
    show Steps p.tables e below (T5.setTop (mkF m 23 #[.val (.int p1), .val (.int p2), .val (.ref w3), .val (.ref st), .unset, .unset, .unset, .unset, .unset, .unset] [])) _
    refine XS.aloadN X5.here hx rfl (hb hby at_23) rfl rfl ?_
    show Steps p.tables e below (T5.setTop (mkF m 24 #[.val (.int p1), .val (.int p2), .val (.ref w3), .val (.ref st), .unset, .unset, .unset, .unset, .unset, .unset] [(.ref w3)])) _
    refine st6.trans ?_
    show Steps p.tables e below (T6.setTop (mkF m 27 #[.val (.int p1), .val (.int p2), .val (.ref w3), .val (.ref st), .unset, .unset, .unset, .unset, .unset, .unset] [(.ref o1)])) _
    refine XS.astore X6.here hx rfl (hb hby at_27) rfl rfl (l' := #[.val (.int p1), .val (.int p2), .val (.ref w3), .val (.ref st), .val (.ref o1), .unset, .unset, .unset, .unset, .unset]) rfl ?_
    show Steps p.tables e below (T6.setTop (mkF m 29 #[.val (.int p1), .val (.int p2), .val (.ref w3), .val (.ref st), .val (.ref o1), .unset, .unset, .unset, .unset, .unset] [])) _
    refine XS.aload X6.here hx rfl (hb hby at_29) rfl rfl ?_
    show Steps p.tables e below (T6.setTop (mkF m 31 #[.val (.int p1), .val (.int p2), .val (.ref w3), .val (.ref st), .val (.ref o1), .unset, .unset, .unset, .unset, .unset] [(.ref o1)])) _
    refine XS.ifnonnullYes X6.here hx rfl (pc0 := 31) (pc' := 36) rfl (hb hby at_31) rfl (by decide) (by decide) ?_
    show Steps p.tables e below (T6.setTop (mkF m 36 #[.val (.int p1), .val (.int p2), .val (.ref w3), .val (.ref st), .val (.ref o1), .unset, .unset, .unset, .unset, .unset] [])) _
    refine XS.aload X6.here hx rfl (hb hby at_36) rfl rfl ?_
    show Steps p.tables e below (T6.setTop (mkF m 38 #[.val (.int p1), .val (.int p2), .val (.ref w3), .val (.ref st), .val (.ref o1), .unset, .unset, .unset, .unset, .unset] [(.ref o1)])) _
    refine XS.aloadN X6.here hx rfl (hb hby at_38) rfl rfl ?_
    show Steps p.tables e below (T6.setTop (mkF m 39 #[.val (.int p1), .val (.int p2), .val (.ref w3), .val (.ref st), .val (.ref o1), .unset, .unset, .unset, .unset, .unset] [(.ref w3), (.ref o1)])) _
    refine Jvm.RoadKit.acmp (g := (mkF m 39 #[.val (.int p1), .val (.int p2), .val (.ref w3), .val (.ref st), .val (.ref o1), .unset, .unset, .unset, .unset, .unset] [(.ref w3), (.ref o1)])) X6 hx rfl rfl rfl (pc0 := 39) (pc' := 42) (same := false) rfl (hb hby at_39) rfl (decide_eq_false fun q => ha39 (Value.ref.inj q)) (by decide) (by decide) ?_
    show Steps p.tables e below (T6.setTop (mkF m 42 #[.val (.int p1), .val (.int p2), .val (.ref w3), .val (.ref st), .val (.ref o1), .unset, .unset, .unset, .unset, .unset] [])) _
    refine XS.iconst X6.here hx rfl (hb hby at_42) ?_
    show Steps p.tables e below (T6.setTop (mkF m 43 #[.val (.int p1), .val (.int p2), .val (.ref w3), .val (.ref st), .val (.ref o1), .unset, .unset, .unset, .unset, .unset] [(.int (1 : Int32))])) _
    refine XS.goto X6.here hx rfl (pc0 := 43) (pc' := 47) rfl (hb hby at_43) (by decide) (by decide) ?_
    show Steps p.tables e below (T6.setTop (mkF m 47 #[.val (.int p1), .val (.int p2), .val (.ref w3), .val (.ref st), .val (.ref o1), .unset, .unset, .unset, .unset, .unset] [(.int (1 : Int32))])) _
    refine XS.istore X6.here hx rfl (hb hby at_47) rfl (l' := #[.val (.int p1), .val (.int p2), .val (.ref w3), .val (.ref st), .val (.ref o1), .val (.int (1 : Int32)), .unset, .unset, .unset, .unset]) rfl ?_
    show Steps p.tables e below (T6.setTop (mkF m 49 #[.val (.int p1), .val (.int p2), .val (.ref w3), .val (.ref st), .val (.ref o1), .val (.int (1 : Int32)), .unset, .unset, .unset, .unset] [])) _
    refine XS.aload X6.here hx rfl (hb hby at_49) rfl rfl ?_
    show Steps p.tables e below (T6.setTop (mkF m 51 #[.val (.int p1), .val (.int p2), .val (.ref w3), .val (.ref st), .val (.ref o1), .val (.int (1 : Int32)), .unset, .unset, .unset, .unset] [(.ref o1)])) _
    refine st7.trans ?_
    show Steps p.tables e below (T7.setTop (mkF m 54 #[.val (.int p1), .val (.int p2), .val (.ref w3), .val (.ref st), .val (.ref o1), .val (.int (1 : Int32)), .unset, .unset, .unset, .unset] [(.ref w3)])) _
    refine XS.aloadN X7.here hx rfl (hb hby at_54) rfl rfl ?_
    show Steps p.tables e below (T7.setTop (mkF m 55 #[.val (.int p1), .val (.int p2), .val (.ref w3), .val (.ref st), .val (.ref o1), .val (.int (1 : Int32)), .unset, .unset, .unset, .unset] [(.ref w3), (.ref w3)])) _
    refine Jvm.RoadKit.acmp (g := (mkF m 55 #[.val (.int p1), .val (.int p2), .val (.ref w3), .val (.ref st), .val (.ref o1), .val (.int (1 : Int32)), .unset, .unset, .unset, .unset] [(.ref w3), (.ref w3)])) X7 hx rfl rfl rfl (pc0 := 55) (pc' := 58) (same := true) rfl (hb hby at_55) rfl (decide_eq_true rfl) (by decide) (by decide) ?_
    show Steps p.tables e below (T7.setTop (mkF m 58 #[.val (.int p1), .val (.int p2), .val (.ref w3), .val (.ref st), .val (.ref o1), .val (.int (1 : Int32)), .unset, .unset, .unset, .unset] [])) _
    refine XS.iconst X7.here hx rfl (hb hby at_58) ?_
    show Steps p.tables e below (T7.setTop (mkF m 59 #[.val (.int p1), .val (.int p2), .val (.ref w3), .val (.ref st), .val (.ref o1), .val (.int (1 : Int32)), .unset, .unset, .unset, .unset] [(.int (1 : Int32))])) _
    refine XS.goto X7.here hx rfl (pc0 := 59) (pc' := 63) rfl (hb hby at_59) (by decide) (by decide) ?_
    show Steps p.tables e below (T7.setTop (mkF m 63 #[.val (.int p1), .val (.int p2), .val (.ref w3), .val (.ref st), .val (.ref o1), .val (.int (1 : Int32)), .unset, .unset, .unset, .unset] [(.int (1 : Int32))])) _
    refine XS.istore X7.here hx rfl (hb hby at_63) rfl (l' := #[.val (.int p1), .val (.int p2), .val (.ref w3), .val (.ref st), .val (.ref o1), .val (.int (1 : Int32)), .val (.int (1 : Int32)), .unset, .unset, .unset]) rfl ?_
    show Steps p.tables e below (T7.setTop (mkF m 65 #[.val (.int p1), .val (.int p2), .val (.ref w3), .val (.ref st), .val (.ref o1), .val (.int (1 : Int32)), .val (.int (1 : Int32)), .unset, .unset, .unset] [])) _
    refine XS.aloadN X7.here hx rfl (hb hby at_65) rfl rfl ?_
    show Steps p.tables e below (T7.setTop (mkF m 66 #[.val (.int p1), .val (.int p2), .val (.ref w3), .val (.ref st), .val (.ref o1), .val (.int (1 : Int32)), .val (.int (1 : Int32)), .unset, .unset, .unset] [(.ref st)])) _
    refine st8 _ ?_
    show Steps p.tables e below (T8.setTop (mkF m 69 #[.val (.int p1), .val (.int p2), .val (.ref w3), .val (.ref st), .val (.ref o1), .val (.int (1 : Int32)), .val (.int (1 : Int32)), .unset, .unset, .unset] [(.ref hre)])) _
    refine XS.astore X8.here hx rfl (hb hby at_69) rfl rfl (l' := #[.val (.int p1), .val (.int p2), .val (.ref w3), .val (.ref st), .val (.ref o1), .val (.int (1 : Int32)), .val (.int (1 : Int32)), .val (.ref hre), .unset, .unset]) rfl ?_
    show Steps p.tables e below (T8.setTop (mkF m 71 #[.val (.int p1), .val (.int p2), .val (.ref w3), .val (.ref st), .val (.ref o1), .val (.int (1 : Int32)), .val (.int (1 : Int32)), .val (.ref hre), .unset, .unset] [])) _
    refine XS.aloadN X8.here hx rfl (hb hby at_71) rfl rfl ?_
    show Steps p.tables e below (T8.setTop (mkF m 72 #[.val (.int p1), .val (.int p2), .val (.ref w3), .val (.ref st), .val (.ref o1), .val (.int (1 : Int32)), .val (.int (1 : Int32)), .val (.ref hre), .unset, .unset] [(.ref st)])) _
    refine st9.trans ?_
    show Steps p.tables e below (T9.setTop (mkF m 75 #[.val (.int p1), .val (.int p2), .val (.ref w3), .val (.ref st), .val (.ref o1), .val (.int (1 : Int32)), .val (.int (1 : Int32)), .val (.ref hre), .unset, .unset] [(.ref nx)])) _
    refine st10 _ ?_
    show Steps p.tables e below (T10.setTop (mkF m 78 #[.val (.int p1), .val (.int p2), .val (.ref w3), .val (.ref st), .val (.ref o1), .val (.int (1 : Int32)), .val (.int (1 : Int32)), .val (.ref hre), .unset, .unset] [(.ref th)])) _
    refine XS.astore X10.here hx rfl (hb hby at_78) rfl rfl (l' := #[.val (.int p1), .val (.int p2), .val (.ref w3), .val (.ref st), .val (.ref o1), .val (.int (1 : Int32)), .val (.int (1 : Int32)), .val (.ref hre), .val (.ref th), .unset]) rfl ?_
    show Steps p.tables e below (T10.setTop (mkF m 80 #[.val (.int p1), .val (.int p2), .val (.ref w3), .val (.ref st), .val (.ref o1), .val (.int (1 : Int32)), .val (.int (1 : Int32)), .val (.ref hre), .val (.ref th), .unset] [])) _
    refine XS.aload X10.here hx rfl (hb hby at_80) rfl rfl ?_
    show Steps p.tables e below (T10.setTop (mkF m 82 #[.val (.int p1), .val (.int p2), .val (.ref w3), .val (.ref st), .val (.ref o1), .val (.int (1 : Int32)), .val (.int (1 : Int32)), .val (.ref hre), .val (.ref th), .unset] [(.ref th)])) _
    refine XS.aload X10.here hx rfl (hb hby at_82) rfl rfl ?_
    show Steps p.tables e below (T10.setTop (mkF m 84 #[.val (.int p1), .val (.int p2), .val (.ref w3), .val (.ref st), .val (.ref o1), .val (.int (1 : Int32)), .val (.int (1 : Int32)), .val (.ref hre), .val (.ref th), .unset] [(.ref hre), (.ref th)])) _
    refine st11.trans ?_
    show Steps p.tables e below (T11.setTop (mkF m 87 #[.val (.int p1), .val (.int p2), .val (.ref w3), .val (.ref st), .val (.ref o1), .val (.int (1 : Int32)), .val (.int (1 : Int32)), .val (.ref hre), .val (.ref th), .unset] [(.ref th), (.ref th)])) _
    refine Jvm.RoadKit.acmp (g := (mkF m 87 #[.val (.int p1), .val (.int p2), .val (.ref w3), .val (.ref st), .val (.ref o1), .val (.int (1 : Int32)), .val (.int (1 : Int32)), .val (.ref hre), .val (.ref th), .unset] [(.ref th), (.ref th)])) X11 hx rfl rfl rfl (pc0 := 87) (pc' := 90) (same := true) rfl (hb hby at_87) rfl (decide_eq_true rfl) (by decide) (by decide) ?_
    show Steps p.tables e below (T11.setTop (mkF m 90 #[.val (.int p1), .val (.int p2), .val (.ref w3), .val (.ref st), .val (.ref o1), .val (.int (1 : Int32)), .val (.int (1 : Int32)), .val (.ref hre), .val (.ref th), .unset] [])) _
    refine XS.iconst X11.here hx rfl (hb hby at_90) ?_
    show Steps p.tables e below (T11.setTop (mkF m 91 #[.val (.int p1), .val (.int p2), .val (.ref w3), .val (.ref st), .val (.ref o1), .val (.int (1 : Int32)), .val (.int (1 : Int32)), .val (.ref hre), .val (.ref th), .unset] [(.int (1 : Int32))])) _
    refine XS.goto X11.here hx rfl (pc0 := 91) (pc' := 95) rfl (hb hby at_91) (by decide) (by decide) ?_
    show Steps p.tables e below (T11.setTop (mkF m 95 #[.val (.int p1), .val (.int p2), .val (.ref w3), .val (.ref st), .val (.ref o1), .val (.int (1 : Int32)), .val (.int (1 : Int32)), .val (.ref hre), .val (.ref th), .unset] [(.int (1 : Int32))])) _
    refine XS.istore X11.here hx rfl (hb hby at_95) rfl (l' := #[.val (.int p1), .val (.int p2), .val (.ref w3), .val (.ref st), .val (.ref o1), .val (.int (1 : Int32)), .val (.int (1 : Int32)), .val (.ref hre), .val (.ref th), .val (.int (1 : Int32))]) rfl ?_
    show Steps p.tables e below (T11.setTop (mkF m 97 #[.val (.int p1), .val (.int p2), .val (.ref w3), .val (.ref st), .val (.ref o1), .val (.int (1 : Int32)), .val (.int (1 : Int32)), .val (.ref hre), .val (.ref th), .val (.int (1 : Int32))] [])) _
    refine XS.iload X11.here hx rfl (hb hby at_97) rfl ?_
    show Steps p.tables e below (T11.setTop (mkF m 99 #[.val (.int p1), .val (.int p2), .val (.ref w3), .val (.ref st), .val (.ref o1), .val (.int (1 : Int32)), .val (.int (1 : Int32)), .val (.ref hre), .val (.ref th), .val (.int (1 : Int32))] [(.int (1 : Int32))])) _
    refine XS.ifNo X11.here hx rfl (hb hby at_99) rfl ((if0 _ _).trans (feq hc99).1) ?_
    show Steps p.tables e below (T11.setTop (mkF m 102 #[.val (.int p1), .val (.int p2), .val (.ref w3), .val (.ref st), .val (.ref o1), .val (.int (1 : Int32)), .val (.int (1 : Int32)), .val (.ref hre), .val (.ref th), .val (.int (1 : Int32))] [])) _
    refine XS.iload X11.here hx rfl (hb hby at_102) rfl ?_
    show Steps p.tables e below (T11.setTop (mkF m 104 #[.val (.int p1), .val (.int p2), .val (.ref w3), .val (.ref st), .val (.ref o1), .val (.int (1 : Int32)), .val (.int (1 : Int32)), .val (.ref hre), .val (.ref th), .val (.int (1 : Int32))] [(.int (1 : Int32))])) _
    refine XS.ifNo X11.here hx rfl (hb hby at_104) rfl ((if0 _ _).trans (feq hc104).1) ?_
    show Steps p.tables e below (T11.setTop (mkF m 107 #[.val (.int p1), .val (.int p2), .val (.ref w3), .val (.ref st), .val (.ref o1), .val (.int (1 : Int32)), .val (.int (1 : Int32)), .val (.ref hre), .val (.ref th), .val (.int (1 : Int32))] [])) _
    refine XS.iload X11.here hx rfl (hb hby at_107) rfl ?_
    show Steps p.tables e below (T11.setTop (mkF m 109 #[.val (.int p1), .val (.int p2), .val (.ref w3), .val (.ref st), .val (.ref o1), .val (.int (1 : Int32)), .val (.int (1 : Int32)), .val (.ref hre), .val (.ref th), .val (.int (1 : Int32))] [(.int (1 : Int32))])) _
    refine XS.ifNo X11.here hx rfl (hb hby at_109) rfl ((if0 _ _).trans (feq hc109).1) ?_
    show Steps p.tables e below (T11.setTop (mkF m 112 #[.val (.int p1), .val (.int p2), .val (.ref w3), .val (.ref st), .val (.ref o1), .val (.int (1 : Int32)), .val (.int (1 : Int32)), .val (.ref hre), .val (.ref th), .val (.int (1 : Int32))] [])) _
    refine XS.iconst X11.here hx rfl (hb hby at_112) ?_
    show Steps p.tables e below (T11.setTop (mkF m 113 #[.val (.int p1), .val (.int p2), .val (.ref w3), .val (.ref st), .val (.ref o1), .val (.int (1 : Int32)), .val (.int (1 : Int32)), .val (.ref hre), .val (.ref th), .val (.int (1 : Int32))] [(.int (1 : Int32))])) _
    refine XS.goto X11.here hx rfl (pc0 := 113) (pc' := 117) rfl (hb hby at_113) (by decide) (by decide) ?_
    show Steps p.tables e below (T11.setTop (mkF m 117 #[.val (.int p1), .val (.int p2), .val (.ref w3), .val (.ref st), .val (.ref o1), .val (.int (1 : Int32)), .val (.int (1 : Int32)), .val (.ref hre), .val (.ref th), .val (.int (1 : Int32))] [(.int (1 : Int32))])) _
    exact retN X11 hx (t := .boolean) Bd.returns (by simp) (hb hby at_117) hr
  · show own_QL n0 _ T11.heap _
    rw [eh11]
    exact ⟨rfl, N11⟩
set_option maxRecDepth 65536 in
set_option maxHeartbeats 40000000 in
theorem rm0_t (l : Launch) (Z : State) (a0 : Array Value) (hw : ∀ d ∈ tables_1, d.before a0 Z = true) (ws : List Jvm.Cond) (p1 : Int32) (p2 : Int32) (w3 : Addr) (ns ew sN sE sS sW wv st o1 hre nx th : Addr) (cl : Cell) (ov : Int32) (h0 : Heap) (n0 : Nat) (Z0 : n0 ≤ h0.size) (S_EW : Sta Z h0 "com/example/kozir_tables/kozirtables/games/Side" "EW" "Lcom/example/kozir_tables/kozirtables/games/Side;" (.ref w3)) (E_w3 : Exa Z h0 w3 "com/example/kozir_tables/kozirtables/games/Side") (E_o1 : Exa Z h0 o1 "com/example/kozir_tables/kozirtables/games/Side") (E_st : Exa Z h0 st "com/example/kozir_tables/kozirtables/games/Seat") (E_hre : Exa Z h0 hre "com/example/kozir_tables/kozirtables/games/Side") (hc3 : ¬ ((p1 &&& (1 : Int32)) = (0 : Int32))) (ha39 : ¬ (o1 = w3)) (hc99 : ¬ ((1 : Int32) = (0 : Int32))) (hc104 : ¬ ((1 : Int32) = (0 : Int32))) (hc109 : ¬ ((1 : Int32) = (0 : Int32))) (SNS : Sta Z h0 "com/example/kozir_tables/kozirtables/games/Side" "NS" "Lcom/example/kozir_tables/kozirtables/games/Side;" (.ref ns)) (SEW : Sta Z h0 "com/example/kozir_tables/kozirtables/games/Side" "EW" "Lcom/example/kozir_tables/kozirtables/games/Side;" (.ref ew)) (SN : Sta Z h0 "com/example/kozir_tables/kozirtables/games/Seat" "N" "Lcom/example/kozir_tables/kozirtables/games/Seat;" (.ref sN)) (SE : Sta Z h0 "com/example/kozir_tables/kozirtables/games/Seat" "E" "Lcom/example/kozir_tables/kozirtables/games/Seat;" (.ref sE)) (SS : Sta Z h0 "com/example/kozir_tables/kozirtables/games/Seat" "S" "Lcom/example/kozir_tables/kozirtables/games/Seat;" (.ref sS)) (SW : Sta Z h0 "com/example/kozir_tables/kozirtables/games/Seat" "W" "Lcom/example/kozir_tables/kozirtables/games/Seat;" (.ref sW)) (Sv : Sta Z h0 "com/example/kozir_tables/kozirtables/games/Seat" "$VALUES" "[Lcom/example/kozir_tables/kozirtables/games/Seat;" (.ref wv)) (Av : Arr Z h0 wv cl (.object "com/example/kozir_tables/kozirtables/games/Seat")) (Fc : FitC Z cl) (hcap : cl.slots.size ≤ 4) (Ev : Exa Z h0 wv "[Lcom/example/kozir_tables/kozirtables/games/Seat;") (Sz : cl.slots.size = (4 : Int32).toNatClampNeg) (Fo : Fld Z h0 st "java/lang/Enum" "ordinal" "I" (.int ov)) (Hin : ¬ (((ov + (1 : Int32)) % (4 : Int32)) < 0 ∨ cl.slots.size ≤ (((ov + (1 : Int32)) % (4 : Int32))).toNatClampNeg)) (Hat : cl.slots[(((ov + (1 : Int32)) % (4 : Int32))).toNatClampNeg]? = some (.ref nx)) (h19 : st = own_seat (p2 &&& (3 : Int32)) sN sE sS sW) (h24 : o1 = own_other w3 ns ew) (h51 : w3 = own_other o1 ns ew) (h66 : hre = own_of st sN sS ns ew) (h75 : th = own_of nx sN sS ns ew) (h84 : th = own_other hre ns ew) :
    MetFree l x (head1 (Jvm.Cond.code x code maxLocals ret :: ws) room_1) (fun a U => a = #[(.int p1), (.int p2)] ∧ Z.Warmed39 U.vm ∧ U.heap = h0) (fun _ _ _ _ _ => True) (fun _ U o U' => ∃ v L, o = .returned v ∧ own_QL n0 v U'.heap L ∧ FrameEnd U o U' L room_1.cells room_1.slots) := by
  refine MetFree.of_bodySF (plainFor_of_name pn_0) hisR ?_
  intro p e s m args below meth c s₁ Bd hml0 hP hK
  obtain ⟨rfl, hZ, hh⟩ := hP
  have hx := Bd.exec
  have hby := Bd.bytes
  have hml : c.maxLocals = 10 := hml0
  have hown : s.vm.findClass "com/example/kozir_tables/kozirtables/games/SideOtherPinLaw" = some m.cls := findClass_of_methodNamed Bd.named
  have hnm := (name_of_methodNamed Bd.named Bd.method).1
  have X0 : Stand p l e room_1 s m #[(.int p1), (.int p2)] below meth c s₁ [] 0 0 := Stand.of_body Bd
  have e0 : s₁.heap = h0 := by rw [← hh, Bd.state]; rfl
  have N0 := Fr.nil n0
  have pre0 : ∀ t, Steps p.tables e below (s₁.setTop (mkF m 0 #[.val (.int p1), .val (.int p2), .unset, .unset, .unset, .unset, .unset, .unset, .unset, .unset] [])) t → Steps p.tables e below (s₁.setTop (entryFrame m #[(.int p1), (.int p2)] maxLocals)) t := fun t k => castTop (ef_0 m p1 p2) k
  obtain ⟨T4, X4, e4, st4⟩ := getS2 X0 hx hZ hown (host := "") (Or.inl (hw _ (List.mem_of_getElem? (i := 57) rfl))) Via.refl e0 S_EW (g := (mkF m 12 #[.val (.int p1), .val (.int p2), .unset, .unset, .unset, .unset, .unset, .unset, .unset, .unset] [])) rfl (hb hby at_12)
  obtain ⟨_, _, ⟨T5, L5, k5, n5⟩, -, X5, ⟨Lc5, hQ5, l5, y5, z5⟩, st5⟩ := Jvm.LawKit.callS X4 hx (y := (⟨"com/example/kozir_tables/kozirtables/games/SideOtherPinLaw", "seatOf", "(I)Lcom/example/kozir_tables/kozirtables/games/Seat;"⟩ : MethodName)) hown (mvT hZ (hw _ (List.mem_of_getElem? (i := 3) rfl))) (mvT hZ (hw _ (List.mem_of_getElem? (i := 4) rfl))) (mvT hZ (hw _ (List.mem_of_getElem? (i := 5) rfl))) (mvT hZ (hw _ (List.mem_of_getElem? (i := 6) rfl))) (by decide) (backOf (W := 0) (rm1 l Z a0 hw [] (p2 &&& (3 : Int32)) sN sE sS sW st h0 n0 Z0 SN SE SS SW h19) hZ (hw _ (List.mem_of_getElem? (i := 6) rfl)) (hw _ (List.mem_of_getElem? (i := 5) rfl)) (by decide) (by decide)) (g := (mkF m 19 #[.val (.int p1), .val (.int p2), .val (.ref w3), .unset, .unset, .unset, .unset, .unset, .unset, .unset] [(.int (p2 &&& (3 : Int32)))])) rfl (by rw [hml]; rfl) (argsL := [(.int (p2 &&& (3 : Int32)))]) (rest := []) (lenOf pd_0_0 rfl) rfl (by show 2 * 0 + _ ≤ _; exact Nat.le_of_eq rfl) (hb hby at_19) (fun _ _ => ⟨rfl, e4, (Nat.le_of_ble_eq_true rfl), (Nat.le_of_ble_eq_true rfl)⟩)
  dsimp only [Pt.U, Pt.locs, Pt.cells, Pt.slots] at X5 l5 y5 z5 st5 hQ5
  subst l5 y5 z5
  obtain ⟨rfl, N5q, eh5⟩ := hQ5
  have N5 := Fr.app N0 N5q
  obtain ⟨cq6, kq6, q6a, q6b, q6c⟩ := isOf hZ eh5 E_w3
  obtain ⟨_, _, ⟨T6, L6, k6, n6⟩, -, X6, ⟨Lc6, hQ6, l6, y6, z6⟩, st6⟩ := X5.virtualBack hx (y := (⟨"com/example/kozir_tables/kozirtables/games/Side", "other", "()Lcom/example/kozir_tables/kozirtables/games/Side;"⟩ : MethodName)) (z := (⟨"com/example/kozir_tables/kozirtables/games/Side", "other", "()Lcom/example/kozir_tables/kozirtables/games/Side;"⟩ : MethodName)) hown (mvT hZ (hw _ (List.mem_of_getElem? (i := 10) rfl))) (mvT hZ (hw _ (List.mem_of_getElem? (i := 11) rfl))) (notFace_of_selects (args := #[]) (mvT hZ (hw _ (List.mem_of_getElem? (i := 13) rfl)))) (mvT hZ (hw _ (List.mem_of_getElem? (i := 13) rfl))) (mvT hZ (hw _ (List.mem_of_getElem? (i := 12) rfl))) (by decide) (backOf (W := 0) (rm2 l Z a0 hw [] w3 ns ew o1 h0 n0 Z0 SNS SEW h24) hZ (hw _ (List.mem_of_getElem? (i := 14) rfl)) (hw _ (List.mem_of_getElem? (i := 1) rfl)) (by decide) (by decide)) q6a q6c (g := (mkF m 24 #[.val (.int p1), .val (.int p2), .val (.ref w3), .val (.ref st), .unset, .unset, .unset, .unset, .unset, .unset] [(.ref w3)])) rfl (by rw [hml]; rfl) (Steps.refl _) (argsL := []) (rest := []) (lenOf pd_0_1 rfl) rfl (by show 2 * 0 + _ ≤ _; exact Nat.le_of_eq rfl) (hb hby at_24) (fun _ _ => ⟨rfl, eh5, (Nat.le_of_ble_eq_true rfl), (Nat.le_of_ble_eq_true rfl)⟩)
  dsimp only [Pt.U, Pt.locs, Pt.cells, Pt.slots] at X6 l6 y6 z6 st6 hQ6
  subst l6 y6 z6
  obtain ⟨rfl, N6q, eh6⟩ := hQ6
  have N6 := Fr.app N5 N6q
  obtain ⟨cq7, kq7, q7a, q7b, q7c⟩ := isOf hZ eh6 E_o1
  obtain ⟨_, _, ⟨T7, L7, k7, n7⟩, -, X7, ⟨Lc7, hQ7, l7, y7, z7⟩, st7⟩ := X6.virtualBack hx (y := (⟨"com/example/kozir_tables/kozirtables/games/Side", "other", "()Lcom/example/kozir_tables/kozirtables/games/Side;"⟩ : MethodName)) (z := (⟨"com/example/kozir_tables/kozirtables/games/Side", "other", "()Lcom/example/kozir_tables/kozirtables/games/Side;"⟩ : MethodName)) hown (mvT hZ (hw _ (List.mem_of_getElem? (i := 10) rfl))) (mvT hZ (hw _ (List.mem_of_getElem? (i := 11) rfl))) (notFace_of_selects (args := #[]) (mvT hZ (hw _ (List.mem_of_getElem? (i := 13) rfl)))) (mvT hZ (hw _ (List.mem_of_getElem? (i := 13) rfl))) (mvT hZ (hw _ (List.mem_of_getElem? (i := 12) rfl))) (by decide) (backOf (W := 0) (rm2 l Z a0 hw [] o1 ns ew w3 h0 n0 Z0 SNS SEW h51) hZ (hw _ (List.mem_of_getElem? (i := 14) rfl)) (hw _ (List.mem_of_getElem? (i := 1) rfl)) (by decide) (by decide)) q7a q7c (g := (mkF m 51 #[.val (.int p1), .val (.int p2), .val (.ref w3), .val (.ref st), .val (.ref o1), .val (.int (1 : Int32)), .unset, .unset, .unset, .unset] [(.ref o1)])) rfl (by rw [hml]; rfl) (Steps.refl _) (argsL := []) (rest := []) (lenOf pd_0_1 rfl) rfl (by show 2 * 0 + _ ≤ _; exact Nat.le_of_eq rfl) (hb hby at_51) (fun _ _ => ⟨rfl, eh6, (Nat.le_of_ble_eq_true rfl), (Nat.le_of_ble_eq_true rfl)⟩)
  dsimp only [Pt.U, Pt.locs, Pt.cells, Pt.slots] at X7 l7 y7 z7 st7 hQ7
  subst l7 y7 z7
  obtain ⟨rfl, N7q, eh7⟩ := hQ7
  have N7 := Fr.app N6 N7q
  obtain ⟨_, _, ⟨T8, L8, k8, n8⟩, -, X8, ⟨Lc8, hQ8, l8, y8, z8⟩, st8⟩ := Jvm.LawKit.callS X7 hx (y := (⟨"com/example/kozir_tables/kozirtables/games/Side", "of", "(Lcom/example/kozir_tables/kozirtables/games/Seat;)Lcom/example/kozir_tables/kozirtables/games/Side;"⟩ : MethodName)) hown (mvT hZ (hw _ (List.mem_of_getElem? (i := 18) rfl))) (mvT hZ (hw _ (List.mem_of_getElem? (i := 19) rfl))) (mvT hZ (hw _ (List.mem_of_getElem? (i := 1) rfl))) (mvT hZ (hw _ (List.mem_of_getElem? (i := 20) rfl))) (by decide) (backOf (W := 0) (rm3 l Z a0 hw [] st sN sS ns ew hre h0 n0 Z0 SN SS SNS SEW h66) hZ (hw _ (List.mem_of_getElem? (i := 20) rfl)) (hw _ (List.mem_of_getElem? (i := 1) rfl)) (by decide) (by decide)) (g := (mkF m 66 #[.val (.int p1), .val (.int p2), .val (.ref w3), .val (.ref st), .val (.ref o1), .val (.int (1 : Int32)), .val (.int (1 : Int32)), .unset, .unset, .unset] [(.ref st)])) rfl (by rw [hml]; rfl) (argsL := [(.ref st)]) (rest := []) (lenOf pd_0_2 rfl) rfl (by show 2 * 0 + _ ≤ _; exact Nat.le_of_eq rfl) (hb hby at_66) (fun _ _ => ⟨rfl, eh7, (Nat.le_of_ble_eq_true rfl), (Nat.le_of_ble_eq_true rfl)⟩)
  dsimp only [Pt.U, Pt.locs, Pt.cells, Pt.slots] at X8 l8 y8 z8 st8 hQ8
  subst l8 y8 z8
  obtain ⟨rfl, N8q, eh8⟩ := hQ8
  have N8 := Fr.app N7 N8q
  obtain ⟨cq9, kq9, q9a, q9b, q9c⟩ := isOf hZ eh8 E_st
  obtain ⟨_, _, ⟨T9, L9, k9, n9⟩, -, X9, ⟨Lc9, hQ9, l9, y9, z9⟩, st9⟩ := X8.virtualBack hx (y := (⟨"com/example/kozir_tables/kozirtables/games/Seat", "next", "()Lcom/example/kozir_tables/kozirtables/games/Seat;"⟩ : MethodName)) (z := (⟨"com/example/kozir_tables/kozirtables/games/Seat", "next", "()Lcom/example/kozir_tables/kozirtables/games/Seat;"⟩ : MethodName)) hown (mvT hZ (hw _ (List.mem_of_getElem? (i := 25) rfl))) (mvT hZ (hw _ (List.mem_of_getElem? (i := 26) rfl))) (notFace_of_selects (args := #[]) (mvT hZ (hw _ (List.mem_of_getElem? (i := 28) rfl)))) (mvT hZ (hw _ (List.mem_of_getElem? (i := 28) rfl))) (mvT hZ (hw _ (List.mem_of_getElem? (i := 27) rfl))) (by decide) (backOf (W := 0) (rm4 l Z a0 hw [] st wv cl ov nx h0 n0 Z0 E_st Fo Sv Av Fc hcap Ev Sz Hin Hat) hZ (hw _ (List.mem_of_getElem? (i := 29) rfl)) (hw _ (List.mem_of_getElem? (i := 8) rfl)) (by decide) (by decide)) q9a q9c (g := (mkF m 72 #[.val (.int p1), .val (.int p2), .val (.ref w3), .val (.ref st), .val (.ref o1), .val (.int (1 : Int32)), .val (.int (1 : Int32)), .val (.ref hre), .unset, .unset] [(.ref st)])) rfl (by rw [hml]; rfl) (Steps.refl _) (argsL := []) (rest := []) (lenOf pd_0_3 rfl) rfl (by show 2 * 0 + _ ≤ _; exact Nat.le_of_eq rfl) (hb hby at_72) (fun _ _ => ⟨rfl, eh8, (Nat.le_of_ble_eq_true rfl), (Nat.le_of_ble_eq_true rfl)⟩)
  dsimp only [Pt.U, Pt.locs, Pt.cells, Pt.slots] at X9 l9 y9 z9 st9 hQ9
  subst l9 y9 z9
  obtain ⟨rfl, N9q, EX⟩ := hQ9
  have KX : Keep h0 T9.heap [] := (Keep.refl _ _).ext EX
  have N9 := Fr.app N8 N9q
  obtain ⟨_, _, ⟨T10, L10, k10, n10⟩, -, X10, ⟨Lc10, hQ10, l10, y10, z10⟩, st10⟩ := Jvm.LawKit.callS X9 hx (y := (⟨"com/example/kozir_tables/kozirtables/games/Side", "of", "(Lcom/example/kozir_tables/kozirtables/games/Seat;)Lcom/example/kozir_tables/kozirtables/games/Side;"⟩ : MethodName)) hown (mvT hZ (hw _ (List.mem_of_getElem? (i := 18) rfl))) (mvT hZ (hw _ (List.mem_of_getElem? (i := 19) rfl))) (mvT hZ (hw _ (List.mem_of_getElem? (i := 1) rfl))) (mvT hZ (hw _ (List.mem_of_getElem? (i := 20) rfl))) (by decide) (backOf (W := 0) (rm3 l Z a0 hw [] nx sN sS ns ew th T9.heap n0 (Nat.le_trans Z0 KX.1) (SN.ext EX) (SS.ext EX) (SNS.ext EX) (SEW.ext EX) h75) hZ (hw _ (List.mem_of_getElem? (i := 20) rfl)) (hw _ (List.mem_of_getElem? (i := 1) rfl)) (by decide) (by decide)) (g := (mkF m 75 #[.val (.int p1), .val (.int p2), .val (.ref w3), .val (.ref st), .val (.ref o1), .val (.int (1 : Int32)), .val (.int (1 : Int32)), .val (.ref hre), .unset, .unset] [(.ref nx)])) rfl (by rw [hml]; rfl) (argsL := [(.ref nx)]) (rest := []) (lenOf pd_0_2 rfl) rfl (by show 2 * 0 + _ ≤ _; exact Nat.le_of_eq rfl) (hb hby at_75) (fun _ _ => ⟨rfl, rfl, (Nat.le_of_ble_eq_true rfl), (Nat.le_of_ble_eq_true rfl)⟩)
  dsimp only [Pt.U, Pt.locs, Pt.cells, Pt.slots] at X10 l10 y10 z10 st10 hQ10
  subst l10 y10 z10
  obtain ⟨rfl, N10q, eh10⟩ := hQ10
  have N10 := Fr.app N9 N10q
  obtain ⟨cq11, kq11, q11a, q11b, q11c⟩ := isOf hZ eh10 (E_hre.keep KX)
  obtain ⟨_, _, ⟨T11, L11, k11, n11⟩, -, X11, ⟨Lc11, hQ11, l11, y11, z11⟩, st11⟩ := X10.virtualBack hx (y := (⟨"com/example/kozir_tables/kozirtables/games/Side", "other", "()Lcom/example/kozir_tables/kozirtables/games/Side;"⟩ : MethodName)) (z := (⟨"com/example/kozir_tables/kozirtables/games/Side", "other", "()Lcom/example/kozir_tables/kozirtables/games/Side;"⟩ : MethodName)) hown (mvT hZ (hw _ (List.mem_of_getElem? (i := 10) rfl))) (mvT hZ (hw _ (List.mem_of_getElem? (i := 11) rfl))) (notFace_of_selects (args := #[]) (mvT hZ (hw _ (List.mem_of_getElem? (i := 13) rfl)))) (mvT hZ (hw _ (List.mem_of_getElem? (i := 13) rfl))) (mvT hZ (hw _ (List.mem_of_getElem? (i := 12) rfl))) (by decide) (backOf (W := 1) (rm2 l Z a0 hw [] hre ns ew th T9.heap n0 (Nat.le_trans Z0 KX.1) (SNS.ext EX) (SEW.ext EX) h84) hZ (hw _ (List.mem_of_getElem? (i := 14) rfl)) (hw _ (List.mem_of_getElem? (i := 1) rfl)) (by decide) (by decide)) q11a q11c (g := (mkF m 84 #[.val (.int p1), .val (.int p2), .val (.ref w3), .val (.ref st), .val (.ref o1), .val (.int (1 : Int32)), .val (.int (1 : Int32)), .val (.ref hre), .val (.ref th), .unset] [(.ref hre), (.ref th)])) rfl (by rw [hml]; rfl) (Steps.refl _) (argsL := []) (rest := [(.ref th)]) (lenOf pd_0_1 rfl) rfl (by show 2 * 0 + _ ≤ _; exact Nat.le_of_eq rfl) (hb hby at_84) (fun _ _ => ⟨rfl, eh10, (Nat.le_of_ble_eq_true rfl), (Nat.le_of_ble_eq_true rfl)⟩)
  dsimp only [Pt.U, Pt.locs, Pt.cells, Pt.slots] at X11 l11 y11 z11 st11 hQ11
  subst l11 y11 z11
  obtain ⟨rfl, N11q, eh11⟩ := hQ11
  have N11 := Fr.app N10 N11q
  obtain ⟨fs, hr, hrun, hended, hW, hsame⟩ := X11.leave (v := some (.int (1 : Int32))) (fun h => by rw [Bd.returns] at h; cases h)
  refine ⟨_, _, pre0 _ ?_, hrun, hended, _, _, rfl, ?_, ⟨_, rfl⟩, hW, hsame.mono (by decide) (by decide)⟩
  · show Steps p.tables e below (s₁.setTop (mkF m 0 #[.val (.int p1), .val (.int p2), .unset, .unset, .unset, .unset, .unset, .unset, .unset, .unset] [])) _
    refine XS.iloadN X0.here hx rfl (hb hby at_0) rfl ?_
    show Steps p.tables e below (s₁.setTop (mkF m 1 #[.val (.int p1), .val (.int p2), .unset, .unset, .unset, .unset, .unset, .unset, .unset, .unset] [(.int p1)])) _
    refine XS.iconst X0.here hx rfl (hb hby at_1) ?_
    show Steps p.tables e below (s₁.setTop (mkF m 2 #[.val (.int p1), .val (.int p2), .unset, .unset, .unset, .unset, .unset, .unset, .unset, .unset] [(.int (1 : Int32)), (.int p1)])) _
    refine XS.iand X0.here hx rfl (hb hby at_2) rfl ?_
    show Steps p.tables e below (s₁.setTop (mkF m 3 #[.val (.int p1), .val (.int p2), .unset, .unset, .unset, .unset, .unset, .unset, .unset, .unset] [(.int (p1 &&& (1 : Int32)))])) _
    refine XS.ifYes X0.here hx rfl (pc0 := 3) (pc' := 12) rfl (hb hby at_3) rfl ((if0 _ _).trans (feq hc3).2) (by decide) (by decide) ?_
    show Steps p.tables e below (s₁.setTop (mkF m 12 #[.val (.int p1), .val (.int p2), .unset, .unset, .unset, .unset, .unset, .unset, .unset, .unset] [])) _
    refine st4 _ ?_
    show Steps p.tables e below (T4.setTop (mkF m 15 #[.val (.int p1), .val (.int p2), .unset, .unset, .unset, .unset, .unset, .unset, .unset, .unset] [(.ref w3)])) _
    refine XS.astoreN X4.here hx rfl (hb hby at_15) rfl rfl (l' := #[.val (.int p1), .val (.int p2), .val (.ref w3), .unset, .unset, .unset, .unset, .unset, .unset, .unset]) rfl ?_
    show Steps p.tables e below (T4.setTop (mkF m 16 #[.val (.int p1), .val (.int p2), .val (.ref w3), .unset, .unset, .unset, .unset, .unset, .unset, .unset] [])) _
    refine XS.iloadN X4.here hx rfl (hb hby at_16) rfl ?_
    show Steps p.tables e below (T4.setTop (mkF m 17 #[.val (.int p1), .val (.int p2), .val (.ref w3), .unset, .unset, .unset, .unset, .unset, .unset, .unset] [(.int p2)])) _
    refine XS.iconst X4.here hx rfl (hb hby at_17) ?_
    show Steps p.tables e below (T4.setTop (mkF m 18 #[.val (.int p1), .val (.int p2), .val (.ref w3), .unset, .unset, .unset, .unset, .unset, .unset, .unset] [(.int (3 : Int32)), (.int p2)])) _
    refine XS.iand X4.here hx rfl (hb hby at_18) rfl ?_
    show Steps p.tables e below (T4.setTop (mkF m 19 #[.val (.int p1), .val (.int p2), .val (.ref w3), .unset, .unset, .unset, .unset, .unset, .unset, .unset] [(.int (p2 &&& (3 : Int32)))])) _
    refine st5 _ ?_
    show Steps p.tables e below (T5.setTop (mkF m 22 #[.val (.int p1), .val (.int p2), .val (.ref w3), .unset, .unset, .unset, .unset, .unset, .unset, .unset] [(.ref st)])) _
    refine XS.astoreN X5.here hx rfl (hb hby at_22) rfl rfl (l' := #[.val (.int p1), .val (.int p2), .val (.ref w3), .val (.ref st), .unset, .unset, .unset, .unset, .unset, .unset]) rfl ?_
    show Steps p.tables e below (T5.setTop (mkF m 23 #[.val (.int p1), .val (.int p2), .val (.ref w3), .val (.ref st), .unset, .unset, .unset, .unset, .unset, .unset] [])) _
    refine XS.aloadN X5.here hx rfl (hb hby at_23) rfl rfl ?_
    show Steps p.tables e below (T5.setTop (mkF m 24 #[.val (.int p1), .val (.int p2), .val (.ref w3), .val (.ref st), .unset, .unset, .unset, .unset, .unset, .unset] [(.ref w3)])) _
    refine st6.trans ?_
    show Steps p.tables e below (T6.setTop (mkF m 27 #[.val (.int p1), .val (.int p2), .val (.ref w3), .val (.ref st), .unset, .unset, .unset, .unset, .unset, .unset] [(.ref o1)])) _
    refine XS.astore X6.here hx rfl (hb hby at_27) rfl rfl (l' := #[.val (.int p1), .val (.int p2), .val (.ref w3), .val (.ref st), .val (.ref o1), .unset, .unset, .unset, .unset, .unset]) rfl ?_
    show Steps p.tables e below (T6.setTop (mkF m 29 #[.val (.int p1), .val (.int p2), .val (.ref w3), .val (.ref st), .val (.ref o1), .unset, .unset, .unset, .unset, .unset] [])) _
    refine XS.aload X6.here hx rfl (hb hby at_29) rfl rfl ?_
    show Steps p.tables e below (T6.setTop (mkF m 31 #[.val (.int p1), .val (.int p2), .val (.ref w3), .val (.ref st), .val (.ref o1), .unset, .unset, .unset, .unset, .unset] [(.ref o1)])) _
    refine XS.ifnonnullYes X6.here hx rfl (pc0 := 31) (pc' := 36) rfl (hb hby at_31) rfl (by decide) (by decide) ?_
    show Steps p.tables e below (T6.setTop (mkF m 36 #[.val (.int p1), .val (.int p2), .val (.ref w3), .val (.ref st), .val (.ref o1), .unset, .unset, .unset, .unset, .unset] [])) _
    refine XS.aload X6.here hx rfl (hb hby at_36) rfl rfl ?_
    show Steps p.tables e below (T6.setTop (mkF m 38 #[.val (.int p1), .val (.int p2), .val (.ref w3), .val (.ref st), .val (.ref o1), .unset, .unset, .unset, .unset, .unset] [(.ref o1)])) _
    refine XS.aloadN X6.here hx rfl (hb hby at_38) rfl rfl ?_
    show Steps p.tables e below (T6.setTop (mkF m 39 #[.val (.int p1), .val (.int p2), .val (.ref w3), .val (.ref st), .val (.ref o1), .unset, .unset, .unset, .unset, .unset] [(.ref w3), (.ref o1)])) _
    refine Jvm.RoadKit.acmp (g := (mkF m 39 #[.val (.int p1), .val (.int p2), .val (.ref w3), .val (.ref st), .val (.ref o1), .unset, .unset, .unset, .unset, .unset] [(.ref w3), (.ref o1)])) X6 hx rfl rfl rfl (pc0 := 39) (pc' := 42) (same := false) rfl (hb hby at_39) rfl (decide_eq_false fun q => ha39 (Value.ref.inj q)) (by decide) (by decide) ?_
    show Steps p.tables e below (T6.setTop (mkF m 42 #[.val (.int p1), .val (.int p2), .val (.ref w3), .val (.ref st), .val (.ref o1), .unset, .unset, .unset, .unset, .unset] [])) _
    refine XS.iconst X6.here hx rfl (hb hby at_42) ?_
    show Steps p.tables e below (T6.setTop (mkF m 43 #[.val (.int p1), .val (.int p2), .val (.ref w3), .val (.ref st), .val (.ref o1), .unset, .unset, .unset, .unset, .unset] [(.int (1 : Int32))])) _
    refine XS.goto X6.here hx rfl (pc0 := 43) (pc' := 47) rfl (hb hby at_43) (by decide) (by decide) ?_
    show Steps p.tables e below (T6.setTop (mkF m 47 #[.val (.int p1), .val (.int p2), .val (.ref w3), .val (.ref st), .val (.ref o1), .unset, .unset, .unset, .unset, .unset] [(.int (1 : Int32))])) _
    refine XS.istore X6.here hx rfl (hb hby at_47) rfl (l' := #[.val (.int p1), .val (.int p2), .val (.ref w3), .val (.ref st), .val (.ref o1), .val (.int (1 : Int32)), .unset, .unset, .unset, .unset]) rfl ?_
    show Steps p.tables e below (T6.setTop (mkF m 49 #[.val (.int p1), .val (.int p2), .val (.ref w3), .val (.ref st), .val (.ref o1), .val (.int (1 : Int32)), .unset, .unset, .unset, .unset] [])) _
    refine XS.aload X6.here hx rfl (hb hby at_49) rfl rfl ?_
    show Steps p.tables e below (T6.setTop (mkF m 51 #[.val (.int p1), .val (.int p2), .val (.ref w3), .val (.ref st), .val (.ref o1), .val (.int (1 : Int32)), .unset, .unset, .unset, .unset] [(.ref o1)])) _
    refine st7.trans ?_
    show Steps p.tables e below (T7.setTop (mkF m 54 #[.val (.int p1), .val (.int p2), .val (.ref w3), .val (.ref st), .val (.ref o1), .val (.int (1 : Int32)), .unset, .unset, .unset, .unset] [(.ref w3)])) _
    refine XS.aloadN X7.here hx rfl (hb hby at_54) rfl rfl ?_
    show Steps p.tables e below (T7.setTop (mkF m 55 #[.val (.int p1), .val (.int p2), .val (.ref w3), .val (.ref st), .val (.ref o1), .val (.int (1 : Int32)), .unset, .unset, .unset, .unset] [(.ref w3), (.ref w3)])) _
    refine Jvm.RoadKit.acmp (g := (mkF m 55 #[.val (.int p1), .val (.int p2), .val (.ref w3), .val (.ref st), .val (.ref o1), .val (.int (1 : Int32)), .unset, .unset, .unset, .unset] [(.ref w3), (.ref w3)])) X7 hx rfl rfl rfl (pc0 := 55) (pc' := 58) (same := true) rfl (hb hby at_55) rfl (decide_eq_true rfl) (by decide) (by decide) ?_
    show Steps p.tables e below (T7.setTop (mkF m 58 #[.val (.int p1), .val (.int p2), .val (.ref w3), .val (.ref st), .val (.ref o1), .val (.int (1 : Int32)), .unset, .unset, .unset, .unset] [])) _
    refine XS.iconst X7.here hx rfl (hb hby at_58) ?_
    show Steps p.tables e below (T7.setTop (mkF m 59 #[.val (.int p1), .val (.int p2), .val (.ref w3), .val (.ref st), .val (.ref o1), .val (.int (1 : Int32)), .unset, .unset, .unset, .unset] [(.int (1 : Int32))])) _
    refine XS.goto X7.here hx rfl (pc0 := 59) (pc' := 63) rfl (hb hby at_59) (by decide) (by decide) ?_
    show Steps p.tables e below (T7.setTop (mkF m 63 #[.val (.int p1), .val (.int p2), .val (.ref w3), .val (.ref st), .val (.ref o1), .val (.int (1 : Int32)), .unset, .unset, .unset, .unset] [(.int (1 : Int32))])) _
    refine XS.istore X7.here hx rfl (hb hby at_63) rfl (l' := #[.val (.int p1), .val (.int p2), .val (.ref w3), .val (.ref st), .val (.ref o1), .val (.int (1 : Int32)), .val (.int (1 : Int32)), .unset, .unset, .unset]) rfl ?_
    show Steps p.tables e below (T7.setTop (mkF m 65 #[.val (.int p1), .val (.int p2), .val (.ref w3), .val (.ref st), .val (.ref o1), .val (.int (1 : Int32)), .val (.int (1 : Int32)), .unset, .unset, .unset] [])) _
    refine XS.aloadN X7.here hx rfl (hb hby at_65) rfl rfl ?_
    show Steps p.tables e below (T7.setTop (mkF m 66 #[.val (.int p1), .val (.int p2), .val (.ref w3), .val (.ref st), .val (.ref o1), .val (.int (1 : Int32)), .val (.int (1 : Int32)), .unset, .unset, .unset] [(.ref st)])) _
    refine st8 _ ?_
    show Steps p.tables e below (T8.setTop (mkF m 69 #[.val (.int p1), .val (.int p2), .val (.ref w3), .val (.ref st), .val (.ref o1), .val (.int (1 : Int32)), .val (.int (1 : Int32)), .unset, .unset, .unset] [(.ref hre)])) _
    refine XS.astore X8.here hx rfl (hb hby at_69) rfl rfl (l' := #[.val (.int p1), .val (.int p2), .val (.ref w3), .val (.ref st), .val (.ref o1), .val (.int (1 : Int32)), .val (.int (1 : Int32)), .val (.ref hre), .unset, .unset]) rfl ?_
    show Steps p.tables e below (T8.setTop (mkF m 71 #[.val (.int p1), .val (.int p2), .val (.ref w3), .val (.ref st), .val (.ref o1), .val (.int (1 : Int32)), .val (.int (1 : Int32)), .val (.ref hre), .unset, .unset] [])) _
    refine XS.aloadN X8.here hx rfl (hb hby at_71) rfl rfl ?_
    show Steps p.tables e below (T8.setTop (mkF m 72 #[.val (.int p1), .val (.int p2), .val (.ref w3), .val (.ref st), .val (.ref o1), .val (.int (1 : Int32)), .val (.int (1 : Int32)), .val (.ref hre), .unset, .unset] [(.ref st)])) _
    refine st9.trans ?_
    show Steps p.tables e below (T9.setTop (mkF m 75 #[.val (.int p1), .val (.int p2), .val (.ref w3), .val (.ref st), .val (.ref o1), .val (.int (1 : Int32)), .val (.int (1 : Int32)), .val (.ref hre), .unset, .unset] [(.ref nx)])) _
    refine st10 _ ?_
    show Steps p.tables e below (T10.setTop (mkF m 78 #[.val (.int p1), .val (.int p2), .val (.ref w3), .val (.ref st), .val (.ref o1), .val (.int (1 : Int32)), .val (.int (1 : Int32)), .val (.ref hre), .unset, .unset] [(.ref th)])) _
    refine XS.astore X10.here hx rfl (hb hby at_78) rfl rfl (l' := #[.val (.int p1), .val (.int p2), .val (.ref w3), .val (.ref st), .val (.ref o1), .val (.int (1 : Int32)), .val (.int (1 : Int32)), .val (.ref hre), .val (.ref th), .unset]) rfl ?_
    show Steps p.tables e below (T10.setTop (mkF m 80 #[.val (.int p1), .val (.int p2), .val (.ref w3), .val (.ref st), .val (.ref o1), .val (.int (1 : Int32)), .val (.int (1 : Int32)), .val (.ref hre), .val (.ref th), .unset] [])) _
    refine XS.aload X10.here hx rfl (hb hby at_80) rfl rfl ?_
    show Steps p.tables e below (T10.setTop (mkF m 82 #[.val (.int p1), .val (.int p2), .val (.ref w3), .val (.ref st), .val (.ref o1), .val (.int (1 : Int32)), .val (.int (1 : Int32)), .val (.ref hre), .val (.ref th), .unset] [(.ref th)])) _
    refine XS.aload X10.here hx rfl (hb hby at_82) rfl rfl ?_
    show Steps p.tables e below (T10.setTop (mkF m 84 #[.val (.int p1), .val (.int p2), .val (.ref w3), .val (.ref st), .val (.ref o1), .val (.int (1 : Int32)), .val (.int (1 : Int32)), .val (.ref hre), .val (.ref th), .unset] [(.ref hre), (.ref th)])) _
    refine st11.trans ?_
    show Steps p.tables e below (T11.setTop (mkF m 87 #[.val (.int p1), .val (.int p2), .val (.ref w3), .val (.ref st), .val (.ref o1), .val (.int (1 : Int32)), .val (.int (1 : Int32)), .val (.ref hre), .val (.ref th), .unset] [(.ref th), (.ref th)])) _
    refine Jvm.RoadKit.acmp (g := (mkF m 87 #[.val (.int p1), .val (.int p2), .val (.ref w3), .val (.ref st), .val (.ref o1), .val (.int (1 : Int32)), .val (.int (1 : Int32)), .val (.ref hre), .val (.ref th), .unset] [(.ref th), (.ref th)])) X11 hx rfl rfl rfl (pc0 := 87) (pc' := 90) (same := true) rfl (hb hby at_87) rfl (decide_eq_true rfl) (by decide) (by decide) ?_
    show Steps p.tables e below (T11.setTop (mkF m 90 #[.val (.int p1), .val (.int p2), .val (.ref w3), .val (.ref st), .val (.ref o1), .val (.int (1 : Int32)), .val (.int (1 : Int32)), .val (.ref hre), .val (.ref th), .unset] [])) _
    refine XS.iconst X11.here hx rfl (hb hby at_90) ?_
    show Steps p.tables e below (T11.setTop (mkF m 91 #[.val (.int p1), .val (.int p2), .val (.ref w3), .val (.ref st), .val (.ref o1), .val (.int (1 : Int32)), .val (.int (1 : Int32)), .val (.ref hre), .val (.ref th), .unset] [(.int (1 : Int32))])) _
    refine XS.goto X11.here hx rfl (pc0 := 91) (pc' := 95) rfl (hb hby at_91) (by decide) (by decide) ?_
    show Steps p.tables e below (T11.setTop (mkF m 95 #[.val (.int p1), .val (.int p2), .val (.ref w3), .val (.ref st), .val (.ref o1), .val (.int (1 : Int32)), .val (.int (1 : Int32)), .val (.ref hre), .val (.ref th), .unset] [(.int (1 : Int32))])) _
    refine XS.istore X11.here hx rfl (hb hby at_95) rfl (l' := #[.val (.int p1), .val (.int p2), .val (.ref w3), .val (.ref st), .val (.ref o1), .val (.int (1 : Int32)), .val (.int (1 : Int32)), .val (.ref hre), .val (.ref th), .val (.int (1 : Int32))]) rfl ?_
    show Steps p.tables e below (T11.setTop (mkF m 97 #[.val (.int p1), .val (.int p2), .val (.ref w3), .val (.ref st), .val (.ref o1), .val (.int (1 : Int32)), .val (.int (1 : Int32)), .val (.ref hre), .val (.ref th), .val (.int (1 : Int32))] [])) _
    refine XS.iload X11.here hx rfl (hb hby at_97) rfl ?_
    show Steps p.tables e below (T11.setTop (mkF m 99 #[.val (.int p1), .val (.int p2), .val (.ref w3), .val (.ref st), .val (.ref o1), .val (.int (1 : Int32)), .val (.int (1 : Int32)), .val (.ref hre), .val (.ref th), .val (.int (1 : Int32))] [(.int (1 : Int32))])) _
    refine XS.ifNo X11.here hx rfl (hb hby at_99) rfl ((if0 _ _).trans (feq hc99).1) ?_
    show Steps p.tables e below (T11.setTop (mkF m 102 #[.val (.int p1), .val (.int p2), .val (.ref w3), .val (.ref st), .val (.ref o1), .val (.int (1 : Int32)), .val (.int (1 : Int32)), .val (.ref hre), .val (.ref th), .val (.int (1 : Int32))] [])) _
    refine XS.iload X11.here hx rfl (hb hby at_102) rfl ?_
    show Steps p.tables e below (T11.setTop (mkF m 104 #[.val (.int p1), .val (.int p2), .val (.ref w3), .val (.ref st), .val (.ref o1), .val (.int (1 : Int32)), .val (.int (1 : Int32)), .val (.ref hre), .val (.ref th), .val (.int (1 : Int32))] [(.int (1 : Int32))])) _
    refine XS.ifNo X11.here hx rfl (hb hby at_104) rfl ((if0 _ _).trans (feq hc104).1) ?_
    show Steps p.tables e below (T11.setTop (mkF m 107 #[.val (.int p1), .val (.int p2), .val (.ref w3), .val (.ref st), .val (.ref o1), .val (.int (1 : Int32)), .val (.int (1 : Int32)), .val (.ref hre), .val (.ref th), .val (.int (1 : Int32))] [])) _
    refine XS.iload X11.here hx rfl (hb hby at_107) rfl ?_
    show Steps p.tables e below (T11.setTop (mkF m 109 #[.val (.int p1), .val (.int p2), .val (.ref w3), .val (.ref st), .val (.ref o1), .val (.int (1 : Int32)), .val (.int (1 : Int32)), .val (.ref hre), .val (.ref th), .val (.int (1 : Int32))] [(.int (1 : Int32))])) _
    refine XS.ifNo X11.here hx rfl (hb hby at_109) rfl ((if0 _ _).trans (feq hc109).1) ?_
    show Steps p.tables e below (T11.setTop (mkF m 112 #[.val (.int p1), .val (.int p2), .val (.ref w3), .val (.ref st), .val (.ref o1), .val (.int (1 : Int32)), .val (.int (1 : Int32)), .val (.ref hre), .val (.ref th), .val (.int (1 : Int32))] [])) _
    refine XS.iconst X11.here hx rfl (hb hby at_112) ?_
    show Steps p.tables e below (T11.setTop (mkF m 113 #[.val (.int p1), .val (.int p2), .val (.ref w3), .val (.ref st), .val (.ref o1), .val (.int (1 : Int32)), .val (.int (1 : Int32)), .val (.ref hre), .val (.ref th), .val (.int (1 : Int32))] [(.int (1 : Int32))])) _
    refine XS.goto X11.here hx rfl (pc0 := 113) (pc' := 117) rfl (hb hby at_113) (by decide) (by decide) ?_
    show Steps p.tables e below (T11.setTop (mkF m 117 #[.val (.int p1), .val (.int p2), .val (.ref w3), .val (.ref st), .val (.ref o1), .val (.int (1 : Int32)), .val (.int (1 : Int32)), .val (.ref hre), .val (.ref th), .val (.int (1 : Int32))] [(.int (1 : Int32))])) _
    exact retN X11 hx (t := .boolean) Bd.returns (by simp) (hb hby at_117) hr
  · show own_QL n0 _ T11.heap _
    rw [eh11]
    exact ⟨rfl, N11⟩
set_option maxRecDepth 65536 in
theorem rm0 (l : Launch) (Z : State) (a0 : Array Value) (hw : ∀ d ∈ tables_1, d.before a0 Z = true) (ws : List Jvm.Cond) (p1 p2 : Int32) (ns ew sN sE sS sW wv : Addr) (cl : Cell) (h0 : Heap) (n0 : Nat) (Z0 : n0 ≤ h0.size) (SNS : Sta Z h0 "com/example/kozir_tables/kozirtables/games/Side" "NS" "Lcom/example/kozir_tables/kozirtables/games/Side;" (.ref ns)) (SEW : Sta Z h0 "com/example/kozir_tables/kozirtables/games/Side" "EW" "Lcom/example/kozir_tables/kozirtables/games/Side;" (.ref ew)) (SN : Sta Z h0 "com/example/kozir_tables/kozirtables/games/Seat" "N" "Lcom/example/kozir_tables/kozirtables/games/Seat;" (.ref sN)) (SE : Sta Z h0 "com/example/kozir_tables/kozirtables/games/Seat" "E" "Lcom/example/kozir_tables/kozirtables/games/Seat;" (.ref sE)) (SS : Sta Z h0 "com/example/kozir_tables/kozirtables/games/Seat" "S" "Lcom/example/kozir_tables/kozirtables/games/Seat;" (.ref sS)) (SW : Sta Z h0 "com/example/kozir_tables/kozirtables/games/Seat" "W" "Lcom/example/kozir_tables/kozirtables/games/Seat;" (.ref sW)) (Sv : Sta Z h0 "com/example/kozir_tables/kozirtables/games/Seat" "$VALUES" "[Lcom/example/kozir_tables/kozirtables/games/Seat;" (.ref wv)) (Av : Arr Z h0 wv cl (.object "com/example/kozir_tables/kozirtables/games/Seat")) (Fc : FitC Z cl) (hcap : cl.slots.size ≤ 4) (Ev : Exa Z h0 wv "[Lcom/example/kozir_tables/kozirtables/games/Seat;") (Sz : cl.slots.size = (4 : Int32).toNatClampNeg) (EN : Exa Z h0 sN "com/example/kozir_tables/kozirtables/games/Seat") (FN : Fld Z h0 sN "java/lang/Enum" "ordinal" "I" (.int 0)) (EE : Exa Z h0 sE "com/example/kozir_tables/kozirtables/games/Seat") (FE : Fld Z h0 sE "java/lang/Enum" "ordinal" "I" (.int 1)) (ES : Exa Z h0 sS "com/example/kozir_tables/kozirtables/games/Seat") (FS : Fld Z h0 sS "java/lang/Enum" "ordinal" "I" (.int 2)) (EW : Exa Z h0 sW "com/example/kozir_tables/kozirtables/games/Seat") (FW : Fld Z h0 sW "java/lang/Enum" "ordinal" "I" (.int 3)) (ENS : Exa Z h0 ns "com/example/kozir_tables/kozirtables/games/Side") (FNS : Fld Z h0 ns "java/lang/Enum" "ordinal" "I" (.int 0)) (EEW : Exa Z h0 ew "com/example/kozir_tables/kozirtables/games/Side") (FEW : Fld Z h0 ew "java/lang/Enum" "ordinal" "I" (.int 1)) (H0 : cl.slots[(0 : Int32).toNatClampNeg]? = some (.ref sN)) (H1 : cl.slots[(1 : Int32).toNatClampNeg]? = some (.ref sE)) (H2 : cl.slots[(2 : Int32).toNatClampNeg]? = some (.ref sS)) (H3 : cl.slots[(3 : Int32).toNatClampNeg]? = some (.ref sW)) :
    MetFree l x (head1 (Jvm.Cond.code x code maxLocals ret :: ws) room_1) (fun a U => a = #[(.int p1), (.int p2)] ∧ Z.Warmed39 U.vm ∧ U.heap = h0) (fun _ _ _ _ _ => True) (fun _ U o U' => ∃ v L, o = .returned v ∧ own_QL n0 v U'.heap L ∧ FrameEnd U o U' L room_1.cells room_1.slots) := by
  have d0 : ew ≠ ns := Fld.ne FEW FNS (by decide)
  have d1 : sE ≠ sN := Fld.ne FE FN (by decide)
  have d2 : sE ≠ sS := Fld.ne FE FS (by decide)
  have d3 : sW ≠ sN := Fld.ne FW FN (by decide)
  have d4 : sW ≠ sS := Fld.ne FW FS (by decide)
  have d5 : sS ≠ sN := Fld.ne FS FN (by decide)
  have hall : ∃ (st hr nx th : Addr) (ov : Int32), st = own_seat (p2 &&& (3 : Int32)) sN sE sS sW ∧ Exa Z h0 st "com/example/kozir_tables/kozirtables/games/Seat" ∧ Fld Z h0 st "java/lang/Enum" "ordinal" "I" (.int ov) ∧ (hr = own_of st sN sS ns ew) ∧ (th = own_of nx sN sS ns ew) ∧ (th = own_other hr ns ew) ∧ Exa Z h0 hr "com/example/kozir_tables/kozirtables/games/Side" ∧
      (¬ (((ov + (1 : Int32)) % (4 : Int32)) < 0 ∨ cl.slots.size ≤ (((ov + (1 : Int32)) % (4 : Int32))).toNatClampNeg)) ∧ cl.slots[(((ov + (1 : Int32)) % (4 : Int32))).toNatClampNeg]? = some (.ref nx) := by
    by_cases c0 : (p2 &&& (3 : Int32)) = (0 : Int32)
    · exact ⟨sN, ns, sE, ew, 0, by rw [own_seat, if_pos c0], EN, FN, by simp [own_of, d1, d2, d3, d4, d5], by simp [own_of, d1, d2, d3, d4, d5], by simp [own_other, d0], ENS, by rw [Sz]; decide, H1⟩
    · skip
      by_cases c1 : (p2 &&& (3 : Int32)) = (1 : Int32)
      · exact ⟨sE, ew, sS, ns, 1, by rw [own_seat, if_neg c0, if_pos c1], EE, FE, by simp [own_of, d1, d2, d3, d4, d5], by simp [own_of, d1, d2, d3, d4, d5], by simp [own_other, d0], EEW, by rw [Sz]; decide, H2⟩
      · skip
        by_cases c2 : (p2 &&& (3 : Int32)) = (2 : Int32)
        · exact ⟨sS, ns, sW, ew, 2, by rw [own_seat, if_neg c0, if_neg c1, if_pos c2], ES, FS, by simp [own_of, d1, d2, d3, d4, d5], by simp [own_of, d1, d2, d3, d4, d5], by simp [own_other, d0], ENS, by rw [Sz]; decide, H3⟩
        · skip
          exact ⟨sW, ew, sN, ns, 3, by rw [own_seat, if_neg c0, if_neg c1, if_neg c2], EW, FW, by simp [own_of, d1, d2, d3, d4, d5], by simp [own_of, d1, d2, d3, d4, d5], by simp [own_other, d0], EEW, by rw [Sz]; decide, H0⟩
  obtain ⟨st, hr, nx, th, ov, h19, Est, Fo, h66, h75, h84, Ehr, Hin, Hat⟩ := hall
  by_cases c : (p1 &&& (1 : Int32)) = (0 : Int32)
  · exact rm0_f l Z a0 hw ws p1 p2 ns ns ew sN sE sS sW wv st ew hr nx th cl ov h0 n0 Z0 SNS ENS EEW Est Ehr c d0 (by decide) (by decide) (by decide) SNS SEW SN SE SS SW Sv Av Fc hcap Ev Sz Fo Hin Hat h19 (by simp [own_other]) (by simp [own_other, d0]) h66 h75 h84
  · exact rm0_t l Z a0 hw ws p1 p2 ew ns ew sN sE sS sW wv st ns hr nx th cl ov h0 n0 Z0 SEW EEW ENS Est Ehr c d0.symm (by decide) (by decide) (by decide) SNS SEW SN SE SS SW Sv Av Fc hcap Ev Sz Fo Hin Hat h19 (by simp [own_other, d0]) (by simp [own_other]) h66 h75 h84
set_option maxRecDepth 65536 in
set_option maxHeartbeats 40000000 in
theorem comes_1 {Post : Tables → Env → Array Value → State → Outcome → State → Prop} (hpost : ∀ tb e args s v u, (limb_1_1.after args s (.returned v) u = true ∧ limb_1_2.after args s (.returned v) u = true ∧ True) → FrameEnd s (.returned v) u (Jvm.fieldLocs frame_1_writes args s ++ Jvm.arrayLocs frame_1_arrays args s ++ Jvm.staticLocs frame_1_statics s) 16 128 → Post tb e args s (.returned v) u) :
    ArmFor flags0 classFile x code maxLocals ret World_1 tables_1 room_1 Calls_1 rest_1 Pre_1 Post := by
  intro l hfl _ _ p e ha hc hk s m args below hf hA hF happ hP
  obtain ⟨hcalls, hrest, hpre⟩ := hP
  obtain ⟨-, -, -, hnamed, -, -, -, hat⟩ := (Spec.applies_iff hf).mp happ
  obtain ⟨hg, hn⟩ := and_e (Cond.before_iff.mp (show (Jvm.Cond.and given_1 narrow_1).before args s = true from hpre))
  obtain ⟨g12, g13⟩ := and_e hg
  obtain ⟨g14, g15⟩ := and_e g13
  obtain ⟨w0, w1, rfl⟩ : ∃ w0 w1 : Value, args = #[w0, w1] := by
    have hs : args.size = 2 := by simpa [Cond.value, given_1] using g12
    obtain ⟨L⟩ := args
    match L, hs with
    | [w0, w1], _ => exact ⟨w0, w1, rfl⟩
  have hw := fun d (hd : d ∈ tables_1) => atoms_spec (ws := Jvm.Cond.code x code maxLocals ret :: tables_1) hat d (List.mem_cons_of_mem _ hd)
  have hfit : Fit s := fun {y c} hc i hi => by
    obtain ⟨ha, rfl⟩ := Array.getElem?_eq_some_iff.mp hc
    have q := List.all_eq_true.mp ((Array.all_eq_true_iff_forall_mem.mp hF) _ (Array.getElem_mem ha)) i (List.mem_range.mpr hi)
    simpa [Array.getElem?_eq_getElem hi] using q
  obtain ⟨i0, ei0⟩ := is_v g14
  obtain rfl : w0 = (.int i0) := Option.some.inj ei0
  obtain ⟨i1, ei1⟩ := is_v g15
  obtain rfl : w1 = (.int i1) := Option.some.inj ei1
  obtain ⟨nw0, nx0⟩ := and_e hn
  obtain ⟨nw1, nx1⟩ := and_e nx0
  obtain ⟨nw2, nx2⟩ := and_e nx1
  obtain ⟨nw3, nx3⟩ := and_e nx2
  obtain ⟨nw4, nx4⟩ := and_e nx3
  obtain ⟨nw5, nx5⟩ := and_e nx4
  obtain ⟨nw6, nx6⟩ := and_e nx5
  obtain ⟨nw7, nx7⟩ := and_e nx6
  obtain ⟨nw8, nx8⟩ := and_e nx7
  obtain ⟨nw9, nx9⟩ := and_e nx8
  obtain ⟨nw10, nx10⟩ := and_e nx9
  obtain ⟨nw11, nx11⟩ := and_e nx10
  obtain ⟨nw12, nx12⟩ := and_e nx11
  obtain ⟨nw13, nx13⟩ := and_e nx12
  obtain ⟨nw14, nx14⟩ := and_e nx13
  obtain ⟨nw15, nx15⟩ := and_e nx14
  obtain ⟨nw16, nx16⟩ := and_e nx15
  obtain ⟨nw17, nx17⟩ := and_e nx16
  obtain ⟨a_NS, ev_NS⟩ := exa_v nw0
  have S_NS := Sta.start ev_NS (Or.inr ⟨hw _ (List.mem_of_getElem? (i := 1) rfl), hw _ (List.mem_of_getElem? (i := 2) rfl)⟩)
  have E_NS := Exa.start ev_NS nw0
  obtain ⟨a_W, ev_W⟩ := exa_v nw1
  have S_W := Sta.start ev_W (Or.inr ⟨hw _ (List.mem_of_getElem? (i := 8) rfl), hw _ (List.mem_of_getElem? (i := 9) rfl)⟩)
  have E_W := Exa.start ev_W nw1
  obtain ⟨a_EW, ev_EW⟩ := exa_v nw2
  have S_EW := Sta.start ev_EW (Or.inr ⟨hw _ (List.mem_of_getElem? (i := 1) rfl), hw _ (List.mem_of_getElem? (i := 17) rfl)⟩)
  have E_EW := Exa.start ev_EW nw2
  obtain ⟨a_N, ev_N⟩ := exa_v nw5
  have S_N := Sta.start ev_N (Or.inr ⟨hw _ (List.mem_of_getElem? (i := 8) rfl), hw _ (List.mem_of_getElem? (i := 22) rfl)⟩)
  have E_N := Exa.start ev_N nw5
  obtain ⟨a_S, ev_S⟩ := exa_v nw8
  have S_S := Sta.start ev_S (Or.inr ⟨hw _ (List.mem_of_getElem? (i := 8) rfl), hw _ (List.mem_of_getElem? (i := 24) rfl)⟩)
  have E_S := Exa.start ev_S nw8
  obtain ⟨a_VALUES, ev_VALUES⟩ := arr_v nw10
  have S_VALUES := Sta.start ev_VALUES (Or.inr ⟨hw _ (List.mem_of_getElem? (i := 8) rfl), hw _ (List.mem_of_getElem? (i := 34) rfl)⟩)
  obtain ⟨cl_VALUES, Ar_VALUES⟩ := Arr.start ev_VALUES nw10
  have E_VALUES := Exa.start ev_VALUES nw11
  obtain ⟨a_E, ev_E⟩ := exa_v nw14
  have S_E := Sta.start ev_E (Or.inr ⟨hw _ (List.mem_of_getElem? (i := 8) rfl), hw _ (List.mem_of_getElem? (i := 42) rfl)⟩)
  have E_E := Exa.start ev_E nw14
  have F_EW_ordinal := own_fldi ev_EW nw3
  have F_NS_ordinal := own_fldi ev_NS nw4
  have F_W_ordinal := own_fldi ev_W nw6
  have F_N_ordinal := own_fldi ev_N nw7
  have F_S_ordinal := own_fldi ev_S nw9
  obtain ⟨SZ_VALUES, NG_VALUES, LT_VALUES, LE_VALUES⟩ := own_len ev_VALUES Ar_VALUES nw12
  have H_VALUES_0 := own_elem ev_VALUES Ar_VALUES ev_N nw13
  have H_VALUES_1 := own_elem ev_VALUES Ar_VALUES ev_E nw15
  have H_VALUES_2 := own_elem ev_VALUES Ar_VALUES ev_S nw16
  have H_VALUES_3 := own_elem ev_VALUES Ar_VALUES ev_W nw17
  have F_E_ordinal := own_fldi ev_E nx17
  have hcap : cl_VALUES.slots.size ≤ 4 := Nat.le_of_eq (by rw [SZ_VALUES]; rfl)
  obtain ⟨n, o, h1, h2, h3, _, L, rfl, ⟨rfl, N⟩, hq⟩ := rm0 l s _ hw tables_1 i0 i1 _ _ _ _ _ _ _ _ s.heap s.heap.size (Nat.le_refl _) S_NS S_EW S_N S_E S_S S_W S_VALUES Ar_VALUES (FitC.start hfit Ar_VALUES) hcap E_VALUES SZ_VALUES E_N F_N_ordinal E_E F_E_ordinal E_S F_S_ordinal E_W F_W_ordinal E_NS F_NS_ordinal E_EW F_EW_ordinal H_VALUES_0 H_VALUES_1 H_VALUES_2 H_VALUES_3 p e ha hc hk s m _ below hf ((Spec.applies_iff_loose hf).mp happ).1 ⟨rfl, State.Warmed39.refl s, rfl⟩ trivial
  refine ⟨n, _, h1, h2, h3, hpost _ _ _ _ _ _ ⟨Cond.after_iff.mpr rfl, Cond.after_iff.mpr (eq_i res_at (Term.int_eval (1)) rfl), trivial⟩ ⟨hq.1, hq.2.1, (hq.2.2.sift fun y hy => Or.inr (N y hy)).mono (by decide) (by decide)⟩⟩
theorem main_1_1 : Claimed_1_1 := comes_1 fun _ _ _ _ _ _ h hF => ⟨h.1, hF⟩
theorem main_1_2 : Claimed_1_2 := comes_1 fun _ _ _ _ _ _ h hF => ⟨h.2.1, hF⟩

end Jvm.Pilot.@@N@@
namespace Jvm.Pilot.@@N@@
open Jvm Jvm.ClassFile Sem Op Lib Jvm.Free Jvm.Stand Jvm.Pilot.@@N@@.Jvm.D
/-! MADE BY PROGRAM (witnessworld.py) out of the Statement's table words and the real class files: 14 classes; the members and pool entries that the words name. The judged class is class 1, her method 2. -/
namespace start1
open Jvm.ClassFile
def u (s : String) : CpInfo := .utf8 (stringToUtf16 s)
/-- a pool by its gaps: so many unusable entries, then the entry; so many at the end -/
def gap : Nat → List CpInfo → List CpInfo
  | 0, r => r
  | n + 1, r => .unusable :: gap n r
def poolList (es : List (Nat × CpInfo)) (last : Nat) : List CpInfo := es.foldr (fun e r => gap e.1 (e.2 :: r)) (gap last [])
def pool (es : List (Nat × CpInfo)) (last : Nat) : Array CpInfo := ⟨poolList es last⟩
def fileOf (pool : Array CpInfo) (this : Nat) (attrs : Array Attribute := #[]) (ms : Array MethodInfo := #[]) (fl : Nat := 33) (sup : Nat := 0) (ifs : Array Nat := #[]) (fds : Array FieldInfo := #[]) : ClassFile where
  minorVersion := 0
  majorVersion := 65
  constantPool := pool
  accessFlags := fl
  thisClass := this
  superClass := sup
  interfaces := ifs
  fields := fds
  methods := ms
  attributes := attrs
def plain (name : String) (sup : Option ClassId) : Class where
  name := name
  kind := .ordinary
  loader := none
  accessFlags := 33
  super := sup
  interfaces := #[]
  cf := none
  fields := #[]
  methods := #[]
  instanceTypes := #[]
  staticTypes := #[]
  resolved := #[]
  callSites := []
  init := .initialized
  statics := none
  mirror := none

def pool0 : Array CpInfo := pool [(5, u "<init>"), (0, u "()V"), (1, .class_ 10), (1, u "java/lang/Object"), (85, u "clone"), (0, u "()Ljava/lang/Object;")] 26

def k0m0 : Method := { name := "<init>", desc := "()V", sig := { parameters := [], returnType := none }, accessFlags := 1, code := none }
def k0m1 : Method := { name := "clone", desc := "()Ljava/lang/Object;", sig := { parameters := [], returnType := some (.object "java/lang/Object") }, accessFlags := 260, code := none }
/-- java/lang/Object -/
def k0 : Class := { plain "java/lang/Object" none with
  accessFlags := 33
  interfaces := #[]
  cf := some (fileOf pool0 8 #[] #[{ accessFlags := 1, nameIndex := 5, descriptorIndex := 6, attributes := #[] }, { accessFlags := 260, nameIndex := 96, descriptorIndex := 97, attributes := #[] }] 33 0 #[] #[])
  fields := #[]
  methods := #[k0m0, k0m1]
  instanceTypes := #[]
  staticTypes := #[]
  resolved := Array.replicate 124 none
  statics := none }

def pool1 : Array CpInfo := pool [(2, .class_ 4), (1, u "java/lang/Object"), (0, u "<init>"), (0, u "()V"), (0, .fieldref 8 9), (0, .class_ 10), (0, .nameAndType 11 12), (0, u "com/example/kozir_tables/kozirtables/games/Seat"), (0, u "N"), (0, u "Lcom/example/kozir_tables/kozirtables/games/Seat;"), (0, .fieldref 8 14), (0, .nameAndType 15 12), (0, u "E"), (0, .fieldref 8 17), (0, .nameAndType 18 12), (0, u "S"), (0, .fieldref 8 20), (0, .nameAndType 21 12), (0, u "W"), (0, .fieldref 23 24), (0, .class_ 25), (0, .nameAndType 26 27), (0, u "com/example/kozir_tables/kozirtables/games/Side"), (0, u "NS"), (0, u "Lcom/example/kozir_tables/kozirtables/games/Side;"), (0, .fieldref 23 29), (0, .nameAndType 30 27), (0, u "EW"), (0, .methodref 32 33), (0, .class_ 34), (0, .nameAndType 35 36), (0, u "com/example/kozir_tables/kozirtables/games/SideOtherPinLaw"), (0, u "seatOf"), (0, u "(I)Lcom/example/kozir_tables/kozirtables/games/Seat;"), (0, .methodref 23 38), (0, .nameAndType 39 40), (0, u "other"), (0, u "()Lcom/example/kozir_tables/kozirtables/games/Side;"), (0, .methodref 23 42), (0, .nameAndType 43 44), (0, u "of"), (0, u "(Lcom/example/kozir_tables/kozirtables/games/Seat;)Lcom/example/kozir_tables/kozirtables/games/Side;"), (0, .methodref 8 46), (0, .nameAndType 47 48), (0, u "next"), (0, u "()Lcom/example/kozir_tables/kozirtables/games/Seat;"), (3, u "law"), (0, u "(II)Z")] 2

def k1m0 : Method := { name := "<init>", desc := "()V", sig := { parameters := [], returnType := none }, accessFlags := 1, code := none }
def k1c1 : Code := { maxStack := 2, maxLocals := 1, code := method_2_code, exceptionTable := #[], attributes := #[] }
def k1m1 : Method := { name := "seatOf", desc := "(I)Lcom/example/kozir_tables/kozirtables/games/Seat;", sig := { parameters := [.int], returnType := some (.object "com/example/kozir_tables/kozirtables/games/Seat") }, accessFlags := 10, code := some k1c1 }
def k1c2 : Code := { maxStack := 2, maxLocals := 10, code := code, exceptionTable := #[], attributes := #[] }
def k1m2 : Method := { name := "law", desc := "(II)Z", sig := { parameters := [.int, .int], returnType := some .boolean }, accessFlags := 9, code := some k1c2 }
/-- com/example/kozir_tables/kozirtables/games/SideOtherPinLaw -/
def k1 : Class := { plain "com/example/kozir_tables/kozirtables/games/SideOtherPinLaw" (some 0) with
  accessFlags := 49
  interfaces := #[]
  cf := some (fileOf pool1 32 #[] #[{ accessFlags := 1, nameIndex := 5, descriptorIndex := 6, attributes := #[] }, { accessFlags := 10, nameIndex := 35, descriptorIndex := 36, attributes := #[] }, { accessFlags := 9, nameIndex := 52, descriptorIndex := 53, attributes := #[] }] 49 2 #[] #[])
  fields := #[]
  methods := #[k1m0, k1m1, k1m2]
  instanceTypes := #[]
  staticTypes := #[]
  resolved := Array.replicate 56 none
  statics := none }

def pool2 : Array CpInfo := pool [(1, .class_ 2), (0, u "java/lang/constant/Constable"), (0, .class_ 4), (0, u "java/lang/Object")] 6

/-- java/lang/constant/Constable -/
def k2 : Class := { plain "java/lang/constant/Constable" (some 0) with
  accessFlags := 1537
  interfaces := #[]
  cf := some (fileOf pool2 1 #[] #[] 1537 3 #[] #[])
  fields := #[]
  methods := #[]
  instanceTypes := #[]
  staticTypes := #[]
  resolved := Array.replicate 11 none
  statics := none }

def pool3 : Array CpInfo := pool [(1, .class_ 2), (0, u "java/lang/Comparable"), (0, .class_ 4), (0, u "java/lang/Object")] 7

/-- java/lang/Comparable -/
def k3 : Class := { plain "java/lang/Comparable" (some 0) with
  accessFlags := 1537
  interfaces := #[]
  cf := some (fileOf pool3 1 #[] #[] 1537 3 #[] #[])
  fields := #[]
  methods := #[]
  instanceTypes := #[]
  staticTypes := #[]
  resolved := Array.replicate 12 none
  statics := none }

def pool4 : Array CpInfo := pool [(1, .class_ 2), (0, u "java/io/Serializable"), (0, .class_ 4), (0, u "java/lang/Object")] 2

/-- java/io/Serializable -/
def k4 : Class := { plain "java/io/Serializable" (some 0) with
  accessFlags := 1537
  interfaces := #[]
  cf := some (fileOf pool4 1 #[] #[] 1537 3 #[] #[])
  fields := #[]
  methods := #[]
  instanceTypes := #[]
  staticTypes := #[]
  resolved := Array.replicate 7 none
  statics := none }

def pool5 : Array CpInfo := pool [(2, .class_ 4), (1, u "java/lang/Enum"), (0, u "name"), (0, u "Ljava/lang/String;"), (0, .fieldref 2 8), (0, .nameAndType 9 10), (0, u "ordinal"), (0, u "I"), (1, .class_ 14), (1, u "java/lang/Object"), (4, u "hash"), (86, .class_ 108), (1, u "java/lang/Enum$EnumDesc"), (2, .class_ 112), (0, u "java/lang/constant/Constable"), (0, .class_ 114), (0, u "java/lang/Comparable"), (0, .class_ 116), (0, u "java/io/Serializable"), (9, u "()I")] 77

def k5c0 : Code := { maxStack := 1, maxLocals := 1, code := jdk_37_method_2_code, exceptionTable := #[], attributes := #[] }
def k5m0 : Method := { name := "ordinal", desc := "()I", sig := { parameters := [], returnType := some .int }, accessFlags := 17, code := some k5c0 }
/-- java/lang/Enum -/
def k5 : Class := { plain "java/lang/Enum" (some 0) with
  accessFlags := 1057
  interfaces := #[2, 3, 4]
  cf := some (fileOf pool5 2 #[.nestMembers #[106]] #[{ accessFlags := 17, nameIndex := 9, descriptorIndex := 126, attributes := #[] }] 1057 12 #[111, 113, 115] #[{ accessFlags := 18, nameIndex := 5, descriptorIndex := 6, attributes := #[] }, { accessFlags := 18, nameIndex := 9, descriptorIndex := 10, attributes := #[] }, { accessFlags := 2, nameIndex := 19, descriptorIndex := 10, attributes := #[] }])
  fields := #[{ name := "name", type := (.object "java/lang/String"), accessFlags := 18, slot := 0, constantValue := 0 }, { name := "ordinal", type := .int, accessFlags := 18, slot := 1, constantValue := 0 }, { name := "hash", type := .int, accessFlags := 2, slot := 2, constantValue := 0 }]
  methods := #[k5m0]
  instanceTypes := #[(.object "java/lang/String"), .int, .int]
  staticTypes := #[]
  resolved := Array.replicate 204 none
  statics := none }

def pool6 : Array CpInfo := pool [(1, .class_ 2), (0, u "com/example/kozir_tables/kozirtables/games/Side"), (0, .fieldref 1 4), (0, .nameAndType 5 6), (0, u "NS"), (0, u "Lcom/example/kozir_tables/kozirtables/games/Side;"), (0, .fieldref 1 8), (0, .nameAndType 9 6), (0, u "EW"), (2, u "$VALUES"), (0, u "[Lcom/example/kozir_tables/kozirtables/games/Side;"), (6, .class_ 22), (1, u "java/lang/Enum"), (6, .fieldref 30 31), (0, .class_ 32), (0, .nameAndType 33 34), (0, u "com/example/kozir_tables/kozirtables/games/Seat"), (0, u "N"), (0, u "Lcom/example/kozir_tables/kozirtables/games/Seat;"), (0, .fieldref 30 36), (0, .nameAndType 37 34), (0, u "S"), (14, u "of"), (0, u "(Lcom/example/kozir_tables/kozirtables/games/Seat;)Lcom/example/kozir_tables/kozirtables/games/Side;"), (1, u "other"), (0, u "()Lcom/example/kozir_tables/kozirtables/games/Side;")] 4

def k6c0 : Code := { maxStack := 2, maxLocals := 1, code := prog_47_method_4_code, exceptionTable := #[], attributes := #[] }
def k6m0 : Method := { name := "of", desc := "(Lcom/example/kozir_tables/kozirtables/games/Seat;)Lcom/example/kozir_tables/kozirtables/games/Side;", sig := { parameters := [(.object "com/example/kozir_tables/kozirtables/games/Seat")], returnType := some (.object "com/example/kozir_tables/kozirtables/games/Side") }, accessFlags := 9, code := some k6c0 }
def k6c1 : Code := { maxStack := 2, maxLocals := 1, code := prog_47_method_5_code, exceptionTable := #[], attributes := #[] }
def k6m1 : Method := { name := "other", desc := "()Lcom/example/kozir_tables/kozirtables/games/Side;", sig := { parameters := [], returnType := some (.object "com/example/kozir_tables/kozirtables/games/Side") }, accessFlags := 1, code := some k6c1 }
/-- com/example/kozir_tables/kozirtables/games/Side -/
def k6 : Class := { plain "com/example/kozir_tables/kozirtables/games/Side" (some 5) with
  accessFlags := 16433
  interfaces := #[]
  cf := some (fileOf pool6 1 #[] #[{ accessFlags := 9, nameIndex := 52, descriptorIndex := 53, attributes := #[] }, { accessFlags := 1, nameIndex := 55, descriptorIndex := 56, attributes := #[] }] 16433 20 #[] #[{ accessFlags := 16409, nameIndex := 5, descriptorIndex := 6, attributes := #[] }, { accessFlags := 16409, nameIndex := 9, descriptorIndex := 6, attributes := #[] }, { accessFlags := 4122, nameIndex := 12, descriptorIndex := 13, attributes := #[] }])
  fields := #[{ name := "NS", type := (.object "com/example/kozir_tables/kozirtables/games/Side"), accessFlags := 16409, slot := 0, constantValue := 0 }, { name := "EW", type := (.object "com/example/kozir_tables/kozirtables/games/Side"), accessFlags := 16409, slot := 1, constantValue := 0 }, { name := "$VALUES", type := (.array (.object "com/example/kozir_tables/kozirtables/games/Side")), accessFlags := 4122, slot := 2, constantValue := 0 }]
  methods := #[k6m0, k6m1]
  instanceTypes := #[(.object "java/lang/String"), .int, .int]
  staticTypes := #[(.object "com/example/kozir_tables/kozirtables/games/Side"), (.object "com/example/kozir_tables/kozirtables/games/Side"), (.array (.object "com/example/kozir_tables/kozirtables/games/Side"))]
  resolved := Array.replicate 61 none
  statics := some 0 }

def pool7 : Array CpInfo := pool [(1, .class_ 2), (0, u "com/example/kozir_tables/kozirtables/games/Seat"), (2, u "N"), (0, u "Lcom/example/kozir_tables/kozirtables/games/Seat;"), (2, u "E"), (2, u "S"), (2, u "W"), (0, .fieldref 1 17), (0, .nameAndType 18 19), (0, u "$VALUES"), (0, u "[Lcom/example/kozir_tables/kozirtables/games/Seat;"), (0, .methodref 21 22), (0, .class_ 19), (0, .nameAndType 23 24), (0, u "clone"), (0, u "()Ljava/lang/Object;"), (1, .class_ 28), (1, u "java/lang/Enum"), (6, .methodref 1 36), (0, .nameAndType 37 38), (0, u "values"), (0, u "()[Lcom/example/kozir_tables/kozirtables/games/Seat;"), (0, .methodref 1 40), (0, .nameAndType 41 42), (0, u "ordinal"), (0, u "()I"), (14, u "next"), (0, u "()Lcom/example/kozir_tables/kozirtables/games/Seat;")] 4

def k7c0 : Code := { maxStack := 1, maxLocals := 0, code := prog_46_method_1_code, exceptionTable := #[], attributes := #[] }
def k7m0 : Method := { name := "values", desc := "()[Lcom/example/kozir_tables/kozirtables/games/Seat;", sig := { parameters := [], returnType := some (.array (.object "com/example/kozir_tables/kozirtables/games/Seat")) }, accessFlags := 9, code := some k7c0 }
def k7c1 : Code := { maxStack := 3, maxLocals := 2, code := prog_46_method_4_code, exceptionTable := #[], attributes := #[] }
def k7m1 : Method := { name := "next", desc := "()Lcom/example/kozir_tables/kozirtables/games/Seat;", sig := { parameters := [], returnType := some (.object "com/example/kozir_tables/kozirtables/games/Seat") }, accessFlags := 1, code := some k7c1 }
/-- com/example/kozir_tables/kozirtables/games/Seat -/
def k7 : Class := { plain "com/example/kozir_tables/kozirtables/games/Seat" (some 5) with
  accessFlags := 16433
  interfaces := #[]
  cf := some (fileOf pool7 1 #[] #[{ accessFlags := 9, nameIndex := 37, descriptorIndex := 38, attributes := #[] }, { accessFlags := 1, nameIndex := 57, descriptorIndex := 58, attributes := #[] }] 16433 26 #[] #[{ accessFlags := 16409, nameIndex := 5, descriptorIndex := 6, attributes := #[] }, { accessFlags := 16409, nameIndex := 9, descriptorIndex := 6, attributes := #[] }, { accessFlags := 16409, nameIndex := 12, descriptorIndex := 6, attributes := #[] }, { accessFlags := 16409, nameIndex := 15, descriptorIndex := 6, attributes := #[] }, { accessFlags := 4122, nameIndex := 18, descriptorIndex := 19, attributes := #[] }])
  fields := #[{ name := "N", type := (.object "com/example/kozir_tables/kozirtables/games/Seat"), accessFlags := 16409, slot := 0, constantValue := 0 }, { name := "E", type := (.object "com/example/kozir_tables/kozirtables/games/Seat"), accessFlags := 16409, slot := 1, constantValue := 0 }, { name := "S", type := (.object "com/example/kozir_tables/kozirtables/games/Seat"), accessFlags := 16409, slot := 2, constantValue := 0 }, { name := "W", type := (.object "com/example/kozir_tables/kozirtables/games/Seat"), accessFlags := 16409, slot := 3, constantValue := 0 }, { name := "$VALUES", type := (.array (.object "com/example/kozir_tables/kozirtables/games/Seat")), accessFlags := 4122, slot := 4, constantValue := 0 }]
  methods := #[k7m0, k7m1]
  instanceTypes := #[(.object "java/lang/String"), .int, .int]
  staticTypes := #[(.object "com/example/kozir_tables/kozirtables/games/Seat"), (.object "com/example/kozir_tables/kozirtables/games/Seat"), (.object "com/example/kozir_tables/kozirtables/games/Seat"), (.object "com/example/kozir_tables/kozirtables/games/Seat"), (.array (.object "com/example/kozir_tables/kozirtables/games/Seat"))]
  resolved := Array.replicate 63 none
  statics := some 1 }

def pool8 : Array CpInfo := pool [(1, .class_ 2), (0, u "java/lang/Cloneable"), (0, .class_ 4), (0, u "java/lang/Object")] 2

/-- java/lang/Cloneable -/
def k8 : Class := { plain "java/lang/Cloneable" (some 0) with
  accessFlags := 1537
  interfaces := #[]
  cf := some (fileOf pool8 1 #[] #[] 1537 3 #[] #[])
  fields := #[]
  methods := #[]
  instanceTypes := #[]
  staticTypes := #[]
  resolved := Array.replicate 7 none
  statics := none }

/-- the primitive byte -/
def k9 : Class := { plain "byte" none with kind := .primitive 'B', accessFlags := 0x411 }
/-- [B -/
def k10 : Class := { plain "[B" (some 0) with kind := .array 9 .byte, interfaces := #[8, 4], accessFlags := 1041 }

/-- the primitive int -/
def k11 : Class := { plain "int" none with kind := .primitive 'I', accessFlags := 0x411 }
/-- [I -/
def k12 : Class := { plain "[I" (some 0) with kind := .array 11 .int, interfaces := #[8, 4], accessFlags := 1041 }

/-- [Lcom/example/kozir_tables/kozirtables/games/Seat; -/
def k13 : Class := { plain "[Lcom/example/kozir_tables/kozirtables/games/Seat;" (some 0) with kind := .array 7 (.object "com/example/kozir_tables/kozirtables/games/Seat"), interfaces := #[8, 4], accessFlags := 1041 }

def heap : Heap := #[{ cls := 6, slots := #[.ref 7, .ref 8, .null], vm := .statics 6 },
  { cls := 7, slots := #[.ref 3, .ref 4, .ref 5, .ref 6, .ref 2], vm := .statics 7 },
  { cls := 13, slots := #[.ref 3, .ref 4, .ref 5, .ref 6], vm := .none },
  { cls := 7, slots := #[.null, .int 0, .int 0], vm := .none },
  { cls := 7, slots := #[.null, .int 1, .int 0], vm := .none },
  { cls := 7, slots := #[.null, .int 2, .int 0], vm := .none },
  { cls := 7, slots := #[.null, .int 3, .int 0], vm := .none },
  { cls := 6, slots := #[.null, .int 0, .int 0], vm := .none },
  { cls := 6, slots := #[.null, .int 1, .int 0], vm := .none }]
def classes : Array Class := #[k0, k1, k2, k3, k4, k5, k6, k7, k8, k9, k10, k11, k12, k13]
def interned : List (Array UInt16 × Addr) := []
def slotsUsed : Nat := 30
def theMethod : MethodId := ⟨1, 2⟩
def args0 : Array Value := #[.int 3, .int 6]
def aboutOver (below : List Frame) : State where
  vm := { classes := classes, interned := interned.toArray }
  heap := heap
  slotsUsed := slotsUsed
  threads := #[{ frames := .invoking theMethod args0 :: below }]
def below0 : List Frame := [.native { method := ⟨0, 0⟩, args := #[] }]
def about1 : State := aboutOver below0
def p0 : Program := .bare "" "" ""
def e0 : Env := launch0.env 0 0 0
theorem w_frames : about1.frames = Frame.invoking theMethod args0 :: below0 := rfl
set_option maxRecDepth 65536 in
theorem w_args : argsFit about1.vm theMethod args0 = true := by decide +kernel
set_option maxRecDepth 65536 in
theorem w_heap : heapFits about1 = true := by decide +kernel
set_option maxRecDepth 65536 in
theorem w_runnable : about1.curStatus? = some .runnable := by decide +kernel
set_option maxRecDepth 65536 in
theorem w_alone : about1.alone = true := by decide +kernel
set_option maxRecDepth 65536 in
theorem w_named : about1.methodNamed? x = some theMethod := by decide +kernel
set_option maxRecDepth 65536 in
theorem w_hears : about1.hears theMethod below0 = true := by decide +kernel
set_option maxRecDepth 65536 in
theorem w_ripe : about1.ripe theMethod args0 below0 = true := by decide +kernel
theorem w_running : about1.status = .running := rfl
set_option maxRecDepth 65536 in
theorem w_room : about1.hasRoom e0.platform room_1 = true :=
  launch0.hasRoom_least _ room_1 (by decide +kernel) (by decide +kernel) (by decide +kernel) (by decide +kernel) (by decide +kernel) (by decide +kernel)
theorem allAtoms_all (ts : List Jvm.Cond) (a : Array Jvm.Value) (st : Jvm.State) : (allAtoms ts).before a st = ts.all (fun c => c.before a st) := by
  induction ts with
  | nil => rfl
  | cons c t ih =>
    show (Jvm.Cond.and c (allAtoms t)).before a st = _
    rw [Jvm.Cond.before_and, ih, List.all_cons]
def words1 : List Jvm.Cond := Jvm.Cond.code x code maxLocals ret :: tables_1
/-- a 'code' word, met by the world's own term for the bytes: nothing is compared byte by byte -/
theorem code_word {y : MethodName} {bytes : ByteArray} {mx : Nat} {rt : Option FieldType} {a : Array Value} {s : State} {m : MethodId} {meth : Method} {c : Code} (h1 : s.methodNamed? y = some m) (h2 : s.vm.method? m = some meth) (h3 : meth.code = some c) (h4 : c.code = bytes)
    (h5 : (c.maxLocals == mx && c.exceptionTable.isEmpty && decide (c.maxStack ≤ mostOperands) && decide (meth.sig.returnType = rt) && !meth.locks && decide (parseMethodDescriptor y.desc = some meth.sig)) = true) : (Jvm.Cond.code y bytes mx rt).before a s = true := by
  simp only [Bool.and_eq_true, beq_iff_eq, Bool.not_eq_true', decide_eq_true_eq] at h5
  obtain ⟨⟨⟨⟨⟨g1, g2⟩, g3⟩, g4⟩, g5⟩, g6⟩ := h5
  simp [Cond.before, Cond.holds, Cond.value, h1, h2, h3, h4, g1, g2, g3, g4, g5, g6]
def isCode : Jvm.Cond → Bool
  | .code _ _ _ _ => true
  | _ => false
theorem all_split {L : List Jvm.Cond} {P : Jvm.Cond → Bool} (h1 : L.all (fun c => isCode c || P c) = true) (h2 : ∀ c ∈ L.filter isCode, P c = true) : L.all P = true := by
  refine List.all_eq_true.mpr fun c hc => ?_
  have h := List.all_eq_true.mp h1 c hc
  rcases Bool.eq_false_or_eq_true (isCode c) with hi | hi
  · exact h2 c (List.mem_filter.mpr ⟨hc, hi⟩)
  · simpa [hi] using h
set_option maxRecDepth 65536 in
theorem w_c0 : (Jvm.Cond.code x code maxLocals ret).before args0 about1 = true := code_word (m := ⟨1, 2⟩) (meth := k1m2) (c := k1c2) (by decide +kernel) rfl rfl rfl (by decide +kernel)
set_option maxRecDepth 65536 in
theorem w_c1 : (Jvm.Cond.code ({ cls := "com/example/kozir_tables/kozirtables/games/SideOtherPinLaw", name := "seatOf", desc := "(I)Lcom/example/kozir_tables/kozirtables/games/Seat;" } : Jvm.MethodName) method_2_code (1 : Nat) (Option.some (Jvm.ClassFile.FieldType.object "com/example/kozir_tables/kozirtables/games/Seat"))).before args0 about1 = true := code_word (m := ⟨1, 1⟩) (meth := k1m1) (c := k1c1) (by decide +kernel) rfl rfl rfl (by decide +kernel)
set_option maxRecDepth 65536 in
theorem w_c2 : (Jvm.Cond.code ({ cls := "com/example/kozir_tables/kozirtables/games/Side", name := "other", desc := "()Lcom/example/kozir_tables/kozirtables/games/Side;" } : Jvm.MethodName) prog_47_method_5_code (1 : Nat) (Option.some (Jvm.ClassFile.FieldType.object "com/example/kozir_tables/kozirtables/games/Side"))).before args0 about1 = true := code_word (m := ⟨6, 1⟩) (meth := k6m1) (c := k6c1) (by decide +kernel) rfl rfl rfl (by decide +kernel)
set_option maxRecDepth 65536 in
theorem w_c3 : (Jvm.Cond.code ({ cls := "com/example/kozir_tables/kozirtables/games/Side", name := "of", desc := "(Lcom/example/kozir_tables/kozirtables/games/Seat;)Lcom/example/kozir_tables/kozirtables/games/Side;" } : Jvm.MethodName) prog_47_method_4_code (1 : Nat) (Option.some (Jvm.ClassFile.FieldType.object "com/example/kozir_tables/kozirtables/games/Side"))).before args0 about1 = true := code_word (m := ⟨6, 0⟩) (meth := k6m0) (c := k6c0) (by decide +kernel) rfl rfl rfl (by decide +kernel)
set_option maxRecDepth 65536 in
theorem w_c4 : (Jvm.Cond.code ({ cls := "com/example/kozir_tables/kozirtables/games/Seat", name := "next", desc := "()Lcom/example/kozir_tables/kozirtables/games/Seat;" } : Jvm.MethodName) prog_46_method_4_code (2 : Nat) (Option.some (Jvm.ClassFile.FieldType.object "com/example/kozir_tables/kozirtables/games/Seat"))).before args0 about1 = true := code_word (m := ⟨7, 1⟩) (meth := k7m1) (c := k7c1) (by decide +kernel) rfl rfl rfl (by decide +kernel)
set_option maxRecDepth 65536 in
theorem w_c5 : (Jvm.Cond.code ({ cls := "com/example/kozir_tables/kozirtables/games/Seat", name := "values", desc := "()[Lcom/example/kozir_tables/kozirtables/games/Seat;" } : Jvm.MethodName) prog_46_method_1_code (0 : Nat) (Option.some (Jvm.ClassFile.FieldType.array (Jvm.ClassFile.FieldType.object "com/example/kozir_tables/kozirtables/games/Seat")))).before args0 about1 = true := code_word (m := ⟨7, 0⟩) (meth := k7m0) (c := k7c0) (by decide +kernel) rfl rfl rfl (by decide +kernel)
set_option maxRecDepth 65536 in
theorem w_c6 : (Jvm.Cond.code ({ cls := "java/lang/Enum", name := "ordinal", desc := "()I" } : Jvm.MethodName) jdk_37_method_2_code (1 : Nat) (Option.some Jvm.ClassFile.FieldType.int)).before args0 about1 = true := code_word (m := ⟨5, 0⟩) (meth := k5m0) (c := k5c0) (by decide +kernel) rfl rfl rfl (by decide +kernel)
def codes1 : List Jvm.Cond := [Jvm.Cond.code x code maxLocals ret, Jvm.Cond.code ({ cls := "com/example/kozir_tables/kozirtables/games/SideOtherPinLaw", name := "seatOf", desc := "(I)Lcom/example/kozir_tables/kozirtables/games/Seat;" } : Jvm.MethodName) method_2_code (1 : Nat) (Option.some (Jvm.ClassFile.FieldType.object "com/example/kozir_tables/kozirtables/games/Seat")), Jvm.Cond.code ({ cls := "com/example/kozir_tables/kozirtables/games/Side", name := "other", desc := "()Lcom/example/kozir_tables/kozirtables/games/Side;" } : Jvm.MethodName) prog_47_method_5_code (1 : Nat) (Option.some (Jvm.ClassFile.FieldType.object "com/example/kozir_tables/kozirtables/games/Side")), Jvm.Cond.code ({ cls := "com/example/kozir_tables/kozirtables/games/Side", name := "of", desc := "(Lcom/example/kozir_tables/kozirtables/games/Seat;)Lcom/example/kozir_tables/kozirtables/games/Side;" } : Jvm.MethodName) prog_47_method_4_code (1 : Nat) (Option.some (Jvm.ClassFile.FieldType.object "com/example/kozir_tables/kozirtables/games/Side")), Jvm.Cond.code ({ cls := "com/example/kozir_tables/kozirtables/games/Seat", name := "next", desc := "()Lcom/example/kozir_tables/kozirtables/games/Seat;" } : Jvm.MethodName) prog_46_method_4_code (2 : Nat) (Option.some (Jvm.ClassFile.FieldType.object "com/example/kozir_tables/kozirtables/games/Seat")), Jvm.Cond.code ({ cls := "com/example/kozir_tables/kozirtables/games/Seat", name := "values", desc := "()[Lcom/example/kozir_tables/kozirtables/games/Seat;" } : Jvm.MethodName) prog_46_method_1_code (0 : Nat) (Option.some (Jvm.ClassFile.FieldType.array (Jvm.ClassFile.FieldType.object "com/example/kozir_tables/kozirtables/games/Seat"))), Jvm.Cond.code ({ cls := "java/lang/Enum", name := "ordinal", desc := "()I" } : Jvm.MethodName) jdk_37_method_2_code (1 : Nat) (Option.some Jvm.ClassFile.FieldType.int)]
set_option maxRecDepth 65536 in
theorem codes_eq : words1.filter isCode = codes1 := rfl
theorem w_codes : ∀ c ∈ words1.filter isCode, c.before args0 about1 = true := by
  rw [codes_eq]
  intro c hc
  simp only [codes1, List.mem_cons, List.not_mem_nil, or_false] at hc
  rcases hc with rfl | rfl | rfl | rfl | rfl | rfl | rfl
  · exact w_c0
  · exact w_c1
  · exact w_c2
  · exact w_c3
  · exact w_c4
  · exact w_c5
  · exact w_c6
set_option maxRecDepth 65536 in
theorem w_t1 : (words1.take 24).all (fun c => isCode c || c.before args0 about1) = true := by decide +kernel
set_option maxRecDepth 65536 in
theorem w_t2 : ((words1.drop 24).take 24).all (fun c => isCode c || c.before args0 about1) = true := by decide +kernel
set_option maxRecDepth 65536 in
theorem w_t3 : ((words1.drop 24).drop 24).all (fun c => isCode c || c.before args0 about1) = true := by decide +kernel
theorem w_tables : (allAtoms (Jvm.Cond.code x code maxLocals ret :: tables_1)).before args0 about1 = true := by
  rw [allAtoms_all]
  show words1.all (fun c => c.before args0 about1) = true
  refine all_split ?_ w_codes
  rw [← List.take_append_drop 24 words1, List.all_append, w_t1, ← List.take_append_drop 24 (words1.drop 24), List.all_append, w_t2, w_t3]
  rfl
set_option maxRecDepth 65536 in
theorem w_case : (Jvm.Cond.and given_1 narrow_1).before args0 about1 = true := by decide +kernel
theorem w_applies : (headSpec (Jvm.Cond.code x code maxLocals ret :: tables_1) room_1).applies x e0.platform about1 = true :=
  (Spec.applies_iff w_frames).mpr ⟨w_running, w_runnable, w_alone, w_named, w_hears, w_ripe, w_room, w_tables⟩
theorem atStart : AtStart classFile x code maxLocals ret World_1 tables_1 room_1 Calls_1 rest_1 Pre_1 launch0 p0 e0 about1 theMethod args0 below0 :=
  ⟨lists_1, trivial, launch0.admits_env _ _ _, launch0.least_env, fairChoices_fair.cas, fairChoices_fair.clock, w_frames, w_args, w_heap, w_applies, trivial, trivial, w_case⟩
end start1
theorem witness_1 : WitnessClaimed_1 := ⟨start1.p0, start1.e0, start1.about1, start1.theMethod, start1.args0, start1.below0, start1.atStart⟩
end Jvm.Pilot.@@N@@
