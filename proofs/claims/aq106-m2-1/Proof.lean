import JvmDerived
import JvmDerived.Pilot.@@N@@Statement
import JvmDerived.Pilot.@@N@@Code
set_option linter.unusedVariables false
set_option linter.unusedSimpArgs false
namespace Jvm.RoadKit
open Sem ClassFile Op Lib Jvm.Stand Jvm.Free Jvm.LawKit
section New
variable {p : Program} {l : Launch} {e : Env} {R : Room} {s : State} {m : MethodId} {args : Array Value} {below : List Frame} {meth : Method} {c : Code} {T : State} {locs : List Loc} {cells slots : Nat}
theorem retI (X : Stand p l e R s m args below meth c T locs cells slots) (hx : p.tables.exec = Jvm.exec) {pc : Nat} {Ls : Array Slot} {z : Int32} {rest : List Value} (hret : meth.sig.returnType = some .int) (hd : decode c.code pc = .ok (.ireturn, 1)) {fs : List Frame}
    (hl : ∀ (f : JFrame) (acts : List Action), f.method = m → f.locked = none → f.entered = [] → (doReturn e (T.setTop f) acts (some (.int z))).1 = T.setFrames fs) : Steps p.tables e below (T.setTop (mkF m pc Ls (.int z :: rest))) (T.setFrames fs) := by
  have hm' : T.vm.method? m = some meth := X.method'
  have hn : narrow .int (.int z) = .int z := rfl
  show Steps p.tables e below (T.setTop { method := m, pc := pc, locals := Ls, stack := _ :: rest, locked := none }) _
  jvm_step X.here [X.here.top, hx, hd, hm', hret, hn]
  first | (intro acts; rw [hl _ acts rfl rfl rfl]) | rw [hl _ _ rfl rfl rfl]
  exact Steps.refl _
end New
end Jvm.RoadKit
namespace Jvm.Pilot.@@N@@
open Jvm Jvm.ClassFile Sem Op Lib Jvm.Free Jvm.Stand Jvm.LawKit Jvm.RoadKit Bundle Jvm.Pilot.@@N@@.Jvm.D

def own_QV (r : Option Value) (h0 : Heap) (n0 : Nat) (v : Option Value) (h : Heap) (L : List Loc) : Prop := v = r ∧ Fr n0 L ∧ h = h0
def own_QL (n0 : Nat) (v : Option Value) (h : Heap) (L : List Loc) : Prop := v = some (.int (1 : Int32)) ∧ Fr n0 L
theorem own_fldi {args : Array Value} {Z : State} {t : Term} {C n d : String} {k : Int32} {a : Addr} (ht : t.eval args Z none [] Z = some (.ref a)) (h : (Jvm.Cond.eq (.field t C n d) (.int k)).value args Z none Z [] = some true) : Fld Z Z.heap a C n d (.int k) := by
  obtain ⟨x, y, hx, hy, -, k2⟩ := cmp_v (Or.inl h)
  have hy' : y = .int k := by simpa [Term.eval] using hy.symm
  subst hy'
  obtain ⟨z, rfl⟩ := k2
  have e : z = k := by simpa [Cond.value, hx, hy] using h
  subst e
  exact Fld.start (by rw [← fld_at ht]; exact hx)
theorem d2_0 : decode jdk_37_method_2_code 0 = .ok (.aload_n 0, 1) := by decide +kernel
theorem d2_1 : decode jdk_37_method_2_code 1 = .ok (.getfield 7, 3) := by decide +kernel
theorem d2_4 : decode jdk_37_method_2_code 4 = .ok (.ireturn, 1) := by decide +kernel
theorem pn_2 : plainName "java/lang/Enum" = true := by first | (simp [plainName, overriddenIn]; done) | decide +kernel
theorem ef_2 (m : MethodId) (x0 : Addr) : entryFrame m #[(.ref x0)] 1 = mkF m 0 #[.val (.ref x0)] [] := by first | (simp [entryFrame, mkF, argsToLocals, Value.category]; done) | rfl
theorem d1_0 : decode prog_81_method_5_code 0 = .ok (.aload_n 0, 1) := by decide +kernel
theorem d1_1 : decode prog_81_method_5_code 1 = .ok (.invokevirtual 39, 3) := by decide +kernel
theorem d1_4 : decode prog_81_method_5_code 4 = .ok (.tableswitch 32 0 3 #[42, 56, 70, 84], 32) := by decide +kernel
theorem d1_46 : decode prog_81_method_5_code 46 = .ok (.lload_n 1, 1) := by decide +kernel
theorem d1_47 : decode prog_81_method_5_code 47 = .ok (.lload_n 3, 1) := by decide +kernel
theorem d1_48 : decode prog_81_method_5_code 48 = .ok (.lcmp, 1) := by decide +kernel
theorem d1_49 : decode prog_81_method_5_code 49 = .ok (.ifCond .ge 7, 3) := by decide +kernel
theorem d1_52 : decode prog_81_method_5_code 52 = .ok (.iconst 1, 1) := by decide +kernel
theorem d1_53 : decode prog_81_method_5_code 53 = .ok (.goto 46, 3) := by decide +kernel
theorem d1_99 : decode prog_81_method_5_code 99 = .ok (.ireturn, 1) := by decide +kernel
theorem pn_1 : plainName "com/example/sanction/sanction/language/Comparison$Operator" = true := by first | (simp [plainName, overriddenIn]; done) | decide +kernel
theorem pd_1_1 : parseMethodDescriptor "()I" = some ⟨[], some .int⟩ := by decide +kernel
theorem ef_1 (m : MethodId) (x0 : Addr) (x1 : Int64) (x2 : Int64) : entryFrame m #[(.ref x0), (.long x1), (.long x2)] 5 = mkF m 0 #[.val (.ref x0), .val (.long x1), .second, .val (.long x2), .second] [] := by first | (simp [entryFrame, mkF, argsToLocals, Value.category]; done) | rfl
theorem d1_56 : decode prog_81_method_5_code 56 = .ok (.iconst 0, 1) := by decide +kernel
theorem d1_57 : decode prog_81_method_5_code 57 = .ok (.goto 42, 3) := by decide +kernel
theorem d1_60 : decode prog_81_method_5_code 60 = .ok (.lload_n 1, 1) := by decide +kernel
theorem d1_61 : decode prog_81_method_5_code 61 = .ok (.lload_n 3, 1) := by decide +kernel
theorem d1_62 : decode prog_81_method_5_code 62 = .ok (.lcmp, 1) := by decide +kernel
theorem d1_63 : decode prog_81_method_5_code 63 = .ok (.ifCond .gt 7, 3) := by decide +kernel
theorem d1_66 : decode prog_81_method_5_code 66 = .ok (.iconst 1, 1) := by decide +kernel
theorem d1_67 : decode prog_81_method_5_code 67 = .ok (.goto 32, 3) := by decide +kernel
theorem d1_70 : decode prog_81_method_5_code 70 = .ok (.iconst 0, 1) := by decide +kernel
theorem d1_71 : decode prog_81_method_5_code 71 = .ok (.goto 28, 3) := by decide +kernel
theorem d1_74 : decode prog_81_method_5_code 74 = .ok (.lload_n 1, 1) := by decide +kernel
theorem d1_75 : decode prog_81_method_5_code 75 = .ok (.lload_n 3, 1) := by decide +kernel
theorem d1_76 : decode prog_81_method_5_code 76 = .ok (.lcmp, 1) := by decide +kernel
theorem d1_77 : decode prog_81_method_5_code 77 = .ok (.ifCond .le 7, 3) := by decide +kernel
theorem d1_80 : decode prog_81_method_5_code 80 = .ok (.iconst 1, 1) := by decide +kernel
theorem d1_81 : decode prog_81_method_5_code 81 = .ok (.goto 18, 3) := by decide +kernel
theorem d1_84 : decode prog_81_method_5_code 84 = .ok (.iconst 0, 1) := by decide +kernel
theorem d1_85 : decode prog_81_method_5_code 85 = .ok (.goto 14, 3) := by decide +kernel
theorem d1_88 : decode prog_81_method_5_code 88 = .ok (.lload_n 1, 1) := by decide +kernel
theorem d1_89 : decode prog_81_method_5_code 89 = .ok (.lload_n 3, 1) := by decide +kernel
theorem d1_90 : decode prog_81_method_5_code 90 = .ok (.lcmp, 1) := by decide +kernel
theorem d1_91 : decode prog_81_method_5_code 91 = .ok (.ifCond .lt 7, 3) := by decide +kernel
theorem d1_94 : decode prog_81_method_5_code 94 = .ok (.iconst 1, 1) := by decide +kernel
theorem d1_95 : decode prog_81_method_5_code 95 = .ok (.goto 4, 3) := by decide +kernel
theorem d1_98 : decode prog_81_method_5_code 98 = .ok (.iconst 0, 1) := by decide +kernel
theorem pn_0 : plainName "com/example/sanction/sanction/language/OperatorHoldsPinLaw" = true := by first | (simp [plainName, overriddenIn]; done) | decide +kernel
theorem pd_0_0 : parseMethodDescriptor "(JJ)Z" = some ⟨[.long, .long], some .boolean⟩ := by decide +kernel
theorem ef_0 (m : MethodId) (x0 : Int32) (x1 : Int64) (x2 : Int64) : entryFrame m #[(.int x0), (.long x1), (.long x2)] maxLocals = mkF m 0 #[.val (.int x0), .val (.long x1), .second, .val (.long x2), .second, .unset, .unset, .unset, .unset, .unset, .unset, .unset, .unset] [] := by first | (simp [entryFrame, mkF, argsToLocals, Value.category, maxLocals]; done) | rfl
theorem os_own_A1_8 {z0 : Value} {z1 : Value} {s3 : Slot} {s4 : Slot} {z5 : Value} {s7 : Slot} {s8 : Slot} {s9 : Slot} {s10 : Slot} {s11 : Slot} {s12 : Slot} {v : Int32} (h : One s7) : storeLocals #[.val z0, .val z1, .second, s3, s4, .val z5, .second, s7, s8, s9, s10, s11, s12] 7 (.int v) = some #[.val z0, .val z1, .second, s3, s4, .val z5, .second, .val (.int v), s8, s9, s10, s11, s12] := by
  rcases h with rfl | ⟨w, rfl, hw⟩
  · rfl
  · cases w <;> first | rfl | (simp [Value.category] at hw)
theorem os_own_A2_8 {z0 : Value} {z1 : Value} {s3 : Slot} {s4 : Slot} {z5 : Value} {s7 : Slot} {s8 : Slot} {s9 : Slot} {s10 : Slot} {s11 : Slot} {s12 : Slot} {v : Int32} (h : One s7) : storeLocals #[.val z0, .val z1, .second, s3, s4, .val z5, .second, s7, s8, s9, s10, s11, s12] 7 (.int v) = some #[.val z0, .val z1, .second, s3, s4, .val z5, .second, .val (.int v), s8, s9, s10, s11, s12] := by
  rcases h with rfl | ⟨w, rfl, hw⟩
  · rfl
  · cases w <;> first | rfl | (simp [Value.category] at hw)
theorem os_own_A3_8 {z0 : Value} {z1 : Value} {s3 : Slot} {s4 : Slot} {z5 : Value} {s7 : Slot} {s8 : Slot} {s9 : Slot} {s10 : Slot} {s11 : Slot} {s12 : Slot} {v : Int32} (h : One s7) : storeLocals #[.val z0, .val z1, .second, s3, s4, .val z5, .second, s7, s8, s9, s10, s11, s12] 7 (.int v) = some #[.val z0, .val z1, .second, s3, s4, .val z5, .second, .val (.int v), s8, s9, s10, s11, s12] := by
  rcases h with rfl | ⟨w, rfl, hw⟩
  · rfl
  · cases w <;> first | rfl | (simp [Value.category] at hw)
theorem os_own_A0_8 {z0 : Value} {s1 : Slot} {s2 : Slot} {s3 : Slot} {s4 : Slot} {z5 : Value} {s7 : Slot} {s8 : Slot} {s9 : Slot} {s10 : Slot} {s11 : Slot} {s12 : Slot} {v : Int32} (h : One s7) : storeLocals #[.val z0, s1, s2, s3, s4, .val z5, .second, s7, s8, s9, s10, s11, s12] 7 (.int v) = some #[.val z0, s1, s2, s3, s4, .val z5, .second, .val (.int v), s8, s9, s10, s11, s12] := by
  rcases h with rfl | ⟨w, rfl, hw⟩
  · rfl
  · cases w <;> first | rfl | (simp [Value.category] at hw)
theorem os_own_B0_50 {z0 : Value} {s1 : Slot} {s2 : Slot} {s3 : Slot} {s4 : Slot} {s5 : Slot} {s6 : Slot} {s7 : Slot} {s8 : Slot} {s9 : Slot} {s10 : Slot} {s11 : Slot} {s12 : Slot} {v : Int32} (h : One s8) : storeLocals #[.val z0, s1, s2, s3, s4, s5, s6, s7, s8, s9, s10, s11, s12] 8 (.int v) = some #[.val z0, s1, s2, s3, s4, s5, s6, s7, .val (.int v), s9, s10, s11, s12] := by
  rcases h with rfl | ⟨w, rfl, hw⟩
  · rfl
  · cases w <;> first | rfl | (simp [Value.category] at hw)
theorem os_own_B0_60 {z0 : Value} {s1 : Slot} {s2 : Slot} {s3 : Slot} {s4 : Slot} {s5 : Slot} {s6 : Slot} {s7 : Slot} {z8 : Value} {s9 : Slot} {s10 : Slot} {s11 : Slot} {s12 : Slot} {v : Addr} (h : One s9) : storeLocals #[.val z0, s1, s2, s3, s4, s5, s6, s7, .val z8, s9, s10, s11, s12] 9 (.ref v) = some #[.val z0, s1, s2, s3, s4, s5, s6, s7, .val z8, .val (.ref v), s10, s11, s12] := by
  rcases h with rfl | ⟨w, rfl, hw⟩
  · rfl
  · cases w <;> first | rfl | (simp [Value.category] at hw)
theorem os_own_B1_50 {z0 : Value} {s1 : Slot} {s2 : Slot} {s3 : Slot} {s4 : Slot} {s5 : Slot} {s6 : Slot} {s7 : Slot} {s8 : Slot} {s9 : Slot} {s10 : Slot} {s11 : Slot} {s12 : Slot} {v : Int32} (h : One s8) : storeLocals #[.val z0, s1, s2, s3, s4, s5, s6, s7, s8, s9, s10, s11, s12] 8 (.int v) = some #[.val z0, s1, s2, s3, s4, s5, s6, s7, .val (.int v), s9, s10, s11, s12] := by
  rcases h with rfl | ⟨w, rfl, hw⟩
  · rfl
  · cases w <;> first | rfl | (simp [Value.category] at hw)
theorem os_own_B1_74 {z0 : Value} {s1 : Slot} {s2 : Slot} {s3 : Slot} {s4 : Slot} {s5 : Slot} {s6 : Slot} {s7 : Slot} {z8 : Value} {s9 : Slot} {s10 : Slot} {s11 : Slot} {s12 : Slot} {v : Addr} (h : One s9) : storeLocals #[.val z0, s1, s2, s3, s4, s5, s6, s7, .val z8, s9, s10, s11, s12] 9 (.ref v) = some #[.val z0, s1, s2, s3, s4, s5, s6, s7, .val z8, .val (.ref v), s10, s11, s12] := by
  rcases h with rfl | ⟨w, rfl, hw⟩
  · rfl
  · cases w <;> first | rfl | (simp [Value.category] at hw)
theorem os_own_B2_50 {z0 : Value} {s1 : Slot} {s2 : Slot} {s3 : Slot} {s4 : Slot} {s5 : Slot} {s6 : Slot} {s7 : Slot} {s8 : Slot} {s9 : Slot} {s10 : Slot} {s11 : Slot} {s12 : Slot} {v : Int32} (h : One s8) : storeLocals #[.val z0, s1, s2, s3, s4, s5, s6, s7, s8, s9, s10, s11, s12] 8 (.int v) = some #[.val z0, s1, s2, s3, s4, s5, s6, s7, .val (.int v), s9, s10, s11, s12] := by
  rcases h with rfl | ⟨w, rfl, hw⟩
  · rfl
  · cases w <;> first | rfl | (simp [Value.category] at hw)
theorem os_own_B2_88 {z0 : Value} {s1 : Slot} {s2 : Slot} {s3 : Slot} {s4 : Slot} {s5 : Slot} {s6 : Slot} {s7 : Slot} {z8 : Value} {s9 : Slot} {s10 : Slot} {s11 : Slot} {s12 : Slot} {v : Addr} (h : One s9) : storeLocals #[.val z0, s1, s2, s3, s4, s5, s6, s7, .val z8, s9, s10, s11, s12] 9 (.ref v) = some #[.val z0, s1, s2, s3, s4, s5, s6, s7, .val z8, .val (.ref v), s10, s11, s12] := by
  rcases h with rfl | ⟨w, rfl, hw⟩
  · rfl
  · cases w <;> first | rfl | (simp [Value.category] at hw)
theorem os_own_B3_50 {z0 : Value} {s1 : Slot} {s2 : Slot} {s3 : Slot} {s4 : Slot} {s5 : Slot} {s6 : Slot} {s7 : Slot} {s8 : Slot} {s9 : Slot} {s10 : Slot} {s11 : Slot} {s12 : Slot} {v : Int32} (h : One s8) : storeLocals #[.val z0, s1, s2, s3, s4, s5, s6, s7, s8, s9, s10, s11, s12] 8 (.int v) = some #[.val z0, s1, s2, s3, s4, s5, s6, s7, .val (.int v), s9, s10, s11, s12] := by
  rcases h with rfl | ⟨w, rfl, hw⟩
  · rfl
  · cases w <;> first | rfl | (simp [Value.category] at hw)
theorem os_own_B3_96 {z0 : Value} {s1 : Slot} {s2 : Slot} {s3 : Slot} {s4 : Slot} {s5 : Slot} {s6 : Slot} {s7 : Slot} {z8 : Value} {s9 : Slot} {s10 : Slot} {s11 : Slot} {s12 : Slot} {v : Addr} (h : One s9) : storeLocals #[.val z0, s1, s2, s3, s4, s5, s6, s7, .val z8, s9, s10, s11, s12] 9 (.ref v) = some #[.val z0, s1, s2, s3, s4, s5, s6, s7, .val z8, .val (.ref v), s10, s11, s12] := by
  rcases h with rfl | ⟨w, rfl, hw⟩
  · rfl
  · cases w <;> first | rfl | (simp [Value.category] at hw)
theorem os_own_C00_110 {s0 : Slot} {z1 : Value} {s3 : Slot} {s4 : Slot} {z5 : Value} {s7 : Slot} {z8 : Value} {s9 : Slot} {s10 : Slot} {s11 : Slot} {s12 : Slot} {v : Int32} (h : One s10) : storeLocals #[s0, .val z1, .second, s3, s4, .val z5, .second, s7, .val z8, s9, s10, s11, s12] 10 (.int v) = some #[s0, .val z1, .second, s3, s4, .val z5, .second, s7, .val z8, s9, .val (.int v), s11, s12] := by
  rcases h with rfl | ⟨w, rfl, hw⟩
  · rfl
  · cases w <;> first | rfl | (simp [Value.category] at hw)
theorem os_own_C00_124 {s0 : Slot} {z1 : Value} {s3 : Slot} {s4 : Slot} {z5 : Value} {s7 : Slot} {z8 : Value} {s9 : Slot} {z10 : Value} {s11 : Slot} {s12 : Slot} {v : Int32} (h : One s11) : storeLocals #[s0, .val z1, .second, s3, s4, .val z5, .second, s7, .val z8, s9, .val z10, s11, s12] 11 (.int v) = some #[s0, .val z1, .second, s3, s4, .val z5, .second, s7, .val z8, s9, .val z10, .val (.int v), s12] := by
  rcases h with rfl | ⟨w, rfl, hw⟩
  · rfl
  · cases w <;> first | rfl | (simp [Value.category] at hw)
theorem os_own_C00_133 {s0 : Slot} {z1 : Value} {s3 : Slot} {s4 : Slot} {z5 : Value} {s7 : Slot} {z8 : Value} {s9 : Slot} {z10 : Value} {z11 : Value} {s12 : Slot} {v : Int32} (h : One s12) : storeLocals #[s0, .val z1, .second, s3, s4, .val z5, .second, s7, .val z8, s9, .val z10, .val z11, s12] 12 (.int v) = some #[s0, .val z1, .second, s3, s4, .val z5, .second, s7, .val z8, s9, .val z10, .val z11, .val (.int v)] := by
  rcases h with rfl | ⟨w, rfl, hw⟩
  · rfl
  · cases w <;> first | rfl | (simp [Value.category] at hw)
theorem os_own_C01_110 {s0 : Slot} {z1 : Value} {s3 : Slot} {s4 : Slot} {z5 : Value} {s7 : Slot} {z8 : Value} {s9 : Slot} {s10 : Slot} {s11 : Slot} {s12 : Slot} {v : Int32} (h : One s10) : storeLocals #[s0, .val z1, .second, s3, s4, .val z5, .second, s7, .val z8, s9, s10, s11, s12] 10 (.int v) = some #[s0, .val z1, .second, s3, s4, .val z5, .second, s7, .val z8, s9, .val (.int v), s11, s12] := by
  rcases h with rfl | ⟨w, rfl, hw⟩
  · rfl
  · cases w <;> first | rfl | (simp [Value.category] at hw)
theorem os_own_C01_124 {s0 : Slot} {z1 : Value} {s3 : Slot} {s4 : Slot} {z5 : Value} {s7 : Slot} {z8 : Value} {s9 : Slot} {z10 : Value} {s11 : Slot} {s12 : Slot} {v : Int32} (h : One s11) : storeLocals #[s0, .val z1, .second, s3, s4, .val z5, .second, s7, .val z8, s9, .val z10, s11, s12] 11 (.int v) = some #[s0, .val z1, .second, s3, s4, .val z5, .second, s7, .val z8, s9, .val z10, .val (.int v), s12] := by
  rcases h with rfl | ⟨w, rfl, hw⟩
  · rfl
  · cases w <;> first | rfl | (simp [Value.category] at hw)
theorem os_own_C01_133 {s0 : Slot} {z1 : Value} {s3 : Slot} {s4 : Slot} {z5 : Value} {s7 : Slot} {z8 : Value} {s9 : Slot} {z10 : Value} {z11 : Value} {s12 : Slot} {v : Int32} (h : One s12) : storeLocals #[s0, .val z1, .second, s3, s4, .val z5, .second, s7, .val z8, s9, .val z10, .val z11, s12] 12 (.int v) = some #[s0, .val z1, .second, s3, s4, .val z5, .second, s7, .val z8, s9, .val z10, .val z11, .val (.int v)] := by
  rcases h with rfl | ⟨w, rfl, hw⟩
  · rfl
  · cases w <;> first | rfl | (simp [Value.category] at hw)
theorem os_own_C02_110 {s0 : Slot} {z1 : Value} {s3 : Slot} {s4 : Slot} {z5 : Value} {s7 : Slot} {z8 : Value} {s9 : Slot} {s10 : Slot} {s11 : Slot} {s12 : Slot} {v : Int32} (h : One s10) : storeLocals #[s0, .val z1, .second, s3, s4, .val z5, .second, s7, .val z8, s9, s10, s11, s12] 10 (.int v) = some #[s0, .val z1, .second, s3, s4, .val z5, .second, s7, .val z8, s9, .val (.int v), s11, s12] := by
  rcases h with rfl | ⟨w, rfl, hw⟩
  · rfl
  · cases w <;> first | rfl | (simp [Value.category] at hw)
theorem os_own_C02_124 {s0 : Slot} {z1 : Value} {s3 : Slot} {s4 : Slot} {z5 : Value} {s7 : Slot} {z8 : Value} {s9 : Slot} {z10 : Value} {s11 : Slot} {s12 : Slot} {v : Int32} (h : One s11) : storeLocals #[s0, .val z1, .second, s3, s4, .val z5, .second, s7, .val z8, s9, .val z10, s11, s12] 11 (.int v) = some #[s0, .val z1, .second, s3, s4, .val z5, .second, s7, .val z8, s9, .val z10, .val (.int v), s12] := by
  rcases h with rfl | ⟨w, rfl, hw⟩
  · rfl
  · cases w <;> first | rfl | (simp [Value.category] at hw)
theorem os_own_C02_133 {s0 : Slot} {z1 : Value} {s3 : Slot} {s4 : Slot} {z5 : Value} {s7 : Slot} {z8 : Value} {s9 : Slot} {z10 : Value} {z11 : Value} {s12 : Slot} {v : Int32} (h : One s12) : storeLocals #[s0, .val z1, .second, s3, s4, .val z5, .second, s7, .val z8, s9, .val z10, .val z11, s12] 12 (.int v) = some #[s0, .val z1, .second, s3, s4, .val z5, .second, s7, .val z8, s9, .val z10, .val z11, .val (.int v)] := by
  rcases h with rfl | ⟨w, rfl, hw⟩
  · rfl
  · cases w <;> first | rfl | (simp [Value.category] at hw)
theorem os_own_C10_110 {s0 : Slot} {z1 : Value} {s3 : Slot} {s4 : Slot} {z5 : Value} {s7 : Slot} {z8 : Value} {s9 : Slot} {s10 : Slot} {s11 : Slot} {s12 : Slot} {v : Int32} (h : One s10) : storeLocals #[s0, .val z1, .second, s3, s4, .val z5, .second, s7, .val z8, s9, s10, s11, s12] 10 (.int v) = some #[s0, .val z1, .second, s3, s4, .val z5, .second, s7, .val z8, s9, .val (.int v), s11, s12] := by
  rcases h with rfl | ⟨w, rfl, hw⟩
  · rfl
  · cases w <;> first | rfl | (simp [Value.category] at hw)
theorem os_own_C10_124 {s0 : Slot} {z1 : Value} {s3 : Slot} {s4 : Slot} {z5 : Value} {s7 : Slot} {z8 : Value} {s9 : Slot} {z10 : Value} {s11 : Slot} {s12 : Slot} {v : Int32} (h : One s11) : storeLocals #[s0, .val z1, .second, s3, s4, .val z5, .second, s7, .val z8, s9, .val z10, s11, s12] 11 (.int v) = some #[s0, .val z1, .second, s3, s4, .val z5, .second, s7, .val z8, s9, .val z10, .val (.int v), s12] := by
  rcases h with rfl | ⟨w, rfl, hw⟩
  · rfl
  · cases w <;> first | rfl | (simp [Value.category] at hw)
theorem os_own_C10_159 {s0 : Slot} {z1 : Value} {s3 : Slot} {s4 : Slot} {z5 : Value} {s7 : Slot} {z8 : Value} {s9 : Slot} {z10 : Value} {z11 : Value} {s12 : Slot} {v : Int32} (h : One s12) : storeLocals #[s0, .val z1, .second, s3, s4, .val z5, .second, s7, .val z8, s9, .val z10, .val z11, s12] 12 (.int v) = some #[s0, .val z1, .second, s3, s4, .val z5, .second, s7, .val z8, s9, .val z10, .val z11, .val (.int v)] := by
  rcases h with rfl | ⟨w, rfl, hw⟩
  · rfl
  · cases w <;> first | rfl | (simp [Value.category] at hw)
theorem os_own_C11_110 {s0 : Slot} {z1 : Value} {s3 : Slot} {s4 : Slot} {z5 : Value} {s7 : Slot} {z8 : Value} {s9 : Slot} {s10 : Slot} {s11 : Slot} {s12 : Slot} {v : Int32} (h : One s10) : storeLocals #[s0, .val z1, .second, s3, s4, .val z5, .second, s7, .val z8, s9, s10, s11, s12] 10 (.int v) = some #[s0, .val z1, .second, s3, s4, .val z5, .second, s7, .val z8, s9, .val (.int v), s11, s12] := by
  rcases h with rfl | ⟨w, rfl, hw⟩
  · rfl
  · cases w <;> first | rfl | (simp [Value.category] at hw)
theorem os_own_C11_124 {s0 : Slot} {z1 : Value} {s3 : Slot} {s4 : Slot} {z5 : Value} {s7 : Slot} {z8 : Value} {s9 : Slot} {z10 : Value} {s11 : Slot} {s12 : Slot} {v : Int32} (h : One s11) : storeLocals #[s0, .val z1, .second, s3, s4, .val z5, .second, s7, .val z8, s9, .val z10, s11, s12] 11 (.int v) = some #[s0, .val z1, .second, s3, s4, .val z5, .second, s7, .val z8, s9, .val z10, .val (.int v), s12] := by
  rcases h with rfl | ⟨w, rfl, hw⟩
  · rfl
  · cases w <;> first | rfl | (simp [Value.category] at hw)
theorem os_own_C11_159 {s0 : Slot} {z1 : Value} {s3 : Slot} {s4 : Slot} {z5 : Value} {s7 : Slot} {z8 : Value} {s9 : Slot} {z10 : Value} {z11 : Value} {s12 : Slot} {v : Int32} (h : One s12) : storeLocals #[s0, .val z1, .second, s3, s4, .val z5, .second, s7, .val z8, s9, .val z10, .val z11, s12] 12 (.int v) = some #[s0, .val z1, .second, s3, s4, .val z5, .second, s7, .val z8, s9, .val z10, .val z11, .val (.int v)] := by
  rcases h with rfl | ⟨w, rfl, hw⟩
  · rfl
  · cases w <;> first | rfl | (simp [Value.category] at hw)
theorem os_own_C12_110 {s0 : Slot} {z1 : Value} {s3 : Slot} {s4 : Slot} {z5 : Value} {s7 : Slot} {z8 : Value} {s9 : Slot} {s10 : Slot} {s11 : Slot} {s12 : Slot} {v : Int32} (h : One s10) : storeLocals #[s0, .val z1, .second, s3, s4, .val z5, .second, s7, .val z8, s9, s10, s11, s12] 10 (.int v) = some #[s0, .val z1, .second, s3, s4, .val z5, .second, s7, .val z8, s9, .val (.int v), s11, s12] := by
  rcases h with rfl | ⟨w, rfl, hw⟩
  · rfl
  · cases w <;> first | rfl | (simp [Value.category] at hw)
theorem os_own_C12_124 {s0 : Slot} {z1 : Value} {s3 : Slot} {s4 : Slot} {z5 : Value} {s7 : Slot} {z8 : Value} {s9 : Slot} {z10 : Value} {s11 : Slot} {s12 : Slot} {v : Int32} (h : One s11) : storeLocals #[s0, .val z1, .second, s3, s4, .val z5, .second, s7, .val z8, s9, .val z10, s11, s12] 11 (.int v) = some #[s0, .val z1, .second, s3, s4, .val z5, .second, s7, .val z8, s9, .val z10, .val (.int v), s12] := by
  rcases h with rfl | ⟨w, rfl, hw⟩
  · rfl
  · cases w <;> first | rfl | (simp [Value.category] at hw)
theorem os_own_C12_159 {s0 : Slot} {z1 : Value} {s3 : Slot} {s4 : Slot} {z5 : Value} {s7 : Slot} {z8 : Value} {s9 : Slot} {z10 : Value} {z11 : Value} {s12 : Slot} {v : Int32} (h : One s12) : storeLocals #[s0, .val z1, .second, s3, s4, .val z5, .second, s7, .val z8, s9, .val z10, .val z11, s12] 12 (.int v) = some #[s0, .val z1, .second, s3, s4, .val z5, .second, s7, .val z8, s9, .val z10, .val z11, .val (.int v)] := by
  rcases h with rfl | ⟨w, rfl, hw⟩
  · rfl
  · cases w <;> first | rfl | (simp [Value.category] at hw)
theorem os_own_C20_110 {s0 : Slot} {z1 : Value} {s3 : Slot} {s4 : Slot} {z5 : Value} {s7 : Slot} {z8 : Value} {s9 : Slot} {s10 : Slot} {s11 : Slot} {s12 : Slot} {v : Int32} (h : One s10) : storeLocals #[s0, .val z1, .second, s3, s4, .val z5, .second, s7, .val z8, s9, s10, s11, s12] 10 (.int v) = some #[s0, .val z1, .second, s3, s4, .val z5, .second, s7, .val z8, s9, .val (.int v), s11, s12] := by
  rcases h with rfl | ⟨w, rfl, hw⟩
  · rfl
  · cases w <;> first | rfl | (simp [Value.category] at hw)
theorem os_own_C20_124 {s0 : Slot} {z1 : Value} {s3 : Slot} {s4 : Slot} {z5 : Value} {s7 : Slot} {z8 : Value} {s9 : Slot} {z10 : Value} {s11 : Slot} {s12 : Slot} {v : Int32} (h : One s11) : storeLocals #[s0, .val z1, .second, s3, s4, .val z5, .second, s7, .val z8, s9, .val z10, s11, s12] 11 (.int v) = some #[s0, .val z1, .second, s3, s4, .val z5, .second, s7, .val z8, s9, .val z10, .val (.int v), s12] := by
  rcases h with rfl | ⟨w, rfl, hw⟩
  · rfl
  · cases w <;> first | rfl | (simp [Value.category] at hw)
theorem os_own_C20_185 {s0 : Slot} {z1 : Value} {s3 : Slot} {s4 : Slot} {z5 : Value} {s7 : Slot} {z8 : Value} {s9 : Slot} {z10 : Value} {z11 : Value} {s12 : Slot} {v : Int32} (h : One s12) : storeLocals #[s0, .val z1, .second, s3, s4, .val z5, .second, s7, .val z8, s9, .val z10, .val z11, s12] 12 (.int v) = some #[s0, .val z1, .second, s3, s4, .val z5, .second, s7, .val z8, s9, .val z10, .val z11, .val (.int v)] := by
  rcases h with rfl | ⟨w, rfl, hw⟩
  · rfl
  · cases w <;> first | rfl | (simp [Value.category] at hw)
theorem os_own_C21_110 {s0 : Slot} {z1 : Value} {s3 : Slot} {s4 : Slot} {z5 : Value} {s7 : Slot} {z8 : Value} {s9 : Slot} {s10 : Slot} {s11 : Slot} {s12 : Slot} {v : Int32} (h : One s10) : storeLocals #[s0, .val z1, .second, s3, s4, .val z5, .second, s7, .val z8, s9, s10, s11, s12] 10 (.int v) = some #[s0, .val z1, .second, s3, s4, .val z5, .second, s7, .val z8, s9, .val (.int v), s11, s12] := by
  rcases h with rfl | ⟨w, rfl, hw⟩
  · rfl
  · cases w <;> first | rfl | (simp [Value.category] at hw)
theorem os_own_C21_124 {s0 : Slot} {z1 : Value} {s3 : Slot} {s4 : Slot} {z5 : Value} {s7 : Slot} {z8 : Value} {s9 : Slot} {z10 : Value} {s11 : Slot} {s12 : Slot} {v : Int32} (h : One s11) : storeLocals #[s0, .val z1, .second, s3, s4, .val z5, .second, s7, .val z8, s9, .val z10, s11, s12] 11 (.int v) = some #[s0, .val z1, .second, s3, s4, .val z5, .second, s7, .val z8, s9, .val z10, .val (.int v), s12] := by
  rcases h with rfl | ⟨w, rfl, hw⟩
  · rfl
  · cases w <;> first | rfl | (simp [Value.category] at hw)
theorem os_own_C21_185 {s0 : Slot} {z1 : Value} {s3 : Slot} {s4 : Slot} {z5 : Value} {s7 : Slot} {z8 : Value} {s9 : Slot} {z10 : Value} {z11 : Value} {s12 : Slot} {v : Int32} (h : One s12) : storeLocals #[s0, .val z1, .second, s3, s4, .val z5, .second, s7, .val z8, s9, .val z10, .val z11, s12] 12 (.int v) = some #[s0, .val z1, .second, s3, s4, .val z5, .second, s7, .val z8, s9, .val z10, .val z11, .val (.int v)] := by
  rcases h with rfl | ⟨w, rfl, hw⟩
  · rfl
  · cases w <;> first | rfl | (simp [Value.category] at hw)
theorem os_own_C22_110 {s0 : Slot} {z1 : Value} {s3 : Slot} {s4 : Slot} {z5 : Value} {s7 : Slot} {z8 : Value} {s9 : Slot} {s10 : Slot} {s11 : Slot} {s12 : Slot} {v : Int32} (h : One s10) : storeLocals #[s0, .val z1, .second, s3, s4, .val z5, .second, s7, .val z8, s9, s10, s11, s12] 10 (.int v) = some #[s0, .val z1, .second, s3, s4, .val z5, .second, s7, .val z8, s9, .val (.int v), s11, s12] := by
  rcases h with rfl | ⟨w, rfl, hw⟩
  · rfl
  · cases w <;> first | rfl | (simp [Value.category] at hw)
theorem os_own_C22_124 {s0 : Slot} {z1 : Value} {s3 : Slot} {s4 : Slot} {z5 : Value} {s7 : Slot} {z8 : Value} {s9 : Slot} {z10 : Value} {s11 : Slot} {s12 : Slot} {v : Int32} (h : One s11) : storeLocals #[s0, .val z1, .second, s3, s4, .val z5, .second, s7, .val z8, s9, .val z10, s11, s12] 11 (.int v) = some #[s0, .val z1, .second, s3, s4, .val z5, .second, s7, .val z8, s9, .val z10, .val (.int v), s12] := by
  rcases h with rfl | ⟨w, rfl, hw⟩
  · rfl
  · cases w <;> first | rfl | (simp [Value.category] at hw)
theorem os_own_C22_185 {s0 : Slot} {z1 : Value} {s3 : Slot} {s4 : Slot} {z5 : Value} {s7 : Slot} {z8 : Value} {s9 : Slot} {z10 : Value} {z11 : Value} {s12 : Slot} {v : Int32} (h : One s12) : storeLocals #[s0, .val z1, .second, s3, s4, .val z5, .second, s7, .val z8, s9, .val z10, .val z11, s12] 12 (.int v) = some #[s0, .val z1, .second, s3, s4, .val z5, .second, s7, .val z8, s9, .val z10, .val z11, .val (.int v)] := by
  rcases h with rfl | ⟨w, rfl, hw⟩
  · rfl
  · cases w <;> first | rfl | (simp [Value.category] at hw)
theorem os_own_C30_110 {s0 : Slot} {z1 : Value} {s3 : Slot} {s4 : Slot} {z5 : Value} {s7 : Slot} {z8 : Value} {s9 : Slot} {s10 : Slot} {s11 : Slot} {s12 : Slot} {v : Int32} (h : One s10) : storeLocals #[s0, .val z1, .second, s3, s4, .val z5, .second, s7, .val z8, s9, s10, s11, s12] 10 (.int v) = some #[s0, .val z1, .second, s3, s4, .val z5, .second, s7, .val z8, s9, .val (.int v), s11, s12] := by
  rcases h with rfl | ⟨w, rfl, hw⟩
  · rfl
  · cases w <;> first | rfl | (simp [Value.category] at hw)
theorem os_own_C30_124 {s0 : Slot} {z1 : Value} {s3 : Slot} {s4 : Slot} {z5 : Value} {s7 : Slot} {z8 : Value} {s9 : Slot} {z10 : Value} {s11 : Slot} {s12 : Slot} {v : Int32} (h : One s11) : storeLocals #[s0, .val z1, .second, s3, s4, .val z5, .second, s7, .val z8, s9, .val z10, s11, s12] 11 (.int v) = some #[s0, .val z1, .second, s3, s4, .val z5, .second, s7, .val z8, s9, .val z10, .val (.int v), s12] := by
  rcases h with rfl | ⟨w, rfl, hw⟩
  · rfl
  · cases w <;> first | rfl | (simp [Value.category] at hw)
theorem os_own_C30_200 {s0 : Slot} {z1 : Value} {s3 : Slot} {s4 : Slot} {z5 : Value} {s7 : Slot} {z8 : Value} {s9 : Slot} {z10 : Value} {z11 : Value} {s12 : Slot} {v : Int32} (h : One s12) : storeLocals #[s0, .val z1, .second, s3, s4, .val z5, .second, s7, .val z8, s9, .val z10, .val z11, s12] 12 (.int v) = some #[s0, .val z1, .second, s3, s4, .val z5, .second, s7, .val z8, s9, .val z10, .val z11, .val (.int v)] := by
  rcases h with rfl | ⟨w, rfl, hw⟩
  · rfl
  · cases w <;> first | rfl | (simp [Value.category] at hw)
theorem os_own_C31_110 {s0 : Slot} {z1 : Value} {s3 : Slot} {s4 : Slot} {z5 : Value} {s7 : Slot} {z8 : Value} {s9 : Slot} {s10 : Slot} {s11 : Slot} {s12 : Slot} {v : Int32} (h : One s10) : storeLocals #[s0, .val z1, .second, s3, s4, .val z5, .second, s7, .val z8, s9, s10, s11, s12] 10 (.int v) = some #[s0, .val z1, .second, s3, s4, .val z5, .second, s7, .val z8, s9, .val (.int v), s11, s12] := by
  rcases h with rfl | ⟨w, rfl, hw⟩
  · rfl
  · cases w <;> first | rfl | (simp [Value.category] at hw)
theorem os_own_C31_124 {s0 : Slot} {z1 : Value} {s3 : Slot} {s4 : Slot} {z5 : Value} {s7 : Slot} {z8 : Value} {s9 : Slot} {z10 : Value} {s11 : Slot} {s12 : Slot} {v : Int32} (h : One s11) : storeLocals #[s0, .val z1, .second, s3, s4, .val z5, .second, s7, .val z8, s9, .val z10, s11, s12] 11 (.int v) = some #[s0, .val z1, .second, s3, s4, .val z5, .second, s7, .val z8, s9, .val z10, .val (.int v), s12] := by
  rcases h with rfl | ⟨w, rfl, hw⟩
  · rfl
  · cases w <;> first | rfl | (simp [Value.category] at hw)
theorem os_own_C31_200 {s0 : Slot} {z1 : Value} {s3 : Slot} {s4 : Slot} {z5 : Value} {s7 : Slot} {z8 : Value} {s9 : Slot} {z10 : Value} {z11 : Value} {s12 : Slot} {v : Int32} (h : One s12) : storeLocals #[s0, .val z1, .second, s3, s4, .val z5, .second, s7, .val z8, s9, .val z10, .val z11, s12] 12 (.int v) = some #[s0, .val z1, .second, s3, s4, .val z5, .second, s7, .val z8, s9, .val z10, .val z11, .val (.int v)] := by
  rcases h with rfl | ⟨w, rfl, hw⟩
  · rfl
  · cases w <;> first | rfl | (simp [Value.category] at hw)
theorem os_own_C32_110 {s0 : Slot} {z1 : Value} {s3 : Slot} {s4 : Slot} {z5 : Value} {s7 : Slot} {z8 : Value} {s9 : Slot} {s10 : Slot} {s11 : Slot} {s12 : Slot} {v : Int32} (h : One s10) : storeLocals #[s0, .val z1, .second, s3, s4, .val z5, .second, s7, .val z8, s9, s10, s11, s12] 10 (.int v) = some #[s0, .val z1, .second, s3, s4, .val z5, .second, s7, .val z8, s9, .val (.int v), s11, s12] := by
  rcases h with rfl | ⟨w, rfl, hw⟩
  · rfl
  · cases w <;> first | rfl | (simp [Value.category] at hw)
theorem os_own_C32_124 {s0 : Slot} {z1 : Value} {s3 : Slot} {s4 : Slot} {z5 : Value} {s7 : Slot} {z8 : Value} {s9 : Slot} {z10 : Value} {s11 : Slot} {s12 : Slot} {v : Int32} (h : One s11) : storeLocals #[s0, .val z1, .second, s3, s4, .val z5, .second, s7, .val z8, s9, .val z10, s11, s12] 11 (.int v) = some #[s0, .val z1, .second, s3, s4, .val z5, .second, s7, .val z8, s9, .val z10, .val (.int v), s12] := by
  rcases h with rfl | ⟨w, rfl, hw⟩
  · rfl
  · cases w <;> first | rfl | (simp [Value.category] at hw)
theorem os_own_C32_200 {s0 : Slot} {z1 : Value} {s3 : Slot} {s4 : Slot} {z5 : Value} {s7 : Slot} {z8 : Value} {s9 : Slot} {z10 : Value} {z11 : Value} {s12 : Slot} {v : Int32} (h : One s12) : storeLocals #[s0, .val z1, .second, s3, s4, .val z5, .second, s7, .val z8, s9, .val z10, .val z11, s12] 12 (.int v) = some #[s0, .val z1, .second, s3, s4, .val z5, .second, s7, .val z8, s9, .val z10, .val z11, .val (.int v)] := by
  rcases h with rfl | ⟨w, rfl, hw⟩
  · rfl
  · cases w <;> first | rfl | (simp [Value.category] at hw)
set_option maxRecDepth 65536 in
set_option maxHeartbeats 40000000 in
theorem rm2 (l : Launch) (Z : State) (a0 : Array Value) (hw : ∀ d ∈ tables_1, d.before a0 Z = true) (ws : List Jvm.Cond) (a1 : Addr) (w2 : Int32) (h0 : Heap) (n0 : Nat) (Z0 : n0 ≤ h0.size) (F_ordinal_a1 : Fld Z h0 a1 "java/lang/Enum" "ordinal" "I" (.int w2)) :
    MetFree l (⟨"java/lang/Enum", "ordinal", "()I"⟩ : MethodName) (head1 (Jvm.Cond.code (⟨"java/lang/Enum", "ordinal", "()I"⟩ : MethodName) jdk_37_method_2_code 1 (some .int) :: ws) ({ frames := 0, cells := 0, slots := 0, locals := 0 } : Room)) (fun a U => a = #[(.ref a1)] ∧ Z.Warmed39 U.vm ∧ U.heap = h0) (fun _ _ _ _ _ => True) (fun _ U o U' => ∃ v L, o = .returned v ∧ own_QV (some (.int w2)) h0 n0 v U'.heap L ∧ FrameEnd U o U' L ({ frames := 0, cells := 0, slots := 0, locals := 0 } : Room).cells ({ frames := 0, cells := 0, slots := 0, locals := 0 } : Room).slots) := by
  refine MetFree.of_bodySF (plainFor_of_name pn_2) hisR ?_
  intro p e s m args below meth c s₁ Bd hml0 hP hK
  obtain ⟨rfl, hZ, hh⟩ := hP
  have hx := Bd.exec
  have hby := Bd.bytes
  have hml : c.maxLocals = 1 := hml0
  have hown : s.vm.findClass "java/lang/Enum" = some m.cls := findClass_of_methodNamed Bd.named
  have hnm := (name_of_methodNamed Bd.named Bd.method).1
  have X0 : Stand p l e ({ frames := 0, cells := 0, slots := 0, locals := 0 } : Room) s m #[(.ref a1)] below meth c s₁ [] 0 0 := Stand.of_body Bd
  have e0 : s₁.heap = h0 := by rw [← hh, Bd.state]; rfl
  have N0 := Fr.nil n0
  have pre0 : ∀ t, Steps p.tables e below (s₁.setTop (mkF m 0 #[.val (.ref a1)] [])) t → Steps p.tables e below (s₁.setTop (entryFrame m #[(.ref a1)] 1)) t := fun t k => castTop (ef_2 m a1) k
  obtain ⟨T3, X3, e3, st3⟩ := getF X0 hx hZ hown (host := "") (Or.inl (hw _ (List.mem_of_getElem? (i := 15) rfl))) Via.refl e0 F_ordinal_a1 (g := (mkF m 1 #[.val (.ref a1)] [(.ref a1)])) rfl rfl (hb hby d2_1)
  obtain ⟨fs, hr, hrun, hended, hW, hsame⟩ := X3.leave (v := some (.int w2)) (fun h => by rw [Bd.returns] at h; cases h)
  refine ⟨_, _, pre0 _ ?_, hrun, hended, _, _, rfl, ?_, ⟨_, rfl⟩, hW, hsame.mono (by decide) (by decide)⟩
  · show Steps p.tables e below (s₁.setTop (mkF m 0 #[.val (.ref a1)] [])) _
    refine XS.aloadN X0.here hx rfl (hb hby d2_0) rfl rfl ?_
    show Steps p.tables e below (s₁.setTop (mkF m 1 #[.val (.ref a1)] [(.ref a1)])) _
    refine st3 _ ?_
    show Steps p.tables e below (T3.setTop (mkF m 4 #[.val (.ref a1)] [(.int w2)])) _
    exact retI X3 hx Bd.returns (hb hby d2_4) hr      -- retI stands in the head ('lawwalk <made dir>' prints it)
  · show own_QV (some (.int w2)) h0 n0 _ T3.heap _
    rw [e3]
    exact ⟨rfl, N0, rfl⟩
set_option maxRecDepth 65536 in
set_option maxHeartbeats 40000000 in
theorem rm1_0f (l : Launch) (Z : State) (a0 : Array Value) (hw : ∀ d ∈ tables_1, d.before a0 Z = true) (ws : List Jvm.Cond) (a1 : Addr) (q2 : Int64) (q3 : Int64) (h0 : Heap) (n0 : Nat) (Z0 : n0 ≤ h0.size) (E_a1 : Exa Z h0 a1 "com/example/sanction/sanction/language/Comparison$Operator") (hc49 : (lcmpW q2 q3) < (0 : Int32)) (Fo : Fld Z h0 a1 "java/lang/Enum" "ordinal" "I" (.int 0)) :
    MetFree l (⟨"com/example/sanction/sanction/language/Comparison$Operator", "holds", "(JJ)Z"⟩ : MethodName) (head1 (Jvm.Cond.code (⟨"com/example/sanction/sanction/language/Comparison$Operator", "holds", "(JJ)Z"⟩ : MethodName) prog_81_method_5_code 5 (some .boolean) :: ws) ({ frames := 1, cells := 0, slots := 0, locals := 12 } : Room)) (fun a U => a = #[(.ref a1), (.long q2), (.long q3)] ∧ Z.Warmed39 U.vm ∧ U.heap = h0) (fun _ _ _ _ _ => True) (fun _ U o U' => ∃ v L, o = .returned v ∧ own_QV (some (.int (1 : Int32))) h0 n0 v U'.heap L ∧ FrameEnd U o U' L ({ frames := 1, cells := 0, slots := 0, locals := 12 } : Room).cells ({ frames := 1, cells := 0, slots := 0, locals := 12 } : Room).slots) := by
  refine MetFree.of_bodySF (plainFor_of_name pn_1) hisR ?_
  intro p e s m args below meth c s₁ Bd hml0 hP hK
  obtain ⟨rfl, hZ, hh⟩ := hP
  have hx := Bd.exec
  have hby := Bd.bytes
  have hml : c.maxLocals = 5 := hml0
  have hown : s.vm.findClass "com/example/sanction/sanction/language/Comparison$Operator" = some m.cls := findClass_of_methodNamed Bd.named
  have hnm := (name_of_methodNamed Bd.named Bd.method).1
  have X0 : Stand p l e ({ frames := 1, cells := 0, slots := 0, locals := 12 } : Room) s m #[(.ref a1), (.long q2), (.long q3)] below meth c s₁ [] 0 0 := Stand.of_body Bd
  have e0 : s₁.heap = h0 := by rw [← hh, Bd.state]; rfl
  have N0 := Fr.nil n0
  have pre0 : ∀ t, Steps p.tables e below (s₁.setTop (mkF m 0 #[.val (.ref a1), .val (.long q2), .second, .val (.long q3), .second] [])) t → Steps p.tables e below (s₁.setTop (entryFrame m #[(.ref a1), (.long q2), (.long q3)] 5)) t := fun t k => castTop (ef_1 m a1 q2 q3) k
  obtain ⟨cq4, kq4, q4a, q4b, q4c⟩ := isOf hZ e0 E_a1
  obtain ⟨_, _, ⟨T4, L4, k4, n4⟩, -, X4, ⟨Lc4, hQ4, l4, y4, z4⟩, st4⟩ := X0.virtualBackUp hx (x := (⟨"com/example/sanction/sanction/language/Comparison$Operator", "ordinal", "()I"⟩ : MethodName)) (y := (⟨"java/lang/Enum", "ordinal", "()I"⟩ : MethodName)) (owner := "java/lang/Enum") hown (mvT hZ (hw _ (List.mem_of_getElem? (i := 8) rfl))) (mvT hZ (hw _ (List.mem_of_getElem? (i := 9) rfl))) (mvT hZ (hw _ (List.mem_of_getElem? (i := 10) rfl))) (by decide) (mvT hZ (hw _ (List.mem_of_getElem? (i := 12) rfl))) (mvT hZ (hw _ (List.mem_of_getElem? (i := 11) rfl))) (backOf (W := 0) (rm2 l Z a0 hw [] a1 (0 : Int32) h0 n0 Z0 Fo) hZ (hw _ (List.mem_of_getElem? (i := 14) rfl)) (hw _ (List.mem_of_getElem? (i := 13) rfl)) (by decide) (by decide)) q4a q4c (g := (mkF m 1 #[.val (.ref a1), .val (.long q2), .second, .val (.long q3), .second] [(.ref a1)])) rfl (by rw [hml]; rfl) (Steps.refl _) (argsL := []) (rest := []) (lenOf pd_1_1 rfl) rfl (by show 2 * 0 + _ ≤ _; exact Nat.le_of_eq rfl) (hb hby d1_1) (fun _ _ => ⟨rfl, e0, (by decide : 0 + 0 ≤ _), (by decide : 0 + 0 ≤ _)⟩)
  dsimp only [Pt.U, Pt.locs, Pt.cells, Pt.slots] at X4 l4 y4 z4 st4 hQ4
  subst l4 y4 z4
  obtain ⟨rfl, N4q, eh4⟩ := hQ4
  have N4 := Fr.app N0 N4q
  obtain ⟨fs, hr, hrun, hended, hW, hsame⟩ := X4.leave (v := some (.int (1 : Int32))) (fun h => by rw [Bd.returns] at h; cases h)
  refine ⟨_, _, pre0 _ ?_, hrun, hended, _, _, rfl, ?_, ⟨_, rfl⟩, hW, hsame.mono (by decide) (by decide)⟩
  · show Steps p.tables e below (s₁.setTop (mkF m 0 #[.val (.ref a1), .val (.long q2), .second, .val (.long q3), .second] [])) _
    refine XS.aloadN X0.here hx rfl (hb hby d1_0) rfl rfl ?_
    show Steps p.tables e below (s₁.setTop (mkF m 1 #[.val (.ref a1), .val (.long q2), .second, .val (.long q3), .second] [(.ref a1)])) _
    refine st4.trans ?_
    show Steps p.tables e below (T4.setTop (mkF m 4 #[.val (.ref a1), .val (.long q2), .second, .val (.long q3), .second] [(.int (0 : Int32))])) _
    refine XS.tswIn X4.here hx rfl (pc0 := 4) (pc' := 46) rfl (hb hby d1_4) rfl (by decide) rfl (by decide) (by decide) ?_
    show Steps p.tables e below (T4.setTop (mkF m 46 #[.val (.ref a1), .val (.long q2), .second, .val (.long q3), .second] [])) _
    refine XS.lloadN X4.here hx rfl (hb hby d1_46) rfl ?_
    show Steps p.tables e below (T4.setTop (mkF m 47 #[.val (.ref a1), .val (.long q2), .second, .val (.long q3), .second] [(.long q2)])) _
    refine XS.lloadN X4.here hx rfl (hb hby d1_47) rfl ?_
    show Steps p.tables e below (T4.setTop (mkF m 48 #[.val (.ref a1), .val (.long q2), .second, .val (.long q3), .second] [(.long q3), (.long q2)])) _
    refine XS.lcmp X4.here hx rfl (hb hby d1_48) rfl ?_
    show Steps p.tables e below (T4.setTop (mkF m 49 #[.val (.ref a1), .val (.long q2), .second, .val (.long q3), .second] [(.int (lcmpW q2 q3))])) _
    refine XS.ifNo X4.here hx rfl (hb hby d1_49) rfl ((if0 _ _).trans (tlt hc49).2.1) ?_
    show Steps p.tables e below (T4.setTop (mkF m 52 #[.val (.ref a1), .val (.long q2), .second, .val (.long q3), .second] [])) _
    refine XS.iconst X4.here hx rfl (hb hby d1_52) ?_
    show Steps p.tables e below (T4.setTop (mkF m 53 #[.val (.ref a1), .val (.long q2), .second, .val (.long q3), .second] [(.int (1 : Int32))])) _
    refine XS.goto X4.here hx rfl (pc0 := 53) (pc' := 99) rfl (hb hby d1_53) (by decide) (by decide) ?_
    show Steps p.tables e below (T4.setTop (mkF m 99 #[.val (.ref a1), .val (.long q2), .second, .val (.long q3), .second] [(.int (1 : Int32))])) _
    exact retN X4 hx (t := .boolean) Bd.returns (by simp) (hb hby d1_99) hr
  · show own_QV (some (.int (1 : Int32))) h0 n0 _ T4.heap _
    rw [eh4]
    exact ⟨rfl, N4, rfl⟩
set_option maxRecDepth 65536 in
set_option maxHeartbeats 40000000 in
theorem rm1_0t (l : Launch) (Z : State) (a0 : Array Value) (hw : ∀ d ∈ tables_1, d.before a0 Z = true) (ws : List Jvm.Cond) (a1 : Addr) (q2 : Int64) (q3 : Int64) (h0 : Heap) (n0 : Nat) (Z0 : n0 ≤ h0.size) (E_a1 : Exa Z h0 a1 "com/example/sanction/sanction/language/Comparison$Operator") (hc49 : ¬ ((lcmpW q2 q3) < (0 : Int32))) (Fo : Fld Z h0 a1 "java/lang/Enum" "ordinal" "I" (.int 0)) :
    MetFree l (⟨"com/example/sanction/sanction/language/Comparison$Operator", "holds", "(JJ)Z"⟩ : MethodName) (head1 (Jvm.Cond.code (⟨"com/example/sanction/sanction/language/Comparison$Operator", "holds", "(JJ)Z"⟩ : MethodName) prog_81_method_5_code 5 (some .boolean) :: ws) ({ frames := 1, cells := 0, slots := 0, locals := 12 } : Room)) (fun a U => a = #[(.ref a1), (.long q2), (.long q3)] ∧ Z.Warmed39 U.vm ∧ U.heap = h0) (fun _ _ _ _ _ => True) (fun _ U o U' => ∃ v L, o = .returned v ∧ own_QV (some (.int (0 : Int32))) h0 n0 v U'.heap L ∧ FrameEnd U o U' L ({ frames := 1, cells := 0, slots := 0, locals := 12 } : Room).cells ({ frames := 1, cells := 0, slots := 0, locals := 12 } : Room).slots) := by
  refine MetFree.of_bodySF (plainFor_of_name pn_1) hisR ?_
  intro p e s m args below meth c s₁ Bd hml0 hP hK
  obtain ⟨rfl, hZ, hh⟩ := hP
  have hx := Bd.exec
  have hby := Bd.bytes
  have hml : c.maxLocals = 5 := hml0
  have hown : s.vm.findClass "com/example/sanction/sanction/language/Comparison$Operator" = some m.cls := findClass_of_methodNamed Bd.named
  have hnm := (name_of_methodNamed Bd.named Bd.method).1
  have X0 : Stand p l e ({ frames := 1, cells := 0, slots := 0, locals := 12 } : Room) s m #[(.ref a1), (.long q2), (.long q3)] below meth c s₁ [] 0 0 := Stand.of_body Bd
  have e0 : s₁.heap = h0 := by rw [← hh, Bd.state]; rfl
  have N0 := Fr.nil n0
  have pre0 : ∀ t, Steps p.tables e below (s₁.setTop (mkF m 0 #[.val (.ref a1), .val (.long q2), .second, .val (.long q3), .second] [])) t → Steps p.tables e below (s₁.setTop (entryFrame m #[(.ref a1), (.long q2), (.long q3)] 5)) t := fun t k => castTop (ef_1 m a1 q2 q3) k
  obtain ⟨cq4, kq4, q4a, q4b, q4c⟩ := isOf hZ e0 E_a1
  obtain ⟨_, _, ⟨T4, L4, k4, n4⟩, -, X4, ⟨Lc4, hQ4, l4, y4, z4⟩, st4⟩ := X0.virtualBackUp hx (x := (⟨"com/example/sanction/sanction/language/Comparison$Operator", "ordinal", "()I"⟩ : MethodName)) (y := (⟨"java/lang/Enum", "ordinal", "()I"⟩ : MethodName)) (owner := "java/lang/Enum") hown (mvT hZ (hw _ (List.mem_of_getElem? (i := 8) rfl))) (mvT hZ (hw _ (List.mem_of_getElem? (i := 9) rfl))) (mvT hZ (hw _ (List.mem_of_getElem? (i := 10) rfl))) (by decide) (mvT hZ (hw _ (List.mem_of_getElem? (i := 12) rfl))) (mvT hZ (hw _ (List.mem_of_getElem? (i := 11) rfl))) (backOf (W := 0) (rm2 l Z a0 hw [] a1 (0 : Int32) h0 n0 Z0 Fo) hZ (hw _ (List.mem_of_getElem? (i := 14) rfl)) (hw _ (List.mem_of_getElem? (i := 13) rfl)) (by decide) (by decide)) q4a q4c (g := (mkF m 1 #[.val (.ref a1), .val (.long q2), .second, .val (.long q3), .second] [(.ref a1)])) rfl (by rw [hml]; rfl) (Steps.refl _) (argsL := []) (rest := []) (lenOf pd_1_1 rfl) rfl (by show 2 * 0 + _ ≤ _; exact Nat.le_of_eq rfl) (hb hby d1_1) (fun _ _ => ⟨rfl, e0, (by decide : 0 + 0 ≤ _), (by decide : 0 + 0 ≤ _)⟩)
  dsimp only [Pt.U, Pt.locs, Pt.cells, Pt.slots] at X4 l4 y4 z4 st4 hQ4
  subst l4 y4 z4
  obtain ⟨rfl, N4q, eh4⟩ := hQ4
  have N4 := Fr.app N0 N4q
  obtain ⟨fs, hr, hrun, hended, hW, hsame⟩ := X4.leave (v := some (.int (0 : Int32))) (fun h => by rw [Bd.returns] at h; cases h)
  refine ⟨_, _, pre0 _ ?_, hrun, hended, _, _, rfl, ?_, ⟨_, rfl⟩, hW, hsame.mono (by decide) (by decide)⟩
  · show Steps p.tables e below (s₁.setTop (mkF m 0 #[.val (.ref a1), .val (.long q2), .second, .val (.long q3), .second] [])) _
    refine XS.aloadN X0.here hx rfl (hb hby d1_0) rfl rfl ?_
    show Steps p.tables e below (s₁.setTop (mkF m 1 #[.val (.ref a1), .val (.long q2), .second, .val (.long q3), .second] [(.ref a1)])) _
    refine st4.trans ?_
    show Steps p.tables e below (T4.setTop (mkF m 4 #[.val (.ref a1), .val (.long q2), .second, .val (.long q3), .second] [(.int (0 : Int32))])) _
    refine XS.tswIn X4.here hx rfl (pc0 := 4) (pc' := 46) rfl (hb hby d1_4) rfl (by decide) rfl (by decide) (by decide) ?_
    show Steps p.tables e below (T4.setTop (mkF m 46 #[.val (.ref a1), .val (.long q2), .second, .val (.long q3), .second] [])) _
    refine XS.lloadN X4.here hx rfl (hb hby d1_46) rfl ?_
    show Steps p.tables e below (T4.setTop (mkF m 47 #[.val (.ref a1), .val (.long q2), .second, .val (.long q3), .second] [(.long q2)])) _
    refine XS.lloadN X4.here hx rfl (hb hby d1_47) rfl ?_
    show Steps p.tables e below (T4.setTop (mkF m 48 #[.val (.ref a1), .val (.long q2), .second, .val (.long q3), .second] [(.long q3), (.long q2)])) _
    refine XS.lcmp X4.here hx rfl (hb hby d1_48) rfl ?_
    show Steps p.tables e below (T4.setTop (mkF m 49 #[.val (.ref a1), .val (.long q2), .second, .val (.long q3), .second] [(.int (lcmpW q2 q3))])) _
    refine XS.ifYes X4.here hx rfl (pc0 := 49) (pc' := 56) rfl (hb hby d1_49) rfl ((if0 _ _).trans (flt hc49).2.1) (by decide) (by decide) ?_
    show Steps p.tables e below (T4.setTop (mkF m 56 #[.val (.ref a1), .val (.long q2), .second, .val (.long q3), .second] [])) _
    refine XS.iconst X4.here hx rfl (hb hby d1_56) ?_
    show Steps p.tables e below (T4.setTop (mkF m 57 #[.val (.ref a1), .val (.long q2), .second, .val (.long q3), .second] [(.int (0 : Int32))])) _
    refine XS.goto X4.here hx rfl (pc0 := 57) (pc' := 99) rfl (hb hby d1_57) (by decide) (by decide) ?_
    show Steps p.tables e below (T4.setTop (mkF m 99 #[.val (.ref a1), .val (.long q2), .second, .val (.long q3), .second] [(.int (0 : Int32))])) _
    exact retN X4 hx (t := .boolean) Bd.returns (by simp) (hb hby d1_99) hr
  · show own_QV (some (.int (0 : Int32))) h0 n0 _ T4.heap _
    rw [eh4]
    exact ⟨rfl, N4, rfl⟩
set_option maxRecDepth 65536 in
set_option maxHeartbeats 40000000 in
theorem rm1_1f (l : Launch) (Z : State) (a0 : Array Value) (hw : ∀ d ∈ tables_1, d.before a0 Z = true) (ws : List Jvm.Cond) (a1 : Addr) (q2 : Int64) (q3 : Int64) (h0 : Heap) (n0 : Nat) (Z0 : n0 ≤ h0.size) (E_a1 : Exa Z h0 a1 "com/example/sanction/sanction/language/Comparison$Operator") (hc63 : ¬ ((0 : Int32) < (lcmpW q2 q3))) (Fo : Fld Z h0 a1 "java/lang/Enum" "ordinal" "I" (.int 1)) :
    MetFree l (⟨"com/example/sanction/sanction/language/Comparison$Operator", "holds", "(JJ)Z"⟩ : MethodName) (head1 (Jvm.Cond.code (⟨"com/example/sanction/sanction/language/Comparison$Operator", "holds", "(JJ)Z"⟩ : MethodName) prog_81_method_5_code 5 (some .boolean) :: ws) ({ frames := 1, cells := 0, slots := 0, locals := 12 } : Room)) (fun a U => a = #[(.ref a1), (.long q2), (.long q3)] ∧ Z.Warmed39 U.vm ∧ U.heap = h0) (fun _ _ _ _ _ => True) (fun _ U o U' => ∃ v L, o = .returned v ∧ own_QV (some (.int (1 : Int32))) h0 n0 v U'.heap L ∧ FrameEnd U o U' L ({ frames := 1, cells := 0, slots := 0, locals := 12 } : Room).cells ({ frames := 1, cells := 0, slots := 0, locals := 12 } : Room).slots) := by
  refine MetFree.of_bodySF (plainFor_of_name pn_1) hisR ?_
  intro p e s m args below meth c s₁ Bd hml0 hP hK
  obtain ⟨rfl, hZ, hh⟩ := hP
  have hx := Bd.exec
  have hby := Bd.bytes
  have hml : c.maxLocals = 5 := hml0
  have hown : s.vm.findClass "com/example/sanction/sanction/language/Comparison$Operator" = some m.cls := findClass_of_methodNamed Bd.named
  have hnm := (name_of_methodNamed Bd.named Bd.method).1
  have X0 : Stand p l e ({ frames := 1, cells := 0, slots := 0, locals := 12 } : Room) s m #[(.ref a1), (.long q2), (.long q3)] below meth c s₁ [] 0 0 := Stand.of_body Bd
  have e0 : s₁.heap = h0 := by rw [← hh, Bd.state]; rfl
  have N0 := Fr.nil n0
  have pre0 : ∀ t, Steps p.tables e below (s₁.setTop (mkF m 0 #[.val (.ref a1), .val (.long q2), .second, .val (.long q3), .second] [])) t → Steps p.tables e below (s₁.setTop (entryFrame m #[(.ref a1), (.long q2), (.long q3)] 5)) t := fun t k => castTop (ef_1 m a1 q2 q3) k
  obtain ⟨cq4, kq4, q4a, q4b, q4c⟩ := isOf hZ e0 E_a1
  obtain ⟨_, _, ⟨T4, L4, k4, n4⟩, -, X4, ⟨Lc4, hQ4, l4, y4, z4⟩, st4⟩ := X0.virtualBackUp hx (x := (⟨"com/example/sanction/sanction/language/Comparison$Operator", "ordinal", "()I"⟩ : MethodName)) (y := (⟨"java/lang/Enum", "ordinal", "()I"⟩ : MethodName)) (owner := "java/lang/Enum") hown (mvT hZ (hw _ (List.mem_of_getElem? (i := 8) rfl))) (mvT hZ (hw _ (List.mem_of_getElem? (i := 9) rfl))) (mvT hZ (hw _ (List.mem_of_getElem? (i := 10) rfl))) (by decide) (mvT hZ (hw _ (List.mem_of_getElem? (i := 12) rfl))) (mvT hZ (hw _ (List.mem_of_getElem? (i := 11) rfl))) (backOf (W := 0) (rm2 l Z a0 hw [] a1 (1 : Int32) h0 n0 Z0 Fo) hZ (hw _ (List.mem_of_getElem? (i := 14) rfl)) (hw _ (List.mem_of_getElem? (i := 13) rfl)) (by decide) (by decide)) q4a q4c (g := (mkF m 1 #[.val (.ref a1), .val (.long q2), .second, .val (.long q3), .second] [(.ref a1)])) rfl (by rw [hml]; rfl) (Steps.refl _) (argsL := []) (rest := []) (lenOf pd_1_1 rfl) rfl (by show 2 * 0 + _ ≤ _; exact Nat.le_of_eq rfl) (hb hby d1_1) (fun _ _ => ⟨rfl, e0, (by decide : 0 + 0 ≤ _), (by decide : 0 + 0 ≤ _)⟩)
  dsimp only [Pt.U, Pt.locs, Pt.cells, Pt.slots] at X4 l4 y4 z4 st4 hQ4
  subst l4 y4 z4
  obtain ⟨rfl, N4q, eh4⟩ := hQ4
  have N4 := Fr.app N0 N4q
  obtain ⟨fs, hr, hrun, hended, hW, hsame⟩ := X4.leave (v := some (.int (1 : Int32))) (fun h => by rw [Bd.returns] at h; cases h)
  refine ⟨_, _, pre0 _ ?_, hrun, hended, _, _, rfl, ?_, ⟨_, rfl⟩, hW, hsame.mono (by decide) (by decide)⟩
  · show Steps p.tables e below (s₁.setTop (mkF m 0 #[.val (.ref a1), .val (.long q2), .second, .val (.long q3), .second] [])) _
    refine XS.aloadN X0.here hx rfl (hb hby d1_0) rfl rfl ?_
    show Steps p.tables e below (s₁.setTop (mkF m 1 #[.val (.ref a1), .val (.long q2), .second, .val (.long q3), .second] [(.ref a1)])) _
    refine st4.trans ?_
    show Steps p.tables e below (T4.setTop (mkF m 4 #[.val (.ref a1), .val (.long q2), .second, .val (.long q3), .second] [(.int (1 : Int32))])) _
    refine XS.tswIn X4.here hx rfl (pc0 := 4) (pc' := 60) rfl (hb hby d1_4) rfl (by decide) rfl (by decide) (by decide) ?_
    show Steps p.tables e below (T4.setTop (mkF m 60 #[.val (.ref a1), .val (.long q2), .second, .val (.long q3), .second] [])) _
    refine XS.lloadN X4.here hx rfl (hb hby d1_60) rfl ?_
    show Steps p.tables e below (T4.setTop (mkF m 61 #[.val (.ref a1), .val (.long q2), .second, .val (.long q3), .second] [(.long q2)])) _
    refine XS.lloadN X4.here hx rfl (hb hby d1_61) rfl ?_
    show Steps p.tables e below (T4.setTop (mkF m 62 #[.val (.ref a1), .val (.long q2), .second, .val (.long q3), .second] [(.long q3), (.long q2)])) _
    refine XS.lcmp X4.here hx rfl (hb hby d1_62) rfl ?_
    show Steps p.tables e below (T4.setTop (mkF m 63 #[.val (.ref a1), .val (.long q2), .second, .val (.long q3), .second] [(.int (lcmpW q2 q3))])) _
    refine XS.ifNo X4.here hx rfl (hb hby d1_63) rfl ((if0 _ _).trans (flt hc63).2.2.1) ?_
    show Steps p.tables e below (T4.setTop (mkF m 66 #[.val (.ref a1), .val (.long q2), .second, .val (.long q3), .second] [])) _
    refine XS.iconst X4.here hx rfl (hb hby d1_66) ?_
    show Steps p.tables e below (T4.setTop (mkF m 67 #[.val (.ref a1), .val (.long q2), .second, .val (.long q3), .second] [(.int (1 : Int32))])) _
    refine XS.goto X4.here hx rfl (pc0 := 67) (pc' := 99) rfl (hb hby d1_67) (by decide) (by decide) ?_
    show Steps p.tables e below (T4.setTop (mkF m 99 #[.val (.ref a1), .val (.long q2), .second, .val (.long q3), .second] [(.int (1 : Int32))])) _
    exact retN X4 hx (t := .boolean) Bd.returns (by simp) (hb hby d1_99) hr
  · show own_QV (some (.int (1 : Int32))) h0 n0 _ T4.heap _
    rw [eh4]
    exact ⟨rfl, N4, rfl⟩
set_option maxRecDepth 65536 in
set_option maxHeartbeats 40000000 in
theorem rm1_1t (l : Launch) (Z : State) (a0 : Array Value) (hw : ∀ d ∈ tables_1, d.before a0 Z = true) (ws : List Jvm.Cond) (a1 : Addr) (q2 : Int64) (q3 : Int64) (h0 : Heap) (n0 : Nat) (Z0 : n0 ≤ h0.size) (E_a1 : Exa Z h0 a1 "com/example/sanction/sanction/language/Comparison$Operator") (hc63 : (0 : Int32) < (lcmpW q2 q3)) (Fo : Fld Z h0 a1 "java/lang/Enum" "ordinal" "I" (.int 1)) :
    MetFree l (⟨"com/example/sanction/sanction/language/Comparison$Operator", "holds", "(JJ)Z"⟩ : MethodName) (head1 (Jvm.Cond.code (⟨"com/example/sanction/sanction/language/Comparison$Operator", "holds", "(JJ)Z"⟩ : MethodName) prog_81_method_5_code 5 (some .boolean) :: ws) ({ frames := 1, cells := 0, slots := 0, locals := 12 } : Room)) (fun a U => a = #[(.ref a1), (.long q2), (.long q3)] ∧ Z.Warmed39 U.vm ∧ U.heap = h0) (fun _ _ _ _ _ => True) (fun _ U o U' => ∃ v L, o = .returned v ∧ own_QV (some (.int (0 : Int32))) h0 n0 v U'.heap L ∧ FrameEnd U o U' L ({ frames := 1, cells := 0, slots := 0, locals := 12 } : Room).cells ({ frames := 1, cells := 0, slots := 0, locals := 12 } : Room).slots) := by
  refine MetFree.of_bodySF (plainFor_of_name pn_1) hisR ?_
  intro p e s m args below meth c s₁ Bd hml0 hP hK
  obtain ⟨rfl, hZ, hh⟩ := hP
  have hx := Bd.exec
  have hby := Bd.bytes
  have hml : c.maxLocals = 5 := hml0
  have hown : s.vm.findClass "com/example/sanction/sanction/language/Comparison$Operator" = some m.cls := findClass_of_methodNamed Bd.named
  have hnm := (name_of_methodNamed Bd.named Bd.method).1
  have X0 : Stand p l e ({ frames := 1, cells := 0, slots := 0, locals := 12 } : Room) s m #[(.ref a1), (.long q2), (.long q3)] below meth c s₁ [] 0 0 := Stand.of_body Bd
  have e0 : s₁.heap = h0 := by rw [← hh, Bd.state]; rfl
  have N0 := Fr.nil n0
  have pre0 : ∀ t, Steps p.tables e below (s₁.setTop (mkF m 0 #[.val (.ref a1), .val (.long q2), .second, .val (.long q3), .second] [])) t → Steps p.tables e below (s₁.setTop (entryFrame m #[(.ref a1), (.long q2), (.long q3)] 5)) t := fun t k => castTop (ef_1 m a1 q2 q3) k
  obtain ⟨cq4, kq4, q4a, q4b, q4c⟩ := isOf hZ e0 E_a1
  obtain ⟨_, _, ⟨T4, L4, k4, n4⟩, -, X4, ⟨Lc4, hQ4, l4, y4, z4⟩, st4⟩ := X0.virtualBackUp hx (x := (⟨"com/example/sanction/sanction/language/Comparison$Operator", "ordinal", "()I"⟩ : MethodName)) (y := (⟨"java/lang/Enum", "ordinal", "()I"⟩ : MethodName)) (owner := "java/lang/Enum") hown (mvT hZ (hw _ (List.mem_of_getElem? (i := 8) rfl))) (mvT hZ (hw _ (List.mem_of_getElem? (i := 9) rfl))) (mvT hZ (hw _ (List.mem_of_getElem? (i := 10) rfl))) (by decide) (mvT hZ (hw _ (List.mem_of_getElem? (i := 12) rfl))) (mvT hZ (hw _ (List.mem_of_getElem? (i := 11) rfl))) (backOf (W := 0) (rm2 l Z a0 hw [] a1 (1 : Int32) h0 n0 Z0 Fo) hZ (hw _ (List.mem_of_getElem? (i := 14) rfl)) (hw _ (List.mem_of_getElem? (i := 13) rfl)) (by decide) (by decide)) q4a q4c (g := (mkF m 1 #[.val (.ref a1), .val (.long q2), .second, .val (.long q3), .second] [(.ref a1)])) rfl (by rw [hml]; rfl) (Steps.refl _) (argsL := []) (rest := []) (lenOf pd_1_1 rfl) rfl (by show 2 * 0 + _ ≤ _; exact Nat.le_of_eq rfl) (hb hby d1_1) (fun _ _ => ⟨rfl, e0, (by decide : 0 + 0 ≤ _), (by decide : 0 + 0 ≤ _)⟩)
  dsimp only [Pt.U, Pt.locs, Pt.cells, Pt.slots] at X4 l4 y4 z4 st4 hQ4
  subst l4 y4 z4
  obtain ⟨rfl, N4q, eh4⟩ := hQ4
  have N4 := Fr.app N0 N4q
  obtain ⟨fs, hr, hrun, hended, hW, hsame⟩ := X4.leave (v := some (.int (0 : Int32))) (fun h => by rw [Bd.returns] at h; cases h)
  refine ⟨_, _, pre0 _ ?_, hrun, hended, _, _, rfl, ?_, ⟨_, rfl⟩, hW, hsame.mono (by decide) (by decide)⟩
  · show Steps p.tables e below (s₁.setTop (mkF m 0 #[.val (.ref a1), .val (.long q2), .second, .val (.long q3), .second] [])) _
    refine XS.aloadN X0.here hx rfl (hb hby d1_0) rfl rfl ?_
    show Steps p.tables e below (s₁.setTop (mkF m 1 #[.val (.ref a1), .val (.long q2), .second, .val (.long q3), .second] [(.ref a1)])) _
    refine st4.trans ?_
    show Steps p.tables e below (T4.setTop (mkF m 4 #[.val (.ref a1), .val (.long q2), .second, .val (.long q3), .second] [(.int (1 : Int32))])) _
    refine XS.tswIn X4.here hx rfl (pc0 := 4) (pc' := 60) rfl (hb hby d1_4) rfl (by decide) rfl (by decide) (by decide) ?_
    show Steps p.tables e below (T4.setTop (mkF m 60 #[.val (.ref a1), .val (.long q2), .second, .val (.long q3), .second] [])) _
    refine XS.lloadN X4.here hx rfl (hb hby d1_60) rfl ?_
    show Steps p.tables e below (T4.setTop (mkF m 61 #[.val (.ref a1), .val (.long q2), .second, .val (.long q3), .second] [(.long q2)])) _
    refine XS.lloadN X4.here hx rfl (hb hby d1_61) rfl ?_
    show Steps p.tables e below (T4.setTop (mkF m 62 #[.val (.ref a1), .val (.long q2), .second, .val (.long q3), .second] [(.long q3), (.long q2)])) _
    refine XS.lcmp X4.here hx rfl (hb hby d1_62) rfl ?_
    show Steps p.tables e below (T4.setTop (mkF m 63 #[.val (.ref a1), .val (.long q2), .second, .val (.long q3), .second] [(.int (lcmpW q2 q3))])) _
    refine XS.ifYes X4.here hx rfl (pc0 := 63) (pc' := 70) rfl (hb hby d1_63) rfl ((if0 _ _).trans (tlt hc63).2.2.1) (by decide) (by decide) ?_
    show Steps p.tables e below (T4.setTop (mkF m 70 #[.val (.ref a1), .val (.long q2), .second, .val (.long q3), .second] [])) _
    refine XS.iconst X4.here hx rfl (hb hby d1_70) ?_
    show Steps p.tables e below (T4.setTop (mkF m 71 #[.val (.ref a1), .val (.long q2), .second, .val (.long q3), .second] [(.int (0 : Int32))])) _
    refine XS.goto X4.here hx rfl (pc0 := 71) (pc' := 99) rfl (hb hby d1_71) (by decide) (by decide) ?_
    show Steps p.tables e below (T4.setTop (mkF m 99 #[.val (.ref a1), .val (.long q2), .second, .val (.long q3), .second] [(.int (0 : Int32))])) _
    exact retN X4 hx (t := .boolean) Bd.returns (by simp) (hb hby d1_99) hr
  · show own_QV (some (.int (0 : Int32))) h0 n0 _ T4.heap _
    rw [eh4]
    exact ⟨rfl, N4, rfl⟩
set_option maxRecDepth 65536 in
set_option maxHeartbeats 40000000 in
theorem rm1_2f (l : Launch) (Z : State) (a0 : Array Value) (hw : ∀ d ∈ tables_1, d.before a0 Z = true) (ws : List Jvm.Cond) (a1 : Addr) (q2 : Int64) (q3 : Int64) (h0 : Heap) (n0 : Nat) (Z0 : n0 ≤ h0.size) (E_a1 : Exa Z h0 a1 "com/example/sanction/sanction/language/Comparison$Operator") (hc77 : (0 : Int32) < (lcmpW q2 q3)) (Fo : Fld Z h0 a1 "java/lang/Enum" "ordinal" "I" (.int 2)) :
    MetFree l (⟨"com/example/sanction/sanction/language/Comparison$Operator", "holds", "(JJ)Z"⟩ : MethodName) (head1 (Jvm.Cond.code (⟨"com/example/sanction/sanction/language/Comparison$Operator", "holds", "(JJ)Z"⟩ : MethodName) prog_81_method_5_code 5 (some .boolean) :: ws) ({ frames := 1, cells := 0, slots := 0, locals := 12 } : Room)) (fun a U => a = #[(.ref a1), (.long q2), (.long q3)] ∧ Z.Warmed39 U.vm ∧ U.heap = h0) (fun _ _ _ _ _ => True) (fun _ U o U' => ∃ v L, o = .returned v ∧ own_QV (some (.int (1 : Int32))) h0 n0 v U'.heap L ∧ FrameEnd U o U' L ({ frames := 1, cells := 0, slots := 0, locals := 12 } : Room).cells ({ frames := 1, cells := 0, slots := 0, locals := 12 } : Room).slots) := by
  refine MetFree.of_bodySF (plainFor_of_name pn_1) hisR ?_
  intro p e s m args below meth c s₁ Bd hml0 hP hK
  obtain ⟨rfl, hZ, hh⟩ := hP
  have hx := Bd.exec
  have hby := Bd.bytes
  have hml : c.maxLocals = 5 := hml0
  have hown : s.vm.findClass "com/example/sanction/sanction/language/Comparison$Operator" = some m.cls := findClass_of_methodNamed Bd.named
  have hnm := (name_of_methodNamed Bd.named Bd.method).1
  have X0 : Stand p l e ({ frames := 1, cells := 0, slots := 0, locals := 12 } : Room) s m #[(.ref a1), (.long q2), (.long q3)] below meth c s₁ [] 0 0 := Stand.of_body Bd
  have e0 : s₁.heap = h0 := by rw [← hh, Bd.state]; rfl
  have N0 := Fr.nil n0
  have pre0 : ∀ t, Steps p.tables e below (s₁.setTop (mkF m 0 #[.val (.ref a1), .val (.long q2), .second, .val (.long q3), .second] [])) t → Steps p.tables e below (s₁.setTop (entryFrame m #[(.ref a1), (.long q2), (.long q3)] 5)) t := fun t k => castTop (ef_1 m a1 q2 q3) k
  obtain ⟨cq4, kq4, q4a, q4b, q4c⟩ := isOf hZ e0 E_a1
  obtain ⟨_, _, ⟨T4, L4, k4, n4⟩, -, X4, ⟨Lc4, hQ4, l4, y4, z4⟩, st4⟩ := X0.virtualBackUp hx (x := (⟨"com/example/sanction/sanction/language/Comparison$Operator", "ordinal", "()I"⟩ : MethodName)) (y := (⟨"java/lang/Enum", "ordinal", "()I"⟩ : MethodName)) (owner := "java/lang/Enum") hown (mvT hZ (hw _ (List.mem_of_getElem? (i := 8) rfl))) (mvT hZ (hw _ (List.mem_of_getElem? (i := 9) rfl))) (mvT hZ (hw _ (List.mem_of_getElem? (i := 10) rfl))) (by decide) (mvT hZ (hw _ (List.mem_of_getElem? (i := 12) rfl))) (mvT hZ (hw _ (List.mem_of_getElem? (i := 11) rfl))) (backOf (W := 0) (rm2 l Z a0 hw [] a1 (2 : Int32) h0 n0 Z0 Fo) hZ (hw _ (List.mem_of_getElem? (i := 14) rfl)) (hw _ (List.mem_of_getElem? (i := 13) rfl)) (by decide) (by decide)) q4a q4c (g := (mkF m 1 #[.val (.ref a1), .val (.long q2), .second, .val (.long q3), .second] [(.ref a1)])) rfl (by rw [hml]; rfl) (Steps.refl _) (argsL := []) (rest := []) (lenOf pd_1_1 rfl) rfl (by show 2 * 0 + _ ≤ _; exact Nat.le_of_eq rfl) (hb hby d1_1) (fun _ _ => ⟨rfl, e0, (by decide : 0 + 0 ≤ _), (by decide : 0 + 0 ≤ _)⟩)
  dsimp only [Pt.U, Pt.locs, Pt.cells, Pt.slots] at X4 l4 y4 z4 st4 hQ4
  subst l4 y4 z4
  obtain ⟨rfl, N4q, eh4⟩ := hQ4
  have N4 := Fr.app N0 N4q
  obtain ⟨fs, hr, hrun, hended, hW, hsame⟩ := X4.leave (v := some (.int (1 : Int32))) (fun h => by rw [Bd.returns] at h; cases h)
  refine ⟨_, _, pre0 _ ?_, hrun, hended, _, _, rfl, ?_, ⟨_, rfl⟩, hW, hsame.mono (by decide) (by decide)⟩
  · show Steps p.tables e below (s₁.setTop (mkF m 0 #[.val (.ref a1), .val (.long q2), .second, .val (.long q3), .second] [])) _
    refine XS.aloadN X0.here hx rfl (hb hby d1_0) rfl rfl ?_
    show Steps p.tables e below (s₁.setTop (mkF m 1 #[.val (.ref a1), .val (.long q2), .second, .val (.long q3), .second] [(.ref a1)])) _
    refine st4.trans ?_
    show Steps p.tables e below (T4.setTop (mkF m 4 #[.val (.ref a1), .val (.long q2), .second, .val (.long q3), .second] [(.int (2 : Int32))])) _
    refine XS.tswIn X4.here hx rfl (pc0 := 4) (pc' := 74) rfl (hb hby d1_4) rfl (by decide) rfl (by decide) (by decide) ?_
    show Steps p.tables e below (T4.setTop (mkF m 74 #[.val (.ref a1), .val (.long q2), .second, .val (.long q3), .second] [])) _
    refine XS.lloadN X4.here hx rfl (hb hby d1_74) rfl ?_
    show Steps p.tables e below (T4.setTop (mkF m 75 #[.val (.ref a1), .val (.long q2), .second, .val (.long q3), .second] [(.long q2)])) _
    refine XS.lloadN X4.here hx rfl (hb hby d1_75) rfl ?_
    show Steps p.tables e below (T4.setTop (mkF m 76 #[.val (.ref a1), .val (.long q2), .second, .val (.long q3), .second] [(.long q3), (.long q2)])) _
    refine XS.lcmp X4.here hx rfl (hb hby d1_76) rfl ?_
    show Steps p.tables e below (T4.setTop (mkF m 77 #[.val (.ref a1), .val (.long q2), .second, .val (.long q3), .second] [(.int (lcmpW q2 q3))])) _
    refine XS.ifNo X4.here hx rfl (hb hby d1_77) rfl ((if0 _ _).trans (tlt hc77).2.2.2) ?_
    show Steps p.tables e below (T4.setTop (mkF m 80 #[.val (.ref a1), .val (.long q2), .second, .val (.long q3), .second] [])) _
    refine XS.iconst X4.here hx rfl (hb hby d1_80) ?_
    show Steps p.tables e below (T4.setTop (mkF m 81 #[.val (.ref a1), .val (.long q2), .second, .val (.long q3), .second] [(.int (1 : Int32))])) _
    refine XS.goto X4.here hx rfl (pc0 := 81) (pc' := 99) rfl (hb hby d1_81) (by decide) (by decide) ?_
    show Steps p.tables e below (T4.setTop (mkF m 99 #[.val (.ref a1), .val (.long q2), .second, .val (.long q3), .second] [(.int (1 : Int32))])) _
    exact retN X4 hx (t := .boolean) Bd.returns (by simp) (hb hby d1_99) hr
  · show own_QV (some (.int (1 : Int32))) h0 n0 _ T4.heap _
    rw [eh4]
    exact ⟨rfl, N4, rfl⟩
set_option maxRecDepth 65536 in
set_option maxHeartbeats 40000000 in
theorem rm1_2t (l : Launch) (Z : State) (a0 : Array Value) (hw : ∀ d ∈ tables_1, d.before a0 Z = true) (ws : List Jvm.Cond) (a1 : Addr) (q2 : Int64) (q3 : Int64) (h0 : Heap) (n0 : Nat) (Z0 : n0 ≤ h0.size) (E_a1 : Exa Z h0 a1 "com/example/sanction/sanction/language/Comparison$Operator") (hc77 : ¬ ((0 : Int32) < (lcmpW q2 q3))) (Fo : Fld Z h0 a1 "java/lang/Enum" "ordinal" "I" (.int 2)) :
    MetFree l (⟨"com/example/sanction/sanction/language/Comparison$Operator", "holds", "(JJ)Z"⟩ : MethodName) (head1 (Jvm.Cond.code (⟨"com/example/sanction/sanction/language/Comparison$Operator", "holds", "(JJ)Z"⟩ : MethodName) prog_81_method_5_code 5 (some .boolean) :: ws) ({ frames := 1, cells := 0, slots := 0, locals := 12 } : Room)) (fun a U => a = #[(.ref a1), (.long q2), (.long q3)] ∧ Z.Warmed39 U.vm ∧ U.heap = h0) (fun _ _ _ _ _ => True) (fun _ U o U' => ∃ v L, o = .returned v ∧ own_QV (some (.int (0 : Int32))) h0 n0 v U'.heap L ∧ FrameEnd U o U' L ({ frames := 1, cells := 0, slots := 0, locals := 12 } : Room).cells ({ frames := 1, cells := 0, slots := 0, locals := 12 } : Room).slots) := by
  refine MetFree.of_bodySF (plainFor_of_name pn_1) hisR ?_
  intro p e s m args below meth c s₁ Bd hml0 hP hK
  obtain ⟨rfl, hZ, hh⟩ := hP
  have hx := Bd.exec
  have hby := Bd.bytes
  have hml : c.maxLocals = 5 := hml0
  have hown : s.vm.findClass "com/example/sanction/sanction/language/Comparison$Operator" = some m.cls := findClass_of_methodNamed Bd.named
  have hnm := (name_of_methodNamed Bd.named Bd.method).1
  have X0 : Stand p l e ({ frames := 1, cells := 0, slots := 0, locals := 12 } : Room) s m #[(.ref a1), (.long q2), (.long q3)] below meth c s₁ [] 0 0 := Stand.of_body Bd
  have e0 : s₁.heap = h0 := by rw [← hh, Bd.state]; rfl
  have N0 := Fr.nil n0
  have pre0 : ∀ t, Steps p.tables e below (s₁.setTop (mkF m 0 #[.val (.ref a1), .val (.long q2), .second, .val (.long q3), .second] [])) t → Steps p.tables e below (s₁.setTop (entryFrame m #[(.ref a1), (.long q2), (.long q3)] 5)) t := fun t k => castTop (ef_1 m a1 q2 q3) k
  obtain ⟨cq4, kq4, q4a, q4b, q4c⟩ := isOf hZ e0 E_a1
  obtain ⟨_, _, ⟨T4, L4, k4, n4⟩, -, X4, ⟨Lc4, hQ4, l4, y4, z4⟩, st4⟩ := X0.virtualBackUp hx (x := (⟨"com/example/sanction/sanction/language/Comparison$Operator", "ordinal", "()I"⟩ : MethodName)) (y := (⟨"java/lang/Enum", "ordinal", "()I"⟩ : MethodName)) (owner := "java/lang/Enum") hown (mvT hZ (hw _ (List.mem_of_getElem? (i := 8) rfl))) (mvT hZ (hw _ (List.mem_of_getElem? (i := 9) rfl))) (mvT hZ (hw _ (List.mem_of_getElem? (i := 10) rfl))) (by decide) (mvT hZ (hw _ (List.mem_of_getElem? (i := 12) rfl))) (mvT hZ (hw _ (List.mem_of_getElem? (i := 11) rfl))) (backOf (W := 0) (rm2 l Z a0 hw [] a1 (2 : Int32) h0 n0 Z0 Fo) hZ (hw _ (List.mem_of_getElem? (i := 14) rfl)) (hw _ (List.mem_of_getElem? (i := 13) rfl)) (by decide) (by decide)) q4a q4c (g := (mkF m 1 #[.val (.ref a1), .val (.long q2), .second, .val (.long q3), .second] [(.ref a1)])) rfl (by rw [hml]; rfl) (Steps.refl _) (argsL := []) (rest := []) (lenOf pd_1_1 rfl) rfl (by show 2 * 0 + _ ≤ _; exact Nat.le_of_eq rfl) (hb hby d1_1) (fun _ _ => ⟨rfl, e0, (by decide : 0 + 0 ≤ _), (by decide : 0 + 0 ≤ _)⟩)
  dsimp only [Pt.U, Pt.locs, Pt.cells, Pt.slots] at X4 l4 y4 z4 st4 hQ4
  subst l4 y4 z4
  obtain ⟨rfl, N4q, eh4⟩ := hQ4
  have N4 := Fr.app N0 N4q
  obtain ⟨fs, hr, hrun, hended, hW, hsame⟩ := X4.leave (v := some (.int (0 : Int32))) (fun h => by rw [Bd.returns] at h; cases h)
  refine ⟨_, _, pre0 _ ?_, hrun, hended, _, _, rfl, ?_, ⟨_, rfl⟩, hW, hsame.mono (by decide) (by decide)⟩
  · show Steps p.tables e below (s₁.setTop (mkF m 0 #[.val (.ref a1), .val (.long q2), .second, .val (.long q3), .second] [])) _
    refine XS.aloadN X0.here hx rfl (hb hby d1_0) rfl rfl ?_
    show Steps p.tables e below (s₁.setTop (mkF m 1 #[.val (.ref a1), .val (.long q2), .second, .val (.long q3), .second] [(.ref a1)])) _
    refine st4.trans ?_
    show Steps p.tables e below (T4.setTop (mkF m 4 #[.val (.ref a1), .val (.long q2), .second, .val (.long q3), .second] [(.int (2 : Int32))])) _
    refine XS.tswIn X4.here hx rfl (pc0 := 4) (pc' := 74) rfl (hb hby d1_4) rfl (by decide) rfl (by decide) (by decide) ?_
    show Steps p.tables e below (T4.setTop (mkF m 74 #[.val (.ref a1), .val (.long q2), .second, .val (.long q3), .second] [])) _
    refine XS.lloadN X4.here hx rfl (hb hby d1_74) rfl ?_
    show Steps p.tables e below (T4.setTop (mkF m 75 #[.val (.ref a1), .val (.long q2), .second, .val (.long q3), .second] [(.long q2)])) _
    refine XS.lloadN X4.here hx rfl (hb hby d1_75) rfl ?_
    show Steps p.tables e below (T4.setTop (mkF m 76 #[.val (.ref a1), .val (.long q2), .second, .val (.long q3), .second] [(.long q3), (.long q2)])) _
    refine XS.lcmp X4.here hx rfl (hb hby d1_76) rfl ?_
    show Steps p.tables e below (T4.setTop (mkF m 77 #[.val (.ref a1), .val (.long q2), .second, .val (.long q3), .second] [(.int (lcmpW q2 q3))])) _
    refine XS.ifYes X4.here hx rfl (pc0 := 77) (pc' := 84) rfl (hb hby d1_77) rfl ((if0 _ _).trans (flt hc77).2.2.2) (by decide) (by decide) ?_
    show Steps p.tables e below (T4.setTop (mkF m 84 #[.val (.ref a1), .val (.long q2), .second, .val (.long q3), .second] [])) _
    refine XS.iconst X4.here hx rfl (hb hby d1_84) ?_
    show Steps p.tables e below (T4.setTop (mkF m 85 #[.val (.ref a1), .val (.long q2), .second, .val (.long q3), .second] [(.int (0 : Int32))])) _
    refine XS.goto X4.here hx rfl (pc0 := 85) (pc' := 99) rfl (hb hby d1_85) (by decide) (by decide) ?_
    show Steps p.tables e below (T4.setTop (mkF m 99 #[.val (.ref a1), .val (.long q2), .second, .val (.long q3), .second] [(.int (0 : Int32))])) _
    exact retN X4 hx (t := .boolean) Bd.returns (by simp) (hb hby d1_99) hr
  · show own_QV (some (.int (0 : Int32))) h0 n0 _ T4.heap _
    rw [eh4]
    exact ⟨rfl, N4, rfl⟩
set_option maxRecDepth 65536 in
set_option maxHeartbeats 40000000 in
theorem rm1_3f (l : Launch) (Z : State) (a0 : Array Value) (hw : ∀ d ∈ tables_1, d.before a0 Z = true) (ws : List Jvm.Cond) (a1 : Addr) (q2 : Int64) (q3 : Int64) (h0 : Heap) (n0 : Nat) (Z0 : n0 ≤ h0.size) (E_a1 : Exa Z h0 a1 "com/example/sanction/sanction/language/Comparison$Operator") (hc91 : ¬ ((lcmpW q2 q3) < (0 : Int32))) (Fo : Fld Z h0 a1 "java/lang/Enum" "ordinal" "I" (.int 3)) :
    MetFree l (⟨"com/example/sanction/sanction/language/Comparison$Operator", "holds", "(JJ)Z"⟩ : MethodName) (head1 (Jvm.Cond.code (⟨"com/example/sanction/sanction/language/Comparison$Operator", "holds", "(JJ)Z"⟩ : MethodName) prog_81_method_5_code 5 (some .boolean) :: ws) ({ frames := 1, cells := 0, slots := 0, locals := 12 } : Room)) (fun a U => a = #[(.ref a1), (.long q2), (.long q3)] ∧ Z.Warmed39 U.vm ∧ U.heap = h0) (fun _ _ _ _ _ => True) (fun _ U o U' => ∃ v L, o = .returned v ∧ own_QV (some (.int (1 : Int32))) h0 n0 v U'.heap L ∧ FrameEnd U o U' L ({ frames := 1, cells := 0, slots := 0, locals := 12 } : Room).cells ({ frames := 1, cells := 0, slots := 0, locals := 12 } : Room).slots) := by
  refine MetFree.of_bodySF (plainFor_of_name pn_1) hisR ?_
  intro p e s m args below meth c s₁ Bd hml0 hP hK
  obtain ⟨rfl, hZ, hh⟩ := hP
  have hx := Bd.exec
  have hby := Bd.bytes
  have hml : c.maxLocals = 5 := hml0
  have hown : s.vm.findClass "com/example/sanction/sanction/language/Comparison$Operator" = some m.cls := findClass_of_methodNamed Bd.named
  have hnm := (name_of_methodNamed Bd.named Bd.method).1
  have X0 : Stand p l e ({ frames := 1, cells := 0, slots := 0, locals := 12 } : Room) s m #[(.ref a1), (.long q2), (.long q3)] below meth c s₁ [] 0 0 := Stand.of_body Bd
  have e0 : s₁.heap = h0 := by rw [← hh, Bd.state]; rfl
  have N0 := Fr.nil n0
  have pre0 : ∀ t, Steps p.tables e below (s₁.setTop (mkF m 0 #[.val (.ref a1), .val (.long q2), .second, .val (.long q3), .second] [])) t → Steps p.tables e below (s₁.setTop (entryFrame m #[(.ref a1), (.long q2), (.long q3)] 5)) t := fun t k => castTop (ef_1 m a1 q2 q3) k
  obtain ⟨cq4, kq4, q4a, q4b, q4c⟩ := isOf hZ e0 E_a1
  obtain ⟨_, _, ⟨T4, L4, k4, n4⟩, -, X4, ⟨Lc4, hQ4, l4, y4, z4⟩, st4⟩ := X0.virtualBackUp hx (x := (⟨"com/example/sanction/sanction/language/Comparison$Operator", "ordinal", "()I"⟩ : MethodName)) (y := (⟨"java/lang/Enum", "ordinal", "()I"⟩ : MethodName)) (owner := "java/lang/Enum") hown (mvT hZ (hw _ (List.mem_of_getElem? (i := 8) rfl))) (mvT hZ (hw _ (List.mem_of_getElem? (i := 9) rfl))) (mvT hZ (hw _ (List.mem_of_getElem? (i := 10) rfl))) (by decide) (mvT hZ (hw _ (List.mem_of_getElem? (i := 12) rfl))) (mvT hZ (hw _ (List.mem_of_getElem? (i := 11) rfl))) (backOf (W := 0) (rm2 l Z a0 hw [] a1 (3 : Int32) h0 n0 Z0 Fo) hZ (hw _ (List.mem_of_getElem? (i := 14) rfl)) (hw _ (List.mem_of_getElem? (i := 13) rfl)) (by decide) (by decide)) q4a q4c (g := (mkF m 1 #[.val (.ref a1), .val (.long q2), .second, .val (.long q3), .second] [(.ref a1)])) rfl (by rw [hml]; rfl) (Steps.refl _) (argsL := []) (rest := []) (lenOf pd_1_1 rfl) rfl (by show 2 * 0 + _ ≤ _; exact Nat.le_of_eq rfl) (hb hby d1_1) (fun _ _ => ⟨rfl, e0, (by decide : 0 + 0 ≤ _), (by decide : 0 + 0 ≤ _)⟩)
  dsimp only [Pt.U, Pt.locs, Pt.cells, Pt.slots] at X4 l4 y4 z4 st4 hQ4
  subst l4 y4 z4
  obtain ⟨rfl, N4q, eh4⟩ := hQ4
  have N4 := Fr.app N0 N4q
  obtain ⟨fs, hr, hrun, hended, hW, hsame⟩ := X4.leave (v := some (.int (1 : Int32))) (fun h => by rw [Bd.returns] at h; cases h)
  refine ⟨_, _, pre0 _ ?_, hrun, hended, _, _, rfl, ?_, ⟨_, rfl⟩, hW, hsame.mono (by decide) (by decide)⟩
  · show Steps p.tables e below (s₁.setTop (mkF m 0 #[.val (.ref a1), .val (.long q2), .second, .val (.long q3), .second] [])) _
    refine XS.aloadN X0.here hx rfl (hb hby d1_0) rfl rfl ?_
    show Steps p.tables e below (s₁.setTop (mkF m 1 #[.val (.ref a1), .val (.long q2), .second, .val (.long q3), .second] [(.ref a1)])) _
    refine st4.trans ?_
    show Steps p.tables e below (T4.setTop (mkF m 4 #[.val (.ref a1), .val (.long q2), .second, .val (.long q3), .second] [(.int (3 : Int32))])) _
    refine XS.tswIn X4.here hx rfl (pc0 := 4) (pc' := 88) rfl (hb hby d1_4) rfl (by decide) rfl (by decide) (by decide) ?_
    show Steps p.tables e below (T4.setTop (mkF m 88 #[.val (.ref a1), .val (.long q2), .second, .val (.long q3), .second] [])) _
    refine XS.lloadN X4.here hx rfl (hb hby d1_88) rfl ?_
    show Steps p.tables e below (T4.setTop (mkF m 89 #[.val (.ref a1), .val (.long q2), .second, .val (.long q3), .second] [(.long q2)])) _
    refine XS.lloadN X4.here hx rfl (hb hby d1_89) rfl ?_
    show Steps p.tables e below (T4.setTop (mkF m 90 #[.val (.ref a1), .val (.long q2), .second, .val (.long q3), .second] [(.long q3), (.long q2)])) _
    refine XS.lcmp X4.here hx rfl (hb hby d1_90) rfl ?_
    show Steps p.tables e below (T4.setTop (mkF m 91 #[.val (.ref a1), .val (.long q2), .second, .val (.long q3), .second] [(.int (lcmpW q2 q3))])) _
    refine XS.ifNo X4.here hx rfl (hb hby d1_91) rfl ((if0 _ _).trans (flt hc91).1) ?_
    show Steps p.tables e below (T4.setTop (mkF m 94 #[.val (.ref a1), .val (.long q2), .second, .val (.long q3), .second] [])) _
    refine XS.iconst X4.here hx rfl (hb hby d1_94) ?_
    show Steps p.tables e below (T4.setTop (mkF m 95 #[.val (.ref a1), .val (.long q2), .second, .val (.long q3), .second] [(.int (1 : Int32))])) _
    refine XS.goto X4.here hx rfl (pc0 := 95) (pc' := 99) rfl (hb hby d1_95) (by decide) (by decide) ?_
    show Steps p.tables e below (T4.setTop (mkF m 99 #[.val (.ref a1), .val (.long q2), .second, .val (.long q3), .second] [(.int (1 : Int32))])) _
    exact retN X4 hx (t := .boolean) Bd.returns (by simp) (hb hby d1_99) hr
  · show own_QV (some (.int (1 : Int32))) h0 n0 _ T4.heap _
    rw [eh4]
    exact ⟨rfl, N4, rfl⟩
set_option maxRecDepth 65536 in
set_option maxHeartbeats 40000000 in
theorem rm1_3t (l : Launch) (Z : State) (a0 : Array Value) (hw : ∀ d ∈ tables_1, d.before a0 Z = true) (ws : List Jvm.Cond) (a1 : Addr) (q2 : Int64) (q3 : Int64) (h0 : Heap) (n0 : Nat) (Z0 : n0 ≤ h0.size) (E_a1 : Exa Z h0 a1 "com/example/sanction/sanction/language/Comparison$Operator") (hc91 : (lcmpW q2 q3) < (0 : Int32)) (Fo : Fld Z h0 a1 "java/lang/Enum" "ordinal" "I" (.int 3)) :
    MetFree l (⟨"com/example/sanction/sanction/language/Comparison$Operator", "holds", "(JJ)Z"⟩ : MethodName) (head1 (Jvm.Cond.code (⟨"com/example/sanction/sanction/language/Comparison$Operator", "holds", "(JJ)Z"⟩ : MethodName) prog_81_method_5_code 5 (some .boolean) :: ws) ({ frames := 1, cells := 0, slots := 0, locals := 12 } : Room)) (fun a U => a = #[(.ref a1), (.long q2), (.long q3)] ∧ Z.Warmed39 U.vm ∧ U.heap = h0) (fun _ _ _ _ _ => True) (fun _ U o U' => ∃ v L, o = .returned v ∧ own_QV (some (.int (0 : Int32))) h0 n0 v U'.heap L ∧ FrameEnd U o U' L ({ frames := 1, cells := 0, slots := 0, locals := 12 } : Room).cells ({ frames := 1, cells := 0, slots := 0, locals := 12 } : Room).slots) := by
  refine MetFree.of_bodySF (plainFor_of_name pn_1) hisR ?_
  intro p e s m args below meth c s₁ Bd hml0 hP hK
  obtain ⟨rfl, hZ, hh⟩ := hP
  have hx := Bd.exec
  have hby := Bd.bytes
  have hml : c.maxLocals = 5 := hml0
  have hown : s.vm.findClass "com/example/sanction/sanction/language/Comparison$Operator" = some m.cls := findClass_of_methodNamed Bd.named
  have hnm := (name_of_methodNamed Bd.named Bd.method).1
  have X0 : Stand p l e ({ frames := 1, cells := 0, slots := 0, locals := 12 } : Room) s m #[(.ref a1), (.long q2), (.long q3)] below meth c s₁ [] 0 0 := Stand.of_body Bd
  have e0 : s₁.heap = h0 := by rw [← hh, Bd.state]; rfl
  have N0 := Fr.nil n0
  have pre0 : ∀ t, Steps p.tables e below (s₁.setTop (mkF m 0 #[.val (.ref a1), .val (.long q2), .second, .val (.long q3), .second] [])) t → Steps p.tables e below (s₁.setTop (entryFrame m #[(.ref a1), (.long q2), (.long q3)] 5)) t := fun t k => castTop (ef_1 m a1 q2 q3) k
  obtain ⟨cq4, kq4, q4a, q4b, q4c⟩ := isOf hZ e0 E_a1
  obtain ⟨_, _, ⟨T4, L4, k4, n4⟩, -, X4, ⟨Lc4, hQ4, l4, y4, z4⟩, st4⟩ := X0.virtualBackUp hx (x := (⟨"com/example/sanction/sanction/language/Comparison$Operator", "ordinal", "()I"⟩ : MethodName)) (y := (⟨"java/lang/Enum", "ordinal", "()I"⟩ : MethodName)) (owner := "java/lang/Enum") hown (mvT hZ (hw _ (List.mem_of_getElem? (i := 8) rfl))) (mvT hZ (hw _ (List.mem_of_getElem? (i := 9) rfl))) (mvT hZ (hw _ (List.mem_of_getElem? (i := 10) rfl))) (by decide) (mvT hZ (hw _ (List.mem_of_getElem? (i := 12) rfl))) (mvT hZ (hw _ (List.mem_of_getElem? (i := 11) rfl))) (backOf (W := 0) (rm2 l Z a0 hw [] a1 (3 : Int32) h0 n0 Z0 Fo) hZ (hw _ (List.mem_of_getElem? (i := 14) rfl)) (hw _ (List.mem_of_getElem? (i := 13) rfl)) (by decide) (by decide)) q4a q4c (g := (mkF m 1 #[.val (.ref a1), .val (.long q2), .second, .val (.long q3), .second] [(.ref a1)])) rfl (by rw [hml]; rfl) (Steps.refl _) (argsL := []) (rest := []) (lenOf pd_1_1 rfl) rfl (by show 2 * 0 + _ ≤ _; exact Nat.le_of_eq rfl) (hb hby d1_1) (fun _ _ => ⟨rfl, e0, (by decide : 0 + 0 ≤ _), (by decide : 0 + 0 ≤ _)⟩)
  dsimp only [Pt.U, Pt.locs, Pt.cells, Pt.slots] at X4 l4 y4 z4 st4 hQ4
  subst l4 y4 z4
  obtain ⟨rfl, N4q, eh4⟩ := hQ4
  have N4 := Fr.app N0 N4q
  obtain ⟨fs, hr, hrun, hended, hW, hsame⟩ := X4.leave (v := some (.int (0 : Int32))) (fun h => by rw [Bd.returns] at h; cases h)
  refine ⟨_, _, pre0 _ ?_, hrun, hended, _, _, rfl, ?_, ⟨_, rfl⟩, hW, hsame.mono (by decide) (by decide)⟩
  · show Steps p.tables e below (s₁.setTop (mkF m 0 #[.val (.ref a1), .val (.long q2), .second, .val (.long q3), .second] [])) _
    refine XS.aloadN X0.here hx rfl (hb hby d1_0) rfl rfl ?_
    show Steps p.tables e below (s₁.setTop (mkF m 1 #[.val (.ref a1), .val (.long q2), .second, .val (.long q3), .second] [(.ref a1)])) _
    refine st4.trans ?_
    show Steps p.tables e below (T4.setTop (mkF m 4 #[.val (.ref a1), .val (.long q2), .second, .val (.long q3), .second] [(.int (3 : Int32))])) _
    refine XS.tswIn X4.here hx rfl (pc0 := 4) (pc' := 88) rfl (hb hby d1_4) rfl (by decide) rfl (by decide) (by decide) ?_
    show Steps p.tables e below (T4.setTop (mkF m 88 #[.val (.ref a1), .val (.long q2), .second, .val (.long q3), .second] [])) _
    refine XS.lloadN X4.here hx rfl (hb hby d1_88) rfl ?_
    show Steps p.tables e below (T4.setTop (mkF m 89 #[.val (.ref a1), .val (.long q2), .second, .val (.long q3), .second] [(.long q2)])) _
    refine XS.lloadN X4.here hx rfl (hb hby d1_89) rfl ?_
    show Steps p.tables e below (T4.setTop (mkF m 90 #[.val (.ref a1), .val (.long q2), .second, .val (.long q3), .second] [(.long q3), (.long q2)])) _
    refine XS.lcmp X4.here hx rfl (hb hby d1_90) rfl ?_
    show Steps p.tables e below (T4.setTop (mkF m 91 #[.val (.ref a1), .val (.long q2), .second, .val (.long q3), .second] [(.int (lcmpW q2 q3))])) _
    refine XS.ifYes X4.here hx rfl (pc0 := 91) (pc' := 98) rfl (hb hby d1_91) rfl ((if0 _ _).trans (tlt hc91).1) (by decide) (by decide) ?_
    show Steps p.tables e below (T4.setTop (mkF m 98 #[.val (.ref a1), .val (.long q2), .second, .val (.long q3), .second] [])) _
    refine XS.iconst X4.here hx rfl (hb hby d1_98) ?_
    show Steps p.tables e below (T4.setTop (mkF m 99 #[.val (.ref a1), .val (.long q2), .second, .val (.long q3), .second] [(.int (0 : Int32))])) _
    exact retN X4 hx (t := .boolean) Bd.returns (by simp) (hb hby d1_99) hr
  · show own_QV (some (.int (0 : Int32))) h0 n0 _ T4.heap _
    rw [eh4]
    exact ⟨rfl, N4, rfl⟩
set_option maxRecDepth 65536 in
set_option maxHeartbeats 40000000 in
theorem own_A1 {p : Program} {l : Launch} {e : Env} {R : Room} {s : State} {m : MethodId} {args : Array Value} {below : List Frame} {meth : Method} {c : Code} {T0 : State} {locs : List Loc} {cells slots : Nat} {Z : State} {a0 : Array Value} {h0 : Heap} (i0 : Int32) (j1 : Int64) (s3 : Slot) (s4 : Slot) (j5 : Int64) (s7 : Slot) (s8 : Slot) (s9 : Slot) (s10 : Slot) (s11 : Slot) (s12 : Slot)
    (X0 : Stand p l e R s m args below meth c T0 locs cells slots) (hx : p.tables.exec = Jvm.exec) (hZ : Z.Warmed39 s.vm) (hw : ∀ d ∈ tables_1, d.before a0 Z = true) (hby : c.code = code) (hml : c.maxLocals = 13) (hown : s.vm.findClass "com/example/sanction/sanction/language/OperatorHoldsPinLaw" = some m.cls) (e0 : T0.heap = h0) (hs7 : One s7) (hc13 : (((i0.toUInt32 >>> ((2 : Int32) &&& 31).toUInt32).toInt32) &&& (3 : Int32)) = (1 : Int32)) :
    ∃ (T' : State), Stand p l e R s m args below meth c T' locs cells slots ∧ T'.heap = h0 ∧
      ∀ target, Steps p.tables e below (T'.setTop (mkF m 47 #[.val (.int i0), .val (.long j1), .second, s3, s4, .val (.long j1), .second, .val (.int (((i0.toUInt32 >>> ((2 : Int32) &&& 31).toUInt32).toInt32) &&& (3 : Int32))), s8, s9, s10, s11, s12] [])) target → Steps p.tables e below (T0.setTop (mkF m 3 #[.val (.int i0), .val (.long j1), .second, s3, s4, .val (.long j5), .second, s7, s8, s9, s10, s11, s12] [])) target := by
  refine ⟨T0, X0, e0, fun target kt => ?_⟩
  show Steps p.tables e below (T0.setTop (mkF m 3 #[.val (.int i0), .val (.long j1), .second, s3, s4, .val (.long j5), .second, s7, s8, s9, s10, s11, s12] [])) _
  refine XS.iloadN X0.here hx rfl (hb hby at_3) rfl ?_
  show Steps p.tables e below (T0.setTop (mkF m 4 #[.val (.int i0), .val (.long j1), .second, s3, s4, .val (.long j5), .second, s7, s8, s9, s10, s11, s12] [(.int i0)])) _
  refine XS.iconst X0.here hx rfl (hb hby at_4) ?_
  show Steps p.tables e below (T0.setTop (mkF m 5 #[.val (.int i0), .val (.long j1), .second, s3, s4, .val (.long j5), .second, s7, s8, s9, s10, s11, s12] [(.int (2 : Int32)), (.int i0)])) _
  refine XS.iushr X0.here hx rfl (hb hby at_5) rfl ?_
  show Steps p.tables e below (T0.setTop (mkF m 6 #[.val (.int i0), .val (.long j1), .second, s3, s4, .val (.long j5), .second, s7, s8, s9, s10, s11, s12] [(.int ((i0.toUInt32 >>> ((2 : Int32) &&& 31).toUInt32).toInt32))])) _
  refine XS.iconst X0.here hx rfl (hb hby at_6) ?_
  show Steps p.tables e below (T0.setTop (mkF m 7 #[.val (.int i0), .val (.long j1), .second, s3, s4, .val (.long j5), .second, s7, s8, s9, s10, s11, s12] [(.int (3 : Int32)), (.int ((i0.toUInt32 >>> ((2 : Int32) &&& 31).toUInt32).toInt32))])) _
  refine XS.iand X0.here hx rfl (hb hby at_7) rfl ?_
  show Steps p.tables e below (T0.setTop (mkF m 8 #[.val (.int i0), .val (.long j1), .second, s3, s4, .val (.long j5), .second, s7, s8, s9, s10, s11, s12] [(.int (((i0.toUInt32 >>> ((2 : Int32) &&& 31).toUInt32).toInt32) &&& (3 : Int32)))])) _
  refine XS.istore X0.here hx rfl (hb hby at_8) rfl (l' := #[.val (.int i0), .val (.long j1), .second, s3, s4, .val (.long j5), .second, .val (.int (((i0.toUInt32 >>> ((2 : Int32) &&& 31).toUInt32).toInt32) &&& (3 : Int32))), s8, s9, s10, s11, s12]) (os_own_A1_8 hs7) ?_
  show Steps p.tables e below (T0.setTop (mkF m 10 #[.val (.int i0), .val (.long j1), .second, s3, s4, .val (.long j5), .second, .val (.int (((i0.toUInt32 >>> ((2 : Int32) &&& 31).toUInt32).toInt32) &&& (3 : Int32))), s8, s9, s10, s11, s12] [])) _
  refine XS.iload X0.here hx rfl (hb hby at_10) rfl ?_
  show Steps p.tables e below (T0.setTop (mkF m 12 #[.val (.int i0), .val (.long j1), .second, s3, s4, .val (.long j5), .second, .val (.int (((i0.toUInt32 >>> ((2 : Int32) &&& 31).toUInt32).toInt32) &&& (3 : Int32))), s8, s9, s10, s11, s12] [(.int (((i0.toUInt32 >>> ((2 : Int32) &&& 31).toUInt32).toInt32) &&& (3 : Int32)))])) _
  refine XS.iconst X0.here hx rfl (hb hby at_12) ?_
  show Steps p.tables e below (T0.setTop (mkF m 13 #[.val (.int i0), .val (.long j1), .second, s3, s4, .val (.long j5), .second, .val (.int (((i0.toUInt32 >>> ((2 : Int32) &&& 31).toUInt32).toInt32) &&& (3 : Int32))), s8, s9, s10, s11, s12] [(.int (1 : Int32)), (.int (((i0.toUInt32 >>> ((2 : Int32) &&& 31).toUInt32).toInt32) &&& (3 : Int32)))])) _
  refine XS.icmpNo X0.here hx rfl (hb hby at_13) rfl (teq hc13).2 ?_
  show Steps p.tables e below (T0.setTop (mkF m 16 #[.val (.int i0), .val (.long j1), .second, s3, s4, .val (.long j5), .second, .val (.int (((i0.toUInt32 >>> ((2 : Int32) &&& 31).toUInt32).toInt32) &&& (3 : Int32))), s8, s9, s10, s11, s12] [])) _
  refine XS.lloadN X0.here hx rfl (hb hby at_16) rfl ?_
  show Steps p.tables e below (T0.setTop (mkF m 17 #[.val (.int i0), .val (.long j1), .second, s3, s4, .val (.long j5), .second, .val (.int (((i0.toUInt32 >>> ((2 : Int32) &&& 31).toUInt32).toInt32) &&& (3 : Int32))), s8, s9, s10, s11, s12] [(.long j1)])) _
  refine XS.lstore X0.here hx rfl (hb hby at_17) rfl (l' := #[.val (.int i0), .val (.long j1), .second, s3, s4, .val (.long j1), .second, .val (.int (((i0.toUInt32 >>> ((2 : Int32) &&& 31).toUInt32).toInt32) &&& (3 : Int32))), s8, s9, s10, s11, s12]) rfl ?_
  show Steps p.tables e below (T0.setTop (mkF m 19 #[.val (.int i0), .val (.long j1), .second, s3, s4, .val (.long j1), .second, .val (.int (((i0.toUInt32 >>> ((2 : Int32) &&& 31).toUInt32).toInt32) &&& (3 : Int32))), s8, s9, s10, s11, s12] [])) _
  refine XS.goto X0.here hx rfl (pc0 := 19) (pc' := 47) rfl (hb hby at_19) (by decide) (by decide) ?_
  exact kt
set_option maxRecDepth 65536 in
set_option maxHeartbeats 40000000 in
theorem own_A2 {p : Program} {l : Launch} {e : Env} {R : Room} {s : State} {m : MethodId} {args : Array Value} {below : List Frame} {meth : Method} {c : Code} {T0 : State} {locs : List Loc} {cells slots : Nat} {Z : State} {a0 : Array Value} {h0 : Heap} (i0 : Int32) (j1 : Int64) (s3 : Slot) (s4 : Slot) (j5 : Int64) (s7 : Slot) (s8 : Slot) (s9 : Slot) (s10 : Slot) (s11 : Slot) (s12 : Slot)
    (X0 : Stand p l e R s m args below meth c T0 locs cells slots) (hx : p.tables.exec = Jvm.exec) (hZ : Z.Warmed39 s.vm) (hw : ∀ d ∈ tables_1, d.before a0 Z = true) (hby : c.code = code) (hml : c.maxLocals = 13) (hown : s.vm.findClass "com/example/sanction/sanction/language/OperatorHoldsPinLaw" = some m.cls) (e0 : T0.heap = h0) (hs7 : One s7) (hc13 : ¬ ((((i0.toUInt32 >>> ((2 : Int32) &&& 31).toUInt32).toInt32) &&& (3 : Int32)) = (1 : Int32))) (hc25 : (((i0.toUInt32 >>> ((2 : Int32) &&& 31).toUInt32).toInt32) &&& (3 : Int32)) = (2 : Int32)) :
    ∃ (T' : State), Stand p l e R s m args below meth c T' locs cells slots ∧ T'.heap = h0 ∧
      ∀ target, Steps p.tables e below (T'.setTop (mkF m 47 #[.val (.int i0), .val (.long j1), .second, s3, s4, .val (.long (j1 + (1 : Int64))), .second, .val (.int (((i0.toUInt32 >>> ((2 : Int32) &&& 31).toUInt32).toInt32) &&& (3 : Int32))), s8, s9, s10, s11, s12] [])) target → Steps p.tables e below (T0.setTop (mkF m 3 #[.val (.int i0), .val (.long j1), .second, s3, s4, .val (.long j5), .second, s7, s8, s9, s10, s11, s12] [])) target := by
  refine ⟨T0, X0, e0, fun target kt => ?_⟩
  show Steps p.tables e below (T0.setTop (mkF m 3 #[.val (.int i0), .val (.long j1), .second, s3, s4, .val (.long j5), .second, s7, s8, s9, s10, s11, s12] [])) _
  refine XS.iloadN X0.here hx rfl (hb hby at_3) rfl ?_
  show Steps p.tables e below (T0.setTop (mkF m 4 #[.val (.int i0), .val (.long j1), .second, s3, s4, .val (.long j5), .second, s7, s8, s9, s10, s11, s12] [(.int i0)])) _
  refine XS.iconst X0.here hx rfl (hb hby at_4) ?_
  show Steps p.tables e below (T0.setTop (mkF m 5 #[.val (.int i0), .val (.long j1), .second, s3, s4, .val (.long j5), .second, s7, s8, s9, s10, s11, s12] [(.int (2 : Int32)), (.int i0)])) _
  refine XS.iushr X0.here hx rfl (hb hby at_5) rfl ?_
  show Steps p.tables e below (T0.setTop (mkF m 6 #[.val (.int i0), .val (.long j1), .second, s3, s4, .val (.long j5), .second, s7, s8, s9, s10, s11, s12] [(.int ((i0.toUInt32 >>> ((2 : Int32) &&& 31).toUInt32).toInt32))])) _
  refine XS.iconst X0.here hx rfl (hb hby at_6) ?_
  show Steps p.tables e below (T0.setTop (mkF m 7 #[.val (.int i0), .val (.long j1), .second, s3, s4, .val (.long j5), .second, s7, s8, s9, s10, s11, s12] [(.int (3 : Int32)), (.int ((i0.toUInt32 >>> ((2 : Int32) &&& 31).toUInt32).toInt32))])) _
  refine XS.iand X0.here hx rfl (hb hby at_7) rfl ?_
  show Steps p.tables e below (T0.setTop (mkF m 8 #[.val (.int i0), .val (.long j1), .second, s3, s4, .val (.long j5), .second, s7, s8, s9, s10, s11, s12] [(.int (((i0.toUInt32 >>> ((2 : Int32) &&& 31).toUInt32).toInt32) &&& (3 : Int32)))])) _
  refine XS.istore X0.here hx rfl (hb hby at_8) rfl (l' := #[.val (.int i0), .val (.long j1), .second, s3, s4, .val (.long j5), .second, .val (.int (((i0.toUInt32 >>> ((2 : Int32) &&& 31).toUInt32).toInt32) &&& (3 : Int32))), s8, s9, s10, s11, s12]) (os_own_A2_8 hs7) ?_
  show Steps p.tables e below (T0.setTop (mkF m 10 #[.val (.int i0), .val (.long j1), .second, s3, s4, .val (.long j5), .second, .val (.int (((i0.toUInt32 >>> ((2 : Int32) &&& 31).toUInt32).toInt32) &&& (3 : Int32))), s8, s9, s10, s11, s12] [])) _
  refine XS.iload X0.here hx rfl (hb hby at_10) rfl ?_
  show Steps p.tables e below (T0.setTop (mkF m 12 #[.val (.int i0), .val (.long j1), .second, s3, s4, .val (.long j5), .second, .val (.int (((i0.toUInt32 >>> ((2 : Int32) &&& 31).toUInt32).toInt32) &&& (3 : Int32))), s8, s9, s10, s11, s12] [(.int (((i0.toUInt32 >>> ((2 : Int32) &&& 31).toUInt32).toInt32) &&& (3 : Int32)))])) _
  refine XS.iconst X0.here hx rfl (hb hby at_12) ?_
  show Steps p.tables e below (T0.setTop (mkF m 13 #[.val (.int i0), .val (.long j1), .second, s3, s4, .val (.long j5), .second, .val (.int (((i0.toUInt32 >>> ((2 : Int32) &&& 31).toUInt32).toInt32) &&& (3 : Int32))), s8, s9, s10, s11, s12] [(.int (1 : Int32)), (.int (((i0.toUInt32 >>> ((2 : Int32) &&& 31).toUInt32).toInt32) &&& (3 : Int32)))])) _
  refine XS.icmpYes X0.here hx rfl (pc0 := 13) (pc' := 22) rfl (hb hby at_13) rfl (feq hc13).2 (by decide) (by decide) ?_
  show Steps p.tables e below (T0.setTop (mkF m 22 #[.val (.int i0), .val (.long j1), .second, s3, s4, .val (.long j5), .second, .val (.int (((i0.toUInt32 >>> ((2 : Int32) &&& 31).toUInt32).toInt32) &&& (3 : Int32))), s8, s9, s10, s11, s12] [])) _
  refine XS.iload X0.here hx rfl (hb hby at_22) rfl ?_
  show Steps p.tables e below (T0.setTop (mkF m 24 #[.val (.int i0), .val (.long j1), .second, s3, s4, .val (.long j5), .second, .val (.int (((i0.toUInt32 >>> ((2 : Int32) &&& 31).toUInt32).toInt32) &&& (3 : Int32))), s8, s9, s10, s11, s12] [(.int (((i0.toUInt32 >>> ((2 : Int32) &&& 31).toUInt32).toInt32) &&& (3 : Int32)))])) _
  refine XS.iconst X0.here hx rfl (hb hby at_24) ?_
  show Steps p.tables e below (T0.setTop (mkF m 25 #[.val (.int i0), .val (.long j1), .second, s3, s4, .val (.long j5), .second, .val (.int (((i0.toUInt32 >>> ((2 : Int32) &&& 31).toUInt32).toInt32) &&& (3 : Int32))), s8, s9, s10, s11, s12] [(.int (2 : Int32)), (.int (((i0.toUInt32 >>> ((2 : Int32) &&& 31).toUInt32).toInt32) &&& (3 : Int32)))])) _
  refine XS.icmpNo X0.here hx rfl (hb hby at_25) rfl (teq hc25).2 ?_
  show Steps p.tables e below (T0.setTop (mkF m 28 #[.val (.int i0), .val (.long j1), .second, s3, s4, .val (.long j5), .second, .val (.int (((i0.toUInt32 >>> ((2 : Int32) &&& 31).toUInt32).toInt32) &&& (3 : Int32))), s8, s9, s10, s11, s12] [])) _
  refine XS.lloadN X0.here hx rfl (hb hby at_28) rfl ?_
  show Steps p.tables e below (T0.setTop (mkF m 29 #[.val (.int i0), .val (.long j1), .second, s3, s4, .val (.long j5), .second, .val (.int (((i0.toUInt32 >>> ((2 : Int32) &&& 31).toUInt32).toInt32) &&& (3 : Int32))), s8, s9, s10, s11, s12] [(.long j1)])) _
  refine XS.lconst X0.here hx rfl (hb hby at_29) ?_
  show Steps p.tables e below (T0.setTop (mkF m 30 #[.val (.int i0), .val (.long j1), .second, s3, s4, .val (.long j5), .second, .val (.int (((i0.toUInt32 >>> ((2 : Int32) &&& 31).toUInt32).toInt32) &&& (3 : Int32))), s8, s9, s10, s11, s12] [(.long (1 : Int64)), (.long j1)])) _
  refine XS.ladd X0.here hx rfl (hb hby at_30) rfl ?_
  show Steps p.tables e below (T0.setTop (mkF m 31 #[.val (.int i0), .val (.long j1), .second, s3, s4, .val (.long j5), .second, .val (.int (((i0.toUInt32 >>> ((2 : Int32) &&& 31).toUInt32).toInt32) &&& (3 : Int32))), s8, s9, s10, s11, s12] [(.long (j1 + (1 : Int64)))])) _
  refine XS.lstore X0.here hx rfl (hb hby at_31) rfl (l' := #[.val (.int i0), .val (.long j1), .second, s3, s4, .val (.long (j1 + (1 : Int64))), .second, .val (.int (((i0.toUInt32 >>> ((2 : Int32) &&& 31).toUInt32).toInt32) &&& (3 : Int32))), s8, s9, s10, s11, s12]) rfl ?_
  show Steps p.tables e below (T0.setTop (mkF m 33 #[.val (.int i0), .val (.long j1), .second, s3, s4, .val (.long (j1 + (1 : Int64))), .second, .val (.int (((i0.toUInt32 >>> ((2 : Int32) &&& 31).toUInt32).toInt32) &&& (3 : Int32))), s8, s9, s10, s11, s12] [])) _
  refine XS.goto X0.here hx rfl (pc0 := 33) (pc' := 47) rfl (hb hby at_33) (by decide) (by decide) ?_
  exact kt
set_option maxRecDepth 65536 in
set_option maxHeartbeats 40000000 in
theorem own_A3 {p : Program} {l : Launch} {e : Env} {R : Room} {s : State} {m : MethodId} {args : Array Value} {below : List Frame} {meth : Method} {c : Code} {T0 : State} {locs : List Loc} {cells slots : Nat} {Z : State} {a0 : Array Value} {h0 : Heap} (i0 : Int32) (j1 : Int64) (s3 : Slot) (s4 : Slot) (j5 : Int64) (s7 : Slot) (s8 : Slot) (s9 : Slot) (s10 : Slot) (s11 : Slot) (s12 : Slot)
    (X0 : Stand p l e R s m args below meth c T0 locs cells slots) (hx : p.tables.exec = Jvm.exec) (hZ : Z.Warmed39 s.vm) (hw : ∀ d ∈ tables_1, d.before a0 Z = true) (hby : c.code = code) (hml : c.maxLocals = 13) (hown : s.vm.findClass "com/example/sanction/sanction/language/OperatorHoldsPinLaw" = some m.cls) (e0 : T0.heap = h0) (hs7 : One s7) (hc13 : ¬ ((((i0.toUInt32 >>> ((2 : Int32) &&& 31).toUInt32).toInt32) &&& (3 : Int32)) = (1 : Int32))) (hc25 : ¬ ((((i0.toUInt32 >>> ((2 : Int32) &&& 31).toUInt32).toInt32) &&& (3 : Int32)) = (2 : Int32))) (hc39 : (((i0.toUInt32 >>> ((2 : Int32) &&& 31).toUInt32).toInt32) &&& (3 : Int32)) = (3 : Int32)) :
    ∃ (T' : State), Stand p l e R s m args below meth c T' locs cells slots ∧ T'.heap = h0 ∧
      ∀ target, Steps p.tables e below (T'.setTop (mkF m 47 #[.val (.int i0), .val (.long j1), .second, s3, s4, .val (.long (j1 - (1 : Int64))), .second, .val (.int (((i0.toUInt32 >>> ((2 : Int32) &&& 31).toUInt32).toInt32) &&& (3 : Int32))), s8, s9, s10, s11, s12] [])) target → Steps p.tables e below (T0.setTop (mkF m 3 #[.val (.int i0), .val (.long j1), .second, s3, s4, .val (.long j5), .second, s7, s8, s9, s10, s11, s12] [])) target := by
  refine ⟨T0, X0, e0, fun target kt => ?_⟩
  show Steps p.tables e below (T0.setTop (mkF m 3 #[.val (.int i0), .val (.long j1), .second, s3, s4, .val (.long j5), .second, s7, s8, s9, s10, s11, s12] [])) _
  refine XS.iloadN X0.here hx rfl (hb hby at_3) rfl ?_
  show Steps p.tables e below (T0.setTop (mkF m 4 #[.val (.int i0), .val (.long j1), .second, s3, s4, .val (.long j5), .second, s7, s8, s9, s10, s11, s12] [(.int i0)])) _
  refine XS.iconst X0.here hx rfl (hb hby at_4) ?_
  show Steps p.tables e below (T0.setTop (mkF m 5 #[.val (.int i0), .val (.long j1), .second, s3, s4, .val (.long j5), .second, s7, s8, s9, s10, s11, s12] [(.int (2 : Int32)), (.int i0)])) _
  refine XS.iushr X0.here hx rfl (hb hby at_5) rfl ?_
  show Steps p.tables e below (T0.setTop (mkF m 6 #[.val (.int i0), .val (.long j1), .second, s3, s4, .val (.long j5), .second, s7, s8, s9, s10, s11, s12] [(.int ((i0.toUInt32 >>> ((2 : Int32) &&& 31).toUInt32).toInt32))])) _
  refine XS.iconst X0.here hx rfl (hb hby at_6) ?_
  show Steps p.tables e below (T0.setTop (mkF m 7 #[.val (.int i0), .val (.long j1), .second, s3, s4, .val (.long j5), .second, s7, s8, s9, s10, s11, s12] [(.int (3 : Int32)), (.int ((i0.toUInt32 >>> ((2 : Int32) &&& 31).toUInt32).toInt32))])) _
  refine XS.iand X0.here hx rfl (hb hby at_7) rfl ?_
  show Steps p.tables e below (T0.setTop (mkF m 8 #[.val (.int i0), .val (.long j1), .second, s3, s4, .val (.long j5), .second, s7, s8, s9, s10, s11, s12] [(.int (((i0.toUInt32 >>> ((2 : Int32) &&& 31).toUInt32).toInt32) &&& (3 : Int32)))])) _
  refine XS.istore X0.here hx rfl (hb hby at_8) rfl (l' := #[.val (.int i0), .val (.long j1), .second, s3, s4, .val (.long j5), .second, .val (.int (((i0.toUInt32 >>> ((2 : Int32) &&& 31).toUInt32).toInt32) &&& (3 : Int32))), s8, s9, s10, s11, s12]) (os_own_A3_8 hs7) ?_
  show Steps p.tables e below (T0.setTop (mkF m 10 #[.val (.int i0), .val (.long j1), .second, s3, s4, .val (.long j5), .second, .val (.int (((i0.toUInt32 >>> ((2 : Int32) &&& 31).toUInt32).toInt32) &&& (3 : Int32))), s8, s9, s10, s11, s12] [])) _
  refine XS.iload X0.here hx rfl (hb hby at_10) rfl ?_
  show Steps p.tables e below (T0.setTop (mkF m 12 #[.val (.int i0), .val (.long j1), .second, s3, s4, .val (.long j5), .second, .val (.int (((i0.toUInt32 >>> ((2 : Int32) &&& 31).toUInt32).toInt32) &&& (3 : Int32))), s8, s9, s10, s11, s12] [(.int (((i0.toUInt32 >>> ((2 : Int32) &&& 31).toUInt32).toInt32) &&& (3 : Int32)))])) _
  refine XS.iconst X0.here hx rfl (hb hby at_12) ?_
  show Steps p.tables e below (T0.setTop (mkF m 13 #[.val (.int i0), .val (.long j1), .second, s3, s4, .val (.long j5), .second, .val (.int (((i0.toUInt32 >>> ((2 : Int32) &&& 31).toUInt32).toInt32) &&& (3 : Int32))), s8, s9, s10, s11, s12] [(.int (1 : Int32)), (.int (((i0.toUInt32 >>> ((2 : Int32) &&& 31).toUInt32).toInt32) &&& (3 : Int32)))])) _
  refine XS.icmpYes X0.here hx rfl (pc0 := 13) (pc' := 22) rfl (hb hby at_13) rfl (feq hc13).2 (by decide) (by decide) ?_
  show Steps p.tables e below (T0.setTop (mkF m 22 #[.val (.int i0), .val (.long j1), .second, s3, s4, .val (.long j5), .second, .val (.int (((i0.toUInt32 >>> ((2 : Int32) &&& 31).toUInt32).toInt32) &&& (3 : Int32))), s8, s9, s10, s11, s12] [])) _
  refine XS.iload X0.here hx rfl (hb hby at_22) rfl ?_
  show Steps p.tables e below (T0.setTop (mkF m 24 #[.val (.int i0), .val (.long j1), .second, s3, s4, .val (.long j5), .second, .val (.int (((i0.toUInt32 >>> ((2 : Int32) &&& 31).toUInt32).toInt32) &&& (3 : Int32))), s8, s9, s10, s11, s12] [(.int (((i0.toUInt32 >>> ((2 : Int32) &&& 31).toUInt32).toInt32) &&& (3 : Int32)))])) _
  refine XS.iconst X0.here hx rfl (hb hby at_24) ?_
  show Steps p.tables e below (T0.setTop (mkF m 25 #[.val (.int i0), .val (.long j1), .second, s3, s4, .val (.long j5), .second, .val (.int (((i0.toUInt32 >>> ((2 : Int32) &&& 31).toUInt32).toInt32) &&& (3 : Int32))), s8, s9, s10, s11, s12] [(.int (2 : Int32)), (.int (((i0.toUInt32 >>> ((2 : Int32) &&& 31).toUInt32).toInt32) &&& (3 : Int32)))])) _
  refine XS.icmpYes X0.here hx rfl (pc0 := 25) (pc' := 36) rfl (hb hby at_25) rfl (feq hc25).2 (by decide) (by decide) ?_
  show Steps p.tables e below (T0.setTop (mkF m 36 #[.val (.int i0), .val (.long j1), .second, s3, s4, .val (.long j5), .second, .val (.int (((i0.toUInt32 >>> ((2 : Int32) &&& 31).toUInt32).toInt32) &&& (3 : Int32))), s8, s9, s10, s11, s12] [])) _
  refine XS.iload X0.here hx rfl (hb hby at_36) rfl ?_
  show Steps p.tables e below (T0.setTop (mkF m 38 #[.val (.int i0), .val (.long j1), .second, s3, s4, .val (.long j5), .second, .val (.int (((i0.toUInt32 >>> ((2 : Int32) &&& 31).toUInt32).toInt32) &&& (3 : Int32))), s8, s9, s10, s11, s12] [(.int (((i0.toUInt32 >>> ((2 : Int32) &&& 31).toUInt32).toInt32) &&& (3 : Int32)))])) _
  refine XS.iconst X0.here hx rfl (hb hby at_38) ?_
  show Steps p.tables e below (T0.setTop (mkF m 39 #[.val (.int i0), .val (.long j1), .second, s3, s4, .val (.long j5), .second, .val (.int (((i0.toUInt32 >>> ((2 : Int32) &&& 31).toUInt32).toInt32) &&& (3 : Int32))), s8, s9, s10, s11, s12] [(.int (3 : Int32)), (.int (((i0.toUInt32 >>> ((2 : Int32) &&& 31).toUInt32).toInt32) &&& (3 : Int32)))])) _
  refine XS.icmpNo X0.here hx rfl (hb hby at_39) rfl (teq hc39).2 ?_
  show Steps p.tables e below (T0.setTop (mkF m 42 #[.val (.int i0), .val (.long j1), .second, s3, s4, .val (.long j5), .second, .val (.int (((i0.toUInt32 >>> ((2 : Int32) &&& 31).toUInt32).toInt32) &&& (3 : Int32))), s8, s9, s10, s11, s12] [])) _
  refine XS.lloadN X0.here hx rfl (hb hby at_42) rfl ?_
  show Steps p.tables e below (T0.setTop (mkF m 43 #[.val (.int i0), .val (.long j1), .second, s3, s4, .val (.long j5), .second, .val (.int (((i0.toUInt32 >>> ((2 : Int32) &&& 31).toUInt32).toInt32) &&& (3 : Int32))), s8, s9, s10, s11, s12] [(.long j1)])) _
  refine XS.lconst X0.here hx rfl (hb hby at_43) ?_
  show Steps p.tables e below (T0.setTop (mkF m 44 #[.val (.int i0), .val (.long j1), .second, s3, s4, .val (.long j5), .second, .val (.int (((i0.toUInt32 >>> ((2 : Int32) &&& 31).toUInt32).toInt32) &&& (3 : Int32))), s8, s9, s10, s11, s12] [(.long (1 : Int64)), (.long j1)])) _
  refine XS.lsub X0.here hx rfl (hb hby at_44) rfl ?_
  show Steps p.tables e below (T0.setTop (mkF m 45 #[.val (.int i0), .val (.long j1), .second, s3, s4, .val (.long j5), .second, .val (.int (((i0.toUInt32 >>> ((2 : Int32) &&& 31).toUInt32).toInt32) &&& (3 : Int32))), s8, s9, s10, s11, s12] [(.long (j1 - (1 : Int64)))])) _
  refine XS.lstore X0.here hx rfl (hb hby at_45) rfl (l' := #[.val (.int i0), .val (.long j1), .second, s3, s4, .val (.long (j1 - (1 : Int64))), .second, .val (.int (((i0.toUInt32 >>> ((2 : Int32) &&& 31).toUInt32).toInt32) &&& (3 : Int32))), s8, s9, s10, s11, s12]) rfl ?_
  exact kt
set_option maxRecDepth 65536 in
set_option maxHeartbeats 40000000 in
theorem own_A0 {p : Program} {l : Launch} {e : Env} {R : Room} {s : State} {m : MethodId} {args : Array Value} {below : List Frame} {meth : Method} {c : Code} {T0 : State} {locs : List Loc} {cells slots : Nat} {Z : State} {a0 : Array Value} {h0 : Heap} (i0 : Int32) (s1 : Slot) (s2 : Slot) (s3 : Slot) (s4 : Slot) (j5 : Int64) (s7 : Slot) (s8 : Slot) (s9 : Slot) (s10 : Slot) (s11 : Slot) (s12 : Slot)
    (X0 : Stand p l e R s m args below meth c T0 locs cells slots) (hx : p.tables.exec = Jvm.exec) (hZ : Z.Warmed39 s.vm) (hw : ∀ d ∈ tables_1, d.before a0 Z = true) (hby : c.code = code) (hml : c.maxLocals = 13) (hown : s.vm.findClass "com/example/sanction/sanction/language/OperatorHoldsPinLaw" = some m.cls) (e0 : T0.heap = h0) (hs7 : One s7) (hc13 : ¬ ((((i0.toUInt32 >>> ((2 : Int32) &&& 31).toUInt32).toInt32) &&& (3 : Int32)) = (1 : Int32))) (hc25 : ¬ ((((i0.toUInt32 >>> ((2 : Int32) &&& 31).toUInt32).toInt32) &&& (3 : Int32)) = (2 : Int32))) (hc39 : ¬ ((((i0.toUInt32 >>> ((2 : Int32) &&& 31).toUInt32).toInt32) &&& (3 : Int32)) = (3 : Int32))) :
    ∃ (T' : State), Stand p l e R s m args below meth c T' locs cells slots ∧ T'.heap = h0 ∧
      ∀ target, Steps p.tables e below (T'.setTop (mkF m 47 #[.val (.int i0), s1, s2, s3, s4, .val (.long j5), .second, .val (.int (((i0.toUInt32 >>> ((2 : Int32) &&& 31).toUInt32).toInt32) &&& (3 : Int32))), s8, s9, s10, s11, s12] [])) target → Steps p.tables e below (T0.setTop (mkF m 3 #[.val (.int i0), s1, s2, s3, s4, .val (.long j5), .second, s7, s8, s9, s10, s11, s12] [])) target := by
  refine ⟨T0, X0, e0, fun target kt => ?_⟩
  show Steps p.tables e below (T0.setTop (mkF m 3 #[.val (.int i0), s1, s2, s3, s4, .val (.long j5), .second, s7, s8, s9, s10, s11, s12] [])) _
  refine XS.iloadN X0.here hx rfl (hb hby at_3) rfl ?_
  show Steps p.tables e below (T0.setTop (mkF m 4 #[.val (.int i0), s1, s2, s3, s4, .val (.long j5), .second, s7, s8, s9, s10, s11, s12] [(.int i0)])) _
  refine XS.iconst X0.here hx rfl (hb hby at_4) ?_
  show Steps p.tables e below (T0.setTop (mkF m 5 #[.val (.int i0), s1, s2, s3, s4, .val (.long j5), .second, s7, s8, s9, s10, s11, s12] [(.int (2 : Int32)), (.int i0)])) _
  refine XS.iushr X0.here hx rfl (hb hby at_5) rfl ?_
  show Steps p.tables e below (T0.setTop (mkF m 6 #[.val (.int i0), s1, s2, s3, s4, .val (.long j5), .second, s7, s8, s9, s10, s11, s12] [(.int ((i0.toUInt32 >>> ((2 : Int32) &&& 31).toUInt32).toInt32))])) _
  refine XS.iconst X0.here hx rfl (hb hby at_6) ?_
  show Steps p.tables e below (T0.setTop (mkF m 7 #[.val (.int i0), s1, s2, s3, s4, .val (.long j5), .second, s7, s8, s9, s10, s11, s12] [(.int (3 : Int32)), (.int ((i0.toUInt32 >>> ((2 : Int32) &&& 31).toUInt32).toInt32))])) _
  refine XS.iand X0.here hx rfl (hb hby at_7) rfl ?_
  show Steps p.tables e below (T0.setTop (mkF m 8 #[.val (.int i0), s1, s2, s3, s4, .val (.long j5), .second, s7, s8, s9, s10, s11, s12] [(.int (((i0.toUInt32 >>> ((2 : Int32) &&& 31).toUInt32).toInt32) &&& (3 : Int32)))])) _
  refine XS.istore X0.here hx rfl (hb hby at_8) rfl (l' := #[.val (.int i0), s1, s2, s3, s4, .val (.long j5), .second, .val (.int (((i0.toUInt32 >>> ((2 : Int32) &&& 31).toUInt32).toInt32) &&& (3 : Int32))), s8, s9, s10, s11, s12]) (os_own_A0_8 hs7) ?_
  show Steps p.tables e below (T0.setTop (mkF m 10 #[.val (.int i0), s1, s2, s3, s4, .val (.long j5), .second, .val (.int (((i0.toUInt32 >>> ((2 : Int32) &&& 31).toUInt32).toInt32) &&& (3 : Int32))), s8, s9, s10, s11, s12] [])) _
  refine XS.iload X0.here hx rfl (hb hby at_10) rfl ?_
  show Steps p.tables e below (T0.setTop (mkF m 12 #[.val (.int i0), s1, s2, s3, s4, .val (.long j5), .second, .val (.int (((i0.toUInt32 >>> ((2 : Int32) &&& 31).toUInt32).toInt32) &&& (3 : Int32))), s8, s9, s10, s11, s12] [(.int (((i0.toUInt32 >>> ((2 : Int32) &&& 31).toUInt32).toInt32) &&& (3 : Int32)))])) _
  refine XS.iconst X0.here hx rfl (hb hby at_12) ?_
  show Steps p.tables e below (T0.setTop (mkF m 13 #[.val (.int i0), s1, s2, s3, s4, .val (.long j5), .second, .val (.int (((i0.toUInt32 >>> ((2 : Int32) &&& 31).toUInt32).toInt32) &&& (3 : Int32))), s8, s9, s10, s11, s12] [(.int (1 : Int32)), (.int (((i0.toUInt32 >>> ((2 : Int32) &&& 31).toUInt32).toInt32) &&& (3 : Int32)))])) _
  refine XS.icmpYes X0.here hx rfl (pc0 := 13) (pc' := 22) rfl (hb hby at_13) rfl (feq hc13).2 (by decide) (by decide) ?_
  show Steps p.tables e below (T0.setTop (mkF m 22 #[.val (.int i0), s1, s2, s3, s4, .val (.long j5), .second, .val (.int (((i0.toUInt32 >>> ((2 : Int32) &&& 31).toUInt32).toInt32) &&& (3 : Int32))), s8, s9, s10, s11, s12] [])) _
  refine XS.iload X0.here hx rfl (hb hby at_22) rfl ?_
  show Steps p.tables e below (T0.setTop (mkF m 24 #[.val (.int i0), s1, s2, s3, s4, .val (.long j5), .second, .val (.int (((i0.toUInt32 >>> ((2 : Int32) &&& 31).toUInt32).toInt32) &&& (3 : Int32))), s8, s9, s10, s11, s12] [(.int (((i0.toUInt32 >>> ((2 : Int32) &&& 31).toUInt32).toInt32) &&& (3 : Int32)))])) _
  refine XS.iconst X0.here hx rfl (hb hby at_24) ?_
  show Steps p.tables e below (T0.setTop (mkF m 25 #[.val (.int i0), s1, s2, s3, s4, .val (.long j5), .second, .val (.int (((i0.toUInt32 >>> ((2 : Int32) &&& 31).toUInt32).toInt32) &&& (3 : Int32))), s8, s9, s10, s11, s12] [(.int (2 : Int32)), (.int (((i0.toUInt32 >>> ((2 : Int32) &&& 31).toUInt32).toInt32) &&& (3 : Int32)))])) _
  refine XS.icmpYes X0.here hx rfl (pc0 := 25) (pc' := 36) rfl (hb hby at_25) rfl (feq hc25).2 (by decide) (by decide) ?_
  show Steps p.tables e below (T0.setTop (mkF m 36 #[.val (.int i0), s1, s2, s3, s4, .val (.long j5), .second, .val (.int (((i0.toUInt32 >>> ((2 : Int32) &&& 31).toUInt32).toInt32) &&& (3 : Int32))), s8, s9, s10, s11, s12] [])) _
  refine XS.iload X0.here hx rfl (hb hby at_36) rfl ?_
  show Steps p.tables e below (T0.setTop (mkF m 38 #[.val (.int i0), s1, s2, s3, s4, .val (.long j5), .second, .val (.int (((i0.toUInt32 >>> ((2 : Int32) &&& 31).toUInt32).toInt32) &&& (3 : Int32))), s8, s9, s10, s11, s12] [(.int (((i0.toUInt32 >>> ((2 : Int32) &&& 31).toUInt32).toInt32) &&& (3 : Int32)))])) _
  refine XS.iconst X0.here hx rfl (hb hby at_38) ?_
  show Steps p.tables e below (T0.setTop (mkF m 39 #[.val (.int i0), s1, s2, s3, s4, .val (.long j5), .second, .val (.int (((i0.toUInt32 >>> ((2 : Int32) &&& 31).toUInt32).toInt32) &&& (3 : Int32))), s8, s9, s10, s11, s12] [(.int (3 : Int32)), (.int (((i0.toUInt32 >>> ((2 : Int32) &&& 31).toUInt32).toInt32) &&& (3 : Int32)))])) _
  refine XS.icmpYes X0.here hx rfl (pc0 := 39) (pc' := 47) rfl (hb hby at_39) rfl (feq hc39).2 (by decide) (by decide) ?_
  exact kt
set_option maxRecDepth 65536 in
set_option maxHeartbeats 40000000 in
theorem own_B0 {p : Program} {l : Launch} {e : Env} {R : Room} {s : State} {m : MethodId} {args : Array Value} {below : List Frame} {meth : Method} {c : Code} {T0 : State} {locs : List Loc} {cells slots : Nat} {Z : State} {a0 : Array Value} {h0 : Heap} (i0 : Int32) (s1 : Slot) (s2 : Slot) (s3 : Slot) (s4 : Slot) (s5 : Slot) (s6 : Slot) (s7 : Slot) (s8 : Slot) (s9 : Slot) (s10 : Slot) (s11 : Slot) (s12 : Slot) (w4 : Addr)
    (X0 : Stand p l e R s m args below meth c T0 locs cells slots) (hx : p.tables.exec = Jvm.exec) (hZ : Z.Warmed39 s.vm) (hw : ∀ d ∈ tables_1, d.before a0 Z = true) (hby : c.code = code) (hml : c.maxLocals = 13) (hown : s.vm.findClass "com/example/sanction/sanction/language/OperatorHoldsPinLaw" = some m.cls) (e0 : T0.heap = h0) (hs8 : One s8) (S_LESS : Sta Z h0 "com/example/sanction/sanction/language/Comparison$Operator" "LESS" "Lcom/example/sanction/sanction/language/Comparison$Operator;" (.ref w4)) (hs9 : One s9) (hc54 : (i0 &&& (3 : Int32)) = (0 : Int32)) :
    ∃ (T' : State), Stand p l e R s m args below meth c T' locs cells slots ∧ T'.heap = h0 ∧
      ∀ target, Steps p.tables e below (T'.setTop (mkF m 98 #[.val (.int i0), s1, s2, s3, s4, s5, s6, s7, .val (.int (i0 &&& (3 : Int32))), .val (.ref w4), s10, s11, s12] [])) target → Steps p.tables e below (T0.setTop (mkF m 47 #[.val (.int i0), s1, s2, s3, s4, s5, s6, s7, s8, s9, s10, s11, s12] [])) target := by
  obtain ⟨T5, X5, e5, st5⟩ := getS2 X0 hx hZ hown (host := "") (Or.inl (hw _ (List.mem_of_getElem? (i := 0) rfl))) Via.refl e0 S_LESS (g := (mkF m 57 #[.val (.int i0), s1, s2, s3, s4, s5, s6, s7, .val (.int (i0 &&& (3 : Int32))), s9, s10, s11, s12] [])) rfl (hb hby at_57)
  refine ⟨T5, X5, e5, fun target kt => ?_⟩
  show Steps p.tables e below (T0.setTop (mkF m 47 #[.val (.int i0), s1, s2, s3, s4, s5, s6, s7, s8, s9, s10, s11, s12] [])) _
  refine XS.iloadN X0.here hx rfl (hb hby at_47) rfl ?_
  show Steps p.tables e below (T0.setTop (mkF m 48 #[.val (.int i0), s1, s2, s3, s4, s5, s6, s7, s8, s9, s10, s11, s12] [(.int i0)])) _
  refine XS.iconst X0.here hx rfl (hb hby at_48) ?_
  show Steps p.tables e below (T0.setTop (mkF m 49 #[.val (.int i0), s1, s2, s3, s4, s5, s6, s7, s8, s9, s10, s11, s12] [(.int (3 : Int32)), (.int i0)])) _
  refine XS.iand X0.here hx rfl (hb hby at_49) rfl ?_
  show Steps p.tables e below (T0.setTop (mkF m 50 #[.val (.int i0), s1, s2, s3, s4, s5, s6, s7, s8, s9, s10, s11, s12] [(.int (i0 &&& (3 : Int32)))])) _
  refine XS.istore X0.here hx rfl (hb hby at_50) rfl (l' := #[.val (.int i0), s1, s2, s3, s4, s5, s6, s7, .val (.int (i0 &&& (3 : Int32))), s9, s10, s11, s12]) (os_own_B0_50 hs8) ?_
  show Steps p.tables e below (T0.setTop (mkF m 52 #[.val (.int i0), s1, s2, s3, s4, s5, s6, s7, .val (.int (i0 &&& (3 : Int32))), s9, s10, s11, s12] [])) _
  refine XS.iload X0.here hx rfl (hb hby at_52) rfl ?_
  show Steps p.tables e below (T0.setTop (mkF m 54 #[.val (.int i0), s1, s2, s3, s4, s5, s6, s7, .val (.int (i0 &&& (3 : Int32))), s9, s10, s11, s12] [(.int (i0 &&& (3 : Int32)))])) _
  refine XS.ifNo X0.here hx rfl (hb hby at_54) rfl ((if0 _ _).trans (teq hc54).2) ?_
  show Steps p.tables e below (T0.setTop (mkF m 57 #[.val (.int i0), s1, s2, s3, s4, s5, s6, s7, .val (.int (i0 &&& (3 : Int32))), s9, s10, s11, s12] [])) _
  refine st5 _ ?_
  show Steps p.tables e below (T5.setTop (mkF m 60 #[.val (.int i0), s1, s2, s3, s4, s5, s6, s7, .val (.int (i0 &&& (3 : Int32))), s9, s10, s11, s12] [(.ref w4)])) _
  refine XS.astore X5.here hx rfl (hb hby at_60) rfl rfl (l' := #[.val (.int i0), s1, s2, s3, s4, s5, s6, s7, .val (.int (i0 &&& (3 : Int32))), .val (.ref w4), s10, s11, s12]) (os_own_B0_60 hs9) ?_
  show Steps p.tables e below (T5.setTop (mkF m 62 #[.val (.int i0), s1, s2, s3, s4, s5, s6, s7, .val (.int (i0 &&& (3 : Int32))), .val (.ref w4), s10, s11, s12] [])) _
  refine XS.goto X5.here hx rfl (pc0 := 62) (pc' := 98) rfl (hb hby at_62) (by decide) (by decide) ?_
  exact kt
set_option maxRecDepth 65536 in
set_option maxHeartbeats 40000000 in
theorem own_B1 {p : Program} {l : Launch} {e : Env} {R : Room} {s : State} {m : MethodId} {args : Array Value} {below : List Frame} {meth : Method} {c : Code} {T0 : State} {locs : List Loc} {cells slots : Nat} {Z : State} {a0 : Array Value} {h0 : Heap} (i0 : Int32) (s1 : Slot) (s2 : Slot) (s3 : Slot) (s4 : Slot) (s5 : Slot) (s6 : Slot) (s7 : Slot) (s8 : Slot) (s9 : Slot) (s10 : Slot) (s11 : Slot) (s12 : Slot) (w4 : Addr)
    (X0 : Stand p l e R s m args below meth c T0 locs cells slots) (hx : p.tables.exec = Jvm.exec) (hZ : Z.Warmed39 s.vm) (hw : ∀ d ∈ tables_1, d.before a0 Z = true) (hby : c.code = code) (hml : c.maxLocals = 13) (hown : s.vm.findClass "com/example/sanction/sanction/language/OperatorHoldsPinLaw" = some m.cls) (e0 : T0.heap = h0) (hs8 : One s8) (S_LESS_EQUAL : Sta Z h0 "com/example/sanction/sanction/language/Comparison$Operator" "LESS_EQUAL" "Lcom/example/sanction/sanction/language/Comparison$Operator;" (.ref w4)) (hs9 : One s9) (hc54 : ¬ ((i0 &&& (3 : Int32)) = (0 : Int32))) (hc68 : (i0 &&& (3 : Int32)) = (1 : Int32)) :
    ∃ (T' : State), Stand p l e R s m args below meth c T' locs cells slots ∧ T'.heap = h0 ∧
      ∀ target, Steps p.tables e below (T'.setTop (mkF m 98 #[.val (.int i0), s1, s2, s3, s4, s5, s6, s7, .val (.int (i0 &&& (3 : Int32))), .val (.ref w4), s10, s11, s12] [])) target → Steps p.tables e below (T0.setTop (mkF m 47 #[.val (.int i0), s1, s2, s3, s4, s5, s6, s7, s8, s9, s10, s11, s12] [])) target := by
  obtain ⟨T5, X5, e5, st5⟩ := getS2 X0 hx hZ hown (host := "") (Or.inl (hw _ (List.mem_of_getElem? (i := 21) rfl))) Via.refl e0 S_LESS_EQUAL (g := (mkF m 71 #[.val (.int i0), s1, s2, s3, s4, s5, s6, s7, .val (.int (i0 &&& (3 : Int32))), s9, s10, s11, s12] [])) rfl (hb hby at_71)
  refine ⟨T5, X5, e5, fun target kt => ?_⟩
  show Steps p.tables e below (T0.setTop (mkF m 47 #[.val (.int i0), s1, s2, s3, s4, s5, s6, s7, s8, s9, s10, s11, s12] [])) _
  refine XS.iloadN X0.here hx rfl (hb hby at_47) rfl ?_
  show Steps p.tables e below (T0.setTop (mkF m 48 #[.val (.int i0), s1, s2, s3, s4, s5, s6, s7, s8, s9, s10, s11, s12] [(.int i0)])) _
  refine XS.iconst X0.here hx rfl (hb hby at_48) ?_
  show Steps p.tables e below (T0.setTop (mkF m 49 #[.val (.int i0), s1, s2, s3, s4, s5, s6, s7, s8, s9, s10, s11, s12] [(.int (3 : Int32)), (.int i0)])) _
  refine XS.iand X0.here hx rfl (hb hby at_49) rfl ?_
  show Steps p.tables e below (T0.setTop (mkF m 50 #[.val (.int i0), s1, s2, s3, s4, s5, s6, s7, s8, s9, s10, s11, s12] [(.int (i0 &&& (3 : Int32)))])) _
  refine XS.istore X0.here hx rfl (hb hby at_50) rfl (l' := #[.val (.int i0), s1, s2, s3, s4, s5, s6, s7, .val (.int (i0 &&& (3 : Int32))), s9, s10, s11, s12]) (os_own_B1_50 hs8) ?_
  show Steps p.tables e below (T0.setTop (mkF m 52 #[.val (.int i0), s1, s2, s3, s4, s5, s6, s7, .val (.int (i0 &&& (3 : Int32))), s9, s10, s11, s12] [])) _
  refine XS.iload X0.here hx rfl (hb hby at_52) rfl ?_
  show Steps p.tables e below (T0.setTop (mkF m 54 #[.val (.int i0), s1, s2, s3, s4, s5, s6, s7, .val (.int (i0 &&& (3 : Int32))), s9, s10, s11, s12] [(.int (i0 &&& (3 : Int32)))])) _
  refine XS.ifYes X0.here hx rfl (pc0 := 54) (pc' := 65) rfl (hb hby at_54) rfl ((if0 _ _).trans (feq hc54).2) (by decide) (by decide) ?_
  show Steps p.tables e below (T0.setTop (mkF m 65 #[.val (.int i0), s1, s2, s3, s4, s5, s6, s7, .val (.int (i0 &&& (3 : Int32))), s9, s10, s11, s12] [])) _
  refine XS.iload X0.here hx rfl (hb hby at_65) rfl ?_
  show Steps p.tables e below (T0.setTop (mkF m 67 #[.val (.int i0), s1, s2, s3, s4, s5, s6, s7, .val (.int (i0 &&& (3 : Int32))), s9, s10, s11, s12] [(.int (i0 &&& (3 : Int32)))])) _
  refine XS.iconst X0.here hx rfl (hb hby at_67) ?_
  show Steps p.tables e below (T0.setTop (mkF m 68 #[.val (.int i0), s1, s2, s3, s4, s5, s6, s7, .val (.int (i0 &&& (3 : Int32))), s9, s10, s11, s12] [(.int (1 : Int32)), (.int (i0 &&& (3 : Int32)))])) _
  refine XS.icmpNo X0.here hx rfl (hb hby at_68) rfl (teq hc68).2 ?_
  show Steps p.tables e below (T0.setTop (mkF m 71 #[.val (.int i0), s1, s2, s3, s4, s5, s6, s7, .val (.int (i0 &&& (3 : Int32))), s9, s10, s11, s12] [])) _
  refine st5 _ ?_
  show Steps p.tables e below (T5.setTop (mkF m 74 #[.val (.int i0), s1, s2, s3, s4, s5, s6, s7, .val (.int (i0 &&& (3 : Int32))), s9, s10, s11, s12] [(.ref w4)])) _
  refine XS.astore X5.here hx rfl (hb hby at_74) rfl rfl (l' := #[.val (.int i0), s1, s2, s3, s4, s5, s6, s7, .val (.int (i0 &&& (3 : Int32))), .val (.ref w4), s10, s11, s12]) (os_own_B1_74 hs9) ?_
  show Steps p.tables e below (T5.setTop (mkF m 76 #[.val (.int i0), s1, s2, s3, s4, s5, s6, s7, .val (.int (i0 &&& (3 : Int32))), .val (.ref w4), s10, s11, s12] [])) _
  refine XS.goto X5.here hx rfl (pc0 := 76) (pc' := 98) rfl (hb hby at_76) (by decide) (by decide) ?_
  exact kt
set_option maxRecDepth 65536 in
set_option maxHeartbeats 40000000 in
theorem own_B2 {p : Program} {l : Launch} {e : Env} {R : Room} {s : State} {m : MethodId} {args : Array Value} {below : List Frame} {meth : Method} {c : Code} {T0 : State} {locs : List Loc} {cells slots : Nat} {Z : State} {a0 : Array Value} {h0 : Heap} (i0 : Int32) (s1 : Slot) (s2 : Slot) (s3 : Slot) (s4 : Slot) (s5 : Slot) (s6 : Slot) (s7 : Slot) (s8 : Slot) (s9 : Slot) (s10 : Slot) (s11 : Slot) (s12 : Slot) (w4 : Addr)
    (X0 : Stand p l e R s m args below meth c T0 locs cells slots) (hx : p.tables.exec = Jvm.exec) (hZ : Z.Warmed39 s.vm) (hw : ∀ d ∈ tables_1, d.before a0 Z = true) (hby : c.code = code) (hml : c.maxLocals = 13) (hown : s.vm.findClass "com/example/sanction/sanction/language/OperatorHoldsPinLaw" = some m.cls) (e0 : T0.heap = h0) (hs8 : One s8) (S_GREATER : Sta Z h0 "com/example/sanction/sanction/language/Comparison$Operator" "GREATER" "Lcom/example/sanction/sanction/language/Comparison$Operator;" (.ref w4)) (hs9 : One s9) (hc54 : ¬ ((i0 &&& (3 : Int32)) = (0 : Int32))) (hc68 : ¬ ((i0 &&& (3 : Int32)) = (1 : Int32))) (hc82 : (i0 &&& (3 : Int32)) = (2 : Int32)) :
    ∃ (T' : State), Stand p l e R s m args below meth c T' locs cells slots ∧ T'.heap = h0 ∧
      ∀ target, Steps p.tables e below (T'.setTop (mkF m 98 #[.val (.int i0), s1, s2, s3, s4, s5, s6, s7, .val (.int (i0 &&& (3 : Int32))), .val (.ref w4), s10, s11, s12] [])) target → Steps p.tables e below (T0.setTop (mkF m 47 #[.val (.int i0), s1, s2, s3, s4, s5, s6, s7, s8, s9, s10, s11, s12] [])) target := by
  obtain ⟨T5, X5, e5, st5⟩ := getS2 X0 hx hZ hown (host := "") (Or.inl (hw _ (List.mem_of_getElem? (i := 17) rfl))) Via.refl e0 S_GREATER (g := (mkF m 85 #[.val (.int i0), s1, s2, s3, s4, s5, s6, s7, .val (.int (i0 &&& (3 : Int32))), s9, s10, s11, s12] [])) rfl (hb hby at_85)
  refine ⟨T5, X5, e5, fun target kt => ?_⟩
  show Steps p.tables e below (T0.setTop (mkF m 47 #[.val (.int i0), s1, s2, s3, s4, s5, s6, s7, s8, s9, s10, s11, s12] [])) _
  refine XS.iloadN X0.here hx rfl (hb hby at_47) rfl ?_
  show Steps p.tables e below (T0.setTop (mkF m 48 #[.val (.int i0), s1, s2, s3, s4, s5, s6, s7, s8, s9, s10, s11, s12] [(.int i0)])) _
  refine XS.iconst X0.here hx rfl (hb hby at_48) ?_
  show Steps p.tables e below (T0.setTop (mkF m 49 #[.val (.int i0), s1, s2, s3, s4, s5, s6, s7, s8, s9, s10, s11, s12] [(.int (3 : Int32)), (.int i0)])) _
  refine XS.iand X0.here hx rfl (hb hby at_49) rfl ?_
  show Steps p.tables e below (T0.setTop (mkF m 50 #[.val (.int i0), s1, s2, s3, s4, s5, s6, s7, s8, s9, s10, s11, s12] [(.int (i0 &&& (3 : Int32)))])) _
  refine XS.istore X0.here hx rfl (hb hby at_50) rfl (l' := #[.val (.int i0), s1, s2, s3, s4, s5, s6, s7, .val (.int (i0 &&& (3 : Int32))), s9, s10, s11, s12]) (os_own_B2_50 hs8) ?_
  show Steps p.tables e below (T0.setTop (mkF m 52 #[.val (.int i0), s1, s2, s3, s4, s5, s6, s7, .val (.int (i0 &&& (3 : Int32))), s9, s10, s11, s12] [])) _
  refine XS.iload X0.here hx rfl (hb hby at_52) rfl ?_
  show Steps p.tables e below (T0.setTop (mkF m 54 #[.val (.int i0), s1, s2, s3, s4, s5, s6, s7, .val (.int (i0 &&& (3 : Int32))), s9, s10, s11, s12] [(.int (i0 &&& (3 : Int32)))])) _
  refine XS.ifYes X0.here hx rfl (pc0 := 54) (pc' := 65) rfl (hb hby at_54) rfl ((if0 _ _).trans (feq hc54).2) (by decide) (by decide) ?_
  show Steps p.tables e below (T0.setTop (mkF m 65 #[.val (.int i0), s1, s2, s3, s4, s5, s6, s7, .val (.int (i0 &&& (3 : Int32))), s9, s10, s11, s12] [])) _
  refine XS.iload X0.here hx rfl (hb hby at_65) rfl ?_
  show Steps p.tables e below (T0.setTop (mkF m 67 #[.val (.int i0), s1, s2, s3, s4, s5, s6, s7, .val (.int (i0 &&& (3 : Int32))), s9, s10, s11, s12] [(.int (i0 &&& (3 : Int32)))])) _
  refine XS.iconst X0.here hx rfl (hb hby at_67) ?_
  show Steps p.tables e below (T0.setTop (mkF m 68 #[.val (.int i0), s1, s2, s3, s4, s5, s6, s7, .val (.int (i0 &&& (3 : Int32))), s9, s10, s11, s12] [(.int (1 : Int32)), (.int (i0 &&& (3 : Int32)))])) _
  refine XS.icmpYes X0.here hx rfl (pc0 := 68) (pc' := 79) rfl (hb hby at_68) rfl (feq hc68).2 (by decide) (by decide) ?_
  show Steps p.tables e below (T0.setTop (mkF m 79 #[.val (.int i0), s1, s2, s3, s4, s5, s6, s7, .val (.int (i0 &&& (3 : Int32))), s9, s10, s11, s12] [])) _
  refine XS.iload X0.here hx rfl (hb hby at_79) rfl ?_
  show Steps p.tables e below (T0.setTop (mkF m 81 #[.val (.int i0), s1, s2, s3, s4, s5, s6, s7, .val (.int (i0 &&& (3 : Int32))), s9, s10, s11, s12] [(.int (i0 &&& (3 : Int32)))])) _
  refine XS.iconst X0.here hx rfl (hb hby at_81) ?_
  show Steps p.tables e below (T0.setTop (mkF m 82 #[.val (.int i0), s1, s2, s3, s4, s5, s6, s7, .val (.int (i0 &&& (3 : Int32))), s9, s10, s11, s12] [(.int (2 : Int32)), (.int (i0 &&& (3 : Int32)))])) _
  refine XS.icmpNo X0.here hx rfl (hb hby at_82) rfl (teq hc82).2 ?_
  show Steps p.tables e below (T0.setTop (mkF m 85 #[.val (.int i0), s1, s2, s3, s4, s5, s6, s7, .val (.int (i0 &&& (3 : Int32))), s9, s10, s11, s12] [])) _
  refine st5 _ ?_
  show Steps p.tables e below (T5.setTop (mkF m 88 #[.val (.int i0), s1, s2, s3, s4, s5, s6, s7, .val (.int (i0 &&& (3 : Int32))), s9, s10, s11, s12] [(.ref w4)])) _
  refine XS.astore X5.here hx rfl (hb hby at_88) rfl rfl (l' := #[.val (.int i0), s1, s2, s3, s4, s5, s6, s7, .val (.int (i0 &&& (3 : Int32))), .val (.ref w4), s10, s11, s12]) (os_own_B2_88 hs9) ?_
  show Steps p.tables e below (T5.setTop (mkF m 90 #[.val (.int i0), s1, s2, s3, s4, s5, s6, s7, .val (.int (i0 &&& (3 : Int32))), .val (.ref w4), s10, s11, s12] [])) _
  refine XS.goto X5.here hx rfl (pc0 := 90) (pc' := 98) rfl (hb hby at_90) (by decide) (by decide) ?_
  exact kt
set_option maxRecDepth 65536 in
set_option maxHeartbeats 40000000 in
theorem own_B3 {p : Program} {l : Launch} {e : Env} {R : Room} {s : State} {m : MethodId} {args : Array Value} {below : List Frame} {meth : Method} {c : Code} {T0 : State} {locs : List Loc} {cells slots : Nat} {Z : State} {a0 : Array Value} {h0 : Heap} (i0 : Int32) (s1 : Slot) (s2 : Slot) (s3 : Slot) (s4 : Slot) (s5 : Slot) (s6 : Slot) (s7 : Slot) (s8 : Slot) (s9 : Slot) (s10 : Slot) (s11 : Slot) (s12 : Slot) (w4 : Addr)
    (X0 : Stand p l e R s m args below meth c T0 locs cells slots) (hx : p.tables.exec = Jvm.exec) (hZ : Z.Warmed39 s.vm) (hw : ∀ d ∈ tables_1, d.before a0 Z = true) (hby : c.code = code) (hml : c.maxLocals = 13) (hown : s.vm.findClass "com/example/sanction/sanction/language/OperatorHoldsPinLaw" = some m.cls) (e0 : T0.heap = h0) (hs8 : One s8) (S_GREATER_EQUAL : Sta Z h0 "com/example/sanction/sanction/language/Comparison$Operator" "GREATER_EQUAL" "Lcom/example/sanction/sanction/language/Comparison$Operator;" (.ref w4)) (hs9 : One s9) (hc54 : ¬ ((i0 &&& (3 : Int32)) = (0 : Int32))) (hc68 : ¬ ((i0 &&& (3 : Int32)) = (1 : Int32))) (hc82 : ¬ ((i0 &&& (3 : Int32)) = (2 : Int32))) :
    ∃ (T' : State), Stand p l e R s m args below meth c T' locs cells slots ∧ T'.heap = h0 ∧
      ∀ target, Steps p.tables e below (T'.setTop (mkF m 98 #[.val (.int i0), s1, s2, s3, s4, s5, s6, s7, .val (.int (i0 &&& (3 : Int32))), .val (.ref w4), s10, s11, s12] [])) target → Steps p.tables e below (T0.setTop (mkF m 47 #[.val (.int i0), s1, s2, s3, s4, s5, s6, s7, s8, s9, s10, s11, s12] [])) target := by
  obtain ⟨T5, X5, e5, st5⟩ := getS2 X0 hx hZ hown (host := "") (Or.inl (hw _ (List.mem_of_getElem? (i := 19) rfl))) Via.refl e0 S_GREATER_EQUAL (g := (mkF m 93 #[.val (.int i0), s1, s2, s3, s4, s5, s6, s7, .val (.int (i0 &&& (3 : Int32))), s9, s10, s11, s12] [])) rfl (hb hby at_93)
  refine ⟨T5, X5, e5, fun target kt => ?_⟩
  show Steps p.tables e below (T0.setTop (mkF m 47 #[.val (.int i0), s1, s2, s3, s4, s5, s6, s7, s8, s9, s10, s11, s12] [])) _
  refine XS.iloadN X0.here hx rfl (hb hby at_47) rfl ?_
  show Steps p.tables e below (T0.setTop (mkF m 48 #[.val (.int i0), s1, s2, s3, s4, s5, s6, s7, s8, s9, s10, s11, s12] [(.int i0)])) _
  refine XS.iconst X0.here hx rfl (hb hby at_48) ?_
  show Steps p.tables e below (T0.setTop (mkF m 49 #[.val (.int i0), s1, s2, s3, s4, s5, s6, s7, s8, s9, s10, s11, s12] [(.int (3 : Int32)), (.int i0)])) _
  refine XS.iand X0.here hx rfl (hb hby at_49) rfl ?_
  show Steps p.tables e below (T0.setTop (mkF m 50 #[.val (.int i0), s1, s2, s3, s4, s5, s6, s7, s8, s9, s10, s11, s12] [(.int (i0 &&& (3 : Int32)))])) _
  refine XS.istore X0.here hx rfl (hb hby at_50) rfl (l' := #[.val (.int i0), s1, s2, s3, s4, s5, s6, s7, .val (.int (i0 &&& (3 : Int32))), s9, s10, s11, s12]) (os_own_B3_50 hs8) ?_
  show Steps p.tables e below (T0.setTop (mkF m 52 #[.val (.int i0), s1, s2, s3, s4, s5, s6, s7, .val (.int (i0 &&& (3 : Int32))), s9, s10, s11, s12] [])) _
  refine XS.iload X0.here hx rfl (hb hby at_52) rfl ?_
  show Steps p.tables e below (T0.setTop (mkF m 54 #[.val (.int i0), s1, s2, s3, s4, s5, s6, s7, .val (.int (i0 &&& (3 : Int32))), s9, s10, s11, s12] [(.int (i0 &&& (3 : Int32)))])) _
  refine XS.ifYes X0.here hx rfl (pc0 := 54) (pc' := 65) rfl (hb hby at_54) rfl ((if0 _ _).trans (feq hc54).2) (by decide) (by decide) ?_
  show Steps p.tables e below (T0.setTop (mkF m 65 #[.val (.int i0), s1, s2, s3, s4, s5, s6, s7, .val (.int (i0 &&& (3 : Int32))), s9, s10, s11, s12] [])) _
  refine XS.iload X0.here hx rfl (hb hby at_65) rfl ?_
  show Steps p.tables e below (T0.setTop (mkF m 67 #[.val (.int i0), s1, s2, s3, s4, s5, s6, s7, .val (.int (i0 &&& (3 : Int32))), s9, s10, s11, s12] [(.int (i0 &&& (3 : Int32)))])) _
  refine XS.iconst X0.here hx rfl (hb hby at_67) ?_
  show Steps p.tables e below (T0.setTop (mkF m 68 #[.val (.int i0), s1, s2, s3, s4, s5, s6, s7, .val (.int (i0 &&& (3 : Int32))), s9, s10, s11, s12] [(.int (1 : Int32)), (.int (i0 &&& (3 : Int32)))])) _
  refine XS.icmpYes X0.here hx rfl (pc0 := 68) (pc' := 79) rfl (hb hby at_68) rfl (feq hc68).2 (by decide) (by decide) ?_
  show Steps p.tables e below (T0.setTop (mkF m 79 #[.val (.int i0), s1, s2, s3, s4, s5, s6, s7, .val (.int (i0 &&& (3 : Int32))), s9, s10, s11, s12] [])) _
  refine XS.iload X0.here hx rfl (hb hby at_79) rfl ?_
  show Steps p.tables e below (T0.setTop (mkF m 81 #[.val (.int i0), s1, s2, s3, s4, s5, s6, s7, .val (.int (i0 &&& (3 : Int32))), s9, s10, s11, s12] [(.int (i0 &&& (3 : Int32)))])) _
  refine XS.iconst X0.here hx rfl (hb hby at_81) ?_
  show Steps p.tables e below (T0.setTop (mkF m 82 #[.val (.int i0), s1, s2, s3, s4, s5, s6, s7, .val (.int (i0 &&& (3 : Int32))), s9, s10, s11, s12] [(.int (2 : Int32)), (.int (i0 &&& (3 : Int32)))])) _
  refine XS.icmpYes X0.here hx rfl (pc0 := 82) (pc' := 93) rfl (hb hby at_82) rfl (feq hc82).2 (by decide) (by decide) ?_
  show Steps p.tables e below (T0.setTop (mkF m 93 #[.val (.int i0), s1, s2, s3, s4, s5, s6, s7, .val (.int (i0 &&& (3 : Int32))), s9, s10, s11, s12] [])) _
  refine st5 _ ?_
  show Steps p.tables e below (T5.setTop (mkF m 96 #[.val (.int i0), s1, s2, s3, s4, s5, s6, s7, .val (.int (i0 &&& (3 : Int32))), s9, s10, s11, s12] [(.ref w4)])) _
  refine XS.astore X5.here hx rfl (hb hby at_96) rfl rfl (l' := #[.val (.int i0), s1, s2, s3, s4, s5, s6, s7, .val (.int (i0 &&& (3 : Int32))), .val (.ref w4), s10, s11, s12]) (os_own_B3_96 hs9) ?_
  exact kt
set_option maxRecDepth 65536 in
set_option maxHeartbeats 40000000 in
theorem own_C00 {p : Program} {l : Launch} {e : Env} {R : Room} {s : State} {m : MethodId} {args : Array Value} {below : List Frame} {meth : Method} {c : Code} {T0 : State} {locs : List Loc} {cells slots : Nat} {Z : State} {a0 : Array Value} {h0 : Heap} (s0 : Slot) (j1 : Int64) (s3 : Slot) (s4 : Slot) (j5 : Int64) (s7 : Slot) (i8 : Int32) (s9 : Slot) (s10 : Slot) (s11 : Slot) (s12 : Slot)
    (X0 : Stand p l e R s m args below meth c T0 locs cells slots) (hx : p.tables.exec = Jvm.exec) (hZ : Z.Warmed39 s.vm) (hw : ∀ d ∈ tables_1, d.before a0 Z = true) (hby : c.code = code) (hml : c.maxLocals = 13) (hown : s.vm.findClass "com/example/sanction/sanction/language/OperatorHoldsPinLaw" = some m.cls) (e0 : T0.heap = h0) (hs10 : One s10) (hs11 : One s11) (hs12 : One s12) (hc102 : (lcmpW j1 j5) < (0 : Int32)) (hc116 : ¬ ((lcmpW j1 j5) = (0 : Int32))) (hc128 : i8 = (0 : Int32)) :
    ∃ (T' : State), Stand p l e R s m args below meth c T' locs cells slots ∧ T'.heap = h0 ∧
      ∀ target, Steps p.tables e below (T'.setTop (mkF m 202 #[s0, .val (.long j1), .second, s3, s4, .val (.long j5), .second, s7, .val (.int i8), s9, .val (.int (1 : Int32)), .val (.int (0 : Int32)), .val (.int (1 : Int32))] [])) target → Steps p.tables e below (T0.setTop (mkF m 98 #[s0, .val (.long j1), .second, s3, s4, .val (.long j5), .second, s7, .val (.int i8), s9, s10, s11, s12] [])) target := by
  refine ⟨T0, X0, e0, fun target kt => ?_⟩
  show Steps p.tables e below (T0.setTop (mkF m 98 #[s0, .val (.long j1), .second, s3, s4, .val (.long j5), .second, s7, .val (.int i8), s9, s10, s11, s12] [])) _
  refine XS.lloadN X0.here hx rfl (hb hby at_98) rfl ?_
  show Steps p.tables e below (T0.setTop (mkF m 99 #[s0, .val (.long j1), .second, s3, s4, .val (.long j5), .second, s7, .val (.int i8), s9, s10, s11, s12] [(.long j1)])) _
  refine XS.lload X0.here hx rfl (hb hby at_99) rfl ?_
  show Steps p.tables e below (T0.setTop (mkF m 101 #[s0, .val (.long j1), .second, s3, s4, .val (.long j5), .second, s7, .val (.int i8), s9, s10, s11, s12] [(.long j5), (.long j1)])) _
  refine XS.lcmp X0.here hx rfl (hb hby at_101) rfl ?_
  show Steps p.tables e below (T0.setTop (mkF m 102 #[s0, .val (.long j1), .second, s3, s4, .val (.long j5), .second, s7, .val (.int i8), s9, s10, s11, s12] [(.int (lcmpW j1 j5))])) _
  refine XS.ifNo X0.here hx rfl (hb hby at_102) rfl ((if0 _ _).trans (tlt hc102).2.1) ?_
  show Steps p.tables e below (T0.setTop (mkF m 105 #[s0, .val (.long j1), .second, s3, s4, .val (.long j5), .second, s7, .val (.int i8), s9, s10, s11, s12] [])) _
  refine XS.iconst X0.here hx rfl (hb hby at_105) ?_
  show Steps p.tables e below (T0.setTop (mkF m 106 #[s0, .val (.long j1), .second, s3, s4, .val (.long j5), .second, s7, .val (.int i8), s9, s10, s11, s12] [(.int (1 : Int32))])) _
  refine XS.goto X0.here hx rfl (pc0 := 106) (pc' := 110) rfl (hb hby at_106) (by decide) (by decide) ?_
  show Steps p.tables e below (T0.setTop (mkF m 110 #[s0, .val (.long j1), .second, s3, s4, .val (.long j5), .second, s7, .val (.int i8), s9, s10, s11, s12] [(.int (1 : Int32))])) _
  refine XS.istore X0.here hx rfl (hb hby at_110) rfl (l' := #[s0, .val (.long j1), .second, s3, s4, .val (.long j5), .second, s7, .val (.int i8), s9, .val (.int (1 : Int32)), s11, s12]) (os_own_C00_110 hs10) ?_
  show Steps p.tables e below (T0.setTop (mkF m 112 #[s0, .val (.long j1), .second, s3, s4, .val (.long j5), .second, s7, .val (.int i8), s9, .val (.int (1 : Int32)), s11, s12] [])) _
  refine XS.lloadN X0.here hx rfl (hb hby at_112) rfl ?_
  show Steps p.tables e below (T0.setTop (mkF m 113 #[s0, .val (.long j1), .second, s3, s4, .val (.long j5), .second, s7, .val (.int i8), s9, .val (.int (1 : Int32)), s11, s12] [(.long j1)])) _
  refine XS.lload X0.here hx rfl (hb hby at_113) rfl ?_
  show Steps p.tables e below (T0.setTop (mkF m 115 #[s0, .val (.long j1), .second, s3, s4, .val (.long j5), .second, s7, .val (.int i8), s9, .val (.int (1 : Int32)), s11, s12] [(.long j5), (.long j1)])) _
  refine XS.lcmp X0.here hx rfl (hb hby at_115) rfl ?_
  show Steps p.tables e below (T0.setTop (mkF m 116 #[s0, .val (.long j1), .second, s3, s4, .val (.long j5), .second, s7, .val (.int i8), s9, .val (.int (1 : Int32)), s11, s12] [(.int (lcmpW j1 j5))])) _
  refine XS.ifYes X0.here hx rfl (pc0 := 116) (pc' := 123) rfl (hb hby at_116) rfl ((if0 _ _).trans (feq hc116).2) (by decide) (by decide) ?_
  show Steps p.tables e below (T0.setTop (mkF m 123 #[s0, .val (.long j1), .second, s3, s4, .val (.long j5), .second, s7, .val (.int i8), s9, .val (.int (1 : Int32)), s11, s12] [])) _
  refine XS.iconst X0.here hx rfl (hb hby at_123) ?_
  show Steps p.tables e below (T0.setTop (mkF m 124 #[s0, .val (.long j1), .second, s3, s4, .val (.long j5), .second, s7, .val (.int i8), s9, .val (.int (1 : Int32)), s11, s12] [(.int (0 : Int32))])) _
  refine XS.istore X0.here hx rfl (hb hby at_124) rfl (l' := #[s0, .val (.long j1), .second, s3, s4, .val (.long j5), .second, s7, .val (.int i8), s9, .val (.int (1 : Int32)), .val (.int (0 : Int32)), s12]) (os_own_C00_124 hs11) ?_
  show Steps p.tables e below (T0.setTop (mkF m 126 #[s0, .val (.long j1), .second, s3, s4, .val (.long j5), .second, s7, .val (.int i8), s9, .val (.int (1 : Int32)), .val (.int (0 : Int32)), s12] [])) _
  refine XS.iload X0.here hx rfl (hb hby at_126) rfl ?_
  show Steps p.tables e below (T0.setTop (mkF m 128 #[s0, .val (.long j1), .second, s3, s4, .val (.long j5), .second, s7, .val (.int i8), s9, .val (.int (1 : Int32)), .val (.int (0 : Int32)), s12] [(.int i8)])) _
  refine XS.ifNo X0.here hx rfl (hb hby at_128) rfl ((if0 _ _).trans (teq hc128).2) ?_
  show Steps p.tables e below (T0.setTop (mkF m 131 #[s0, .val (.long j1), .second, s3, s4, .val (.long j5), .second, s7, .val (.int i8), s9, .val (.int (1 : Int32)), .val (.int (0 : Int32)), s12] [])) _
  refine XS.iload X0.here hx rfl (hb hby at_131) rfl ?_
  show Steps p.tables e below (T0.setTop (mkF m 133 #[s0, .val (.long j1), .second, s3, s4, .val (.long j5), .second, s7, .val (.int i8), s9, .val (.int (1 : Int32)), .val (.int (0 : Int32)), s12] [(.int (1 : Int32))])) _
  refine XS.istore X0.here hx rfl (hb hby at_133) rfl (l' := #[s0, .val (.long j1), .second, s3, s4, .val (.long j5), .second, s7, .val (.int i8), s9, .val (.int (1 : Int32)), .val (.int (0 : Int32)), .val (.int (1 : Int32))]) (os_own_C00_133 hs12) ?_
  show Steps p.tables e below (T0.setTop (mkF m 135 #[s0, .val (.long j1), .second, s3, s4, .val (.long j5), .second, s7, .val (.int i8), s9, .val (.int (1 : Int32)), .val (.int (0 : Int32)), .val (.int (1 : Int32))] [])) _
  refine XS.goto X0.here hx rfl (pc0 := 135) (pc' := 202) rfl (hb hby at_135) (by decide) (by decide) ?_
  exact kt
set_option maxRecDepth 65536 in
set_option maxHeartbeats 40000000 in
theorem own_C01 {p : Program} {l : Launch} {e : Env} {R : Room} {s : State} {m : MethodId} {args : Array Value} {below : List Frame} {meth : Method} {c : Code} {T0 : State} {locs : List Loc} {cells slots : Nat} {Z : State} {a0 : Array Value} {h0 : Heap} (s0 : Slot) (j1 : Int64) (s3 : Slot) (s4 : Slot) (j5 : Int64) (s7 : Slot) (i8 : Int32) (s9 : Slot) (s10 : Slot) (s11 : Slot) (s12 : Slot)
    (X0 : Stand p l e R s m args below meth c T0 locs cells slots) (hx : p.tables.exec = Jvm.exec) (hZ : Z.Warmed39 s.vm) (hw : ∀ d ∈ tables_1, d.before a0 Z = true) (hby : c.code = code) (hml : c.maxLocals = 13) (hown : s.vm.findClass "com/example/sanction/sanction/language/OperatorHoldsPinLaw" = some m.cls) (e0 : T0.heap = h0) (hs10 : One s10) (hs11 : One s11) (hs12 : One s12) (hc102 : ¬ ((lcmpW j1 j5) < (0 : Int32))) (hc116 : (lcmpW j1 j5) = (0 : Int32)) (hc128 : i8 = (0 : Int32)) :
    ∃ (T' : State), Stand p l e R s m args below meth c T' locs cells slots ∧ T'.heap = h0 ∧
      ∀ target, Steps p.tables e below (T'.setTop (mkF m 202 #[s0, .val (.long j1), .second, s3, s4, .val (.long j5), .second, s7, .val (.int i8), s9, .val (.int (0 : Int32)), .val (.int (1 : Int32)), .val (.int (0 : Int32))] [])) target → Steps p.tables e below (T0.setTop (mkF m 98 #[s0, .val (.long j1), .second, s3, s4, .val (.long j5), .second, s7, .val (.int i8), s9, s10, s11, s12] [])) target := by
  refine ⟨T0, X0, e0, fun target kt => ?_⟩
  show Steps p.tables e below (T0.setTop (mkF m 98 #[s0, .val (.long j1), .second, s3, s4, .val (.long j5), .second, s7, .val (.int i8), s9, s10, s11, s12] [])) _
  refine XS.lloadN X0.here hx rfl (hb hby at_98) rfl ?_
  show Steps p.tables e below (T0.setTop (mkF m 99 #[s0, .val (.long j1), .second, s3, s4, .val (.long j5), .second, s7, .val (.int i8), s9, s10, s11, s12] [(.long j1)])) _
  refine XS.lload X0.here hx rfl (hb hby at_99) rfl ?_
  show Steps p.tables e below (T0.setTop (mkF m 101 #[s0, .val (.long j1), .second, s3, s4, .val (.long j5), .second, s7, .val (.int i8), s9, s10, s11, s12] [(.long j5), (.long j1)])) _
  refine XS.lcmp X0.here hx rfl (hb hby at_101) rfl ?_
  show Steps p.tables e below (T0.setTop (mkF m 102 #[s0, .val (.long j1), .second, s3, s4, .val (.long j5), .second, s7, .val (.int i8), s9, s10, s11, s12] [(.int (lcmpW j1 j5))])) _
  refine XS.ifYes X0.here hx rfl (pc0 := 102) (pc' := 109) rfl (hb hby at_102) rfl ((if0 _ _).trans (flt hc102).2.1) (by decide) (by decide) ?_
  show Steps p.tables e below (T0.setTop (mkF m 109 #[s0, .val (.long j1), .second, s3, s4, .val (.long j5), .second, s7, .val (.int i8), s9, s10, s11, s12] [])) _
  refine XS.iconst X0.here hx rfl (hb hby at_109) ?_
  show Steps p.tables e below (T0.setTop (mkF m 110 #[s0, .val (.long j1), .second, s3, s4, .val (.long j5), .second, s7, .val (.int i8), s9, s10, s11, s12] [(.int (0 : Int32))])) _
  refine XS.istore X0.here hx rfl (hb hby at_110) rfl (l' := #[s0, .val (.long j1), .second, s3, s4, .val (.long j5), .second, s7, .val (.int i8), s9, .val (.int (0 : Int32)), s11, s12]) (os_own_C01_110 hs10) ?_
  show Steps p.tables e below (T0.setTop (mkF m 112 #[s0, .val (.long j1), .second, s3, s4, .val (.long j5), .second, s7, .val (.int i8), s9, .val (.int (0 : Int32)), s11, s12] [])) _
  refine XS.lloadN X0.here hx rfl (hb hby at_112) rfl ?_
  show Steps p.tables e below (T0.setTop (mkF m 113 #[s0, .val (.long j1), .second, s3, s4, .val (.long j5), .second, s7, .val (.int i8), s9, .val (.int (0 : Int32)), s11, s12] [(.long j1)])) _
  refine XS.lload X0.here hx rfl (hb hby at_113) rfl ?_
  show Steps p.tables e below (T0.setTop (mkF m 115 #[s0, .val (.long j1), .second, s3, s4, .val (.long j5), .second, s7, .val (.int i8), s9, .val (.int (0 : Int32)), s11, s12] [(.long j5), (.long j1)])) _
  refine XS.lcmp X0.here hx rfl (hb hby at_115) rfl ?_
  show Steps p.tables e below (T0.setTop (mkF m 116 #[s0, .val (.long j1), .second, s3, s4, .val (.long j5), .second, s7, .val (.int i8), s9, .val (.int (0 : Int32)), s11, s12] [(.int (lcmpW j1 j5))])) _
  refine XS.ifNo X0.here hx rfl (hb hby at_116) rfl ((if0 _ _).trans (teq hc116).2) ?_
  show Steps p.tables e below (T0.setTop (mkF m 119 #[s0, .val (.long j1), .second, s3, s4, .val (.long j5), .second, s7, .val (.int i8), s9, .val (.int (0 : Int32)), s11, s12] [])) _
  refine XS.iconst X0.here hx rfl (hb hby at_119) ?_
  show Steps p.tables e below (T0.setTop (mkF m 120 #[s0, .val (.long j1), .second, s3, s4, .val (.long j5), .second, s7, .val (.int i8), s9, .val (.int (0 : Int32)), s11, s12] [(.int (1 : Int32))])) _
  refine XS.goto X0.here hx rfl (pc0 := 120) (pc' := 124) rfl (hb hby at_120) (by decide) (by decide) ?_
  show Steps p.tables e below (T0.setTop (mkF m 124 #[s0, .val (.long j1), .second, s3, s4, .val (.long j5), .second, s7, .val (.int i8), s9, .val (.int (0 : Int32)), s11, s12] [(.int (1 : Int32))])) _
  refine XS.istore X0.here hx rfl (hb hby at_124) rfl (l' := #[s0, .val (.long j1), .second, s3, s4, .val (.long j5), .second, s7, .val (.int i8), s9, .val (.int (0 : Int32)), .val (.int (1 : Int32)), s12]) (os_own_C01_124 hs11) ?_
  show Steps p.tables e below (T0.setTop (mkF m 126 #[s0, .val (.long j1), .second, s3, s4, .val (.long j5), .second, s7, .val (.int i8), s9, .val (.int (0 : Int32)), .val (.int (1 : Int32)), s12] [])) _
  refine XS.iload X0.here hx rfl (hb hby at_126) rfl ?_
  show Steps p.tables e below (T0.setTop (mkF m 128 #[s0, .val (.long j1), .second, s3, s4, .val (.long j5), .second, s7, .val (.int i8), s9, .val (.int (0 : Int32)), .val (.int (1 : Int32)), s12] [(.int i8)])) _
  refine XS.ifNo X0.here hx rfl (hb hby at_128) rfl ((if0 _ _).trans (teq hc128).2) ?_
  show Steps p.tables e below (T0.setTop (mkF m 131 #[s0, .val (.long j1), .second, s3, s4, .val (.long j5), .second, s7, .val (.int i8), s9, .val (.int (0 : Int32)), .val (.int (1 : Int32)), s12] [])) _
  refine XS.iload X0.here hx rfl (hb hby at_131) rfl ?_
  show Steps p.tables e below (T0.setTop (mkF m 133 #[s0, .val (.long j1), .second, s3, s4, .val (.long j5), .second, s7, .val (.int i8), s9, .val (.int (0 : Int32)), .val (.int (1 : Int32)), s12] [(.int (0 : Int32))])) _
  refine XS.istore X0.here hx rfl (hb hby at_133) rfl (l' := #[s0, .val (.long j1), .second, s3, s4, .val (.long j5), .second, s7, .val (.int i8), s9, .val (.int (0 : Int32)), .val (.int (1 : Int32)), .val (.int (0 : Int32))]) (os_own_C01_133 hs12) ?_
  show Steps p.tables e below (T0.setTop (mkF m 135 #[s0, .val (.long j1), .second, s3, s4, .val (.long j5), .second, s7, .val (.int i8), s9, .val (.int (0 : Int32)), .val (.int (1 : Int32)), .val (.int (0 : Int32))] [])) _
  refine XS.goto X0.here hx rfl (pc0 := 135) (pc' := 202) rfl (hb hby at_135) (by decide) (by decide) ?_
  exact kt
set_option maxRecDepth 65536 in
set_option maxHeartbeats 40000000 in
theorem own_C02 {p : Program} {l : Launch} {e : Env} {R : Room} {s : State} {m : MethodId} {args : Array Value} {below : List Frame} {meth : Method} {c : Code} {T0 : State} {locs : List Loc} {cells slots : Nat} {Z : State} {a0 : Array Value} {h0 : Heap} (s0 : Slot) (j1 : Int64) (s3 : Slot) (s4 : Slot) (j5 : Int64) (s7 : Slot) (i8 : Int32) (s9 : Slot) (s10 : Slot) (s11 : Slot) (s12 : Slot)
    (X0 : Stand p l e R s m args below meth c T0 locs cells slots) (hx : p.tables.exec = Jvm.exec) (hZ : Z.Warmed39 s.vm) (hw : ∀ d ∈ tables_1, d.before a0 Z = true) (hby : c.code = code) (hml : c.maxLocals = 13) (hown : s.vm.findClass "com/example/sanction/sanction/language/OperatorHoldsPinLaw" = some m.cls) (e0 : T0.heap = h0) (hs10 : One s10) (hs11 : One s11) (hs12 : One s12) (hc102 : ¬ ((lcmpW j1 j5) < (0 : Int32))) (hc116 : ¬ ((lcmpW j1 j5) = (0 : Int32))) (hc128 : i8 = (0 : Int32)) :
    ∃ (T' : State), Stand p l e R s m args below meth c T' locs cells slots ∧ T'.heap = h0 ∧
      ∀ target, Steps p.tables e below (T'.setTop (mkF m 202 #[s0, .val (.long j1), .second, s3, s4, .val (.long j5), .second, s7, .val (.int i8), s9, .val (.int (0 : Int32)), .val (.int (0 : Int32)), .val (.int (0 : Int32))] [])) target → Steps p.tables e below (T0.setTop (mkF m 98 #[s0, .val (.long j1), .second, s3, s4, .val (.long j5), .second, s7, .val (.int i8), s9, s10, s11, s12] [])) target := by
  refine ⟨T0, X0, e0, fun target kt => ?_⟩
  show Steps p.tables e below (T0.setTop (mkF m 98 #[s0, .val (.long j1), .second, s3, s4, .val (.long j5), .second, s7, .val (.int i8), s9, s10, s11, s12] [])) _
  refine XS.lloadN X0.here hx rfl (hb hby at_98) rfl ?_
  show Steps p.tables e below (T0.setTop (mkF m 99 #[s0, .val (.long j1), .second, s3, s4, .val (.long j5), .second, s7, .val (.int i8), s9, s10, s11, s12] [(.long j1)])) _
  refine XS.lload X0.here hx rfl (hb hby at_99) rfl ?_
  show Steps p.tables e below (T0.setTop (mkF m 101 #[s0, .val (.long j1), .second, s3, s4, .val (.long j5), .second, s7, .val (.int i8), s9, s10, s11, s12] [(.long j5), (.long j1)])) _
  refine XS.lcmp X0.here hx rfl (hb hby at_101) rfl ?_
  show Steps p.tables e below (T0.setTop (mkF m 102 #[s0, .val (.long j1), .second, s3, s4, .val (.long j5), .second, s7, .val (.int i8), s9, s10, s11, s12] [(.int (lcmpW j1 j5))])) _
  refine XS.ifYes X0.here hx rfl (pc0 := 102) (pc' := 109) rfl (hb hby at_102) rfl ((if0 _ _).trans (flt hc102).2.1) (by decide) (by decide) ?_
  show Steps p.tables e below (T0.setTop (mkF m 109 #[s0, .val (.long j1), .second, s3, s4, .val (.long j5), .second, s7, .val (.int i8), s9, s10, s11, s12] [])) _
  refine XS.iconst X0.here hx rfl (hb hby at_109) ?_
  show Steps p.tables e below (T0.setTop (mkF m 110 #[s0, .val (.long j1), .second, s3, s4, .val (.long j5), .second, s7, .val (.int i8), s9, s10, s11, s12] [(.int (0 : Int32))])) _
  refine XS.istore X0.here hx rfl (hb hby at_110) rfl (l' := #[s0, .val (.long j1), .second, s3, s4, .val (.long j5), .second, s7, .val (.int i8), s9, .val (.int (0 : Int32)), s11, s12]) (os_own_C02_110 hs10) ?_
  show Steps p.tables e below (T0.setTop (mkF m 112 #[s0, .val (.long j1), .second, s3, s4, .val (.long j5), .second, s7, .val (.int i8), s9, .val (.int (0 : Int32)), s11, s12] [])) _
  refine XS.lloadN X0.here hx rfl (hb hby at_112) rfl ?_
  show Steps p.tables e below (T0.setTop (mkF m 113 #[s0, .val (.long j1), .second, s3, s4, .val (.long j5), .second, s7, .val (.int i8), s9, .val (.int (0 : Int32)), s11, s12] [(.long j1)])) _
  refine XS.lload X0.here hx rfl (hb hby at_113) rfl ?_
  show Steps p.tables e below (T0.setTop (mkF m 115 #[s0, .val (.long j1), .second, s3, s4, .val (.long j5), .second, s7, .val (.int i8), s9, .val (.int (0 : Int32)), s11, s12] [(.long j5), (.long j1)])) _
  refine XS.lcmp X0.here hx rfl (hb hby at_115) rfl ?_
  show Steps p.tables e below (T0.setTop (mkF m 116 #[s0, .val (.long j1), .second, s3, s4, .val (.long j5), .second, s7, .val (.int i8), s9, .val (.int (0 : Int32)), s11, s12] [(.int (lcmpW j1 j5))])) _
  refine XS.ifYes X0.here hx rfl (pc0 := 116) (pc' := 123) rfl (hb hby at_116) rfl ((if0 _ _).trans (feq hc116).2) (by decide) (by decide) ?_
  show Steps p.tables e below (T0.setTop (mkF m 123 #[s0, .val (.long j1), .second, s3, s4, .val (.long j5), .second, s7, .val (.int i8), s9, .val (.int (0 : Int32)), s11, s12] [])) _
  refine XS.iconst X0.here hx rfl (hb hby at_123) ?_
  show Steps p.tables e below (T0.setTop (mkF m 124 #[s0, .val (.long j1), .second, s3, s4, .val (.long j5), .second, s7, .val (.int i8), s9, .val (.int (0 : Int32)), s11, s12] [(.int (0 : Int32))])) _
  refine XS.istore X0.here hx rfl (hb hby at_124) rfl (l' := #[s0, .val (.long j1), .second, s3, s4, .val (.long j5), .second, s7, .val (.int i8), s9, .val (.int (0 : Int32)), .val (.int (0 : Int32)), s12]) (os_own_C02_124 hs11) ?_
  show Steps p.tables e below (T0.setTop (mkF m 126 #[s0, .val (.long j1), .second, s3, s4, .val (.long j5), .second, s7, .val (.int i8), s9, .val (.int (0 : Int32)), .val (.int (0 : Int32)), s12] [])) _
  refine XS.iload X0.here hx rfl (hb hby at_126) rfl ?_
  show Steps p.tables e below (T0.setTop (mkF m 128 #[s0, .val (.long j1), .second, s3, s4, .val (.long j5), .second, s7, .val (.int i8), s9, .val (.int (0 : Int32)), .val (.int (0 : Int32)), s12] [(.int i8)])) _
  refine XS.ifNo X0.here hx rfl (hb hby at_128) rfl ((if0 _ _).trans (teq hc128).2) ?_
  show Steps p.tables e below (T0.setTop (mkF m 131 #[s0, .val (.long j1), .second, s3, s4, .val (.long j5), .second, s7, .val (.int i8), s9, .val (.int (0 : Int32)), .val (.int (0 : Int32)), s12] [])) _
  refine XS.iload X0.here hx rfl (hb hby at_131) rfl ?_
  show Steps p.tables e below (T0.setTop (mkF m 133 #[s0, .val (.long j1), .second, s3, s4, .val (.long j5), .second, s7, .val (.int i8), s9, .val (.int (0 : Int32)), .val (.int (0 : Int32)), s12] [(.int (0 : Int32))])) _
  refine XS.istore X0.here hx rfl (hb hby at_133) rfl (l' := #[s0, .val (.long j1), .second, s3, s4, .val (.long j5), .second, s7, .val (.int i8), s9, .val (.int (0 : Int32)), .val (.int (0 : Int32)), .val (.int (0 : Int32))]) (os_own_C02_133 hs12) ?_
  show Steps p.tables e below (T0.setTop (mkF m 135 #[s0, .val (.long j1), .second, s3, s4, .val (.long j5), .second, s7, .val (.int i8), s9, .val (.int (0 : Int32)), .val (.int (0 : Int32)), .val (.int (0 : Int32))] [])) _
  refine XS.goto X0.here hx rfl (pc0 := 135) (pc' := 202) rfl (hb hby at_135) (by decide) (by decide) ?_
  exact kt
set_option maxRecDepth 65536 in
set_option maxHeartbeats 40000000 in
theorem own_C10 {p : Program} {l : Launch} {e : Env} {R : Room} {s : State} {m : MethodId} {args : Array Value} {below : List Frame} {meth : Method} {c : Code} {T0 : State} {locs : List Loc} {cells slots : Nat} {Z : State} {a0 : Array Value} {h0 : Heap} (s0 : Slot) (j1 : Int64) (s3 : Slot) (s4 : Slot) (j5 : Int64) (s7 : Slot) (i8 : Int32) (s9 : Slot) (s10 : Slot) (s11 : Slot) (s12 : Slot)
    (X0 : Stand p l e R s m args below meth c T0 locs cells slots) (hx : p.tables.exec = Jvm.exec) (hZ : Z.Warmed39 s.vm) (hw : ∀ d ∈ tables_1, d.before a0 Z = true) (hby : c.code = code) (hml : c.maxLocals = 13) (hown : s.vm.findClass "com/example/sanction/sanction/language/OperatorHoldsPinLaw" = some m.cls) (e0 : T0.heap = h0) (hs10 : One s10) (hs11 : One s11) (hs12 : One s12) (hc102 : (lcmpW j1 j5) < (0 : Int32)) (hc116 : ¬ ((lcmpW j1 j5) = (0 : Int32))) (hc128 : ¬ (i8 = (0 : Int32))) (hc141 : i8 = (1 : Int32)) (hc146 : ¬ ((1 : Int32) = (0 : Int32))) :
    ∃ (T' : State), Stand p l e R s m args below meth c T' locs cells slots ∧ T'.heap = h0 ∧
      ∀ target, Steps p.tables e below (T'.setTop (mkF m 202 #[s0, .val (.long j1), .second, s3, s4, .val (.long j5), .second, s7, .val (.int i8), s9, .val (.int (1 : Int32)), .val (.int (0 : Int32)), .val (.int (1 : Int32))] [])) target → Steps p.tables e below (T0.setTop (mkF m 98 #[s0, .val (.long j1), .second, s3, s4, .val (.long j5), .second, s7, .val (.int i8), s9, s10, s11, s12] [])) target := by
  refine ⟨T0, X0, e0, fun target kt => ?_⟩
  show Steps p.tables e below (T0.setTop (mkF m 98 #[s0, .val (.long j1), .second, s3, s4, .val (.long j5), .second, s7, .val (.int i8), s9, s10, s11, s12] [])) _
  refine XS.lloadN X0.here hx rfl (hb hby at_98) rfl ?_
  show Steps p.tables e below (T0.setTop (mkF m 99 #[s0, .val (.long j1), .second, s3, s4, .val (.long j5), .second, s7, .val (.int i8), s9, s10, s11, s12] [(.long j1)])) _
  refine XS.lload X0.here hx rfl (hb hby at_99) rfl ?_
  show Steps p.tables e below (T0.setTop (mkF m 101 #[s0, .val (.long j1), .second, s3, s4, .val (.long j5), .second, s7, .val (.int i8), s9, s10, s11, s12] [(.long j5), (.long j1)])) _
  refine XS.lcmp X0.here hx rfl (hb hby at_101) rfl ?_
  show Steps p.tables e below (T0.setTop (mkF m 102 #[s0, .val (.long j1), .second, s3, s4, .val (.long j5), .second, s7, .val (.int i8), s9, s10, s11, s12] [(.int (lcmpW j1 j5))])) _
  refine XS.ifNo X0.here hx rfl (hb hby at_102) rfl ((if0 _ _).trans (tlt hc102).2.1) ?_
  show Steps p.tables e below (T0.setTop (mkF m 105 #[s0, .val (.long j1), .second, s3, s4, .val (.long j5), .second, s7, .val (.int i8), s9, s10, s11, s12] [])) _
  refine XS.iconst X0.here hx rfl (hb hby at_105) ?_
  show Steps p.tables e below (T0.setTop (mkF m 106 #[s0, .val (.long j1), .second, s3, s4, .val (.long j5), .second, s7, .val (.int i8), s9, s10, s11, s12] [(.int (1 : Int32))])) _
  refine XS.goto X0.here hx rfl (pc0 := 106) (pc' := 110) rfl (hb hby at_106) (by decide) (by decide) ?_
  show Steps p.tables e below (T0.setTop (mkF m 110 #[s0, .val (.long j1), .second, s3, s4, .val (.long j5), .second, s7, .val (.int i8), s9, s10, s11, s12] [(.int (1 : Int32))])) _
  refine XS.istore X0.here hx rfl (hb hby at_110) rfl (l' := #[s0, .val (.long j1), .second, s3, s4, .val (.long j5), .second, s7, .val (.int i8), s9, .val (.int (1 : Int32)), s11, s12]) (os_own_C10_110 hs10) ?_
  show Steps p.tables e below (T0.setTop (mkF m 112 #[s0, .val (.long j1), .second, s3, s4, .val (.long j5), .second, s7, .val (.int i8), s9, .val (.int (1 : Int32)), s11, s12] [])) _
  refine XS.lloadN X0.here hx rfl (hb hby at_112) rfl ?_
  show Steps p.tables e below (T0.setTop (mkF m 113 #[s0, .val (.long j1), .second, s3, s4, .val (.long j5), .second, s7, .val (.int i8), s9, .val (.int (1 : Int32)), s11, s12] [(.long j1)])) _
  refine XS.lload X0.here hx rfl (hb hby at_113) rfl ?_
  show Steps p.tables e below (T0.setTop (mkF m 115 #[s0, .val (.long j1), .second, s3, s4, .val (.long j5), .second, s7, .val (.int i8), s9, .val (.int (1 : Int32)), s11, s12] [(.long j5), (.long j1)])) _
  refine XS.lcmp X0.here hx rfl (hb hby at_115) rfl ?_
  show Steps p.tables e below (T0.setTop (mkF m 116 #[s0, .val (.long j1), .second, s3, s4, .val (.long j5), .second, s7, .val (.int i8), s9, .val (.int (1 : Int32)), s11, s12] [(.int (lcmpW j1 j5))])) _
  refine XS.ifYes X0.here hx rfl (pc0 := 116) (pc' := 123) rfl (hb hby at_116) rfl ((if0 _ _).trans (feq hc116).2) (by decide) (by decide) ?_
  show Steps p.tables e below (T0.setTop (mkF m 123 #[s0, .val (.long j1), .second, s3, s4, .val (.long j5), .second, s7, .val (.int i8), s9, .val (.int (1 : Int32)), s11, s12] [])) _
  refine XS.iconst X0.here hx rfl (hb hby at_123) ?_
  show Steps p.tables e below (T0.setTop (mkF m 124 #[s0, .val (.long j1), .second, s3, s4, .val (.long j5), .second, s7, .val (.int i8), s9, .val (.int (1 : Int32)), s11, s12] [(.int (0 : Int32))])) _
  refine XS.istore X0.here hx rfl (hb hby at_124) rfl (l' := #[s0, .val (.long j1), .second, s3, s4, .val (.long j5), .second, s7, .val (.int i8), s9, .val (.int (1 : Int32)), .val (.int (0 : Int32)), s12]) (os_own_C10_124 hs11) ?_
  show Steps p.tables e below (T0.setTop (mkF m 126 #[s0, .val (.long j1), .second, s3, s4, .val (.long j5), .second, s7, .val (.int i8), s9, .val (.int (1 : Int32)), .val (.int (0 : Int32)), s12] [])) _
  refine XS.iload X0.here hx rfl (hb hby at_126) rfl ?_
  show Steps p.tables e below (T0.setTop (mkF m 128 #[s0, .val (.long j1), .second, s3, s4, .val (.long j5), .second, s7, .val (.int i8), s9, .val (.int (1 : Int32)), .val (.int (0 : Int32)), s12] [(.int i8)])) _
  refine XS.ifYes X0.here hx rfl (pc0 := 128) (pc' := 138) rfl (hb hby at_128) rfl ((if0 _ _).trans (feq hc128).2) (by decide) (by decide) ?_
  show Steps p.tables e below (T0.setTop (mkF m 138 #[s0, .val (.long j1), .second, s3, s4, .val (.long j5), .second, s7, .val (.int i8), s9, .val (.int (1 : Int32)), .val (.int (0 : Int32)), s12] [])) _
  refine XS.iload X0.here hx rfl (hb hby at_138) rfl ?_
  show Steps p.tables e below (T0.setTop (mkF m 140 #[s0, .val (.long j1), .second, s3, s4, .val (.long j5), .second, s7, .val (.int i8), s9, .val (.int (1 : Int32)), .val (.int (0 : Int32)), s12] [(.int i8)])) _
  refine XS.iconst X0.here hx rfl (hb hby at_140) ?_
  show Steps p.tables e below (T0.setTop (mkF m 141 #[s0, .val (.long j1), .second, s3, s4, .val (.long j5), .second, s7, .val (.int i8), s9, .val (.int (1 : Int32)), .val (.int (0 : Int32)), s12] [(.int (1 : Int32)), (.int i8)])) _
  refine XS.icmpNo X0.here hx rfl (hb hby at_141) rfl (teq hc141).2 ?_
  show Steps p.tables e below (T0.setTop (mkF m 144 #[s0, .val (.long j1), .second, s3, s4, .val (.long j5), .second, s7, .val (.int i8), s9, .val (.int (1 : Int32)), .val (.int (0 : Int32)), s12] [])) _
  refine XS.iload X0.here hx rfl (hb hby at_144) rfl ?_
  show Steps p.tables e below (T0.setTop (mkF m 146 #[s0, .val (.long j1), .second, s3, s4, .val (.long j5), .second, s7, .val (.int i8), s9, .val (.int (1 : Int32)), .val (.int (0 : Int32)), s12] [(.int (1 : Int32))])) _
  refine XS.ifYes X0.here hx rfl (pc0 := 146) (pc' := 154) rfl (hb hby at_146) rfl ((if0 _ _).trans (feq hc146).2) (by decide) (by decide) ?_
  show Steps p.tables e below (T0.setTop (mkF m 154 #[s0, .val (.long j1), .second, s3, s4, .val (.long j5), .second, s7, .val (.int i8), s9, .val (.int (1 : Int32)), .val (.int (0 : Int32)), s12] [])) _
  refine XS.iconst X0.here hx rfl (hb hby at_154) ?_
  show Steps p.tables e below (T0.setTop (mkF m 155 #[s0, .val (.long j1), .second, s3, s4, .val (.long j5), .second, s7, .val (.int i8), s9, .val (.int (1 : Int32)), .val (.int (0 : Int32)), s12] [(.int (1 : Int32))])) _
  refine XS.goto X0.here hx rfl (pc0 := 155) (pc' := 159) rfl (hb hby at_155) (by decide) (by decide) ?_
  show Steps p.tables e below (T0.setTop (mkF m 159 #[s0, .val (.long j1), .second, s3, s4, .val (.long j5), .second, s7, .val (.int i8), s9, .val (.int (1 : Int32)), .val (.int (0 : Int32)), s12] [(.int (1 : Int32))])) _
  refine XS.istore X0.here hx rfl (hb hby at_159) rfl (l' := #[s0, .val (.long j1), .second, s3, s4, .val (.long j5), .second, s7, .val (.int i8), s9, .val (.int (1 : Int32)), .val (.int (0 : Int32)), .val (.int (1 : Int32))]) (os_own_C10_159 hs12) ?_
  show Steps p.tables e below (T0.setTop (mkF m 161 #[s0, .val (.long j1), .second, s3, s4, .val (.long j5), .second, s7, .val (.int i8), s9, .val (.int (1 : Int32)), .val (.int (0 : Int32)), .val (.int (1 : Int32))] [])) _
  refine XS.goto X0.here hx rfl (pc0 := 161) (pc' := 202) rfl (hb hby at_161) (by decide) (by decide) ?_
  exact kt
set_option maxRecDepth 65536 in
set_option maxHeartbeats 40000000 in
theorem own_C11 {p : Program} {l : Launch} {e : Env} {R : Room} {s : State} {m : MethodId} {args : Array Value} {below : List Frame} {meth : Method} {c : Code} {T0 : State} {locs : List Loc} {cells slots : Nat} {Z : State} {a0 : Array Value} {h0 : Heap} (s0 : Slot) (j1 : Int64) (s3 : Slot) (s4 : Slot) (j5 : Int64) (s7 : Slot) (i8 : Int32) (s9 : Slot) (s10 : Slot) (s11 : Slot) (s12 : Slot)
    (X0 : Stand p l e R s m args below meth c T0 locs cells slots) (hx : p.tables.exec = Jvm.exec) (hZ : Z.Warmed39 s.vm) (hw : ∀ d ∈ tables_1, d.before a0 Z = true) (hby : c.code = code) (hml : c.maxLocals = 13) (hown : s.vm.findClass "com/example/sanction/sanction/language/OperatorHoldsPinLaw" = some m.cls) (e0 : T0.heap = h0) (hs10 : One s10) (hs11 : One s11) (hs12 : One s12) (hc102 : ¬ ((lcmpW j1 j5) < (0 : Int32))) (hc116 : (lcmpW j1 j5) = (0 : Int32)) (hc128 : ¬ (i8 = (0 : Int32))) (hc141 : i8 = (1 : Int32)) (hc151 : ¬ ((1 : Int32) = (0 : Int32))) :
    ∃ (T' : State), Stand p l e R s m args below meth c T' locs cells slots ∧ T'.heap = h0 ∧
      ∀ target, Steps p.tables e below (T'.setTop (mkF m 202 #[s0, .val (.long j1), .second, s3, s4, .val (.long j5), .second, s7, .val (.int i8), s9, .val (.int (0 : Int32)), .val (.int (1 : Int32)), .val (.int (1 : Int32))] [])) target → Steps p.tables e below (T0.setTop (mkF m 98 #[s0, .val (.long j1), .second, s3, s4, .val (.long j5), .second, s7, .val (.int i8), s9, s10, s11, s12] [])) target := by
  refine ⟨T0, X0, e0, fun target kt => ?_⟩
  show Steps p.tables e below (T0.setTop (mkF m 98 #[s0, .val (.long j1), .second, s3, s4, .val (.long j5), .second, s7, .val (.int i8), s9, s10, s11, s12] [])) _
  refine XS.lloadN X0.here hx rfl (hb hby at_98) rfl ?_
  show Steps p.tables e below (T0.setTop (mkF m 99 #[s0, .val (.long j1), .second, s3, s4, .val (.long j5), .second, s7, .val (.int i8), s9, s10, s11, s12] [(.long j1)])) _
  refine XS.lload X0.here hx rfl (hb hby at_99) rfl ?_
  show Steps p.tables e below (T0.setTop (mkF m 101 #[s0, .val (.long j1), .second, s3, s4, .val (.long j5), .second, s7, .val (.int i8), s9, s10, s11, s12] [(.long j5), (.long j1)])) _
  refine XS.lcmp X0.here hx rfl (hb hby at_101) rfl ?_
  show Steps p.tables e below (T0.setTop (mkF m 102 #[s0, .val (.long j1), .second, s3, s4, .val (.long j5), .second, s7, .val (.int i8), s9, s10, s11, s12] [(.int (lcmpW j1 j5))])) _
  refine XS.ifYes X0.here hx rfl (pc0 := 102) (pc' := 109) rfl (hb hby at_102) rfl ((if0 _ _).trans (flt hc102).2.1) (by decide) (by decide) ?_
  show Steps p.tables e below (T0.setTop (mkF m 109 #[s0, .val (.long j1), .second, s3, s4, .val (.long j5), .second, s7, .val (.int i8), s9, s10, s11, s12] [])) _
  refine XS.iconst X0.here hx rfl (hb hby at_109) ?_
  show Steps p.tables e below (T0.setTop (mkF m 110 #[s0, .val (.long j1), .second, s3, s4, .val (.long j5), .second, s7, .val (.int i8), s9, s10, s11, s12] [(.int (0 : Int32))])) _
  refine XS.istore X0.here hx rfl (hb hby at_110) rfl (l' := #[s0, .val (.long j1), .second, s3, s4, .val (.long j5), .second, s7, .val (.int i8), s9, .val (.int (0 : Int32)), s11, s12]) (os_own_C11_110 hs10) ?_
  show Steps p.tables e below (T0.setTop (mkF m 112 #[s0, .val (.long j1), .second, s3, s4, .val (.long j5), .second, s7, .val (.int i8), s9, .val (.int (0 : Int32)), s11, s12] [])) _
  refine XS.lloadN X0.here hx rfl (hb hby at_112) rfl ?_
  show Steps p.tables e below (T0.setTop (mkF m 113 #[s0, .val (.long j1), .second, s3, s4, .val (.long j5), .second, s7, .val (.int i8), s9, .val (.int (0 : Int32)), s11, s12] [(.long j1)])) _
  refine XS.lload X0.here hx rfl (hb hby at_113) rfl ?_
  show Steps p.tables e below (T0.setTop (mkF m 115 #[s0, .val (.long j1), .second, s3, s4, .val (.long j5), .second, s7, .val (.int i8), s9, .val (.int (0 : Int32)), s11, s12] [(.long j5), (.long j1)])) _
  refine XS.lcmp X0.here hx rfl (hb hby at_115) rfl ?_
  show Steps p.tables e below (T0.setTop (mkF m 116 #[s0, .val (.long j1), .second, s3, s4, .val (.long j5), .second, s7, .val (.int i8), s9, .val (.int (0 : Int32)), s11, s12] [(.int (lcmpW j1 j5))])) _
  refine XS.ifNo X0.here hx rfl (hb hby at_116) rfl ((if0 _ _).trans (teq hc116).2) ?_
  show Steps p.tables e below (T0.setTop (mkF m 119 #[s0, .val (.long j1), .second, s3, s4, .val (.long j5), .second, s7, .val (.int i8), s9, .val (.int (0 : Int32)), s11, s12] [])) _
  refine XS.iconst X0.here hx rfl (hb hby at_119) ?_
  show Steps p.tables e below (T0.setTop (mkF m 120 #[s0, .val (.long j1), .second, s3, s4, .val (.long j5), .second, s7, .val (.int i8), s9, .val (.int (0 : Int32)), s11, s12] [(.int (1 : Int32))])) _
  refine XS.goto X0.here hx rfl (pc0 := 120) (pc' := 124) rfl (hb hby at_120) (by decide) (by decide) ?_
  show Steps p.tables e below (T0.setTop (mkF m 124 #[s0, .val (.long j1), .second, s3, s4, .val (.long j5), .second, s7, .val (.int i8), s9, .val (.int (0 : Int32)), s11, s12] [(.int (1 : Int32))])) _
  refine XS.istore X0.here hx rfl (hb hby at_124) rfl (l' := #[s0, .val (.long j1), .second, s3, s4, .val (.long j5), .second, s7, .val (.int i8), s9, .val (.int (0 : Int32)), .val (.int (1 : Int32)), s12]) (os_own_C11_124 hs11) ?_
  show Steps p.tables e below (T0.setTop (mkF m 126 #[s0, .val (.long j1), .second, s3, s4, .val (.long j5), .second, s7, .val (.int i8), s9, .val (.int (0 : Int32)), .val (.int (1 : Int32)), s12] [])) _
  refine XS.iload X0.here hx rfl (hb hby at_126) rfl ?_
  show Steps p.tables e below (T0.setTop (mkF m 128 #[s0, .val (.long j1), .second, s3, s4, .val (.long j5), .second, s7, .val (.int i8), s9, .val (.int (0 : Int32)), .val (.int (1 : Int32)), s12] [(.int i8)])) _
  refine XS.ifYes X0.here hx rfl (pc0 := 128) (pc' := 138) rfl (hb hby at_128) rfl ((if0 _ _).trans (feq hc128).2) (by decide) (by decide) ?_
  show Steps p.tables e below (T0.setTop (mkF m 138 #[s0, .val (.long j1), .second, s3, s4, .val (.long j5), .second, s7, .val (.int i8), s9, .val (.int (0 : Int32)), .val (.int (1 : Int32)), s12] [])) _
  refine XS.iload X0.here hx rfl (hb hby at_138) rfl ?_
  show Steps p.tables e below (T0.setTop (mkF m 140 #[s0, .val (.long j1), .second, s3, s4, .val (.long j5), .second, s7, .val (.int i8), s9, .val (.int (0 : Int32)), .val (.int (1 : Int32)), s12] [(.int i8)])) _
  refine XS.iconst X0.here hx rfl (hb hby at_140) ?_
  show Steps p.tables e below (T0.setTop (mkF m 141 #[s0, .val (.long j1), .second, s3, s4, .val (.long j5), .second, s7, .val (.int i8), s9, .val (.int (0 : Int32)), .val (.int (1 : Int32)), s12] [(.int (1 : Int32)), (.int i8)])) _
  refine XS.icmpNo X0.here hx rfl (hb hby at_141) rfl (teq hc141).2 ?_
  show Steps p.tables e below (T0.setTop (mkF m 144 #[s0, .val (.long j1), .second, s3, s4, .val (.long j5), .second, s7, .val (.int i8), s9, .val (.int (0 : Int32)), .val (.int (1 : Int32)), s12] [])) _
  refine XS.iload X0.here hx rfl (hb hby at_144) rfl ?_
  show Steps p.tables e below (T0.setTop (mkF m 146 #[s0, .val (.long j1), .second, s3, s4, .val (.long j5), .second, s7, .val (.int i8), s9, .val (.int (0 : Int32)), .val (.int (1 : Int32)), s12] [(.int (0 : Int32))])) _
  refine XS.ifNo X0.here hx rfl (hb hby at_146) rfl ((if0 _ _).trans (teq (rfl : (0 : Int32) = (0 : Int32))).2) ?_
  show Steps p.tables e below (T0.setTop (mkF m 149 #[s0, .val (.long j1), .second, s3, s4, .val (.long j5), .second, s7, .val (.int i8), s9, .val (.int (0 : Int32)), .val (.int (1 : Int32)), s12] [])) _
  refine XS.iload X0.here hx rfl (hb hby at_149) rfl ?_
  show Steps p.tables e below (T0.setTop (mkF m 151 #[s0, .val (.long j1), .second, s3, s4, .val (.long j5), .second, s7, .val (.int i8), s9, .val (.int (0 : Int32)), .val (.int (1 : Int32)), s12] [(.int (1 : Int32))])) _
  refine XS.ifNo X0.here hx rfl (hb hby at_151) rfl ((if0 _ _).trans (feq hc151).1) ?_
  show Steps p.tables e below (T0.setTop (mkF m 154 #[s0, .val (.long j1), .second, s3, s4, .val (.long j5), .second, s7, .val (.int i8), s9, .val (.int (0 : Int32)), .val (.int (1 : Int32)), s12] [])) _
  refine XS.iconst X0.here hx rfl (hb hby at_154) ?_
  show Steps p.tables e below (T0.setTop (mkF m 155 #[s0, .val (.long j1), .second, s3, s4, .val (.long j5), .second, s7, .val (.int i8), s9, .val (.int (0 : Int32)), .val (.int (1 : Int32)), s12] [(.int (1 : Int32))])) _
  refine XS.goto X0.here hx rfl (pc0 := 155) (pc' := 159) rfl (hb hby at_155) (by decide) (by decide) ?_
  show Steps p.tables e below (T0.setTop (mkF m 159 #[s0, .val (.long j1), .second, s3, s4, .val (.long j5), .second, s7, .val (.int i8), s9, .val (.int (0 : Int32)), .val (.int (1 : Int32)), s12] [(.int (1 : Int32))])) _
  refine XS.istore X0.here hx rfl (hb hby at_159) rfl (l' := #[s0, .val (.long j1), .second, s3, s4, .val (.long j5), .second, s7, .val (.int i8), s9, .val (.int (0 : Int32)), .val (.int (1 : Int32)), .val (.int (1 : Int32))]) (os_own_C11_159 hs12) ?_
  show Steps p.tables e below (T0.setTop (mkF m 161 #[s0, .val (.long j1), .second, s3, s4, .val (.long j5), .second, s7, .val (.int i8), s9, .val (.int (0 : Int32)), .val (.int (1 : Int32)), .val (.int (1 : Int32))] [])) _
  refine XS.goto X0.here hx rfl (pc0 := 161) (pc' := 202) rfl (hb hby at_161) (by decide) (by decide) ?_
  exact kt
set_option maxRecDepth 65536 in
set_option maxHeartbeats 40000000 in
theorem own_C12 {p : Program} {l : Launch} {e : Env} {R : Room} {s : State} {m : MethodId} {args : Array Value} {below : List Frame} {meth : Method} {c : Code} {T0 : State} {locs : List Loc} {cells slots : Nat} {Z : State} {a0 : Array Value} {h0 : Heap} (s0 : Slot) (j1 : Int64) (s3 : Slot) (s4 : Slot) (j5 : Int64) (s7 : Slot) (i8 : Int32) (s9 : Slot) (s10 : Slot) (s11 : Slot) (s12 : Slot)
    (X0 : Stand p l e R s m args below meth c T0 locs cells slots) (hx : p.tables.exec = Jvm.exec) (hZ : Z.Warmed39 s.vm) (hw : ∀ d ∈ tables_1, d.before a0 Z = true) (hby : c.code = code) (hml : c.maxLocals = 13) (hown : s.vm.findClass "com/example/sanction/sanction/language/OperatorHoldsPinLaw" = some m.cls) (e0 : T0.heap = h0) (hs10 : One s10) (hs11 : One s11) (hs12 : One s12) (hc102 : ¬ ((lcmpW j1 j5) < (0 : Int32))) (hc116 : ¬ ((lcmpW j1 j5) = (0 : Int32))) (hc128 : ¬ (i8 = (0 : Int32))) (hc141 : i8 = (1 : Int32)) :
    ∃ (T' : State), Stand p l e R s m args below meth c T' locs cells slots ∧ T'.heap = h0 ∧
      ∀ target, Steps p.tables e below (T'.setTop (mkF m 202 #[s0, .val (.long j1), .second, s3, s4, .val (.long j5), .second, s7, .val (.int i8), s9, .val (.int (0 : Int32)), .val (.int (0 : Int32)), .val (.int (0 : Int32))] [])) target → Steps p.tables e below (T0.setTop (mkF m 98 #[s0, .val (.long j1), .second, s3, s4, .val (.long j5), .second, s7, .val (.int i8), s9, s10, s11, s12] [])) target := by
  refine ⟨T0, X0, e0, fun target kt => ?_⟩
  show Steps p.tables e below (T0.setTop (mkF m 98 #[s0, .val (.long j1), .second, s3, s4, .val (.long j5), .second, s7, .val (.int i8), s9, s10, s11, s12] [])) _
  refine XS.lloadN X0.here hx rfl (hb hby at_98) rfl ?_
  show Steps p.tables e below (T0.setTop (mkF m 99 #[s0, .val (.long j1), .second, s3, s4, .val (.long j5), .second, s7, .val (.int i8), s9, s10, s11, s12] [(.long j1)])) _
  refine XS.lload X0.here hx rfl (hb hby at_99) rfl ?_
  show Steps p.tables e below (T0.setTop (mkF m 101 #[s0, .val (.long j1), .second, s3, s4, .val (.long j5), .second, s7, .val (.int i8), s9, s10, s11, s12] [(.long j5), (.long j1)])) _
  refine XS.lcmp X0.here hx rfl (hb hby at_101) rfl ?_
  show Steps p.tables e below (T0.setTop (mkF m 102 #[s0, .val (.long j1), .second, s3, s4, .val (.long j5), .second, s7, .val (.int i8), s9, s10, s11, s12] [(.int (lcmpW j1 j5))])) _
  refine XS.ifYes X0.here hx rfl (pc0 := 102) (pc' := 109) rfl (hb hby at_102) rfl ((if0 _ _).trans (flt hc102).2.1) (by decide) (by decide) ?_
  show Steps p.tables e below (T0.setTop (mkF m 109 #[s0, .val (.long j1), .second, s3, s4, .val (.long j5), .second, s7, .val (.int i8), s9, s10, s11, s12] [])) _
  refine XS.iconst X0.here hx rfl (hb hby at_109) ?_
  show Steps p.tables e below (T0.setTop (mkF m 110 #[s0, .val (.long j1), .second, s3, s4, .val (.long j5), .second, s7, .val (.int i8), s9, s10, s11, s12] [(.int (0 : Int32))])) _
  refine XS.istore X0.here hx rfl (hb hby at_110) rfl (l' := #[s0, .val (.long j1), .second, s3, s4, .val (.long j5), .second, s7, .val (.int i8), s9, .val (.int (0 : Int32)), s11, s12]) (os_own_C12_110 hs10) ?_
  show Steps p.tables e below (T0.setTop (mkF m 112 #[s0, .val (.long j1), .second, s3, s4, .val (.long j5), .second, s7, .val (.int i8), s9, .val (.int (0 : Int32)), s11, s12] [])) _
  refine XS.lloadN X0.here hx rfl (hb hby at_112) rfl ?_
  show Steps p.tables e below (T0.setTop (mkF m 113 #[s0, .val (.long j1), .second, s3, s4, .val (.long j5), .second, s7, .val (.int i8), s9, .val (.int (0 : Int32)), s11, s12] [(.long j1)])) _
  refine XS.lload X0.here hx rfl (hb hby at_113) rfl ?_
  show Steps p.tables e below (T0.setTop (mkF m 115 #[s0, .val (.long j1), .second, s3, s4, .val (.long j5), .second, s7, .val (.int i8), s9, .val (.int (0 : Int32)), s11, s12] [(.long j5), (.long j1)])) _
  refine XS.lcmp X0.here hx rfl (hb hby at_115) rfl ?_
  show Steps p.tables e below (T0.setTop (mkF m 116 #[s0, .val (.long j1), .second, s3, s4, .val (.long j5), .second, s7, .val (.int i8), s9, .val (.int (0 : Int32)), s11, s12] [(.int (lcmpW j1 j5))])) _
  refine XS.ifYes X0.here hx rfl (pc0 := 116) (pc' := 123) rfl (hb hby at_116) rfl ((if0 _ _).trans (feq hc116).2) (by decide) (by decide) ?_
  show Steps p.tables e below (T0.setTop (mkF m 123 #[s0, .val (.long j1), .second, s3, s4, .val (.long j5), .second, s7, .val (.int i8), s9, .val (.int (0 : Int32)), s11, s12] [])) _
  refine XS.iconst X0.here hx rfl (hb hby at_123) ?_
  show Steps p.tables e below (T0.setTop (mkF m 124 #[s0, .val (.long j1), .second, s3, s4, .val (.long j5), .second, s7, .val (.int i8), s9, .val (.int (0 : Int32)), s11, s12] [(.int (0 : Int32))])) _
  refine XS.istore X0.here hx rfl (hb hby at_124) rfl (l' := #[s0, .val (.long j1), .second, s3, s4, .val (.long j5), .second, s7, .val (.int i8), s9, .val (.int (0 : Int32)), .val (.int (0 : Int32)), s12]) (os_own_C12_124 hs11) ?_
  show Steps p.tables e below (T0.setTop (mkF m 126 #[s0, .val (.long j1), .second, s3, s4, .val (.long j5), .second, s7, .val (.int i8), s9, .val (.int (0 : Int32)), .val (.int (0 : Int32)), s12] [])) _
  refine XS.iload X0.here hx rfl (hb hby at_126) rfl ?_
  show Steps p.tables e below (T0.setTop (mkF m 128 #[s0, .val (.long j1), .second, s3, s4, .val (.long j5), .second, s7, .val (.int i8), s9, .val (.int (0 : Int32)), .val (.int (0 : Int32)), s12] [(.int i8)])) _
  refine XS.ifYes X0.here hx rfl (pc0 := 128) (pc' := 138) rfl (hb hby at_128) rfl ((if0 _ _).trans (feq hc128).2) (by decide) (by decide) ?_
  show Steps p.tables e below (T0.setTop (mkF m 138 #[s0, .val (.long j1), .second, s3, s4, .val (.long j5), .second, s7, .val (.int i8), s9, .val (.int (0 : Int32)), .val (.int (0 : Int32)), s12] [])) _
  refine XS.iload X0.here hx rfl (hb hby at_138) rfl ?_
  show Steps p.tables e below (T0.setTop (mkF m 140 #[s0, .val (.long j1), .second, s3, s4, .val (.long j5), .second, s7, .val (.int i8), s9, .val (.int (0 : Int32)), .val (.int (0 : Int32)), s12] [(.int i8)])) _
  refine XS.iconst X0.here hx rfl (hb hby at_140) ?_
  show Steps p.tables e below (T0.setTop (mkF m 141 #[s0, .val (.long j1), .second, s3, s4, .val (.long j5), .second, s7, .val (.int i8), s9, .val (.int (0 : Int32)), .val (.int (0 : Int32)), s12] [(.int (1 : Int32)), (.int i8)])) _
  refine XS.icmpNo X0.here hx rfl (hb hby at_141) rfl (teq hc141).2 ?_
  show Steps p.tables e below (T0.setTop (mkF m 144 #[s0, .val (.long j1), .second, s3, s4, .val (.long j5), .second, s7, .val (.int i8), s9, .val (.int (0 : Int32)), .val (.int (0 : Int32)), s12] [])) _
  refine XS.iload X0.here hx rfl (hb hby at_144) rfl ?_
  show Steps p.tables e below (T0.setTop (mkF m 146 #[s0, .val (.long j1), .second, s3, s4, .val (.long j5), .second, s7, .val (.int i8), s9, .val (.int (0 : Int32)), .val (.int (0 : Int32)), s12] [(.int (0 : Int32))])) _
  refine XS.ifNo X0.here hx rfl (hb hby at_146) rfl ((if0 _ _).trans (teq (rfl : (0 : Int32) = (0 : Int32))).2) ?_
  show Steps p.tables e below (T0.setTop (mkF m 149 #[s0, .val (.long j1), .second, s3, s4, .val (.long j5), .second, s7, .val (.int i8), s9, .val (.int (0 : Int32)), .val (.int (0 : Int32)), s12] [])) _
  refine XS.iload X0.here hx rfl (hb hby at_149) rfl ?_
  show Steps p.tables e below (T0.setTop (mkF m 151 #[s0, .val (.long j1), .second, s3, s4, .val (.long j5), .second, s7, .val (.int i8), s9, .val (.int (0 : Int32)), .val (.int (0 : Int32)), s12] [(.int (0 : Int32))])) _
  refine XS.ifYes X0.here hx rfl (pc0 := 151) (pc' := 158) rfl (hb hby at_151) rfl ((if0 _ _).trans (teq (rfl : (0 : Int32) = (0 : Int32))).1) (by decide) (by decide) ?_
  show Steps p.tables e below (T0.setTop (mkF m 158 #[s0, .val (.long j1), .second, s3, s4, .val (.long j5), .second, s7, .val (.int i8), s9, .val (.int (0 : Int32)), .val (.int (0 : Int32)), s12] [])) _
  refine XS.iconst X0.here hx rfl (hb hby at_158) ?_
  show Steps p.tables e below (T0.setTop (mkF m 159 #[s0, .val (.long j1), .second, s3, s4, .val (.long j5), .second, s7, .val (.int i8), s9, .val (.int (0 : Int32)), .val (.int (0 : Int32)), s12] [(.int (0 : Int32))])) _
  refine XS.istore X0.here hx rfl (hb hby at_159) rfl (l' := #[s0, .val (.long j1), .second, s3, s4, .val (.long j5), .second, s7, .val (.int i8), s9, .val (.int (0 : Int32)), .val (.int (0 : Int32)), .val (.int (0 : Int32))]) (os_own_C12_159 hs12) ?_
  show Steps p.tables e below (T0.setTop (mkF m 161 #[s0, .val (.long j1), .second, s3, s4, .val (.long j5), .second, s7, .val (.int i8), s9, .val (.int (0 : Int32)), .val (.int (0 : Int32)), .val (.int (0 : Int32))] [])) _
  refine XS.goto X0.here hx rfl (pc0 := 161) (pc' := 202) rfl (hb hby at_161) (by decide) (by decide) ?_
  exact kt
set_option maxRecDepth 65536 in
set_option maxHeartbeats 40000000 in
theorem own_C20 {p : Program} {l : Launch} {e : Env} {R : Room} {s : State} {m : MethodId} {args : Array Value} {below : List Frame} {meth : Method} {c : Code} {T0 : State} {locs : List Loc} {cells slots : Nat} {Z : State} {a0 : Array Value} {h0 : Heap} (s0 : Slot) (j1 : Int64) (s3 : Slot) (s4 : Slot) (j5 : Int64) (s7 : Slot) (i8 : Int32) (s9 : Slot) (s10 : Slot) (s11 : Slot) (s12 : Slot)
    (X0 : Stand p l e R s m args below meth c T0 locs cells slots) (hx : p.tables.exec = Jvm.exec) (hZ : Z.Warmed39 s.vm) (hw : ∀ d ∈ tables_1, d.before a0 Z = true) (hby : c.code = code) (hml : c.maxLocals = 13) (hown : s.vm.findClass "com/example/sanction/sanction/language/OperatorHoldsPinLaw" = some m.cls) (e0 : T0.heap = h0) (hs10 : One s10) (hs11 : One s11) (hs12 : One s12) (hc102 : (lcmpW j1 j5) < (0 : Int32)) (hc116 : ¬ ((lcmpW j1 j5) = (0 : Int32))) (hc128 : ¬ (i8 = (0 : Int32))) (hc141 : ¬ (i8 = (1 : Int32))) (hc167 : i8 = (2 : Int32)) (hc172 : ¬ ((1 : Int32) = (0 : Int32))) :
    ∃ (T' : State), Stand p l e R s m args below meth c T' locs cells slots ∧ T'.heap = h0 ∧
      ∀ target, Steps p.tables e below (T'.setTop (mkF m 202 #[s0, .val (.long j1), .second, s3, s4, .val (.long j5), .second, s7, .val (.int i8), s9, .val (.int (1 : Int32)), .val (.int (0 : Int32)), .val (.int (0 : Int32))] [])) target → Steps p.tables e below (T0.setTop (mkF m 98 #[s0, .val (.long j1), .second, s3, s4, .val (.long j5), .second, s7, .val (.int i8), s9, s10, s11, s12] [])) target := by
  refine ⟨T0, X0, e0, fun target kt => ?_⟩
  show Steps p.tables e below (T0.setTop (mkF m 98 #[s0, .val (.long j1), .second, s3, s4, .val (.long j5), .second, s7, .val (.int i8), s9, s10, s11, s12] [])) _
  refine XS.lloadN X0.here hx rfl (hb hby at_98) rfl ?_
  show Steps p.tables e below (T0.setTop (mkF m 99 #[s0, .val (.long j1), .second, s3, s4, .val (.long j5), .second, s7, .val (.int i8), s9, s10, s11, s12] [(.long j1)])) _
  refine XS.lload X0.here hx rfl (hb hby at_99) rfl ?_
  show Steps p.tables e below (T0.setTop (mkF m 101 #[s0, .val (.long j1), .second, s3, s4, .val (.long j5), .second, s7, .val (.int i8), s9, s10, s11, s12] [(.long j5), (.long j1)])) _
  refine XS.lcmp X0.here hx rfl (hb hby at_101) rfl ?_
  show Steps p.tables e below (T0.setTop (mkF m 102 #[s0, .val (.long j1), .second, s3, s4, .val (.long j5), .second, s7, .val (.int i8), s9, s10, s11, s12] [(.int (lcmpW j1 j5))])) _
  refine XS.ifNo X0.here hx rfl (hb hby at_102) rfl ((if0 _ _).trans (tlt hc102).2.1) ?_
  show Steps p.tables e below (T0.setTop (mkF m 105 #[s0, .val (.long j1), .second, s3, s4, .val (.long j5), .second, s7, .val (.int i8), s9, s10, s11, s12] [])) _
  refine XS.iconst X0.here hx rfl (hb hby at_105) ?_
  show Steps p.tables e below (T0.setTop (mkF m 106 #[s0, .val (.long j1), .second, s3, s4, .val (.long j5), .second, s7, .val (.int i8), s9, s10, s11, s12] [(.int (1 : Int32))])) _
  refine XS.goto X0.here hx rfl (pc0 := 106) (pc' := 110) rfl (hb hby at_106) (by decide) (by decide) ?_
  show Steps p.tables e below (T0.setTop (mkF m 110 #[s0, .val (.long j1), .second, s3, s4, .val (.long j5), .second, s7, .val (.int i8), s9, s10, s11, s12] [(.int (1 : Int32))])) _
  refine XS.istore X0.here hx rfl (hb hby at_110) rfl (l' := #[s0, .val (.long j1), .second, s3, s4, .val (.long j5), .second, s7, .val (.int i8), s9, .val (.int (1 : Int32)), s11, s12]) (os_own_C20_110 hs10) ?_
  show Steps p.tables e below (T0.setTop (mkF m 112 #[s0, .val (.long j1), .second, s3, s4, .val (.long j5), .second, s7, .val (.int i8), s9, .val (.int (1 : Int32)), s11, s12] [])) _
  refine XS.lloadN X0.here hx rfl (hb hby at_112) rfl ?_
  show Steps p.tables e below (T0.setTop (mkF m 113 #[s0, .val (.long j1), .second, s3, s4, .val (.long j5), .second, s7, .val (.int i8), s9, .val (.int (1 : Int32)), s11, s12] [(.long j1)])) _
  refine XS.lload X0.here hx rfl (hb hby at_113) rfl ?_
  show Steps p.tables e below (T0.setTop (mkF m 115 #[s0, .val (.long j1), .second, s3, s4, .val (.long j5), .second, s7, .val (.int i8), s9, .val (.int (1 : Int32)), s11, s12] [(.long j5), (.long j1)])) _
  refine XS.lcmp X0.here hx rfl (hb hby at_115) rfl ?_
  show Steps p.tables e below (T0.setTop (mkF m 116 #[s0, .val (.long j1), .second, s3, s4, .val (.long j5), .second, s7, .val (.int i8), s9, .val (.int (1 : Int32)), s11, s12] [(.int (lcmpW j1 j5))])) _
  refine XS.ifYes X0.here hx rfl (pc0 := 116) (pc' := 123) rfl (hb hby at_116) rfl ((if0 _ _).trans (feq hc116).2) (by decide) (by decide) ?_
  show Steps p.tables e below (T0.setTop (mkF m 123 #[s0, .val (.long j1), .second, s3, s4, .val (.long j5), .second, s7, .val (.int i8), s9, .val (.int (1 : Int32)), s11, s12] [])) _
  refine XS.iconst X0.here hx rfl (hb hby at_123) ?_
  show Steps p.tables e below (T0.setTop (mkF m 124 #[s0, .val (.long j1), .second, s3, s4, .val (.long j5), .second, s7, .val (.int i8), s9, .val (.int (1 : Int32)), s11, s12] [(.int (0 : Int32))])) _
  refine XS.istore X0.here hx rfl (hb hby at_124) rfl (l' := #[s0, .val (.long j1), .second, s3, s4, .val (.long j5), .second, s7, .val (.int i8), s9, .val (.int (1 : Int32)), .val (.int (0 : Int32)), s12]) (os_own_C20_124 hs11) ?_
  show Steps p.tables e below (T0.setTop (mkF m 126 #[s0, .val (.long j1), .second, s3, s4, .val (.long j5), .second, s7, .val (.int i8), s9, .val (.int (1 : Int32)), .val (.int (0 : Int32)), s12] [])) _
  refine XS.iload X0.here hx rfl (hb hby at_126) rfl ?_
  show Steps p.tables e below (T0.setTop (mkF m 128 #[s0, .val (.long j1), .second, s3, s4, .val (.long j5), .second, s7, .val (.int i8), s9, .val (.int (1 : Int32)), .val (.int (0 : Int32)), s12] [(.int i8)])) _
  refine XS.ifYes X0.here hx rfl (pc0 := 128) (pc' := 138) rfl (hb hby at_128) rfl ((if0 _ _).trans (feq hc128).2) (by decide) (by decide) ?_
  show Steps p.tables e below (T0.setTop (mkF m 138 #[s0, .val (.long j1), .second, s3, s4, .val (.long j5), .second, s7, .val (.int i8), s9, .val (.int (1 : Int32)), .val (.int (0 : Int32)), s12] [])) _
  refine XS.iload X0.here hx rfl (hb hby at_138) rfl ?_
  show Steps p.tables e below (T0.setTop (mkF m 140 #[s0, .val (.long j1), .second, s3, s4, .val (.long j5), .second, s7, .val (.int i8), s9, .val (.int (1 : Int32)), .val (.int (0 : Int32)), s12] [(.int i8)])) _
  refine XS.iconst X0.here hx rfl (hb hby at_140) ?_
  show Steps p.tables e below (T0.setTop (mkF m 141 #[s0, .val (.long j1), .second, s3, s4, .val (.long j5), .second, s7, .val (.int i8), s9, .val (.int (1 : Int32)), .val (.int (0 : Int32)), s12] [(.int (1 : Int32)), (.int i8)])) _
  refine XS.icmpYes X0.here hx rfl (pc0 := 141) (pc' := 164) rfl (hb hby at_141) rfl (feq hc141).2 (by decide) (by decide) ?_
  show Steps p.tables e below (T0.setTop (mkF m 164 #[s0, .val (.long j1), .second, s3, s4, .val (.long j5), .second, s7, .val (.int i8), s9, .val (.int (1 : Int32)), .val (.int (0 : Int32)), s12] [])) _
  refine XS.iload X0.here hx rfl (hb hby at_164) rfl ?_
  show Steps p.tables e below (T0.setTop (mkF m 166 #[s0, .val (.long j1), .second, s3, s4, .val (.long j5), .second, s7, .val (.int i8), s9, .val (.int (1 : Int32)), .val (.int (0 : Int32)), s12] [(.int i8)])) _
  refine XS.iconst X0.here hx rfl (hb hby at_166) ?_
  show Steps p.tables e below (T0.setTop (mkF m 167 #[s0, .val (.long j1), .second, s3, s4, .val (.long j5), .second, s7, .val (.int i8), s9, .val (.int (1 : Int32)), .val (.int (0 : Int32)), s12] [(.int (2 : Int32)), (.int i8)])) _
  refine XS.icmpNo X0.here hx rfl (hb hby at_167) rfl (teq hc167).2 ?_
  show Steps p.tables e below (T0.setTop (mkF m 170 #[s0, .val (.long j1), .second, s3, s4, .val (.long j5), .second, s7, .val (.int i8), s9, .val (.int (1 : Int32)), .val (.int (0 : Int32)), s12] [])) _
  refine XS.iload X0.here hx rfl (hb hby at_170) rfl ?_
  show Steps p.tables e below (T0.setTop (mkF m 172 #[s0, .val (.long j1), .second, s3, s4, .val (.long j5), .second, s7, .val (.int i8), s9, .val (.int (1 : Int32)), .val (.int (0 : Int32)), s12] [(.int (1 : Int32))])) _
  refine XS.ifYes X0.here hx rfl (pc0 := 172) (pc' := 184) rfl (hb hby at_172) rfl ((if0 _ _).trans (feq hc172).2) (by decide) (by decide) ?_
  show Steps p.tables e below (T0.setTop (mkF m 184 #[s0, .val (.long j1), .second, s3, s4, .val (.long j5), .second, s7, .val (.int i8), s9, .val (.int (1 : Int32)), .val (.int (0 : Int32)), s12] [])) _
  refine XS.iconst X0.here hx rfl (hb hby at_184) ?_
  show Steps p.tables e below (T0.setTop (mkF m 185 #[s0, .val (.long j1), .second, s3, s4, .val (.long j5), .second, s7, .val (.int i8), s9, .val (.int (1 : Int32)), .val (.int (0 : Int32)), s12] [(.int (0 : Int32))])) _
  refine XS.istore X0.here hx rfl (hb hby at_185) rfl (l' := #[s0, .val (.long j1), .second, s3, s4, .val (.long j5), .second, s7, .val (.int i8), s9, .val (.int (1 : Int32)), .val (.int (0 : Int32)), .val (.int (0 : Int32))]) (os_own_C20_185 hs12) ?_
  show Steps p.tables e below (T0.setTop (mkF m 187 #[s0, .val (.long j1), .second, s3, s4, .val (.long j5), .second, s7, .val (.int i8), s9, .val (.int (1 : Int32)), .val (.int (0 : Int32)), .val (.int (0 : Int32))] [])) _
  refine XS.goto X0.here hx rfl (pc0 := 187) (pc' := 202) rfl (hb hby at_187) (by decide) (by decide) ?_
  exact kt
set_option maxRecDepth 65536 in
set_option maxHeartbeats 40000000 in
theorem own_C21 {p : Program} {l : Launch} {e : Env} {R : Room} {s : State} {m : MethodId} {args : Array Value} {below : List Frame} {meth : Method} {c : Code} {T0 : State} {locs : List Loc} {cells slots : Nat} {Z : State} {a0 : Array Value} {h0 : Heap} (s0 : Slot) (j1 : Int64) (s3 : Slot) (s4 : Slot) (j5 : Int64) (s7 : Slot) (i8 : Int32) (s9 : Slot) (s10 : Slot) (s11 : Slot) (s12 : Slot)
    (X0 : Stand p l e R s m args below meth c T0 locs cells slots) (hx : p.tables.exec = Jvm.exec) (hZ : Z.Warmed39 s.vm) (hw : ∀ d ∈ tables_1, d.before a0 Z = true) (hby : c.code = code) (hml : c.maxLocals = 13) (hown : s.vm.findClass "com/example/sanction/sanction/language/OperatorHoldsPinLaw" = some m.cls) (e0 : T0.heap = h0) (hs10 : One s10) (hs11 : One s11) (hs12 : One s12) (hc102 : ¬ ((lcmpW j1 j5) < (0 : Int32))) (hc116 : (lcmpW j1 j5) = (0 : Int32)) (hc128 : ¬ (i8 = (0 : Int32))) (hc141 : ¬ (i8 = (1 : Int32))) (hc167 : i8 = (2 : Int32)) (hc177 : ¬ ((1 : Int32) = (0 : Int32))) :
    ∃ (T' : State), Stand p l e R s m args below meth c T' locs cells slots ∧ T'.heap = h0 ∧
      ∀ target, Steps p.tables e below (T'.setTop (mkF m 202 #[s0, .val (.long j1), .second, s3, s4, .val (.long j5), .second, s7, .val (.int i8), s9, .val (.int (0 : Int32)), .val (.int (1 : Int32)), .val (.int (0 : Int32))] [])) target → Steps p.tables e below (T0.setTop (mkF m 98 #[s0, .val (.long j1), .second, s3, s4, .val (.long j5), .second, s7, .val (.int i8), s9, s10, s11, s12] [])) target := by
  refine ⟨T0, X0, e0, fun target kt => ?_⟩
  show Steps p.tables e below (T0.setTop (mkF m 98 #[s0, .val (.long j1), .second, s3, s4, .val (.long j5), .second, s7, .val (.int i8), s9, s10, s11, s12] [])) _
  refine XS.lloadN X0.here hx rfl (hb hby at_98) rfl ?_
  show Steps p.tables e below (T0.setTop (mkF m 99 #[s0, .val (.long j1), .second, s3, s4, .val (.long j5), .second, s7, .val (.int i8), s9, s10, s11, s12] [(.long j1)])) _
  refine XS.lload X0.here hx rfl (hb hby at_99) rfl ?_
  show Steps p.tables e below (T0.setTop (mkF m 101 #[s0, .val (.long j1), .second, s3, s4, .val (.long j5), .second, s7, .val (.int i8), s9, s10, s11, s12] [(.long j5), (.long j1)])) _
  refine XS.lcmp X0.here hx rfl (hb hby at_101) rfl ?_
  show Steps p.tables e below (T0.setTop (mkF m 102 #[s0, .val (.long j1), .second, s3, s4, .val (.long j5), .second, s7, .val (.int i8), s9, s10, s11, s12] [(.int (lcmpW j1 j5))])) _
  refine XS.ifYes X0.here hx rfl (pc0 := 102) (pc' := 109) rfl (hb hby at_102) rfl ((if0 _ _).trans (flt hc102).2.1) (by decide) (by decide) ?_
  show Steps p.tables e below (T0.setTop (mkF m 109 #[s0, .val (.long j1), .second, s3, s4, .val (.long j5), .second, s7, .val (.int i8), s9, s10, s11, s12] [])) _
  refine XS.iconst X0.here hx rfl (hb hby at_109) ?_
  show Steps p.tables e below (T0.setTop (mkF m 110 #[s0, .val (.long j1), .second, s3, s4, .val (.long j5), .second, s7, .val (.int i8), s9, s10, s11, s12] [(.int (0 : Int32))])) _
  refine XS.istore X0.here hx rfl (hb hby at_110) rfl (l' := #[s0, .val (.long j1), .second, s3, s4, .val (.long j5), .second, s7, .val (.int i8), s9, .val (.int (0 : Int32)), s11, s12]) (os_own_C21_110 hs10) ?_
  show Steps p.tables e below (T0.setTop (mkF m 112 #[s0, .val (.long j1), .second, s3, s4, .val (.long j5), .second, s7, .val (.int i8), s9, .val (.int (0 : Int32)), s11, s12] [])) _
  refine XS.lloadN X0.here hx rfl (hb hby at_112) rfl ?_
  show Steps p.tables e below (T0.setTop (mkF m 113 #[s0, .val (.long j1), .second, s3, s4, .val (.long j5), .second, s7, .val (.int i8), s9, .val (.int (0 : Int32)), s11, s12] [(.long j1)])) _
  refine XS.lload X0.here hx rfl (hb hby at_113) rfl ?_
  show Steps p.tables e below (T0.setTop (mkF m 115 #[s0, .val (.long j1), .second, s3, s4, .val (.long j5), .second, s7, .val (.int i8), s9, .val (.int (0 : Int32)), s11, s12] [(.long j5), (.long j1)])) _
  refine XS.lcmp X0.here hx rfl (hb hby at_115) rfl ?_
  show Steps p.tables e below (T0.setTop (mkF m 116 #[s0, .val (.long j1), .second, s3, s4, .val (.long j5), .second, s7, .val (.int i8), s9, .val (.int (0 : Int32)), s11, s12] [(.int (lcmpW j1 j5))])) _
  refine XS.ifNo X0.here hx rfl (hb hby at_116) rfl ((if0 _ _).trans (teq hc116).2) ?_
  show Steps p.tables e below (T0.setTop (mkF m 119 #[s0, .val (.long j1), .second, s3, s4, .val (.long j5), .second, s7, .val (.int i8), s9, .val (.int (0 : Int32)), s11, s12] [])) _
  refine XS.iconst X0.here hx rfl (hb hby at_119) ?_
  show Steps p.tables e below (T0.setTop (mkF m 120 #[s0, .val (.long j1), .second, s3, s4, .val (.long j5), .second, s7, .val (.int i8), s9, .val (.int (0 : Int32)), s11, s12] [(.int (1 : Int32))])) _
  refine XS.goto X0.here hx rfl (pc0 := 120) (pc' := 124) rfl (hb hby at_120) (by decide) (by decide) ?_
  show Steps p.tables e below (T0.setTop (mkF m 124 #[s0, .val (.long j1), .second, s3, s4, .val (.long j5), .second, s7, .val (.int i8), s9, .val (.int (0 : Int32)), s11, s12] [(.int (1 : Int32))])) _
  refine XS.istore X0.here hx rfl (hb hby at_124) rfl (l' := #[s0, .val (.long j1), .second, s3, s4, .val (.long j5), .second, s7, .val (.int i8), s9, .val (.int (0 : Int32)), .val (.int (1 : Int32)), s12]) (os_own_C21_124 hs11) ?_
  show Steps p.tables e below (T0.setTop (mkF m 126 #[s0, .val (.long j1), .second, s3, s4, .val (.long j5), .second, s7, .val (.int i8), s9, .val (.int (0 : Int32)), .val (.int (1 : Int32)), s12] [])) _
  refine XS.iload X0.here hx rfl (hb hby at_126) rfl ?_
  show Steps p.tables e below (T0.setTop (mkF m 128 #[s0, .val (.long j1), .second, s3, s4, .val (.long j5), .second, s7, .val (.int i8), s9, .val (.int (0 : Int32)), .val (.int (1 : Int32)), s12] [(.int i8)])) _
  refine XS.ifYes X0.here hx rfl (pc0 := 128) (pc' := 138) rfl (hb hby at_128) rfl ((if0 _ _).trans (feq hc128).2) (by decide) (by decide) ?_
  show Steps p.tables e below (T0.setTop (mkF m 138 #[s0, .val (.long j1), .second, s3, s4, .val (.long j5), .second, s7, .val (.int i8), s9, .val (.int (0 : Int32)), .val (.int (1 : Int32)), s12] [])) _
  refine XS.iload X0.here hx rfl (hb hby at_138) rfl ?_
  show Steps p.tables e below (T0.setTop (mkF m 140 #[s0, .val (.long j1), .second, s3, s4, .val (.long j5), .second, s7, .val (.int i8), s9, .val (.int (0 : Int32)), .val (.int (1 : Int32)), s12] [(.int i8)])) _
  refine XS.iconst X0.here hx rfl (hb hby at_140) ?_
  show Steps p.tables e below (T0.setTop (mkF m 141 #[s0, .val (.long j1), .second, s3, s4, .val (.long j5), .second, s7, .val (.int i8), s9, .val (.int (0 : Int32)), .val (.int (1 : Int32)), s12] [(.int (1 : Int32)), (.int i8)])) _
  refine XS.icmpYes X0.here hx rfl (pc0 := 141) (pc' := 164) rfl (hb hby at_141) rfl (feq hc141).2 (by decide) (by decide) ?_
  show Steps p.tables e below (T0.setTop (mkF m 164 #[s0, .val (.long j1), .second, s3, s4, .val (.long j5), .second, s7, .val (.int i8), s9, .val (.int (0 : Int32)), .val (.int (1 : Int32)), s12] [])) _
  refine XS.iload X0.here hx rfl (hb hby at_164) rfl ?_
  show Steps p.tables e below (T0.setTop (mkF m 166 #[s0, .val (.long j1), .second, s3, s4, .val (.long j5), .second, s7, .val (.int i8), s9, .val (.int (0 : Int32)), .val (.int (1 : Int32)), s12] [(.int i8)])) _
  refine XS.iconst X0.here hx rfl (hb hby at_166) ?_
  show Steps p.tables e below (T0.setTop (mkF m 167 #[s0, .val (.long j1), .second, s3, s4, .val (.long j5), .second, s7, .val (.int i8), s9, .val (.int (0 : Int32)), .val (.int (1 : Int32)), s12] [(.int (2 : Int32)), (.int i8)])) _
  refine XS.icmpNo X0.here hx rfl (hb hby at_167) rfl (teq hc167).2 ?_
  show Steps p.tables e below (T0.setTop (mkF m 170 #[s0, .val (.long j1), .second, s3, s4, .val (.long j5), .second, s7, .val (.int i8), s9, .val (.int (0 : Int32)), .val (.int (1 : Int32)), s12] [])) _
  refine XS.iload X0.here hx rfl (hb hby at_170) rfl ?_
  show Steps p.tables e below (T0.setTop (mkF m 172 #[s0, .val (.long j1), .second, s3, s4, .val (.long j5), .second, s7, .val (.int i8), s9, .val (.int (0 : Int32)), .val (.int (1 : Int32)), s12] [(.int (0 : Int32))])) _
  refine XS.ifNo X0.here hx rfl (hb hby at_172) rfl ((if0 _ _).trans (teq (rfl : (0 : Int32) = (0 : Int32))).2) ?_
  show Steps p.tables e below (T0.setTop (mkF m 175 #[s0, .val (.long j1), .second, s3, s4, .val (.long j5), .second, s7, .val (.int i8), s9, .val (.int (0 : Int32)), .val (.int (1 : Int32)), s12] [])) _
  refine XS.iload X0.here hx rfl (hb hby at_175) rfl ?_
  show Steps p.tables e below (T0.setTop (mkF m 177 #[s0, .val (.long j1), .second, s3, s4, .val (.long j5), .second, s7, .val (.int i8), s9, .val (.int (0 : Int32)), .val (.int (1 : Int32)), s12] [(.int (1 : Int32))])) _
  refine XS.ifYes X0.here hx rfl (pc0 := 177) (pc' := 184) rfl (hb hby at_177) rfl ((if0 _ _).trans (feq hc177).2) (by decide) (by decide) ?_
  show Steps p.tables e below (T0.setTop (mkF m 184 #[s0, .val (.long j1), .second, s3, s4, .val (.long j5), .second, s7, .val (.int i8), s9, .val (.int (0 : Int32)), .val (.int (1 : Int32)), s12] [])) _
  refine XS.iconst X0.here hx rfl (hb hby at_184) ?_
  show Steps p.tables e below (T0.setTop (mkF m 185 #[s0, .val (.long j1), .second, s3, s4, .val (.long j5), .second, s7, .val (.int i8), s9, .val (.int (0 : Int32)), .val (.int (1 : Int32)), s12] [(.int (0 : Int32))])) _
  refine XS.istore X0.here hx rfl (hb hby at_185) rfl (l' := #[s0, .val (.long j1), .second, s3, s4, .val (.long j5), .second, s7, .val (.int i8), s9, .val (.int (0 : Int32)), .val (.int (1 : Int32)), .val (.int (0 : Int32))]) (os_own_C21_185 hs12) ?_
  show Steps p.tables e below (T0.setTop (mkF m 187 #[s0, .val (.long j1), .second, s3, s4, .val (.long j5), .second, s7, .val (.int i8), s9, .val (.int (0 : Int32)), .val (.int (1 : Int32)), .val (.int (0 : Int32))] [])) _
  refine XS.goto X0.here hx rfl (pc0 := 187) (pc' := 202) rfl (hb hby at_187) (by decide) (by decide) ?_
  exact kt
set_option maxRecDepth 65536 in
set_option maxHeartbeats 40000000 in
theorem own_C22 {p : Program} {l : Launch} {e : Env} {R : Room} {s : State} {m : MethodId} {args : Array Value} {below : List Frame} {meth : Method} {c : Code} {T0 : State} {locs : List Loc} {cells slots : Nat} {Z : State} {a0 : Array Value} {h0 : Heap} (s0 : Slot) (j1 : Int64) (s3 : Slot) (s4 : Slot) (j5 : Int64) (s7 : Slot) (i8 : Int32) (s9 : Slot) (s10 : Slot) (s11 : Slot) (s12 : Slot)
    (X0 : Stand p l e R s m args below meth c T0 locs cells slots) (hx : p.tables.exec = Jvm.exec) (hZ : Z.Warmed39 s.vm) (hw : ∀ d ∈ tables_1, d.before a0 Z = true) (hby : c.code = code) (hml : c.maxLocals = 13) (hown : s.vm.findClass "com/example/sanction/sanction/language/OperatorHoldsPinLaw" = some m.cls) (e0 : T0.heap = h0) (hs10 : One s10) (hs11 : One s11) (hs12 : One s12) (hc102 : ¬ ((lcmpW j1 j5) < (0 : Int32))) (hc116 : ¬ ((lcmpW j1 j5) = (0 : Int32))) (hc128 : ¬ (i8 = (0 : Int32))) (hc141 : ¬ (i8 = (1 : Int32))) (hc167 : i8 = (2 : Int32)) :
    ∃ (T' : State), Stand p l e R s m args below meth c T' locs cells slots ∧ T'.heap = h0 ∧
      ∀ target, Steps p.tables e below (T'.setTop (mkF m 202 #[s0, .val (.long j1), .second, s3, s4, .val (.long j5), .second, s7, .val (.int i8), s9, .val (.int (0 : Int32)), .val (.int (0 : Int32)), .val (.int (1 : Int32))] [])) target → Steps p.tables e below (T0.setTop (mkF m 98 #[s0, .val (.long j1), .second, s3, s4, .val (.long j5), .second, s7, .val (.int i8), s9, s10, s11, s12] [])) target := by
  refine ⟨T0, X0, e0, fun target kt => ?_⟩
  show Steps p.tables e below (T0.setTop (mkF m 98 #[s0, .val (.long j1), .second, s3, s4, .val (.long j5), .second, s7, .val (.int i8), s9, s10, s11, s12] [])) _
  refine XS.lloadN X0.here hx rfl (hb hby at_98) rfl ?_
  show Steps p.tables e below (T0.setTop (mkF m 99 #[s0, .val (.long j1), .second, s3, s4, .val (.long j5), .second, s7, .val (.int i8), s9, s10, s11, s12] [(.long j1)])) _
  refine XS.lload X0.here hx rfl (hb hby at_99) rfl ?_
  show Steps p.tables e below (T0.setTop (mkF m 101 #[s0, .val (.long j1), .second, s3, s4, .val (.long j5), .second, s7, .val (.int i8), s9, s10, s11, s12] [(.long j5), (.long j1)])) _
  refine XS.lcmp X0.here hx rfl (hb hby at_101) rfl ?_
  show Steps p.tables e below (T0.setTop (mkF m 102 #[s0, .val (.long j1), .second, s3, s4, .val (.long j5), .second, s7, .val (.int i8), s9, s10, s11, s12] [(.int (lcmpW j1 j5))])) _
  refine XS.ifYes X0.here hx rfl (pc0 := 102) (pc' := 109) rfl (hb hby at_102) rfl ((if0 _ _).trans (flt hc102).2.1) (by decide) (by decide) ?_
  show Steps p.tables e below (T0.setTop (mkF m 109 #[s0, .val (.long j1), .second, s3, s4, .val (.long j5), .second, s7, .val (.int i8), s9, s10, s11, s12] [])) _
  refine XS.iconst X0.here hx rfl (hb hby at_109) ?_
  show Steps p.tables e below (T0.setTop (mkF m 110 #[s0, .val (.long j1), .second, s3, s4, .val (.long j5), .second, s7, .val (.int i8), s9, s10, s11, s12] [(.int (0 : Int32))])) _
  refine XS.istore X0.here hx rfl (hb hby at_110) rfl (l' := #[s0, .val (.long j1), .second, s3, s4, .val (.long j5), .second, s7, .val (.int i8), s9, .val (.int (0 : Int32)), s11, s12]) (os_own_C22_110 hs10) ?_
  show Steps p.tables e below (T0.setTop (mkF m 112 #[s0, .val (.long j1), .second, s3, s4, .val (.long j5), .second, s7, .val (.int i8), s9, .val (.int (0 : Int32)), s11, s12] [])) _
  refine XS.lloadN X0.here hx rfl (hb hby at_112) rfl ?_
  show Steps p.tables e below (T0.setTop (mkF m 113 #[s0, .val (.long j1), .second, s3, s4, .val (.long j5), .second, s7, .val (.int i8), s9, .val (.int (0 : Int32)), s11, s12] [(.long j1)])) _
  refine XS.lload X0.here hx rfl (hb hby at_113) rfl ?_
  show Steps p.tables e below (T0.setTop (mkF m 115 #[s0, .val (.long j1), .second, s3, s4, .val (.long j5), .second, s7, .val (.int i8), s9, .val (.int (0 : Int32)), s11, s12] [(.long j5), (.long j1)])) _
  refine XS.lcmp X0.here hx rfl (hb hby at_115) rfl ?_
  show Steps p.tables e below (T0.setTop (mkF m 116 #[s0, .val (.long j1), .second, s3, s4, .val (.long j5), .second, s7, .val (.int i8), s9, .val (.int (0 : Int32)), s11, s12] [(.int (lcmpW j1 j5))])) _
  refine XS.ifYes X0.here hx rfl (pc0 := 116) (pc' := 123) rfl (hb hby at_116) rfl ((if0 _ _).trans (feq hc116).2) (by decide) (by decide) ?_
  show Steps p.tables e below (T0.setTop (mkF m 123 #[s0, .val (.long j1), .second, s3, s4, .val (.long j5), .second, s7, .val (.int i8), s9, .val (.int (0 : Int32)), s11, s12] [])) _
  refine XS.iconst X0.here hx rfl (hb hby at_123) ?_
  show Steps p.tables e below (T0.setTop (mkF m 124 #[s0, .val (.long j1), .second, s3, s4, .val (.long j5), .second, s7, .val (.int i8), s9, .val (.int (0 : Int32)), s11, s12] [(.int (0 : Int32))])) _
  refine XS.istore X0.here hx rfl (hb hby at_124) rfl (l' := #[s0, .val (.long j1), .second, s3, s4, .val (.long j5), .second, s7, .val (.int i8), s9, .val (.int (0 : Int32)), .val (.int (0 : Int32)), s12]) (os_own_C22_124 hs11) ?_
  show Steps p.tables e below (T0.setTop (mkF m 126 #[s0, .val (.long j1), .second, s3, s4, .val (.long j5), .second, s7, .val (.int i8), s9, .val (.int (0 : Int32)), .val (.int (0 : Int32)), s12] [])) _
  refine XS.iload X0.here hx rfl (hb hby at_126) rfl ?_
  show Steps p.tables e below (T0.setTop (mkF m 128 #[s0, .val (.long j1), .second, s3, s4, .val (.long j5), .second, s7, .val (.int i8), s9, .val (.int (0 : Int32)), .val (.int (0 : Int32)), s12] [(.int i8)])) _
  refine XS.ifYes X0.here hx rfl (pc0 := 128) (pc' := 138) rfl (hb hby at_128) rfl ((if0 _ _).trans (feq hc128).2) (by decide) (by decide) ?_
  show Steps p.tables e below (T0.setTop (mkF m 138 #[s0, .val (.long j1), .second, s3, s4, .val (.long j5), .second, s7, .val (.int i8), s9, .val (.int (0 : Int32)), .val (.int (0 : Int32)), s12] [])) _
  refine XS.iload X0.here hx rfl (hb hby at_138) rfl ?_
  show Steps p.tables e below (T0.setTop (mkF m 140 #[s0, .val (.long j1), .second, s3, s4, .val (.long j5), .second, s7, .val (.int i8), s9, .val (.int (0 : Int32)), .val (.int (0 : Int32)), s12] [(.int i8)])) _
  refine XS.iconst X0.here hx rfl (hb hby at_140) ?_
  show Steps p.tables e below (T0.setTop (mkF m 141 #[s0, .val (.long j1), .second, s3, s4, .val (.long j5), .second, s7, .val (.int i8), s9, .val (.int (0 : Int32)), .val (.int (0 : Int32)), s12] [(.int (1 : Int32)), (.int i8)])) _
  refine XS.icmpYes X0.here hx rfl (pc0 := 141) (pc' := 164) rfl (hb hby at_141) rfl (feq hc141).2 (by decide) (by decide) ?_
  show Steps p.tables e below (T0.setTop (mkF m 164 #[s0, .val (.long j1), .second, s3, s4, .val (.long j5), .second, s7, .val (.int i8), s9, .val (.int (0 : Int32)), .val (.int (0 : Int32)), s12] [])) _
  refine XS.iload X0.here hx rfl (hb hby at_164) rfl ?_
  show Steps p.tables e below (T0.setTop (mkF m 166 #[s0, .val (.long j1), .second, s3, s4, .val (.long j5), .second, s7, .val (.int i8), s9, .val (.int (0 : Int32)), .val (.int (0 : Int32)), s12] [(.int i8)])) _
  refine XS.iconst X0.here hx rfl (hb hby at_166) ?_
  show Steps p.tables e below (T0.setTop (mkF m 167 #[s0, .val (.long j1), .second, s3, s4, .val (.long j5), .second, s7, .val (.int i8), s9, .val (.int (0 : Int32)), .val (.int (0 : Int32)), s12] [(.int (2 : Int32)), (.int i8)])) _
  refine XS.icmpNo X0.here hx rfl (hb hby at_167) rfl (teq hc167).2 ?_
  show Steps p.tables e below (T0.setTop (mkF m 170 #[s0, .val (.long j1), .second, s3, s4, .val (.long j5), .second, s7, .val (.int i8), s9, .val (.int (0 : Int32)), .val (.int (0 : Int32)), s12] [])) _
  refine XS.iload X0.here hx rfl (hb hby at_170) rfl ?_
  show Steps p.tables e below (T0.setTop (mkF m 172 #[s0, .val (.long j1), .second, s3, s4, .val (.long j5), .second, s7, .val (.int i8), s9, .val (.int (0 : Int32)), .val (.int (0 : Int32)), s12] [(.int (0 : Int32))])) _
  refine XS.ifNo X0.here hx rfl (hb hby at_172) rfl ((if0 _ _).trans (teq (rfl : (0 : Int32) = (0 : Int32))).2) ?_
  show Steps p.tables e below (T0.setTop (mkF m 175 #[s0, .val (.long j1), .second, s3, s4, .val (.long j5), .second, s7, .val (.int i8), s9, .val (.int (0 : Int32)), .val (.int (0 : Int32)), s12] [])) _
  refine XS.iload X0.here hx rfl (hb hby at_175) rfl ?_
  show Steps p.tables e below (T0.setTop (mkF m 177 #[s0, .val (.long j1), .second, s3, s4, .val (.long j5), .second, s7, .val (.int i8), s9, .val (.int (0 : Int32)), .val (.int (0 : Int32)), s12] [(.int (0 : Int32))])) _
  refine XS.ifNo X0.here hx rfl (hb hby at_177) rfl ((if0 _ _).trans (teq (rfl : (0 : Int32) = (0 : Int32))).2) ?_
  show Steps p.tables e below (T0.setTop (mkF m 180 #[s0, .val (.long j1), .second, s3, s4, .val (.long j5), .second, s7, .val (.int i8), s9, .val (.int (0 : Int32)), .val (.int (0 : Int32)), s12] [])) _
  refine XS.iconst X0.here hx rfl (hb hby at_180) ?_
  show Steps p.tables e below (T0.setTop (mkF m 181 #[s0, .val (.long j1), .second, s3, s4, .val (.long j5), .second, s7, .val (.int i8), s9, .val (.int (0 : Int32)), .val (.int (0 : Int32)), s12] [(.int (1 : Int32))])) _
  refine XS.goto X0.here hx rfl (pc0 := 181) (pc' := 185) rfl (hb hby at_181) (by decide) (by decide) ?_
  show Steps p.tables e below (T0.setTop (mkF m 185 #[s0, .val (.long j1), .second, s3, s4, .val (.long j5), .second, s7, .val (.int i8), s9, .val (.int (0 : Int32)), .val (.int (0 : Int32)), s12] [(.int (1 : Int32))])) _
  refine XS.istore X0.here hx rfl (hb hby at_185) rfl (l' := #[s0, .val (.long j1), .second, s3, s4, .val (.long j5), .second, s7, .val (.int i8), s9, .val (.int (0 : Int32)), .val (.int (0 : Int32)), .val (.int (1 : Int32))]) (os_own_C22_185 hs12) ?_
  show Steps p.tables e below (T0.setTop (mkF m 187 #[s0, .val (.long j1), .second, s3, s4, .val (.long j5), .second, s7, .val (.int i8), s9, .val (.int (0 : Int32)), .val (.int (0 : Int32)), .val (.int (1 : Int32))] [])) _
  refine XS.goto X0.here hx rfl (pc0 := 187) (pc' := 202) rfl (hb hby at_187) (by decide) (by decide) ?_
  exact kt
set_option maxRecDepth 65536 in
set_option maxHeartbeats 40000000 in
theorem own_C30 {p : Program} {l : Launch} {e : Env} {R : Room} {s : State} {m : MethodId} {args : Array Value} {below : List Frame} {meth : Method} {c : Code} {T0 : State} {locs : List Loc} {cells slots : Nat} {Z : State} {a0 : Array Value} {h0 : Heap} (s0 : Slot) (j1 : Int64) (s3 : Slot) (s4 : Slot) (j5 : Int64) (s7 : Slot) (i8 : Int32) (s9 : Slot) (s10 : Slot) (s11 : Slot) (s12 : Slot)
    (X0 : Stand p l e R s m args below meth c T0 locs cells slots) (hx : p.tables.exec = Jvm.exec) (hZ : Z.Warmed39 s.vm) (hw : ∀ d ∈ tables_1, d.before a0 Z = true) (hby : c.code = code) (hml : c.maxLocals = 13) (hown : s.vm.findClass "com/example/sanction/sanction/language/OperatorHoldsPinLaw" = some m.cls) (e0 : T0.heap = h0) (hs10 : One s10) (hs11 : One s11) (hs12 : One s12) (hc102 : (lcmpW j1 j5) < (0 : Int32)) (hc116 : ¬ ((lcmpW j1 j5) = (0 : Int32))) (hc128 : ¬ (i8 = (0 : Int32))) (hc141 : ¬ (i8 = (1 : Int32))) (hc167 : ¬ (i8 = (2 : Int32))) (hc192 : ¬ ((1 : Int32) = (0 : Int32))) :
    ∃ (T' : State), Stand p l e R s m args below meth c T' locs cells slots ∧ T'.heap = h0 ∧
      ∀ target, Steps p.tables e below (T'.setTop (mkF m 202 #[s0, .val (.long j1), .second, s3, s4, .val (.long j5), .second, s7, .val (.int i8), s9, .val (.int (1 : Int32)), .val (.int (0 : Int32)), .val (.int (0 : Int32))] [])) target → Steps p.tables e below (T0.setTop (mkF m 98 #[s0, .val (.long j1), .second, s3, s4, .val (.long j5), .second, s7, .val (.int i8), s9, s10, s11, s12] [])) target := by
  refine ⟨T0, X0, e0, fun target kt => ?_⟩
  show Steps p.tables e below (T0.setTop (mkF m 98 #[s0, .val (.long j1), .second, s3, s4, .val (.long j5), .second, s7, .val (.int i8), s9, s10, s11, s12] [])) _
  refine XS.lloadN X0.here hx rfl (hb hby at_98) rfl ?_
  show Steps p.tables e below (T0.setTop (mkF m 99 #[s0, .val (.long j1), .second, s3, s4, .val (.long j5), .second, s7, .val (.int i8), s9, s10, s11, s12] [(.long j1)])) _
  refine XS.lload X0.here hx rfl (hb hby at_99) rfl ?_
  show Steps p.tables e below (T0.setTop (mkF m 101 #[s0, .val (.long j1), .second, s3, s4, .val (.long j5), .second, s7, .val (.int i8), s9, s10, s11, s12] [(.long j5), (.long j1)])) _
  refine XS.lcmp X0.here hx rfl (hb hby at_101) rfl ?_
  show Steps p.tables e below (T0.setTop (mkF m 102 #[s0, .val (.long j1), .second, s3, s4, .val (.long j5), .second, s7, .val (.int i8), s9, s10, s11, s12] [(.int (lcmpW j1 j5))])) _
  refine XS.ifNo X0.here hx rfl (hb hby at_102) rfl ((if0 _ _).trans (tlt hc102).2.1) ?_
  show Steps p.tables e below (T0.setTop (mkF m 105 #[s0, .val (.long j1), .second, s3, s4, .val (.long j5), .second, s7, .val (.int i8), s9, s10, s11, s12] [])) _
  refine XS.iconst X0.here hx rfl (hb hby at_105) ?_
  show Steps p.tables e below (T0.setTop (mkF m 106 #[s0, .val (.long j1), .second, s3, s4, .val (.long j5), .second, s7, .val (.int i8), s9, s10, s11, s12] [(.int (1 : Int32))])) _
  refine XS.goto X0.here hx rfl (pc0 := 106) (pc' := 110) rfl (hb hby at_106) (by decide) (by decide) ?_
  show Steps p.tables e below (T0.setTop (mkF m 110 #[s0, .val (.long j1), .second, s3, s4, .val (.long j5), .second, s7, .val (.int i8), s9, s10, s11, s12] [(.int (1 : Int32))])) _
  refine XS.istore X0.here hx rfl (hb hby at_110) rfl (l' := #[s0, .val (.long j1), .second, s3, s4, .val (.long j5), .second, s7, .val (.int i8), s9, .val (.int (1 : Int32)), s11, s12]) (os_own_C30_110 hs10) ?_
  show Steps p.tables e below (T0.setTop (mkF m 112 #[s0, .val (.long j1), .second, s3, s4, .val (.long j5), .second, s7, .val (.int i8), s9, .val (.int (1 : Int32)), s11, s12] [])) _
  refine XS.lloadN X0.here hx rfl (hb hby at_112) rfl ?_
  show Steps p.tables e below (T0.setTop (mkF m 113 #[s0, .val (.long j1), .second, s3, s4, .val (.long j5), .second, s7, .val (.int i8), s9, .val (.int (1 : Int32)), s11, s12] [(.long j1)])) _
  refine XS.lload X0.here hx rfl (hb hby at_113) rfl ?_
  show Steps p.tables e below (T0.setTop (mkF m 115 #[s0, .val (.long j1), .second, s3, s4, .val (.long j5), .second, s7, .val (.int i8), s9, .val (.int (1 : Int32)), s11, s12] [(.long j5), (.long j1)])) _
  refine XS.lcmp X0.here hx rfl (hb hby at_115) rfl ?_
  show Steps p.tables e below (T0.setTop (mkF m 116 #[s0, .val (.long j1), .second, s3, s4, .val (.long j5), .second, s7, .val (.int i8), s9, .val (.int (1 : Int32)), s11, s12] [(.int (lcmpW j1 j5))])) _
  refine XS.ifYes X0.here hx rfl (pc0 := 116) (pc' := 123) rfl (hb hby at_116) rfl ((if0 _ _).trans (feq hc116).2) (by decide) (by decide) ?_
  show Steps p.tables e below (T0.setTop (mkF m 123 #[s0, .val (.long j1), .second, s3, s4, .val (.long j5), .second, s7, .val (.int i8), s9, .val (.int (1 : Int32)), s11, s12] [])) _
  refine XS.iconst X0.here hx rfl (hb hby at_123) ?_
  show Steps p.tables e below (T0.setTop (mkF m 124 #[s0, .val (.long j1), .second, s3, s4, .val (.long j5), .second, s7, .val (.int i8), s9, .val (.int (1 : Int32)), s11, s12] [(.int (0 : Int32))])) _
  refine XS.istore X0.here hx rfl (hb hby at_124) rfl (l' := #[s0, .val (.long j1), .second, s3, s4, .val (.long j5), .second, s7, .val (.int i8), s9, .val (.int (1 : Int32)), .val (.int (0 : Int32)), s12]) (os_own_C30_124 hs11) ?_
  show Steps p.tables e below (T0.setTop (mkF m 126 #[s0, .val (.long j1), .second, s3, s4, .val (.long j5), .second, s7, .val (.int i8), s9, .val (.int (1 : Int32)), .val (.int (0 : Int32)), s12] [])) _
  refine XS.iload X0.here hx rfl (hb hby at_126) rfl ?_
  show Steps p.tables e below (T0.setTop (mkF m 128 #[s0, .val (.long j1), .second, s3, s4, .val (.long j5), .second, s7, .val (.int i8), s9, .val (.int (1 : Int32)), .val (.int (0 : Int32)), s12] [(.int i8)])) _
  refine XS.ifYes X0.here hx rfl (pc0 := 128) (pc' := 138) rfl (hb hby at_128) rfl ((if0 _ _).trans (feq hc128).2) (by decide) (by decide) ?_
  show Steps p.tables e below (T0.setTop (mkF m 138 #[s0, .val (.long j1), .second, s3, s4, .val (.long j5), .second, s7, .val (.int i8), s9, .val (.int (1 : Int32)), .val (.int (0 : Int32)), s12] [])) _
  refine XS.iload X0.here hx rfl (hb hby at_138) rfl ?_
  show Steps p.tables e below (T0.setTop (mkF m 140 #[s0, .val (.long j1), .second, s3, s4, .val (.long j5), .second, s7, .val (.int i8), s9, .val (.int (1 : Int32)), .val (.int (0 : Int32)), s12] [(.int i8)])) _
  refine XS.iconst X0.here hx rfl (hb hby at_140) ?_
  show Steps p.tables e below (T0.setTop (mkF m 141 #[s0, .val (.long j1), .second, s3, s4, .val (.long j5), .second, s7, .val (.int i8), s9, .val (.int (1 : Int32)), .val (.int (0 : Int32)), s12] [(.int (1 : Int32)), (.int i8)])) _
  refine XS.icmpYes X0.here hx rfl (pc0 := 141) (pc' := 164) rfl (hb hby at_141) rfl (feq hc141).2 (by decide) (by decide) ?_
  show Steps p.tables e below (T0.setTop (mkF m 164 #[s0, .val (.long j1), .second, s3, s4, .val (.long j5), .second, s7, .val (.int i8), s9, .val (.int (1 : Int32)), .val (.int (0 : Int32)), s12] [])) _
  refine XS.iload X0.here hx rfl (hb hby at_164) rfl ?_
  show Steps p.tables e below (T0.setTop (mkF m 166 #[s0, .val (.long j1), .second, s3, s4, .val (.long j5), .second, s7, .val (.int i8), s9, .val (.int (1 : Int32)), .val (.int (0 : Int32)), s12] [(.int i8)])) _
  refine XS.iconst X0.here hx rfl (hb hby at_166) ?_
  show Steps p.tables e below (T0.setTop (mkF m 167 #[s0, .val (.long j1), .second, s3, s4, .val (.long j5), .second, s7, .val (.int i8), s9, .val (.int (1 : Int32)), .val (.int (0 : Int32)), s12] [(.int (2 : Int32)), (.int i8)])) _
  refine XS.icmpYes X0.here hx rfl (pc0 := 167) (pc' := 190) rfl (hb hby at_167) rfl (feq hc167).2 (by decide) (by decide) ?_
  show Steps p.tables e below (T0.setTop (mkF m 190 #[s0, .val (.long j1), .second, s3, s4, .val (.long j5), .second, s7, .val (.int i8), s9, .val (.int (1 : Int32)), .val (.int (0 : Int32)), s12] [])) _
  refine XS.iload X0.here hx rfl (hb hby at_190) rfl ?_
  show Steps p.tables e below (T0.setTop (mkF m 192 #[s0, .val (.long j1), .second, s3, s4, .val (.long j5), .second, s7, .val (.int i8), s9, .val (.int (1 : Int32)), .val (.int (0 : Int32)), s12] [(.int (1 : Int32))])) _
  refine XS.ifYes X0.here hx rfl (pc0 := 192) (pc' := 199) rfl (hb hby at_192) rfl ((if0 _ _).trans (feq hc192).2) (by decide) (by decide) ?_
  show Steps p.tables e below (T0.setTop (mkF m 199 #[s0, .val (.long j1), .second, s3, s4, .val (.long j5), .second, s7, .val (.int i8), s9, .val (.int (1 : Int32)), .val (.int (0 : Int32)), s12] [])) _
  refine XS.iconst X0.here hx rfl (hb hby at_199) ?_
  show Steps p.tables e below (T0.setTop (mkF m 200 #[s0, .val (.long j1), .second, s3, s4, .val (.long j5), .second, s7, .val (.int i8), s9, .val (.int (1 : Int32)), .val (.int (0 : Int32)), s12] [(.int (0 : Int32))])) _
  refine XS.istore X0.here hx rfl (hb hby at_200) rfl (l' := #[s0, .val (.long j1), .second, s3, s4, .val (.long j5), .second, s7, .val (.int i8), s9, .val (.int (1 : Int32)), .val (.int (0 : Int32)), .val (.int (0 : Int32))]) (os_own_C30_200 hs12) ?_
  exact kt
set_option maxRecDepth 65536 in
set_option maxHeartbeats 40000000 in
theorem own_C31 {p : Program} {l : Launch} {e : Env} {R : Room} {s : State} {m : MethodId} {args : Array Value} {below : List Frame} {meth : Method} {c : Code} {T0 : State} {locs : List Loc} {cells slots : Nat} {Z : State} {a0 : Array Value} {h0 : Heap} (s0 : Slot) (j1 : Int64) (s3 : Slot) (s4 : Slot) (j5 : Int64) (s7 : Slot) (i8 : Int32) (s9 : Slot) (s10 : Slot) (s11 : Slot) (s12 : Slot)
    (X0 : Stand p l e R s m args below meth c T0 locs cells slots) (hx : p.tables.exec = Jvm.exec) (hZ : Z.Warmed39 s.vm) (hw : ∀ d ∈ tables_1, d.before a0 Z = true) (hby : c.code = code) (hml : c.maxLocals = 13) (hown : s.vm.findClass "com/example/sanction/sanction/language/OperatorHoldsPinLaw" = some m.cls) (e0 : T0.heap = h0) (hs10 : One s10) (hs11 : One s11) (hs12 : One s12) (hc102 : ¬ ((lcmpW j1 j5) < (0 : Int32))) (hc116 : (lcmpW j1 j5) = (0 : Int32)) (hc128 : ¬ (i8 = (0 : Int32))) (hc141 : ¬ (i8 = (1 : Int32))) (hc167 : ¬ (i8 = (2 : Int32))) :
    ∃ (T' : State), Stand p l e R s m args below meth c T' locs cells slots ∧ T'.heap = h0 ∧
      ∀ target, Steps p.tables e below (T'.setTop (mkF m 202 #[s0, .val (.long j1), .second, s3, s4, .val (.long j5), .second, s7, .val (.int i8), s9, .val (.int (0 : Int32)), .val (.int (1 : Int32)), .val (.int (1 : Int32))] [])) target → Steps p.tables e below (T0.setTop (mkF m 98 #[s0, .val (.long j1), .second, s3, s4, .val (.long j5), .second, s7, .val (.int i8), s9, s10, s11, s12] [])) target := by
  refine ⟨T0, X0, e0, fun target kt => ?_⟩
  show Steps p.tables e below (T0.setTop (mkF m 98 #[s0, .val (.long j1), .second, s3, s4, .val (.long j5), .second, s7, .val (.int i8), s9, s10, s11, s12] [])) _
  refine XS.lloadN X0.here hx rfl (hb hby at_98) rfl ?_
  show Steps p.tables e below (T0.setTop (mkF m 99 #[s0, .val (.long j1), .second, s3, s4, .val (.long j5), .second, s7, .val (.int i8), s9, s10, s11, s12] [(.long j1)])) _
  refine XS.lload X0.here hx rfl (hb hby at_99) rfl ?_
  show Steps p.tables e below (T0.setTop (mkF m 101 #[s0, .val (.long j1), .second, s3, s4, .val (.long j5), .second, s7, .val (.int i8), s9, s10, s11, s12] [(.long j5), (.long j1)])) _
  refine XS.lcmp X0.here hx rfl (hb hby at_101) rfl ?_
  show Steps p.tables e below (T0.setTop (mkF m 102 #[s0, .val (.long j1), .second, s3, s4, .val (.long j5), .second, s7, .val (.int i8), s9, s10, s11, s12] [(.int (lcmpW j1 j5))])) _
  refine XS.ifYes X0.here hx rfl (pc0 := 102) (pc' := 109) rfl (hb hby at_102) rfl ((if0 _ _).trans (flt hc102).2.1) (by decide) (by decide) ?_
  show Steps p.tables e below (T0.setTop (mkF m 109 #[s0, .val (.long j1), .second, s3, s4, .val (.long j5), .second, s7, .val (.int i8), s9, s10, s11, s12] [])) _
  refine XS.iconst X0.here hx rfl (hb hby at_109) ?_
  show Steps p.tables e below (T0.setTop (mkF m 110 #[s0, .val (.long j1), .second, s3, s4, .val (.long j5), .second, s7, .val (.int i8), s9, s10, s11, s12] [(.int (0 : Int32))])) _
  refine XS.istore X0.here hx rfl (hb hby at_110) rfl (l' := #[s0, .val (.long j1), .second, s3, s4, .val (.long j5), .second, s7, .val (.int i8), s9, .val (.int (0 : Int32)), s11, s12]) (os_own_C31_110 hs10) ?_
  show Steps p.tables e below (T0.setTop (mkF m 112 #[s0, .val (.long j1), .second, s3, s4, .val (.long j5), .second, s7, .val (.int i8), s9, .val (.int (0 : Int32)), s11, s12] [])) _
  refine XS.lloadN X0.here hx rfl (hb hby at_112) rfl ?_
  show Steps p.tables e below (T0.setTop (mkF m 113 #[s0, .val (.long j1), .second, s3, s4, .val (.long j5), .second, s7, .val (.int i8), s9, .val (.int (0 : Int32)), s11, s12] [(.long j1)])) _
  refine XS.lload X0.here hx rfl (hb hby at_113) rfl ?_
  show Steps p.tables e below (T0.setTop (mkF m 115 #[s0, .val (.long j1), .second, s3, s4, .val (.long j5), .second, s7, .val (.int i8), s9, .val (.int (0 : Int32)), s11, s12] [(.long j5), (.long j1)])) _
  refine XS.lcmp X0.here hx rfl (hb hby at_115) rfl ?_
  show Steps p.tables e below (T0.setTop (mkF m 116 #[s0, .val (.long j1), .second, s3, s4, .val (.long j5), .second, s7, .val (.int i8), s9, .val (.int (0 : Int32)), s11, s12] [(.int (lcmpW j1 j5))])) _
  refine XS.ifNo X0.here hx rfl (hb hby at_116) rfl ((if0 _ _).trans (teq hc116).2) ?_
  show Steps p.tables e below (T0.setTop (mkF m 119 #[s0, .val (.long j1), .second, s3, s4, .val (.long j5), .second, s7, .val (.int i8), s9, .val (.int (0 : Int32)), s11, s12] [])) _
  refine XS.iconst X0.here hx rfl (hb hby at_119) ?_
  show Steps p.tables e below (T0.setTop (mkF m 120 #[s0, .val (.long j1), .second, s3, s4, .val (.long j5), .second, s7, .val (.int i8), s9, .val (.int (0 : Int32)), s11, s12] [(.int (1 : Int32))])) _
  refine XS.goto X0.here hx rfl (pc0 := 120) (pc' := 124) rfl (hb hby at_120) (by decide) (by decide) ?_
  show Steps p.tables e below (T0.setTop (mkF m 124 #[s0, .val (.long j1), .second, s3, s4, .val (.long j5), .second, s7, .val (.int i8), s9, .val (.int (0 : Int32)), s11, s12] [(.int (1 : Int32))])) _
  refine XS.istore X0.here hx rfl (hb hby at_124) rfl (l' := #[s0, .val (.long j1), .second, s3, s4, .val (.long j5), .second, s7, .val (.int i8), s9, .val (.int (0 : Int32)), .val (.int (1 : Int32)), s12]) (os_own_C31_124 hs11) ?_
  show Steps p.tables e below (T0.setTop (mkF m 126 #[s0, .val (.long j1), .second, s3, s4, .val (.long j5), .second, s7, .val (.int i8), s9, .val (.int (0 : Int32)), .val (.int (1 : Int32)), s12] [])) _
  refine XS.iload X0.here hx rfl (hb hby at_126) rfl ?_
  show Steps p.tables e below (T0.setTop (mkF m 128 #[s0, .val (.long j1), .second, s3, s4, .val (.long j5), .second, s7, .val (.int i8), s9, .val (.int (0 : Int32)), .val (.int (1 : Int32)), s12] [(.int i8)])) _
  refine XS.ifYes X0.here hx rfl (pc0 := 128) (pc' := 138) rfl (hb hby at_128) rfl ((if0 _ _).trans (feq hc128).2) (by decide) (by decide) ?_
  show Steps p.tables e below (T0.setTop (mkF m 138 #[s0, .val (.long j1), .second, s3, s4, .val (.long j5), .second, s7, .val (.int i8), s9, .val (.int (0 : Int32)), .val (.int (1 : Int32)), s12] [])) _
  refine XS.iload X0.here hx rfl (hb hby at_138) rfl ?_
  show Steps p.tables e below (T0.setTop (mkF m 140 #[s0, .val (.long j1), .second, s3, s4, .val (.long j5), .second, s7, .val (.int i8), s9, .val (.int (0 : Int32)), .val (.int (1 : Int32)), s12] [(.int i8)])) _
  refine XS.iconst X0.here hx rfl (hb hby at_140) ?_
  show Steps p.tables e below (T0.setTop (mkF m 141 #[s0, .val (.long j1), .second, s3, s4, .val (.long j5), .second, s7, .val (.int i8), s9, .val (.int (0 : Int32)), .val (.int (1 : Int32)), s12] [(.int (1 : Int32)), (.int i8)])) _
  refine XS.icmpYes X0.here hx rfl (pc0 := 141) (pc' := 164) rfl (hb hby at_141) rfl (feq hc141).2 (by decide) (by decide) ?_
  show Steps p.tables e below (T0.setTop (mkF m 164 #[s0, .val (.long j1), .second, s3, s4, .val (.long j5), .second, s7, .val (.int i8), s9, .val (.int (0 : Int32)), .val (.int (1 : Int32)), s12] [])) _
  refine XS.iload X0.here hx rfl (hb hby at_164) rfl ?_
  show Steps p.tables e below (T0.setTop (mkF m 166 #[s0, .val (.long j1), .second, s3, s4, .val (.long j5), .second, s7, .val (.int i8), s9, .val (.int (0 : Int32)), .val (.int (1 : Int32)), s12] [(.int i8)])) _
  refine XS.iconst X0.here hx rfl (hb hby at_166) ?_
  show Steps p.tables e below (T0.setTop (mkF m 167 #[s0, .val (.long j1), .second, s3, s4, .val (.long j5), .second, s7, .val (.int i8), s9, .val (.int (0 : Int32)), .val (.int (1 : Int32)), s12] [(.int (2 : Int32)), (.int i8)])) _
  refine XS.icmpYes X0.here hx rfl (pc0 := 167) (pc' := 190) rfl (hb hby at_167) rfl (feq hc167).2 (by decide) (by decide) ?_
  show Steps p.tables e below (T0.setTop (mkF m 190 #[s0, .val (.long j1), .second, s3, s4, .val (.long j5), .second, s7, .val (.int i8), s9, .val (.int (0 : Int32)), .val (.int (1 : Int32)), s12] [])) _
  refine XS.iload X0.here hx rfl (hb hby at_190) rfl ?_
  show Steps p.tables e below (T0.setTop (mkF m 192 #[s0, .val (.long j1), .second, s3, s4, .val (.long j5), .second, s7, .val (.int i8), s9, .val (.int (0 : Int32)), .val (.int (1 : Int32)), s12] [(.int (0 : Int32))])) _
  refine XS.ifNo X0.here hx rfl (hb hby at_192) rfl ((if0 _ _).trans (teq (rfl : (0 : Int32) = (0 : Int32))).2) ?_
  show Steps p.tables e below (T0.setTop (mkF m 195 #[s0, .val (.long j1), .second, s3, s4, .val (.long j5), .second, s7, .val (.int i8), s9, .val (.int (0 : Int32)), .val (.int (1 : Int32)), s12] [])) _
  refine XS.iconst X0.here hx rfl (hb hby at_195) ?_
  show Steps p.tables e below (T0.setTop (mkF m 196 #[s0, .val (.long j1), .second, s3, s4, .val (.long j5), .second, s7, .val (.int i8), s9, .val (.int (0 : Int32)), .val (.int (1 : Int32)), s12] [(.int (1 : Int32))])) _
  refine XS.goto X0.here hx rfl (pc0 := 196) (pc' := 200) rfl (hb hby at_196) (by decide) (by decide) ?_
  show Steps p.tables e below (T0.setTop (mkF m 200 #[s0, .val (.long j1), .second, s3, s4, .val (.long j5), .second, s7, .val (.int i8), s9, .val (.int (0 : Int32)), .val (.int (1 : Int32)), s12] [(.int (1 : Int32))])) _
  refine XS.istore X0.here hx rfl (hb hby at_200) rfl (l' := #[s0, .val (.long j1), .second, s3, s4, .val (.long j5), .second, s7, .val (.int i8), s9, .val (.int (0 : Int32)), .val (.int (1 : Int32)), .val (.int (1 : Int32))]) (os_own_C31_200 hs12) ?_
  exact kt
set_option maxRecDepth 65536 in
set_option maxHeartbeats 40000000 in
theorem own_C32 {p : Program} {l : Launch} {e : Env} {R : Room} {s : State} {m : MethodId} {args : Array Value} {below : List Frame} {meth : Method} {c : Code} {T0 : State} {locs : List Loc} {cells slots : Nat} {Z : State} {a0 : Array Value} {h0 : Heap} (s0 : Slot) (j1 : Int64) (s3 : Slot) (s4 : Slot) (j5 : Int64) (s7 : Slot) (i8 : Int32) (s9 : Slot) (s10 : Slot) (s11 : Slot) (s12 : Slot)
    (X0 : Stand p l e R s m args below meth c T0 locs cells slots) (hx : p.tables.exec = Jvm.exec) (hZ : Z.Warmed39 s.vm) (hw : ∀ d ∈ tables_1, d.before a0 Z = true) (hby : c.code = code) (hml : c.maxLocals = 13) (hown : s.vm.findClass "com/example/sanction/sanction/language/OperatorHoldsPinLaw" = some m.cls) (e0 : T0.heap = h0) (hs10 : One s10) (hs11 : One s11) (hs12 : One s12) (hc102 : ¬ ((lcmpW j1 j5) < (0 : Int32))) (hc116 : ¬ ((lcmpW j1 j5) = (0 : Int32))) (hc128 : ¬ (i8 = (0 : Int32))) (hc141 : ¬ (i8 = (1 : Int32))) (hc167 : ¬ (i8 = (2 : Int32))) :
    ∃ (T' : State), Stand p l e R s m args below meth c T' locs cells slots ∧ T'.heap = h0 ∧
      ∀ target, Steps p.tables e below (T'.setTop (mkF m 202 #[s0, .val (.long j1), .second, s3, s4, .val (.long j5), .second, s7, .val (.int i8), s9, .val (.int (0 : Int32)), .val (.int (0 : Int32)), .val (.int (1 : Int32))] [])) target → Steps p.tables e below (T0.setTop (mkF m 98 #[s0, .val (.long j1), .second, s3, s4, .val (.long j5), .second, s7, .val (.int i8), s9, s10, s11, s12] [])) target := by
  refine ⟨T0, X0, e0, fun target kt => ?_⟩
  show Steps p.tables e below (T0.setTop (mkF m 98 #[s0, .val (.long j1), .second, s3, s4, .val (.long j5), .second, s7, .val (.int i8), s9, s10, s11, s12] [])) _
  refine XS.lloadN X0.here hx rfl (hb hby at_98) rfl ?_
  show Steps p.tables e below (T0.setTop (mkF m 99 #[s0, .val (.long j1), .second, s3, s4, .val (.long j5), .second, s7, .val (.int i8), s9, s10, s11, s12] [(.long j1)])) _
  refine XS.lload X0.here hx rfl (hb hby at_99) rfl ?_
  show Steps p.tables e below (T0.setTop (mkF m 101 #[s0, .val (.long j1), .second, s3, s4, .val (.long j5), .second, s7, .val (.int i8), s9, s10, s11, s12] [(.long j5), (.long j1)])) _
  refine XS.lcmp X0.here hx rfl (hb hby at_101) rfl ?_
  show Steps p.tables e below (T0.setTop (mkF m 102 #[s0, .val (.long j1), .second, s3, s4, .val (.long j5), .second, s7, .val (.int i8), s9, s10, s11, s12] [(.int (lcmpW j1 j5))])) _
  refine XS.ifYes X0.here hx rfl (pc0 := 102) (pc' := 109) rfl (hb hby at_102) rfl ((if0 _ _).trans (flt hc102).2.1) (by decide) (by decide) ?_
  show Steps p.tables e below (T0.setTop (mkF m 109 #[s0, .val (.long j1), .second, s3, s4, .val (.long j5), .second, s7, .val (.int i8), s9, s10, s11, s12] [])) _
  refine XS.iconst X0.here hx rfl (hb hby at_109) ?_
  show Steps p.tables e below (T0.setTop (mkF m 110 #[s0, .val (.long j1), .second, s3, s4, .val (.long j5), .second, s7, .val (.int i8), s9, s10, s11, s12] [(.int (0 : Int32))])) _
  refine XS.istore X0.here hx rfl (hb hby at_110) rfl (l' := #[s0, .val (.long j1), .second, s3, s4, .val (.long j5), .second, s7, .val (.int i8), s9, .val (.int (0 : Int32)), s11, s12]) (os_own_C32_110 hs10) ?_
  show Steps p.tables e below (T0.setTop (mkF m 112 #[s0, .val (.long j1), .second, s3, s4, .val (.long j5), .second, s7, .val (.int i8), s9, .val (.int (0 : Int32)), s11, s12] [])) _
  refine XS.lloadN X0.here hx rfl (hb hby at_112) rfl ?_
  show Steps p.tables e below (T0.setTop (mkF m 113 #[s0, .val (.long j1), .second, s3, s4, .val (.long j5), .second, s7, .val (.int i8), s9, .val (.int (0 : Int32)), s11, s12] [(.long j1)])) _
  refine XS.lload X0.here hx rfl (hb hby at_113) rfl ?_
  show Steps p.tables e below (T0.setTop (mkF m 115 #[s0, .val (.long j1), .second, s3, s4, .val (.long j5), .second, s7, .val (.int i8), s9, .val (.int (0 : Int32)), s11, s12] [(.long j5), (.long j1)])) _
  refine XS.lcmp X0.here hx rfl (hb hby at_115) rfl ?_
  show Steps p.tables e below (T0.setTop (mkF m 116 #[s0, .val (.long j1), .second, s3, s4, .val (.long j5), .second, s7, .val (.int i8), s9, .val (.int (0 : Int32)), s11, s12] [(.int (lcmpW j1 j5))])) _
  refine XS.ifYes X0.here hx rfl (pc0 := 116) (pc' := 123) rfl (hb hby at_116) rfl ((if0 _ _).trans (feq hc116).2) (by decide) (by decide) ?_
  show Steps p.tables e below (T0.setTop (mkF m 123 #[s0, .val (.long j1), .second, s3, s4, .val (.long j5), .second, s7, .val (.int i8), s9, .val (.int (0 : Int32)), s11, s12] [])) _
  refine XS.iconst X0.here hx rfl (hb hby at_123) ?_
  show Steps p.tables e below (T0.setTop (mkF m 124 #[s0, .val (.long j1), .second, s3, s4, .val (.long j5), .second, s7, .val (.int i8), s9, .val (.int (0 : Int32)), s11, s12] [(.int (0 : Int32))])) _
  refine XS.istore X0.here hx rfl (hb hby at_124) rfl (l' := #[s0, .val (.long j1), .second, s3, s4, .val (.long j5), .second, s7, .val (.int i8), s9, .val (.int (0 : Int32)), .val (.int (0 : Int32)), s12]) (os_own_C32_124 hs11) ?_
  show Steps p.tables e below (T0.setTop (mkF m 126 #[s0, .val (.long j1), .second, s3, s4, .val (.long j5), .second, s7, .val (.int i8), s9, .val (.int (0 : Int32)), .val (.int (0 : Int32)), s12] [])) _
  refine XS.iload X0.here hx rfl (hb hby at_126) rfl ?_
  show Steps p.tables e below (T0.setTop (mkF m 128 #[s0, .val (.long j1), .second, s3, s4, .val (.long j5), .second, s7, .val (.int i8), s9, .val (.int (0 : Int32)), .val (.int (0 : Int32)), s12] [(.int i8)])) _
  refine XS.ifYes X0.here hx rfl (pc0 := 128) (pc' := 138) rfl (hb hby at_128) rfl ((if0 _ _).trans (feq hc128).2) (by decide) (by decide) ?_
  show Steps p.tables e below (T0.setTop (mkF m 138 #[s0, .val (.long j1), .second, s3, s4, .val (.long j5), .second, s7, .val (.int i8), s9, .val (.int (0 : Int32)), .val (.int (0 : Int32)), s12] [])) _
  refine XS.iload X0.here hx rfl (hb hby at_138) rfl ?_
  show Steps p.tables e below (T0.setTop (mkF m 140 #[s0, .val (.long j1), .second, s3, s4, .val (.long j5), .second, s7, .val (.int i8), s9, .val (.int (0 : Int32)), .val (.int (0 : Int32)), s12] [(.int i8)])) _
  refine XS.iconst X0.here hx rfl (hb hby at_140) ?_
  show Steps p.tables e below (T0.setTop (mkF m 141 #[s0, .val (.long j1), .second, s3, s4, .val (.long j5), .second, s7, .val (.int i8), s9, .val (.int (0 : Int32)), .val (.int (0 : Int32)), s12] [(.int (1 : Int32)), (.int i8)])) _
  refine XS.icmpYes X0.here hx rfl (pc0 := 141) (pc' := 164) rfl (hb hby at_141) rfl (feq hc141).2 (by decide) (by decide) ?_
  show Steps p.tables e below (T0.setTop (mkF m 164 #[s0, .val (.long j1), .second, s3, s4, .val (.long j5), .second, s7, .val (.int i8), s9, .val (.int (0 : Int32)), .val (.int (0 : Int32)), s12] [])) _
  refine XS.iload X0.here hx rfl (hb hby at_164) rfl ?_
  show Steps p.tables e below (T0.setTop (mkF m 166 #[s0, .val (.long j1), .second, s3, s4, .val (.long j5), .second, s7, .val (.int i8), s9, .val (.int (0 : Int32)), .val (.int (0 : Int32)), s12] [(.int i8)])) _
  refine XS.iconst X0.here hx rfl (hb hby at_166) ?_
  show Steps p.tables e below (T0.setTop (mkF m 167 #[s0, .val (.long j1), .second, s3, s4, .val (.long j5), .second, s7, .val (.int i8), s9, .val (.int (0 : Int32)), .val (.int (0 : Int32)), s12] [(.int (2 : Int32)), (.int i8)])) _
  refine XS.icmpYes X0.here hx rfl (pc0 := 167) (pc' := 190) rfl (hb hby at_167) rfl (feq hc167).2 (by decide) (by decide) ?_
  show Steps p.tables e below (T0.setTop (mkF m 190 #[s0, .val (.long j1), .second, s3, s4, .val (.long j5), .second, s7, .val (.int i8), s9, .val (.int (0 : Int32)), .val (.int (0 : Int32)), s12] [])) _
  refine XS.iload X0.here hx rfl (hb hby at_190) rfl ?_
  show Steps p.tables e below (T0.setTop (mkF m 192 #[s0, .val (.long j1), .second, s3, s4, .val (.long j5), .second, s7, .val (.int i8), s9, .val (.int (0 : Int32)), .val (.int (0 : Int32)), s12] [(.int (0 : Int32))])) _
  refine XS.ifNo X0.here hx rfl (hb hby at_192) rfl ((if0 _ _).trans (teq (rfl : (0 : Int32) = (0 : Int32))).2) ?_
  show Steps p.tables e below (T0.setTop (mkF m 195 #[s0, .val (.long j1), .second, s3, s4, .val (.long j5), .second, s7, .val (.int i8), s9, .val (.int (0 : Int32)), .val (.int (0 : Int32)), s12] [])) _
  refine XS.iconst X0.here hx rfl (hb hby at_195) ?_
  show Steps p.tables e below (T0.setTop (mkF m 196 #[s0, .val (.long j1), .second, s3, s4, .val (.long j5), .second, s7, .val (.int i8), s9, .val (.int (0 : Int32)), .val (.int (0 : Int32)), s12] [(.int (1 : Int32))])) _
  refine XS.goto X0.here hx rfl (pc0 := 196) (pc' := 200) rfl (hb hby at_196) (by decide) (by decide) ?_
  show Steps p.tables e below (T0.setTop (mkF m 200 #[s0, .val (.long j1), .second, s3, s4, .val (.long j5), .second, s7, .val (.int i8), s9, .val (.int (0 : Int32)), .val (.int (0 : Int32)), s12] [(.int (1 : Int32))])) _
  refine XS.istore X0.here hx rfl (hb hby at_200) rfl (l' := #[s0, .val (.long j1), .second, s3, s4, .val (.long j5), .second, s7, .val (.int i8), s9, .val (.int (0 : Int32)), .val (.int (0 : Int32)), .val (.int (1 : Int32))]) (os_own_C32_200 hs12) ?_
  exact kt
theorem own_tri (x : Int32) : x < (0 : Int32) ∨ x = (0 : Int32) ∨ (0 : Int32) < x := by
  rw [Int32.lt_iff_toInt_lt, Int32.lt_iff_toInt_lt, ← Int32.toInt_inj]
  omega
theorem own_e {x : Int32} (h : x = (0 : Int32)) : ¬ x < (0 : Int32) ∧ ¬ (0 : Int32) < x := by subst h; exact ⟨by decide, by decide⟩
theorem own_g {x : Int32} (h : (0 : Int32) < x) : ¬ x < (0 : Int32) ∧ ¬ x = (0 : Int32) := by
  rw [Int32.lt_iff_toInt_lt] at h
  rw [Int32.lt_iff_toInt_lt, ← Int32.toInt_inj]
  omega
theorem own_l {x : Int32} (h : x < (0 : Int32)) : ¬ x = (0 : Int32) := by
  rw [Int32.lt_iff_toInt_lt] at h
  rw [← Int32.toInt_inj]
  omega
theorem own_lg {x : Int32} (h : x < (0 : Int32)) : ¬ (0 : Int32) < x := by
  rw [Int32.lt_iff_toInt_lt] at h
  rw [Int32.lt_iff_toInt_lt]
  omega
set_option maxRecDepth 65536 in
set_option maxHeartbeats 40000000 in
theorem rm0 (l : Launch) (Z : State) (a0 : Array Value) (hw : ∀ d ∈ tables_1, d.before a0 Z = true) (ws : List Jvm.Cond) (p1 : Int32) (q2 : Int64) (q3 : Int64) (h0 : Heap) (n0 : Nat) (Z0 : n0 ≤ h0.size) (b0 : Addr) (S0 : Sta Z h0 "com/example/sanction/sanction/language/Comparison$Operator" "LESS" "Lcom/example/sanction/sanction/language/Comparison$Operator;" (.ref b0)) (E0 : Exa Z h0 b0 "com/example/sanction/sanction/language/Comparison$Operator") (F0 : Fld Z h0 b0 "java/lang/Enum" "ordinal" "I" (.int 0)) (b1 : Addr) (S1 : Sta Z h0 "com/example/sanction/sanction/language/Comparison$Operator" "LESS_EQUAL" "Lcom/example/sanction/sanction/language/Comparison$Operator;" (.ref b1)) (E1 : Exa Z h0 b1 "com/example/sanction/sanction/language/Comparison$Operator") (F1 : Fld Z h0 b1 "java/lang/Enum" "ordinal" "I" (.int 1)) (b2 : Addr) (S2 : Sta Z h0 "com/example/sanction/sanction/language/Comparison$Operator" "GREATER" "Lcom/example/sanction/sanction/language/Comparison$Operator;" (.ref b2)) (E2 : Exa Z h0 b2 "com/example/sanction/sanction/language/Comparison$Operator") (F2 : Fld Z h0 b2 "java/lang/Enum" "ordinal" "I" (.int 2)) (b3 : Addr) (S3 : Sta Z h0 "com/example/sanction/sanction/language/Comparison$Operator" "GREATER_EQUAL" "Lcom/example/sanction/sanction/language/Comparison$Operator;" (.ref b3)) (E3 : Exa Z h0 b3 "com/example/sanction/sanction/language/Comparison$Operator") (F3 : Fld Z h0 b3 "java/lang/Enum" "ordinal" "I" (.int 3)) :
    MetFree l x (head1 (Jvm.Cond.code x code maxLocals ret :: ws) room_1) (fun a U => a = #[(.int p1), (.long q2), (.long q3)] ∧ Z.Warmed39 U.vm ∧ U.heap = h0) (fun _ _ _ _ _ => True) (fun _ U o U' => ∃ v L, o = .returned v ∧ own_QL n0 v U'.heap L ∧ FrameEnd U o U' L room_1.cells room_1.slots) := by
  refine MetFree.of_bodySF (plainFor_of_name pn_0) hisR ?_
  intro p e s m args below meth c s₁ Bd hml0 hP hK
  obtain ⟨rfl, hZ, hh⟩ := hP
  have hx := Bd.exec
  have hby := Bd.bytes
  have hml : c.maxLocals = 13 := hml0
  have hown : s.vm.findClass "com/example/sanction/sanction/language/OperatorHoldsPinLaw" = some m.cls := findClass_of_methodNamed Bd.named
  have hnm := (name_of_methodNamed Bd.named Bd.method).1
  have X0 : Stand p l e room_1 s m #[(.int p1), (.long q2), (.long q3)] below meth c s₁ [] 0 0 := Stand.of_body Bd
  have e0 : s₁.heap = h0 := by rw [← hh, Bd.state]; rfl
  have N0 := Fr.nil n0
  have pre0 : ∀ t, Steps p.tables e below (s₁.setTop (mkF m 0 #[.val (.int p1), .val (.long q2), .second, .val (.long q3), .second, .unset, .unset, .unset, .unset, .unset, .unset, .unset, .unset] [])) t → Steps p.tables e below (s₁.setTop (entryFrame m #[(.int p1), (.long q2), (.long q3)] maxLocals)) t := fun t k => castTop (ef_0 m p1 q2 q3) k
  obtain ⟨bb, md, TA, XA, eA, frA⟩ : ∃ (bb : Int64) (md : Int32) (TA : State), Stand p l e room_1 s m #[(.int p1), (.long q2), (.long q3)] below meth c TA [] 0 0 ∧ TA.heap = h0 ∧ ∀ t, Steps p.tables e below (TA.setTop (mkF m 47 #[.val (.int p1), .val (.long q2), .second, .val (.long q3), .second, .val (.long bb), .second, .val (.int md), .unset, .unset, .unset, .unset, .unset] [])) t → Steps p.tables e below (s₁.setTop (mkF m 0 #[.val (.int p1), .val (.long q2), .second, .val (.long q3), .second, .unset, .unset, .unset, .unset, .unset, .unset, .unset, .unset] [])) t := by
    have fr3 : ∀ t, Steps p.tables e below (s₁.setTop (mkF m 3 #[.val (.int p1), .val (.long q2), .second, .val (.long q3), .second, .val (.long q3), .second, .unset, .unset, .unset, .unset, .unset, .unset] [])) t → Steps p.tables e below (s₁.setTop (mkF m 0 #[.val (.int p1), .val (.long q2), .second, .val (.long q3), .second, .unset, .unset, .unset, .unset, .unset, .unset, .unset, .unset] [])) t := by
      intro t k
      show Steps p.tables e below (s₁.setTop (mkF m 0 #[.val (.int p1), .val (.long q2), .second, .val (.long q3), .second, .unset, .unset, .unset, .unset, .unset, .unset, .unset, .unset] [])) _
      refine XS.lloadN X0.here hx rfl (hb hby at_0) rfl ?_
      show Steps p.tables e below (s₁.setTop (mkF m 1 #[.val (.int p1), .val (.long q2), .second, .val (.long q3), .second, .unset, .unset, .unset, .unset, .unset, .unset, .unset, .unset] [(.long q3)])) _
      refine XS.lstore X0.here hx rfl (hb hby at_1) rfl (l' := #[.val (.int p1), .val (.long q2), .second, .val (.long q3), .second, .val (.long q3), .second, .unset, .unset, .unset, .unset, .unset, .unset]) rfl ?_
      exact k
    by_cases c1 : (((p1.toUInt32 >>> ((2 : Int32) &&& 31).toUInt32).toInt32) &&& (3 : Int32)) = (1 : Int32)
    · obtain ⟨TA, XA, eA, stA⟩ := own_A1 p1 q2 (.val (.long q3)) .second q3 .unset .unset .unset .unset .unset .unset X0 hx hZ hw hby hml hown e0 (by first | exact One.u | exact One.val rfl) c1
      exact ⟨q2, _, TA, XA, eA, fun t k => fr3 t (stA t k)⟩
    · skip
      by_cases c2 : (((p1.toUInt32 >>> ((2 : Int32) &&& 31).toUInt32).toInt32) &&& (3 : Int32)) = (2 : Int32)
      · obtain ⟨TA, XA, eA, stA⟩ := own_A2 p1 q2 (.val (.long q3)) .second q3 .unset .unset .unset .unset .unset .unset X0 hx hZ hw hby hml hown e0 (by first | exact One.u | exact One.val rfl) c1 c2
        exact ⟨(q2 + (1 : Int64)), _, TA, XA, eA, fun t k => fr3 t (stA t k)⟩
      · skip
        by_cases c3 : (((p1.toUInt32 >>> ((2 : Int32) &&& 31).toUInt32).toInt32) &&& (3 : Int32)) = (3 : Int32)
        · obtain ⟨TA, XA, eA, stA⟩ := own_A3 p1 q2 (.val (.long q3)) .second q3 .unset .unset .unset .unset .unset .unset X0 hx hZ hw hby hml hown e0 (by first | exact One.u | exact One.val rfl) c1 c2 c3
          exact ⟨(q2 - (1 : Int64)), _, TA, XA, eA, fun t k => fr3 t (stA t k)⟩
        · skip
          obtain ⟨TA, XA, eA, stA⟩ := own_A0 p1 (.val (.long q2)) .second (.val (.long q3)) .second q3 .unset .unset .unset .unset .unset .unset X0 hx hZ hw hby hml hown e0 (by first | exact One.u | exact One.val rfl) c1 c2 c3
          exact ⟨q3, _, TA, XA, eA, fun t k => fr3 t (stA t k)⟩
  obtain ⟨w, lt, eq, ex, TB, XB, eB, EB, MB, frB⟩ : ∃ (w : Addr) (lt eq ex : Int32) (TB : State), Stand p l e room_1 s m #[(.int p1), (.long q2), (.long q3)] below meth c TB [] 0 0 ∧ TB.heap = h0 ∧ Exa Z h0 w "com/example/sanction/sanction/language/Comparison$Operator" ∧ MetFree l (⟨"com/example/sanction/sanction/language/Comparison$Operator", "holds", "(JJ)Z"⟩ : MethodName) (head1 (Jvm.Cond.code (⟨"com/example/sanction/sanction/language/Comparison$Operator", "holds", "(JJ)Z"⟩ : MethodName) prog_81_method_5_code 5 (some .boolean) :: []) ({ frames := 1, cells := 0, slots := 0, locals := 12 } : Room)) (fun a U => a = #[(.ref w), (.long q2), (.long bb)] ∧ Z.Warmed39 U.vm ∧ U.heap = h0) (fun _ _ _ _ _ => True) (fun _ U o U' => ∃ v L, o = .returned v ∧ own_QV (some (.int ex)) h0 n0 v U'.heap L ∧ FrameEnd U o U' L ({ frames := 1, cells := 0, slots := 0, locals := 12 } : Room).cells ({ frames := 1, cells := 0, slots := 0, locals := 12 } : Room).slots) ∧ ∀ t, Steps p.tables e below (TB.setTop (mkF m 202 #[.val (.int p1), .val (.long q2), .second, .val (.long q3), .second, .val (.long bb), .second, .val (.int md), .val (.int (p1 &&& (3 : Int32))), .val (.ref w), .val (.int lt), .val (.int eq), .val (.int ex)] [])) t → Steps p.tables e below (TA.setTop (mkF m 47 #[.val (.int p1), .val (.long q2), .second, .val (.long q3), .second, .val (.long bb), .second, .val (.int md), .unset, .unset, .unset, .unset, .unset] [])) t := by
    have hcmp : (lcmpW q2 bb) < (0 : Int32) ∨ (lcmpW q2 bb) = (0 : Int32) ∨ (0 : Int32) < (lcmpW q2 bb) := own_tri _
    by_cases c0 : (p1 &&& (3 : Int32)) = (0 : Int32)
    · obtain ⟨T1, X1, e1, st1⟩ := own_B0 p1 (.val (.long q2)) .second (.val (.long q3)) .second (.val (.long bb)) .second (.val (.int md)) .unset .unset .unset .unset .unset b0 XA hx hZ hw hby hml hown eA (by first | exact One.u | exact One.val rfl) S0 (by first | exact One.u | exact One.val rfl) c0
      rcases hcmp with d | d | d
      · obtain ⟨T2, X2, e2, st2⟩ := own_C00 (.val (.int p1)) q2 (.val (.long q3)) .second bb (.val (.int md)) (p1 &&& (3 : Int32)) (.val (.ref b0)) .unset .unset .unset X1 hx hZ hw hby hml hown e1 (by first | exact One.u | exact One.val rfl) (by first | exact One.u | exact One.val rfl) (by first | exact One.u | exact One.val rfl) d (own_l d) c0
        exact ⟨b0, 1, 0, 1, T2, X2, e2, E0, rm1_0f l Z a0 hw [] b0 q2 bb h0 n0 Z0 E0 d F0, fun t q => st1 t (st2 t q)⟩
      · obtain ⟨T2, X2, e2, st2⟩ := own_C01 (.val (.int p1)) q2 (.val (.long q3)) .second bb (.val (.int md)) (p1 &&& (3 : Int32)) (.val (.ref b0)) .unset .unset .unset X1 hx hZ hw hby hml hown e1 (by first | exact One.u | exact One.val rfl) (by first | exact One.u | exact One.val rfl) (by first | exact One.u | exact One.val rfl) (own_e d).1 d c0
        exact ⟨b0, 0, 1, 0, T2, X2, e2, E0, rm1_0t l Z a0 hw [] b0 q2 bb h0 n0 Z0 E0 (own_e d).1 F0, fun t q => st1 t (st2 t q)⟩
      · obtain ⟨T2, X2, e2, st2⟩ := own_C02 (.val (.int p1)) q2 (.val (.long q3)) .second bb (.val (.int md)) (p1 &&& (3 : Int32)) (.val (.ref b0)) .unset .unset .unset X1 hx hZ hw hby hml hown e1 (by first | exact One.u | exact One.val rfl) (by first | exact One.u | exact One.val rfl) (by first | exact One.u | exact One.val rfl) (own_g d).1 (own_g d).2 c0
        exact ⟨b0, 0, 0, 0, T2, X2, e2, E0, rm1_0t l Z a0 hw [] b0 q2 bb h0 n0 Z0 E0 (own_g d).1 F0, fun t q => st1 t (st2 t q)⟩
    · skip
      by_cases c1 : (p1 &&& (3 : Int32)) = (1 : Int32)
      · obtain ⟨T1, X1, e1, st1⟩ := own_B1 p1 (.val (.long q2)) .second (.val (.long q3)) .second (.val (.long bb)) .second (.val (.int md)) .unset .unset .unset .unset .unset b1 XA hx hZ hw hby hml hown eA (by first | exact One.u | exact One.val rfl) S1 (by first | exact One.u | exact One.val rfl) c0 c1
        rcases hcmp with d | d | d
        · obtain ⟨T2, X2, e2, st2⟩ := own_C10 (.val (.int p1)) q2 (.val (.long q3)) .second bb (.val (.int md)) (p1 &&& (3 : Int32)) (.val (.ref b1)) .unset .unset .unset X1 hx hZ hw hby hml hown e1 (by first | exact One.u | exact One.val rfl) (by first | exact One.u | exact One.val rfl) (by first | exact One.u | exact One.val rfl) d (own_l d) c0 c1 (by decide)
          exact ⟨b1, 1, 0, 1, T2, X2, e2, E1, rm1_1f l Z a0 hw [] b1 q2 bb h0 n0 Z0 E1 (own_lg d) F1, fun t q => st1 t (st2 t q)⟩
        · obtain ⟨T2, X2, e2, st2⟩ := own_C11 (.val (.int p1)) q2 (.val (.long q3)) .second bb (.val (.int md)) (p1 &&& (3 : Int32)) (.val (.ref b1)) .unset .unset .unset X1 hx hZ hw hby hml hown e1 (by first | exact One.u | exact One.val rfl) (by first | exact One.u | exact One.val rfl) (by first | exact One.u | exact One.val rfl) (own_e d).1 d c0 c1 (by decide)
          exact ⟨b1, 0, 1, 1, T2, X2, e2, E1, rm1_1f l Z a0 hw [] b1 q2 bb h0 n0 Z0 E1 (own_e d).2 F1, fun t q => st1 t (st2 t q)⟩
        · obtain ⟨T2, X2, e2, st2⟩ := own_C12 (.val (.int p1)) q2 (.val (.long q3)) .second bb (.val (.int md)) (p1 &&& (3 : Int32)) (.val (.ref b1)) .unset .unset .unset X1 hx hZ hw hby hml hown e1 (by first | exact One.u | exact One.val rfl) (by first | exact One.u | exact One.val rfl) (by first | exact One.u | exact One.val rfl) (own_g d).1 (own_g d).2 c0 c1
          exact ⟨b1, 0, 0, 0, T2, X2, e2, E1, rm1_1t l Z a0 hw [] b1 q2 bb h0 n0 Z0 E1 d F1, fun t q => st1 t (st2 t q)⟩
      · skip
        by_cases c2 : (p1 &&& (3 : Int32)) = (2 : Int32)
        · obtain ⟨T1, X1, e1, st1⟩ := own_B2 p1 (.val (.long q2)) .second (.val (.long q3)) .second (.val (.long bb)) .second (.val (.int md)) .unset .unset .unset .unset .unset b2 XA hx hZ hw hby hml hown eA (by first | exact One.u | exact One.val rfl) S2 (by first | exact One.u | exact One.val rfl) c0 c1 c2
          rcases hcmp with d | d | d
          · obtain ⟨T2, X2, e2, st2⟩ := own_C20 (.val (.int p1)) q2 (.val (.long q3)) .second bb (.val (.int md)) (p1 &&& (3 : Int32)) (.val (.ref b2)) .unset .unset .unset X1 hx hZ hw hby hml hown e1 (by first | exact One.u | exact One.val rfl) (by first | exact One.u | exact One.val rfl) (by first | exact One.u | exact One.val rfl) d (own_l d) c0 c1 c2 (by decide)
            exact ⟨b2, 1, 0, 0, T2, X2, e2, E2, rm1_2t l Z a0 hw [] b2 q2 bb h0 n0 Z0 E2 (own_lg d) F2, fun t q => st1 t (st2 t q)⟩
          · obtain ⟨T2, X2, e2, st2⟩ := own_C21 (.val (.int p1)) q2 (.val (.long q3)) .second bb (.val (.int md)) (p1 &&& (3 : Int32)) (.val (.ref b2)) .unset .unset .unset X1 hx hZ hw hby hml hown e1 (by first | exact One.u | exact One.val rfl) (by first | exact One.u | exact One.val rfl) (by first | exact One.u | exact One.val rfl) (own_e d).1 d c0 c1 c2 (by decide)
            exact ⟨b2, 0, 1, 0, T2, X2, e2, E2, rm1_2t l Z a0 hw [] b2 q2 bb h0 n0 Z0 E2 (own_e d).2 F2, fun t q => st1 t (st2 t q)⟩
          · obtain ⟨T2, X2, e2, st2⟩ := own_C22 (.val (.int p1)) q2 (.val (.long q3)) .second bb (.val (.int md)) (p1 &&& (3 : Int32)) (.val (.ref b2)) .unset .unset .unset X1 hx hZ hw hby hml hown e1 (by first | exact One.u | exact One.val rfl) (by first | exact One.u | exact One.val rfl) (by first | exact One.u | exact One.val rfl) (own_g d).1 (own_g d).2 c0 c1 c2
            exact ⟨b2, 0, 0, 1, T2, X2, e2, E2, rm1_2f l Z a0 hw [] b2 q2 bb h0 n0 Z0 E2 d F2, fun t q => st1 t (st2 t q)⟩
        · skip
          obtain ⟨T1, X1, e1, st1⟩ := own_B3 p1 (.val (.long q2)) .second (.val (.long q3)) .second (.val (.long bb)) .second (.val (.int md)) .unset .unset .unset .unset .unset b3 XA hx hZ hw hby hml hown eA (by first | exact One.u | exact One.val rfl) S3 (by first | exact One.u | exact One.val rfl) c0 c1 c2
          rcases hcmp with d | d | d
          · obtain ⟨T2, X2, e2, st2⟩ := own_C30 (.val (.int p1)) q2 (.val (.long q3)) .second bb (.val (.int md)) (p1 &&& (3 : Int32)) (.val (.ref b3)) .unset .unset .unset X1 hx hZ hw hby hml hown e1 (by first | exact One.u | exact One.val rfl) (by first | exact One.u | exact One.val rfl) (by first | exact One.u | exact One.val rfl) d (own_l d) c0 c1 c2 (by decide)
            exact ⟨b3, 1, 0, 0, T2, X2, e2, E3, rm1_3t l Z a0 hw [] b3 q2 bb h0 n0 Z0 E3 d F3, fun t q => st1 t (st2 t q)⟩
          · obtain ⟨T2, X2, e2, st2⟩ := own_C31 (.val (.int p1)) q2 (.val (.long q3)) .second bb (.val (.int md)) (p1 &&& (3 : Int32)) (.val (.ref b3)) .unset .unset .unset X1 hx hZ hw hby hml hown e1 (by first | exact One.u | exact One.val rfl) (by first | exact One.u | exact One.val rfl) (by first | exact One.u | exact One.val rfl) (own_e d).1 d c0 c1 c2
            exact ⟨b3, 0, 1, 1, T2, X2, e2, E3, rm1_3f l Z a0 hw [] b3 q2 bb h0 n0 Z0 E3 (own_e d).1 F3, fun t q => st1 t (st2 t q)⟩
          · obtain ⟨T2, X2, e2, st2⟩ := own_C32 (.val (.int p1)) q2 (.val (.long q3)) .second bb (.val (.int md)) (p1 &&& (3 : Int32)) (.val (.ref b3)) .unset .unset .unset X1 hx hZ hw hby hml hown e1 (by first | exact One.u | exact One.val rfl) (by first | exact One.u | exact One.val rfl) (by first | exact One.u | exact One.val rfl) (own_g d).1 (own_g d).2 c0 c1 c2
            exact ⟨b3, 0, 0, 1, T2, X2, e2, E3, rm1_3f l Z a0 hw [] b3 q2 bb h0 n0 Z0 E3 (own_g d).1 F3, fun t q => st1 t (st2 t q)⟩
  obtain ⟨cq6, kq6, q6a, q6b, q6c⟩ := isOf hZ eB EB
  obtain ⟨_, _, ⟨T6, L6, k6, n6⟩, -, X6, ⟨Lc6, hQ6, l6, y6, z6⟩, st6⟩ := XB.virtualBack hx (y := (⟨"com/example/sanction/sanction/language/Comparison$Operator", "holds", "(JJ)Z"⟩ : MethodName)) (z := (⟨"com/example/sanction/sanction/language/Comparison$Operator", "holds", "(JJ)Z"⟩ : MethodName)) hown (mvT hZ (hw _ (List.mem_of_getElem? (i := 3) rfl))) (mvT hZ (hw _ (List.mem_of_getElem? (i := 4) rfl))) (notFace_of_selects (args := #[]) (mvT hZ (hw _ (List.mem_of_getElem? (i := 6) rfl)))) (mvT hZ (hw _ (List.mem_of_getElem? (i := 6) rfl))) (mvT hZ (hw _ (List.mem_of_getElem? (i := 5) rfl))) (by decide) (backOf (W := 0) MB hZ (hw _ (List.mem_of_getElem? (i := 7) rfl)) (hw _ (List.mem_of_getElem? (i := 1) rfl)) (by decide) (by decide)) q6a q6c (g := (mkF m 207 #[.val (.int p1), .val (.long q2), .second, .val (.long q3), .second, .val (.long bb), .second, .val (.int md), .val (.int (p1 &&& (3 : Int32))), .val (.ref w), .val (.int lt), .val (.int eq), .val (.int ex)] [(.long bb), (.long q2), (.ref w)])) rfl (by rw [hml]; rfl) (Steps.refl _) (argsL := [(.long q2), (.long bb)]) (rest := []) (lenOf pd_0_0 rfl) rfl (by show 2 * 0 + _ ≤ _; exact Nat.le_of_eq rfl) (hb hby at_207) (fun _ _ => ⟨rfl, eB, (by decide : 0 + 0 ≤ _), (by decide : 0 + 0 ≤ _)⟩)
  dsimp only [Pt.U, Pt.locs, Pt.cells, Pt.slots] at X6 l6 y6 z6 st6 hQ6
  subst l6 y6 z6
  obtain ⟨rfl, N6q, eh6⟩ := hQ6
  have N6 := Fr.app N0 N6q
  obtain ⟨fs, hr, hrun, hended, hW, hsame⟩ := X6.leave (v := some (.int (1 : Int32))) (fun h => by rw [Bd.returns] at h; cases h)
  refine ⟨_, _, pre0 _ (frA _ (frB _ ?_)), hrun, hended, _, _, rfl, ?_, ⟨_, rfl⟩, hW, hsame.mono (by decide) (by decide)⟩
  · show Steps p.tables e below (TB.setTop (mkF m 202 #[.val (.int p1), .val (.long q2), .second, .val (.long q3), .second, .val (.long bb), .second, .val (.int md), .val (.int (p1 &&& (3 : Int32))), .val (.ref w), .val (.int lt), .val (.int eq), .val (.int ex)] [])) _
    refine XS.aload XB.here hx rfl (hb hby at_202) rfl rfl ?_
    show Steps p.tables e below (TB.setTop (mkF m 204 #[.val (.int p1), .val (.long q2), .second, .val (.long q3), .second, .val (.long bb), .second, .val (.int md), .val (.int (p1 &&& (3 : Int32))), .val (.ref w), .val (.int lt), .val (.int eq), .val (.int ex)] [(.ref w)])) _
    refine XS.lloadN XB.here hx rfl (hb hby at_204) rfl ?_
    show Steps p.tables e below (TB.setTop (mkF m 205 #[.val (.int p1), .val (.long q2), .second, .val (.long q3), .second, .val (.long bb), .second, .val (.int md), .val (.int (p1 &&& (3 : Int32))), .val (.ref w), .val (.int lt), .val (.int eq), .val (.int ex)] [(.long q2), (.ref w)])) _
    refine XS.lload XB.here hx rfl (hb hby at_205) rfl ?_
    show Steps p.tables e below (TB.setTop (mkF m 207 #[.val (.int p1), .val (.long q2), .second, .val (.long q3), .second, .val (.long bb), .second, .val (.int md), .val (.int (p1 &&& (3 : Int32))), .val (.ref w), .val (.int lt), .val (.int eq), .val (.int ex)] [(.long bb), (.long q2), (.ref w)])) _
    refine st6.trans ?_
    show Steps p.tables e below (T6.setTop (mkF m 210 #[.val (.int p1), .val (.long q2), .second, .val (.long q3), .second, .val (.long bb), .second, .val (.int md), .val (.int (p1 &&& (3 : Int32))), .val (.ref w), .val (.int lt), .val (.int eq), .val (.int ex)] [(.int ex)])) _
    refine XS.iload X6.here hx rfl (hb hby at_210) rfl ?_
    show Steps p.tables e below (T6.setTop (mkF m 212 #[.val (.int p1), .val (.long q2), .second, .val (.long q3), .second, .val (.long bb), .second, .val (.int md), .val (.int (p1 &&& (3 : Int32))), .val (.ref w), .val (.int lt), .val (.int eq), .val (.int ex)] [(.int ex), (.int ex)])) _
    refine XS.icmpNo X6.here hx rfl (hb hby at_212) rfl (teq (rfl : ex = ex)).2 ?_
    show Steps p.tables e below (T6.setTop (mkF m 215 #[.val (.int p1), .val (.long q2), .second, .val (.long q3), .second, .val (.long bb), .second, .val (.int md), .val (.int (p1 &&& (3 : Int32))), .val (.ref w), .val (.int lt), .val (.int eq), .val (.int ex)] [])) _
    refine XS.iconst X6.here hx rfl (hb hby at_215) ?_
    show Steps p.tables e below (T6.setTop (mkF m 216 #[.val (.int p1), .val (.long q2), .second, .val (.long q3), .second, .val (.long bb), .second, .val (.int md), .val (.int (p1 &&& (3 : Int32))), .val (.ref w), .val (.int lt), .val (.int eq), .val (.int ex)] [(.int (1 : Int32))])) _
    refine XS.goto X6.here hx rfl (pc0 := 216) (pc' := 220) rfl (hb hby at_216) (by decide) (by decide) ?_
    show Steps p.tables e below (T6.setTop (mkF m 220 #[.val (.int p1), .val (.long q2), .second, .val (.long q3), .second, .val (.long bb), .second, .val (.int md), .val (.int (p1 &&& (3 : Int32))), .val (.ref w), .val (.int lt), .val (.int eq), .val (.int ex)] [(.int (1 : Int32))])) _
    exact retN X6 hx (t := .boolean) Bd.returns (by simp) (hb hby at_220) hr
  · show own_QL n0 _ T6.heap _
    exact ⟨rfl, N6⟩
set_option maxRecDepth 65536 in
set_option maxHeartbeats 40000000 in
theorem comes_1 {Post : Tables → Env → Array Value → State → Outcome → State → Prop} (hpost : ∀ tb e args s v u, (limb_1_1.after args s (.returned v) u = true ∧ limb_1_2.after args s (.returned v) u = true ∧ True) → FrameEnd s (.returned v) u (Jvm.fieldLocs frame_1_writes args s ++ Jvm.arrayLocs frame_1_arrays args s ++ Jvm.staticLocs frame_1_statics s) 0 0 → Post tb e args s (.returned v) u) :
    ArmFor flags0 classFile x code maxLocals ret World_1 tables_1 room_1 Calls_1 rest_1 Pre_1 Post := by
  intro l hfl _ _ p e ha hc hk s m args below hf hA hF happ hP
  obtain ⟨hcalls, hrest, hpre⟩ := hP
  obtain ⟨-, -, -, hnamed, -, -, -, hat⟩ := (Spec.applies_iff hf).mp happ
  obtain ⟨hg, hn⟩ := and_e (Cond.before_iff.mp (show (Jvm.Cond.and given_1 narrow_1).before args s = true from hpre))
  obtain ⟨g7, g8⟩ := and_e hg
  obtain ⟨g9, g10⟩ := and_e g8
  obtain ⟨g11, g12⟩ := and_e g10
  obtain ⟨w0, w1, w2, rfl⟩ : ∃ w0 w1 w2 : Value, args = #[w0, w1, w2] := by
    have hs : args.size = 3 := by simpa [Cond.value, given_1] using g7
    obtain ⟨L⟩ := args
    match L, hs with
    | [w0, w1, w2], _ => exact ⟨w0, w1, w2, rfl⟩
  have hw := fun d (hd : d ∈ tables_1) => atoms_spec (ws := Jvm.Cond.code x code maxLocals ret :: tables_1) hat d (List.mem_cons_of_mem _ hd)
  have hfit : Fit s := fun {y c} hc i hi => by
    obtain ⟨ha, rfl⟩ := Array.getElem?_eq_some_iff.mp hc
    have q := List.all_eq_true.mp ((Array.all_eq_true_iff_forall_mem.mp hF) _ (Array.getElem_mem ha)) i (List.mem_range.mpr hi)
    simpa [Array.getElem?_eq_getElem hi] using q
  obtain ⟨i0, ei0⟩ := is_v g9
  obtain rfl : w0 = (.int i0) := Option.some.inj ei0
  obtain ⟨i1, ei1⟩ := isL_v g11
  obtain rfl : w1 = (.long i1) := Option.some.inj ei1
  obtain ⟨i2, ei2⟩ := isL_v g12
  obtain rfl : w2 = (.long i2) := Option.some.inj ei2
  obtain ⟨nw0, nx0⟩ := and_e hn
  obtain ⟨nw1, nx1⟩ := and_e nx0
  obtain ⟨nw2, nx2⟩ := and_e nx1
  obtain ⟨nw3, nx3⟩ := and_e nx2
  obtain ⟨nw4, nx4⟩ := and_e nx3
  obtain ⟨nw5, nx5⟩ := and_e nx4
  obtain ⟨nw6, nx6⟩ := and_e nx5
  obtain ⟨a_LESS, ev_LESS⟩ := exa_v nw0
  have S_LESS := Sta.start ev_LESS (Or.inr ⟨hw _ (List.mem_of_getElem? (i := 1) rfl), hw _ (List.mem_of_getElem? (i := 2) rfl)⟩)
  have E_LESS := Exa.start ev_LESS nw0
  obtain ⟨a_GREATER, ev_GREATER⟩ := exa_v nw2
  have S_GREATER := Sta.start ev_GREATER (Or.inr ⟨hw _ (List.mem_of_getElem? (i := 1) rfl), hw _ (List.mem_of_getElem? (i := 18) rfl)⟩)
  have E_GREATER := Exa.start ev_GREATER nw2
  obtain ⟨a_GREATER_EQUAL, ev_GREATER_EQUAL⟩ := exa_v nw4
  have S_GREATER_EQUAL := Sta.start ev_GREATER_EQUAL (Or.inr ⟨hw _ (List.mem_of_getElem? (i := 1) rfl), hw _ (List.mem_of_getElem? (i := 20) rfl)⟩)
  have E_GREATER_EQUAL := Exa.start ev_GREATER_EQUAL nw4
  obtain ⟨a_LESS_EQUAL, ev_LESS_EQUAL⟩ := exa_v nw6
  have S_LESS_EQUAL := Sta.start ev_LESS_EQUAL (Or.inr ⟨hw _ (List.mem_of_getElem? (i := 1) rfl), hw _ (List.mem_of_getElem? (i := 22) rfl)⟩)
  have E_LESS_EQUAL := Exa.start ev_LESS_EQUAL nw6
  have F_LESS_ordinal := own_fldi ev_LESS nw1
  have F_GREATER_ordinal := own_fldi ev_GREATER nw3
  have F_GREATER_EQUAL_ordinal := own_fldi ev_GREATER_EQUAL nw5
  have F_LESS_EQUAL_ordinal := own_fldi ev_LESS_EQUAL nx6
  obtain ⟨n, o, h1, h2, h3, _, L, rfl, ⟨rfl, N⟩, hq⟩ := rm0 l s _ hw tables_1 i0 i1 i2 s.heap s.heap.size (Nat.le_refl _) a_LESS S_LESS E_LESS F_LESS_ordinal a_LESS_EQUAL S_LESS_EQUAL E_LESS_EQUAL F_LESS_EQUAL_ordinal a_GREATER S_GREATER E_GREATER F_GREATER_ordinal a_GREATER_EQUAL S_GREATER_EQUAL E_GREATER_EQUAL F_GREATER_EQUAL_ordinal p e ha hc hk s m _ below hf ((Spec.applies_iff_loose hf).mp happ).1 ⟨rfl, State.Warmed39.refl s, rfl⟩ trivial
  refine ⟨n, _, h1, h2, h3, hpost _ _ _ _ _ _ ⟨Cond.after_iff.mpr rfl, Cond.after_iff.mpr (eq_i res_at (Term.int_eval (1)) rfl), trivial⟩ ⟨hq.1, hq.2.1, (hq.2.2.sift fun y hy => Or.inr (N y hy)).mono (by decide) (by decide)⟩⟩
theorem main_1_1 : Claimed_1_1 := comes_1 fun _ _ _ _ _ _ h hF => ⟨h.1, hF⟩
theorem main_1_2 : Claimed_1_2 := comes_1 fun _ _ _ _ _ _ h hF => ⟨h.2.1, hF⟩

end Jvm.Pilot.@@N@@
namespace Jvm.Pilot.@@N@@
open Jvm Jvm.ClassFile Sem Op Lib Jvm.Free Jvm.Stand Jvm.Pilot.@@N@@.Jvm.D
/-! MADE BY PROGRAM (witnessworld.py) out of the Statement's table words and the real class files: 12 classes; the members and pool entries that the words name. The judged class is class 1, her method 1. -/
namespace start1
open Jvm.ClassFile
def u (s : String) : CpInfo := .utf8 (stringToUtf16 s)
/-- a pool by its gaps: so many unusable entries, then the entry; so many at the end -/
def gap : Nat → List CpInfo → List CpInfo
  | 0, r => r
  | n + 1, r => .unusable :: gap n r
def poolList (es : List (Nat × CpInfo)) (last : Nat) : List CpInfo := es.foldr (fun e r => gap e.1 (e.2 :: r)) (gap last [])
def pool (es : List (Nat × CpInfo)) (last : Nat) : Array CpInfo := ⟨poolList es last⟩
def fileOf (pool : Array CpInfo) (this : Nat) (attrs : Array Attribute := #[]) (ms : Array MethodInfo := #[]) (fl : Nat := 33) (sup : Nat := 0) (ifs : Array Nat := #[]) (fds : Array FieldInfo := #[]) : ClassFile where
  minorVersion := 0
  majorVersion := 65
  constantPool := pool
  accessFlags := fl
  thisClass := this
  superClass := sup
  interfaces := ifs
  fields := fds
  methods := ms
  attributes := attrs
def plain (name : String) (sup : Option ClassId) : Class where
  name := name
  kind := .ordinary
  loader := none
  accessFlags := 33
  super := sup
  interfaces := #[]
  cf := none
  fields := #[]
  methods := #[]
  instanceTypes := #[]
  staticTypes := #[]
  resolved := #[]
  callSites := []
  init := .initialized
  statics := none
  mirror := none

def pool0 : Array CpInfo := pool [(5, u "<init>"), (0, u "()V"), (1, .class_ 10), (1, u "java/lang/Object")] 113

def k0m0 : Method := { name := "<init>", desc := "()V", sig := { parameters := [], returnType := none }, accessFlags := 1, code := none }
/-- java/lang/Object -/
def k0 : Class := { plain "java/lang/Object" none with
  accessFlags := 33
  interfaces := #[]
  cf := some (fileOf pool0 8 #[] #[{ accessFlags := 1, nameIndex := 5, descriptorIndex := 6, attributes := #[] }] 33 0 #[] #[])
  fields := #[]
  methods := #[k0m0]
  instanceTypes := #[]
  staticTypes := #[]
  resolved := Array.replicate 124 none
  statics := none }

def pool1 : Array CpInfo := pool [(2, .class_ 4), (1, u "java/lang/Object"), (0, u "<init>"), (0, u "()V"), (0, .fieldref 8 9), (0, .class_ 10), (0, .nameAndType 11 12), (0, u "com/example/sanction/sanction/language/Comparison$Operator"), (0, u "LESS"), (0, u "Lcom/example/sanction/sanction/language/Comparison$Operator;"), (0, .fieldref 8 14), (0, .nameAndType 15 12), (0, u "LESS_EQUAL"), (0, .fieldref 8 17), (0, .nameAndType 18 12), (0, u "GREATER"), (0, .fieldref 8 20), (0, .nameAndType 21 12), (0, u "GREATER_EQUAL"), (0, .methodref 8 23), (0, .nameAndType 24 25), (0, u "holds"), (0, u "(JJ)Z"), (0, .class_ 27), (0, u "com/example/sanction/sanction/language/OperatorHoldsPinLaw"), (2, u "law"), (0, u "(IJJ)Z")] 7

def k1m0 : Method := { name := "<init>", desc := "()V", sig := { parameters := [], returnType := none }, accessFlags := 1, code := none }
def k1c1 : Code := { maxStack := 5, maxLocals := 13, code := code, exceptionTable := #[], attributes := #[] }
def k1m1 : Method := { name := "law", desc := "(IJJ)Z", sig := { parameters := [.int, .long, .long], returnType := some .boolean }, accessFlags := 9, code := some k1c1 }
/-- com/example/sanction/sanction/language/OperatorHoldsPinLaw -/
def k1 : Class := { plain "com/example/sanction/sanction/language/OperatorHoldsPinLaw" (some 0) with
  accessFlags := 49
  interfaces := #[]
  cf := some (fileOf pool1 26 #[] #[{ accessFlags := 1, nameIndex := 5, descriptorIndex := 6, attributes := #[] }, { accessFlags := 9, nameIndex := 30, descriptorIndex := 31, attributes := #[] }] 49 2 #[] #[])
  fields := #[]
  methods := #[k1m0, k1m1]
  instanceTypes := #[]
  staticTypes := #[]
  resolved := Array.replicate 39 none
  statics := none }

def pool2 : Array CpInfo := pool [(1, .class_ 2), (0, u "java/lang/constant/Constable"), (0, .class_ 4), (0, u "java/lang/Object")] 6

/-- java/lang/constant/Constable -/
def k2 : Class := { plain "java/lang/constant/Constable" (some 0) with
  accessFlags := 1537
  interfaces := #[]
  cf := some (fileOf pool2 1 #[] #[] 1537 3 #[] #[])
  fields := #[]
  methods := #[]
  instanceTypes := #[]
  staticTypes := #[]
  resolved := Array.replicate 11 none
  statics := none }

def pool3 : Array CpInfo := pool [(1, .class_ 2), (0, u "java/lang/Comparable"), (0, .class_ 4), (0, u "java/lang/Object")] 7

/-- java/lang/Comparable -/
def k3 : Class := { plain "java/lang/Comparable" (some 0) with
  accessFlags := 1537
  interfaces := #[]
  cf := some (fileOf pool3 1 #[] #[] 1537 3 #[] #[])
  fields := #[]
  methods := #[]
  instanceTypes := #[]
  staticTypes := #[]
  resolved := Array.replicate 12 none
  statics := none }

def pool4 : Array CpInfo := pool [(1, .class_ 2), (0, u "java/io/Serializable"), (0, .class_ 4), (0, u "java/lang/Object")] 2

/-- java/io/Serializable -/
def k4 : Class := { plain "java/io/Serializable" (some 0) with
  accessFlags := 1537
  interfaces := #[]
  cf := some (fileOf pool4 1 #[] #[] 1537 3 #[] #[])
  fields := #[]
  methods := #[]
  instanceTypes := #[]
  staticTypes := #[]
  resolved := Array.replicate 7 none
  statics := none }

def pool5 : Array CpInfo := pool [(2, .class_ 4), (1, u "java/lang/Enum"), (0, u "name"), (0, u "Ljava/lang/String;"), (0, .fieldref 2 8), (0, .nameAndType 9 10), (0, u "ordinal"), (0, u "I"), (1, .class_ 14), (1, u "java/lang/Object"), (4, u "hash"), (86, .class_ 108), (1, u "java/lang/Enum$EnumDesc"), (2, .class_ 112), (0, u "java/lang/constant/Constable"), (0, .class_ 114), (0, u "java/lang/Comparable"), (0, .class_ 116), (0, u "java/io/Serializable"), (9, u "()I")] 77

def k5c0 : Code := { maxStack := 1, maxLocals := 1, code := jdk_37_method_2_code, exceptionTable := #[], attributes := #[] }
def k5m0 : Method := { name := "ordinal", desc := "()I", sig := { parameters := [], returnType := some .int }, accessFlags := 17, code := some k5c0 }
/-- java/lang/Enum -/
def k5 : Class := { plain "java/lang/Enum" (some 0) with
  accessFlags := 1057
  interfaces := #[2, 3, 4]
  cf := some (fileOf pool5 2 #[.nestMembers #[106]] #[{ accessFlags := 17, nameIndex := 9, descriptorIndex := 126, attributes := #[] }] 1057 12 #[111, 113, 115] #[{ accessFlags := 18, nameIndex := 5, descriptorIndex := 6, attributes := #[] }, { accessFlags := 18, nameIndex := 9, descriptorIndex := 10, attributes := #[] }, { accessFlags := 2, nameIndex := 19, descriptorIndex := 10, attributes := #[] }])
  fields := #[{ name := "name", type := (.object "java/lang/String"), accessFlags := 18, slot := 0, constantValue := 0 }, { name := "ordinal", type := .int, accessFlags := 18, slot := 1, constantValue := 0 }, { name := "hash", type := .int, accessFlags := 2, slot := 2, constantValue := 0 }]
  methods := #[k5m0]
  instanceTypes := #[(.object "java/lang/String"), .int, .int]
  staticTypes := #[]
  resolved := Array.replicate 204 none
  statics := none }

def pool6 : Array CpInfo := pool [(1, .class_ 2), (0, u "com/example/sanction/sanction/language/Comparison$Operator"), (2, u "LESS"), (0, u "Lcom/example/sanction/sanction/language/Comparison$Operator;"), (2, u "LESS_EQUAL"), (2, u "GREATER"), (2, u "GREATER_EQUAL"), (2, u "$VALUES"), (0, u "[Lcom/example/sanction/sanction/language/Comparison$Operator;"), (6, .class_ 28), (1, u "java/lang/Enum"), (8, u "symbol"), (0, u "Lcom/example/sanction/sanction/language/TokenKind;"), (0, .methodref 1 40), (0, .nameAndType 41 42), (0, u "ordinal"), (0, u "()I"), (34, u "holds"), (0, u "(JJ)Z"), (7, .class_ 87), (0, u "com/example/sanction/sanction/language/Comparison")] 2

def k6c0 : Code := { maxStack := 4, maxLocals := 5, code := prog_81_method_5_code, exceptionTable := #[], attributes := #[] }
def k6m0 : Method := { name := "holds", desc := "(JJ)Z", sig := { parameters := [.long, .long], returnType := some .boolean }, accessFlags := 1, code := some k6c0 }
/-- com/example/sanction/sanction/language/Comparison$Operator -/
def k6 : Class := { plain "com/example/sanction/sanction/language/Comparison$Operator" (some 5) with
  accessFlags := 16433
  interfaces := #[]
  cf := some (fileOf pool6 1 #[.nestHost 86] #[{ accessFlags := 1, nameIndex := 77, descriptorIndex := 78, attributes := #[] }] 16433 26 #[] #[{ accessFlags := 16409, nameIndex := 5, descriptorIndex := 6, attributes := #[] }, { accessFlags := 16409, nameIndex := 9, descriptorIndex := 6, attributes := #[] }, { accessFlags := 16409, nameIndex := 12, descriptorIndex := 6, attributes := #[] }, { accessFlags := 16409, nameIndex := 15, descriptorIndex := 6, attributes := #[] }, { accessFlags := 18, nameIndex := 37, descriptorIndex := 38, attributes := #[] }, { accessFlags := 4122, nameIndex := 18, descriptorIndex := 19, attributes := #[] }])
  fields := #[{ name := "LESS", type := (.object "com/example/sanction/sanction/language/Comparison$Operator"), accessFlags := 16409, slot := 0, constantValue := 0 }, { name := "LESS_EQUAL", type := (.object "com/example/sanction/sanction/language/Comparison$Operator"), accessFlags := 16409, slot := 1, constantValue := 0 }, { name := "GREATER", type := (.object "com/example/sanction/sanction/language/Comparison$Operator"), accessFlags := 16409, slot := 2, constantValue := 0 }, { name := "GREATER_EQUAL", type := (.object "com/example/sanction/sanction/language/Comparison$Operator"), accessFlags := 16409, slot := 3, constantValue := 0 }, { name := "symbol", type := (.object "com/example/sanction/sanction/language/TokenKind"), accessFlags := 18, slot := 3, constantValue := 0 }, { name := "$VALUES", type := (.array (.object "com/example/sanction/sanction/language/Comparison$Operator")), accessFlags := 4122, slot := 4, constantValue := 0 }]
  methods := #[k6m0]
  instanceTypes := #[(.object "java/lang/String"), .int, .int, (.object "com/example/sanction/sanction/language/TokenKind")]
  staticTypes := #[(.object "com/example/sanction/sanction/language/Comparison$Operator"), (.object "com/example/sanction/sanction/language/Comparison$Operator"), (.object "com/example/sanction/sanction/language/Comparison$Operator"), (.object "com/example/sanction/sanction/language/Comparison$Operator"), (.array (.object "com/example/sanction/sanction/language/Comparison$Operator"))]
  resolved := Array.replicate 90 none
  statics := some 0 }

def pool7 : Array CpInfo := pool [(1, u "java/lang/Cloneable"), (0, .class_ 1), (0, u "java/lang/Object"), (0, .class_ 3)] 3

/-- java/lang/Cloneable -/
def k7 : Class := { plain "java/lang/Cloneable" (some 0) with
  accessFlags := 1537
  interfaces := #[]
  cf := some (fileOf pool7 2 #[] #[] 1537 4 #[] #[])
  fields := #[]
  methods := #[]
  instanceTypes := #[]
  staticTypes := #[]
  resolved := Array.replicate 8 none
  statics := none }

/-- the primitive byte -/
def k8 : Class := { plain "byte" none with kind := .primitive 'B', accessFlags := 0x411 }
/-- [B -/
def k9 : Class := { plain "[B" (some 0) with kind := .array 8 .byte, interfaces := #[7, 4], accessFlags := 1041 }

/-- the primitive int -/
def k10 : Class := { plain "int" none with kind := .primitive 'I', accessFlags := 0x411 }
/-- [I -/
def k11 : Class := { plain "[I" (some 0) with kind := .array 10 .int, interfaces := #[7, 4], accessFlags := 1041 }

def heap : Heap := #[{ cls := 6, slots := #[.ref 1, .ref 2, .ref 3, .ref 4, .null], vm := .statics 6 },
  { cls := 6, slots := #[.null, .int 0, .int 0, .null], vm := .none },
  { cls := 6, slots := #[.null, .int 1, .int 0, .null], vm := .none },
  { cls := 6, slots := #[.null, .int 2, .int 0, .null], vm := .none },
  { cls := 6, slots := #[.null, .int 3, .int 0, .null], vm := .none }]
def classes : Array Class := #[k0, k1, k2, k3, k4, k5, k6, k7, k8, k9, k10, k11]
def interned : List (Array UInt16 × Addr) := []
def slotsUsed : Nat := 21
def theMethod : MethodId := ⟨1, 1⟩
def args0 : Array Value := #[.int 5, .long 3, .long 9]
def aboutOver (below : List Frame) : State where
  vm := { classes := classes, interned := interned.toArray }
  heap := heap
  slotsUsed := slotsUsed
  threads := #[{ frames := .invoking theMethod args0 :: below }]
def below0 : List Frame := [.native { method := ⟨0, 0⟩, args := #[] }]
def about1 : State := aboutOver below0
def p0 : Program := .bare "" "" ""
def e0 : Env := launch0.env 0 0 0
theorem w_frames : about1.frames = Frame.invoking theMethod args0 :: below0 := rfl
set_option maxRecDepth 65536 in
theorem w_args : argsFit about1.vm theMethod args0 = true := by decide +kernel
set_option maxRecDepth 65536 in
theorem w_heap : heapFits about1 = true := by decide +kernel
set_option maxRecDepth 65536 in
theorem w_runnable : about1.curStatus? = some .runnable := by decide +kernel
set_option maxRecDepth 65536 in
theorem w_alone : about1.alone = true := by decide +kernel
set_option maxRecDepth 65536 in
theorem w_named : about1.methodNamed? x = some theMethod := by decide +kernel
set_option maxRecDepth 65536 in
theorem w_hears : about1.hears theMethod below0 = true := by decide +kernel
set_option maxRecDepth 65536 in
theorem w_ripe : about1.ripe theMethod args0 below0 = true := by decide +kernel
theorem w_running : about1.status = .running := rfl
set_option maxRecDepth 65536 in
theorem w_room : about1.hasRoom e0.platform room_1 = true :=
  launch0.hasRoom_least _ room_1 (by decide +kernel) (by decide +kernel) (by decide +kernel) (by decide +kernel) (by decide +kernel) (by decide +kernel)
theorem allAtoms_all (ts : List Jvm.Cond) (a : Array Jvm.Value) (st : Jvm.State) : (allAtoms ts).before a st = ts.all (fun c => c.before a st) := by
  induction ts with
  | nil => rfl
  | cons c t ih =>
    show (Jvm.Cond.and c (allAtoms t)).before a st = _
    rw [Jvm.Cond.before_and, ih, List.all_cons]
def words1 : List Jvm.Cond := Jvm.Cond.code x code maxLocals ret :: tables_1
/-- a 'code' word, met by the world's own term for the bytes: nothing is compared byte by byte -/
theorem code_word {y : MethodName} {bytes : ByteArray} {mx : Nat} {rt : Option FieldType} {a : Array Value} {s : State} {m : MethodId} {meth : Method} {c : Code} (h1 : s.methodNamed? y = some m) (h2 : s.vm.method? m = some meth) (h3 : meth.code = some c) (h4 : c.code = bytes)
    (h5 : (c.maxLocals == mx && c.exceptionTable.isEmpty && decide (c.maxStack ≤ mostOperands) && decide (meth.sig.returnType = rt) && !meth.locks && decide (parseMethodDescriptor y.desc = some meth.sig)) = true) : (Jvm.Cond.code y bytes mx rt).before a s = true := by
  simp only [Bool.and_eq_true, beq_iff_eq, Bool.not_eq_true', decide_eq_true_eq] at h5
  obtain ⟨⟨⟨⟨⟨g1, g2⟩, g3⟩, g4⟩, g5⟩, g6⟩ := h5
  simp [Cond.before, Cond.holds, Cond.value, h1, h2, h3, h4, g1, g2, g3, g4, g5, g6]
def isCode : Jvm.Cond → Bool
  | .code _ _ _ _ => true
  | _ => false
theorem all_split {L : List Jvm.Cond} {P : Jvm.Cond → Bool} (h1 : L.all (fun c => isCode c || P c) = true) (h2 : ∀ c ∈ L.filter isCode, P c = true) : L.all P = true := by
  refine List.all_eq_true.mpr fun c hc => ?_
  have h := List.all_eq_true.mp h1 c hc
  rcases Bool.eq_false_or_eq_true (isCode c) with hi | hi
  · exact h2 c (List.mem_filter.mpr ⟨hc, hi⟩)
  · simpa [hi] using h
set_option maxRecDepth 65536 in
theorem w_c0 : (Jvm.Cond.code x code maxLocals ret).before args0 about1 = true := code_word (m := ⟨1, 1⟩) (meth := k1m1) (c := k1c1) (by decide +kernel) rfl rfl rfl (by decide +kernel)
set_option maxRecDepth 65536 in
theorem w_c1 : (Jvm.Cond.code ({ cls := "com/example/sanction/sanction/language/Comparison$Operator", name := "holds", desc := "(JJ)Z" } : Jvm.MethodName) prog_81_method_5_code (5 : Nat) (Option.some Jvm.ClassFile.FieldType.boolean)).before args0 about1 = true := code_word (m := ⟨6, 0⟩) (meth := k6m0) (c := k6c0) (by decide +kernel) rfl rfl rfl (by decide +kernel)
set_option maxRecDepth 65536 in
theorem w_c2 : (Jvm.Cond.code ({ cls := "java/lang/Enum", name := "ordinal", desc := "()I" } : Jvm.MethodName) jdk_37_method_2_code (1 : Nat) (Option.some Jvm.ClassFile.FieldType.int)).before args0 about1 = true := code_word (m := ⟨5, 0⟩) (meth := k5m0) (c := k5c0) (by decide +kernel) rfl rfl rfl (by decide +kernel)
def codes1 : List Jvm.Cond := [Jvm.Cond.code x code maxLocals ret, Jvm.Cond.code ({ cls := "com/example/sanction/sanction/language/Comparison$Operator", name := "holds", desc := "(JJ)Z" } : Jvm.MethodName) prog_81_method_5_code (5 : Nat) (Option.some Jvm.ClassFile.FieldType.boolean), Jvm.Cond.code ({ cls := "java/lang/Enum", name := "ordinal", desc := "()I" } : Jvm.MethodName) jdk_37_method_2_code (1 : Nat) (Option.some Jvm.ClassFile.FieldType.int)]
set_option maxRecDepth 65536 in
theorem codes_eq : words1.filter isCode = codes1 := rfl
theorem w_codes : ∀ c ∈ words1.filter isCode, c.before args0 about1 = true := by
  rw [codes_eq]
  intro c hc
  simp only [codes1, List.mem_cons, List.not_mem_nil, or_false] at hc
  rcases hc with rfl | rfl | rfl
  · exact w_c0
  · exact w_c1
  · exact w_c2
set_option maxRecDepth 65536 in
theorem w_t1 : words1.all (fun c => isCode c || c.before args0 about1) = true := by decide +kernel
theorem w_tables : (allAtoms (Jvm.Cond.code x code maxLocals ret :: tables_1)).before args0 about1 = true := by
  rw [allAtoms_all]
  show words1.all (fun c => c.before args0 about1) = true
  refine all_split ?_ w_codes
  rw [w_t1]
set_option maxRecDepth 65536 in
theorem w_case : (Jvm.Cond.and given_1 narrow_1).before args0 about1 = true := by decide +kernel
theorem w_applies : (headSpec (Jvm.Cond.code x code maxLocals ret :: tables_1) room_1).applies x e0.platform about1 = true :=
  (Spec.applies_iff w_frames).mpr ⟨w_running, w_runnable, w_alone, w_named, w_hears, w_ripe, w_room, w_tables⟩
theorem atStart : AtStart classFile x code maxLocals ret World_1 tables_1 room_1 Calls_1 rest_1 Pre_1 launch0 p0 e0 about1 theMethod args0 below0 :=
  ⟨lists_1, trivial, launch0.admits_env _ _ _, launch0.least_env, fairChoices_fair.cas, fairChoices_fair.clock, w_frames, w_args, w_heap, w_applies, trivial, trivial, w_case⟩
end start1
theorem witness_1 : WitnessClaimed_1 := ⟨start1.p0, start1.e0, start1.about1, start1.theMethod, start1.args0, start1.below0, start1.atStart⟩
end Jvm.Pilot.@@N@@
