import JvmDerived
import JvmDerived.Pilot.@@N@@Statement
import JvmDerived.Pilot.@@N@@Code
set_option linter.unusedVariables false
set_option linter.unusedSimpArgs false
namespace Jvm.RoadKit
open Sem ClassFile Op Lib Jvm.Stand Jvm.Free Jvm.LawKit
section New
variable {p : Program} {l : Launch} {e : Env} {R : Room} {s : State} {m : MethodId} {args : Array Value} {below : List Frame} {meth : Method} {c : Code} {T : State} {locs : List Loc} {cells slots : Nat}
theorem retI (X : Stand p l e R s m args below meth c T locs cells slots) (hx : p.tables.exec = Jvm.exec) {pc : Nat} {Ls : Array Slot} {z : Int32} {rest : List Value} (hret : meth.sig.returnType = some .int) (hd : decode c.code pc = .ok (.ireturn, 1)) {fs : List Frame}
    (hl : ∀ (f : JFrame) (acts : List Action), f.method = m → f.locked = none → f.entered = [] → (doReturn e (T.setTop f) acts (some (.int z))).1 = T.setFrames fs) : Steps p.tables e below (T.setTop (mkF m pc Ls (.int z :: rest))) (T.setFrames fs) := by
  have hm' : T.vm.method? m = some meth := X.method'
  have hn : narrow .int (.int z) = .int z := rfl
  show Steps p.tables e below (T.setTop { method := m, pc := pc, locals := Ls, stack := _ :: rest, locked := none }) _
  jvm_step X.here [X.here.top, hx, hd, hm', hret, hn]
  first | (intro acts; rw [hl _ acts rfl rfl rfl]) | rw [hl _ _ rfl rfl rfl]
  exact Steps.refl _
end New
end Jvm.RoadKit
namespace Jvm.Pilot.@@N@@
open Jvm Jvm.ClassFile Sem Op Lib Jvm.Free Jvm.Stand Jvm.LawKit Jvm.RoadKit Bundle Jvm.Pilot.@@N@@.Jvm.D
abbrev own_m0 : MethodName := ⟨"java/lang/Enum", "ordinal", "()I"⟩
abbrev own_m1 : MethodName := ⟨"com/example/dirwarden/dirwarden/aci/ComparisonOrdersPinLaw", "pick", "(I)Lcom/example/dirwarden/dirwarden/aci/Comparison;"⟩
abbrev own_m2 : MethodName := ⟨"com/example/dirwarden/dirwarden/aci/Comparison", "orders", "()Z"⟩
abbrev own_m3 : MethodName := ⟨"com/example/dirwarden/dirwarden/aci/ComparisonOrdersPinLaw", "expected", "(I)Z"⟩
abbrev own_m4 : MethodName := ⟨"com/example/dirwarden/dirwarden/aci/Comparison", "holds", "(I)Z"⟩
abbrev own_m5 : MethodName := ⟨"com/example/dirwarden/dirwarden/aci/Comparison", "ordinal", "()I"⟩
theorem own_w0 {Z : State} {a0 : Array Value} (hw : ∀ d ∈ tables_1, d.before a0 Z = true) : (Jvm.Cond.constant "com/example/dirwarden/dirwarden/aci/ComparisonOrdersPinLaw" (28 : Nat) (2147483647 : Int32)).before a0 Z = true := hw _ (List.mem_of_getElem? (i := 0) rfl)
theorem own_w1 {Z : State} {a0 : Array Value} (hw : ∀ d ∈ tables_1, d.before a0 Z = true) : (Jvm.Cond.methodLink "com/example/dirwarden/dirwarden/aci/ComparisonOrdersPinLaw" (29 : Nat) ({ cls := "com/example/dirwarden/dirwarden/aci/ComparisonOrdersPinLaw", name := "pick", desc := "(I)Lcom/example/dirwarden/dirwarden/aci/Comparison;" } : Jvm.MethodName)).before a0 Z = true := hw _ (List.mem_of_getElem? (i := 1) rfl)
theorem own_w2 {Z : State} {a0 : Array Value} (hw : ∀ d ∈ tables_1, d.before a0 Z = true) : (Jvm.Cond.static ({ cls := "com/example/dirwarden/dirwarden/aci/ComparisonOrdersPinLaw", name := "pick", desc := "(I)Lcom/example/dirwarden/dirwarden/aci/Comparison;" } : Jvm.MethodName)).before a0 Z = true := hw _ (List.mem_of_getElem? (i := 2) rfl)
theorem own_w3 {Z : State} {a0 : Array Value} (hw : ∀ d ∈ tables_1, d.before a0 Z = true) : (Jvm.Cond.initialized "com/example/dirwarden/dirwarden/aci/ComparisonOrdersPinLaw").before a0 Z = true := hw _ (List.mem_of_getElem? (i := 3) rfl)
theorem own_w4 {Z : State} {a0 : Array Value} (hw : ∀ d ∈ tables_1, d.before a0 Z = true) : (Jvm.Cond.code ({ cls := "com/example/dirwarden/dirwarden/aci/ComparisonOrdersPinLaw", name := "pick", desc := "(I)Lcom/example/dirwarden/dirwarden/aci/Comparison;" } : Jvm.MethodName) method_2_code (1 : Nat) (Option.some (Jvm.ClassFile.FieldType.object "com/example/dirwarden/dirwarden/aci/Comparison"))).before a0 Z = true := hw _ (List.mem_of_getElem? (i := 4) rfl)
theorem own_w5 {Z : State} {a0 : Array Value} (hw : ∀ d ∈ tables_1, d.before a0 Z = true) : (Jvm.Cond.fieldLink "com/example/dirwarden/dirwarden/aci/ComparisonOrdersPinLaw" (7 : Nat) "com/example/dirwarden/dirwarden/aci/Comparison" "NOT_EQUAL" "Lcom/example/dirwarden/dirwarden/aci/Comparison;").before a0 Z = true := hw _ (List.mem_of_getElem? (i := 5) rfl)
theorem own_w6 {Z : State} {a0 : Array Value} (hw : ∀ d ∈ tables_1, d.before a0 Z = true) : (Jvm.Cond.initialized "com/example/dirwarden/dirwarden/aci/Comparison").before a0 Z = true := hw _ (List.mem_of_getElem? (i := 6) rfl)
theorem own_w8 {Z : State} {a0 : Array Value} (hw : ∀ d ∈ tables_1, d.before a0 Z = true) : (Jvm.Cond.methodLink "com/example/dirwarden/dirwarden/aci/ComparisonOrdersPinLaw" (35 : Nat) ({ cls := "com/example/dirwarden/dirwarden/aci/Comparison", name := "orders", desc := "()Z" } : Jvm.MethodName)).before a0 Z = true := hw _ (List.mem_of_getElem? (i := 8) rfl)
theorem own_w9 {Z : State} {a0 : Array Value} (hw : ∀ d ∈ tables_1, d.before a0 Z = true) : (Jvm.Cond.declares ({ cls := "com/example/dirwarden/dirwarden/aci/Comparison", name := "orders", desc := "()Z" } : Jvm.MethodName)).before a0 Z = true := hw _ (List.mem_of_getElem? (i := 9) rfl)
theorem own_w10 {Z : State} {a0 : Array Value} (hw : ∀ d ∈ tables_1, d.before a0 Z = true) : (Jvm.Cond.instanceMethod ({ cls := "com/example/dirwarden/dirwarden/aci/Comparison", name := "orders", desc := "()Z" } : Jvm.MethodName)).before a0 Z = true := hw _ (List.mem_of_getElem? (i := 10) rfl)
theorem own_w11 {Z : State} {a0 : Array Value} (hw : ∀ d ∈ tables_1, d.before a0 Z = true) : (Jvm.Cond.selects "com/example/dirwarden/dirwarden/aci/Comparison" ({ cls := "com/example/dirwarden/dirwarden/aci/Comparison", name := "orders", desc := "()Z" } : Jvm.MethodName) ({ cls := "com/example/dirwarden/dirwarden/aci/Comparison", name := "orders", desc := "()Z" } : Jvm.MethodName)).before a0 Z = true := hw _ (List.mem_of_getElem? (i := 11) rfl)
theorem own_w12 {Z : State} {a0 : Array Value} (hw : ∀ d ∈ tables_1, d.before a0 Z = true) : (Jvm.Cond.code ({ cls := "com/example/dirwarden/dirwarden/aci/Comparison", name := "orders", desc := "()Z" } : Jvm.MethodName) prog_2_method_5_code (1 : Nat) (Option.some Jvm.ClassFile.FieldType.boolean)).before a0 Z = true := hw _ (List.mem_of_getElem? (i := 12) rfl)
theorem own_w13 {Z : State} {a0 : Array Value} (hw : ∀ d ∈ tables_1, d.before a0 Z = true) : (Jvm.Cond.fieldLink "com/example/dirwarden/dirwarden/aci/Comparison" (13 : Nat) "com/example/dirwarden/dirwarden/aci/Comparison" "EQUAL" "Lcom/example/dirwarden/dirwarden/aci/Comparison;").before a0 Z = true := hw _ (List.mem_of_getElem? (i := 13) rfl)
theorem own_w15 {Z : State} {a0 : Array Value} (hw : ∀ d ∈ tables_1, d.before a0 Z = true) : (Jvm.Cond.fieldLink "com/example/dirwarden/dirwarden/aci/Comparison" (3 : Nat) "com/example/dirwarden/dirwarden/aci/Comparison" "NOT_EQUAL" "Lcom/example/dirwarden/dirwarden/aci/Comparison;").before a0 Z = true := hw _ (List.mem_of_getElem? (i := 15) rfl)
theorem own_w16 {Z : State} {a0 : Array Value} (hw : ∀ d ∈ tables_1, d.before a0 Z = true) : (Jvm.Cond.methodLink "com/example/dirwarden/dirwarden/aci/ComparisonOrdersPinLaw" (39 : Nat) ({ cls := "com/example/dirwarden/dirwarden/aci/ComparisonOrdersPinLaw", name := "expected", desc := "(I)Z" } : Jvm.MethodName)).before a0 Z = true := hw _ (List.mem_of_getElem? (i := 16) rfl)
theorem own_w17 {Z : State} {a0 : Array Value} (hw : ∀ d ∈ tables_1, d.before a0 Z = true) : (Jvm.Cond.static ({ cls := "com/example/dirwarden/dirwarden/aci/ComparisonOrdersPinLaw", name := "expected", desc := "(I)Z" } : Jvm.MethodName)).before a0 Z = true := hw _ (List.mem_of_getElem? (i := 17) rfl)
theorem own_w18 {Z : State} {a0 : Array Value} (hw : ∀ d ∈ tables_1, d.before a0 Z = true) : (Jvm.Cond.code ({ cls := "com/example/dirwarden/dirwarden/aci/ComparisonOrdersPinLaw", name := "expected", desc := "(I)Z" } : Jvm.MethodName) method_3_code (1 : Nat) (Option.some Jvm.ClassFile.FieldType.boolean)).before a0 Z = true := hw _ (List.mem_of_getElem? (i := 18) rfl)
theorem own_w19 {Z : State} {a0 : Array Value} (hw : ∀ d ∈ tables_1, d.before a0 Z = true) : (Jvm.Cond.methodLink "com/example/dirwarden/dirwarden/aci/ComparisonOrdersPinLaw" (43 : Nat) ({ cls := "com/example/dirwarden/dirwarden/aci/Comparison", name := "holds", desc := "(I)Z" } : Jvm.MethodName)).before a0 Z = true := hw _ (List.mem_of_getElem? (i := 19) rfl)
theorem own_w20 {Z : State} {a0 : Array Value} (hw : ∀ d ∈ tables_1, d.before a0 Z = true) : (Jvm.Cond.declares ({ cls := "com/example/dirwarden/dirwarden/aci/Comparison", name := "holds", desc := "(I)Z" } : Jvm.MethodName)).before a0 Z = true := hw _ (List.mem_of_getElem? (i := 20) rfl)
theorem own_w21 {Z : State} {a0 : Array Value} (hw : ∀ d ∈ tables_1, d.before a0 Z = true) : (Jvm.Cond.instanceMethod ({ cls := "com/example/dirwarden/dirwarden/aci/Comparison", name := "holds", desc := "(I)Z" } : Jvm.MethodName)).before a0 Z = true := hw _ (List.mem_of_getElem? (i := 21) rfl)
theorem own_w22 {Z : State} {a0 : Array Value} (hw : ∀ d ∈ tables_1, d.before a0 Z = true) : (Jvm.Cond.selects "com/example/dirwarden/dirwarden/aci/Comparison" ({ cls := "com/example/dirwarden/dirwarden/aci/Comparison", name := "holds", desc := "(I)Z" } : Jvm.MethodName) ({ cls := "com/example/dirwarden/dirwarden/aci/Comparison", name := "holds", desc := "(I)Z" } : Jvm.MethodName)).before a0 Z = true := hw _ (List.mem_of_getElem? (i := 22) rfl)
theorem own_w23 {Z : State} {a0 : Array Value} (hw : ∀ d ∈ tables_1, d.before a0 Z = true) : (Jvm.Cond.code ({ cls := "com/example/dirwarden/dirwarden/aci/Comparison", name := "holds", desc := "(I)Z" } : Jvm.MethodName) prog_2_method_6_code (2 : Nat) (Option.some Jvm.ClassFile.FieldType.boolean)).before a0 Z = true := hw _ (List.mem_of_getElem? (i := 23) rfl)
theorem own_w24 {Z : State} {a0 : Array Value} (hw : ∀ d ∈ tables_1, d.before a0 Z = true) : (Jvm.Cond.methodLink "com/example/dirwarden/dirwarden/aci/Comparison" (45 : Nat) ({ cls := "com/example/dirwarden/dirwarden/aci/Comparison", name := "ordinal", desc := "()I" } : Jvm.MethodName)).before a0 Z = true := hw _ (List.mem_of_getElem? (i := 24) rfl)
theorem own_w25 {Z : State} {a0 : Array Value} (hw : ∀ d ∈ tables_1, d.before a0 Z = true) : (Jvm.Cond.sameMethod "com/example/dirwarden/dirwarden/aci/Comparison" "java/lang/Enum" "ordinal" "()I").before a0 Z = true := hw _ (List.mem_of_getElem? (i := 25) rfl)
theorem own_w26 {Z : State} {a0 : Array Value} (hw : ∀ d ∈ tables_1, d.before a0 Z = true) : (Jvm.Cond.declares ({ cls := "java/lang/Enum", name := "ordinal", desc := "()I" } : Jvm.MethodName)).before a0 Z = true := hw _ (List.mem_of_getElem? (i := 26) rfl)
theorem own_w27 {Z : State} {a0 : Array Value} (hw : ∀ d ∈ tables_1, d.before a0 Z = true) : (Jvm.Cond.instanceMethod ({ cls := "java/lang/Enum", name := "ordinal", desc := "()I" } : Jvm.MethodName)).before a0 Z = true := hw _ (List.mem_of_getElem? (i := 27) rfl)
theorem own_w28 {Z : State} {a0 : Array Value} (hw : ∀ d ∈ tables_1, d.before a0 Z = true) : (Jvm.Cond.selects "com/example/dirwarden/dirwarden/aci/Comparison" ({ cls := "com/example/dirwarden/dirwarden/aci/Comparison", name := "ordinal", desc := "()I" } : Jvm.MethodName) ({ cls := "java/lang/Enum", name := "ordinal", desc := "()I" } : Jvm.MethodName)).before a0 Z = true := hw _ (List.mem_of_getElem? (i := 28) rfl)
theorem own_w29 {Z : State} {a0 : Array Value} (hw : ∀ d ∈ tables_1, d.before a0 Z = true) : (Jvm.Cond.initialized "java/lang/Enum").before a0 Z = true := hw _ (List.mem_of_getElem? (i := 29) rfl)
theorem own_w30 {Z : State} {a0 : Array Value} (hw : ∀ d ∈ tables_1, d.before a0 Z = true) : (Jvm.Cond.code ({ cls := "java/lang/Enum", name := "ordinal", desc := "()I" } : Jvm.MethodName) jdk_37_method_2_code (1 : Nat) (Option.some Jvm.ClassFile.FieldType.int)).before a0 Z = true := hw _ (List.mem_of_getElem? (i := 30) rfl)
theorem own_w31 {Z : State} {a0 : Array Value} (hw : ∀ d ∈ tables_1, d.before a0 Z = true) : (Jvm.Cond.fieldLink "java/lang/Enum" (7 : Nat) "java/lang/Enum" "ordinal" "I").before a0 Z = true := hw _ (List.mem_of_getElem? (i := 31) rfl)
theorem own_w33 {Z : State} {a0 : Array Value} (hw : ∀ d ∈ tables_1, d.before a0 Z = true) : (Jvm.Cond.fieldLink "com/example/dirwarden/dirwarden/aci/ComparisonOrdersPinLaw" (19 : Nat) "com/example/dirwarden/dirwarden/aci/Comparison" "EQUAL" "Lcom/example/dirwarden/dirwarden/aci/Comparison;").before a0 Z = true := hw _ (List.mem_of_getElem? (i := 33) rfl)
theorem own_w34 {Z : State} {a0 : Array Value} (hw : ∀ d ∈ tables_1, d.before a0 Z = true) : (Jvm.Cond.fieldLink "com/example/dirwarden/dirwarden/aci/ComparisonOrdersPinLaw" (16 : Nat) "com/example/dirwarden/dirwarden/aci/Comparison" "AT_LEAST" "Lcom/example/dirwarden/dirwarden/aci/Comparison;").before a0 Z = true := hw _ (List.mem_of_getElem? (i := 34) rfl)
theorem own_w36 {Z : State} {a0 : Array Value} (hw : ∀ d ∈ tables_1, d.before a0 Z = true) : (Jvm.Cond.fieldLink "com/example/dirwarden/dirwarden/aci/ComparisonOrdersPinLaw" (13 : Nat) "com/example/dirwarden/dirwarden/aci/Comparison" "AT_MOST" "Lcom/example/dirwarden/dirwarden/aci/Comparison;").before a0 Z = true := hw _ (List.mem_of_getElem? (i := 36) rfl)
theorem own_w38 {Z : State} {a0 : Array Value} (hw : ∀ d ∈ tables_1, d.before a0 Z = true) : (Jvm.Cond.fieldLink "com/example/dirwarden/dirwarden/aci/ComparisonOrdersPinLaw" (25 : Nat) "com/example/dirwarden/dirwarden/aci/Comparison" "GREATER" "Lcom/example/dirwarden/dirwarden/aci/Comparison;").before a0 Z = true := hw _ (List.mem_of_getElem? (i := 38) rfl)
theorem own_w40 {Z : State} {a0 : Array Value} (hw : ∀ d ∈ tables_1, d.before a0 Z = true) : (Jvm.Cond.fieldLink "com/example/dirwarden/dirwarden/aci/ComparisonOrdersPinLaw" (22 : Nat) "com/example/dirwarden/dirwarden/aci/Comparison" "LESS" "Lcom/example/dirwarden/dirwarden/aci/Comparison;").before a0 Z = true := hw _ (List.mem_of_getElem? (i := 40) rfl)
theorem own_d1_0 : decode method_2_code 0 = .ok (.iload_n 0, 1) := by decide +kernel
theorem own_d1_1 : decode method_2_code 1 = .ok (.ifCond .ne 7, 3) := by decide +kernel
theorem own_d1_4 : decode method_2_code 4 = .ok (.getstatic 7, 3) := by decide +kernel
theorem own_d1_7 : decode method_2_code 7 = .ok (.areturn, 1) := by decide +kernel
theorem own_d1_8 : decode method_2_code 8 = .ok (.iload_n 0, 1) := by decide +kernel
theorem own_d1_9 : decode method_2_code 9 = .ok (.iconst 1, 1) := by decide +kernel
theorem own_d1_10 : decode method_2_code 10 = .ok (.if_icmp .ne 7, 3) := by decide +kernel
theorem own_d1_13 : decode method_2_code 13 = .ok (.getstatic 13, 3) := by decide +kernel
theorem own_d1_16 : decode method_2_code 16 = .ok (.areturn, 1) := by decide +kernel
theorem own_d1_17 : decode method_2_code 17 = .ok (.iload_n 0, 1) := by decide +kernel
theorem own_d1_18 : decode method_2_code 18 = .ok (.iconst 2, 1) := by decide +kernel
theorem own_d1_19 : decode method_2_code 19 = .ok (.if_icmp .ne 7, 3) := by decide +kernel
theorem own_d1_22 : decode method_2_code 22 = .ok (.getstatic 16, 3) := by decide +kernel
theorem own_d1_25 : decode method_2_code 25 = .ok (.areturn, 1) := by decide +kernel
theorem own_d1_26 : decode method_2_code 26 = .ok (.iload_n 0, 1) := by decide +kernel
theorem own_d1_27 : decode method_2_code 27 = .ok (.iconst 3, 1) := by decide +kernel
theorem own_d1_28 : decode method_2_code 28 = .ok (.if_icmp .ne 7, 3) := by decide +kernel
theorem own_d1_31 : decode method_2_code 31 = .ok (.getstatic 19, 3) := by decide +kernel
theorem own_d1_34 : decode method_2_code 34 = .ok (.areturn, 1) := by decide +kernel
theorem own_d1_35 : decode method_2_code 35 = .ok (.iload_n 0, 1) := by decide +kernel
theorem own_d1_36 : decode method_2_code 36 = .ok (.iconst 4, 1) := by decide +kernel
theorem own_d1_37 : decode method_2_code 37 = .ok (.if_icmp .ne 7, 3) := by decide +kernel
theorem own_d1_40 : decode method_2_code 40 = .ok (.getstatic 22, 3) := by decide +kernel
theorem own_d1_43 : decode method_2_code 43 = .ok (.areturn, 1) := by decide +kernel
theorem own_d1_44 : decode method_2_code 44 = .ok (.getstatic 25, 3) := by decide +kernel
theorem own_d1_47 : decode method_2_code 47 = .ok (.areturn, 1) := by decide +kernel
theorem own_d2_0 : decode prog_2_method_5_code 0 = .ok (.aload_n 0, 1) := by decide +kernel
theorem own_d2_1 : decode prog_2_method_5_code 1 = .ok (.getstatic 13, 3) := by decide +kernel
theorem own_d2_4 : decode prog_2_method_5_code 4 = .ok (.if_acmp .eq 14, 3) := by decide +kernel
theorem own_d2_7 : decode prog_2_method_5_code 7 = .ok (.aload_n 0, 1) := by decide +kernel
theorem own_d2_8 : decode prog_2_method_5_code 8 = .ok (.getstatic 3, 3) := by decide +kernel
theorem own_d2_11 : decode prog_2_method_5_code 11 = .ok (.if_acmp .eq 7, 3) := by decide +kernel
theorem own_d2_14 : decode prog_2_method_5_code 14 = .ok (.iconst 1, 1) := by decide +kernel
theorem own_d2_15 : decode prog_2_method_5_code 15 = .ok (.goto 4, 3) := by decide +kernel
theorem own_d2_18 : decode prog_2_method_5_code 18 = .ok (.iconst 0, 1) := by decide +kernel
theorem own_d2_19 : decode prog_2_method_5_code 19 = .ok (.ireturn, 1) := by decide +kernel
theorem own_d3_0 : decode method_3_code 0 = .ok (.iload_n 0, 1) := by decide +kernel
theorem own_d3_1 : decode method_3_code 1 = .ok (.ifCond .ne 5, 3) := by decide +kernel
theorem own_d3_4 : decode method_3_code 4 = .ok (.iconst 0, 1) := by decide +kernel
theorem own_d3_5 : decode method_3_code 5 = .ok (.ireturn, 1) := by decide +kernel
theorem own_d3_6 : decode method_3_code 6 = .ok (.iload_n 0, 1) := by decide +kernel
theorem own_d3_7 : decode method_3_code 7 = .ok (.iconst 3, 1) := by decide +kernel
theorem own_d3_8 : decode method_3_code 8 = .ok (.if_icmp .ne 5, 3) := by decide +kernel
theorem own_d3_11 : decode method_3_code 11 = .ok (.iconst 0, 1) := by decide +kernel
theorem own_d3_12 : decode method_3_code 12 = .ok (.ireturn, 1) := by decide +kernel
theorem own_d3_13 : decode method_3_code 13 = .ok (.iconst 1, 1) := by decide +kernel
theorem own_d3_14 : decode method_3_code 14 = .ok (.ireturn, 1) := by decide +kernel
theorem own_d4_0 : decode prog_2_method_6_code 0 = .ok (.aload_n 0, 1) := by decide +kernel
theorem own_d4_1 : decode prog_2_method_6_code 1 = .ok (.invokevirtual 45, 3) := by decide +kernel
theorem own_d4_4 : decode prog_2_method_6_code 4 = .ok (.tableswitch 40 0 5 #[62, 86, 110, 50, 74, 98], 40) := by decide +kernel
theorem own_d4_54 : decode prog_2_method_6_code 54 = .ok (.iload_n 1, 1) := by decide +kernel
theorem own_d4_55 : decode prog_2_method_6_code 55 = .ok (.ifCond .ne 7, 3) := by decide +kernel
theorem own_d4_62 : decode prog_2_method_6_code 62 = .ok (.iconst 0, 1) := by decide +kernel
theorem own_d4_63 : decode prog_2_method_6_code 63 = .ok (.goto 60, 3) := by decide +kernel
theorem own_d4_66 : decode prog_2_method_6_code 66 = .ok (.iload_n 1, 1) := by decide +kernel
theorem own_d4_67 : decode prog_2_method_6_code 67 = .ok (.ifCond .eq 7, 3) := by decide +kernel
theorem own_d4_70 : decode prog_2_method_6_code 70 = .ok (.iconst 1, 1) := by decide +kernel
theorem own_d4_71 : decode prog_2_method_6_code 71 = .ok (.goto 52, 3) := by decide +kernel
theorem own_d4_78 : decode prog_2_method_6_code 78 = .ok (.iload_n 1, 1) := by decide +kernel
theorem own_d4_79 : decode prog_2_method_6_code 79 = .ok (.ifCond .ge 7, 3) := by decide +kernel
theorem own_d4_82 : decode prog_2_method_6_code 82 = .ok (.iconst 1, 1) := by decide +kernel
theorem own_d4_83 : decode prog_2_method_6_code 83 = .ok (.goto 40, 3) := by decide +kernel
theorem own_d4_86 : decode prog_2_method_6_code 86 = .ok (.iconst 0, 1) := by decide +kernel
theorem own_d4_87 : decode prog_2_method_6_code 87 = .ok (.goto 36, 3) := by decide +kernel
theorem own_d4_90 : decode prog_2_method_6_code 90 = .ok (.iload_n 1, 1) := by decide +kernel
theorem own_d4_91 : decode prog_2_method_6_code 91 = .ok (.ifCond .gt 7, 3) := by decide +kernel
theorem own_d4_94 : decode prog_2_method_6_code 94 = .ok (.iconst 1, 1) := by decide +kernel
theorem own_d4_95 : decode prog_2_method_6_code 95 = .ok (.goto 28, 3) := by decide +kernel
theorem own_d4_98 : decode prog_2_method_6_code 98 = .ok (.iconst 0, 1) := by decide +kernel
theorem own_d4_99 : decode prog_2_method_6_code 99 = .ok (.goto 24, 3) := by decide +kernel
theorem own_d4_102 : decode prog_2_method_6_code 102 = .ok (.iload_n 1, 1) := by decide +kernel
theorem own_d4_103 : decode prog_2_method_6_code 103 = .ok (.ifCond .le 7, 3) := by decide +kernel
theorem own_d4_106 : decode prog_2_method_6_code 106 = .ok (.iconst 1, 1) := by decide +kernel
theorem own_d4_107 : decode prog_2_method_6_code 107 = .ok (.goto 16, 3) := by decide +kernel
theorem own_d4_110 : decode prog_2_method_6_code 110 = .ok (.iconst 0, 1) := by decide +kernel
theorem own_d4_111 : decode prog_2_method_6_code 111 = .ok (.goto 12, 3) := by decide +kernel
theorem own_d4_114 : decode prog_2_method_6_code 114 = .ok (.iload_n 1, 1) := by decide +kernel
theorem own_d4_115 : decode prog_2_method_6_code 115 = .ok (.ifCond .lt 7, 3) := by decide +kernel
theorem own_d4_118 : decode prog_2_method_6_code 118 = .ok (.iconst 1, 1) := by decide +kernel
theorem own_d4_119 : decode prog_2_method_6_code 119 = .ok (.goto 4, 3) := by decide +kernel
theorem own_d4_122 : decode prog_2_method_6_code 122 = .ok (.iconst 0, 1) := by decide +kernel
theorem own_d4_123 : decode prog_2_method_6_code 123 = .ok (.ireturn, 1) := by decide +kernel
theorem own_d5_0 : decode jdk_37_method_2_code 0 = .ok (.aload_n 0, 1) := by decide +kernel
theorem own_d5_1 : decode jdk_37_method_2_code 1 = .ok (.getfield 7, 3) := by decide +kernel
theorem own_d5_4 : decode jdk_37_method_2_code 4 = .ok (.ireturn, 1) := by decide +kernel
theorem own_pn0 : plainName "java/lang/Enum" = true := by first | (simp [plainName, overriddenIn]; done) | decide +kernel
theorem own_pn1 : plainName "com/example/dirwarden/dirwarden/aci/ComparisonOrdersPinLaw" = true := by first | (simp [plainName, overriddenIn]; done) | decide +kernel
theorem own_pn2 : plainName "com/example/dirwarden/dirwarden/aci/Comparison" = true := by first | (simp [plainName, overriddenIn]; done) | decide +kernel
theorem own_pd0 : parseMethodDescriptor "()I" = some ⟨[], some .int⟩ := by decide +kernel
theorem own_pd1 : parseMethodDescriptor "(I)Lcom/example/dirwarden/dirwarden/aci/Comparison;" = some ⟨[.int], some (.object "com/example/dirwarden/dirwarden/aci/Comparison")⟩ := by decide +kernel
theorem own_pd2 : parseMethodDescriptor "()Z" = some ⟨[], some .boolean⟩ := by decide +kernel
theorem own_pd3 : parseMethodDescriptor "(I)Z" = some ⟨[.int], some .boolean⟩ := by decide +kernel
theorem own_lt {a b : Int32} {k : Int} (hb : b.toInt = k) : a < b ↔ a.toInt < k := by rw [Int32.lt_iff_toInt_lt, hb]
theorem own_gt {a b : Int32} {k : Int} (ha : a.toInt = k) : a < b ↔ k < b.toInt := by rw [Int32.lt_iff_toInt_lt, ha]
theorem own_eq {a b : Int32} {k : Int} (hb : b.toInt = k) : a = b ↔ a.toInt = k := by rw [← Int32.toInt_inj, hb]
theorem own_lt_of {a b : Int32} {k : Int} (hb : b.toInt = k) (h : a.toInt < k) : a < b := (own_lt hb).mpr h
theorem own_nlt_of {a b : Int32} {k : Int} (hb : b.toInt = k) (h : k ≤ a.toInt) : ¬ a < b := fun q => by have := (own_lt hb).mp q; omega
theorem own_gt_of {a b : Int32} {k : Int} (ha : a.toInt = k) (h : k < b.toInt) : a < b := (own_gt ha).mpr h
theorem own_ngt_of {a b : Int32} {k : Int} (ha : a.toInt = k) (h : b.toInt ≤ k) : ¬ a < b := fun q => by have := (own_gt ha).mp q; omega
theorem own_eq_of {a b : Int32} {k : Int} (hb : b.toInt = k) (h : a.toInt = k) : a = b := (own_eq hb).mpr h
theorem own_ne_of {a b : Int32} {k : Int} (hb : b.toInt = k) (h : a.toInt ≠ k) : ¬ a = b := fun q => h ((own_eq hb).mp q)
theorem own_mod (p : Int32) : (p &&& (2147483647 : Int32)) % (6 : Int32) = (0 : Int32) ∨ (p &&& (2147483647 : Int32)) % (6 : Int32) = (1 : Int32) ∨ (p &&& (2147483647 : Int32)) % (6 : Int32) = (2 : Int32) ∨ (p &&& (2147483647 : Int32)) % (6 : Int32) = (3 : Int32) ∨ (p &&& (2147483647 : Int32)) % (6 : Int32) = (4 : Int32) ∨ (p &&& (2147483647 : Int32)) % (6 : Int32) = (5 : Int32) := by
  have h1 := c_and p 2147483647 (by decide)
  have h2 := (c_irem (p &&& 2147483647) 6 6 rfl).1 h1.1
  have h3 : 0 ≤ ((p &&& (2147483647 : Int32)) % (6 : Int32)).toInt ∧ ((p &&& (2147483647 : Int32)) % (6 : Int32)).toInt < 6 := by rw [h2]; omega
  generalize (p &&& (2147483647 : Int32)) % (6 : Int32) = z at h3 ⊢
  rw [own_eq (b := 0) (k := 0) rfl, own_eq (b := 1) (k := 1) rfl, own_eq (b := 2) (k := 2) rfl, own_eq (b := 3) (k := 3) rfl, own_eq (b := 4) (k := 4) rfl, own_eq (b := 5) (k := 5) rfl]
  omega
theorem own_eqint {t : Term} {n : Int32} {args : Array Value} {s : State} (h : (Jvm.Cond.eq t (.int n)).value args s none s [] = some true) : t.eval args s none [] s = some (.int n) := by
  obtain ⟨a, b, ha, hb, k1, k2⟩ := cmp_v (Or.inl h)
  have hb' : (Term.int n).eval args s none [] s = some (.int n) := rfl
  cases hb.symm.trans hb'
  obtain ⟨z, rfl⟩ := k2
  have : z = n := by simpa [Cond.value, ha, hb'] using h
  rw [ha, this]
theorem own_enum {args : Array Value} {s : State} {t : Term} {C : String} {k : Int32} (h1 : (Jvm.Cond.exactly t C).value args s none s [] = some true) (h2 : (Jvm.Cond.eq (.field t "java/lang/Enum" "ordinal" "I") (.int k)).value args s none s [] = some true) :
    ∃ x, t.eval args s none [] s = some (.ref x) ∧ Exa s s.heap x C ∧ Fld s s.heap x "java/lang/Enum" "ordinal" "I" (.int k) := by
  obtain ⟨x, hx⟩ := exa_v h1
  exact ⟨x, hx, Exa.start hx h1, Fld.start ((fld_at hx).symm.trans (own_eqint h2))⟩
def Qown_ordinal (Z : State) (a1 : Addr) (w1 : Int32) (h0 : Heap) (n0 : Nat) (v : Option Value) (h : Heap) (L : List Loc) : Prop := v = some (.int w1) ∧ Fr n0 L ∧ h = h0
set_option maxRecDepth 65536 in
set_option maxHeartbeats 40000000 in
theorem own_ordinal (l : Launch) (Z : State) (a0 : Array Value) (hw : ∀ d ∈ tables_1, d.before a0 Z = true) (ws : List Jvm.Cond) (a1 : Addr) (w1 : Int32) (h0 : Heap) (n0 : Nat) (Z0 : n0 ≤ h0.size) (F1 : Fld Z h0 a1 "java/lang/Enum" "ordinal" "I" (.int w1)) :
    MetFree l own_m0 (head1 (Jvm.Cond.code own_m0 jdk_37_method_2_code 1 (some .int) :: ws) ({ frames := 0, cells := 0, slots := 0, locals := 0 } : Room)) (fun a U => a = #[(.ref a1)] ∧ Z.Warmed39 U.vm ∧ U.heap = h0) (fun _ _ _ _ _ => True) (fun _ U o U' => ∃ v L, o = .returned v ∧ Qown_ordinal Z a1 w1 h0 n0 v U'.heap L ∧ FrameEnd U o U' L ({ frames := 0, cells := 0, slots := 0, locals := 0 } : Room).cells ({ frames := 0, cells := 0, slots := 0, locals := 0 } : Room).slots) := by
  refine MetFree.of_bodySF (plainFor_of_name own_pn0) hisR ?_
  intro p e s m args below meth c s₁ Bd hml0 hP hK
  obtain ⟨rfl, hZ, hh⟩ := hP
  have hx := Bd.exec
  have hby := Bd.bytes
  have hml : c.maxLocals = 1 := hml0
  have hown : s.vm.findClass "java/lang/Enum" = some m.cls := findClass_of_methodNamed Bd.named
  have hnm := (name_of_methodNamed Bd.named Bd.method).1
  have X0 : Stand p l e ({ frames := 0, cells := 0, slots := 0, locals := 0 } : Room) s m #[(.ref a1)] below meth c s₁ [] 0 0 := Stand.of_body Bd
  have e0 : s₁.heap = h0 := by rw [← hh, Bd.state]; rfl
  have N0 := Fr.nil n0
  have pre0 : ∀ t, Steps p.tables e below (s₁.setTop (mkF m 0 #[.val (.ref a1)] [])) t → Steps p.tables e below (s₁.setTop (entryFrame m #[(.ref a1)] 1)) t := fun t k => castTop (by first | (simp [entryFrame, mkF, argsToLocals, Value.category, maxLocals]; done) | rfl) k
  obtain ⟨T1, X1, e1, st1⟩ := getF X0 hx hZ hown (host := "") (Or.inl (own_w31 hw)) Via.refl e0 F1 (g := (mkF m 1 #[.val (.ref a1)] [(.ref a1)])) rfl rfl (hb hby own_d5_1)
  obtain ⟨fs, hr, hrun, hended, hW, hsame⟩ := X1.leave (v := some (.int w1)) (fun h => by rw [Bd.returns] at h; cases h)
  refine ⟨_, _, pre0 _ ?_, hrun, hended, _, _, rfl, ?_, ⟨_, rfl⟩, hW, hsame.mono (by decide) (by decide)⟩
  · show Steps _ _ _ (s₁.setTop (mkF m 0 #[.val (.ref a1)] [])) _
    refine XS.aloadN X0.here hx rfl (hb hby own_d5_0) rfl rfl ?_
    refine st1 _ ?_
    show Steps _ _ _ (T1.setTop (mkF m 4 #[.val (.ref a1)] [(.int w1)])) _
    exact retI X1 hx Bd.returns (hb hby own_d5_4) hr
  · show Qown_ordinal Z a1 w1 h0 n0 _ T1.heap _
    rw [e1]
    exact ⟨rfl, N0, rfl⟩
def Qown_pick0 (Z : State) (s0 s1 s2 s3 s4 s5 : Addr) (h0 : Heap) (n0 : Nat) (v : Option Value) (h : Heap) (L : List Loc) : Prop := v = some (.ref s0) ∧ Fr n0 L ∧ h = h0
set_option maxRecDepth 65536 in
set_option maxHeartbeats 40000000 in
theorem own_pick0 (l : Launch) (Z : State) (a0 : Array Value) (hw : ∀ d ∈ tables_1, d.before a0 Z = true) (ws : List Jvm.Cond) (s0 s1 s2 s3 s4 s5 : Addr) (h0 : Heap) (n0 : Nat) (Z0 : n0 ≤ h0.size) (S0 : Sta Z h0 "com/example/dirwarden/dirwarden/aci/Comparison" "NOT_EQUAL" "Lcom/example/dirwarden/dirwarden/aci/Comparison;" (.ref s0)) (F0 : Fld Z h0 s0 "java/lang/Enum" "ordinal" "I" (.int (0 : Int32))) (E0 : Exa Z h0 s0 "com/example/dirwarden/dirwarden/aci/Comparison") (S1 : Sta Z h0 "com/example/dirwarden/dirwarden/aci/Comparison" "AT_MOST" "Lcom/example/dirwarden/dirwarden/aci/Comparison;" (.ref s1)) (F1 : Fld Z h0 s1 "java/lang/Enum" "ordinal" "I" (.int (1 : Int32))) (E1 : Exa Z h0 s1 "com/example/dirwarden/dirwarden/aci/Comparison") (S2 : Sta Z h0 "com/example/dirwarden/dirwarden/aci/Comparison" "AT_LEAST" "Lcom/example/dirwarden/dirwarden/aci/Comparison;" (.ref s2)) (F2 : Fld Z h0 s2 "java/lang/Enum" "ordinal" "I" (.int (2 : Int32))) (E2 : Exa Z h0 s2 "com/example/dirwarden/dirwarden/aci/Comparison") (S3 : Sta Z h0 "com/example/dirwarden/dirwarden/aci/Comparison" "EQUAL" "Lcom/example/dirwarden/dirwarden/aci/Comparison;" (.ref s3)) (F3 : Fld Z h0 s3 "java/lang/Enum" "ordinal" "I" (.int (3 : Int32))) (E3 : Exa Z h0 s3 "com/example/dirwarden/dirwarden/aci/Comparison") (S4 : Sta Z h0 "com/example/dirwarden/dirwarden/aci/Comparison" "LESS" "Lcom/example/dirwarden/dirwarden/aci/Comparison;" (.ref s4)) (F4 : Fld Z h0 s4 "java/lang/Enum" "ordinal" "I" (.int (4 : Int32))) (E4 : Exa Z h0 s4 "com/example/dirwarden/dirwarden/aci/Comparison") (S5 : Sta Z h0 "com/example/dirwarden/dirwarden/aci/Comparison" "GREATER" "Lcom/example/dirwarden/dirwarden/aci/Comparison;" (.ref s5)) (F5 : Fld Z h0 s5 "java/lang/Enum" "ordinal" "I" (.int (5 : Int32))) (E5 : Exa Z h0 s5 "com/example/dirwarden/dirwarden/aci/Comparison") :
    MetFree l own_m1 (head1 (Jvm.Cond.code own_m1 method_2_code 1 (some (.object "com/example/dirwarden/dirwarden/aci/Comparison")) :: ws) ({ frames := 0, cells := 0, slots := 0, locals := 0 } : Room)) (fun a U => a = #[(.int (0 : Int32))] ∧ Z.Warmed39 U.vm ∧ U.heap = h0) (fun _ _ _ _ _ => True) (fun _ U o U' => ∃ v L, o = .returned v ∧ Qown_pick0 Z s0 s1 s2 s3 s4 s5 h0 n0 v U'.heap L ∧ FrameEnd U o U' L ({ frames := 0, cells := 0, slots := 0, locals := 0 } : Room).cells ({ frames := 0, cells := 0, slots := 0, locals := 0 } : Room).slots) := by
  refine MetFree.of_bodySF (plainFor_of_name own_pn1) hisR ?_
  intro p e s m args below meth c s₁ Bd hml0 hP hK
  obtain ⟨rfl, hZ, hh⟩ := hP
  have hx := Bd.exec
  have hby := Bd.bytes
  have hml : c.maxLocals = 1 := hml0
  have hown : s.vm.findClass "com/example/dirwarden/dirwarden/aci/ComparisonOrdersPinLaw" = some m.cls := findClass_of_methodNamed Bd.named
  have hnm := (name_of_methodNamed Bd.named Bd.method).1
  have X0 : Stand p l e ({ frames := 0, cells := 0, slots := 0, locals := 0 } : Room) s m #[(.int (0 : Int32))] below meth c s₁ [] 0 0 := Stand.of_body Bd
  have e0 : s₁.heap = h0 := by rw [← hh, Bd.state]; rfl
  have N0 := Fr.nil n0
  have pre0 : ∀ t, Steps p.tables e below (s₁.setTop (mkF m 0 #[.val (.int (0 : Int32))] [])) t → Steps p.tables e below (s₁.setTop (entryFrame m #[(.int (0 : Int32))] 1)) t := fun t k => castTop (by first | (simp [entryFrame, mkF, argsToLocals, Value.category, maxLocals]; done) | rfl) k
  obtain ⟨T1, X1, e1, st1⟩ := getS2 X0 hx hZ hown (host := "") (Or.inl (own_w5 hw)) Via.refl e0 S0 (g := (mkF m 4 #[.val (.int (0 : Int32))] [])) rfl (hb hby own_d1_4)
  obtain ⟨fs, hr, hrun, hended, hW, hsame⟩ := X1.leave (v := some (.ref s0)) (fun h => by rw [Bd.returns] at h; cases h)
  refine ⟨_, _, pre0 _ ?_, hrun, hended, _, _, rfl, ?_, ⟨_, rfl⟩, hW, hsame.mono (by decide) (by decide)⟩
  · show Steps _ _ _ (s₁.setTop (mkF m 0 #[.val (.int (0 : Int32))] [])) _
    refine XS.iloadN X0.here hx rfl (hb hby own_d1_0) rfl ?_
    refine XS.ifNo X0.here hx rfl (hb hby own_d1_1) rfl ((if0 _ _).trans (teq (by decide : (0 : Int32) = (0 : Int32))).2) ?_
    refine st1 _ ?_
    show Steps _ _ _ (T1.setTop (mkF m 7 #[.val (.int (0 : Int32))] [(.ref s0)])) _
    jvm_step X1.here [X1.here.top, hx, (hb hby own_d1_7), X1.method', Bd.returns, Value.isRef, FieldType.isReference]
    first | (intro acts; rw [hr _ acts rfl rfl rfl]) | rw [hr _ _ rfl rfl rfl]
    exact Steps.refl _
  · show Qown_pick0 Z s0 s1 s2 s3 s4 s5 h0 n0 _ T1.heap _
    rw [e1]
    exact ⟨rfl, N0, rfl⟩
def Qown_orders0 (Z : State) (s0 s1 s2 s3 s4 s5 : Addr) (h0 : Heap) (n0 : Nat) (v : Option Value) (h : Heap) (L : List Loc) : Prop := v = some (.int (0 : Int32)) ∧ Fr n0 L ∧ h = h0
set_option maxRecDepth 65536 in
set_option maxHeartbeats 40000000 in
theorem own_orders0 (l : Launch) (Z : State) (a0 : Array Value) (hw : ∀ d ∈ tables_1, d.before a0 Z = true) (ws : List Jvm.Cond) (s0 s1 s2 s3 s4 s5 : Addr) (h0 : Heap) (n0 : Nat) (Z0 : n0 ≤ h0.size) (S0 : Sta Z h0 "com/example/dirwarden/dirwarden/aci/Comparison" "NOT_EQUAL" "Lcom/example/dirwarden/dirwarden/aci/Comparison;" (.ref s0)) (F0 : Fld Z h0 s0 "java/lang/Enum" "ordinal" "I" (.int (0 : Int32))) (E0 : Exa Z h0 s0 "com/example/dirwarden/dirwarden/aci/Comparison") (S1 : Sta Z h0 "com/example/dirwarden/dirwarden/aci/Comparison" "AT_MOST" "Lcom/example/dirwarden/dirwarden/aci/Comparison;" (.ref s1)) (F1 : Fld Z h0 s1 "java/lang/Enum" "ordinal" "I" (.int (1 : Int32))) (E1 : Exa Z h0 s1 "com/example/dirwarden/dirwarden/aci/Comparison") (S2 : Sta Z h0 "com/example/dirwarden/dirwarden/aci/Comparison" "AT_LEAST" "Lcom/example/dirwarden/dirwarden/aci/Comparison;" (.ref s2)) (F2 : Fld Z h0 s2 "java/lang/Enum" "ordinal" "I" (.int (2 : Int32))) (E2 : Exa Z h0 s2 "com/example/dirwarden/dirwarden/aci/Comparison") (S3 : Sta Z h0 "com/example/dirwarden/dirwarden/aci/Comparison" "EQUAL" "Lcom/example/dirwarden/dirwarden/aci/Comparison;" (.ref s3)) (F3 : Fld Z h0 s3 "java/lang/Enum" "ordinal" "I" (.int (3 : Int32))) (E3 : Exa Z h0 s3 "com/example/dirwarden/dirwarden/aci/Comparison") (S4 : Sta Z h0 "com/example/dirwarden/dirwarden/aci/Comparison" "LESS" "Lcom/example/dirwarden/dirwarden/aci/Comparison;" (.ref s4)) (F4 : Fld Z h0 s4 "java/lang/Enum" "ordinal" "I" (.int (4 : Int32))) (E4 : Exa Z h0 s4 "com/example/dirwarden/dirwarden/aci/Comparison") (S5 : Sta Z h0 "com/example/dirwarden/dirwarden/aci/Comparison" "GREATER" "Lcom/example/dirwarden/dirwarden/aci/Comparison;" (.ref s5)) (F5 : Fld Z h0 s5 "java/lang/Enum" "ordinal" "I" (.int (5 : Int32))) (E5 : Exa Z h0 s5 "com/example/dirwarden/dirwarden/aci/Comparison") :
    MetFree l own_m2 (head1 (Jvm.Cond.code own_m2 prog_2_method_5_code 1 (some .boolean) :: ws) ({ frames := 0, cells := 0, slots := 0, locals := 0 } : Room)) (fun a U => a = #[(.ref s0)] ∧ Z.Warmed39 U.vm ∧ U.heap = h0) (fun _ _ _ _ _ => True) (fun _ U o U' => ∃ v L, o = .returned v ∧ Qown_orders0 Z s0 s1 s2 s3 s4 s5 h0 n0 v U'.heap L ∧ FrameEnd U o U' L ({ frames := 0, cells := 0, slots := 0, locals := 0 } : Room).cells ({ frames := 0, cells := 0, slots := 0, locals := 0 } : Room).slots) := by
  refine MetFree.of_bodySF (plainFor_of_name own_pn2) hisR ?_
  intro p e s m args below meth c s₁ Bd hml0 hP hK
  obtain ⟨rfl, hZ, hh⟩ := hP
  have hx := Bd.exec
  have hby := Bd.bytes
  have hml : c.maxLocals = 1 := hml0
  have hown : s.vm.findClass "com/example/dirwarden/dirwarden/aci/Comparison" = some m.cls := findClass_of_methodNamed Bd.named
  have hnm := (name_of_methodNamed Bd.named Bd.method).1
  have X0 : Stand p l e ({ frames := 0, cells := 0, slots := 0, locals := 0 } : Room) s m #[(.ref s0)] below meth c s₁ [] 0 0 := Stand.of_body Bd
  have e0 : s₁.heap = h0 := by rw [← hh, Bd.state]; rfl
  have N0 := Fr.nil n0
  have pre0 : ∀ t, Steps p.tables e below (s₁.setTop (mkF m 0 #[.val (.ref s0)] [])) t → Steps p.tables e below (s₁.setTop (entryFrame m #[(.ref s0)] 1)) t := fun t k => castTop (by first | (simp [entryFrame, mkF, argsToLocals, Value.category, maxLocals]; done) | rfl) k
  obtain ⟨T1, X1, e1, st1⟩ := getS2 X0 hx hZ hown (host := "") (Or.inl (own_w13 hw)) Via.refl e0 S3 (g := (mkF m 1 #[.val (.ref s0)] [(.ref s0)])) rfl (hb hby own_d2_1)
  obtain ⟨T2, X2, e2, st2⟩ := getS2 X1 hx hZ hown (host := "") (Or.inl (own_w15 hw)) Via.refl e1 S0 (g := (mkF m 8 #[.val (.ref s0)] [(.ref s0)])) rfl (hb hby own_d2_8)
  obtain ⟨fs, hr, hrun, hended, hW, hsame⟩ := X2.leave (v := some (.int (0 : Int32))) (fun h => by rw [Bd.returns] at h; cases h)
  refine ⟨_, _, pre0 _ ?_, hrun, hended, _, _, rfl, ?_, ⟨_, rfl⟩, hW, hsame.mono (by decide) (by decide)⟩
  · show Steps _ _ _ (s₁.setTop (mkF m 0 #[.val (.ref s0)] [])) _
    refine XS.aloadN X0.here hx rfl (hb hby own_d2_0) rfl rfl ?_
    refine st1 _ ?_
    refine Jvm.RoadKit.acmp (g := (mkF m 4 #[.val (.ref s0)] [(.ref s3), (.ref s0)])) X1 hx rfl rfl rfl (pc0 := 4) (pc' := 7) (same := false) rfl (hb hby own_d2_4) rfl (decide_eq_false fun q => Fld.ne F0 F3 (by decide) (Value.ref.inj q)) (by decide) (by decide) ?_
    refine XS.aloadN X1.here hx rfl (hb hby own_d2_7) rfl rfl ?_
    show Steps _ _ _ (T1.setTop (mkF m 8 #[.val (.ref s0)] [(.ref s0)])) _
    refine st2 _ ?_
    refine Jvm.RoadKit.acmp (g := (mkF m 11 #[.val (.ref s0)] [(.ref s0), (.ref s0)])) X2 hx rfl rfl rfl (pc0 := 11) (pc' := 18) (same := true) rfl (hb hby own_d2_11) rfl (decide_eq_true rfl) (by decide) (by decide) ?_
    refine XS.iconst X2.here hx rfl (hb hby own_d2_18) ?_
    show Steps _ _ _ (T2.setTop (mkF m 19 #[.val (.ref s0)] [(.int (0 : Int32))])) _
    exact retN X2 hx (t := .boolean) Bd.returns (by simp) (hb hby own_d2_19) hr
  · show Qown_orders0 Z s0 s1 s2 s3 s4 s5 h0 n0 _ T2.heap _
    rw [e2]
    exact ⟨rfl, N0, rfl⟩
def Qown_expected0 (Z : State)  (h0 : Heap) (n0 : Nat) (v : Option Value) (h : Heap) (L : List Loc) : Prop := v = some (.int (0 : Int32)) ∧ Fr n0 L ∧ h = h0
set_option maxRecDepth 65536 in
set_option maxHeartbeats 40000000 in
theorem own_expected0 (l : Launch) (Z : State) (a0 : Array Value) (hw : ∀ d ∈ tables_1, d.before a0 Z = true) (ws : List Jvm.Cond)  (h0 : Heap) (n0 : Nat) (Z0 : n0 ≤ h0.size)  :
    MetFree l own_m3 (head1 (Jvm.Cond.code own_m3 method_3_code 1 (some .boolean) :: ws) ({ frames := 0, cells := 0, slots := 0, locals := 0 } : Room)) (fun a U => a = #[(.int (0 : Int32))] ∧ Z.Warmed39 U.vm ∧ U.heap = h0) (fun _ _ _ _ _ => True) (fun _ U o U' => ∃ v L, o = .returned v ∧ Qown_expected0 Z  h0 n0 v U'.heap L ∧ FrameEnd U o U' L ({ frames := 0, cells := 0, slots := 0, locals := 0 } : Room).cells ({ frames := 0, cells := 0, slots := 0, locals := 0 } : Room).slots) := by
  refine MetFree.of_bodySF (plainFor_of_name own_pn1) hisR ?_
  intro p e s m args below meth c s₁ Bd hml0 hP hK
  obtain ⟨rfl, hZ, hh⟩ := hP
  have hx := Bd.exec
  have hby := Bd.bytes
  have hml : c.maxLocals = 1 := hml0
  have hown : s.vm.findClass "com/example/dirwarden/dirwarden/aci/ComparisonOrdersPinLaw" = some m.cls := findClass_of_methodNamed Bd.named
  have hnm := (name_of_methodNamed Bd.named Bd.method).1
  have X0 : Stand p l e ({ frames := 0, cells := 0, slots := 0, locals := 0 } : Room) s m #[(.int (0 : Int32))] below meth c s₁ [] 0 0 := Stand.of_body Bd
  have e0 : s₁.heap = h0 := by rw [← hh, Bd.state]; rfl
  have N0 := Fr.nil n0
  have pre0 : ∀ t, Steps p.tables e below (s₁.setTop (mkF m 0 #[.val (.int (0 : Int32))] [])) t → Steps p.tables e below (s₁.setTop (entryFrame m #[(.int (0 : Int32))] 1)) t := fun t k => castTop (by first | (simp [entryFrame, mkF, argsToLocals, Value.category, maxLocals]; done) | rfl) k
  obtain ⟨fs, hr, hrun, hended, hW, hsame⟩ := X0.leave (v := some (.int (0 : Int32))) (fun h => by rw [Bd.returns] at h; cases h)
  refine ⟨_, _, pre0 _ ?_, hrun, hended, _, _, rfl, ?_, ⟨_, rfl⟩, hW, hsame.mono (by decide) (by decide)⟩
  · show Steps _ _ _ (s₁.setTop (mkF m 0 #[.val (.int (0 : Int32))] [])) _
    refine XS.iloadN X0.here hx rfl (hb hby own_d3_0) rfl ?_
    refine XS.ifNo X0.here hx rfl (hb hby own_d3_1) rfl ((if0 _ _).trans (teq (by decide : (0 : Int32) = (0 : Int32))).2) ?_
    refine XS.iconst X0.here hx rfl (hb hby own_d3_4) ?_
    show Steps _ _ _ (s₁.setTop (mkF m 5 #[.val (.int (0 : Int32))] [(.int (0 : Int32))])) _
    exact retN X0 hx (t := .boolean) Bd.returns (by simp) (hb hby own_d3_5) hr
  · show Qown_expected0 Z  h0 n0 _ s₁.heap _
    rw [e0]
    exact ⟨rfl, N0, rfl⟩
def Qown_holds0m (Z : State) (s0 s1 s2 s3 s4 s5 : Addr) (h0 : Heap) (n0 : Nat) (v : Option Value) (h : Heap) (L : List Loc) : Prop := v = some (.int (1 : Int32)) ∧ Fr n0 L ∧ h = h0
set_option maxRecDepth 65536 in
set_option maxHeartbeats 40000000 in
theorem own_holds0m (l : Launch) (Z : State) (a0 : Array Value) (hw : ∀ d ∈ tables_1, d.before a0 Z = true) (ws : List Jvm.Cond) (s0 s1 s2 s3 s4 s5 : Addr) (h0 : Heap) (n0 : Nat) (Z0 : n0 ≤ h0.size) (S0 : Sta Z h0 "com/example/dirwarden/dirwarden/aci/Comparison" "NOT_EQUAL" "Lcom/example/dirwarden/dirwarden/aci/Comparison;" (.ref s0)) (F0 : Fld Z h0 s0 "java/lang/Enum" "ordinal" "I" (.int (0 : Int32))) (E0 : Exa Z h0 s0 "com/example/dirwarden/dirwarden/aci/Comparison") (S1 : Sta Z h0 "com/example/dirwarden/dirwarden/aci/Comparison" "AT_MOST" "Lcom/example/dirwarden/dirwarden/aci/Comparison;" (.ref s1)) (F1 : Fld Z h0 s1 "java/lang/Enum" "ordinal" "I" (.int (1 : Int32))) (E1 : Exa Z h0 s1 "com/example/dirwarden/dirwarden/aci/Comparison") (S2 : Sta Z h0 "com/example/dirwarden/dirwarden/aci/Comparison" "AT_LEAST" "Lcom/example/dirwarden/dirwarden/aci/Comparison;" (.ref s2)) (F2 : Fld Z h0 s2 "java/lang/Enum" "ordinal" "I" (.int (2 : Int32))) (E2 : Exa Z h0 s2 "com/example/dirwarden/dirwarden/aci/Comparison") (S3 : Sta Z h0 "com/example/dirwarden/dirwarden/aci/Comparison" "EQUAL" "Lcom/example/dirwarden/dirwarden/aci/Comparison;" (.ref s3)) (F3 : Fld Z h0 s3 "java/lang/Enum" "ordinal" "I" (.int (3 : Int32))) (E3 : Exa Z h0 s3 "com/example/dirwarden/dirwarden/aci/Comparison") (S4 : Sta Z h0 "com/example/dirwarden/dirwarden/aci/Comparison" "LESS" "Lcom/example/dirwarden/dirwarden/aci/Comparison;" (.ref s4)) (F4 : Fld Z h0 s4 "java/lang/Enum" "ordinal" "I" (.int (4 : Int32))) (E4 : Exa Z h0 s4 "com/example/dirwarden/dirwarden/aci/Comparison") (S5 : Sta Z h0 "com/example/dirwarden/dirwarden/aci/Comparison" "GREATER" "Lcom/example/dirwarden/dirwarden/aci/Comparison;" (.ref s5)) (F5 : Fld Z h0 s5 "java/lang/Enum" "ordinal" "I" (.int (5 : Int32))) (E5 : Exa Z h0 s5 "com/example/dirwarden/dirwarden/aci/Comparison") :
    MetFree l own_m4 (head1 (Jvm.Cond.code own_m4 prog_2_method_6_code 2 (some .boolean) :: ws) ({ frames := 1, cells := 0, slots := 0, locals := 12 } : Room)) (fun a U => a = #[(.ref s0), (.int (-1 : Int32))] ∧ Z.Warmed39 U.vm ∧ U.heap = h0) (fun _ _ _ _ _ => True) (fun _ U o U' => ∃ v L, o = .returned v ∧ Qown_holds0m Z s0 s1 s2 s3 s4 s5 h0 n0 v U'.heap L ∧ FrameEnd U o U' L ({ frames := 1, cells := 0, slots := 0, locals := 12 } : Room).cells ({ frames := 1, cells := 0, slots := 0, locals := 12 } : Room).slots) := by
  refine MetFree.of_bodySF (plainFor_of_name own_pn2) hisR ?_
  intro p e s m args below meth c s₁ Bd hml0 hP hK
  obtain ⟨rfl, hZ, hh⟩ := hP
  have hx := Bd.exec
  have hby := Bd.bytes
  have hml : c.maxLocals = 2 := hml0
  have hown : s.vm.findClass "com/example/dirwarden/dirwarden/aci/Comparison" = some m.cls := findClass_of_methodNamed Bd.named
  have hnm := (name_of_methodNamed Bd.named Bd.method).1
  have X0 : Stand p l e ({ frames := 1, cells := 0, slots := 0, locals := 12 } : Room) s m #[(.ref s0), (.int (-1 : Int32))] below meth c s₁ [] 0 0 := Stand.of_body Bd
  have e0 : s₁.heap = h0 := by rw [← hh, Bd.state]; rfl
  have N0 := Fr.nil n0
  have pre0 : ∀ t, Steps p.tables e below (s₁.setTop (mkF m 0 #[.val (.ref s0), .val (.int (-1 : Int32))] [])) t → Steps p.tables e below (s₁.setTop (entryFrame m #[(.ref s0), (.int (-1 : Int32))] 2)) t := fun t k => castTop (by first | (simp [entryFrame, mkF, argsToLocals, Value.category, maxLocals]; done) | rfl) k
  obtain ⟨cq1, kq1, q1a, q1b, q1c⟩ := isOf hZ e0 E0
  obtain ⟨_, _, ⟨T1, L1, k1, n1⟩, -, X1, ⟨Lc1, hQ1, l1, y1, z1⟩, st1⟩ := X0.virtualBackUp hx (x := own_m5) (y := own_m0) (owner := "java/lang/Enum") hown (mvT hZ (own_w24 hw)) (mvT hZ (own_w25 hw)) (mvT hZ (own_w26 hw)) (by decide) (mvT hZ (own_w28 hw)) (mvT hZ (own_w27 hw)) (backOf (W := 0) (own_ordinal l Z a0 hw [] s0 (0 : Int32) h0 n0 Z0 F0) hZ (own_w30 hw) (own_w29 hw) (by decide) (by decide)) q1a q1c (g := (mkF m 1 #[.val (.ref s0), .val (.int (-1 : Int32))] [(.ref s0)])) rfl (by rw [hml]; rfl) (Steps.refl _) (argsL := []) (rest := []) (lenOf own_pd0 rfl) rfl (by show 2 * 0 + _ ≤ _; exact Nat.le_of_eq rfl) (hb hby own_d4_1) (fun _ _ => ⟨rfl, e0, (by decide : 0 + 0 ≤ _), (by decide : 0 + 0 ≤ _)⟩)
  dsimp only [Pt.U, Pt.locs, Pt.cells, Pt.slots] at X1 l1 y1 z1 st1 hQ1
  subst l1 y1 z1
  obtain ⟨rfl, N1q, e1⟩ := hQ1
  have N1 := Fr.app N0 N1q
  obtain ⟨fs, hr, hrun, hended, hW, hsame⟩ := X1.leave (v := some (.int (1 : Int32))) (fun h => by rw [Bd.returns] at h; cases h)
  refine ⟨_, _, pre0 _ ?_, hrun, hended, _, _, rfl, ?_, ⟨_, rfl⟩, hW, hsame.mono (by decide) (by decide)⟩
  · show Steps _ _ _ (s₁.setTop (mkF m 0 #[.val (.ref s0), .val (.int (-1 : Int32))] [])) _
    refine XS.aloadN X0.here hx rfl (hb hby own_d4_0) rfl rfl ?_
    refine st1.trans ?_
    refine XS.tswIn X1.here hx rfl (pc0 := 4) (pc' := 66) rfl (hb hby own_d4_4) (i := (0 : Int32)) rfl (by decide) (o := 62) (by decide) (by decide) (by decide) ?_
    refine XS.iloadN X1.here hx rfl (hb hby own_d4_66) rfl ?_
    show Steps _ _ _ (T1.setTop (mkF m 67 #[.val (.ref s0), .val (.int (-1 : Int32))] [(.int (-1 : Int32))])) _
    refine XS.ifNo X1.here hx rfl (hb hby own_d4_67) rfl ((if0 _ _).trans (feq (by decide : ¬ ((-1 : Int32) = (0 : Int32)))).1) ?_
    refine XS.iconst X1.here hx rfl (hb hby own_d4_70) ?_
    refine XS.goto X1.here hx rfl (pc0 := 71) (pc' := 123) rfl (hb hby own_d4_71) (by decide) (by decide) ?_
    show Steps _ _ _ (T1.setTop (mkF m 123 #[.val (.ref s0), .val (.int (-1 : Int32))] [(.int (1 : Int32))])) _
    exact retN X1 hx (t := .boolean) Bd.returns (by simp) (hb hby own_d4_123) hr
  · show Qown_holds0m Z s0 s1 s2 s3 s4 s5 h0 n0 _ T1.heap _
    rw [e1]
    exact ⟨rfl, N1, rfl⟩
def Qown_holds0p (Z : State) (s0 s1 s2 s3 s4 s5 : Addr) (h0 : Heap) (n0 : Nat) (v : Option Value) (h : Heap) (L : List Loc) : Prop := v = some (.int (1 : Int32)) ∧ Fr n0 L ∧ h = h0
set_option maxRecDepth 65536 in
set_option maxHeartbeats 40000000 in
theorem own_holds0p (l : Launch) (Z : State) (a0 : Array Value) (hw : ∀ d ∈ tables_1, d.before a0 Z = true) (ws : List Jvm.Cond) (s0 s1 s2 s3 s4 s5 : Addr) (h0 : Heap) (n0 : Nat) (Z0 : n0 ≤ h0.size) (S0 : Sta Z h0 "com/example/dirwarden/dirwarden/aci/Comparison" "NOT_EQUAL" "Lcom/example/dirwarden/dirwarden/aci/Comparison;" (.ref s0)) (F0 : Fld Z h0 s0 "java/lang/Enum" "ordinal" "I" (.int (0 : Int32))) (E0 : Exa Z h0 s0 "com/example/dirwarden/dirwarden/aci/Comparison") (S1 : Sta Z h0 "com/example/dirwarden/dirwarden/aci/Comparison" "AT_MOST" "Lcom/example/dirwarden/dirwarden/aci/Comparison;" (.ref s1)) (F1 : Fld Z h0 s1 "java/lang/Enum" "ordinal" "I" (.int (1 : Int32))) (E1 : Exa Z h0 s1 "com/example/dirwarden/dirwarden/aci/Comparison") (S2 : Sta Z h0 "com/example/dirwarden/dirwarden/aci/Comparison" "AT_LEAST" "Lcom/example/dirwarden/dirwarden/aci/Comparison;" (.ref s2)) (F2 : Fld Z h0 s2 "java/lang/Enum" "ordinal" "I" (.int (2 : Int32))) (E2 : Exa Z h0 s2 "com/example/dirwarden/dirwarden/aci/Comparison") (S3 : Sta Z h0 "com/example/dirwarden/dirwarden/aci/Comparison" "EQUAL" "Lcom/example/dirwarden/dirwarden/aci/Comparison;" (.ref s3)) (F3 : Fld Z h0 s3 "java/lang/Enum" "ordinal" "I" (.int (3 : Int32))) (E3 : Exa Z h0 s3 "com/example/dirwarden/dirwarden/aci/Comparison") (S4 : Sta Z h0 "com/example/dirwarden/dirwarden/aci/Comparison" "LESS" "Lcom/example/dirwarden/dirwarden/aci/Comparison;" (.ref s4)) (F4 : Fld Z h0 s4 "java/lang/Enum" "ordinal" "I" (.int (4 : Int32))) (E4 : Exa Z h0 s4 "com/example/dirwarden/dirwarden/aci/Comparison") (S5 : Sta Z h0 "com/example/dirwarden/dirwarden/aci/Comparison" "GREATER" "Lcom/example/dirwarden/dirwarden/aci/Comparison;" (.ref s5)) (F5 : Fld Z h0 s5 "java/lang/Enum" "ordinal" "I" (.int (5 : Int32))) (E5 : Exa Z h0 s5 "com/example/dirwarden/dirwarden/aci/Comparison") :
    MetFree l own_m4 (head1 (Jvm.Cond.code own_m4 prog_2_method_6_code 2 (some .boolean) :: ws) ({ frames := 1, cells := 0, slots := 0, locals := 12 } : Room)) (fun a U => a = #[(.ref s0), (.int (1 : Int32))] ∧ Z.Warmed39 U.vm ∧ U.heap = h0) (fun _ _ _ _ _ => True) (fun _ U o U' => ∃ v L, o = .returned v ∧ Qown_holds0p Z s0 s1 s2 s3 s4 s5 h0 n0 v U'.heap L ∧ FrameEnd U o U' L ({ frames := 1, cells := 0, slots := 0, locals := 12 } : Room).cells ({ frames := 1, cells := 0, slots := 0, locals := 12 } : Room).slots) := by
  refine MetFree.of_bodySF (plainFor_of_name own_pn2) hisR ?_
  intro p e s m args below meth c s₁ Bd hml0 hP hK
  obtain ⟨rfl, hZ, hh⟩ := hP
  have hx := Bd.exec
  have hby := Bd.bytes
  have hml : c.maxLocals = 2 := hml0
  have hown : s.vm.findClass "com/example/dirwarden/dirwarden/aci/Comparison" = some m.cls := findClass_of_methodNamed Bd.named
  have hnm := (name_of_methodNamed Bd.named Bd.method).1
  have X0 : Stand p l e ({ frames := 1, cells := 0, slots := 0, locals := 12 } : Room) s m #[(.ref s0), (.int (1 : Int32))] below meth c s₁ [] 0 0 := Stand.of_body Bd
  have e0 : s₁.heap = h0 := by rw [← hh, Bd.state]; rfl
  have N0 := Fr.nil n0
  have pre0 : ∀ t, Steps p.tables e below (s₁.setTop (mkF m 0 #[.val (.ref s0), .val (.int (1 : Int32))] [])) t → Steps p.tables e below (s₁.setTop (entryFrame m #[(.ref s0), (.int (1 : Int32))] 2)) t := fun t k => castTop (by first | (simp [entryFrame, mkF, argsToLocals, Value.category, maxLocals]; done) | rfl) k
  obtain ⟨cq1, kq1, q1a, q1b, q1c⟩ := isOf hZ e0 E0
  obtain ⟨_, _, ⟨T1, L1, k1, n1⟩, -, X1, ⟨Lc1, hQ1, l1, y1, z1⟩, st1⟩ := X0.virtualBackUp hx (x := own_m5) (y := own_m0) (owner := "java/lang/Enum") hown (mvT hZ (own_w24 hw)) (mvT hZ (own_w25 hw)) (mvT hZ (own_w26 hw)) (by decide) (mvT hZ (own_w28 hw)) (mvT hZ (own_w27 hw)) (backOf (W := 0) (own_ordinal l Z a0 hw [] s0 (0 : Int32) h0 n0 Z0 F0) hZ (own_w30 hw) (own_w29 hw) (by decide) (by decide)) q1a q1c (g := (mkF m 1 #[.val (.ref s0), .val (.int (1 : Int32))] [(.ref s0)])) rfl (by rw [hml]; rfl) (Steps.refl _) (argsL := []) (rest := []) (lenOf own_pd0 rfl) rfl (by show 2 * 0 + _ ≤ _; exact Nat.le_of_eq rfl) (hb hby own_d4_1) (fun _ _ => ⟨rfl, e0, (by decide : 0 + 0 ≤ _), (by decide : 0 + 0 ≤ _)⟩)
  dsimp only [Pt.U, Pt.locs, Pt.cells, Pt.slots] at X1 l1 y1 z1 st1 hQ1
  subst l1 y1 z1
  obtain ⟨rfl, N1q, e1⟩ := hQ1
  have N1 := Fr.app N0 N1q
  obtain ⟨fs, hr, hrun, hended, hW, hsame⟩ := X1.leave (v := some (.int (1 : Int32))) (fun h => by rw [Bd.returns] at h; cases h)
  refine ⟨_, _, pre0 _ ?_, hrun, hended, _, _, rfl, ?_, ⟨_, rfl⟩, hW, hsame.mono (by decide) (by decide)⟩
  · show Steps _ _ _ (s₁.setTop (mkF m 0 #[.val (.ref s0), .val (.int (1 : Int32))] [])) _
    refine XS.aloadN X0.here hx rfl (hb hby own_d4_0) rfl rfl ?_
    refine st1.trans ?_
    refine XS.tswIn X1.here hx rfl (pc0 := 4) (pc' := 66) rfl (hb hby own_d4_4) (i := (0 : Int32)) rfl (by decide) (o := 62) (by decide) (by decide) (by decide) ?_
    refine XS.iloadN X1.here hx rfl (hb hby own_d4_66) rfl ?_
    show Steps _ _ _ (T1.setTop (mkF m 67 #[.val (.ref s0), .val (.int (1 : Int32))] [(.int (1 : Int32))])) _
    refine XS.ifNo X1.here hx rfl (hb hby own_d4_67) rfl ((if0 _ _).trans (feq (by decide : ¬ ((1 : Int32) = (0 : Int32)))).1) ?_
    refine XS.iconst X1.here hx rfl (hb hby own_d4_70) ?_
    refine XS.goto X1.here hx rfl (pc0 := 71) (pc' := 123) rfl (hb hby own_d4_71) (by decide) (by decide) ?_
    show Steps _ _ _ (T1.setTop (mkF m 123 #[.val (.ref s0), .val (.int (1 : Int32))] [(.int (1 : Int32))])) _
    exact retN X1 hx (t := .boolean) Bd.returns (by simp) (hb hby own_d4_123) hr
  · show Qown_holds0p Z s0 s1 s2 s3 s4 s5 h0 n0 _ T1.heap _
    rw [e1]
    exact ⟨rfl, N1, rfl⟩
def Qown_pick1 (Z : State) (s0 s1 s2 s3 s4 s5 : Addr) (h0 : Heap) (n0 : Nat) (v : Option Value) (h : Heap) (L : List Loc) : Prop := v = some (.ref s1) ∧ Fr n0 L ∧ h = h0
set_option maxRecDepth 65536 in
set_option maxHeartbeats 40000000 in
theorem own_pick1 (l : Launch) (Z : State) (a0 : Array Value) (hw : ∀ d ∈ tables_1, d.before a0 Z = true) (ws : List Jvm.Cond) (s0 s1 s2 s3 s4 s5 : Addr) (h0 : Heap) (n0 : Nat) (Z0 : n0 ≤ h0.size) (S0 : Sta Z h0 "com/example/dirwarden/dirwarden/aci/Comparison" "NOT_EQUAL" "Lcom/example/dirwarden/dirwarden/aci/Comparison;" (.ref s0)) (F0 : Fld Z h0 s0 "java/lang/Enum" "ordinal" "I" (.int (0 : Int32))) (E0 : Exa Z h0 s0 "com/example/dirwarden/dirwarden/aci/Comparison") (S1 : Sta Z h0 "com/example/dirwarden/dirwarden/aci/Comparison" "AT_MOST" "Lcom/example/dirwarden/dirwarden/aci/Comparison;" (.ref s1)) (F1 : Fld Z h0 s1 "java/lang/Enum" "ordinal" "I" (.int (1 : Int32))) (E1 : Exa Z h0 s1 "com/example/dirwarden/dirwarden/aci/Comparison") (S2 : Sta Z h0 "com/example/dirwarden/dirwarden/aci/Comparison" "AT_LEAST" "Lcom/example/dirwarden/dirwarden/aci/Comparison;" (.ref s2)) (F2 : Fld Z h0 s2 "java/lang/Enum" "ordinal" "I" (.int (2 : Int32))) (E2 : Exa Z h0 s2 "com/example/dirwarden/dirwarden/aci/Comparison") (S3 : Sta Z h0 "com/example/dirwarden/dirwarden/aci/Comparison" "EQUAL" "Lcom/example/dirwarden/dirwarden/aci/Comparison;" (.ref s3)) (F3 : Fld Z h0 s3 "java/lang/Enum" "ordinal" "I" (.int (3 : Int32))) (E3 : Exa Z h0 s3 "com/example/dirwarden/dirwarden/aci/Comparison") (S4 : Sta Z h0 "com/example/dirwarden/dirwarden/aci/Comparison" "LESS" "Lcom/example/dirwarden/dirwarden/aci/Comparison;" (.ref s4)) (F4 : Fld Z h0 s4 "java/lang/Enum" "ordinal" "I" (.int (4 : Int32))) (E4 : Exa Z h0 s4 "com/example/dirwarden/dirwarden/aci/Comparison") (S5 : Sta Z h0 "com/example/dirwarden/dirwarden/aci/Comparison" "GREATER" "Lcom/example/dirwarden/dirwarden/aci/Comparison;" (.ref s5)) (F5 : Fld Z h0 s5 "java/lang/Enum" "ordinal" "I" (.int (5 : Int32))) (E5 : Exa Z h0 s5 "com/example/dirwarden/dirwarden/aci/Comparison") :
    MetFree l own_m1 (head1 (Jvm.Cond.code own_m1 method_2_code 1 (some (.object "com/example/dirwarden/dirwarden/aci/Comparison")) :: ws) ({ frames := 0, cells := 0, slots := 0, locals := 0 } : Room)) (fun a U => a = #[(.int (1 : Int32))] ∧ Z.Warmed39 U.vm ∧ U.heap = h0) (fun _ _ _ _ _ => True) (fun _ U o U' => ∃ v L, o = .returned v ∧ Qown_pick1 Z s0 s1 s2 s3 s4 s5 h0 n0 v U'.heap L ∧ FrameEnd U o U' L ({ frames := 0, cells := 0, slots := 0, locals := 0 } : Room).cells ({ frames := 0, cells := 0, slots := 0, locals := 0 } : Room).slots) := by
  refine MetFree.of_bodySF (plainFor_of_name own_pn1) hisR ?_
  intro p e s m args below meth c s₁ Bd hml0 hP hK
  obtain ⟨rfl, hZ, hh⟩ := hP
  have hx := Bd.exec
  have hby := Bd.bytes
  have hml : c.maxLocals = 1 := hml0
  have hown : s.vm.findClass "com/example/dirwarden/dirwarden/aci/ComparisonOrdersPinLaw" = some m.cls := findClass_of_methodNamed Bd.named
  have hnm := (name_of_methodNamed Bd.named Bd.method).1
  have X0 : Stand p l e ({ frames := 0, cells := 0, slots := 0, locals := 0 } : Room) s m #[(.int (1 : Int32))] below meth c s₁ [] 0 0 := Stand.of_body Bd
  have e0 : s₁.heap = h0 := by rw [← hh, Bd.state]; rfl
  have N0 := Fr.nil n0
  have pre0 : ∀ t, Steps p.tables e below (s₁.setTop (mkF m 0 #[.val (.int (1 : Int32))] [])) t → Steps p.tables e below (s₁.setTop (entryFrame m #[(.int (1 : Int32))] 1)) t := fun t k => castTop (by first | (simp [entryFrame, mkF, argsToLocals, Value.category, maxLocals]; done) | rfl) k
  obtain ⟨T1, X1, e1, st1⟩ := getS2 X0 hx hZ hown (host := "") (Or.inl (own_w36 hw)) Via.refl e0 S1 (g := (mkF m 13 #[.val (.int (1 : Int32))] [])) rfl (hb hby own_d1_13)
  obtain ⟨fs, hr, hrun, hended, hW, hsame⟩ := X1.leave (v := some (.ref s1)) (fun h => by rw [Bd.returns] at h; cases h)
  refine ⟨_, _, pre0 _ ?_, hrun, hended, _, _, rfl, ?_, ⟨_, rfl⟩, hW, hsame.mono (by decide) (by decide)⟩
  · show Steps _ _ _ (s₁.setTop (mkF m 0 #[.val (.int (1 : Int32))] [])) _
    refine XS.iloadN X0.here hx rfl (hb hby own_d1_0) rfl ?_
    refine XS.ifYes X0.here hx rfl (pc0 := 1) (pc' := 8) rfl (hb hby own_d1_1) rfl ((if0 _ _).trans (feq (by decide : ¬ ((1 : Int32) = (0 : Int32)))).2) (by decide) (by decide) ?_
    refine XS.iloadN X0.here hx rfl (hb hby own_d1_8) rfl ?_
    refine XS.iconst X0.here hx rfl (hb hby own_d1_9) ?_
    show Steps _ _ _ (s₁.setTop (mkF m 10 #[.val (.int (1 : Int32))] [(.int (1 : Int32)), (.int (1 : Int32))])) _
    refine XS.icmpNo X0.here hx rfl (hb hby own_d1_10) rfl (teq (by decide : (1 : Int32) = (1 : Int32))).2 ?_
    refine st1 _ ?_
    show Steps _ _ _ (T1.setTop (mkF m 16 #[.val (.int (1 : Int32))] [(.ref s1)])) _
    jvm_step X1.here [X1.here.top, hx, (hb hby own_d1_16), X1.method', Bd.returns, Value.isRef, FieldType.isReference]
    first | (intro acts; rw [hr _ acts rfl rfl rfl]) | rw [hr _ _ rfl rfl rfl]
    exact Steps.refl _
  · show Qown_pick1 Z s0 s1 s2 s3 s4 s5 h0 n0 _ T1.heap _
    rw [e1]
    exact ⟨rfl, N0, rfl⟩
def Qown_orders1 (Z : State) (s0 s1 s2 s3 s4 s5 : Addr) (h0 : Heap) (n0 : Nat) (v : Option Value) (h : Heap) (L : List Loc) : Prop := v = some (.int (1 : Int32)) ∧ Fr n0 L ∧ h = h0
set_option maxRecDepth 65536 in
set_option maxHeartbeats 40000000 in
theorem own_orders1 (l : Launch) (Z : State) (a0 : Array Value) (hw : ∀ d ∈ tables_1, d.before a0 Z = true) (ws : List Jvm.Cond) (s0 s1 s2 s3 s4 s5 : Addr) (h0 : Heap) (n0 : Nat) (Z0 : n0 ≤ h0.size) (S0 : Sta Z h0 "com/example/dirwarden/dirwarden/aci/Comparison" "NOT_EQUAL" "Lcom/example/dirwarden/dirwarden/aci/Comparison;" (.ref s0)) (F0 : Fld Z h0 s0 "java/lang/Enum" "ordinal" "I" (.int (0 : Int32))) (E0 : Exa Z h0 s0 "com/example/dirwarden/dirwarden/aci/Comparison") (S1 : Sta Z h0 "com/example/dirwarden/dirwarden/aci/Comparison" "AT_MOST" "Lcom/example/dirwarden/dirwarden/aci/Comparison;" (.ref s1)) (F1 : Fld Z h0 s1 "java/lang/Enum" "ordinal" "I" (.int (1 : Int32))) (E1 : Exa Z h0 s1 "com/example/dirwarden/dirwarden/aci/Comparison") (S2 : Sta Z h0 "com/example/dirwarden/dirwarden/aci/Comparison" "AT_LEAST" "Lcom/example/dirwarden/dirwarden/aci/Comparison;" (.ref s2)) (F2 : Fld Z h0 s2 "java/lang/Enum" "ordinal" "I" (.int (2 : Int32))) (E2 : Exa Z h0 s2 "com/example/dirwarden/dirwarden/aci/Comparison") (S3 : Sta Z h0 "com/example/dirwarden/dirwarden/aci/Comparison" "EQUAL" "Lcom/example/dirwarden/dirwarden/aci/Comparison;" (.ref s3)) (F3 : Fld Z h0 s3 "java/lang/Enum" "ordinal" "I" (.int (3 : Int32))) (E3 : Exa Z h0 s3 "com/example/dirwarden/dirwarden/aci/Comparison") (S4 : Sta Z h0 "com/example/dirwarden/dirwarden/aci/Comparison" "LESS" "Lcom/example/dirwarden/dirwarden/aci/Comparison;" (.ref s4)) (F4 : Fld Z h0 s4 "java/lang/Enum" "ordinal" "I" (.int (4 : Int32))) (E4 : Exa Z h0 s4 "com/example/dirwarden/dirwarden/aci/Comparison") (S5 : Sta Z h0 "com/example/dirwarden/dirwarden/aci/Comparison" "GREATER" "Lcom/example/dirwarden/dirwarden/aci/Comparison;" (.ref s5)) (F5 : Fld Z h0 s5 "java/lang/Enum" "ordinal" "I" (.int (5 : Int32))) (E5 : Exa Z h0 s5 "com/example/dirwarden/dirwarden/aci/Comparison") :
    MetFree l own_m2 (head1 (Jvm.Cond.code own_m2 prog_2_method_5_code 1 (some .boolean) :: ws) ({ frames := 0, cells := 0, slots := 0, locals := 0 } : Room)) (fun a U => a = #[(.ref s1)] ∧ Z.Warmed39 U.vm ∧ U.heap = h0) (fun _ _ _ _ _ => True) (fun _ U o U' => ∃ v L, o = .returned v ∧ Qown_orders1 Z s0 s1 s2 s3 s4 s5 h0 n0 v U'.heap L ∧ FrameEnd U o U' L ({ frames := 0, cells := 0, slots := 0, locals := 0 } : Room).cells ({ frames := 0, cells := 0, slots := 0, locals := 0 } : Room).slots) := by
  refine MetFree.of_bodySF (plainFor_of_name own_pn2) hisR ?_
  intro p e s m args below meth c s₁ Bd hml0 hP hK
  obtain ⟨rfl, hZ, hh⟩ := hP
  have hx := Bd.exec
  have hby := Bd.bytes
  have hml : c.maxLocals = 1 := hml0
  have hown : s.vm.findClass "com/example/dirwarden/dirwarden/aci/Comparison" = some m.cls := findClass_of_methodNamed Bd.named
  have hnm := (name_of_methodNamed Bd.named Bd.method).1
  have X0 : Stand p l e ({ frames := 0, cells := 0, slots := 0, locals := 0 } : Room) s m #[(.ref s1)] below meth c s₁ [] 0 0 := Stand.of_body Bd
  have e0 : s₁.heap = h0 := by rw [← hh, Bd.state]; rfl
  have N0 := Fr.nil n0
  have pre0 : ∀ t, Steps p.tables e below (s₁.setTop (mkF m 0 #[.val (.ref s1)] [])) t → Steps p.tables e below (s₁.setTop (entryFrame m #[(.ref s1)] 1)) t := fun t k => castTop (by first | (simp [entryFrame, mkF, argsToLocals, Value.category, maxLocals]; done) | rfl) k
  obtain ⟨T1, X1, e1, st1⟩ := getS2 X0 hx hZ hown (host := "") (Or.inl (own_w13 hw)) Via.refl e0 S3 (g := (mkF m 1 #[.val (.ref s1)] [(.ref s1)])) rfl (hb hby own_d2_1)
  obtain ⟨T2, X2, e2, st2⟩ := getS2 X1 hx hZ hown (host := "") (Or.inl (own_w15 hw)) Via.refl e1 S0 (g := (mkF m 8 #[.val (.ref s1)] [(.ref s1)])) rfl (hb hby own_d2_8)
  obtain ⟨fs, hr, hrun, hended, hW, hsame⟩ := X2.leave (v := some (.int (1 : Int32))) (fun h => by rw [Bd.returns] at h; cases h)
  refine ⟨_, _, pre0 _ ?_, hrun, hended, _, _, rfl, ?_, ⟨_, rfl⟩, hW, hsame.mono (by decide) (by decide)⟩
  · show Steps _ _ _ (s₁.setTop (mkF m 0 #[.val (.ref s1)] [])) _
    refine XS.aloadN X0.here hx rfl (hb hby own_d2_0) rfl rfl ?_
    refine st1 _ ?_
    refine Jvm.RoadKit.acmp (g := (mkF m 4 #[.val (.ref s1)] [(.ref s3), (.ref s1)])) X1 hx rfl rfl rfl (pc0 := 4) (pc' := 7) (same := false) rfl (hb hby own_d2_4) rfl (decide_eq_false fun q => Fld.ne F1 F3 (by decide) (Value.ref.inj q)) (by decide) (by decide) ?_
    refine XS.aloadN X1.here hx rfl (hb hby own_d2_7) rfl rfl ?_
    show Steps _ _ _ (T1.setTop (mkF m 8 #[.val (.ref s1)] [(.ref s1)])) _
    refine st2 _ ?_
    refine Jvm.RoadKit.acmp (g := (mkF m 11 #[.val (.ref s1)] [(.ref s0), (.ref s1)])) X2 hx rfl rfl rfl (pc0 := 11) (pc' := 14) (same := false) rfl (hb hby own_d2_11) rfl (decide_eq_false fun q => Fld.ne F1 F0 (by decide) (Value.ref.inj q)) (by decide) (by decide) ?_
    refine XS.iconst X2.here hx rfl (hb hby own_d2_14) ?_
    refine XS.goto X2.here hx rfl (pc0 := 15) (pc' := 19) rfl (hb hby own_d2_15) (by decide) (by decide) ?_
    show Steps _ _ _ (T2.setTop (mkF m 19 #[.val (.ref s1)] [(.int (1 : Int32))])) _
    exact retN X2 hx (t := .boolean) Bd.returns (by simp) (hb hby own_d2_19) hr
  · show Qown_orders1 Z s0 s1 s2 s3 s4 s5 h0 n0 _ T2.heap _
    rw [e2]
    exact ⟨rfl, N0, rfl⟩
def Qown_expected1 (Z : State)  (h0 : Heap) (n0 : Nat) (v : Option Value) (h : Heap) (L : List Loc) : Prop := v = some (.int (1 : Int32)) ∧ Fr n0 L ∧ h = h0
set_option maxRecDepth 65536 in
set_option maxHeartbeats 40000000 in
theorem own_expected1 (l : Launch) (Z : State) (a0 : Array Value) (hw : ∀ d ∈ tables_1, d.before a0 Z = true) (ws : List Jvm.Cond)  (h0 : Heap) (n0 : Nat) (Z0 : n0 ≤ h0.size)  :
    MetFree l own_m3 (head1 (Jvm.Cond.code own_m3 method_3_code 1 (some .boolean) :: ws) ({ frames := 0, cells := 0, slots := 0, locals := 0 } : Room)) (fun a U => a = #[(.int (1 : Int32))] ∧ Z.Warmed39 U.vm ∧ U.heap = h0) (fun _ _ _ _ _ => True) (fun _ U o U' => ∃ v L, o = .returned v ∧ Qown_expected1 Z  h0 n0 v U'.heap L ∧ FrameEnd U o U' L ({ frames := 0, cells := 0, slots := 0, locals := 0 } : Room).cells ({ frames := 0, cells := 0, slots := 0, locals := 0 } : Room).slots) := by
  refine MetFree.of_bodySF (plainFor_of_name own_pn1) hisR ?_
  intro p e s m args below meth c s₁ Bd hml0 hP hK
  obtain ⟨rfl, hZ, hh⟩ := hP
  have hx := Bd.exec
  have hby := Bd.bytes
  have hml : c.maxLocals = 1 := hml0
  have hown : s.vm.findClass "com/example/dirwarden/dirwarden/aci/ComparisonOrdersPinLaw" = some m.cls := findClass_of_methodNamed Bd.named
  have hnm := (name_of_methodNamed Bd.named Bd.method).1
  have X0 : Stand p l e ({ frames := 0, cells := 0, slots := 0, locals := 0 } : Room) s m #[(.int (1 : Int32))] below meth c s₁ [] 0 0 := Stand.of_body Bd
  have e0 : s₁.heap = h0 := by rw [← hh, Bd.state]; rfl
  have N0 := Fr.nil n0
  have pre0 : ∀ t, Steps p.tables e below (s₁.setTop (mkF m 0 #[.val (.int (1 : Int32))] [])) t → Steps p.tables e below (s₁.setTop (entryFrame m #[(.int (1 : Int32))] 1)) t := fun t k => castTop (by first | (simp [entryFrame, mkF, argsToLocals, Value.category, maxLocals]; done) | rfl) k
  obtain ⟨fs, hr, hrun, hended, hW, hsame⟩ := X0.leave (v := some (.int (1 : Int32))) (fun h => by rw [Bd.returns] at h; cases h)
  refine ⟨_, _, pre0 _ ?_, hrun, hended, _, _, rfl, ?_, ⟨_, rfl⟩, hW, hsame.mono (by decide) (by decide)⟩
  · show Steps _ _ _ (s₁.setTop (mkF m 0 #[.val (.int (1 : Int32))] [])) _
    refine XS.iloadN X0.here hx rfl (hb hby own_d3_0) rfl ?_
    refine XS.ifYes X0.here hx rfl (pc0 := 1) (pc' := 6) rfl (hb hby own_d3_1) rfl ((if0 _ _).trans (feq (by decide : ¬ ((1 : Int32) = (0 : Int32)))).2) (by decide) (by decide) ?_
    refine XS.iloadN X0.here hx rfl (hb hby own_d3_6) rfl ?_
    refine XS.iconst X0.here hx rfl (hb hby own_d3_7) ?_
    show Steps _ _ _ (s₁.setTop (mkF m 8 #[.val (.int (1 : Int32))] [(.int (3 : Int32)), (.int (1 : Int32))])) _
    refine XS.icmpYes X0.here hx rfl (pc0 := 8) (pc' := 13) rfl (hb hby own_d3_8) rfl (feq (by decide : ¬ ((1 : Int32) = (3 : Int32)))).2 (by decide) (by decide) ?_
    refine XS.iconst X0.here hx rfl (hb hby own_d3_13) ?_
    show Steps _ _ _ (s₁.setTop (mkF m 14 #[.val (.int (1 : Int32))] [(.int (1 : Int32))])) _
    exact retN X0 hx (t := .boolean) Bd.returns (by simp) (hb hby own_d3_14) hr
  · show Qown_expected1 Z  h0 n0 _ s₁.heap _
    rw [e0]
    exact ⟨rfl, N0, rfl⟩
def Qown_holds1m (Z : State) (s0 s1 s2 s3 s4 s5 : Addr) (h0 : Heap) (n0 : Nat) (v : Option Value) (h : Heap) (L : List Loc) : Prop := v = some (.int (1 : Int32)) ∧ Fr n0 L ∧ h = h0
set_option maxRecDepth 65536 in
set_option maxHeartbeats 40000000 in
theorem own_holds1m (l : Launch) (Z : State) (a0 : Array Value) (hw : ∀ d ∈ tables_1, d.before a0 Z = true) (ws : List Jvm.Cond) (s0 s1 s2 s3 s4 s5 : Addr) (h0 : Heap) (n0 : Nat) (Z0 : n0 ≤ h0.size) (S0 : Sta Z h0 "com/example/dirwarden/dirwarden/aci/Comparison" "NOT_EQUAL" "Lcom/example/dirwarden/dirwarden/aci/Comparison;" (.ref s0)) (F0 : Fld Z h0 s0 "java/lang/Enum" "ordinal" "I" (.int (0 : Int32))) (E0 : Exa Z h0 s0 "com/example/dirwarden/dirwarden/aci/Comparison") (S1 : Sta Z h0 "com/example/dirwarden/dirwarden/aci/Comparison" "AT_MOST" "Lcom/example/dirwarden/dirwarden/aci/Comparison;" (.ref s1)) (F1 : Fld Z h0 s1 "java/lang/Enum" "ordinal" "I" (.int (1 : Int32))) (E1 : Exa Z h0 s1 "com/example/dirwarden/dirwarden/aci/Comparison") (S2 : Sta Z h0 "com/example/dirwarden/dirwarden/aci/Comparison" "AT_LEAST" "Lcom/example/dirwarden/dirwarden/aci/Comparison;" (.ref s2)) (F2 : Fld Z h0 s2 "java/lang/Enum" "ordinal" "I" (.int (2 : Int32))) (E2 : Exa Z h0 s2 "com/example/dirwarden/dirwarden/aci/Comparison") (S3 : Sta Z h0 "com/example/dirwarden/dirwarden/aci/Comparison" "EQUAL" "Lcom/example/dirwarden/dirwarden/aci/Comparison;" (.ref s3)) (F3 : Fld Z h0 s3 "java/lang/Enum" "ordinal" "I" (.int (3 : Int32))) (E3 : Exa Z h0 s3 "com/example/dirwarden/dirwarden/aci/Comparison") (S4 : Sta Z h0 "com/example/dirwarden/dirwarden/aci/Comparison" "LESS" "Lcom/example/dirwarden/dirwarden/aci/Comparison;" (.ref s4)) (F4 : Fld Z h0 s4 "java/lang/Enum" "ordinal" "I" (.int (4 : Int32))) (E4 : Exa Z h0 s4 "com/example/dirwarden/dirwarden/aci/Comparison") (S5 : Sta Z h0 "com/example/dirwarden/dirwarden/aci/Comparison" "GREATER" "Lcom/example/dirwarden/dirwarden/aci/Comparison;" (.ref s5)) (F5 : Fld Z h0 s5 "java/lang/Enum" "ordinal" "I" (.int (5 : Int32))) (E5 : Exa Z h0 s5 "com/example/dirwarden/dirwarden/aci/Comparison") :
    MetFree l own_m4 (head1 (Jvm.Cond.code own_m4 prog_2_method_6_code 2 (some .boolean) :: ws) ({ frames := 1, cells := 0, slots := 0, locals := 12 } : Room)) (fun a U => a = #[(.ref s1), (.int (-1 : Int32))] ∧ Z.Warmed39 U.vm ∧ U.heap = h0) (fun _ _ _ _ _ => True) (fun _ U o U' => ∃ v L, o = .returned v ∧ Qown_holds1m Z s0 s1 s2 s3 s4 s5 h0 n0 v U'.heap L ∧ FrameEnd U o U' L ({ frames := 1, cells := 0, slots := 0, locals := 12 } : Room).cells ({ frames := 1, cells := 0, slots := 0, locals := 12 } : Room).slots) := by
  refine MetFree.of_bodySF (plainFor_of_name own_pn2) hisR ?_
  intro p e s m args below meth c s₁ Bd hml0 hP hK
  obtain ⟨rfl, hZ, hh⟩ := hP
  have hx := Bd.exec
  have hby := Bd.bytes
  have hml : c.maxLocals = 2 := hml0
  have hown : s.vm.findClass "com/example/dirwarden/dirwarden/aci/Comparison" = some m.cls := findClass_of_methodNamed Bd.named
  have hnm := (name_of_methodNamed Bd.named Bd.method).1
  have X0 : Stand p l e ({ frames := 1, cells := 0, slots := 0, locals := 12 } : Room) s m #[(.ref s1), (.int (-1 : Int32))] below meth c s₁ [] 0 0 := Stand.of_body Bd
  have e0 : s₁.heap = h0 := by rw [← hh, Bd.state]; rfl
  have N0 := Fr.nil n0
  have pre0 : ∀ t, Steps p.tables e below (s₁.setTop (mkF m 0 #[.val (.ref s1), .val (.int (-1 : Int32))] [])) t → Steps p.tables e below (s₁.setTop (entryFrame m #[(.ref s1), (.int (-1 : Int32))] 2)) t := fun t k => castTop (by first | (simp [entryFrame, mkF, argsToLocals, Value.category, maxLocals]; done) | rfl) k
  obtain ⟨cq1, kq1, q1a, q1b, q1c⟩ := isOf hZ e0 E1
  obtain ⟨_, _, ⟨T1, L1, k1, n1⟩, -, X1, ⟨Lc1, hQ1, l1, y1, z1⟩, st1⟩ := X0.virtualBackUp hx (x := own_m5) (y := own_m0) (owner := "java/lang/Enum") hown (mvT hZ (own_w24 hw)) (mvT hZ (own_w25 hw)) (mvT hZ (own_w26 hw)) (by decide) (mvT hZ (own_w28 hw)) (mvT hZ (own_w27 hw)) (backOf (W := 0) (own_ordinal l Z a0 hw [] s1 (1 : Int32) h0 n0 Z0 F1) hZ (own_w30 hw) (own_w29 hw) (by decide) (by decide)) q1a q1c (g := (mkF m 1 #[.val (.ref s1), .val (.int (-1 : Int32))] [(.ref s1)])) rfl (by rw [hml]; rfl) (Steps.refl _) (argsL := []) (rest := []) (lenOf own_pd0 rfl) rfl (by show 2 * 0 + _ ≤ _; exact Nat.le_of_eq rfl) (hb hby own_d4_1) (fun _ _ => ⟨rfl, e0, (by decide : 0 + 0 ≤ _), (by decide : 0 + 0 ≤ _)⟩)
  dsimp only [Pt.U, Pt.locs, Pt.cells, Pt.slots] at X1 l1 y1 z1 st1 hQ1
  subst l1 y1 z1
  obtain ⟨rfl, N1q, e1⟩ := hQ1
  have N1 := Fr.app N0 N1q
  obtain ⟨fs, hr, hrun, hended, hW, hsame⟩ := X1.leave (v := some (.int (1 : Int32))) (fun h => by rw [Bd.returns] at h; cases h)
  refine ⟨_, _, pre0 _ ?_, hrun, hended, _, _, rfl, ?_, ⟨_, rfl⟩, hW, hsame.mono (by decide) (by decide)⟩
  · show Steps _ _ _ (s₁.setTop (mkF m 0 #[.val (.ref s1), .val (.int (-1 : Int32))] [])) _
    refine XS.aloadN X0.here hx rfl (hb hby own_d4_0) rfl rfl ?_
    refine st1.trans ?_
    refine XS.tswIn X1.here hx rfl (pc0 := 4) (pc' := 90) rfl (hb hby own_d4_4) (i := (1 : Int32)) rfl (by decide) (o := 86) (by decide) (by decide) (by decide) ?_
    refine XS.iloadN X1.here hx rfl (hb hby own_d4_90) rfl ?_
    show Steps _ _ _ (T1.setTop (mkF m 91 #[.val (.ref s1), .val (.int (-1 : Int32))] [(.int (-1 : Int32))])) _
    refine XS.ifNo X1.here hx rfl (hb hby own_d4_91) rfl ((if0 _ _).trans (flt (by decide : ¬ ((0 : Int32) < (-1 : Int32)))).2.2.1) ?_
    refine XS.iconst X1.here hx rfl (hb hby own_d4_94) ?_
    refine XS.goto X1.here hx rfl (pc0 := 95) (pc' := 123) rfl (hb hby own_d4_95) (by decide) (by decide) ?_
    show Steps _ _ _ (T1.setTop (mkF m 123 #[.val (.ref s1), .val (.int (-1 : Int32))] [(.int (1 : Int32))])) _
    exact retN X1 hx (t := .boolean) Bd.returns (by simp) (hb hby own_d4_123) hr
  · show Qown_holds1m Z s0 s1 s2 s3 s4 s5 h0 n0 _ T1.heap _
    rw [e1]
    exact ⟨rfl, N1, rfl⟩
def Qown_holds1p (Z : State) (s0 s1 s2 s3 s4 s5 : Addr) (h0 : Heap) (n0 : Nat) (v : Option Value) (h : Heap) (L : List Loc) : Prop := v = some (.int (0 : Int32)) ∧ Fr n0 L ∧ h = h0
set_option maxRecDepth 65536 in
set_option maxHeartbeats 40000000 in
theorem own_holds1p (l : Launch) (Z : State) (a0 : Array Value) (hw : ∀ d ∈ tables_1, d.before a0 Z = true) (ws : List Jvm.Cond) (s0 s1 s2 s3 s4 s5 : Addr) (h0 : Heap) (n0 : Nat) (Z0 : n0 ≤ h0.size) (S0 : Sta Z h0 "com/example/dirwarden/dirwarden/aci/Comparison" "NOT_EQUAL" "Lcom/example/dirwarden/dirwarden/aci/Comparison;" (.ref s0)) (F0 : Fld Z h0 s0 "java/lang/Enum" "ordinal" "I" (.int (0 : Int32))) (E0 : Exa Z h0 s0 "com/example/dirwarden/dirwarden/aci/Comparison") (S1 : Sta Z h0 "com/example/dirwarden/dirwarden/aci/Comparison" "AT_MOST" "Lcom/example/dirwarden/dirwarden/aci/Comparison;" (.ref s1)) (F1 : Fld Z h0 s1 "java/lang/Enum" "ordinal" "I" (.int (1 : Int32))) (E1 : Exa Z h0 s1 "com/example/dirwarden/dirwarden/aci/Comparison") (S2 : Sta Z h0 "com/example/dirwarden/dirwarden/aci/Comparison" "AT_LEAST" "Lcom/example/dirwarden/dirwarden/aci/Comparison;" (.ref s2)) (F2 : Fld Z h0 s2 "java/lang/Enum" "ordinal" "I" (.int (2 : Int32))) (E2 : Exa Z h0 s2 "com/example/dirwarden/dirwarden/aci/Comparison") (S3 : Sta Z h0 "com/example/dirwarden/dirwarden/aci/Comparison" "EQUAL" "Lcom/example/dirwarden/dirwarden/aci/Comparison;" (.ref s3)) (F3 : Fld Z h0 s3 "java/lang/Enum" "ordinal" "I" (.int (3 : Int32))) (E3 : Exa Z h0 s3 "com/example/dirwarden/dirwarden/aci/Comparison") (S4 : Sta Z h0 "com/example/dirwarden/dirwarden/aci/Comparison" "LESS" "Lcom/example/dirwarden/dirwarden/aci/Comparison;" (.ref s4)) (F4 : Fld Z h0 s4 "java/lang/Enum" "ordinal" "I" (.int (4 : Int32))) (E4 : Exa Z h0 s4 "com/example/dirwarden/dirwarden/aci/Comparison") (S5 : Sta Z h0 "com/example/dirwarden/dirwarden/aci/Comparison" "GREATER" "Lcom/example/dirwarden/dirwarden/aci/Comparison;" (.ref s5)) (F5 : Fld Z h0 s5 "java/lang/Enum" "ordinal" "I" (.int (5 : Int32))) (E5 : Exa Z h0 s5 "com/example/dirwarden/dirwarden/aci/Comparison") :
    MetFree l own_m4 (head1 (Jvm.Cond.code own_m4 prog_2_method_6_code 2 (some .boolean) :: ws) ({ frames := 1, cells := 0, slots := 0, locals := 12 } : Room)) (fun a U => a = #[(.ref s1), (.int (1 : Int32))] ∧ Z.Warmed39 U.vm ∧ U.heap = h0) (fun _ _ _ _ _ => True) (fun _ U o U' => ∃ v L, o = .returned v ∧ Qown_holds1p Z s0 s1 s2 s3 s4 s5 h0 n0 v U'.heap L ∧ FrameEnd U o U' L ({ frames := 1, cells := 0, slots := 0, locals := 12 } : Room).cells ({ frames := 1, cells := 0, slots := 0, locals := 12 } : Room).slots) := by
  refine MetFree.of_bodySF (plainFor_of_name own_pn2) hisR ?_
  intro p e s m args below meth c s₁ Bd hml0 hP hK
  obtain ⟨rfl, hZ, hh⟩ := hP
  have hx := Bd.exec
  have hby := Bd.bytes
  have hml : c.maxLocals = 2 := hml0
  have hown : s.vm.findClass "com/example/dirwarden/dirwarden/aci/Comparison" = some m.cls := findClass_of_methodNamed Bd.named
  have hnm := (name_of_methodNamed Bd.named Bd.method).1
  have X0 : Stand p l e ({ frames := 1, cells := 0, slots := 0, locals := 12 } : Room) s m #[(.ref s1), (.int (1 : Int32))] below meth c s₁ [] 0 0 := Stand.of_body Bd
  have e0 : s₁.heap = h0 := by rw [← hh, Bd.state]; rfl
  have N0 := Fr.nil n0
  have pre0 : ∀ t, Steps p.tables e below (s₁.setTop (mkF m 0 #[.val (.ref s1), .val (.int (1 : Int32))] [])) t → Steps p.tables e below (s₁.setTop (entryFrame m #[(.ref s1), (.int (1 : Int32))] 2)) t := fun t k => castTop (by first | (simp [entryFrame, mkF, argsToLocals, Value.category, maxLocals]; done) | rfl) k
  obtain ⟨cq1, kq1, q1a, q1b, q1c⟩ := isOf hZ e0 E1
  obtain ⟨_, _, ⟨T1, L1, k1, n1⟩, -, X1, ⟨Lc1, hQ1, l1, y1, z1⟩, st1⟩ := X0.virtualBackUp hx (x := own_m5) (y := own_m0) (owner := "java/lang/Enum") hown (mvT hZ (own_w24 hw)) (mvT hZ (own_w25 hw)) (mvT hZ (own_w26 hw)) (by decide) (mvT hZ (own_w28 hw)) (mvT hZ (own_w27 hw)) (backOf (W := 0) (own_ordinal l Z a0 hw [] s1 (1 : Int32) h0 n0 Z0 F1) hZ (own_w30 hw) (own_w29 hw) (by decide) (by decide)) q1a q1c (g := (mkF m 1 #[.val (.ref s1), .val (.int (1 : Int32))] [(.ref s1)])) rfl (by rw [hml]; rfl) (Steps.refl _) (argsL := []) (rest := []) (lenOf own_pd0 rfl) rfl (by show 2 * 0 + _ ≤ _; exact Nat.le_of_eq rfl) (hb hby own_d4_1) (fun _ _ => ⟨rfl, e0, (by decide : 0 + 0 ≤ _), (by decide : 0 + 0 ≤ _)⟩)
  dsimp only [Pt.U, Pt.locs, Pt.cells, Pt.slots] at X1 l1 y1 z1 st1 hQ1
  subst l1 y1 z1
  obtain ⟨rfl, N1q, e1⟩ := hQ1
  have N1 := Fr.app N0 N1q
  obtain ⟨fs, hr, hrun, hended, hW, hsame⟩ := X1.leave (v := some (.int (0 : Int32))) (fun h => by rw [Bd.returns] at h; cases h)
  refine ⟨_, _, pre0 _ ?_, hrun, hended, _, _, rfl, ?_, ⟨_, rfl⟩, hW, hsame.mono (by decide) (by decide)⟩
  · show Steps _ _ _ (s₁.setTop (mkF m 0 #[.val (.ref s1), .val (.int (1 : Int32))] [])) _
    refine XS.aloadN X0.here hx rfl (hb hby own_d4_0) rfl rfl ?_
    refine st1.trans ?_
    refine XS.tswIn X1.here hx rfl (pc0 := 4) (pc' := 90) rfl (hb hby own_d4_4) (i := (1 : Int32)) rfl (by decide) (o := 86) (by decide) (by decide) (by decide) ?_
    refine XS.iloadN X1.here hx rfl (hb hby own_d4_90) rfl ?_
    show Steps _ _ _ (T1.setTop (mkF m 91 #[.val (.ref s1), .val (.int (1 : Int32))] [(.int (1 : Int32))])) _
    refine XS.ifYes X1.here hx rfl (pc0 := 91) (pc' := 98) rfl (hb hby own_d4_91) rfl ((if0 _ _).trans (tlt (by decide : (0 : Int32) < (1 : Int32))).2.2.1) (by decide) (by decide) ?_
    refine XS.iconst X1.here hx rfl (hb hby own_d4_98) ?_
    refine XS.goto X1.here hx rfl (pc0 := 99) (pc' := 123) rfl (hb hby own_d4_99) (by decide) (by decide) ?_
    show Steps _ _ _ (T1.setTop (mkF m 123 #[.val (.ref s1), .val (.int (1 : Int32))] [(.int (0 : Int32))])) _
    exact retN X1 hx (t := .boolean) Bd.returns (by simp) (hb hby own_d4_123) hr
  · show Qown_holds1p Z s0 s1 s2 s3 s4 s5 h0 n0 _ T1.heap _
    rw [e1]
    exact ⟨rfl, N1, rfl⟩
def Qown_pick2 (Z : State) (s0 s1 s2 s3 s4 s5 : Addr) (h0 : Heap) (n0 : Nat) (v : Option Value) (h : Heap) (L : List Loc) : Prop := v = some (.ref s2) ∧ Fr n0 L ∧ h = h0
set_option maxRecDepth 65536 in
set_option maxHeartbeats 40000000 in
theorem own_pick2 (l : Launch) (Z : State) (a0 : Array Value) (hw : ∀ d ∈ tables_1, d.before a0 Z = true) (ws : List Jvm.Cond) (s0 s1 s2 s3 s4 s5 : Addr) (h0 : Heap) (n0 : Nat) (Z0 : n0 ≤ h0.size) (S0 : Sta Z h0 "com/example/dirwarden/dirwarden/aci/Comparison" "NOT_EQUAL" "Lcom/example/dirwarden/dirwarden/aci/Comparison;" (.ref s0)) (F0 : Fld Z h0 s0 "java/lang/Enum" "ordinal" "I" (.int (0 : Int32))) (E0 : Exa Z h0 s0 "com/example/dirwarden/dirwarden/aci/Comparison") (S1 : Sta Z h0 "com/example/dirwarden/dirwarden/aci/Comparison" "AT_MOST" "Lcom/example/dirwarden/dirwarden/aci/Comparison;" (.ref s1)) (F1 : Fld Z h0 s1 "java/lang/Enum" "ordinal" "I" (.int (1 : Int32))) (E1 : Exa Z h0 s1 "com/example/dirwarden/dirwarden/aci/Comparison") (S2 : Sta Z h0 "com/example/dirwarden/dirwarden/aci/Comparison" "AT_LEAST" "Lcom/example/dirwarden/dirwarden/aci/Comparison;" (.ref s2)) (F2 : Fld Z h0 s2 "java/lang/Enum" "ordinal" "I" (.int (2 : Int32))) (E2 : Exa Z h0 s2 "com/example/dirwarden/dirwarden/aci/Comparison") (S3 : Sta Z h0 "com/example/dirwarden/dirwarden/aci/Comparison" "EQUAL" "Lcom/example/dirwarden/dirwarden/aci/Comparison;" (.ref s3)) (F3 : Fld Z h0 s3 "java/lang/Enum" "ordinal" "I" (.int (3 : Int32))) (E3 : Exa Z h0 s3 "com/example/dirwarden/dirwarden/aci/Comparison") (S4 : Sta Z h0 "com/example/dirwarden/dirwarden/aci/Comparison" "LESS" "Lcom/example/dirwarden/dirwarden/aci/Comparison;" (.ref s4)) (F4 : Fld Z h0 s4 "java/lang/Enum" "ordinal" "I" (.int (4 : Int32))) (E4 : Exa Z h0 s4 "com/example/dirwarden/dirwarden/aci/Comparison") (S5 : Sta Z h0 "com/example/dirwarden/dirwarden/aci/Comparison" "GREATER" "Lcom/example/dirwarden/dirwarden/aci/Comparison;" (.ref s5)) (F5 : Fld Z h0 s5 "java/lang/Enum" "ordinal" "I" (.int (5 : Int32))) (E5 : Exa Z h0 s5 "com/example/dirwarden/dirwarden/aci/Comparison") :
    MetFree l own_m1 (head1 (Jvm.Cond.code own_m1 method_2_code 1 (some (.object "com/example/dirwarden/dirwarden/aci/Comparison")) :: ws) ({ frames := 0, cells := 0, slots := 0, locals := 0 } : Room)) (fun a U => a = #[(.int (2 : Int32))] ∧ Z.Warmed39 U.vm ∧ U.heap = h0) (fun _ _ _ _ _ => True) (fun _ U o U' => ∃ v L, o = .returned v ∧ Qown_pick2 Z s0 s1 s2 s3 s4 s5 h0 n0 v U'.heap L ∧ FrameEnd U o U' L ({ frames := 0, cells := 0, slots := 0, locals := 0 } : Room).cells ({ frames := 0, cells := 0, slots := 0, locals := 0 } : Room).slots) := by
  refine MetFree.of_bodySF (plainFor_of_name own_pn1) hisR ?_
  intro p e s m args below meth c s₁ Bd hml0 hP hK
  obtain ⟨rfl, hZ, hh⟩ := hP
  have hx := Bd.exec
  have hby := Bd.bytes
  have hml : c.maxLocals = 1 := hml0
  have hown : s.vm.findClass "com/example/dirwarden/dirwarden/aci/ComparisonOrdersPinLaw" = some m.cls := findClass_of_methodNamed Bd.named
  have hnm := (name_of_methodNamed Bd.named Bd.method).1
  have X0 : Stand p l e ({ frames := 0, cells := 0, slots := 0, locals := 0 } : Room) s m #[(.int (2 : Int32))] below meth c s₁ [] 0 0 := Stand.of_body Bd
  have e0 : s₁.heap = h0 := by rw [← hh, Bd.state]; rfl
  have N0 := Fr.nil n0
  have pre0 : ∀ t, Steps p.tables e below (s₁.setTop (mkF m 0 #[.val (.int (2 : Int32))] [])) t → Steps p.tables e below (s₁.setTop (entryFrame m #[(.int (2 : Int32))] 1)) t := fun t k => castTop (by first | (simp [entryFrame, mkF, argsToLocals, Value.category, maxLocals]; done) | rfl) k
  obtain ⟨T1, X1, e1, st1⟩ := getS2 X0 hx hZ hown (host := "") (Or.inl (own_w34 hw)) Via.refl e0 S2 (g := (mkF m 22 #[.val (.int (2 : Int32))] [])) rfl (hb hby own_d1_22)
  obtain ⟨fs, hr, hrun, hended, hW, hsame⟩ := X1.leave (v := some (.ref s2)) (fun h => by rw [Bd.returns] at h; cases h)
  refine ⟨_, _, pre0 _ ?_, hrun, hended, _, _, rfl, ?_, ⟨_, rfl⟩, hW, hsame.mono (by decide) (by decide)⟩
  · show Steps _ _ _ (s₁.setTop (mkF m 0 #[.val (.int (2 : Int32))] [])) _
    refine XS.iloadN X0.here hx rfl (hb hby own_d1_0) rfl ?_
    refine XS.ifYes X0.here hx rfl (pc0 := 1) (pc' := 8) rfl (hb hby own_d1_1) rfl ((if0 _ _).trans (feq (by decide : ¬ ((2 : Int32) = (0 : Int32)))).2) (by decide) (by decide) ?_
    refine XS.iloadN X0.here hx rfl (hb hby own_d1_8) rfl ?_
    refine XS.iconst X0.here hx rfl (hb hby own_d1_9) ?_
    show Steps _ _ _ (s₁.setTop (mkF m 10 #[.val (.int (2 : Int32))] [(.int (1 : Int32)), (.int (2 : Int32))])) _
    refine XS.icmpYes X0.here hx rfl (pc0 := 10) (pc' := 17) rfl (hb hby own_d1_10) rfl (feq (by decide : ¬ ((2 : Int32) = (1 : Int32)))).2 (by decide) (by decide) ?_
    refine XS.iloadN X0.here hx rfl (hb hby own_d1_17) rfl ?_
    refine XS.iconst X0.here hx rfl (hb hby own_d1_18) ?_
    refine XS.icmpNo X0.here hx rfl (hb hby own_d1_19) rfl (teq (by decide : (2 : Int32) = (2 : Int32))).2 ?_
    show Steps _ _ _ (s₁.setTop (mkF m 22 #[.val (.int (2 : Int32))] [])) _
    refine st1 _ ?_
    show Steps _ _ _ (T1.setTop (mkF m 25 #[.val (.int (2 : Int32))] [(.ref s2)])) _
    jvm_step X1.here [X1.here.top, hx, (hb hby own_d1_25), X1.method', Bd.returns, Value.isRef, FieldType.isReference]
    first | (intro acts; rw [hr _ acts rfl rfl rfl]) | rw [hr _ _ rfl rfl rfl]
    exact Steps.refl _
  · show Qown_pick2 Z s0 s1 s2 s3 s4 s5 h0 n0 _ T1.heap _
    rw [e1]
    exact ⟨rfl, N0, rfl⟩
def Qown_orders2 (Z : State) (s0 s1 s2 s3 s4 s5 : Addr) (h0 : Heap) (n0 : Nat) (v : Option Value) (h : Heap) (L : List Loc) : Prop := v = some (.int (1 : Int32)) ∧ Fr n0 L ∧ h = h0
set_option maxRecDepth 65536 in
set_option maxHeartbeats 40000000 in
theorem own_orders2 (l : Launch) (Z : State) (a0 : Array Value) (hw : ∀ d ∈ tables_1, d.before a0 Z = true) (ws : List Jvm.Cond) (s0 s1 s2 s3 s4 s5 : Addr) (h0 : Heap) (n0 : Nat) (Z0 : n0 ≤ h0.size) (S0 : Sta Z h0 "com/example/dirwarden/dirwarden/aci/Comparison" "NOT_EQUAL" "Lcom/example/dirwarden/dirwarden/aci/Comparison;" (.ref s0)) (F0 : Fld Z h0 s0 "java/lang/Enum" "ordinal" "I" (.int (0 : Int32))) (E0 : Exa Z h0 s0 "com/example/dirwarden/dirwarden/aci/Comparison") (S1 : Sta Z h0 "com/example/dirwarden/dirwarden/aci/Comparison" "AT_MOST" "Lcom/example/dirwarden/dirwarden/aci/Comparison;" (.ref s1)) (F1 : Fld Z h0 s1 "java/lang/Enum" "ordinal" "I" (.int (1 : Int32))) (E1 : Exa Z h0 s1 "com/example/dirwarden/dirwarden/aci/Comparison") (S2 : Sta Z h0 "com/example/dirwarden/dirwarden/aci/Comparison" "AT_LEAST" "Lcom/example/dirwarden/dirwarden/aci/Comparison;" (.ref s2)) (F2 : Fld Z h0 s2 "java/lang/Enum" "ordinal" "I" (.int (2 : Int32))) (E2 : Exa Z h0 s2 "com/example/dirwarden/dirwarden/aci/Comparison") (S3 : Sta Z h0 "com/example/dirwarden/dirwarden/aci/Comparison" "EQUAL" "Lcom/example/dirwarden/dirwarden/aci/Comparison;" (.ref s3)) (F3 : Fld Z h0 s3 "java/lang/Enum" "ordinal" "I" (.int (3 : Int32))) (E3 : Exa Z h0 s3 "com/example/dirwarden/dirwarden/aci/Comparison") (S4 : Sta Z h0 "com/example/dirwarden/dirwarden/aci/Comparison" "LESS" "Lcom/example/dirwarden/dirwarden/aci/Comparison;" (.ref s4)) (F4 : Fld Z h0 s4 "java/lang/Enum" "ordinal" "I" (.int (4 : Int32))) (E4 : Exa Z h0 s4 "com/example/dirwarden/dirwarden/aci/Comparison") (S5 : Sta Z h0 "com/example/dirwarden/dirwarden/aci/Comparison" "GREATER" "Lcom/example/dirwarden/dirwarden/aci/Comparison;" (.ref s5)) (F5 : Fld Z h0 s5 "java/lang/Enum" "ordinal" "I" (.int (5 : Int32))) (E5 : Exa Z h0 s5 "com/example/dirwarden/dirwarden/aci/Comparison") :
    MetFree l own_m2 (head1 (Jvm.Cond.code own_m2 prog_2_method_5_code 1 (some .boolean) :: ws) ({ frames := 0, cells := 0, slots := 0, locals := 0 } : Room)) (fun a U => a = #[(.ref s2)] ∧ Z.Warmed39 U.vm ∧ U.heap = h0) (fun _ _ _ _ _ => True) (fun _ U o U' => ∃ v L, o = .returned v ∧ Qown_orders2 Z s0 s1 s2 s3 s4 s5 h0 n0 v U'.heap L ∧ FrameEnd U o U' L ({ frames := 0, cells := 0, slots := 0, locals := 0 } : Room).cells ({ frames := 0, cells := 0, slots := 0, locals := 0 } : Room).slots) := by
  refine MetFree.of_bodySF (plainFor_of_name own_pn2) hisR ?_
  intro p e s m args below meth c s₁ Bd hml0 hP hK
  obtain ⟨rfl, hZ, hh⟩ := hP
  have hx := Bd.exec
  have hby := Bd.bytes
  have hml : c.maxLocals = 1 := hml0
  have hown : s.vm.findClass "com/example/dirwarden/dirwarden/aci/Comparison" = some m.cls := findClass_of_methodNamed Bd.named
  have hnm := (name_of_methodNamed Bd.named Bd.method).1
  have X0 : Stand p l e ({ frames := 0, cells := 0, slots := 0, locals := 0 } : Room) s m #[(.ref s2)] below meth c s₁ [] 0 0 := Stand.of_body Bd
  have e0 : s₁.heap = h0 := by rw [← hh, Bd.state]; rfl
  have N0 := Fr.nil n0
  have pre0 : ∀ t, Steps p.tables e below (s₁.setTop (mkF m 0 #[.val (.ref s2)] [])) t → Steps p.tables e below (s₁.setTop (entryFrame m #[(.ref s2)] 1)) t := fun t k => castTop (by first | (simp [entryFrame, mkF, argsToLocals, Value.category, maxLocals]; done) | rfl) k
  obtain ⟨T1, X1, e1, st1⟩ := getS2 X0 hx hZ hown (host := "") (Or.inl (own_w13 hw)) Via.refl e0 S3 (g := (mkF m 1 #[.val (.ref s2)] [(.ref s2)])) rfl (hb hby own_d2_1)
  obtain ⟨T2, X2, e2, st2⟩ := getS2 X1 hx hZ hown (host := "") (Or.inl (own_w15 hw)) Via.refl e1 S0 (g := (mkF m 8 #[.val (.ref s2)] [(.ref s2)])) rfl (hb hby own_d2_8)
  obtain ⟨fs, hr, hrun, hended, hW, hsame⟩ := X2.leave (v := some (.int (1 : Int32))) (fun h => by rw [Bd.returns] at h; cases h)
  refine ⟨_, _, pre0 _ ?_, hrun, hended, _, _, rfl, ?_, ⟨_, rfl⟩, hW, hsame.mono (by decide) (by decide)⟩
  · show Steps _ _ _ (s₁.setTop (mkF m 0 #[.val (.ref s2)] [])) _
    refine XS.aloadN X0.here hx rfl (hb hby own_d2_0) rfl rfl ?_
    refine st1 _ ?_
    refine Jvm.RoadKit.acmp (g := (mkF m 4 #[.val (.ref s2)] [(.ref s3), (.ref s2)])) X1 hx rfl rfl rfl (pc0 := 4) (pc' := 7) (same := false) rfl (hb hby own_d2_4) rfl (decide_eq_false fun q => Fld.ne F2 F3 (by decide) (Value.ref.inj q)) (by decide) (by decide) ?_
    refine XS.aloadN X1.here hx rfl (hb hby own_d2_7) rfl rfl ?_
    show Steps _ _ _ (T1.setTop (mkF m 8 #[.val (.ref s2)] [(.ref s2)])) _
    refine st2 _ ?_
    refine Jvm.RoadKit.acmp (g := (mkF m 11 #[.val (.ref s2)] [(.ref s0), (.ref s2)])) X2 hx rfl rfl rfl (pc0 := 11) (pc' := 14) (same := false) rfl (hb hby own_d2_11) rfl (decide_eq_false fun q => Fld.ne F2 F0 (by decide) (Value.ref.inj q)) (by decide) (by decide) ?_
    refine XS.iconst X2.here hx rfl (hb hby own_d2_14) ?_
    refine XS.goto X2.here hx rfl (pc0 := 15) (pc' := 19) rfl (hb hby own_d2_15) (by decide) (by decide) ?_
    show Steps _ _ _ (T2.setTop (mkF m 19 #[.val (.ref s2)] [(.int (1 : Int32))])) _
    exact retN X2 hx (t := .boolean) Bd.returns (by simp) (hb hby own_d2_19) hr
  · show Qown_orders2 Z s0 s1 s2 s3 s4 s5 h0 n0 _ T2.heap _
    rw [e2]
    exact ⟨rfl, N0, rfl⟩
def Qown_expected2 (Z : State)  (h0 : Heap) (n0 : Nat) (v : Option Value) (h : Heap) (L : List Loc) : Prop := v = some (.int (1 : Int32)) ∧ Fr n0 L ∧ h = h0
set_option maxRecDepth 65536 in
set_option maxHeartbeats 40000000 in
theorem own_expected2 (l : Launch) (Z : State) (a0 : Array Value) (hw : ∀ d ∈ tables_1, d.before a0 Z = true) (ws : List Jvm.Cond)  (h0 : Heap) (n0 : Nat) (Z0 : n0 ≤ h0.size)  :
    MetFree l own_m3 (head1 (Jvm.Cond.code own_m3 method_3_code 1 (some .boolean) :: ws) ({ frames := 0, cells := 0, slots := 0, locals := 0 } : Room)) (fun a U => a = #[(.int (2 : Int32))] ∧ Z.Warmed39 U.vm ∧ U.heap = h0) (fun _ _ _ _ _ => True) (fun _ U o U' => ∃ v L, o = .returned v ∧ Qown_expected2 Z  h0 n0 v U'.heap L ∧ FrameEnd U o U' L ({ frames := 0, cells := 0, slots := 0, locals := 0 } : Room).cells ({ frames := 0, cells := 0, slots := 0, locals := 0 } : Room).slots) := by
  refine MetFree.of_bodySF (plainFor_of_name own_pn1) hisR ?_
  intro p e s m args below meth c s₁ Bd hml0 hP hK
  obtain ⟨rfl, hZ, hh⟩ := hP
  have hx := Bd.exec
  have hby := Bd.bytes
  have hml : c.maxLocals = 1 := hml0
  have hown : s.vm.findClass "com/example/dirwarden/dirwarden/aci/ComparisonOrdersPinLaw" = some m.cls := findClass_of_methodNamed Bd.named
  have hnm := (name_of_methodNamed Bd.named Bd.method).1
  have X0 : Stand p l e ({ frames := 0, cells := 0, slots := 0, locals := 0 } : Room) s m #[(.int (2 : Int32))] below meth c s₁ [] 0 0 := Stand.of_body Bd
  have e0 : s₁.heap = h0 := by rw [← hh, Bd.state]; rfl
  have N0 := Fr.nil n0
  have pre0 : ∀ t, Steps p.tables e below (s₁.setTop (mkF m 0 #[.val (.int (2 : Int32))] [])) t → Steps p.tables e below (s₁.setTop (entryFrame m #[(.int (2 : Int32))] 1)) t := fun t k => castTop (by first | (simp [entryFrame, mkF, argsToLocals, Value.category, maxLocals]; done) | rfl) k
  obtain ⟨fs, hr, hrun, hended, hW, hsame⟩ := X0.leave (v := some (.int (1 : Int32))) (fun h => by rw [Bd.returns] at h; cases h)
  refine ⟨_, _, pre0 _ ?_, hrun, hended, _, _, rfl, ?_, ⟨_, rfl⟩, hW, hsame.mono (by decide) (by decide)⟩
  · show Steps _ _ _ (s₁.setTop (mkF m 0 #[.val (.int (2 : Int32))] [])) _
    refine XS.iloadN X0.here hx rfl (hb hby own_d3_0) rfl ?_
    refine XS.ifYes X0.here hx rfl (pc0 := 1) (pc' := 6) rfl (hb hby own_d3_1) rfl ((if0 _ _).trans (feq (by decide : ¬ ((2 : Int32) = (0 : Int32)))).2) (by decide) (by decide) ?_
    refine XS.iloadN X0.here hx rfl (hb hby own_d3_6) rfl ?_
    refine XS.iconst X0.here hx rfl (hb hby own_d3_7) ?_
    show Steps _ _ _ (s₁.setTop (mkF m 8 #[.val (.int (2 : Int32))] [(.int (3 : Int32)), (.int (2 : Int32))])) _
    refine XS.icmpYes X0.here hx rfl (pc0 := 8) (pc' := 13) rfl (hb hby own_d3_8) rfl (feq (by decide : ¬ ((2 : Int32) = (3 : Int32)))).2 (by decide) (by decide) ?_
    refine XS.iconst X0.here hx rfl (hb hby own_d3_13) ?_
    show Steps _ _ _ (s₁.setTop (mkF m 14 #[.val (.int (2 : Int32))] [(.int (1 : Int32))])) _
    exact retN X0 hx (t := .boolean) Bd.returns (by simp) (hb hby own_d3_14) hr
  · show Qown_expected2 Z  h0 n0 _ s₁.heap _
    rw [e0]
    exact ⟨rfl, N0, rfl⟩
def Qown_holds2m (Z : State) (s0 s1 s2 s3 s4 s5 : Addr) (h0 : Heap) (n0 : Nat) (v : Option Value) (h : Heap) (L : List Loc) : Prop := v = some (.int (0 : Int32)) ∧ Fr n0 L ∧ h = h0
set_option maxRecDepth 65536 in
set_option maxHeartbeats 40000000 in
theorem own_holds2m (l : Launch) (Z : State) (a0 : Array Value) (hw : ∀ d ∈ tables_1, d.before a0 Z = true) (ws : List Jvm.Cond) (s0 s1 s2 s3 s4 s5 : Addr) (h0 : Heap) (n0 : Nat) (Z0 : n0 ≤ h0.size) (S0 : Sta Z h0 "com/example/dirwarden/dirwarden/aci/Comparison" "NOT_EQUAL" "Lcom/example/dirwarden/dirwarden/aci/Comparison;" (.ref s0)) (F0 : Fld Z h0 s0 "java/lang/Enum" "ordinal" "I" (.int (0 : Int32))) (E0 : Exa Z h0 s0 "com/example/dirwarden/dirwarden/aci/Comparison") (S1 : Sta Z h0 "com/example/dirwarden/dirwarden/aci/Comparison" "AT_MOST" "Lcom/example/dirwarden/dirwarden/aci/Comparison;" (.ref s1)) (F1 : Fld Z h0 s1 "java/lang/Enum" "ordinal" "I" (.int (1 : Int32))) (E1 : Exa Z h0 s1 "com/example/dirwarden/dirwarden/aci/Comparison") (S2 : Sta Z h0 "com/example/dirwarden/dirwarden/aci/Comparison" "AT_LEAST" "Lcom/example/dirwarden/dirwarden/aci/Comparison;" (.ref s2)) (F2 : Fld Z h0 s2 "java/lang/Enum" "ordinal" "I" (.int (2 : Int32))) (E2 : Exa Z h0 s2 "com/example/dirwarden/dirwarden/aci/Comparison") (S3 : Sta Z h0 "com/example/dirwarden/dirwarden/aci/Comparison" "EQUAL" "Lcom/example/dirwarden/dirwarden/aci/Comparison;" (.ref s3)) (F3 : Fld Z h0 s3 "java/lang/Enum" "ordinal" "I" (.int (3 : Int32))) (E3 : Exa Z h0 s3 "com/example/dirwarden/dirwarden/aci/Comparison") (S4 : Sta Z h0 "com/example/dirwarden/dirwarden/aci/Comparison" "LESS" "Lcom/example/dirwarden/dirwarden/aci/Comparison;" (.ref s4)) (F4 : Fld Z h0 s4 "java/lang/Enum" "ordinal" "I" (.int (4 : Int32))) (E4 : Exa Z h0 s4 "com/example/dirwarden/dirwarden/aci/Comparison") (S5 : Sta Z h0 "com/example/dirwarden/dirwarden/aci/Comparison" "GREATER" "Lcom/example/dirwarden/dirwarden/aci/Comparison;" (.ref s5)) (F5 : Fld Z h0 s5 "java/lang/Enum" "ordinal" "I" (.int (5 : Int32))) (E5 : Exa Z h0 s5 "com/example/dirwarden/dirwarden/aci/Comparison") :
    MetFree l own_m4 (head1 (Jvm.Cond.code own_m4 prog_2_method_6_code 2 (some .boolean) :: ws) ({ frames := 1, cells := 0, slots := 0, locals := 12 } : Room)) (fun a U => a = #[(.ref s2), (.int (-1 : Int32))] ∧ Z.Warmed39 U.vm ∧ U.heap = h0) (fun _ _ _ _ _ => True) (fun _ U o U' => ∃ v L, o = .returned v ∧ Qown_holds2m Z s0 s1 s2 s3 s4 s5 h0 n0 v U'.heap L ∧ FrameEnd U o U' L ({ frames := 1, cells := 0, slots := 0, locals := 12 } : Room).cells ({ frames := 1, cells := 0, slots := 0, locals := 12 } : Room).slots) := by
  refine MetFree.of_bodySF (plainFor_of_name own_pn2) hisR ?_
  intro p e s m args below meth c s₁ Bd hml0 hP hK
  obtain ⟨rfl, hZ, hh⟩ := hP
  have hx := Bd.exec
  have hby := Bd.bytes
  have hml : c.maxLocals = 2 := hml0
  have hown : s.vm.findClass "com/example/dirwarden/dirwarden/aci/Comparison" = some m.cls := findClass_of_methodNamed Bd.named
  have hnm := (name_of_methodNamed Bd.named Bd.method).1
  have X0 : Stand p l e ({ frames := 1, cells := 0, slots := 0, locals := 12 } : Room) s m #[(.ref s2), (.int (-1 : Int32))] below meth c s₁ [] 0 0 := Stand.of_body Bd
  have e0 : s₁.heap = h0 := by rw [← hh, Bd.state]; rfl
  have N0 := Fr.nil n0
  have pre0 : ∀ t, Steps p.tables e below (s₁.setTop (mkF m 0 #[.val (.ref s2), .val (.int (-1 : Int32))] [])) t → Steps p.tables e below (s₁.setTop (entryFrame m #[(.ref s2), (.int (-1 : Int32))] 2)) t := fun t k => castTop (by first | (simp [entryFrame, mkF, argsToLocals, Value.category, maxLocals]; done) | rfl) k
  obtain ⟨cq1, kq1, q1a, q1b, q1c⟩ := isOf hZ e0 E2
  obtain ⟨_, _, ⟨T1, L1, k1, n1⟩, -, X1, ⟨Lc1, hQ1, l1, y1, z1⟩, st1⟩ := X0.virtualBackUp hx (x := own_m5) (y := own_m0) (owner := "java/lang/Enum") hown (mvT hZ (own_w24 hw)) (mvT hZ (own_w25 hw)) (mvT hZ (own_w26 hw)) (by decide) (mvT hZ (own_w28 hw)) (mvT hZ (own_w27 hw)) (backOf (W := 0) (own_ordinal l Z a0 hw [] s2 (2 : Int32) h0 n0 Z0 F2) hZ (own_w30 hw) (own_w29 hw) (by decide) (by decide)) q1a q1c (g := (mkF m 1 #[.val (.ref s2), .val (.int (-1 : Int32))] [(.ref s2)])) rfl (by rw [hml]; rfl) (Steps.refl _) (argsL := []) (rest := []) (lenOf own_pd0 rfl) rfl (by show 2 * 0 + _ ≤ _; exact Nat.le_of_eq rfl) (hb hby own_d4_1) (fun _ _ => ⟨rfl, e0, (by decide : 0 + 0 ≤ _), (by decide : 0 + 0 ≤ _)⟩)
  dsimp only [Pt.U, Pt.locs, Pt.cells, Pt.slots] at X1 l1 y1 z1 st1 hQ1
  subst l1 y1 z1
  obtain ⟨rfl, N1q, e1⟩ := hQ1
  have N1 := Fr.app N0 N1q
  obtain ⟨fs, hr, hrun, hended, hW, hsame⟩ := X1.leave (v := some (.int (0 : Int32))) (fun h => by rw [Bd.returns] at h; cases h)
  refine ⟨_, _, pre0 _ ?_, hrun, hended, _, _, rfl, ?_, ⟨_, rfl⟩, hW, hsame.mono (by decide) (by decide)⟩
  · show Steps _ _ _ (s₁.setTop (mkF m 0 #[.val (.ref s2), .val (.int (-1 : Int32))] [])) _
    refine XS.aloadN X0.here hx rfl (hb hby own_d4_0) rfl rfl ?_
    refine st1.trans ?_
    refine XS.tswIn X1.here hx rfl (pc0 := 4) (pc' := 114) rfl (hb hby own_d4_4) (i := (2 : Int32)) rfl (by decide) (o := 110) (by decide) (by decide) (by decide) ?_
    refine XS.iloadN X1.here hx rfl (hb hby own_d4_114) rfl ?_
    show Steps _ _ _ (T1.setTop (mkF m 115 #[.val (.ref s2), .val (.int (-1 : Int32))] [(.int (-1 : Int32))])) _
    refine XS.ifYes X1.here hx rfl (pc0 := 115) (pc' := 122) rfl (hb hby own_d4_115) rfl ((if0 _ _).trans (tlt (by decide : (-1 : Int32) < (0 : Int32))).1) (by decide) (by decide) ?_
    refine XS.iconst X1.here hx rfl (hb hby own_d4_122) ?_
    show Steps _ _ _ (T1.setTop (mkF m 123 #[.val (.ref s2), .val (.int (-1 : Int32))] [(.int (0 : Int32))])) _
    exact retN X1 hx (t := .boolean) Bd.returns (by simp) (hb hby own_d4_123) hr
  · show Qown_holds2m Z s0 s1 s2 s3 s4 s5 h0 n0 _ T1.heap _
    rw [e1]
    exact ⟨rfl, N1, rfl⟩
def Qown_holds2p (Z : State) (s0 s1 s2 s3 s4 s5 : Addr) (h0 : Heap) (n0 : Nat) (v : Option Value) (h : Heap) (L : List Loc) : Prop := v = some (.int (1 : Int32)) ∧ Fr n0 L ∧ h = h0
set_option maxRecDepth 65536 in
set_option maxHeartbeats 40000000 in
theorem own_holds2p (l : Launch) (Z : State) (a0 : Array Value) (hw : ∀ d ∈ tables_1, d.before a0 Z = true) (ws : List Jvm.Cond) (s0 s1 s2 s3 s4 s5 : Addr) (h0 : Heap) (n0 : Nat) (Z0 : n0 ≤ h0.size) (S0 : Sta Z h0 "com/example/dirwarden/dirwarden/aci/Comparison" "NOT_EQUAL" "Lcom/example/dirwarden/dirwarden/aci/Comparison;" (.ref s0)) (F0 : Fld Z h0 s0 "java/lang/Enum" "ordinal" "I" (.int (0 : Int32))) (E0 : Exa Z h0 s0 "com/example/dirwarden/dirwarden/aci/Comparison") (S1 : Sta Z h0 "com/example/dirwarden/dirwarden/aci/Comparison" "AT_MOST" "Lcom/example/dirwarden/dirwarden/aci/Comparison;" (.ref s1)) (F1 : Fld Z h0 s1 "java/lang/Enum" "ordinal" "I" (.int (1 : Int32))) (E1 : Exa Z h0 s1 "com/example/dirwarden/dirwarden/aci/Comparison") (S2 : Sta Z h0 "com/example/dirwarden/dirwarden/aci/Comparison" "AT_LEAST" "Lcom/example/dirwarden/dirwarden/aci/Comparison;" (.ref s2)) (F2 : Fld Z h0 s2 "java/lang/Enum" "ordinal" "I" (.int (2 : Int32))) (E2 : Exa Z h0 s2 "com/example/dirwarden/dirwarden/aci/Comparison") (S3 : Sta Z h0 "com/example/dirwarden/dirwarden/aci/Comparison" "EQUAL" "Lcom/example/dirwarden/dirwarden/aci/Comparison;" (.ref s3)) (F3 : Fld Z h0 s3 "java/lang/Enum" "ordinal" "I" (.int (3 : Int32))) (E3 : Exa Z h0 s3 "com/example/dirwarden/dirwarden/aci/Comparison") (S4 : Sta Z h0 "com/example/dirwarden/dirwarden/aci/Comparison" "LESS" "Lcom/example/dirwarden/dirwarden/aci/Comparison;" (.ref s4)) (F4 : Fld Z h0 s4 "java/lang/Enum" "ordinal" "I" (.int (4 : Int32))) (E4 : Exa Z h0 s4 "com/example/dirwarden/dirwarden/aci/Comparison") (S5 : Sta Z h0 "com/example/dirwarden/dirwarden/aci/Comparison" "GREATER" "Lcom/example/dirwarden/dirwarden/aci/Comparison;" (.ref s5)) (F5 : Fld Z h0 s5 "java/lang/Enum" "ordinal" "I" (.int (5 : Int32))) (E5 : Exa Z h0 s5 "com/example/dirwarden/dirwarden/aci/Comparison") :
    MetFree l own_m4 (head1 (Jvm.Cond.code own_m4 prog_2_method_6_code 2 (some .boolean) :: ws) ({ frames := 1, cells := 0, slots := 0, locals := 12 } : Room)) (fun a U => a = #[(.ref s2), (.int (1 : Int32))] ∧ Z.Warmed39 U.vm ∧ U.heap = h0) (fun _ _ _ _ _ => True) (fun _ U o U' => ∃ v L, o = .returned v ∧ Qown_holds2p Z s0 s1 s2 s3 s4 s5 h0 n0 v U'.heap L ∧ FrameEnd U o U' L ({ frames := 1, cells := 0, slots := 0, locals := 12 } : Room).cells ({ frames := 1, cells := 0, slots := 0, locals := 12 } : Room).slots) := by
  refine MetFree.of_bodySF (plainFor_of_name own_pn2) hisR ?_
  intro p e s m args below meth c s₁ Bd hml0 hP hK
  obtain ⟨rfl, hZ, hh⟩ := hP
  have hx := Bd.exec
  have hby := Bd.bytes
  have hml : c.maxLocals = 2 := hml0
  have hown : s.vm.findClass "com/example/dirwarden/dirwarden/aci/Comparison" = some m.cls := findClass_of_methodNamed Bd.named
  have hnm := (name_of_methodNamed Bd.named Bd.method).1
  have X0 : Stand p l e ({ frames := 1, cells := 0, slots := 0, locals := 12 } : Room) s m #[(.ref s2), (.int (1 : Int32))] below meth c s₁ [] 0 0 := Stand.of_body Bd
  have e0 : s₁.heap = h0 := by rw [← hh, Bd.state]; rfl
  have N0 := Fr.nil n0
  have pre0 : ∀ t, Steps p.tables e below (s₁.setTop (mkF m 0 #[.val (.ref s2), .val (.int (1 : Int32))] [])) t → Steps p.tables e below (s₁.setTop (entryFrame m #[(.ref s2), (.int (1 : Int32))] 2)) t := fun t k => castTop (by first | (simp [entryFrame, mkF, argsToLocals, Value.category, maxLocals]; done) | rfl) k
  obtain ⟨cq1, kq1, q1a, q1b, q1c⟩ := isOf hZ e0 E2
  obtain ⟨_, _, ⟨T1, L1, k1, n1⟩, -, X1, ⟨Lc1, hQ1, l1, y1, z1⟩, st1⟩ := X0.virtualBackUp hx (x := own_m5) (y := own_m0) (owner := "java/lang/Enum") hown (mvT hZ (own_w24 hw)) (mvT hZ (own_w25 hw)) (mvT hZ (own_w26 hw)) (by decide) (mvT hZ (own_w28 hw)) (mvT hZ (own_w27 hw)) (backOf (W := 0) (own_ordinal l Z a0 hw [] s2 (2 : Int32) h0 n0 Z0 F2) hZ (own_w30 hw) (own_w29 hw) (by decide) (by decide)) q1a q1c (g := (mkF m 1 #[.val (.ref s2), .val (.int (1 : Int32))] [(.ref s2)])) rfl (by rw [hml]; rfl) (Steps.refl _) (argsL := []) (rest := []) (lenOf own_pd0 rfl) rfl (by show 2 * 0 + _ ≤ _; exact Nat.le_of_eq rfl) (hb hby own_d4_1) (fun _ _ => ⟨rfl, e0, (by decide : 0 + 0 ≤ _), (by decide : 0 + 0 ≤ _)⟩)
  dsimp only [Pt.U, Pt.locs, Pt.cells, Pt.slots] at X1 l1 y1 z1 st1 hQ1
  subst l1 y1 z1
  obtain ⟨rfl, N1q, e1⟩ := hQ1
  have N1 := Fr.app N0 N1q
  obtain ⟨fs, hr, hrun, hended, hW, hsame⟩ := X1.leave (v := some (.int (1 : Int32))) (fun h => by rw [Bd.returns] at h; cases h)
  refine ⟨_, _, pre0 _ ?_, hrun, hended, _, _, rfl, ?_, ⟨_, rfl⟩, hW, hsame.mono (by decide) (by decide)⟩
  · show Steps _ _ _ (s₁.setTop (mkF m 0 #[.val (.ref s2), .val (.int (1 : Int32))] [])) _
    refine XS.aloadN X0.here hx rfl (hb hby own_d4_0) rfl rfl ?_
    refine st1.trans ?_
    refine XS.tswIn X1.here hx rfl (pc0 := 4) (pc' := 114) rfl (hb hby own_d4_4) (i := (2 : Int32)) rfl (by decide) (o := 110) (by decide) (by decide) (by decide) ?_
    refine XS.iloadN X1.here hx rfl (hb hby own_d4_114) rfl ?_
    show Steps _ _ _ (T1.setTop (mkF m 115 #[.val (.ref s2), .val (.int (1 : Int32))] [(.int (1 : Int32))])) _
    refine XS.ifNo X1.here hx rfl (hb hby own_d4_115) rfl ((if0 _ _).trans (flt (by decide : ¬ ((1 : Int32) < (0 : Int32)))).1) ?_
    refine XS.iconst X1.here hx rfl (hb hby own_d4_118) ?_
    refine XS.goto X1.here hx rfl (pc0 := 119) (pc' := 123) rfl (hb hby own_d4_119) (by decide) (by decide) ?_
    show Steps _ _ _ (T1.setTop (mkF m 123 #[.val (.ref s2), .val (.int (1 : Int32))] [(.int (1 : Int32))])) _
    exact retN X1 hx (t := .boolean) Bd.returns (by simp) (hb hby own_d4_123) hr
  · show Qown_holds2p Z s0 s1 s2 s3 s4 s5 h0 n0 _ T1.heap _
    rw [e1]
    exact ⟨rfl, N1, rfl⟩
def Qown_pick3 (Z : State) (s0 s1 s2 s3 s4 s5 : Addr) (h0 : Heap) (n0 : Nat) (v : Option Value) (h : Heap) (L : List Loc) : Prop := v = some (.ref s3) ∧ Fr n0 L ∧ h = h0
set_option maxRecDepth 65536 in
set_option maxHeartbeats 40000000 in
theorem own_pick3 (l : Launch) (Z : State) (a0 : Array Value) (hw : ∀ d ∈ tables_1, d.before a0 Z = true) (ws : List Jvm.Cond) (s0 s1 s2 s3 s4 s5 : Addr) (h0 : Heap) (n0 : Nat) (Z0 : n0 ≤ h0.size) (S0 : Sta Z h0 "com/example/dirwarden/dirwarden/aci/Comparison" "NOT_EQUAL" "Lcom/example/dirwarden/dirwarden/aci/Comparison;" (.ref s0)) (F0 : Fld Z h0 s0 "java/lang/Enum" "ordinal" "I" (.int (0 : Int32))) (E0 : Exa Z h0 s0 "com/example/dirwarden/dirwarden/aci/Comparison") (S1 : Sta Z h0 "com/example/dirwarden/dirwarden/aci/Comparison" "AT_MOST" "Lcom/example/dirwarden/dirwarden/aci/Comparison;" (.ref s1)) (F1 : Fld Z h0 s1 "java/lang/Enum" "ordinal" "I" (.int (1 : Int32))) (E1 : Exa Z h0 s1 "com/example/dirwarden/dirwarden/aci/Comparison") (S2 : Sta Z h0 "com/example/dirwarden/dirwarden/aci/Comparison" "AT_LEAST" "Lcom/example/dirwarden/dirwarden/aci/Comparison;" (.ref s2)) (F2 : Fld Z h0 s2 "java/lang/Enum" "ordinal" "I" (.int (2 : Int32))) (E2 : Exa Z h0 s2 "com/example/dirwarden/dirwarden/aci/Comparison") (S3 : Sta Z h0 "com/example/dirwarden/dirwarden/aci/Comparison" "EQUAL" "Lcom/example/dirwarden/dirwarden/aci/Comparison;" (.ref s3)) (F3 : Fld Z h0 s3 "java/lang/Enum" "ordinal" "I" (.int (3 : Int32))) (E3 : Exa Z h0 s3 "com/example/dirwarden/dirwarden/aci/Comparison") (S4 : Sta Z h0 "com/example/dirwarden/dirwarden/aci/Comparison" "LESS" "Lcom/example/dirwarden/dirwarden/aci/Comparison;" (.ref s4)) (F4 : Fld Z h0 s4 "java/lang/Enum" "ordinal" "I" (.int (4 : Int32))) (E4 : Exa Z h0 s4 "com/example/dirwarden/dirwarden/aci/Comparison") (S5 : Sta Z h0 "com/example/dirwarden/dirwarden/aci/Comparison" "GREATER" "Lcom/example/dirwarden/dirwarden/aci/Comparison;" (.ref s5)) (F5 : Fld Z h0 s5 "java/lang/Enum" "ordinal" "I" (.int (5 : Int32))) (E5 : Exa Z h0 s5 "com/example/dirwarden/dirwarden/aci/Comparison") :
    MetFree l own_m1 (head1 (Jvm.Cond.code own_m1 method_2_code 1 (some (.object "com/example/dirwarden/dirwarden/aci/Comparison")) :: ws) ({ frames := 0, cells := 0, slots := 0, locals := 0 } : Room)) (fun a U => a = #[(.int (3 : Int32))] ∧ Z.Warmed39 U.vm ∧ U.heap = h0) (fun _ _ _ _ _ => True) (fun _ U o U' => ∃ v L, o = .returned v ∧ Qown_pick3 Z s0 s1 s2 s3 s4 s5 h0 n0 v U'.heap L ∧ FrameEnd U o U' L ({ frames := 0, cells := 0, slots := 0, locals := 0 } : Room).cells ({ frames := 0, cells := 0, slots := 0, locals := 0 } : Room).slots) := by
  refine MetFree.of_bodySF (plainFor_of_name own_pn1) hisR ?_
  intro p e s m args below meth c s₁ Bd hml0 hP hK
  obtain ⟨rfl, hZ, hh⟩ := hP
  have hx := Bd.exec
  have hby := Bd.bytes
  have hml : c.maxLocals = 1 := hml0
  have hown : s.vm.findClass "com/example/dirwarden/dirwarden/aci/ComparisonOrdersPinLaw" = some m.cls := findClass_of_methodNamed Bd.named
  have hnm := (name_of_methodNamed Bd.named Bd.method).1
  have X0 : Stand p l e ({ frames := 0, cells := 0, slots := 0, locals := 0 } : Room) s m #[(.int (3 : Int32))] below meth c s₁ [] 0 0 := Stand.of_body Bd
  have e0 : s₁.heap = h0 := by rw [← hh, Bd.state]; rfl
  have N0 := Fr.nil n0
  have pre0 : ∀ t, Steps p.tables e below (s₁.setTop (mkF m 0 #[.val (.int (3 : Int32))] [])) t → Steps p.tables e below (s₁.setTop (entryFrame m #[(.int (3 : Int32))] 1)) t := fun t k => castTop (by first | (simp [entryFrame, mkF, argsToLocals, Value.category, maxLocals]; done) | rfl) k
  obtain ⟨T1, X1, e1, st1⟩ := getS2 X0 hx hZ hown (host := "") (Or.inl (own_w33 hw)) Via.refl e0 S3 (g := (mkF m 31 #[.val (.int (3 : Int32))] [])) rfl (hb hby own_d1_31)
  obtain ⟨fs, hr, hrun, hended, hW, hsame⟩ := X1.leave (v := some (.ref s3)) (fun h => by rw [Bd.returns] at h; cases h)
  refine ⟨_, _, pre0 _ ?_, hrun, hended, _, _, rfl, ?_, ⟨_, rfl⟩, hW, hsame.mono (by decide) (by decide)⟩
  · show Steps _ _ _ (s₁.setTop (mkF m 0 #[.val (.int (3 : Int32))] [])) _
    refine XS.iloadN X0.here hx rfl (hb hby own_d1_0) rfl ?_
    refine XS.ifYes X0.here hx rfl (pc0 := 1) (pc' := 8) rfl (hb hby own_d1_1) rfl ((if0 _ _).trans (feq (by decide : ¬ ((3 : Int32) = (0 : Int32)))).2) (by decide) (by decide) ?_
    refine XS.iloadN X0.here hx rfl (hb hby own_d1_8) rfl ?_
    refine XS.iconst X0.here hx rfl (hb hby own_d1_9) ?_
    show Steps _ _ _ (s₁.setTop (mkF m 10 #[.val (.int (3 : Int32))] [(.int (1 : Int32)), (.int (3 : Int32))])) _
    refine XS.icmpYes X0.here hx rfl (pc0 := 10) (pc' := 17) rfl (hb hby own_d1_10) rfl (feq (by decide : ¬ ((3 : Int32) = (1 : Int32)))).2 (by decide) (by decide) ?_
    refine XS.iloadN X0.here hx rfl (hb hby own_d1_17) rfl ?_
    refine XS.iconst X0.here hx rfl (hb hby own_d1_18) ?_
    refine XS.icmpYes X0.here hx rfl (pc0 := 19) (pc' := 26) rfl (hb hby own_d1_19) rfl (feq (by decide : ¬ ((3 : Int32) = (2 : Int32)))).2 (by decide) (by decide) ?_
    show Steps _ _ _ (s₁.setTop (mkF m 26 #[.val (.int (3 : Int32))] [])) _
    refine XS.iloadN X0.here hx rfl (hb hby own_d1_26) rfl ?_
    refine XS.iconst X0.here hx rfl (hb hby own_d1_27) ?_
    refine XS.icmpNo X0.here hx rfl (hb hby own_d1_28) rfl (teq (by decide : (3 : Int32) = (3 : Int32))).2 ?_
    refine st1 _ ?_
    show Steps _ _ _ (T1.setTop (mkF m 34 #[.val (.int (3 : Int32))] [(.ref s3)])) _
    jvm_step X1.here [X1.here.top, hx, (hb hby own_d1_34), X1.method', Bd.returns, Value.isRef, FieldType.isReference]
    first | (intro acts; rw [hr _ acts rfl rfl rfl]) | rw [hr _ _ rfl rfl rfl]
    exact Steps.refl _
  · show Qown_pick3 Z s0 s1 s2 s3 s4 s5 h0 n0 _ T1.heap _
    rw [e1]
    exact ⟨rfl, N0, rfl⟩
def Qown_orders3 (Z : State) (s0 s1 s2 s3 s4 s5 : Addr) (h0 : Heap) (n0 : Nat) (v : Option Value) (h : Heap) (L : List Loc) : Prop := v = some (.int (0 : Int32)) ∧ Fr n0 L ∧ h = h0
set_option maxRecDepth 65536 in
set_option maxHeartbeats 40000000 in
theorem own_orders3 (l : Launch) (Z : State) (a0 : Array Value) (hw : ∀ d ∈ tables_1, d.before a0 Z = true) (ws : List Jvm.Cond) (s0 s1 s2 s3 s4 s5 : Addr) (h0 : Heap) (n0 : Nat) (Z0 : n0 ≤ h0.size) (S0 : Sta Z h0 "com/example/dirwarden/dirwarden/aci/Comparison" "NOT_EQUAL" "Lcom/example/dirwarden/dirwarden/aci/Comparison;" (.ref s0)) (F0 : Fld Z h0 s0 "java/lang/Enum" "ordinal" "I" (.int (0 : Int32))) (E0 : Exa Z h0 s0 "com/example/dirwarden/dirwarden/aci/Comparison") (S1 : Sta Z h0 "com/example/dirwarden/dirwarden/aci/Comparison" "AT_MOST" "Lcom/example/dirwarden/dirwarden/aci/Comparison;" (.ref s1)) (F1 : Fld Z h0 s1 "java/lang/Enum" "ordinal" "I" (.int (1 : Int32))) (E1 : Exa Z h0 s1 "com/example/dirwarden/dirwarden/aci/Comparison") (S2 : Sta Z h0 "com/example/dirwarden/dirwarden/aci/Comparison" "AT_LEAST" "Lcom/example/dirwarden/dirwarden/aci/Comparison;" (.ref s2)) (F2 : Fld Z h0 s2 "java/lang/Enum" "ordinal" "I" (.int (2 : Int32))) (E2 : Exa Z h0 s2 "com/example/dirwarden/dirwarden/aci/Comparison") (S3 : Sta Z h0 "com/example/dirwarden/dirwarden/aci/Comparison" "EQUAL" "Lcom/example/dirwarden/dirwarden/aci/Comparison;" (.ref s3)) (F3 : Fld Z h0 s3 "java/lang/Enum" "ordinal" "I" (.int (3 : Int32))) (E3 : Exa Z h0 s3 "com/example/dirwarden/dirwarden/aci/Comparison") (S4 : Sta Z h0 "com/example/dirwarden/dirwarden/aci/Comparison" "LESS" "Lcom/example/dirwarden/dirwarden/aci/Comparison;" (.ref s4)) (F4 : Fld Z h0 s4 "java/lang/Enum" "ordinal" "I" (.int (4 : Int32))) (E4 : Exa Z h0 s4 "com/example/dirwarden/dirwarden/aci/Comparison") (S5 : Sta Z h0 "com/example/dirwarden/dirwarden/aci/Comparison" "GREATER" "Lcom/example/dirwarden/dirwarden/aci/Comparison;" (.ref s5)) (F5 : Fld Z h0 s5 "java/lang/Enum" "ordinal" "I" (.int (5 : Int32))) (E5 : Exa Z h0 s5 "com/example/dirwarden/dirwarden/aci/Comparison") :
    MetFree l own_m2 (head1 (Jvm.Cond.code own_m2 prog_2_method_5_code 1 (some .boolean) :: ws) ({ frames := 0, cells := 0, slots := 0, locals := 0 } : Room)) (fun a U => a = #[(.ref s3)] ∧ Z.Warmed39 U.vm ∧ U.heap = h0) (fun _ _ _ _ _ => True) (fun _ U o U' => ∃ v L, o = .returned v ∧ Qown_orders3 Z s0 s1 s2 s3 s4 s5 h0 n0 v U'.heap L ∧ FrameEnd U o U' L ({ frames := 0, cells := 0, slots := 0, locals := 0 } : Room).cells ({ frames := 0, cells := 0, slots := 0, locals := 0 } : Room).slots) := by
  refine MetFree.of_bodySF (plainFor_of_name own_pn2) hisR ?_
  intro p e s m args below meth c s₁ Bd hml0 hP hK
  obtain ⟨rfl, hZ, hh⟩ := hP
  have hx := Bd.exec
  have hby := Bd.bytes
  have hml : c.maxLocals = 1 := hml0
  have hown : s.vm.findClass "com/example/dirwarden/dirwarden/aci/Comparison" = some m.cls := findClass_of_methodNamed Bd.named
  have hnm := (name_of_methodNamed Bd.named Bd.method).1
  have X0 : Stand p l e ({ frames := 0, cells := 0, slots := 0, locals := 0 } : Room) s m #[(.ref s3)] below meth c s₁ [] 0 0 := Stand.of_body Bd
  have e0 : s₁.heap = h0 := by rw [← hh, Bd.state]; rfl
  have N0 := Fr.nil n0
  have pre0 : ∀ t, Steps p.tables e below (s₁.setTop (mkF m 0 #[.val (.ref s3)] [])) t → Steps p.tables e below (s₁.setTop (entryFrame m #[(.ref s3)] 1)) t := fun t k => castTop (by first | (simp [entryFrame, mkF, argsToLocals, Value.category, maxLocals]; done) | rfl) k
  obtain ⟨T1, X1, e1, st1⟩ := getS2 X0 hx hZ hown (host := "") (Or.inl (own_w13 hw)) Via.refl e0 S3 (g := (mkF m 1 #[.val (.ref s3)] [(.ref s3)])) rfl (hb hby own_d2_1)
  obtain ⟨fs, hr, hrun, hended, hW, hsame⟩ := X1.leave (v := some (.int (0 : Int32))) (fun h => by rw [Bd.returns] at h; cases h)
  refine ⟨_, _, pre0 _ ?_, hrun, hended, _, _, rfl, ?_, ⟨_, rfl⟩, hW, hsame.mono (by decide) (by decide)⟩
  · show Steps _ _ _ (s₁.setTop (mkF m 0 #[.val (.ref s3)] [])) _
    refine XS.aloadN X0.here hx rfl (hb hby own_d2_0) rfl rfl ?_
    refine st1 _ ?_
    refine Jvm.RoadKit.acmp (g := (mkF m 4 #[.val (.ref s3)] [(.ref s3), (.ref s3)])) X1 hx rfl rfl rfl (pc0 := 4) (pc' := 18) (same := true) rfl (hb hby own_d2_4) rfl (decide_eq_true rfl) (by decide) (by decide) ?_
    refine XS.iconst X1.here hx rfl (hb hby own_d2_18) ?_
    show Steps _ _ _ (T1.setTop (mkF m 19 #[.val (.ref s3)] [(.int (0 : Int32))])) _
    exact retN X1 hx (t := .boolean) Bd.returns (by simp) (hb hby own_d2_19) hr
  · show Qown_orders3 Z s0 s1 s2 s3 s4 s5 h0 n0 _ T1.heap _
    rw [e1]
    exact ⟨rfl, N0, rfl⟩
def Qown_expected3 (Z : State)  (h0 : Heap) (n0 : Nat) (v : Option Value) (h : Heap) (L : List Loc) : Prop := v = some (.int (0 : Int32)) ∧ Fr n0 L ∧ h = h0
set_option maxRecDepth 65536 in
set_option maxHeartbeats 40000000 in
theorem own_expected3 (l : Launch) (Z : State) (a0 : Array Value) (hw : ∀ d ∈ tables_1, d.before a0 Z = true) (ws : List Jvm.Cond)  (h0 : Heap) (n0 : Nat) (Z0 : n0 ≤ h0.size)  :
    MetFree l own_m3 (head1 (Jvm.Cond.code own_m3 method_3_code 1 (some .boolean) :: ws) ({ frames := 0, cells := 0, slots := 0, locals := 0 } : Room)) (fun a U => a = #[(.int (3 : Int32))] ∧ Z.Warmed39 U.vm ∧ U.heap = h0) (fun _ _ _ _ _ => True) (fun _ U o U' => ∃ v L, o = .returned v ∧ Qown_expected3 Z  h0 n0 v U'.heap L ∧ FrameEnd U o U' L ({ frames := 0, cells := 0, slots := 0, locals := 0 } : Room).cells ({ frames := 0, cells := 0, slots := 0, locals := 0 } : Room).slots) := by
  refine MetFree.of_bodySF (plainFor_of_name own_pn1) hisR ?_
  intro p e s m args below meth c s₁ Bd hml0 hP hK
  obtain ⟨rfl, hZ, hh⟩ := hP
  have hx := Bd.exec
  have hby := Bd.bytes
  have hml : c.maxLocals = 1 := hml0
  have hown : s.vm.findClass "com/example/dirwarden/dirwarden/aci/ComparisonOrdersPinLaw" = some m.cls := findClass_of_methodNamed Bd.named
  have hnm := (name_of_methodNamed Bd.named Bd.method).1
  have X0 : Stand p l e ({ frames := 0, cells := 0, slots := 0, locals := 0 } : Room) s m #[(.int (3 : Int32))] below meth c s₁ [] 0 0 := Stand.of_body Bd
  have e0 : s₁.heap = h0 := by rw [← hh, Bd.state]; rfl
  have N0 := Fr.nil n0
  have pre0 : ∀ t, Steps p.tables e below (s₁.setTop (mkF m 0 #[.val (.int (3 : Int32))] [])) t → Steps p.tables e below (s₁.setTop (entryFrame m #[(.int (3 : Int32))] 1)) t := fun t k => castTop (by first | (simp [entryFrame, mkF, argsToLocals, Value.category, maxLocals]; done) | rfl) k
  obtain ⟨fs, hr, hrun, hended, hW, hsame⟩ := X0.leave (v := some (.int (0 : Int32))) (fun h => by rw [Bd.returns] at h; cases h)
  refine ⟨_, _, pre0 _ ?_, hrun, hended, _, _, rfl, ?_, ⟨_, rfl⟩, hW, hsame.mono (by decide) (by decide)⟩
  · show Steps _ _ _ (s₁.setTop (mkF m 0 #[.val (.int (3 : Int32))] [])) _
    refine XS.iloadN X0.here hx rfl (hb hby own_d3_0) rfl ?_
    refine XS.ifYes X0.here hx rfl (pc0 := 1) (pc' := 6) rfl (hb hby own_d3_1) rfl ((if0 _ _).trans (feq (by decide : ¬ ((3 : Int32) = (0 : Int32)))).2) (by decide) (by decide) ?_
    refine XS.iloadN X0.here hx rfl (hb hby own_d3_6) rfl ?_
    refine XS.iconst X0.here hx rfl (hb hby own_d3_7) ?_
    show Steps _ _ _ (s₁.setTop (mkF m 8 #[.val (.int (3 : Int32))] [(.int (3 : Int32)), (.int (3 : Int32))])) _
    refine XS.icmpNo X0.here hx rfl (hb hby own_d3_8) rfl (teq (by decide : (3 : Int32) = (3 : Int32))).2 ?_
    refine XS.iconst X0.here hx rfl (hb hby own_d3_11) ?_
    show Steps _ _ _ (s₁.setTop (mkF m 12 #[.val (.int (3 : Int32))] [(.int (0 : Int32))])) _
    exact retN X0 hx (t := .boolean) Bd.returns (by simp) (hb hby own_d3_12) hr
  · show Qown_expected3 Z  h0 n0 _ s₁.heap _
    rw [e0]
    exact ⟨rfl, N0, rfl⟩
def Qown_holds3m (Z : State) (s0 s1 s2 s3 s4 s5 : Addr) (h0 : Heap) (n0 : Nat) (v : Option Value) (h : Heap) (L : List Loc) : Prop := v = some (.int (0 : Int32)) ∧ Fr n0 L ∧ h = h0
set_option maxRecDepth 65536 in
set_option maxHeartbeats 40000000 in
theorem own_holds3m (l : Launch) (Z : State) (a0 : Array Value) (hw : ∀ d ∈ tables_1, d.before a0 Z = true) (ws : List Jvm.Cond) (s0 s1 s2 s3 s4 s5 : Addr) (h0 : Heap) (n0 : Nat) (Z0 : n0 ≤ h0.size) (S0 : Sta Z h0 "com/example/dirwarden/dirwarden/aci/Comparison" "NOT_EQUAL" "Lcom/example/dirwarden/dirwarden/aci/Comparison;" (.ref s0)) (F0 : Fld Z h0 s0 "java/lang/Enum" "ordinal" "I" (.int (0 : Int32))) (E0 : Exa Z h0 s0 "com/example/dirwarden/dirwarden/aci/Comparison") (S1 : Sta Z h0 "com/example/dirwarden/dirwarden/aci/Comparison" "AT_MOST" "Lcom/example/dirwarden/dirwarden/aci/Comparison;" (.ref s1)) (F1 : Fld Z h0 s1 "java/lang/Enum" "ordinal" "I" (.int (1 : Int32))) (E1 : Exa Z h0 s1 "com/example/dirwarden/dirwarden/aci/Comparison") (S2 : Sta Z h0 "com/example/dirwarden/dirwarden/aci/Comparison" "AT_LEAST" "Lcom/example/dirwarden/dirwarden/aci/Comparison;" (.ref s2)) (F2 : Fld Z h0 s2 "java/lang/Enum" "ordinal" "I" (.int (2 : Int32))) (E2 : Exa Z h0 s2 "com/example/dirwarden/dirwarden/aci/Comparison") (S3 : Sta Z h0 "com/example/dirwarden/dirwarden/aci/Comparison" "EQUAL" "Lcom/example/dirwarden/dirwarden/aci/Comparison;" (.ref s3)) (F3 : Fld Z h0 s3 "java/lang/Enum" "ordinal" "I" (.int (3 : Int32))) (E3 : Exa Z h0 s3 "com/example/dirwarden/dirwarden/aci/Comparison") (S4 : Sta Z h0 "com/example/dirwarden/dirwarden/aci/Comparison" "LESS" "Lcom/example/dirwarden/dirwarden/aci/Comparison;" (.ref s4)) (F4 : Fld Z h0 s4 "java/lang/Enum" "ordinal" "I" (.int (4 : Int32))) (E4 : Exa Z h0 s4 "com/example/dirwarden/dirwarden/aci/Comparison") (S5 : Sta Z h0 "com/example/dirwarden/dirwarden/aci/Comparison" "GREATER" "Lcom/example/dirwarden/dirwarden/aci/Comparison;" (.ref s5)) (F5 : Fld Z h0 s5 "java/lang/Enum" "ordinal" "I" (.int (5 : Int32))) (E5 : Exa Z h0 s5 "com/example/dirwarden/dirwarden/aci/Comparison") :
    MetFree l own_m4 (head1 (Jvm.Cond.code own_m4 prog_2_method_6_code 2 (some .boolean) :: ws) ({ frames := 1, cells := 0, slots := 0, locals := 12 } : Room)) (fun a U => a = #[(.ref s3), (.int (-1 : Int32))] ∧ Z.Warmed39 U.vm ∧ U.heap = h0) (fun _ _ _ _ _ => True) (fun _ U o U' => ∃ v L, o = .returned v ∧ Qown_holds3m Z s0 s1 s2 s3 s4 s5 h0 n0 v U'.heap L ∧ FrameEnd U o U' L ({ frames := 1, cells := 0, slots := 0, locals := 12 } : Room).cells ({ frames := 1, cells := 0, slots := 0, locals := 12 } : Room).slots) := by
  refine MetFree.of_bodySF (plainFor_of_name own_pn2) hisR ?_
  intro p e s m args below meth c s₁ Bd hml0 hP hK
  obtain ⟨rfl, hZ, hh⟩ := hP
  have hx := Bd.exec
  have hby := Bd.bytes
  have hml : c.maxLocals = 2 := hml0
  have hown : s.vm.findClass "com/example/dirwarden/dirwarden/aci/Comparison" = some m.cls := findClass_of_methodNamed Bd.named
  have hnm := (name_of_methodNamed Bd.named Bd.method).1
  have X0 : Stand p l e ({ frames := 1, cells := 0, slots := 0, locals := 12 } : Room) s m #[(.ref s3), (.int (-1 : Int32))] below meth c s₁ [] 0 0 := Stand.of_body Bd
  have e0 : s₁.heap = h0 := by rw [← hh, Bd.state]; rfl
  have N0 := Fr.nil n0
  have pre0 : ∀ t, Steps p.tables e below (s₁.setTop (mkF m 0 #[.val (.ref s3), .val (.int (-1 : Int32))] [])) t → Steps p.tables e below (s₁.setTop (entryFrame m #[(.ref s3), (.int (-1 : Int32))] 2)) t := fun t k => castTop (by first | (simp [entryFrame, mkF, argsToLocals, Value.category, maxLocals]; done) | rfl) k
  obtain ⟨cq1, kq1, q1a, q1b, q1c⟩ := isOf hZ e0 E3
  obtain ⟨_, _, ⟨T1, L1, k1, n1⟩, -, X1, ⟨Lc1, hQ1, l1, y1, z1⟩, st1⟩ := X0.virtualBackUp hx (x := own_m5) (y := own_m0) (owner := "java/lang/Enum") hown (mvT hZ (own_w24 hw)) (mvT hZ (own_w25 hw)) (mvT hZ (own_w26 hw)) (by decide) (mvT hZ (own_w28 hw)) (mvT hZ (own_w27 hw)) (backOf (W := 0) (own_ordinal l Z a0 hw [] s3 (3 : Int32) h0 n0 Z0 F3) hZ (own_w30 hw) (own_w29 hw) (by decide) (by decide)) q1a q1c (g := (mkF m 1 #[.val (.ref s3), .val (.int (-1 : Int32))] [(.ref s3)])) rfl (by rw [hml]; rfl) (Steps.refl _) (argsL := []) (rest := []) (lenOf own_pd0 rfl) rfl (by show 2 * 0 + _ ≤ _; exact Nat.le_of_eq rfl) (hb hby own_d4_1) (fun _ _ => ⟨rfl, e0, (by decide : 0 + 0 ≤ _), (by decide : 0 + 0 ≤ _)⟩)
  dsimp only [Pt.U, Pt.locs, Pt.cells, Pt.slots] at X1 l1 y1 z1 st1 hQ1
  subst l1 y1 z1
  obtain ⟨rfl, N1q, e1⟩ := hQ1
  have N1 := Fr.app N0 N1q
  obtain ⟨fs, hr, hrun, hended, hW, hsame⟩ := X1.leave (v := some (.int (0 : Int32))) (fun h => by rw [Bd.returns] at h; cases h)
  refine ⟨_, _, pre0 _ ?_, hrun, hended, _, _, rfl, ?_, ⟨_, rfl⟩, hW, hsame.mono (by decide) (by decide)⟩
  · show Steps _ _ _ (s₁.setTop (mkF m 0 #[.val (.ref s3), .val (.int (-1 : Int32))] [])) _
    refine XS.aloadN X0.here hx rfl (hb hby own_d4_0) rfl rfl ?_
    refine st1.trans ?_
    refine XS.tswIn X1.here hx rfl (pc0 := 4) (pc' := 54) rfl (hb hby own_d4_4) (i := (3 : Int32)) rfl (by decide) (o := 50) (by decide) (by decide) (by decide) ?_
    refine XS.iloadN X1.here hx rfl (hb hby own_d4_54) rfl ?_
    show Steps _ _ _ (T1.setTop (mkF m 55 #[.val (.ref s3), .val (.int (-1 : Int32))] [(.int (-1 : Int32))])) _
    refine XS.ifYes X1.here hx rfl (pc0 := 55) (pc' := 62) rfl (hb hby own_d4_55) rfl ((if0 _ _).trans (feq (by decide : ¬ ((-1 : Int32) = (0 : Int32)))).2) (by decide) (by decide) ?_
    refine XS.iconst X1.here hx rfl (hb hby own_d4_62) ?_
    refine XS.goto X1.here hx rfl (pc0 := 63) (pc' := 123) rfl (hb hby own_d4_63) (by decide) (by decide) ?_
    show Steps _ _ _ (T1.setTop (mkF m 123 #[.val (.ref s3), .val (.int (-1 : Int32))] [(.int (0 : Int32))])) _
    exact retN X1 hx (t := .boolean) Bd.returns (by simp) (hb hby own_d4_123) hr
  · show Qown_holds3m Z s0 s1 s2 s3 s4 s5 h0 n0 _ T1.heap _
    rw [e1]
    exact ⟨rfl, N1, rfl⟩
def Qown_holds3p (Z : State) (s0 s1 s2 s3 s4 s5 : Addr) (h0 : Heap) (n0 : Nat) (v : Option Value) (h : Heap) (L : List Loc) : Prop := v = some (.int (0 : Int32)) ∧ Fr n0 L ∧ h = h0
set_option maxRecDepth 65536 in
set_option maxHeartbeats 40000000 in
theorem own_holds3p (l : Launch) (Z : State) (a0 : Array Value) (hw : ∀ d ∈ tables_1, d.before a0 Z = true) (ws : List Jvm.Cond) (s0 s1 s2 s3 s4 s5 : Addr) (h0 : Heap) (n0 : Nat) (Z0 : n0 ≤ h0.size) (S0 : Sta Z h0 "com/example/dirwarden/dirwarden/aci/Comparison" "NOT_EQUAL" "Lcom/example/dirwarden/dirwarden/aci/Comparison;" (.ref s0)) (F0 : Fld Z h0 s0 "java/lang/Enum" "ordinal" "I" (.int (0 : Int32))) (E0 : Exa Z h0 s0 "com/example/dirwarden/dirwarden/aci/Comparison") (S1 : Sta Z h0 "com/example/dirwarden/dirwarden/aci/Comparison" "AT_MOST" "Lcom/example/dirwarden/dirwarden/aci/Comparison;" (.ref s1)) (F1 : Fld Z h0 s1 "java/lang/Enum" "ordinal" "I" (.int (1 : Int32))) (E1 : Exa Z h0 s1 "com/example/dirwarden/dirwarden/aci/Comparison") (S2 : Sta Z h0 "com/example/dirwarden/dirwarden/aci/Comparison" "AT_LEAST" "Lcom/example/dirwarden/dirwarden/aci/Comparison;" (.ref s2)) (F2 : Fld Z h0 s2 "java/lang/Enum" "ordinal" "I" (.int (2 : Int32))) (E2 : Exa Z h0 s2 "com/example/dirwarden/dirwarden/aci/Comparison") (S3 : Sta Z h0 "com/example/dirwarden/dirwarden/aci/Comparison" "EQUAL" "Lcom/example/dirwarden/dirwarden/aci/Comparison;" (.ref s3)) (F3 : Fld Z h0 s3 "java/lang/Enum" "ordinal" "I" (.int (3 : Int32))) (E3 : Exa Z h0 s3 "com/example/dirwarden/dirwarden/aci/Comparison") (S4 : Sta Z h0 "com/example/dirwarden/dirwarden/aci/Comparison" "LESS" "Lcom/example/dirwarden/dirwarden/aci/Comparison;" (.ref s4)) (F4 : Fld Z h0 s4 "java/lang/Enum" "ordinal" "I" (.int (4 : Int32))) (E4 : Exa Z h0 s4 "com/example/dirwarden/dirwarden/aci/Comparison") (S5 : Sta Z h0 "com/example/dirwarden/dirwarden/aci/Comparison" "GREATER" "Lcom/example/dirwarden/dirwarden/aci/Comparison;" (.ref s5)) (F5 : Fld Z h0 s5 "java/lang/Enum" "ordinal" "I" (.int (5 : Int32))) (E5 : Exa Z h0 s5 "com/example/dirwarden/dirwarden/aci/Comparison") :
    MetFree l own_m4 (head1 (Jvm.Cond.code own_m4 prog_2_method_6_code 2 (some .boolean) :: ws) ({ frames := 1, cells := 0, slots := 0, locals := 12 } : Room)) (fun a U => a = #[(.ref s3), (.int (1 : Int32))] ∧ Z.Warmed39 U.vm ∧ U.heap = h0) (fun _ _ _ _ _ => True) (fun _ U o U' => ∃ v L, o = .returned v ∧ Qown_holds3p Z s0 s1 s2 s3 s4 s5 h0 n0 v U'.heap L ∧ FrameEnd U o U' L ({ frames := 1, cells := 0, slots := 0, locals := 12 } : Room).cells ({ frames := 1, cells := 0, slots := 0, locals := 12 } : Room).slots) := by
  refine MetFree.of_bodySF (plainFor_of_name own_pn2) hisR ?_
  intro p e s m args below meth c s₁ Bd hml0 hP hK
  obtain ⟨rfl, hZ, hh⟩ := hP
  have hx := Bd.exec
  have hby := Bd.bytes
  have hml : c.maxLocals = 2 := hml0
  have hown : s.vm.findClass "com/example/dirwarden/dirwarden/aci/Comparison" = some m.cls := findClass_of_methodNamed Bd.named
  have hnm := (name_of_methodNamed Bd.named Bd.method).1
  have X0 : Stand p l e ({ frames := 1, cells := 0, slots := 0, locals := 12 } : Room) s m #[(.ref s3), (.int (1 : Int32))] below meth c s₁ [] 0 0 := Stand.of_body Bd
  have e0 : s₁.heap = h0 := by rw [← hh, Bd.state]; rfl
  have N0 := Fr.nil n0
  have pre0 : ∀ t, Steps p.tables e below (s₁.setTop (mkF m 0 #[.val (.ref s3), .val (.int (1 : Int32))] [])) t → Steps p.tables e below (s₁.setTop (entryFrame m #[(.ref s3), (.int (1 : Int32))] 2)) t := fun t k => castTop (by first | (simp [entryFrame, mkF, argsToLocals, Value.category, maxLocals]; done) | rfl) k
  obtain ⟨cq1, kq1, q1a, q1b, q1c⟩ := isOf hZ e0 E3
  obtain ⟨_, _, ⟨T1, L1, k1, n1⟩, -, X1, ⟨Lc1, hQ1, l1, y1, z1⟩, st1⟩ := X0.virtualBackUp hx (x := own_m5) (y := own_m0) (owner := "java/lang/Enum") hown (mvT hZ (own_w24 hw)) (mvT hZ (own_w25 hw)) (mvT hZ (own_w26 hw)) (by decide) (mvT hZ (own_w28 hw)) (mvT hZ (own_w27 hw)) (backOf (W := 0) (own_ordinal l Z a0 hw [] s3 (3 : Int32) h0 n0 Z0 F3) hZ (own_w30 hw) (own_w29 hw) (by decide) (by decide)) q1a q1c (g := (mkF m 1 #[.val (.ref s3), .val (.int (1 : Int32))] [(.ref s3)])) rfl (by rw [hml]; rfl) (Steps.refl _) (argsL := []) (rest := []) (lenOf own_pd0 rfl) rfl (by show 2 * 0 + _ ≤ _; exact Nat.le_of_eq rfl) (hb hby own_d4_1) (fun _ _ => ⟨rfl, e0, (by decide : 0 + 0 ≤ _), (by decide : 0 + 0 ≤ _)⟩)
  dsimp only [Pt.U, Pt.locs, Pt.cells, Pt.slots] at X1 l1 y1 z1 st1 hQ1
  subst l1 y1 z1
  obtain ⟨rfl, N1q, e1⟩ := hQ1
  have N1 := Fr.app N0 N1q
  obtain ⟨fs, hr, hrun, hended, hW, hsame⟩ := X1.leave (v := some (.int (0 : Int32))) (fun h => by rw [Bd.returns] at h; cases h)
  refine ⟨_, _, pre0 _ ?_, hrun, hended, _, _, rfl, ?_, ⟨_, rfl⟩, hW, hsame.mono (by decide) (by decide)⟩
  · show Steps _ _ _ (s₁.setTop (mkF m 0 #[.val (.ref s3), .val (.int (1 : Int32))] [])) _
    refine XS.aloadN X0.here hx rfl (hb hby own_d4_0) rfl rfl ?_
    refine st1.trans ?_
    refine XS.tswIn X1.here hx rfl (pc0 := 4) (pc' := 54) rfl (hb hby own_d4_4) (i := (3 : Int32)) rfl (by decide) (o := 50) (by decide) (by decide) (by decide) ?_
    refine XS.iloadN X1.here hx rfl (hb hby own_d4_54) rfl ?_
    show Steps _ _ _ (T1.setTop (mkF m 55 #[.val (.ref s3), .val (.int (1 : Int32))] [(.int (1 : Int32))])) _
    refine XS.ifYes X1.here hx rfl (pc0 := 55) (pc' := 62) rfl (hb hby own_d4_55) rfl ((if0 _ _).trans (feq (by decide : ¬ ((1 : Int32) = (0 : Int32)))).2) (by decide) (by decide) ?_
    refine XS.iconst X1.here hx rfl (hb hby own_d4_62) ?_
    refine XS.goto X1.here hx rfl (pc0 := 63) (pc' := 123) rfl (hb hby own_d4_63) (by decide) (by decide) ?_
    show Steps _ _ _ (T1.setTop (mkF m 123 #[.val (.ref s3), .val (.int (1 : Int32))] [(.int (0 : Int32))])) _
    exact retN X1 hx (t := .boolean) Bd.returns (by simp) (hb hby own_d4_123) hr
  · show Qown_holds3p Z s0 s1 s2 s3 s4 s5 h0 n0 _ T1.heap _
    rw [e1]
    exact ⟨rfl, N1, rfl⟩
def Qown_pick4 (Z : State) (s0 s1 s2 s3 s4 s5 : Addr) (h0 : Heap) (n0 : Nat) (v : Option Value) (h : Heap) (L : List Loc) : Prop := v = some (.ref s4) ∧ Fr n0 L ∧ h = h0
set_option maxRecDepth 65536 in
set_option maxHeartbeats 40000000 in
theorem own_pick4 (l : Launch) (Z : State) (a0 : Array Value) (hw : ∀ d ∈ tables_1, d.before a0 Z = true) (ws : List Jvm.Cond) (s0 s1 s2 s3 s4 s5 : Addr) (h0 : Heap) (n0 : Nat) (Z0 : n0 ≤ h0.size) (S0 : Sta Z h0 "com/example/dirwarden/dirwarden/aci/Comparison" "NOT_EQUAL" "Lcom/example/dirwarden/dirwarden/aci/Comparison;" (.ref s0)) (F0 : Fld Z h0 s0 "java/lang/Enum" "ordinal" "I" (.int (0 : Int32))) (E0 : Exa Z h0 s0 "com/example/dirwarden/dirwarden/aci/Comparison") (S1 : Sta Z h0 "com/example/dirwarden/dirwarden/aci/Comparison" "AT_MOST" "Lcom/example/dirwarden/dirwarden/aci/Comparison;" (.ref s1)) (F1 : Fld Z h0 s1 "java/lang/Enum" "ordinal" "I" (.int (1 : Int32))) (E1 : Exa Z h0 s1 "com/example/dirwarden/dirwarden/aci/Comparison") (S2 : Sta Z h0 "com/example/dirwarden/dirwarden/aci/Comparison" "AT_LEAST" "Lcom/example/dirwarden/dirwarden/aci/Comparison;" (.ref s2)) (F2 : Fld Z h0 s2 "java/lang/Enum" "ordinal" "I" (.int (2 : Int32))) (E2 : Exa Z h0 s2 "com/example/dirwarden/dirwarden/aci/Comparison") (S3 : Sta Z h0 "com/example/dirwarden/dirwarden/aci/Comparison" "EQUAL" "Lcom/example/dirwarden/dirwarden/aci/Comparison;" (.ref s3)) (F3 : Fld Z h0 s3 "java/lang/Enum" "ordinal" "I" (.int (3 : Int32))) (E3 : Exa Z h0 s3 "com/example/dirwarden/dirwarden/aci/Comparison") (S4 : Sta Z h0 "com/example/dirwarden/dirwarden/aci/Comparison" "LESS" "Lcom/example/dirwarden/dirwarden/aci/Comparison;" (.ref s4)) (F4 : Fld Z h0 s4 "java/lang/Enum" "ordinal" "I" (.int (4 : Int32))) (E4 : Exa Z h0 s4 "com/example/dirwarden/dirwarden/aci/Comparison") (S5 : Sta Z h0 "com/example/dirwarden/dirwarden/aci/Comparison" "GREATER" "Lcom/example/dirwarden/dirwarden/aci/Comparison;" (.ref s5)) (F5 : Fld Z h0 s5 "java/lang/Enum" "ordinal" "I" (.int (5 : Int32))) (E5 : Exa Z h0 s5 "com/example/dirwarden/dirwarden/aci/Comparison") :
    MetFree l own_m1 (head1 (Jvm.Cond.code own_m1 method_2_code 1 (some (.object "com/example/dirwarden/dirwarden/aci/Comparison")) :: ws) ({ frames := 0, cells := 0, slots := 0, locals := 0 } : Room)) (fun a U => a = #[(.int (4 : Int32))] ∧ Z.Warmed39 U.vm ∧ U.heap = h0) (fun _ _ _ _ _ => True) (fun _ U o U' => ∃ v L, o = .returned v ∧ Qown_pick4 Z s0 s1 s2 s3 s4 s5 h0 n0 v U'.heap L ∧ FrameEnd U o U' L ({ frames := 0, cells := 0, slots := 0, locals := 0 } : Room).cells ({ frames := 0, cells := 0, slots := 0, locals := 0 } : Room).slots) := by
  refine MetFree.of_bodySF (plainFor_of_name own_pn1) hisR ?_
  intro p e s m args below meth c s₁ Bd hml0 hP hK
  obtain ⟨rfl, hZ, hh⟩ := hP
  have hx := Bd.exec
  have hby := Bd.bytes
  have hml : c.maxLocals = 1 := hml0
  have hown : s.vm.findClass "com/example/dirwarden/dirwarden/aci/ComparisonOrdersPinLaw" = some m.cls := findClass_of_methodNamed Bd.named
  have hnm := (name_of_methodNamed Bd.named Bd.method).1
  have X0 : Stand p l e ({ frames := 0, cells := 0, slots := 0, locals := 0 } : Room) s m #[(.int (4 : Int32))] below meth c s₁ [] 0 0 := Stand.of_body Bd
  have e0 : s₁.heap = h0 := by rw [← hh, Bd.state]; rfl
  have N0 := Fr.nil n0
  have pre0 : ∀ t, Steps p.tables e below (s₁.setTop (mkF m 0 #[.val (.int (4 : Int32))] [])) t → Steps p.tables e below (s₁.setTop (entryFrame m #[(.int (4 : Int32))] 1)) t := fun t k => castTop (by first | (simp [entryFrame, mkF, argsToLocals, Value.category, maxLocals]; done) | rfl) k
  obtain ⟨T1, X1, e1, st1⟩ := getS2 X0 hx hZ hown (host := "") (Or.inl (own_w40 hw)) Via.refl e0 S4 (g := (mkF m 40 #[.val (.int (4 : Int32))] [])) rfl (hb hby own_d1_40)
  obtain ⟨fs, hr, hrun, hended, hW, hsame⟩ := X1.leave (v := some (.ref s4)) (fun h => by rw [Bd.returns] at h; cases h)
  refine ⟨_, _, pre0 _ ?_, hrun, hended, _, _, rfl, ?_, ⟨_, rfl⟩, hW, hsame.mono (by decide) (by decide)⟩
  · show Steps _ _ _ (s₁.setTop (mkF m 0 #[.val (.int (4 : Int32))] [])) _
    refine XS.iloadN X0.here hx rfl (hb hby own_d1_0) rfl ?_
    refine XS.ifYes X0.here hx rfl (pc0 := 1) (pc' := 8) rfl (hb hby own_d1_1) rfl ((if0 _ _).trans (feq (by decide : ¬ ((4 : Int32) = (0 : Int32)))).2) (by decide) (by decide) ?_
    refine XS.iloadN X0.here hx rfl (hb hby own_d1_8) rfl ?_
    refine XS.iconst X0.here hx rfl (hb hby own_d1_9) ?_
    show Steps _ _ _ (s₁.setTop (mkF m 10 #[.val (.int (4 : Int32))] [(.int (1 : Int32)), (.int (4 : Int32))])) _
    refine XS.icmpYes X0.here hx rfl (pc0 := 10) (pc' := 17) rfl (hb hby own_d1_10) rfl (feq (by decide : ¬ ((4 : Int32) = (1 : Int32)))).2 (by decide) (by decide) ?_
    refine XS.iloadN X0.here hx rfl (hb hby own_d1_17) rfl ?_
    refine XS.iconst X0.here hx rfl (hb hby own_d1_18) ?_
    refine XS.icmpYes X0.here hx rfl (pc0 := 19) (pc' := 26) rfl (hb hby own_d1_19) rfl (feq (by decide : ¬ ((4 : Int32) = (2 : Int32)))).2 (by decide) (by decide) ?_
    show Steps _ _ _ (s₁.setTop (mkF m 26 #[.val (.int (4 : Int32))] [])) _
    refine XS.iloadN X0.here hx rfl (hb hby own_d1_26) rfl ?_
    refine XS.iconst X0.here hx rfl (hb hby own_d1_27) ?_
    refine XS.icmpYes X0.here hx rfl (pc0 := 28) (pc' := 35) rfl (hb hby own_d1_28) rfl (feq (by decide : ¬ ((4 : Int32) = (3 : Int32)))).2 (by decide) (by decide) ?_
    refine XS.iloadN X0.here hx rfl (hb hby own_d1_35) rfl ?_
    show Steps _ _ _ (s₁.setTop (mkF m 36 #[.val (.int (4 : Int32))] [(.int (4 : Int32))])) _
    refine XS.iconst X0.here hx rfl (hb hby own_d1_36) ?_
    refine XS.icmpNo X0.here hx rfl (hb hby own_d1_37) rfl (teq (by decide : (4 : Int32) = (4 : Int32))).2 ?_
    refine st1 _ ?_
    show Steps _ _ _ (T1.setTop (mkF m 43 #[.val (.int (4 : Int32))] [(.ref s4)])) _
    jvm_step X1.here [X1.here.top, hx, (hb hby own_d1_43), X1.method', Bd.returns, Value.isRef, FieldType.isReference]
    first | (intro acts; rw [hr _ acts rfl rfl rfl]) | rw [hr _ _ rfl rfl rfl]
    exact Steps.refl _
  · show Qown_pick4 Z s0 s1 s2 s3 s4 s5 h0 n0 _ T1.heap _
    rw [e1]
    exact ⟨rfl, N0, rfl⟩
def Qown_orders4 (Z : State) (s0 s1 s2 s3 s4 s5 : Addr) (h0 : Heap) (n0 : Nat) (v : Option Value) (h : Heap) (L : List Loc) : Prop := v = some (.int (1 : Int32)) ∧ Fr n0 L ∧ h = h0
set_option maxRecDepth 65536 in
set_option maxHeartbeats 40000000 in
theorem own_orders4 (l : Launch) (Z : State) (a0 : Array Value) (hw : ∀ d ∈ tables_1, d.before a0 Z = true) (ws : List Jvm.Cond) (s0 s1 s2 s3 s4 s5 : Addr) (h0 : Heap) (n0 : Nat) (Z0 : n0 ≤ h0.size) (S0 : Sta Z h0 "com/example/dirwarden/dirwarden/aci/Comparison" "NOT_EQUAL" "Lcom/example/dirwarden/dirwarden/aci/Comparison;" (.ref s0)) (F0 : Fld Z h0 s0 "java/lang/Enum" "ordinal" "I" (.int (0 : Int32))) (E0 : Exa Z h0 s0 "com/example/dirwarden/dirwarden/aci/Comparison") (S1 : Sta Z h0 "com/example/dirwarden/dirwarden/aci/Comparison" "AT_MOST" "Lcom/example/dirwarden/dirwarden/aci/Comparison;" (.ref s1)) (F1 : Fld Z h0 s1 "java/lang/Enum" "ordinal" "I" (.int (1 : Int32))) (E1 : Exa Z h0 s1 "com/example/dirwarden/dirwarden/aci/Comparison") (S2 : Sta Z h0 "com/example/dirwarden/dirwarden/aci/Comparison" "AT_LEAST" "Lcom/example/dirwarden/dirwarden/aci/Comparison;" (.ref s2)) (F2 : Fld Z h0 s2 "java/lang/Enum" "ordinal" "I" (.int (2 : Int32))) (E2 : Exa Z h0 s2 "com/example/dirwarden/dirwarden/aci/Comparison") (S3 : Sta Z h0 "com/example/dirwarden/dirwarden/aci/Comparison" "EQUAL" "Lcom/example/dirwarden/dirwarden/aci/Comparison;" (.ref s3)) (F3 : Fld Z h0 s3 "java/lang/Enum" "ordinal" "I" (.int (3 : Int32))) (E3 : Exa Z h0 s3 "com/example/dirwarden/dirwarden/aci/Comparison") (S4 : Sta Z h0 "com/example/dirwarden/dirwarden/aci/Comparison" "LESS" "Lcom/example/dirwarden/dirwarden/aci/Comparison;" (.ref s4)) (F4 : Fld Z h0 s4 "java/lang/Enum" "ordinal" "I" (.int (4 : Int32))) (E4 : Exa Z h0 s4 "com/example/dirwarden/dirwarden/aci/Comparison") (S5 : Sta Z h0 "com/example/dirwarden/dirwarden/aci/Comparison" "GREATER" "Lcom/example/dirwarden/dirwarden/aci/Comparison;" (.ref s5)) (F5 : Fld Z h0 s5 "java/lang/Enum" "ordinal" "I" (.int (5 : Int32))) (E5 : Exa Z h0 s5 "com/example/dirwarden/dirwarden/aci/Comparison") :
    MetFree l own_m2 (head1 (Jvm.Cond.code own_m2 prog_2_method_5_code 1 (some .boolean) :: ws) ({ frames := 0, cells := 0, slots := 0, locals := 0 } : Room)) (fun a U => a = #[(.ref s4)] ∧ Z.Warmed39 U.vm ∧ U.heap = h0) (fun _ _ _ _ _ => True) (fun _ U o U' => ∃ v L, o = .returned v ∧ Qown_orders4 Z s0 s1 s2 s3 s4 s5 h0 n0 v U'.heap L ∧ FrameEnd U o U' L ({ frames := 0, cells := 0, slots := 0, locals := 0 } : Room).cells ({ frames := 0, cells := 0, slots := 0, locals := 0 } : Room).slots) := by
  refine MetFree.of_bodySF (plainFor_of_name own_pn2) hisR ?_
  intro p e s m args below meth c s₁ Bd hml0 hP hK
  obtain ⟨rfl, hZ, hh⟩ := hP
  have hx := Bd.exec
  have hby := Bd.bytes
  have hml : c.maxLocals = 1 := hml0
  have hown : s.vm.findClass "com/example/dirwarden/dirwarden/aci/Comparison" = some m.cls := findClass_of_methodNamed Bd.named
  have hnm := (name_of_methodNamed Bd.named Bd.method).1
  have X0 : Stand p l e ({ frames := 0, cells := 0, slots := 0, locals := 0 } : Room) s m #[(.ref s4)] below meth c s₁ [] 0 0 := Stand.of_body Bd
  have e0 : s₁.heap = h0 := by rw [← hh, Bd.state]; rfl
  have N0 := Fr.nil n0
  have pre0 : ∀ t, Steps p.tables e below (s₁.setTop (mkF m 0 #[.val (.ref s4)] [])) t → Steps p.tables e below (s₁.setTop (entryFrame m #[(.ref s4)] 1)) t := fun t k => castTop (by first | (simp [entryFrame, mkF, argsToLocals, Value.category, maxLocals]; done) | rfl) k
  obtain ⟨T1, X1, e1, st1⟩ := getS2 X0 hx hZ hown (host := "") (Or.inl (own_w13 hw)) Via.refl e0 S3 (g := (mkF m 1 #[.val (.ref s4)] [(.ref s4)])) rfl (hb hby own_d2_1)
  obtain ⟨T2, X2, e2, st2⟩ := getS2 X1 hx hZ hown (host := "") (Or.inl (own_w15 hw)) Via.refl e1 S0 (g := (mkF m 8 #[.val (.ref s4)] [(.ref s4)])) rfl (hb hby own_d2_8)
  obtain ⟨fs, hr, hrun, hended, hW, hsame⟩ := X2.leave (v := some (.int (1 : Int32))) (fun h => by rw [Bd.returns] at h; cases h)
  refine ⟨_, _, pre0 _ ?_, hrun, hended, _, _, rfl, ?_, ⟨_, rfl⟩, hW, hsame.mono (by decide) (by decide)⟩
  · show Steps _ _ _ (s₁.setTop (mkF m 0 #[.val (.ref s4)] [])) _
    refine XS.aloadN X0.here hx rfl (hb hby own_d2_0) rfl rfl ?_
    refine st1 _ ?_
    refine Jvm.RoadKit.acmp (g := (mkF m 4 #[.val (.ref s4)] [(.ref s3), (.ref s4)])) X1 hx rfl rfl rfl (pc0 := 4) (pc' := 7) (same := false) rfl (hb hby own_d2_4) rfl (decide_eq_false fun q => Fld.ne F4 F3 (by decide) (Value.ref.inj q)) (by decide) (by decide) ?_
    refine XS.aloadN X1.here hx rfl (hb hby own_d2_7) rfl rfl ?_
    show Steps _ _ _ (T1.setTop (mkF m 8 #[.val (.ref s4)] [(.ref s4)])) _
    refine st2 _ ?_
    refine Jvm.RoadKit.acmp (g := (mkF m 11 #[.val (.ref s4)] [(.ref s0), (.ref s4)])) X2 hx rfl rfl rfl (pc0 := 11) (pc' := 14) (same := false) rfl (hb hby own_d2_11) rfl (decide_eq_false fun q => Fld.ne F4 F0 (by decide) (Value.ref.inj q)) (by decide) (by decide) ?_
    refine XS.iconst X2.here hx rfl (hb hby own_d2_14) ?_
    refine XS.goto X2.here hx rfl (pc0 := 15) (pc' := 19) rfl (hb hby own_d2_15) (by decide) (by decide) ?_
    show Steps _ _ _ (T2.setTop (mkF m 19 #[.val (.ref s4)] [(.int (1 : Int32))])) _
    exact retN X2 hx (t := .boolean) Bd.returns (by simp) (hb hby own_d2_19) hr
  · show Qown_orders4 Z s0 s1 s2 s3 s4 s5 h0 n0 _ T2.heap _
    rw [e2]
    exact ⟨rfl, N0, rfl⟩
def Qown_expected4 (Z : State)  (h0 : Heap) (n0 : Nat) (v : Option Value) (h : Heap) (L : List Loc) : Prop := v = some (.int (1 : Int32)) ∧ Fr n0 L ∧ h = h0
set_option maxRecDepth 65536 in
set_option maxHeartbeats 40000000 in
theorem own_expected4 (l : Launch) (Z : State) (a0 : Array Value) (hw : ∀ d ∈ tables_1, d.before a0 Z = true) (ws : List Jvm.Cond)  (h0 : Heap) (n0 : Nat) (Z0 : n0 ≤ h0.size)  :
    MetFree l own_m3 (head1 (Jvm.Cond.code own_m3 method_3_code 1 (some .boolean) :: ws) ({ frames := 0, cells := 0, slots := 0, locals := 0 } : Room)) (fun a U => a = #[(.int (4 : Int32))] ∧ Z.Warmed39 U.vm ∧ U.heap = h0) (fun _ _ _ _ _ => True) (fun _ U o U' => ∃ v L, o = .returned v ∧ Qown_expected4 Z  h0 n0 v U'.heap L ∧ FrameEnd U o U' L ({ frames := 0, cells := 0, slots := 0, locals := 0 } : Room).cells ({ frames := 0, cells := 0, slots := 0, locals := 0 } : Room).slots) := by
  refine MetFree.of_bodySF (plainFor_of_name own_pn1) hisR ?_
  intro p e s m args below meth c s₁ Bd hml0 hP hK
  obtain ⟨rfl, hZ, hh⟩ := hP
  have hx := Bd.exec
  have hby := Bd.bytes
  have hml : c.maxLocals = 1 := hml0
  have hown : s.vm.findClass "com/example/dirwarden/dirwarden/aci/ComparisonOrdersPinLaw" = some m.cls := findClass_of_methodNamed Bd.named
  have hnm := (name_of_methodNamed Bd.named Bd.method).1
  have X0 : Stand p l e ({ frames := 0, cells := 0, slots := 0, locals := 0 } : Room) s m #[(.int (4 : Int32))] below meth c s₁ [] 0 0 := Stand.of_body Bd
  have e0 : s₁.heap = h0 := by rw [← hh, Bd.state]; rfl
  have N0 := Fr.nil n0
  have pre0 : ∀ t, Steps p.tables e below (s₁.setTop (mkF m 0 #[.val (.int (4 : Int32))] [])) t → Steps p.tables e below (s₁.setTop (entryFrame m #[(.int (4 : Int32))] 1)) t := fun t k => castTop (by first | (simp [entryFrame, mkF, argsToLocals, Value.category, maxLocals]; done) | rfl) k
  obtain ⟨fs, hr, hrun, hended, hW, hsame⟩ := X0.leave (v := some (.int (1 : Int32))) (fun h => by rw [Bd.returns] at h; cases h)
  refine ⟨_, _, pre0 _ ?_, hrun, hended, _, _, rfl, ?_, ⟨_, rfl⟩, hW, hsame.mono (by decide) (by decide)⟩
  · show Steps _ _ _ (s₁.setTop (mkF m 0 #[.val (.int (4 : Int32))] [])) _
    refine XS.iloadN X0.here hx rfl (hb hby own_d3_0) rfl ?_
    refine XS.ifYes X0.here hx rfl (pc0 := 1) (pc' := 6) rfl (hb hby own_d3_1) rfl ((if0 _ _).trans (feq (by decide : ¬ ((4 : Int32) = (0 : Int32)))).2) (by decide) (by decide) ?_
    refine XS.iloadN X0.here hx rfl (hb hby own_d3_6) rfl ?_
    refine XS.iconst X0.here hx rfl (hb hby own_d3_7) ?_
    show Steps _ _ _ (s₁.setTop (mkF m 8 #[.val (.int (4 : Int32))] [(.int (3 : Int32)), (.int (4 : Int32))])) _
    refine XS.icmpYes X0.here hx rfl (pc0 := 8) (pc' := 13) rfl (hb hby own_d3_8) rfl (feq (by decide : ¬ ((4 : Int32) = (3 : Int32)))).2 (by decide) (by decide) ?_
    refine XS.iconst X0.here hx rfl (hb hby own_d3_13) ?_
    show Steps _ _ _ (s₁.setTop (mkF m 14 #[.val (.int (4 : Int32))] [(.int (1 : Int32))])) _
    exact retN X0 hx (t := .boolean) Bd.returns (by simp) (hb hby own_d3_14) hr
  · show Qown_expected4 Z  h0 n0 _ s₁.heap _
    rw [e0]
    exact ⟨rfl, N0, rfl⟩
def Qown_holds4m (Z : State) (s0 s1 s2 s3 s4 s5 : Addr) (h0 : Heap) (n0 : Nat) (v : Option Value) (h : Heap) (L : List Loc) : Prop := v = some (.int (1 : Int32)) ∧ Fr n0 L ∧ h = h0
set_option maxRecDepth 65536 in
set_option maxHeartbeats 40000000 in
theorem own_holds4m (l : Launch) (Z : State) (a0 : Array Value) (hw : ∀ d ∈ tables_1, d.before a0 Z = true) (ws : List Jvm.Cond) (s0 s1 s2 s3 s4 s5 : Addr) (h0 : Heap) (n0 : Nat) (Z0 : n0 ≤ h0.size) (S0 : Sta Z h0 "com/example/dirwarden/dirwarden/aci/Comparison" "NOT_EQUAL" "Lcom/example/dirwarden/dirwarden/aci/Comparison;" (.ref s0)) (F0 : Fld Z h0 s0 "java/lang/Enum" "ordinal" "I" (.int (0 : Int32))) (E0 : Exa Z h0 s0 "com/example/dirwarden/dirwarden/aci/Comparison") (S1 : Sta Z h0 "com/example/dirwarden/dirwarden/aci/Comparison" "AT_MOST" "Lcom/example/dirwarden/dirwarden/aci/Comparison;" (.ref s1)) (F1 : Fld Z h0 s1 "java/lang/Enum" "ordinal" "I" (.int (1 : Int32))) (E1 : Exa Z h0 s1 "com/example/dirwarden/dirwarden/aci/Comparison") (S2 : Sta Z h0 "com/example/dirwarden/dirwarden/aci/Comparison" "AT_LEAST" "Lcom/example/dirwarden/dirwarden/aci/Comparison;" (.ref s2)) (F2 : Fld Z h0 s2 "java/lang/Enum" "ordinal" "I" (.int (2 : Int32))) (E2 : Exa Z h0 s2 "com/example/dirwarden/dirwarden/aci/Comparison") (S3 : Sta Z h0 "com/example/dirwarden/dirwarden/aci/Comparison" "EQUAL" "Lcom/example/dirwarden/dirwarden/aci/Comparison;" (.ref s3)) (F3 : Fld Z h0 s3 "java/lang/Enum" "ordinal" "I" (.int (3 : Int32))) (E3 : Exa Z h0 s3 "com/example/dirwarden/dirwarden/aci/Comparison") (S4 : Sta Z h0 "com/example/dirwarden/dirwarden/aci/Comparison" "LESS" "Lcom/example/dirwarden/dirwarden/aci/Comparison;" (.ref s4)) (F4 : Fld Z h0 s4 "java/lang/Enum" "ordinal" "I" (.int (4 : Int32))) (E4 : Exa Z h0 s4 "com/example/dirwarden/dirwarden/aci/Comparison") (S5 : Sta Z h0 "com/example/dirwarden/dirwarden/aci/Comparison" "GREATER" "Lcom/example/dirwarden/dirwarden/aci/Comparison;" (.ref s5)) (F5 : Fld Z h0 s5 "java/lang/Enum" "ordinal" "I" (.int (5 : Int32))) (E5 : Exa Z h0 s5 "com/example/dirwarden/dirwarden/aci/Comparison") :
    MetFree l own_m4 (head1 (Jvm.Cond.code own_m4 prog_2_method_6_code 2 (some .boolean) :: ws) ({ frames := 1, cells := 0, slots := 0, locals := 12 } : Room)) (fun a U => a = #[(.ref s4), (.int (-1 : Int32))] ∧ Z.Warmed39 U.vm ∧ U.heap = h0) (fun _ _ _ _ _ => True) (fun _ U o U' => ∃ v L, o = .returned v ∧ Qown_holds4m Z s0 s1 s2 s3 s4 s5 h0 n0 v U'.heap L ∧ FrameEnd U o U' L ({ frames := 1, cells := 0, slots := 0, locals := 12 } : Room).cells ({ frames := 1, cells := 0, slots := 0, locals := 12 } : Room).slots) := by
  refine MetFree.of_bodySF (plainFor_of_name own_pn2) hisR ?_
  intro p e s m args below meth c s₁ Bd hml0 hP hK
  obtain ⟨rfl, hZ, hh⟩ := hP
  have hx := Bd.exec
  have hby := Bd.bytes
  have hml : c.maxLocals = 2 := hml0
  have hown : s.vm.findClass "com/example/dirwarden/dirwarden/aci/Comparison" = some m.cls := findClass_of_methodNamed Bd.named
  have hnm := (name_of_methodNamed Bd.named Bd.method).1
  have X0 : Stand p l e ({ frames := 1, cells := 0, slots := 0, locals := 12 } : Room) s m #[(.ref s4), (.int (-1 : Int32))] below meth c s₁ [] 0 0 := Stand.of_body Bd
  have e0 : s₁.heap = h0 := by rw [← hh, Bd.state]; rfl
  have N0 := Fr.nil n0
  have pre0 : ∀ t, Steps p.tables e below (s₁.setTop (mkF m 0 #[.val (.ref s4), .val (.int (-1 : Int32))] [])) t → Steps p.tables e below (s₁.setTop (entryFrame m #[(.ref s4), (.int (-1 : Int32))] 2)) t := fun t k => castTop (by first | (simp [entryFrame, mkF, argsToLocals, Value.category, maxLocals]; done) | rfl) k
  obtain ⟨cq1, kq1, q1a, q1b, q1c⟩ := isOf hZ e0 E4
  obtain ⟨_, _, ⟨T1, L1, k1, n1⟩, -, X1, ⟨Lc1, hQ1, l1, y1, z1⟩, st1⟩ := X0.virtualBackUp hx (x := own_m5) (y := own_m0) (owner := "java/lang/Enum") hown (mvT hZ (own_w24 hw)) (mvT hZ (own_w25 hw)) (mvT hZ (own_w26 hw)) (by decide) (mvT hZ (own_w28 hw)) (mvT hZ (own_w27 hw)) (backOf (W := 0) (own_ordinal l Z a0 hw [] s4 (4 : Int32) h0 n0 Z0 F4) hZ (own_w30 hw) (own_w29 hw) (by decide) (by decide)) q1a q1c (g := (mkF m 1 #[.val (.ref s4), .val (.int (-1 : Int32))] [(.ref s4)])) rfl (by rw [hml]; rfl) (Steps.refl _) (argsL := []) (rest := []) (lenOf own_pd0 rfl) rfl (by show 2 * 0 + _ ≤ _; exact Nat.le_of_eq rfl) (hb hby own_d4_1) (fun _ _ => ⟨rfl, e0, (by decide : 0 + 0 ≤ _), (by decide : 0 + 0 ≤ _)⟩)
  dsimp only [Pt.U, Pt.locs, Pt.cells, Pt.slots] at X1 l1 y1 z1 st1 hQ1
  subst l1 y1 z1
  obtain ⟨rfl, N1q, e1⟩ := hQ1
  have N1 := Fr.app N0 N1q
  obtain ⟨fs, hr, hrun, hended, hW, hsame⟩ := X1.leave (v := some (.int (1 : Int32))) (fun h => by rw [Bd.returns] at h; cases h)
  refine ⟨_, _, pre0 _ ?_, hrun, hended, _, _, rfl, ?_, ⟨_, rfl⟩, hW, hsame.mono (by decide) (by decide)⟩
  · show Steps _ _ _ (s₁.setTop (mkF m 0 #[.val (.ref s4), .val (.int (-1 : Int32))] [])) _
    refine XS.aloadN X0.here hx rfl (hb hby own_d4_0) rfl rfl ?_
    refine st1.trans ?_
    refine XS.tswIn X1.here hx rfl (pc0 := 4) (pc' := 78) rfl (hb hby own_d4_4) (i := (4 : Int32)) rfl (by decide) (o := 74) (by decide) (by decide) (by decide) ?_
    refine XS.iloadN X1.here hx rfl (hb hby own_d4_78) rfl ?_
    show Steps _ _ _ (T1.setTop (mkF m 79 #[.val (.ref s4), .val (.int (-1 : Int32))] [(.int (-1 : Int32))])) _
    refine XS.ifNo X1.here hx rfl (hb hby own_d4_79) rfl ((if0 _ _).trans (tlt (by decide : (-1 : Int32) < (0 : Int32))).2.1) ?_
    refine XS.iconst X1.here hx rfl (hb hby own_d4_82) ?_
    refine XS.goto X1.here hx rfl (pc0 := 83) (pc' := 123) rfl (hb hby own_d4_83) (by decide) (by decide) ?_
    show Steps _ _ _ (T1.setTop (mkF m 123 #[.val (.ref s4), .val (.int (-1 : Int32))] [(.int (1 : Int32))])) _
    exact retN X1 hx (t := .boolean) Bd.returns (by simp) (hb hby own_d4_123) hr
  · show Qown_holds4m Z s0 s1 s2 s3 s4 s5 h0 n0 _ T1.heap _
    rw [e1]
    exact ⟨rfl, N1, rfl⟩
def Qown_holds4p (Z : State) (s0 s1 s2 s3 s4 s5 : Addr) (h0 : Heap) (n0 : Nat) (v : Option Value) (h : Heap) (L : List Loc) : Prop := v = some (.int (0 : Int32)) ∧ Fr n0 L ∧ h = h0
set_option maxRecDepth 65536 in
set_option maxHeartbeats 40000000 in
theorem own_holds4p (l : Launch) (Z : State) (a0 : Array Value) (hw : ∀ d ∈ tables_1, d.before a0 Z = true) (ws : List Jvm.Cond) (s0 s1 s2 s3 s4 s5 : Addr) (h0 : Heap) (n0 : Nat) (Z0 : n0 ≤ h0.size) (S0 : Sta Z h0 "com/example/dirwarden/dirwarden/aci/Comparison" "NOT_EQUAL" "Lcom/example/dirwarden/dirwarden/aci/Comparison;" (.ref s0)) (F0 : Fld Z h0 s0 "java/lang/Enum" "ordinal" "I" (.int (0 : Int32))) (E0 : Exa Z h0 s0 "com/example/dirwarden/dirwarden/aci/Comparison") (S1 : Sta Z h0 "com/example/dirwarden/dirwarden/aci/Comparison" "AT_MOST" "Lcom/example/dirwarden/dirwarden/aci/Comparison;" (.ref s1)) (F1 : Fld Z h0 s1 "java/lang/Enum" "ordinal" "I" (.int (1 : Int32))) (E1 : Exa Z h0 s1 "com/example/dirwarden/dirwarden/aci/Comparison") (S2 : Sta Z h0 "com/example/dirwarden/dirwarden/aci/Comparison" "AT_LEAST" "Lcom/example/dirwarden/dirwarden/aci/Comparison;" (.ref s2)) (F2 : Fld Z h0 s2 "java/lang/Enum" "ordinal" "I" (.int (2 : Int32))) (E2 : Exa Z h0 s2 "com/example/dirwarden/dirwarden/aci/Comparison") (S3 : Sta Z h0 "com/example/dirwarden/dirwarden/aci/Comparison" "EQUAL" "Lcom/example/dirwarden/dirwarden/aci/Comparison;" (.ref s3)) (F3 : Fld Z h0 s3 "java/lang/Enum" "ordinal" "I" (.int (3 : Int32))) (E3 : Exa Z h0 s3 "com/example/dirwarden/dirwarden/aci/Comparison") (S4 : Sta Z h0 "com/example/dirwarden/dirwarden/aci/Comparison" "LESS" "Lcom/example/dirwarden/dirwarden/aci/Comparison;" (.ref s4)) (F4 : Fld Z h0 s4 "java/lang/Enum" "ordinal" "I" (.int (4 : Int32))) (E4 : Exa Z h0 s4 "com/example/dirwarden/dirwarden/aci/Comparison") (S5 : Sta Z h0 "com/example/dirwarden/dirwarden/aci/Comparison" "GREATER" "Lcom/example/dirwarden/dirwarden/aci/Comparison;" (.ref s5)) (F5 : Fld Z h0 s5 "java/lang/Enum" "ordinal" "I" (.int (5 : Int32))) (E5 : Exa Z h0 s5 "com/example/dirwarden/dirwarden/aci/Comparison") :
    MetFree l own_m4 (head1 (Jvm.Cond.code own_m4 prog_2_method_6_code 2 (some .boolean) :: ws) ({ frames := 1, cells := 0, slots := 0, locals := 12 } : Room)) (fun a U => a = #[(.ref s4), (.int (1 : Int32))] ∧ Z.Warmed39 U.vm ∧ U.heap = h0) (fun _ _ _ _ _ => True) (fun _ U o U' => ∃ v L, o = .returned v ∧ Qown_holds4p Z s0 s1 s2 s3 s4 s5 h0 n0 v U'.heap L ∧ FrameEnd U o U' L ({ frames := 1, cells := 0, slots := 0, locals := 12 } : Room).cells ({ frames := 1, cells := 0, slots := 0, locals := 12 } : Room).slots) := by
  refine MetFree.of_bodySF (plainFor_of_name own_pn2) hisR ?_
  intro p e s m args below meth c s₁ Bd hml0 hP hK
  obtain ⟨rfl, hZ, hh⟩ := hP
  have hx := Bd.exec
  have hby := Bd.bytes
  have hml : c.maxLocals = 2 := hml0
  have hown : s.vm.findClass "com/example/dirwarden/dirwarden/aci/Comparison" = some m.cls := findClass_of_methodNamed Bd.named
  have hnm := (name_of_methodNamed Bd.named Bd.method).1
  have X0 : Stand p l e ({ frames := 1, cells := 0, slots := 0, locals := 12 } : Room) s m #[(.ref s4), (.int (1 : Int32))] below meth c s₁ [] 0 0 := Stand.of_body Bd
  have e0 : s₁.heap = h0 := by rw [← hh, Bd.state]; rfl
  have N0 := Fr.nil n0
  have pre0 : ∀ t, Steps p.tables e below (s₁.setTop (mkF m 0 #[.val (.ref s4), .val (.int (1 : Int32))] [])) t → Steps p.tables e below (s₁.setTop (entryFrame m #[(.ref s4), (.int (1 : Int32))] 2)) t := fun t k => castTop (by first | (simp [entryFrame, mkF, argsToLocals, Value.category, maxLocals]; done) | rfl) k
  obtain ⟨cq1, kq1, q1a, q1b, q1c⟩ := isOf hZ e0 E4
  obtain ⟨_, _, ⟨T1, L1, k1, n1⟩, -, X1, ⟨Lc1, hQ1, l1, y1, z1⟩, st1⟩ := X0.virtualBackUp hx (x := own_m5) (y := own_m0) (owner := "java/lang/Enum") hown (mvT hZ (own_w24 hw)) (mvT hZ (own_w25 hw)) (mvT hZ (own_w26 hw)) (by decide) (mvT hZ (own_w28 hw)) (mvT hZ (own_w27 hw)) (backOf (W := 0) (own_ordinal l Z a0 hw [] s4 (4 : Int32) h0 n0 Z0 F4) hZ (own_w30 hw) (own_w29 hw) (by decide) (by decide)) q1a q1c (g := (mkF m 1 #[.val (.ref s4), .val (.int (1 : Int32))] [(.ref s4)])) rfl (by rw [hml]; rfl) (Steps.refl _) (argsL := []) (rest := []) (lenOf own_pd0 rfl) rfl (by show 2 * 0 + _ ≤ _; exact Nat.le_of_eq rfl) (hb hby own_d4_1) (fun _ _ => ⟨rfl, e0, (by decide : 0 + 0 ≤ _), (by decide : 0 + 0 ≤ _)⟩)
  dsimp only [Pt.U, Pt.locs, Pt.cells, Pt.slots] at X1 l1 y1 z1 st1 hQ1
  subst l1 y1 z1
  obtain ⟨rfl, N1q, e1⟩ := hQ1
  have N1 := Fr.app N0 N1q
  obtain ⟨fs, hr, hrun, hended, hW, hsame⟩ := X1.leave (v := some (.int (0 : Int32))) (fun h => by rw [Bd.returns] at h; cases h)
  refine ⟨_, _, pre0 _ ?_, hrun, hended, _, _, rfl, ?_, ⟨_, rfl⟩, hW, hsame.mono (by decide) (by decide)⟩
  · show Steps _ _ _ (s₁.setTop (mkF m 0 #[.val (.ref s4), .val (.int (1 : Int32))] [])) _
    refine XS.aloadN X0.here hx rfl (hb hby own_d4_0) rfl rfl ?_
    refine st1.trans ?_
    refine XS.tswIn X1.here hx rfl (pc0 := 4) (pc' := 78) rfl (hb hby own_d4_4) (i := (4 : Int32)) rfl (by decide) (o := 74) (by decide) (by decide) (by decide) ?_
    refine XS.iloadN X1.here hx rfl (hb hby own_d4_78) rfl ?_
    show Steps _ _ _ (T1.setTop (mkF m 79 #[.val (.ref s4), .val (.int (1 : Int32))] [(.int (1 : Int32))])) _
    refine XS.ifYes X1.here hx rfl (pc0 := 79) (pc' := 86) rfl (hb hby own_d4_79) rfl ((if0 _ _).trans (flt (by decide : ¬ ((1 : Int32) < (0 : Int32)))).2.1) (by decide) (by decide) ?_
    refine XS.iconst X1.here hx rfl (hb hby own_d4_86) ?_
    refine XS.goto X1.here hx rfl (pc0 := 87) (pc' := 123) rfl (hb hby own_d4_87) (by decide) (by decide) ?_
    show Steps _ _ _ (T1.setTop (mkF m 123 #[.val (.ref s4), .val (.int (1 : Int32))] [(.int (0 : Int32))])) _
    exact retN X1 hx (t := .boolean) Bd.returns (by simp) (hb hby own_d4_123) hr
  · show Qown_holds4p Z s0 s1 s2 s3 s4 s5 h0 n0 _ T1.heap _
    rw [e1]
    exact ⟨rfl, N1, rfl⟩
def Qown_pick5 (Z : State) (s0 s1 s2 s3 s4 s5 : Addr) (h0 : Heap) (n0 : Nat) (v : Option Value) (h : Heap) (L : List Loc) : Prop := v = some (.ref s5) ∧ Fr n0 L ∧ h = h0
set_option maxRecDepth 65536 in
set_option maxHeartbeats 40000000 in
theorem own_pick5 (l : Launch) (Z : State) (a0 : Array Value) (hw : ∀ d ∈ tables_1, d.before a0 Z = true) (ws : List Jvm.Cond) (s0 s1 s2 s3 s4 s5 : Addr) (h0 : Heap) (n0 : Nat) (Z0 : n0 ≤ h0.size) (S0 : Sta Z h0 "com/example/dirwarden/dirwarden/aci/Comparison" "NOT_EQUAL" "Lcom/example/dirwarden/dirwarden/aci/Comparison;" (.ref s0)) (F0 : Fld Z h0 s0 "java/lang/Enum" "ordinal" "I" (.int (0 : Int32))) (E0 : Exa Z h0 s0 "com/example/dirwarden/dirwarden/aci/Comparison") (S1 : Sta Z h0 "com/example/dirwarden/dirwarden/aci/Comparison" "AT_MOST" "Lcom/example/dirwarden/dirwarden/aci/Comparison;" (.ref s1)) (F1 : Fld Z h0 s1 "java/lang/Enum" "ordinal" "I" (.int (1 : Int32))) (E1 : Exa Z h0 s1 "com/example/dirwarden/dirwarden/aci/Comparison") (S2 : Sta Z h0 "com/example/dirwarden/dirwarden/aci/Comparison" "AT_LEAST" "Lcom/example/dirwarden/dirwarden/aci/Comparison;" (.ref s2)) (F2 : Fld Z h0 s2 "java/lang/Enum" "ordinal" "I" (.int (2 : Int32))) (E2 : Exa Z h0 s2 "com/example/dirwarden/dirwarden/aci/Comparison") (S3 : Sta Z h0 "com/example/dirwarden/dirwarden/aci/Comparison" "EQUAL" "Lcom/example/dirwarden/dirwarden/aci/Comparison;" (.ref s3)) (F3 : Fld Z h0 s3 "java/lang/Enum" "ordinal" "I" (.int (3 : Int32))) (E3 : Exa Z h0 s3 "com/example/dirwarden/dirwarden/aci/Comparison") (S4 : Sta Z h0 "com/example/dirwarden/dirwarden/aci/Comparison" "LESS" "Lcom/example/dirwarden/dirwarden/aci/Comparison;" (.ref s4)) (F4 : Fld Z h0 s4 "java/lang/Enum" "ordinal" "I" (.int (4 : Int32))) (E4 : Exa Z h0 s4 "com/example/dirwarden/dirwarden/aci/Comparison") (S5 : Sta Z h0 "com/example/dirwarden/dirwarden/aci/Comparison" "GREATER" "Lcom/example/dirwarden/dirwarden/aci/Comparison;" (.ref s5)) (F5 : Fld Z h0 s5 "java/lang/Enum" "ordinal" "I" (.int (5 : Int32))) (E5 : Exa Z h0 s5 "com/example/dirwarden/dirwarden/aci/Comparison") :
    MetFree l own_m1 (head1 (Jvm.Cond.code own_m1 method_2_code 1 (some (.object "com/example/dirwarden/dirwarden/aci/Comparison")) :: ws) ({ frames := 0, cells := 0, slots := 0, locals := 0 } : Room)) (fun a U => a = #[(.int (5 : Int32))] ∧ Z.Warmed39 U.vm ∧ U.heap = h0) (fun _ _ _ _ _ => True) (fun _ U o U' => ∃ v L, o = .returned v ∧ Qown_pick5 Z s0 s1 s2 s3 s4 s5 h0 n0 v U'.heap L ∧ FrameEnd U o U' L ({ frames := 0, cells := 0, slots := 0, locals := 0 } : Room).cells ({ frames := 0, cells := 0, slots := 0, locals := 0 } : Room).slots) := by
  refine MetFree.of_bodySF (plainFor_of_name own_pn1) hisR ?_
  intro p e s m args below meth c s₁ Bd hml0 hP hK
  obtain ⟨rfl, hZ, hh⟩ := hP
  have hx := Bd.exec
  have hby := Bd.bytes
  have hml : c.maxLocals = 1 := hml0
  have hown : s.vm.findClass "com/example/dirwarden/dirwarden/aci/ComparisonOrdersPinLaw" = some m.cls := findClass_of_methodNamed Bd.named
  have hnm := (name_of_methodNamed Bd.named Bd.method).1
  have X0 : Stand p l e ({ frames := 0, cells := 0, slots := 0, locals := 0 } : Room) s m #[(.int (5 : Int32))] below meth c s₁ [] 0 0 := Stand.of_body Bd
  have e0 : s₁.heap = h0 := by rw [← hh, Bd.state]; rfl
  have N0 := Fr.nil n0
  have pre0 : ∀ t, Steps p.tables e below (s₁.setTop (mkF m 0 #[.val (.int (5 : Int32))] [])) t → Steps p.tables e below (s₁.setTop (entryFrame m #[(.int (5 : Int32))] 1)) t := fun t k => castTop (by first | (simp [entryFrame, mkF, argsToLocals, Value.category, maxLocals]; done) | rfl) k
  obtain ⟨T1, X1, e1, st1⟩ := getS2 X0 hx hZ hown (host := "") (Or.inl (own_w38 hw)) Via.refl e0 S5 (g := (mkF m 44 #[.val (.int (5 : Int32))] [])) rfl (hb hby own_d1_44)
  obtain ⟨fs, hr, hrun, hended, hW, hsame⟩ := X1.leave (v := some (.ref s5)) (fun h => by rw [Bd.returns] at h; cases h)
  refine ⟨_, _, pre0 _ ?_, hrun, hended, _, _, rfl, ?_, ⟨_, rfl⟩, hW, hsame.mono (by decide) (by decide)⟩
  · show Steps _ _ _ (s₁.setTop (mkF m 0 #[.val (.int (5 : Int32))] [])) _
    refine XS.iloadN X0.here hx rfl (hb hby own_d1_0) rfl ?_
    refine XS.ifYes X0.here hx rfl (pc0 := 1) (pc' := 8) rfl (hb hby own_d1_1) rfl ((if0 _ _).trans (feq (by decide : ¬ ((5 : Int32) = (0 : Int32)))).2) (by decide) (by decide) ?_
    refine XS.iloadN X0.here hx rfl (hb hby own_d1_8) rfl ?_
    refine XS.iconst X0.here hx rfl (hb hby own_d1_9) ?_
    show Steps _ _ _ (s₁.setTop (mkF m 10 #[.val (.int (5 : Int32))] [(.int (1 : Int32)), (.int (5 : Int32))])) _
    refine XS.icmpYes X0.here hx rfl (pc0 := 10) (pc' := 17) rfl (hb hby own_d1_10) rfl (feq (by decide : ¬ ((5 : Int32) = (1 : Int32)))).2 (by decide) (by decide) ?_
    refine XS.iloadN X0.here hx rfl (hb hby own_d1_17) rfl ?_
    refine XS.iconst X0.here hx rfl (hb hby own_d1_18) ?_
    refine XS.icmpYes X0.here hx rfl (pc0 := 19) (pc' := 26) rfl (hb hby own_d1_19) rfl (feq (by decide : ¬ ((5 : Int32) = (2 : Int32)))).2 (by decide) (by decide) ?_
    show Steps _ _ _ (s₁.setTop (mkF m 26 #[.val (.int (5 : Int32))] [])) _
    refine XS.iloadN X0.here hx rfl (hb hby own_d1_26) rfl ?_
    refine XS.iconst X0.here hx rfl (hb hby own_d1_27) ?_
    refine XS.icmpYes X0.here hx rfl (pc0 := 28) (pc' := 35) rfl (hb hby own_d1_28) rfl (feq (by decide : ¬ ((5 : Int32) = (3 : Int32)))).2 (by decide) (by decide) ?_
    refine XS.iloadN X0.here hx rfl (hb hby own_d1_35) rfl ?_
    show Steps _ _ _ (s₁.setTop (mkF m 36 #[.val (.int (5 : Int32))] [(.int (5 : Int32))])) _
    refine XS.iconst X0.here hx rfl (hb hby own_d1_36) ?_
    refine XS.icmpYes X0.here hx rfl (pc0 := 37) (pc' := 44) rfl (hb hby own_d1_37) rfl (feq (by decide : ¬ ((5 : Int32) = (4 : Int32)))).2 (by decide) (by decide) ?_
    refine st1 _ ?_
    show Steps _ _ _ (T1.setTop (mkF m 47 #[.val (.int (5 : Int32))] [(.ref s5)])) _
    jvm_step X1.here [X1.here.top, hx, (hb hby own_d1_47), X1.method', Bd.returns, Value.isRef, FieldType.isReference]
    first | (intro acts; rw [hr _ acts rfl rfl rfl]) | rw [hr _ _ rfl rfl rfl]
    exact Steps.refl _
  · show Qown_pick5 Z s0 s1 s2 s3 s4 s5 h0 n0 _ T1.heap _
    rw [e1]
    exact ⟨rfl, N0, rfl⟩
def Qown_orders5 (Z : State) (s0 s1 s2 s3 s4 s5 : Addr) (h0 : Heap) (n0 : Nat) (v : Option Value) (h : Heap) (L : List Loc) : Prop := v = some (.int (1 : Int32)) ∧ Fr n0 L ∧ h = h0
set_option maxRecDepth 65536 in
set_option maxHeartbeats 40000000 in
theorem own_orders5 (l : Launch) (Z : State) (a0 : Array Value) (hw : ∀ d ∈ tables_1, d.before a0 Z = true) (ws : List Jvm.Cond) (s0 s1 s2 s3 s4 s5 : Addr) (h0 : Heap) (n0 : Nat) (Z0 : n0 ≤ h0.size) (S0 : Sta Z h0 "com/example/dirwarden/dirwarden/aci/Comparison" "NOT_EQUAL" "Lcom/example/dirwarden/dirwarden/aci/Comparison;" (.ref s0)) (F0 : Fld Z h0 s0 "java/lang/Enum" "ordinal" "I" (.int (0 : Int32))) (E0 : Exa Z h0 s0 "com/example/dirwarden/dirwarden/aci/Comparison") (S1 : Sta Z h0 "com/example/dirwarden/dirwarden/aci/Comparison" "AT_MOST" "Lcom/example/dirwarden/dirwarden/aci/Comparison;" (.ref s1)) (F1 : Fld Z h0 s1 "java/lang/Enum" "ordinal" "I" (.int (1 : Int32))) (E1 : Exa Z h0 s1 "com/example/dirwarden/dirwarden/aci/Comparison") (S2 : Sta Z h0 "com/example/dirwarden/dirwarden/aci/Comparison" "AT_LEAST" "Lcom/example/dirwarden/dirwarden/aci/Comparison;" (.ref s2)) (F2 : Fld Z h0 s2 "java/lang/Enum" "ordinal" "I" (.int (2 : Int32))) (E2 : Exa Z h0 s2 "com/example/dirwarden/dirwarden/aci/Comparison") (S3 : Sta Z h0 "com/example/dirwarden/dirwarden/aci/Comparison" "EQUAL" "Lcom/example/dirwarden/dirwarden/aci/Comparison;" (.ref s3)) (F3 : Fld Z h0 s3 "java/lang/Enum" "ordinal" "I" (.int (3 : Int32))) (E3 : Exa Z h0 s3 "com/example/dirwarden/dirwarden/aci/Comparison") (S4 : Sta Z h0 "com/example/dirwarden/dirwarden/aci/Comparison" "LESS" "Lcom/example/dirwarden/dirwarden/aci/Comparison;" (.ref s4)) (F4 : Fld Z h0 s4 "java/lang/Enum" "ordinal" "I" (.int (4 : Int32))) (E4 : Exa Z h0 s4 "com/example/dirwarden/dirwarden/aci/Comparison") (S5 : Sta Z h0 "com/example/dirwarden/dirwarden/aci/Comparison" "GREATER" "Lcom/example/dirwarden/dirwarden/aci/Comparison;" (.ref s5)) (F5 : Fld Z h0 s5 "java/lang/Enum" "ordinal" "I" (.int (5 : Int32))) (E5 : Exa Z h0 s5 "com/example/dirwarden/dirwarden/aci/Comparison") :
    MetFree l own_m2 (head1 (Jvm.Cond.code own_m2 prog_2_method_5_code 1 (some .boolean) :: ws) ({ frames := 0, cells := 0, slots := 0, locals := 0 } : Room)) (fun a U => a = #[(.ref s5)] ∧ Z.Warmed39 U.vm ∧ U.heap = h0) (fun _ _ _ _ _ => True) (fun _ U o U' => ∃ v L, o = .returned v ∧ Qown_orders5 Z s0 s1 s2 s3 s4 s5 h0 n0 v U'.heap L ∧ FrameEnd U o U' L ({ frames := 0, cells := 0, slots := 0, locals := 0 } : Room).cells ({ frames := 0, cells := 0, slots := 0, locals := 0 } : Room).slots) := by
  refine MetFree.of_bodySF (plainFor_of_name own_pn2) hisR ?_
  intro p e s m args below meth c s₁ Bd hml0 hP hK
  obtain ⟨rfl, hZ, hh⟩ := hP
  have hx := Bd.exec
  have hby := Bd.bytes
  have hml : c.maxLocals = 1 := hml0
  have hown : s.vm.findClass "com/example/dirwarden/dirwarden/aci/Comparison" = some m.cls := findClass_of_methodNamed Bd.named
  have hnm := (name_of_methodNamed Bd.named Bd.method).1
  have X0 : Stand p l e ({ frames := 0, cells := 0, slots := 0, locals := 0 } : Room) s m #[(.ref s5)] below meth c s₁ [] 0 0 := Stand.of_body Bd
  have e0 : s₁.heap = h0 := by rw [← hh, Bd.state]; rfl
  have N0 := Fr.nil n0
  have pre0 : ∀ t, Steps p.tables e below (s₁.setTop (mkF m 0 #[.val (.ref s5)] [])) t → Steps p.tables e below (s₁.setTop (entryFrame m #[(.ref s5)] 1)) t := fun t k => castTop (by first | (simp [entryFrame, mkF, argsToLocals, Value.category, maxLocals]; done) | rfl) k
  obtain ⟨T1, X1, e1, st1⟩ := getS2 X0 hx hZ hown (host := "") (Or.inl (own_w13 hw)) Via.refl e0 S3 (g := (mkF m 1 #[.val (.ref s5)] [(.ref s5)])) rfl (hb hby own_d2_1)
  obtain ⟨T2, X2, e2, st2⟩ := getS2 X1 hx hZ hown (host := "") (Or.inl (own_w15 hw)) Via.refl e1 S0 (g := (mkF m 8 #[.val (.ref s5)] [(.ref s5)])) rfl (hb hby own_d2_8)
  obtain ⟨fs, hr, hrun, hended, hW, hsame⟩ := X2.leave (v := some (.int (1 : Int32))) (fun h => by rw [Bd.returns] at h; cases h)
  refine ⟨_, _, pre0 _ ?_, hrun, hended, _, _, rfl, ?_, ⟨_, rfl⟩, hW, hsame.mono (by decide) (by decide)⟩
  · show Steps _ _ _ (s₁.setTop (mkF m 0 #[.val (.ref s5)] [])) _
    refine XS.aloadN X0.here hx rfl (hb hby own_d2_0) rfl rfl ?_
    refine st1 _ ?_
    refine Jvm.RoadKit.acmp (g := (mkF m 4 #[.val (.ref s5)] [(.ref s3), (.ref s5)])) X1 hx rfl rfl rfl (pc0 := 4) (pc' := 7) (same := false) rfl (hb hby own_d2_4) rfl (decide_eq_false fun q => Fld.ne F5 F3 (by decide) (Value.ref.inj q)) (by decide) (by decide) ?_
    refine XS.aloadN X1.here hx rfl (hb hby own_d2_7) rfl rfl ?_
    show Steps _ _ _ (T1.setTop (mkF m 8 #[.val (.ref s5)] [(.ref s5)])) _
    refine st2 _ ?_
    refine Jvm.RoadKit.acmp (g := (mkF m 11 #[.val (.ref s5)] [(.ref s0), (.ref s5)])) X2 hx rfl rfl rfl (pc0 := 11) (pc' := 14) (same := false) rfl (hb hby own_d2_11) rfl (decide_eq_false fun q => Fld.ne F5 F0 (by decide) (Value.ref.inj q)) (by decide) (by decide) ?_
    refine XS.iconst X2.here hx rfl (hb hby own_d2_14) ?_
    refine XS.goto X2.here hx rfl (pc0 := 15) (pc' := 19) rfl (hb hby own_d2_15) (by decide) (by decide) ?_
    show Steps _ _ _ (T2.setTop (mkF m 19 #[.val (.ref s5)] [(.int (1 : Int32))])) _
    exact retN X2 hx (t := .boolean) Bd.returns (by simp) (hb hby own_d2_19) hr
  · show Qown_orders5 Z s0 s1 s2 s3 s4 s5 h0 n0 _ T2.heap _
    rw [e2]
    exact ⟨rfl, N0, rfl⟩
def Qown_expected5 (Z : State)  (h0 : Heap) (n0 : Nat) (v : Option Value) (h : Heap) (L : List Loc) : Prop := v = some (.int (1 : Int32)) ∧ Fr n0 L ∧ h = h0
set_option maxRecDepth 65536 in
set_option maxHeartbeats 40000000 in
theorem own_expected5 (l : Launch) (Z : State) (a0 : Array Value) (hw : ∀ d ∈ tables_1, d.before a0 Z = true) (ws : List Jvm.Cond)  (h0 : Heap) (n0 : Nat) (Z0 : n0 ≤ h0.size)  :
    MetFree l own_m3 (head1 (Jvm.Cond.code own_m3 method_3_code 1 (some .boolean) :: ws) ({ frames := 0, cells := 0, slots := 0, locals := 0 } : Room)) (fun a U => a = #[(.int (5 : Int32))] ∧ Z.Warmed39 U.vm ∧ U.heap = h0) (fun _ _ _ _ _ => True) (fun _ U o U' => ∃ v L, o = .returned v ∧ Qown_expected5 Z  h0 n0 v U'.heap L ∧ FrameEnd U o U' L ({ frames := 0, cells := 0, slots := 0, locals := 0 } : Room).cells ({ frames := 0, cells := 0, slots := 0, locals := 0 } : Room).slots) := by
  refine MetFree.of_bodySF (plainFor_of_name own_pn1) hisR ?_
  intro p e s m args below meth c s₁ Bd hml0 hP hK
  obtain ⟨rfl, hZ, hh⟩ := hP
  have hx := Bd.exec
  have hby := Bd.bytes
  have hml : c.maxLocals = 1 := hml0
  have hown : s.vm.findClass "com/example/dirwarden/dirwarden/aci/ComparisonOrdersPinLaw" = some m.cls := findClass_of_methodNamed Bd.named
  have hnm := (name_of_methodNamed Bd.named Bd.method).1
  have X0 : Stand p l e ({ frames := 0, cells := 0, slots := 0, locals := 0 } : Room) s m #[(.int (5 : Int32))] below meth c s₁ [] 0 0 := Stand.of_body Bd
  have e0 : s₁.heap = h0 := by rw [← hh, Bd.state]; rfl
  have N0 := Fr.nil n0
  have pre0 : ∀ t, Steps p.tables e below (s₁.setTop (mkF m 0 #[.val (.int (5 : Int32))] [])) t → Steps p.tables e below (s₁.setTop (entryFrame m #[(.int (5 : Int32))] 1)) t := fun t k => castTop (by first | (simp [entryFrame, mkF, argsToLocals, Value.category, maxLocals]; done) | rfl) k
  obtain ⟨fs, hr, hrun, hended, hW, hsame⟩ := X0.leave (v := some (.int (1 : Int32))) (fun h => by rw [Bd.returns] at h; cases h)
  refine ⟨_, _, pre0 _ ?_, hrun, hended, _, _, rfl, ?_, ⟨_, rfl⟩, hW, hsame.mono (by decide) (by decide)⟩
  · show Steps _ _ _ (s₁.setTop (mkF m 0 #[.val (.int (5 : Int32))] [])) _
    refine XS.iloadN X0.here hx rfl (hb hby own_d3_0) rfl ?_
    refine XS.ifYes X0.here hx rfl (pc0 := 1) (pc' := 6) rfl (hb hby own_d3_1) rfl ((if0 _ _).trans (feq (by decide : ¬ ((5 : Int32) = (0 : Int32)))).2) (by decide) (by decide) ?_
    refine XS.iloadN X0.here hx rfl (hb hby own_d3_6) rfl ?_
    refine XS.iconst X0.here hx rfl (hb hby own_d3_7) ?_
    show Steps _ _ _ (s₁.setTop (mkF m 8 #[.val (.int (5 : Int32))] [(.int (3 : Int32)), (.int (5 : Int32))])) _
    refine XS.icmpYes X0.here hx rfl (pc0 := 8) (pc' := 13) rfl (hb hby own_d3_8) rfl (feq (by decide : ¬ ((5 : Int32) = (3 : Int32)))).2 (by decide) (by decide) ?_
    refine XS.iconst X0.here hx rfl (hb hby own_d3_13) ?_
    show Steps _ _ _ (s₁.setTop (mkF m 14 #[.val (.int (5 : Int32))] [(.int (1 : Int32))])) _
    exact retN X0 hx (t := .boolean) Bd.returns (by simp) (hb hby own_d3_14) hr
  · show Qown_expected5 Z  h0 n0 _ s₁.heap _
    rw [e0]
    exact ⟨rfl, N0, rfl⟩
def Qown_holds5m (Z : State) (s0 s1 s2 s3 s4 s5 : Addr) (h0 : Heap) (n0 : Nat) (v : Option Value) (h : Heap) (L : List Loc) : Prop := v = some (.int (0 : Int32)) ∧ Fr n0 L ∧ h = h0
set_option maxRecDepth 65536 in
set_option maxHeartbeats 40000000 in
theorem own_holds5m (l : Launch) (Z : State) (a0 : Array Value) (hw : ∀ d ∈ tables_1, d.before a0 Z = true) (ws : List Jvm.Cond) (s0 s1 s2 s3 s4 s5 : Addr) (h0 : Heap) (n0 : Nat) (Z0 : n0 ≤ h0.size) (S0 : Sta Z h0 "com/example/dirwarden/dirwarden/aci/Comparison" "NOT_EQUAL" "Lcom/example/dirwarden/dirwarden/aci/Comparison;" (.ref s0)) (F0 : Fld Z h0 s0 "java/lang/Enum" "ordinal" "I" (.int (0 : Int32))) (E0 : Exa Z h0 s0 "com/example/dirwarden/dirwarden/aci/Comparison") (S1 : Sta Z h0 "com/example/dirwarden/dirwarden/aci/Comparison" "AT_MOST" "Lcom/example/dirwarden/dirwarden/aci/Comparison;" (.ref s1)) (F1 : Fld Z h0 s1 "java/lang/Enum" "ordinal" "I" (.int (1 : Int32))) (E1 : Exa Z h0 s1 "com/example/dirwarden/dirwarden/aci/Comparison") (S2 : Sta Z h0 "com/example/dirwarden/dirwarden/aci/Comparison" "AT_LEAST" "Lcom/example/dirwarden/dirwarden/aci/Comparison;" (.ref s2)) (F2 : Fld Z h0 s2 "java/lang/Enum" "ordinal" "I" (.int (2 : Int32))) (E2 : Exa Z h0 s2 "com/example/dirwarden/dirwarden/aci/Comparison") (S3 : Sta Z h0 "com/example/dirwarden/dirwarden/aci/Comparison" "EQUAL" "Lcom/example/dirwarden/dirwarden/aci/Comparison;" (.ref s3)) (F3 : Fld Z h0 s3 "java/lang/Enum" "ordinal" "I" (.int (3 : Int32))) (E3 : Exa Z h0 s3 "com/example/dirwarden/dirwarden/aci/Comparison") (S4 : Sta Z h0 "com/example/dirwarden/dirwarden/aci/Comparison" "LESS" "Lcom/example/dirwarden/dirwarden/aci/Comparison;" (.ref s4)) (F4 : Fld Z h0 s4 "java/lang/Enum" "ordinal" "I" (.int (4 : Int32))) (E4 : Exa Z h0 s4 "com/example/dirwarden/dirwarden/aci/Comparison") (S5 : Sta Z h0 "com/example/dirwarden/dirwarden/aci/Comparison" "GREATER" "Lcom/example/dirwarden/dirwarden/aci/Comparison;" (.ref s5)) (F5 : Fld Z h0 s5 "java/lang/Enum" "ordinal" "I" (.int (5 : Int32))) (E5 : Exa Z h0 s5 "com/example/dirwarden/dirwarden/aci/Comparison") :
    MetFree l own_m4 (head1 (Jvm.Cond.code own_m4 prog_2_method_6_code 2 (some .boolean) :: ws) ({ frames := 1, cells := 0, slots := 0, locals := 12 } : Room)) (fun a U => a = #[(.ref s5), (.int (-1 : Int32))] ∧ Z.Warmed39 U.vm ∧ U.heap = h0) (fun _ _ _ _ _ => True) (fun _ U o U' => ∃ v L, o = .returned v ∧ Qown_holds5m Z s0 s1 s2 s3 s4 s5 h0 n0 v U'.heap L ∧ FrameEnd U o U' L ({ frames := 1, cells := 0, slots := 0, locals := 12 } : Room).cells ({ frames := 1, cells := 0, slots := 0, locals := 12 } : Room).slots) := by
  refine MetFree.of_bodySF (plainFor_of_name own_pn2) hisR ?_
  intro p e s m args below meth c s₁ Bd hml0 hP hK
  obtain ⟨rfl, hZ, hh⟩ := hP
  have hx := Bd.exec
  have hby := Bd.bytes
  have hml : c.maxLocals = 2 := hml0
  have hown : s.vm.findClass "com/example/dirwarden/dirwarden/aci/Comparison" = some m.cls := findClass_of_methodNamed Bd.named
  have hnm := (name_of_methodNamed Bd.named Bd.method).1
  have X0 : Stand p l e ({ frames := 1, cells := 0, slots := 0, locals := 12 } : Room) s m #[(.ref s5), (.int (-1 : Int32))] below meth c s₁ [] 0 0 := Stand.of_body Bd
  have e0 : s₁.heap = h0 := by rw [← hh, Bd.state]; rfl
  have N0 := Fr.nil n0
  have pre0 : ∀ t, Steps p.tables e below (s₁.setTop (mkF m 0 #[.val (.ref s5), .val (.int (-1 : Int32))] [])) t → Steps p.tables e below (s₁.setTop (entryFrame m #[(.ref s5), (.int (-1 : Int32))] 2)) t := fun t k => castTop (by first | (simp [entryFrame, mkF, argsToLocals, Value.category, maxLocals]; done) | rfl) k
  obtain ⟨cq1, kq1, q1a, q1b, q1c⟩ := isOf hZ e0 E5
  obtain ⟨_, _, ⟨T1, L1, k1, n1⟩, -, X1, ⟨Lc1, hQ1, l1, y1, z1⟩, st1⟩ := X0.virtualBackUp hx (x := own_m5) (y := own_m0) (owner := "java/lang/Enum") hown (mvT hZ (own_w24 hw)) (mvT hZ (own_w25 hw)) (mvT hZ (own_w26 hw)) (by decide) (mvT hZ (own_w28 hw)) (mvT hZ (own_w27 hw)) (backOf (W := 0) (own_ordinal l Z a0 hw [] s5 (5 : Int32) h0 n0 Z0 F5) hZ (own_w30 hw) (own_w29 hw) (by decide) (by decide)) q1a q1c (g := (mkF m 1 #[.val (.ref s5), .val (.int (-1 : Int32))] [(.ref s5)])) rfl (by rw [hml]; rfl) (Steps.refl _) (argsL := []) (rest := []) (lenOf own_pd0 rfl) rfl (by show 2 * 0 + _ ≤ _; exact Nat.le_of_eq rfl) (hb hby own_d4_1) (fun _ _ => ⟨rfl, e0, (by decide : 0 + 0 ≤ _), (by decide : 0 + 0 ≤ _)⟩)
  dsimp only [Pt.U, Pt.locs, Pt.cells, Pt.slots] at X1 l1 y1 z1 st1 hQ1
  subst l1 y1 z1
  obtain ⟨rfl, N1q, e1⟩ := hQ1
  have N1 := Fr.app N0 N1q
  obtain ⟨fs, hr, hrun, hended, hW, hsame⟩ := X1.leave (v := some (.int (0 : Int32))) (fun h => by rw [Bd.returns] at h; cases h)
  refine ⟨_, _, pre0 _ ?_, hrun, hended, _, _, rfl, ?_, ⟨_, rfl⟩, hW, hsame.mono (by decide) (by decide)⟩
  · show Steps _ _ _ (s₁.setTop (mkF m 0 #[.val (.ref s5), .val (.int (-1 : Int32))] [])) _
    refine XS.aloadN X0.here hx rfl (hb hby own_d4_0) rfl rfl ?_
    refine st1.trans ?_
    refine XS.tswIn X1.here hx rfl (pc0 := 4) (pc' := 102) rfl (hb hby own_d4_4) (i := (5 : Int32)) rfl (by decide) (o := 98) (by decide) (by decide) (by decide) ?_
    refine XS.iloadN X1.here hx rfl (hb hby own_d4_102) rfl ?_
    show Steps _ _ _ (T1.setTop (mkF m 103 #[.val (.ref s5), .val (.int (-1 : Int32))] [(.int (-1 : Int32))])) _
    refine XS.ifYes X1.here hx rfl (pc0 := 103) (pc' := 110) rfl (hb hby own_d4_103) rfl ((if0 _ _).trans (flt (by decide : ¬ ((0 : Int32) < (-1 : Int32)))).2.2.2) (by decide) (by decide) ?_
    refine XS.iconst X1.here hx rfl (hb hby own_d4_110) ?_
    refine XS.goto X1.here hx rfl (pc0 := 111) (pc' := 123) rfl (hb hby own_d4_111) (by decide) (by decide) ?_
    show Steps _ _ _ (T1.setTop (mkF m 123 #[.val (.ref s5), .val (.int (-1 : Int32))] [(.int (0 : Int32))])) _
    exact retN X1 hx (t := .boolean) Bd.returns (by simp) (hb hby own_d4_123) hr
  · show Qown_holds5m Z s0 s1 s2 s3 s4 s5 h0 n0 _ T1.heap _
    rw [e1]
    exact ⟨rfl, N1, rfl⟩
def Qown_holds5p (Z : State) (s0 s1 s2 s3 s4 s5 : Addr) (h0 : Heap) (n0 : Nat) (v : Option Value) (h : Heap) (L : List Loc) : Prop := v = some (.int (1 : Int32)) ∧ Fr n0 L ∧ h = h0
set_option maxRecDepth 65536 in
set_option maxHeartbeats 40000000 in
theorem own_holds5p (l : Launch) (Z : State) (a0 : Array Value) (hw : ∀ d ∈ tables_1, d.before a0 Z = true) (ws : List Jvm.Cond) (s0 s1 s2 s3 s4 s5 : Addr) (h0 : Heap) (n0 : Nat) (Z0 : n0 ≤ h0.size) (S0 : Sta Z h0 "com/example/dirwarden/dirwarden/aci/Comparison" "NOT_EQUAL" "Lcom/example/dirwarden/dirwarden/aci/Comparison;" (.ref s0)) (F0 : Fld Z h0 s0 "java/lang/Enum" "ordinal" "I" (.int (0 : Int32))) (E0 : Exa Z h0 s0 "com/example/dirwarden/dirwarden/aci/Comparison") (S1 : Sta Z h0 "com/example/dirwarden/dirwarden/aci/Comparison" "AT_MOST" "Lcom/example/dirwarden/dirwarden/aci/Comparison;" (.ref s1)) (F1 : Fld Z h0 s1 "java/lang/Enum" "ordinal" "I" (.int (1 : Int32))) (E1 : Exa Z h0 s1 "com/example/dirwarden/dirwarden/aci/Comparison") (S2 : Sta Z h0 "com/example/dirwarden/dirwarden/aci/Comparison" "AT_LEAST" "Lcom/example/dirwarden/dirwarden/aci/Comparison;" (.ref s2)) (F2 : Fld Z h0 s2 "java/lang/Enum" "ordinal" "I" (.int (2 : Int32))) (E2 : Exa Z h0 s2 "com/example/dirwarden/dirwarden/aci/Comparison") (S3 : Sta Z h0 "com/example/dirwarden/dirwarden/aci/Comparison" "EQUAL" "Lcom/example/dirwarden/dirwarden/aci/Comparison;" (.ref s3)) (F3 : Fld Z h0 s3 "java/lang/Enum" "ordinal" "I" (.int (3 : Int32))) (E3 : Exa Z h0 s3 "com/example/dirwarden/dirwarden/aci/Comparison") (S4 : Sta Z h0 "com/example/dirwarden/dirwarden/aci/Comparison" "LESS" "Lcom/example/dirwarden/dirwarden/aci/Comparison;" (.ref s4)) (F4 : Fld Z h0 s4 "java/lang/Enum" "ordinal" "I" (.int (4 : Int32))) (E4 : Exa Z h0 s4 "com/example/dirwarden/dirwarden/aci/Comparison") (S5 : Sta Z h0 "com/example/dirwarden/dirwarden/aci/Comparison" "GREATER" "Lcom/example/dirwarden/dirwarden/aci/Comparison;" (.ref s5)) (F5 : Fld Z h0 s5 "java/lang/Enum" "ordinal" "I" (.int (5 : Int32))) (E5 : Exa Z h0 s5 "com/example/dirwarden/dirwarden/aci/Comparison") :
    MetFree l own_m4 (head1 (Jvm.Cond.code own_m4 prog_2_method_6_code 2 (some .boolean) :: ws) ({ frames := 1, cells := 0, slots := 0, locals := 12 } : Room)) (fun a U => a = #[(.ref s5), (.int (1 : Int32))] ∧ Z.Warmed39 U.vm ∧ U.heap = h0) (fun _ _ _ _ _ => True) (fun _ U o U' => ∃ v L, o = .returned v ∧ Qown_holds5p Z s0 s1 s2 s3 s4 s5 h0 n0 v U'.heap L ∧ FrameEnd U o U' L ({ frames := 1, cells := 0, slots := 0, locals := 12 } : Room).cells ({ frames := 1, cells := 0, slots := 0, locals := 12 } : Room).slots) := by
  refine MetFree.of_bodySF (plainFor_of_name own_pn2) hisR ?_
  intro p e s m args below meth c s₁ Bd hml0 hP hK
  obtain ⟨rfl, hZ, hh⟩ := hP
  have hx := Bd.exec
  have hby := Bd.bytes
  have hml : c.maxLocals = 2 := hml0
  have hown : s.vm.findClass "com/example/dirwarden/dirwarden/aci/Comparison" = some m.cls := findClass_of_methodNamed Bd.named
  have hnm := (name_of_methodNamed Bd.named Bd.method).1
  have X0 : Stand p l e ({ frames := 1, cells := 0, slots := 0, locals := 12 } : Room) s m #[(.ref s5), (.int (1 : Int32))] below meth c s₁ [] 0 0 := Stand.of_body Bd
  have e0 : s₁.heap = h0 := by rw [← hh, Bd.state]; rfl
  have N0 := Fr.nil n0
  have pre0 : ∀ t, Steps p.tables e below (s₁.setTop (mkF m 0 #[.val (.ref s5), .val (.int (1 : Int32))] [])) t → Steps p.tables e below (s₁.setTop (entryFrame m #[(.ref s5), (.int (1 : Int32))] 2)) t := fun t k => castTop (by first | (simp [entryFrame, mkF, argsToLocals, Value.category, maxLocals]; done) | rfl) k
  obtain ⟨cq1, kq1, q1a, q1b, q1c⟩ := isOf hZ e0 E5
  obtain ⟨_, _, ⟨T1, L1, k1, n1⟩, -, X1, ⟨Lc1, hQ1, l1, y1, z1⟩, st1⟩ := X0.virtualBackUp hx (x := own_m5) (y := own_m0) (owner := "java/lang/Enum") hown (mvT hZ (own_w24 hw)) (mvT hZ (own_w25 hw)) (mvT hZ (own_w26 hw)) (by decide) (mvT hZ (own_w28 hw)) (mvT hZ (own_w27 hw)) (backOf (W := 0) (own_ordinal l Z a0 hw [] s5 (5 : Int32) h0 n0 Z0 F5) hZ (own_w30 hw) (own_w29 hw) (by decide) (by decide)) q1a q1c (g := (mkF m 1 #[.val (.ref s5), .val (.int (1 : Int32))] [(.ref s5)])) rfl (by rw [hml]; rfl) (Steps.refl _) (argsL := []) (rest := []) (lenOf own_pd0 rfl) rfl (by show 2 * 0 + _ ≤ _; exact Nat.le_of_eq rfl) (hb hby own_d4_1) (fun _ _ => ⟨rfl, e0, (by decide : 0 + 0 ≤ _), (by decide : 0 + 0 ≤ _)⟩)
  dsimp only [Pt.U, Pt.locs, Pt.cells, Pt.slots] at X1 l1 y1 z1 st1 hQ1
  subst l1 y1 z1
  obtain ⟨rfl, N1q, e1⟩ := hQ1
  have N1 := Fr.app N0 N1q
  obtain ⟨fs, hr, hrun, hended, hW, hsame⟩ := X1.leave (v := some (.int (1 : Int32))) (fun h => by rw [Bd.returns] at h; cases h)
  refine ⟨_, _, pre0 _ ?_, hrun, hended, _, _, rfl, ?_, ⟨_, rfl⟩, hW, hsame.mono (by decide) (by decide)⟩
  · show Steps _ _ _ (s₁.setTop (mkF m 0 #[.val (.ref s5), .val (.int (1 : Int32))] [])) _
    refine XS.aloadN X0.here hx rfl (hb hby own_d4_0) rfl rfl ?_
    refine st1.trans ?_
    refine XS.tswIn X1.here hx rfl (pc0 := 4) (pc' := 102) rfl (hb hby own_d4_4) (i := (5 : Int32)) rfl (by decide) (o := 98) (by decide) (by decide) (by decide) ?_
    refine XS.iloadN X1.here hx rfl (hb hby own_d4_102) rfl ?_
    show Steps _ _ _ (T1.setTop (mkF m 103 #[.val (.ref s5), .val (.int (1 : Int32))] [(.int (1 : Int32))])) _
    refine XS.ifNo X1.here hx rfl (hb hby own_d4_103) rfl ((if0 _ _).trans (tlt (by decide : (0 : Int32) < (1 : Int32))).2.2.2) ?_
    refine XS.iconst X1.here hx rfl (hb hby own_d4_106) ?_
    refine XS.goto X1.here hx rfl (pc0 := 107) (pc' := 123) rfl (hb hby own_d4_107) (by decide) (by decide) ?_
    show Steps _ _ _ (T1.setTop (mkF m 123 #[.val (.ref s5), .val (.int (1 : Int32))] [(.int (1 : Int32))])) _
    exact retN X1 hx (t := .boolean) Bd.returns (by simp) (hb hby own_d4_123) hr
  · show Qown_holds5p Z s0 s1 s2 s3 s4 s5 h0 n0 _ T1.heap _
    rw [e1]
    exact ⟨rfl, N1, rfl⟩
def Qown_law (Z : State) (p1 : Int32) (s0 s1 s2 s3 s4 s5 : Addr) (h0 : Heap) (n0 : Nat) (v : Option Value) (h : Heap) (L : List Loc) : Prop := v = some (.int (1 : Int32)) ∧ Fr n0 L
set_option maxRecDepth 65536 in
set_option maxHeartbeats 40000000 in
theorem own_law (l : Launch) (Z : State) (a0 : Array Value) (hw : ∀ d ∈ tables_1, d.before a0 Z = true) (ws : List Jvm.Cond) (p1 : Int32) (s0 s1 s2 s3 s4 s5 : Addr) (h0 : Heap) (n0 : Nat) (Z0 : n0 ≤ h0.size) (S0 : Sta Z h0 "com/example/dirwarden/dirwarden/aci/Comparison" "NOT_EQUAL" "Lcom/example/dirwarden/dirwarden/aci/Comparison;" (.ref s0)) (F0 : Fld Z h0 s0 "java/lang/Enum" "ordinal" "I" (.int (0 : Int32))) (E0 : Exa Z h0 s0 "com/example/dirwarden/dirwarden/aci/Comparison") (S1 : Sta Z h0 "com/example/dirwarden/dirwarden/aci/Comparison" "AT_MOST" "Lcom/example/dirwarden/dirwarden/aci/Comparison;" (.ref s1)) (F1 : Fld Z h0 s1 "java/lang/Enum" "ordinal" "I" (.int (1 : Int32))) (E1 : Exa Z h0 s1 "com/example/dirwarden/dirwarden/aci/Comparison") (S2 : Sta Z h0 "com/example/dirwarden/dirwarden/aci/Comparison" "AT_LEAST" "Lcom/example/dirwarden/dirwarden/aci/Comparison;" (.ref s2)) (F2 : Fld Z h0 s2 "java/lang/Enum" "ordinal" "I" (.int (2 : Int32))) (E2 : Exa Z h0 s2 "com/example/dirwarden/dirwarden/aci/Comparison") (S3 : Sta Z h0 "com/example/dirwarden/dirwarden/aci/Comparison" "EQUAL" "Lcom/example/dirwarden/dirwarden/aci/Comparison;" (.ref s3)) (F3 : Fld Z h0 s3 "java/lang/Enum" "ordinal" "I" (.int (3 : Int32))) (E3 : Exa Z h0 s3 "com/example/dirwarden/dirwarden/aci/Comparison") (S4 : Sta Z h0 "com/example/dirwarden/dirwarden/aci/Comparison" "LESS" "Lcom/example/dirwarden/dirwarden/aci/Comparison;" (.ref s4)) (F4 : Fld Z h0 s4 "java/lang/Enum" "ordinal" "I" (.int (4 : Int32))) (E4 : Exa Z h0 s4 "com/example/dirwarden/dirwarden/aci/Comparison") (S5 : Sta Z h0 "com/example/dirwarden/dirwarden/aci/Comparison" "GREATER" "Lcom/example/dirwarden/dirwarden/aci/Comparison;" (.ref s5)) (F5 : Fld Z h0 s5 "java/lang/Enum" "ordinal" "I" (.int (5 : Int32))) (E5 : Exa Z h0 s5 "com/example/dirwarden/dirwarden/aci/Comparison") :
    MetFree l x (head1 (Jvm.Cond.code x code maxLocals ret :: ws) room_1) (fun a U => a = #[(.int p1)] ∧ Z.Warmed39 U.vm ∧ U.heap = h0) (fun _ _ _ _ _ => True) (fun _ U o U' => ∃ v L, o = .returned v ∧ Qown_law Z p1 s0 s1 s2 s3 s4 s5 h0 n0 v U'.heap L ∧ FrameEnd U o U' L room_1.cells room_1.slots) := by
  refine MetFree.of_bodySF (plainFor_of_name own_pn1) hisR ?_
  intro p e s m args below meth c s₁ Bd hml0 hP hK
  obtain ⟨rfl, hZ, hh⟩ := hP
  have hx := Bd.exec
  have hby := Bd.bytes
  have hml : c.maxLocals = 4 := hml0
  have hown : s.vm.findClass "com/example/dirwarden/dirwarden/aci/ComparisonOrdersPinLaw" = some m.cls := findClass_of_methodNamed Bd.named
  have hnm := (name_of_methodNamed Bd.named Bd.method).1
  have X0 : Stand p l e room_1 s m #[(.int p1)] below meth c s₁ [] 0 0 := Stand.of_body Bd
  have e0 : s₁.heap = h0 := by rw [← hh, Bd.state]; rfl
  have N0 := Fr.nil n0
  have pre0 : ∀ t, Steps p.tables e below (s₁.setTop (mkF m 0 #[.val (.int p1), .unset, .unset, .unset] [])) t → Steps p.tables e below (s₁.setTop (entryFrame m #[(.int p1)] maxLocals)) t := fun t k => castTop (by first | (simp [entryFrame, mkF, argsToLocals, Value.category, maxLocals]; done) | rfl) k
  have pre1 : ∀ t, Steps p.tables e below (s₁.setTop (mkF m 8 #[.val (.int p1), .val (.int ((p1 &&& (2147483647 : Int32)) % (6 : Int32))), .unset, .unset] [])) t → Steps p.tables e below (s₁.setTop (entryFrame m #[(.int p1)] maxLocals)) t := fun t kt => pre0 t (by
    show Steps _ _ _ (s₁.setTop (mkF m 0 #[.val (.int p1), .unset, .unset, .unset] [])) _
    refine XS.iloadN X0.here hx rfl (hb hby at_0) rfl ?_
    refine X0.ldcInt hx hown (mvT hZ (own_w0 hw)) (g := (mkF m 1 #[.val (.int p1), .unset, .unset, .unset] [(.int p1)])) rfl (hb hby at_1) _ ?_
    refine XS.iand X0.here hx rfl (hb hby at_3) rfl ?_
    refine XS.bipush X0.here hx rfl (hb hby at_4) ?_
    show Steps _ _ _ (s₁.setTop (mkF m 6 #[.val (.int p1), .unset, .unset, .unset] [(.int (6 : Int32)), (.int (p1 &&& (2147483647 : Int32)))])) _
    refine iremM X0 hx rfl (hb hby at_6) rfl (by decide) ?_
    refine XS.istoreN X0.here hx rfl (hb hby at_7) rfl (l' := #[.val (.int p1), .val (.int ((p1 &&& (2147483647 : Int32)) % (6 : Int32))), .unset, .unset]) rfl ?_
    exact kt)
  rcases own_mod p1 with hs2 | hs2 | hs2 | hs2 | hs2 | hs2
  · skip
    rw [hs2] at pre1
    obtain ⟨_, _, ⟨T3, L3, k3, n3⟩, -, X3, ⟨Lc3, hQ3, l3, y3, z3⟩, st3⟩ := Jvm.LawKit.callS X0 hx (y := own_m1) hown (mvT hZ (own_w1 hw)) (mvT hZ (own_w2 hw)) (mvT hZ (own_w3 hw)) (mvT hZ (own_w4 hw)) (by decide) (backOf (W := 0) (own_pick0 l Z a0 hw [] s0 s1 s2 s3 s4 s5 h0 n0 Z0 S0 F0 E0 S1 F1 E1 S2 F2 E2 S3 F3 E3 S4 F4 E4 S5 F5 E5) hZ (own_w4 hw) (own_w3 hw) (by decide) (by decide)) (g := (mkF m 9 #[.val (.int p1), .val (.int (0 : Int32)), .unset, .unset] [(.int (0 : Int32))])) rfl (by rw [hml]; rfl) (argsL := [(.int (0 : Int32))]) (rest := []) (lenOf own_pd1 rfl) rfl (by show 2 * 0 + _ ≤ _; exact Nat.le_of_eq rfl) (hb hby at_9) (fun _ _ => ⟨rfl, e0, (by decide : 0 + 0 ≤ _), (by decide : 0 + 0 ≤ _)⟩)
    dsimp only [Pt.U, Pt.locs, Pt.cells, Pt.slots] at X3 l3 y3 z3 st3 hQ3
    subst l3 y3 z3
    obtain ⟨rfl, N3q, e3⟩ := hQ3
    have N3 := Fr.app N0 N3q
    obtain ⟨cq4, kq4, q4a, q4b, q4c⟩ := isOf hZ e3 E0
    obtain ⟨_, _, ⟨T4, L4, k4, n4⟩, -, X4, ⟨Lc4, hQ4, l4, y4, z4⟩, st4⟩ := X3.virtualBack hx (y := own_m2) (z := own_m2) hown (mvT hZ (own_w8 hw)) (mvT hZ (own_w9 hw)) (notFace_of_selects (args := #[]) (mvT hZ (own_w11 hw))) (mvT hZ (own_w11 hw)) (mvT hZ (own_w10 hw)) (by decide) (backOf (W := 0) (own_orders0 l Z a0 hw [] s0 s1 s2 s3 s4 s5 h0 n0 Z0 S0 F0 E0 S1 F1 E1 S2 F2 E2 S3 F3 E3 S4 F4 E4 S5 F5 E5) hZ (own_w12 hw) (own_w6 hw) (by decide) (by decide)) q4a q4c (g := (mkF m 14 #[.val (.int p1), .val (.int (0 : Int32)), .val (.ref s0), .unset] [(.ref s0)])) rfl (by rw [hml]; rfl) (Steps.refl _) (argsL := []) (rest := []) (lenOf own_pd2 rfl) rfl (by show 2 * 0 + _ ≤ _; exact Nat.le_of_eq rfl) (hb hby at_14) (fun _ _ => ⟨rfl, e3, (by decide : 0 + 0 ≤ _), (by decide : 0 + 0 ≤ _)⟩)
    dsimp only [Pt.U, Pt.locs, Pt.cells, Pt.slots] at X4 l4 y4 z4 st4 hQ4
    subst l4 y4 z4
    obtain ⟨rfl, N4q, e4⟩ := hQ4
    have N4 := Fr.app N3 N4q
    obtain ⟨_, _, ⟨T5, L5, k5, n5⟩, -, X5, ⟨Lc5, hQ5, l5, y5, z5⟩, st5⟩ := Jvm.LawKit.callS X4 hx (y := own_m3) hown (mvT hZ (own_w16 hw)) (mvT hZ (own_w17 hw)) (mvT hZ (own_w3 hw)) (mvT hZ (own_w18 hw)) (by decide) (backOf (W := 1) (own_expected0 l Z a0 hw [] h0 n0 Z0) hZ (own_w18 hw) (own_w3 hw) (by decide) (by decide)) (g := (mkF m 20 #[.val (.int p1), .val (.int (0 : Int32)), .val (.ref s0), .val (.int (0 : Int32))] [(.int (0 : Int32)), (.int (0 : Int32))])) rfl (by rw [hml]; rfl) (argsL := [(.int (0 : Int32))]) (rest := [(.int (0 : Int32))]) (lenOf own_pd3 rfl) rfl (by show 2 * 0 + _ ≤ _; exact Nat.le_of_eq rfl) (hb hby at_20) (fun _ _ => ⟨rfl, e4, (by decide : 0 + 0 ≤ _), (by decide : 0 + 0 ≤ _)⟩)
    dsimp only [Pt.U, Pt.locs, Pt.cells, Pt.slots] at X5 l5 y5 z5 st5 hQ5
    subst l5 y5 z5
    obtain ⟨rfl, N5q, e5⟩ := hQ5
    have N5 := Fr.app N4 N5q
    obtain ⟨cq6, kq6, q6a, q6b, q6c⟩ := isOf hZ e5 E0
    obtain ⟨_, _, ⟨T6, L6, k6, n6⟩, -, X6, ⟨Lc6, hQ6, l6, y6, z6⟩, st6⟩ := X5.virtualBack hx (y := own_m4) (z := own_m4) hown (mvT hZ (own_w19 hw)) (mvT hZ (own_w20 hw)) (notFace_of_selects (args := #[]) (mvT hZ (own_w22 hw))) (mvT hZ (own_w22 hw)) (mvT hZ (own_w21 hw)) (by decide) (backOf (W := 1) (own_holds0m l Z a0 hw [] s0 s1 s2 s3 s4 s5 h0 n0 Z0 S0 F0 E0 S1 F1 E1 S2 F2 E2 S3 F3 E3 S4 F4 E4 S5 F5 E5) hZ (own_w23 hw) (own_w6 hw) (by decide) (by decide)) q6a q6c (g := (mkF m 31 #[.val (.int p1), .val (.int (0 : Int32)), .val (.ref s0), .val (.int (0 : Int32))] [(.int (-1 : Int32)), (.ref s0), (.int (0 : Int32))])) rfl (by rw [hml]; rfl) (Steps.refl _) (argsL := [(.int (-1 : Int32))]) (rest := [(.int (0 : Int32))]) (lenOf own_pd3 rfl) rfl (by show 2 * 0 + _ ≤ _; exact Nat.le_of_eq rfl) (hb hby at_31) (fun _ _ => ⟨rfl, e5, (by decide : 0 + 0 ≤ _), (by decide : 0 + 0 ≤ _)⟩)
    dsimp only [Pt.U, Pt.locs, Pt.cells, Pt.slots] at X6 l6 y6 z6 st6 hQ6
    subst l6 y6 z6
    obtain ⟨rfl, N6q, e6⟩ := hQ6
    have N6 := Fr.app N5 N6q
    obtain ⟨cq7, kq7, q7a, q7b, q7c⟩ := isOf hZ e6 E0
    obtain ⟨_, _, ⟨T7, L7, k7, n7⟩, -, X7, ⟨Lc7, hQ7, l7, y7, z7⟩, st7⟩ := X6.virtualBack hx (y := own_m4) (z := own_m4) hown (mvT hZ (own_w19 hw)) (mvT hZ (own_w20 hw)) (notFace_of_selects (args := #[]) (mvT hZ (own_w22 hw))) (mvT hZ (own_w22 hw)) (mvT hZ (own_w21 hw)) (by decide) (backOf (W := 2) (own_holds0p l Z a0 hw [] s0 s1 s2 s3 s4 s5 h0 n0 Z0 S0 F0 E0 S1 F1 E1 S2 F2 E2 S3 F3 E3 S4 F4 E4 S5 F5 E5) hZ (own_w23 hw) (own_w6 hw) (by decide) (by decide)) q7a q7c (g := (mkF m 36 #[.val (.int p1), .val (.int (0 : Int32)), .val (.ref s0), .val (.int (0 : Int32))] [(.int (1 : Int32)), (.ref s0), (.int (1 : Int32)), (.int (0 : Int32))])) rfl (by rw [hml]; rfl) (Steps.refl _) (argsL := [(.int (1 : Int32))]) (rest := [(.int (1 : Int32)), (.int (0 : Int32))]) (lenOf own_pd3 rfl) rfl (by show 2 * 0 + _ ≤ _; exact Nat.le_of_eq rfl) (hb hby at_36) (fun _ _ => ⟨rfl, e6, (by decide : 0 + 0 ≤ _), (by decide : 0 + 0 ≤ _)⟩)
    dsimp only [Pt.U, Pt.locs, Pt.cells, Pt.slots] at X7 l7 y7 z7 st7 hQ7
    subst l7 y7 z7
    obtain ⟨rfl, N7q, e7⟩ := hQ7
    have N7 := Fr.app N6 N7q
    obtain ⟨fs, hr, hrun, hended, hW, hsame⟩ := X7.leave (v := some (.int (1 : Int32))) (fun h => by rw [Bd.returns] at h; cases h)
    refine ⟨_, _, pre1 _ ?_, hrun, hended, _, _, rfl, ?_, ⟨_, rfl⟩, hW, hsame.mono (by decide) (by decide)⟩
    · show Steps _ _ _ (s₁.setTop (mkF m 8 #[.val (.int p1), .val (.int (0 : Int32)), .unset, .unset] [])) _
      refine XS.iloadN X0.here hx rfl (hb hby at_8) rfl ?_
      refine st3 _ ?_
      refine XS.astoreN X3.here hx rfl (hb hby at_12) rfl rfl (l' := #[.val (.int p1), .val (.int (0 : Int32)), .val (.ref s0), .unset]) rfl ?_
      refine XS.aloadN X3.here hx rfl (hb hby at_13) rfl rfl ?_
      show Steps _ _ _ (T3.setTop (mkF m 14 #[.val (.int p1), .val (.int (0 : Int32)), .val (.ref s0), .unset] [(.ref s0)])) _
      refine st4.trans ?_
      refine XS.istoreN X4.here hx rfl (hb hby at_17) rfl (l' := #[.val (.int p1), .val (.int (0 : Int32)), .val (.ref s0), .val (.int (0 : Int32))]) rfl ?_
      refine XS.iloadN X4.here hx rfl (hb hby at_18) rfl ?_
      refine XS.iloadN X4.here hx rfl (hb hby at_19) rfl ?_
      show Steps _ _ _ (T4.setTop (mkF m 20 #[.val (.int p1), .val (.int (0 : Int32)), .val (.ref s0), .val (.int (0 : Int32))] [(.int (0 : Int32)), (.int (0 : Int32))])) _
      refine st5 _ ?_
      refine XS.icmpYes X5.here hx rfl (pc0 := 23) (pc' := 28) rfl (hb hby at_23) rfl (teq (by decide : (0 : Int32) = (0 : Int32))).1 (by decide) (by decide) ?_
      refine XS.iloadN X5.here hx rfl (hb hby at_28) rfl ?_
      refine XS.aloadN X5.here hx rfl (hb hby at_29) rfl rfl ?_
      show Steps _ _ _ (T5.setTop (mkF m 30 #[.val (.int p1), .val (.int (0 : Int32)), .val (.ref s0), .val (.int (0 : Int32))] [(.ref s0), (.int (0 : Int32))])) _
      refine XS.iconst X5.here hx rfl (hb hby at_30) ?_
      refine st6.trans ?_
      refine XS.aloadN X6.here hx rfl (hb hby at_34) rfl rfl ?_
      refine XS.iconst X6.here hx rfl (hb hby at_35) ?_
      show Steps _ _ _ (T6.setTop (mkF m 36 #[.val (.int p1), .val (.int (0 : Int32)), .val (.ref s0), .val (.int (0 : Int32))] [(.int (1 : Int32)), (.ref s0), (.int (1 : Int32)), (.int (0 : Int32))])) _
      refine st7.trans ?_
      refine XS.icmpYes X7.here hx rfl (pc0 := 39) (pc' := 46) rfl (hb hby at_39) rfl (teq (by decide : (1 : Int32) = (1 : Int32))).1 (by decide) (by decide) ?_
      refine XS.iconst X7.here hx rfl (hb hby at_46) ?_
      refine XS.icmpNo X7.here hx rfl (hb hby at_47) rfl (teq (by decide : (0 : Int32) = (0 : Int32))).2 ?_
      show Steps _ _ _ (T7.setTop (mkF m 50 #[.val (.int p1), .val (.int (0 : Int32)), .val (.ref s0), .val (.int (0 : Int32))] [])) _
      refine XS.iconst X7.here hx rfl (hb hby at_50) ?_
      refine XS.goto X7.here hx rfl (pc0 := 51) (pc' := 55) rfl (hb hby at_51) (by decide) (by decide) ?_
      show Steps _ _ _ (T7.setTop (mkF m 55 #[.val (.int p1), .val (.int (0 : Int32)), .val (.ref s0), .val (.int (0 : Int32))] [(.int (1 : Int32))])) _
      exact retN X7 hx (t := .boolean) Bd.returns (by simp) (hb hby at_55) hr
    · show Qown_law Z p1 s0 s1 s2 s3 s4 s5 h0 n0 _ T7.heap _
      rw [e7]
      exact ⟨rfl, N7⟩
  · skip
    rw [hs2] at pre1
    obtain ⟨_, _, ⟨T8, L8, k8, n8⟩, -, X8, ⟨Lc8, hQ8, l8, y8, z8⟩, st8⟩ := Jvm.LawKit.callS X0 hx (y := own_m1) hown (mvT hZ (own_w1 hw)) (mvT hZ (own_w2 hw)) (mvT hZ (own_w3 hw)) (mvT hZ (own_w4 hw)) (by decide) (backOf (W := 0) (own_pick1 l Z a0 hw [] s0 s1 s2 s3 s4 s5 h0 n0 Z0 S0 F0 E0 S1 F1 E1 S2 F2 E2 S3 F3 E3 S4 F4 E4 S5 F5 E5) hZ (own_w4 hw) (own_w3 hw) (by decide) (by decide)) (g := (mkF m 9 #[.val (.int p1), .val (.int (1 : Int32)), .unset, .unset] [(.int (1 : Int32))])) rfl (by rw [hml]; rfl) (argsL := [(.int (1 : Int32))]) (rest := []) (lenOf own_pd1 rfl) rfl (by show 2 * 0 + _ ≤ _; exact Nat.le_of_eq rfl) (hb hby at_9) (fun _ _ => ⟨rfl, e0, (by decide : 0 + 0 ≤ _), (by decide : 0 + 0 ≤ _)⟩)
    dsimp only [Pt.U, Pt.locs, Pt.cells, Pt.slots] at X8 l8 y8 z8 st8 hQ8
    subst l8 y8 z8
    obtain ⟨rfl, N8q, e8⟩ := hQ8
    have N8 := Fr.app N0 N8q
    obtain ⟨cq9, kq9, q9a, q9b, q9c⟩ := isOf hZ e8 E1
    obtain ⟨_, _, ⟨T9, L9, k9, n9⟩, -, X9, ⟨Lc9, hQ9, l9, y9, z9⟩, st9⟩ := X8.virtualBack hx (y := own_m2) (z := own_m2) hown (mvT hZ (own_w8 hw)) (mvT hZ (own_w9 hw)) (notFace_of_selects (args := #[]) (mvT hZ (own_w11 hw))) (mvT hZ (own_w11 hw)) (mvT hZ (own_w10 hw)) (by decide) (backOf (W := 0) (own_orders1 l Z a0 hw [] s0 s1 s2 s3 s4 s5 h0 n0 Z0 S0 F0 E0 S1 F1 E1 S2 F2 E2 S3 F3 E3 S4 F4 E4 S5 F5 E5) hZ (own_w12 hw) (own_w6 hw) (by decide) (by decide)) q9a q9c (g := (mkF m 14 #[.val (.int p1), .val (.int (1 : Int32)), .val (.ref s1), .unset] [(.ref s1)])) rfl (by rw [hml]; rfl) (Steps.refl _) (argsL := []) (rest := []) (lenOf own_pd2 rfl) rfl (by show 2 * 0 + _ ≤ _; exact Nat.le_of_eq rfl) (hb hby at_14) (fun _ _ => ⟨rfl, e8, (by decide : 0 + 0 ≤ _), (by decide : 0 + 0 ≤ _)⟩)
    dsimp only [Pt.U, Pt.locs, Pt.cells, Pt.slots] at X9 l9 y9 z9 st9 hQ9
    subst l9 y9 z9
    obtain ⟨rfl, N9q, e9⟩ := hQ9
    have N9 := Fr.app N8 N9q
    obtain ⟨_, _, ⟨T10, L10, k10, n10⟩, -, X10, ⟨Lc10, hQ10, l10, y10, z10⟩, st10⟩ := Jvm.LawKit.callS X9 hx (y := own_m3) hown (mvT hZ (own_w16 hw)) (mvT hZ (own_w17 hw)) (mvT hZ (own_w3 hw)) (mvT hZ (own_w18 hw)) (by decide) (backOf (W := 1) (own_expected1 l Z a0 hw [] h0 n0 Z0) hZ (own_w18 hw) (own_w3 hw) (by decide) (by decide)) (g := (mkF m 20 #[.val (.int p1), .val (.int (1 : Int32)), .val (.ref s1), .val (.int (1 : Int32))] [(.int (1 : Int32)), (.int (1 : Int32))])) rfl (by rw [hml]; rfl) (argsL := [(.int (1 : Int32))]) (rest := [(.int (1 : Int32))]) (lenOf own_pd3 rfl) rfl (by show 2 * 0 + _ ≤ _; exact Nat.le_of_eq rfl) (hb hby at_20) (fun _ _ => ⟨rfl, e9, (by decide : 0 + 0 ≤ _), (by decide : 0 + 0 ≤ _)⟩)
    dsimp only [Pt.U, Pt.locs, Pt.cells, Pt.slots] at X10 l10 y10 z10 st10 hQ10
    subst l10 y10 z10
    obtain ⟨rfl, N10q, e10⟩ := hQ10
    have N10 := Fr.app N9 N10q
    obtain ⟨cq11, kq11, q11a, q11b, q11c⟩ := isOf hZ e10 E1
    obtain ⟨_, _, ⟨T11, L11, k11, n11⟩, -, X11, ⟨Lc11, hQ11, l11, y11, z11⟩, st11⟩ := X10.virtualBack hx (y := own_m4) (z := own_m4) hown (mvT hZ (own_w19 hw)) (mvT hZ (own_w20 hw)) (notFace_of_selects (args := #[]) (mvT hZ (own_w22 hw))) (mvT hZ (own_w22 hw)) (mvT hZ (own_w21 hw)) (by decide) (backOf (W := 1) (own_holds1m l Z a0 hw [] s0 s1 s2 s3 s4 s5 h0 n0 Z0 S0 F0 E0 S1 F1 E1 S2 F2 E2 S3 F3 E3 S4 F4 E4 S5 F5 E5) hZ (own_w23 hw) (own_w6 hw) (by decide) (by decide)) q11a q11c (g := (mkF m 31 #[.val (.int p1), .val (.int (1 : Int32)), .val (.ref s1), .val (.int (1 : Int32))] [(.int (-1 : Int32)), (.ref s1), (.int (1 : Int32))])) rfl (by rw [hml]; rfl) (Steps.refl _) (argsL := [(.int (-1 : Int32))]) (rest := [(.int (1 : Int32))]) (lenOf own_pd3 rfl) rfl (by show 2 * 0 + _ ≤ _; exact Nat.le_of_eq rfl) (hb hby at_31) (fun _ _ => ⟨rfl, e10, (by decide : 0 + 0 ≤ _), (by decide : 0 + 0 ≤ _)⟩)
    dsimp only [Pt.U, Pt.locs, Pt.cells, Pt.slots] at X11 l11 y11 z11 st11 hQ11
    subst l11 y11 z11
    obtain ⟨rfl, N11q, e11⟩ := hQ11
    have N11 := Fr.app N10 N11q
    obtain ⟨cq12, kq12, q12a, q12b, q12c⟩ := isOf hZ e11 E1
    obtain ⟨_, _, ⟨T12, L12, k12, n12⟩, -, X12, ⟨Lc12, hQ12, l12, y12, z12⟩, st12⟩ := X11.virtualBack hx (y := own_m4) (z := own_m4) hown (mvT hZ (own_w19 hw)) (mvT hZ (own_w20 hw)) (notFace_of_selects (args := #[]) (mvT hZ (own_w22 hw))) (mvT hZ (own_w22 hw)) (mvT hZ (own_w21 hw)) (by decide) (backOf (W := 2) (own_holds1p l Z a0 hw [] s0 s1 s2 s3 s4 s5 h0 n0 Z0 S0 F0 E0 S1 F1 E1 S2 F2 E2 S3 F3 E3 S4 F4 E4 S5 F5 E5) hZ (own_w23 hw) (own_w6 hw) (by decide) (by decide)) q12a q12c (g := (mkF m 36 #[.val (.int p1), .val (.int (1 : Int32)), .val (.ref s1), .val (.int (1 : Int32))] [(.int (1 : Int32)), (.ref s1), (.int (1 : Int32)), (.int (1 : Int32))])) rfl (by rw [hml]; rfl) (Steps.refl _) (argsL := [(.int (1 : Int32))]) (rest := [(.int (1 : Int32)), (.int (1 : Int32))]) (lenOf own_pd3 rfl) rfl (by show 2 * 0 + _ ≤ _; exact Nat.le_of_eq rfl) (hb hby at_36) (fun _ _ => ⟨rfl, e11, (by decide : 0 + 0 ≤ _), (by decide : 0 + 0 ≤ _)⟩)
    dsimp only [Pt.U, Pt.locs, Pt.cells, Pt.slots] at X12 l12 y12 z12 st12 hQ12
    subst l12 y12 z12
    obtain ⟨rfl, N12q, e12⟩ := hQ12
    have N12 := Fr.app N11 N12q
    obtain ⟨fs, hr, hrun, hended, hW, hsame⟩ := X12.leave (v := some (.int (1 : Int32))) (fun h => by rw [Bd.returns] at h; cases h)
    refine ⟨_, _, pre1 _ ?_, hrun, hended, _, _, rfl, ?_, ⟨_, rfl⟩, hW, hsame.mono (by decide) (by decide)⟩
    · show Steps _ _ _ (s₁.setTop (mkF m 8 #[.val (.int p1), .val (.int (1 : Int32)), .unset, .unset] [])) _
      refine XS.iloadN X0.here hx rfl (hb hby at_8) rfl ?_
      refine st8 _ ?_
      refine XS.astoreN X8.here hx rfl (hb hby at_12) rfl rfl (l' := #[.val (.int p1), .val (.int (1 : Int32)), .val (.ref s1), .unset]) rfl ?_
      refine XS.aloadN X8.here hx rfl (hb hby at_13) rfl rfl ?_
      show Steps _ _ _ (T8.setTop (mkF m 14 #[.val (.int p1), .val (.int (1 : Int32)), .val (.ref s1), .unset] [(.ref s1)])) _
      refine st9.trans ?_
      refine XS.istoreN X9.here hx rfl (hb hby at_17) rfl (l' := #[.val (.int p1), .val (.int (1 : Int32)), .val (.ref s1), .val (.int (1 : Int32))]) rfl ?_
      refine XS.iloadN X9.here hx rfl (hb hby at_18) rfl ?_
      refine XS.iloadN X9.here hx rfl (hb hby at_19) rfl ?_
      show Steps _ _ _ (T9.setTop (mkF m 20 #[.val (.int p1), .val (.int (1 : Int32)), .val (.ref s1), .val (.int (1 : Int32))] [(.int (1 : Int32)), (.int (1 : Int32))])) _
      refine st10 _ ?_
      refine XS.icmpYes X10.here hx rfl (pc0 := 23) (pc' := 28) rfl (hb hby at_23) rfl (teq (by decide : (1 : Int32) = (1 : Int32))).1 (by decide) (by decide) ?_
      refine XS.iloadN X10.here hx rfl (hb hby at_28) rfl ?_
      refine XS.aloadN X10.here hx rfl (hb hby at_29) rfl rfl ?_
      show Steps _ _ _ (T10.setTop (mkF m 30 #[.val (.int p1), .val (.int (1 : Int32)), .val (.ref s1), .val (.int (1 : Int32))] [(.ref s1), (.int (1 : Int32))])) _
      refine XS.iconst X10.here hx rfl (hb hby at_30) ?_
      refine st11.trans ?_
      refine XS.aloadN X11.here hx rfl (hb hby at_34) rfl rfl ?_
      refine XS.iconst X11.here hx rfl (hb hby at_35) ?_
      show Steps _ _ _ (T11.setTop (mkF m 36 #[.val (.int p1), .val (.int (1 : Int32)), .val (.ref s1), .val (.int (1 : Int32))] [(.int (1 : Int32)), (.ref s1), (.int (1 : Int32)), (.int (1 : Int32))])) _
      refine st12.trans ?_
      refine XS.icmpNo X12.here hx rfl (hb hby at_39) rfl (feq (by decide : ¬ ((1 : Int32) = (0 : Int32)))).1 ?_
      refine XS.iconst X12.here hx rfl (hb hby at_42) ?_
      refine XS.goto X12.here hx rfl (pc0 := 43) (pc' := 47) rfl (hb hby at_43) (by decide) (by decide) ?_
      show Steps _ _ _ (T12.setTop (mkF m 47 #[.val (.int p1), .val (.int (1 : Int32)), .val (.ref s1), .val (.int (1 : Int32))] [(.int (1 : Int32)), (.int (1 : Int32))])) _
      refine XS.icmpNo X12.here hx rfl (hb hby at_47) rfl (teq (by decide : (1 : Int32) = (1 : Int32))).2 ?_
      refine XS.iconst X12.here hx rfl (hb hby at_50) ?_
      refine XS.goto X12.here hx rfl (pc0 := 51) (pc' := 55) rfl (hb hby at_51) (by decide) (by decide) ?_
      show Steps _ _ _ (T12.setTop (mkF m 55 #[.val (.int p1), .val (.int (1 : Int32)), .val (.ref s1), .val (.int (1 : Int32))] [(.int (1 : Int32))])) _
      exact retN X12 hx (t := .boolean) Bd.returns (by simp) (hb hby at_55) hr
    · show Qown_law Z p1 s0 s1 s2 s3 s4 s5 h0 n0 _ T12.heap _
      rw [e12]
      exact ⟨rfl, N12⟩
  · skip
    rw [hs2] at pre1
    obtain ⟨_, _, ⟨T13, L13, k13, n13⟩, -, X13, ⟨Lc13, hQ13, l13, y13, z13⟩, st13⟩ := Jvm.LawKit.callS X0 hx (y := own_m1) hown (mvT hZ (own_w1 hw)) (mvT hZ (own_w2 hw)) (mvT hZ (own_w3 hw)) (mvT hZ (own_w4 hw)) (by decide) (backOf (W := 0) (own_pick2 l Z a0 hw [] s0 s1 s2 s3 s4 s5 h0 n0 Z0 S0 F0 E0 S1 F1 E1 S2 F2 E2 S3 F3 E3 S4 F4 E4 S5 F5 E5) hZ (own_w4 hw) (own_w3 hw) (by decide) (by decide)) (g := (mkF m 9 #[.val (.int p1), .val (.int (2 : Int32)), .unset, .unset] [(.int (2 : Int32))])) rfl (by rw [hml]; rfl) (argsL := [(.int (2 : Int32))]) (rest := []) (lenOf own_pd1 rfl) rfl (by show 2 * 0 + _ ≤ _; exact Nat.le_of_eq rfl) (hb hby at_9) (fun _ _ => ⟨rfl, e0, (by decide : 0 + 0 ≤ _), (by decide : 0 + 0 ≤ _)⟩)
    dsimp only [Pt.U, Pt.locs, Pt.cells, Pt.slots] at X13 l13 y13 z13 st13 hQ13
    subst l13 y13 z13
    obtain ⟨rfl, N13q, e13⟩ := hQ13
    have N13 := Fr.app N0 N13q
    obtain ⟨cq14, kq14, q14a, q14b, q14c⟩ := isOf hZ e13 E2
    obtain ⟨_, _, ⟨T14, L14, k14, n14⟩, -, X14, ⟨Lc14, hQ14, l14, y14, z14⟩, st14⟩ := X13.virtualBack hx (y := own_m2) (z := own_m2) hown (mvT hZ (own_w8 hw)) (mvT hZ (own_w9 hw)) (notFace_of_selects (args := #[]) (mvT hZ (own_w11 hw))) (mvT hZ (own_w11 hw)) (mvT hZ (own_w10 hw)) (by decide) (backOf (W := 0) (own_orders2 l Z a0 hw [] s0 s1 s2 s3 s4 s5 h0 n0 Z0 S0 F0 E0 S1 F1 E1 S2 F2 E2 S3 F3 E3 S4 F4 E4 S5 F5 E5) hZ (own_w12 hw) (own_w6 hw) (by decide) (by decide)) q14a q14c (g := (mkF m 14 #[.val (.int p1), .val (.int (2 : Int32)), .val (.ref s2), .unset] [(.ref s2)])) rfl (by rw [hml]; rfl) (Steps.refl _) (argsL := []) (rest := []) (lenOf own_pd2 rfl) rfl (by show 2 * 0 + _ ≤ _; exact Nat.le_of_eq rfl) (hb hby at_14) (fun _ _ => ⟨rfl, e13, (by decide : 0 + 0 ≤ _), (by decide : 0 + 0 ≤ _)⟩)
    dsimp only [Pt.U, Pt.locs, Pt.cells, Pt.slots] at X14 l14 y14 z14 st14 hQ14
    subst l14 y14 z14
    obtain ⟨rfl, N14q, e14⟩ := hQ14
    have N14 := Fr.app N13 N14q
    obtain ⟨_, _, ⟨T15, L15, k15, n15⟩, -, X15, ⟨Lc15, hQ15, l15, y15, z15⟩, st15⟩ := Jvm.LawKit.callS X14 hx (y := own_m3) hown (mvT hZ (own_w16 hw)) (mvT hZ (own_w17 hw)) (mvT hZ (own_w3 hw)) (mvT hZ (own_w18 hw)) (by decide) (backOf (W := 1) (own_expected2 l Z a0 hw [] h0 n0 Z0) hZ (own_w18 hw) (own_w3 hw) (by decide) (by decide)) (g := (mkF m 20 #[.val (.int p1), .val (.int (2 : Int32)), .val (.ref s2), .val (.int (1 : Int32))] [(.int (2 : Int32)), (.int (1 : Int32))])) rfl (by rw [hml]; rfl) (argsL := [(.int (2 : Int32))]) (rest := [(.int (1 : Int32))]) (lenOf own_pd3 rfl) rfl (by show 2 * 0 + _ ≤ _; exact Nat.le_of_eq rfl) (hb hby at_20) (fun _ _ => ⟨rfl, e14, (by decide : 0 + 0 ≤ _), (by decide : 0 + 0 ≤ _)⟩)
    dsimp only [Pt.U, Pt.locs, Pt.cells, Pt.slots] at X15 l15 y15 z15 st15 hQ15
    subst l15 y15 z15
    obtain ⟨rfl, N15q, e15⟩ := hQ15
    have N15 := Fr.app N14 N15q
    obtain ⟨cq16, kq16, q16a, q16b, q16c⟩ := isOf hZ e15 E2
    obtain ⟨_, _, ⟨T16, L16, k16, n16⟩, -, X16, ⟨Lc16, hQ16, l16, y16, z16⟩, st16⟩ := X15.virtualBack hx (y := own_m4) (z := own_m4) hown (mvT hZ (own_w19 hw)) (mvT hZ (own_w20 hw)) (notFace_of_selects (args := #[]) (mvT hZ (own_w22 hw))) (mvT hZ (own_w22 hw)) (mvT hZ (own_w21 hw)) (by decide) (backOf (W := 1) (own_holds2m l Z a0 hw [] s0 s1 s2 s3 s4 s5 h0 n0 Z0 S0 F0 E0 S1 F1 E1 S2 F2 E2 S3 F3 E3 S4 F4 E4 S5 F5 E5) hZ (own_w23 hw) (own_w6 hw) (by decide) (by decide)) q16a q16c (g := (mkF m 31 #[.val (.int p1), .val (.int (2 : Int32)), .val (.ref s2), .val (.int (1 : Int32))] [(.int (-1 : Int32)), (.ref s2), (.int (1 : Int32))])) rfl (by rw [hml]; rfl) (Steps.refl _) (argsL := [(.int (-1 : Int32))]) (rest := [(.int (1 : Int32))]) (lenOf own_pd3 rfl) rfl (by show 2 * 0 + _ ≤ _; exact Nat.le_of_eq rfl) (hb hby at_31) (fun _ _ => ⟨rfl, e15, (by decide : 0 + 0 ≤ _), (by decide : 0 + 0 ≤ _)⟩)
    dsimp only [Pt.U, Pt.locs, Pt.cells, Pt.slots] at X16 l16 y16 z16 st16 hQ16
    subst l16 y16 z16
    obtain ⟨rfl, N16q, e16⟩ := hQ16
    have N16 := Fr.app N15 N16q
    obtain ⟨cq17, kq17, q17a, q17b, q17c⟩ := isOf hZ e16 E2
    obtain ⟨_, _, ⟨T17, L17, k17, n17⟩, -, X17, ⟨Lc17, hQ17, l17, y17, z17⟩, st17⟩ := X16.virtualBack hx (y := own_m4) (z := own_m4) hown (mvT hZ (own_w19 hw)) (mvT hZ (own_w20 hw)) (notFace_of_selects (args := #[]) (mvT hZ (own_w22 hw))) (mvT hZ (own_w22 hw)) (mvT hZ (own_w21 hw)) (by decide) (backOf (W := 2) (own_holds2p l Z a0 hw [] s0 s1 s2 s3 s4 s5 h0 n0 Z0 S0 F0 E0 S1 F1 E1 S2 F2 E2 S3 F3 E3 S4 F4 E4 S5 F5 E5) hZ (own_w23 hw) (own_w6 hw) (by decide) (by decide)) q17a q17c (g := (mkF m 36 #[.val (.int p1), .val (.int (2 : Int32)), .val (.ref s2), .val (.int (1 : Int32))] [(.int (1 : Int32)), (.ref s2), (.int (0 : Int32)), (.int (1 : Int32))])) rfl (by rw [hml]; rfl) (Steps.refl _) (argsL := [(.int (1 : Int32))]) (rest := [(.int (0 : Int32)), (.int (1 : Int32))]) (lenOf own_pd3 rfl) rfl (by show 2 * 0 + _ ≤ _; exact Nat.le_of_eq rfl) (hb hby at_36) (fun _ _ => ⟨rfl, e16, (by decide : 0 + 0 ≤ _), (by decide : 0 + 0 ≤ _)⟩)
    dsimp only [Pt.U, Pt.locs, Pt.cells, Pt.slots] at X17 l17 y17 z17 st17 hQ17
    subst l17 y17 z17
    obtain ⟨rfl, N17q, e17⟩ := hQ17
    have N17 := Fr.app N16 N17q
    obtain ⟨fs, hr, hrun, hended, hW, hsame⟩ := X17.leave (v := some (.int (1 : Int32))) (fun h => by rw [Bd.returns] at h; cases h)
    refine ⟨_, _, pre1 _ ?_, hrun, hended, _, _, rfl, ?_, ⟨_, rfl⟩, hW, hsame.mono (by decide) (by decide)⟩
    · show Steps _ _ _ (s₁.setTop (mkF m 8 #[.val (.int p1), .val (.int (2 : Int32)), .unset, .unset] [])) _
      refine XS.iloadN X0.here hx rfl (hb hby at_8) rfl ?_
      refine st13 _ ?_
      refine XS.astoreN X13.here hx rfl (hb hby at_12) rfl rfl (l' := #[.val (.int p1), .val (.int (2 : Int32)), .val (.ref s2), .unset]) rfl ?_
      refine XS.aloadN X13.here hx rfl (hb hby at_13) rfl rfl ?_
      show Steps _ _ _ (T13.setTop (mkF m 14 #[.val (.int p1), .val (.int (2 : Int32)), .val (.ref s2), .unset] [(.ref s2)])) _
      refine st14.trans ?_
      refine XS.istoreN X14.here hx rfl (hb hby at_17) rfl (l' := #[.val (.int p1), .val (.int (2 : Int32)), .val (.ref s2), .val (.int (1 : Int32))]) rfl ?_
      refine XS.iloadN X14.here hx rfl (hb hby at_18) rfl ?_
      refine XS.iloadN X14.here hx rfl (hb hby at_19) rfl ?_
      show Steps _ _ _ (T14.setTop (mkF m 20 #[.val (.int p1), .val (.int (2 : Int32)), .val (.ref s2), .val (.int (1 : Int32))] [(.int (2 : Int32)), (.int (1 : Int32))])) _
      refine st15 _ ?_
      refine XS.icmpYes X15.here hx rfl (pc0 := 23) (pc' := 28) rfl (hb hby at_23) rfl (teq (by decide : (1 : Int32) = (1 : Int32))).1 (by decide) (by decide) ?_
      refine XS.iloadN X15.here hx rfl (hb hby at_28) rfl ?_
      refine XS.aloadN X15.here hx rfl (hb hby at_29) rfl rfl ?_
      show Steps _ _ _ (T15.setTop (mkF m 30 #[.val (.int p1), .val (.int (2 : Int32)), .val (.ref s2), .val (.int (1 : Int32))] [(.ref s2), (.int (1 : Int32))])) _
      refine XS.iconst X15.here hx rfl (hb hby at_30) ?_
      refine st16.trans ?_
      refine XS.aloadN X16.here hx rfl (hb hby at_34) rfl rfl ?_
      refine XS.iconst X16.here hx rfl (hb hby at_35) ?_
      show Steps _ _ _ (T16.setTop (mkF m 36 #[.val (.int p1), .val (.int (2 : Int32)), .val (.ref s2), .val (.int (1 : Int32))] [(.int (1 : Int32)), (.ref s2), (.int (0 : Int32)), (.int (1 : Int32))])) _
      refine st17.trans ?_
      refine XS.icmpNo X17.here hx rfl (hb hby at_39) rfl (feq (by decide : ¬ ((0 : Int32) = (1 : Int32)))).1 ?_
      refine XS.iconst X17.here hx rfl (hb hby at_42) ?_
      refine XS.goto X17.here hx rfl (pc0 := 43) (pc' := 47) rfl (hb hby at_43) (by decide) (by decide) ?_
      show Steps _ _ _ (T17.setTop (mkF m 47 #[.val (.int p1), .val (.int (2 : Int32)), .val (.ref s2), .val (.int (1 : Int32))] [(.int (1 : Int32)), (.int (1 : Int32))])) _
      refine XS.icmpNo X17.here hx rfl (hb hby at_47) rfl (teq (by decide : (1 : Int32) = (1 : Int32))).2 ?_
      refine XS.iconst X17.here hx rfl (hb hby at_50) ?_
      refine XS.goto X17.here hx rfl (pc0 := 51) (pc' := 55) rfl (hb hby at_51) (by decide) (by decide) ?_
      show Steps _ _ _ (T17.setTop (mkF m 55 #[.val (.int p1), .val (.int (2 : Int32)), .val (.ref s2), .val (.int (1 : Int32))] [(.int (1 : Int32))])) _
      exact retN X17 hx (t := .boolean) Bd.returns (by simp) (hb hby at_55) hr
    · show Qown_law Z p1 s0 s1 s2 s3 s4 s5 h0 n0 _ T17.heap _
      rw [e17]
      exact ⟨rfl, N17⟩
  · skip
    rw [hs2] at pre1
    obtain ⟨_, _, ⟨T18, L18, k18, n18⟩, -, X18, ⟨Lc18, hQ18, l18, y18, z18⟩, st18⟩ := Jvm.LawKit.callS X0 hx (y := own_m1) hown (mvT hZ (own_w1 hw)) (mvT hZ (own_w2 hw)) (mvT hZ (own_w3 hw)) (mvT hZ (own_w4 hw)) (by decide) (backOf (W := 0) (own_pick3 l Z a0 hw [] s0 s1 s2 s3 s4 s5 h0 n0 Z0 S0 F0 E0 S1 F1 E1 S2 F2 E2 S3 F3 E3 S4 F4 E4 S5 F5 E5) hZ (own_w4 hw) (own_w3 hw) (by decide) (by decide)) (g := (mkF m 9 #[.val (.int p1), .val (.int (3 : Int32)), .unset, .unset] [(.int (3 : Int32))])) rfl (by rw [hml]; rfl) (argsL := [(.int (3 : Int32))]) (rest := []) (lenOf own_pd1 rfl) rfl (by show 2 * 0 + _ ≤ _; exact Nat.le_of_eq rfl) (hb hby at_9) (fun _ _ => ⟨rfl, e0, (by decide : 0 + 0 ≤ _), (by decide : 0 + 0 ≤ _)⟩)
    dsimp only [Pt.U, Pt.locs, Pt.cells, Pt.slots] at X18 l18 y18 z18 st18 hQ18
    subst l18 y18 z18
    obtain ⟨rfl, N18q, e18⟩ := hQ18
    have N18 := Fr.app N0 N18q
    obtain ⟨cq19, kq19, q19a, q19b, q19c⟩ := isOf hZ e18 E3
    obtain ⟨_, _, ⟨T19, L19, k19, n19⟩, -, X19, ⟨Lc19, hQ19, l19, y19, z19⟩, st19⟩ := X18.virtualBack hx (y := own_m2) (z := own_m2) hown (mvT hZ (own_w8 hw)) (mvT hZ (own_w9 hw)) (notFace_of_selects (args := #[]) (mvT hZ (own_w11 hw))) (mvT hZ (own_w11 hw)) (mvT hZ (own_w10 hw)) (by decide) (backOf (W := 0) (own_orders3 l Z a0 hw [] s0 s1 s2 s3 s4 s5 h0 n0 Z0 S0 F0 E0 S1 F1 E1 S2 F2 E2 S3 F3 E3 S4 F4 E4 S5 F5 E5) hZ (own_w12 hw) (own_w6 hw) (by decide) (by decide)) q19a q19c (g := (mkF m 14 #[.val (.int p1), .val (.int (3 : Int32)), .val (.ref s3), .unset] [(.ref s3)])) rfl (by rw [hml]; rfl) (Steps.refl _) (argsL := []) (rest := []) (lenOf own_pd2 rfl) rfl (by show 2 * 0 + _ ≤ _; exact Nat.le_of_eq rfl) (hb hby at_14) (fun _ _ => ⟨rfl, e18, (by decide : 0 + 0 ≤ _), (by decide : 0 + 0 ≤ _)⟩)
    dsimp only [Pt.U, Pt.locs, Pt.cells, Pt.slots] at X19 l19 y19 z19 st19 hQ19
    subst l19 y19 z19
    obtain ⟨rfl, N19q, e19⟩ := hQ19
    have N19 := Fr.app N18 N19q
    obtain ⟨_, _, ⟨T20, L20, k20, n20⟩, -, X20, ⟨Lc20, hQ20, l20, y20, z20⟩, st20⟩ := Jvm.LawKit.callS X19 hx (y := own_m3) hown (mvT hZ (own_w16 hw)) (mvT hZ (own_w17 hw)) (mvT hZ (own_w3 hw)) (mvT hZ (own_w18 hw)) (by decide) (backOf (W := 1) (own_expected3 l Z a0 hw [] h0 n0 Z0) hZ (own_w18 hw) (own_w3 hw) (by decide) (by decide)) (g := (mkF m 20 #[.val (.int p1), .val (.int (3 : Int32)), .val (.ref s3), .val (.int (0 : Int32))] [(.int (3 : Int32)), (.int (0 : Int32))])) rfl (by rw [hml]; rfl) (argsL := [(.int (3 : Int32))]) (rest := [(.int (0 : Int32))]) (lenOf own_pd3 rfl) rfl (by show 2 * 0 + _ ≤ _; exact Nat.le_of_eq rfl) (hb hby at_20) (fun _ _ => ⟨rfl, e19, (by decide : 0 + 0 ≤ _), (by decide : 0 + 0 ≤ _)⟩)
    dsimp only [Pt.U, Pt.locs, Pt.cells, Pt.slots] at X20 l20 y20 z20 st20 hQ20
    subst l20 y20 z20
    obtain ⟨rfl, N20q, e20⟩ := hQ20
    have N20 := Fr.app N19 N20q
    obtain ⟨cq21, kq21, q21a, q21b, q21c⟩ := isOf hZ e20 E3
    obtain ⟨_, _, ⟨T21, L21, k21, n21⟩, -, X21, ⟨Lc21, hQ21, l21, y21, z21⟩, st21⟩ := X20.virtualBack hx (y := own_m4) (z := own_m4) hown (mvT hZ (own_w19 hw)) (mvT hZ (own_w20 hw)) (notFace_of_selects (args := #[]) (mvT hZ (own_w22 hw))) (mvT hZ (own_w22 hw)) (mvT hZ (own_w21 hw)) (by decide) (backOf (W := 1) (own_holds3m l Z a0 hw [] s0 s1 s2 s3 s4 s5 h0 n0 Z0 S0 F0 E0 S1 F1 E1 S2 F2 E2 S3 F3 E3 S4 F4 E4 S5 F5 E5) hZ (own_w23 hw) (own_w6 hw) (by decide) (by decide)) q21a q21c (g := (mkF m 31 #[.val (.int p1), .val (.int (3 : Int32)), .val (.ref s3), .val (.int (0 : Int32))] [(.int (-1 : Int32)), (.ref s3), (.int (0 : Int32))])) rfl (by rw [hml]; rfl) (Steps.refl _) (argsL := [(.int (-1 : Int32))]) (rest := [(.int (0 : Int32))]) (lenOf own_pd3 rfl) rfl (by show 2 * 0 + _ ≤ _; exact Nat.le_of_eq rfl) (hb hby at_31) (fun _ _ => ⟨rfl, e20, (by decide : 0 + 0 ≤ _), (by decide : 0 + 0 ≤ _)⟩)
    dsimp only [Pt.U, Pt.locs, Pt.cells, Pt.slots] at X21 l21 y21 z21 st21 hQ21
    subst l21 y21 z21
    obtain ⟨rfl, N21q, e21⟩ := hQ21
    have N21 := Fr.app N20 N21q
    obtain ⟨cq22, kq22, q22a, q22b, q22c⟩ := isOf hZ e21 E3
    obtain ⟨_, _, ⟨T22, L22, k22, n22⟩, -, X22, ⟨Lc22, hQ22, l22, y22, z22⟩, st22⟩ := X21.virtualBack hx (y := own_m4) (z := own_m4) hown (mvT hZ (own_w19 hw)) (mvT hZ (own_w20 hw)) (notFace_of_selects (args := #[]) (mvT hZ (own_w22 hw))) (mvT hZ (own_w22 hw)) (mvT hZ (own_w21 hw)) (by decide) (backOf (W := 2) (own_holds3p l Z a0 hw [] s0 s1 s2 s3 s4 s5 h0 n0 Z0 S0 F0 E0 S1 F1 E1 S2 F2 E2 S3 F3 E3 S4 F4 E4 S5 F5 E5) hZ (own_w23 hw) (own_w6 hw) (by decide) (by decide)) q22a q22c (g := (mkF m 36 #[.val (.int p1), .val (.int (3 : Int32)), .val (.ref s3), .val (.int (0 : Int32))] [(.int (1 : Int32)), (.ref s3), (.int (0 : Int32)), (.int (0 : Int32))])) rfl (by rw [hml]; rfl) (Steps.refl _) (argsL := [(.int (1 : Int32))]) (rest := [(.int (0 : Int32)), (.int (0 : Int32))]) (lenOf own_pd3 rfl) rfl (by show 2 * 0 + _ ≤ _; exact Nat.le_of_eq rfl) (hb hby at_36) (fun _ _ => ⟨rfl, e21, (by decide : 0 + 0 ≤ _), (by decide : 0 + 0 ≤ _)⟩)
    dsimp only [Pt.U, Pt.locs, Pt.cells, Pt.slots] at X22 l22 y22 z22 st22 hQ22
    subst l22 y22 z22
    obtain ⟨rfl, N22q, e22⟩ := hQ22
    have N22 := Fr.app N21 N22q
    obtain ⟨fs, hr, hrun, hended, hW, hsame⟩ := X22.leave (v := some (.int (1 : Int32))) (fun h => by rw [Bd.returns] at h; cases h)
    refine ⟨_, _, pre1 _ ?_, hrun, hended, _, _, rfl, ?_, ⟨_, rfl⟩, hW, hsame.mono (by decide) (by decide)⟩
    · show Steps _ _ _ (s₁.setTop (mkF m 8 #[.val (.int p1), .val (.int (3 : Int32)), .unset, .unset] [])) _
      refine XS.iloadN X0.here hx rfl (hb hby at_8) rfl ?_
      refine st18 _ ?_
      refine XS.astoreN X18.here hx rfl (hb hby at_12) rfl rfl (l' := #[.val (.int p1), .val (.int (3 : Int32)), .val (.ref s3), .unset]) rfl ?_
      refine XS.aloadN X18.here hx rfl (hb hby at_13) rfl rfl ?_
      show Steps _ _ _ (T18.setTop (mkF m 14 #[.val (.int p1), .val (.int (3 : Int32)), .val (.ref s3), .unset] [(.ref s3)])) _
      refine st19.trans ?_
      refine XS.istoreN X19.here hx rfl (hb hby at_17) rfl (l' := #[.val (.int p1), .val (.int (3 : Int32)), .val (.ref s3), .val (.int (0 : Int32))]) rfl ?_
      refine XS.iloadN X19.here hx rfl (hb hby at_18) rfl ?_
      refine XS.iloadN X19.here hx rfl (hb hby at_19) rfl ?_
      show Steps _ _ _ (T19.setTop (mkF m 20 #[.val (.int p1), .val (.int (3 : Int32)), .val (.ref s3), .val (.int (0 : Int32))] [(.int (3 : Int32)), (.int (0 : Int32))])) _
      refine st20 _ ?_
      refine XS.icmpYes X20.here hx rfl (pc0 := 23) (pc' := 28) rfl (hb hby at_23) rfl (teq (by decide : (0 : Int32) = (0 : Int32))).1 (by decide) (by decide) ?_
      refine XS.iloadN X20.here hx rfl (hb hby at_28) rfl ?_
      refine XS.aloadN X20.here hx rfl (hb hby at_29) rfl rfl ?_
      show Steps _ _ _ (T20.setTop (mkF m 30 #[.val (.int p1), .val (.int (3 : Int32)), .val (.ref s3), .val (.int (0 : Int32))] [(.ref s3), (.int (0 : Int32))])) _
      refine XS.iconst X20.here hx rfl (hb hby at_30) ?_
      refine st21.trans ?_
      refine XS.aloadN X21.here hx rfl (hb hby at_34) rfl rfl ?_
      refine XS.iconst X21.here hx rfl (hb hby at_35) ?_
      show Steps _ _ _ (T21.setTop (mkF m 36 #[.val (.int p1), .val (.int (3 : Int32)), .val (.ref s3), .val (.int (0 : Int32))] [(.int (1 : Int32)), (.ref s3), (.int (0 : Int32)), (.int (0 : Int32))])) _
      refine st22.trans ?_
      refine XS.icmpYes X22.here hx rfl (pc0 := 39) (pc' := 46) rfl (hb hby at_39) rfl (teq (by decide : (0 : Int32) = (0 : Int32))).1 (by decide) (by decide) ?_
      refine XS.iconst X22.here hx rfl (hb hby at_46) ?_
      refine XS.icmpNo X22.here hx rfl (hb hby at_47) rfl (teq (by decide : (0 : Int32) = (0 : Int32))).2 ?_
      show Steps _ _ _ (T22.setTop (mkF m 50 #[.val (.int p1), .val (.int (3 : Int32)), .val (.ref s3), .val (.int (0 : Int32))] [])) _
      refine XS.iconst X22.here hx rfl (hb hby at_50) ?_
      refine XS.goto X22.here hx rfl (pc0 := 51) (pc' := 55) rfl (hb hby at_51) (by decide) (by decide) ?_
      show Steps _ _ _ (T22.setTop (mkF m 55 #[.val (.int p1), .val (.int (3 : Int32)), .val (.ref s3), .val (.int (0 : Int32))] [(.int (1 : Int32))])) _
      exact retN X22 hx (t := .boolean) Bd.returns (by simp) (hb hby at_55) hr
    · show Qown_law Z p1 s0 s1 s2 s3 s4 s5 h0 n0 _ T22.heap _
      rw [e22]
      exact ⟨rfl, N22⟩
  · skip
    rw [hs2] at pre1
    obtain ⟨_, _, ⟨T23, L23, k23, n23⟩, -, X23, ⟨Lc23, hQ23, l23, y23, z23⟩, st23⟩ := Jvm.LawKit.callS X0 hx (y := own_m1) hown (mvT hZ (own_w1 hw)) (mvT hZ (own_w2 hw)) (mvT hZ (own_w3 hw)) (mvT hZ (own_w4 hw)) (by decide) (backOf (W := 0) (own_pick4 l Z a0 hw [] s0 s1 s2 s3 s4 s5 h0 n0 Z0 S0 F0 E0 S1 F1 E1 S2 F2 E2 S3 F3 E3 S4 F4 E4 S5 F5 E5) hZ (own_w4 hw) (own_w3 hw) (by decide) (by decide)) (g := (mkF m 9 #[.val (.int p1), .val (.int (4 : Int32)), .unset, .unset] [(.int (4 : Int32))])) rfl (by rw [hml]; rfl) (argsL := [(.int (4 : Int32))]) (rest := []) (lenOf own_pd1 rfl) rfl (by show 2 * 0 + _ ≤ _; exact Nat.le_of_eq rfl) (hb hby at_9) (fun _ _ => ⟨rfl, e0, (by decide : 0 + 0 ≤ _), (by decide : 0 + 0 ≤ _)⟩)
    dsimp only [Pt.U, Pt.locs, Pt.cells, Pt.slots] at X23 l23 y23 z23 st23 hQ23
    subst l23 y23 z23
    obtain ⟨rfl, N23q, e23⟩ := hQ23
    have N23 := Fr.app N0 N23q
    obtain ⟨cq24, kq24, q24a, q24b, q24c⟩ := isOf hZ e23 E4
    obtain ⟨_, _, ⟨T24, L24, k24, n24⟩, -, X24, ⟨Lc24, hQ24, l24, y24, z24⟩, st24⟩ := X23.virtualBack hx (y := own_m2) (z := own_m2) hown (mvT hZ (own_w8 hw)) (mvT hZ (own_w9 hw)) (notFace_of_selects (args := #[]) (mvT hZ (own_w11 hw))) (mvT hZ (own_w11 hw)) (mvT hZ (own_w10 hw)) (by decide) (backOf (W := 0) (own_orders4 l Z a0 hw [] s0 s1 s2 s3 s4 s5 h0 n0 Z0 S0 F0 E0 S1 F1 E1 S2 F2 E2 S3 F3 E3 S4 F4 E4 S5 F5 E5) hZ (own_w12 hw) (own_w6 hw) (by decide) (by decide)) q24a q24c (g := (mkF m 14 #[.val (.int p1), .val (.int (4 : Int32)), .val (.ref s4), .unset] [(.ref s4)])) rfl (by rw [hml]; rfl) (Steps.refl _) (argsL := []) (rest := []) (lenOf own_pd2 rfl) rfl (by show 2 * 0 + _ ≤ _; exact Nat.le_of_eq rfl) (hb hby at_14) (fun _ _ => ⟨rfl, e23, (by decide : 0 + 0 ≤ _), (by decide : 0 + 0 ≤ _)⟩)
    dsimp only [Pt.U, Pt.locs, Pt.cells, Pt.slots] at X24 l24 y24 z24 st24 hQ24
    subst l24 y24 z24
    obtain ⟨rfl, N24q, e24⟩ := hQ24
    have N24 := Fr.app N23 N24q
    obtain ⟨_, _, ⟨T25, L25, k25, n25⟩, -, X25, ⟨Lc25, hQ25, l25, y25, z25⟩, st25⟩ := Jvm.LawKit.callS X24 hx (y := own_m3) hown (mvT hZ (own_w16 hw)) (mvT hZ (own_w17 hw)) (mvT hZ (own_w3 hw)) (mvT hZ (own_w18 hw)) (by decide) (backOf (W := 1) (own_expected4 l Z a0 hw [] h0 n0 Z0) hZ (own_w18 hw) (own_w3 hw) (by decide) (by decide)) (g := (mkF m 20 #[.val (.int p1), .val (.int (4 : Int32)), .val (.ref s4), .val (.int (1 : Int32))] [(.int (4 : Int32)), (.int (1 : Int32))])) rfl (by rw [hml]; rfl) (argsL := [(.int (4 : Int32))]) (rest := [(.int (1 : Int32))]) (lenOf own_pd3 rfl) rfl (by show 2 * 0 + _ ≤ _; exact Nat.le_of_eq rfl) (hb hby at_20) (fun _ _ => ⟨rfl, e24, (by decide : 0 + 0 ≤ _), (by decide : 0 + 0 ≤ _)⟩)
    dsimp only [Pt.U, Pt.locs, Pt.cells, Pt.slots] at X25 l25 y25 z25 st25 hQ25
    subst l25 y25 z25
    obtain ⟨rfl, N25q, e25⟩ := hQ25
    have N25 := Fr.app N24 N25q
    obtain ⟨cq26, kq26, q26a, q26b, q26c⟩ := isOf hZ e25 E4
    obtain ⟨_, _, ⟨T26, L26, k26, n26⟩, -, X26, ⟨Lc26, hQ26, l26, y26, z26⟩, st26⟩ := X25.virtualBack hx (y := own_m4) (z := own_m4) hown (mvT hZ (own_w19 hw)) (mvT hZ (own_w20 hw)) (notFace_of_selects (args := #[]) (mvT hZ (own_w22 hw))) (mvT hZ (own_w22 hw)) (mvT hZ (own_w21 hw)) (by decide) (backOf (W := 1) (own_holds4m l Z a0 hw [] s0 s1 s2 s3 s4 s5 h0 n0 Z0 S0 F0 E0 S1 F1 E1 S2 F2 E2 S3 F3 E3 S4 F4 E4 S5 F5 E5) hZ (own_w23 hw) (own_w6 hw) (by decide) (by decide)) q26a q26c (g := (mkF m 31 #[.val (.int p1), .val (.int (4 : Int32)), .val (.ref s4), .val (.int (1 : Int32))] [(.int (-1 : Int32)), (.ref s4), (.int (1 : Int32))])) rfl (by rw [hml]; rfl) (Steps.refl _) (argsL := [(.int (-1 : Int32))]) (rest := [(.int (1 : Int32))]) (lenOf own_pd3 rfl) rfl (by show 2 * 0 + _ ≤ _; exact Nat.le_of_eq rfl) (hb hby at_31) (fun _ _ => ⟨rfl, e25, (by decide : 0 + 0 ≤ _), (by decide : 0 + 0 ≤ _)⟩)
    dsimp only [Pt.U, Pt.locs, Pt.cells, Pt.slots] at X26 l26 y26 z26 st26 hQ26
    subst l26 y26 z26
    obtain ⟨rfl, N26q, e26⟩ := hQ26
    have N26 := Fr.app N25 N26q
    obtain ⟨cq27, kq27, q27a, q27b, q27c⟩ := isOf hZ e26 E4
    obtain ⟨_, _, ⟨T27, L27, k27, n27⟩, -, X27, ⟨Lc27, hQ27, l27, y27, z27⟩, st27⟩ := X26.virtualBack hx (y := own_m4) (z := own_m4) hown (mvT hZ (own_w19 hw)) (mvT hZ (own_w20 hw)) (notFace_of_selects (args := #[]) (mvT hZ (own_w22 hw))) (mvT hZ (own_w22 hw)) (mvT hZ (own_w21 hw)) (by decide) (backOf (W := 2) (own_holds4p l Z a0 hw [] s0 s1 s2 s3 s4 s5 h0 n0 Z0 S0 F0 E0 S1 F1 E1 S2 F2 E2 S3 F3 E3 S4 F4 E4 S5 F5 E5) hZ (own_w23 hw) (own_w6 hw) (by decide) (by decide)) q27a q27c (g := (mkF m 36 #[.val (.int p1), .val (.int (4 : Int32)), .val (.ref s4), .val (.int (1 : Int32))] [(.int (1 : Int32)), (.ref s4), (.int (1 : Int32)), (.int (1 : Int32))])) rfl (by rw [hml]; rfl) (Steps.refl _) (argsL := [(.int (1 : Int32))]) (rest := [(.int (1 : Int32)), (.int (1 : Int32))]) (lenOf own_pd3 rfl) rfl (by show 2 * 0 + _ ≤ _; exact Nat.le_of_eq rfl) (hb hby at_36) (fun _ _ => ⟨rfl, e26, (by decide : 0 + 0 ≤ _), (by decide : 0 + 0 ≤ _)⟩)
    dsimp only [Pt.U, Pt.locs, Pt.cells, Pt.slots] at X27 l27 y27 z27 st27 hQ27
    subst l27 y27 z27
    obtain ⟨rfl, N27q, e27⟩ := hQ27
    have N27 := Fr.app N26 N27q
    obtain ⟨fs, hr, hrun, hended, hW, hsame⟩ := X27.leave (v := some (.int (1 : Int32))) (fun h => by rw [Bd.returns] at h; cases h)
    refine ⟨_, _, pre1 _ ?_, hrun, hended, _, _, rfl, ?_, ⟨_, rfl⟩, hW, hsame.mono (by decide) (by decide)⟩
    · show Steps _ _ _ (s₁.setTop (mkF m 8 #[.val (.int p1), .val (.int (4 : Int32)), .unset, .unset] [])) _
      refine XS.iloadN X0.here hx rfl (hb hby at_8) rfl ?_
      refine st23 _ ?_
      refine XS.astoreN X23.here hx rfl (hb hby at_12) rfl rfl (l' := #[.val (.int p1), .val (.int (4 : Int32)), .val (.ref s4), .unset]) rfl ?_
      refine XS.aloadN X23.here hx rfl (hb hby at_13) rfl rfl ?_
      show Steps _ _ _ (T23.setTop (mkF m 14 #[.val (.int p1), .val (.int (4 : Int32)), .val (.ref s4), .unset] [(.ref s4)])) _
      refine st24.trans ?_
      refine XS.istoreN X24.here hx rfl (hb hby at_17) rfl (l' := #[.val (.int p1), .val (.int (4 : Int32)), .val (.ref s4), .val (.int (1 : Int32))]) rfl ?_
      refine XS.iloadN X24.here hx rfl (hb hby at_18) rfl ?_
      refine XS.iloadN X24.here hx rfl (hb hby at_19) rfl ?_
      show Steps _ _ _ (T24.setTop (mkF m 20 #[.val (.int p1), .val (.int (4 : Int32)), .val (.ref s4), .val (.int (1 : Int32))] [(.int (4 : Int32)), (.int (1 : Int32))])) _
      refine st25 _ ?_
      refine XS.icmpYes X25.here hx rfl (pc0 := 23) (pc' := 28) rfl (hb hby at_23) rfl (teq (by decide : (1 : Int32) = (1 : Int32))).1 (by decide) (by decide) ?_
      refine XS.iloadN X25.here hx rfl (hb hby at_28) rfl ?_
      refine XS.aloadN X25.here hx rfl (hb hby at_29) rfl rfl ?_
      show Steps _ _ _ (T25.setTop (mkF m 30 #[.val (.int p1), .val (.int (4 : Int32)), .val (.ref s4), .val (.int (1 : Int32))] [(.ref s4), (.int (1 : Int32))])) _
      refine XS.iconst X25.here hx rfl (hb hby at_30) ?_
      refine st26.trans ?_
      refine XS.aloadN X26.here hx rfl (hb hby at_34) rfl rfl ?_
      refine XS.iconst X26.here hx rfl (hb hby at_35) ?_
      show Steps _ _ _ (T26.setTop (mkF m 36 #[.val (.int p1), .val (.int (4 : Int32)), .val (.ref s4), .val (.int (1 : Int32))] [(.int (1 : Int32)), (.ref s4), (.int (1 : Int32)), (.int (1 : Int32))])) _
      refine st27.trans ?_
      refine XS.icmpNo X27.here hx rfl (hb hby at_39) rfl (feq (by decide : ¬ ((1 : Int32) = (0 : Int32)))).1 ?_
      refine XS.iconst X27.here hx rfl (hb hby at_42) ?_
      refine XS.goto X27.here hx rfl (pc0 := 43) (pc' := 47) rfl (hb hby at_43) (by decide) (by decide) ?_
      show Steps _ _ _ (T27.setTop (mkF m 47 #[.val (.int p1), .val (.int (4 : Int32)), .val (.ref s4), .val (.int (1 : Int32))] [(.int (1 : Int32)), (.int (1 : Int32))])) _
      refine XS.icmpNo X27.here hx rfl (hb hby at_47) rfl (teq (by decide : (1 : Int32) = (1 : Int32))).2 ?_
      refine XS.iconst X27.here hx rfl (hb hby at_50) ?_
      refine XS.goto X27.here hx rfl (pc0 := 51) (pc' := 55) rfl (hb hby at_51) (by decide) (by decide) ?_
      show Steps _ _ _ (T27.setTop (mkF m 55 #[.val (.int p1), .val (.int (4 : Int32)), .val (.ref s4), .val (.int (1 : Int32))] [(.int (1 : Int32))])) _
      exact retN X27 hx (t := .boolean) Bd.returns (by simp) (hb hby at_55) hr
    · show Qown_law Z p1 s0 s1 s2 s3 s4 s5 h0 n0 _ T27.heap _
      rw [e27]
      exact ⟨rfl, N27⟩
  · skip
    rw [hs2] at pre1
    obtain ⟨_, _, ⟨T28, L28, k28, n28⟩, -, X28, ⟨Lc28, hQ28, l28, y28, z28⟩, st28⟩ := Jvm.LawKit.callS X0 hx (y := own_m1) hown (mvT hZ (own_w1 hw)) (mvT hZ (own_w2 hw)) (mvT hZ (own_w3 hw)) (mvT hZ (own_w4 hw)) (by decide) (backOf (W := 0) (own_pick5 l Z a0 hw [] s0 s1 s2 s3 s4 s5 h0 n0 Z0 S0 F0 E0 S1 F1 E1 S2 F2 E2 S3 F3 E3 S4 F4 E4 S5 F5 E5) hZ (own_w4 hw) (own_w3 hw) (by decide) (by decide)) (g := (mkF m 9 #[.val (.int p1), .val (.int (5 : Int32)), .unset, .unset] [(.int (5 : Int32))])) rfl (by rw [hml]; rfl) (argsL := [(.int (5 : Int32))]) (rest := []) (lenOf own_pd1 rfl) rfl (by show 2 * 0 + _ ≤ _; exact Nat.le_of_eq rfl) (hb hby at_9) (fun _ _ => ⟨rfl, e0, (by decide : 0 + 0 ≤ _), (by decide : 0 + 0 ≤ _)⟩)
    dsimp only [Pt.U, Pt.locs, Pt.cells, Pt.slots] at X28 l28 y28 z28 st28 hQ28
    subst l28 y28 z28
    obtain ⟨rfl, N28q, e28⟩ := hQ28
    have N28 := Fr.app N0 N28q
    obtain ⟨cq29, kq29, q29a, q29b, q29c⟩ := isOf hZ e28 E5
    obtain ⟨_, _, ⟨T29, L29, k29, n29⟩, -, X29, ⟨Lc29, hQ29, l29, y29, z29⟩, st29⟩ := X28.virtualBack hx (y := own_m2) (z := own_m2) hown (mvT hZ (own_w8 hw)) (mvT hZ (own_w9 hw)) (notFace_of_selects (args := #[]) (mvT hZ (own_w11 hw))) (mvT hZ (own_w11 hw)) (mvT hZ (own_w10 hw)) (by decide) (backOf (W := 0) (own_orders5 l Z a0 hw [] s0 s1 s2 s3 s4 s5 h0 n0 Z0 S0 F0 E0 S1 F1 E1 S2 F2 E2 S3 F3 E3 S4 F4 E4 S5 F5 E5) hZ (own_w12 hw) (own_w6 hw) (by decide) (by decide)) q29a q29c (g := (mkF m 14 #[.val (.int p1), .val (.int (5 : Int32)), .val (.ref s5), .unset] [(.ref s5)])) rfl (by rw [hml]; rfl) (Steps.refl _) (argsL := []) (rest := []) (lenOf own_pd2 rfl) rfl (by show 2 * 0 + _ ≤ _; exact Nat.le_of_eq rfl) (hb hby at_14) (fun _ _ => ⟨rfl, e28, (by decide : 0 + 0 ≤ _), (by decide : 0 + 0 ≤ _)⟩)
    dsimp only [Pt.U, Pt.locs, Pt.cells, Pt.slots] at X29 l29 y29 z29 st29 hQ29
    subst l29 y29 z29
    obtain ⟨rfl, N29q, e29⟩ := hQ29
    have N29 := Fr.app N28 N29q
    obtain ⟨_, _, ⟨T30, L30, k30, n30⟩, -, X30, ⟨Lc30, hQ30, l30, y30, z30⟩, st30⟩ := Jvm.LawKit.callS X29 hx (y := own_m3) hown (mvT hZ (own_w16 hw)) (mvT hZ (own_w17 hw)) (mvT hZ (own_w3 hw)) (mvT hZ (own_w18 hw)) (by decide) (backOf (W := 1) (own_expected5 l Z a0 hw [] h0 n0 Z0) hZ (own_w18 hw) (own_w3 hw) (by decide) (by decide)) (g := (mkF m 20 #[.val (.int p1), .val (.int (5 : Int32)), .val (.ref s5), .val (.int (1 : Int32))] [(.int (5 : Int32)), (.int (1 : Int32))])) rfl (by rw [hml]; rfl) (argsL := [(.int (5 : Int32))]) (rest := [(.int (1 : Int32))]) (lenOf own_pd3 rfl) rfl (by show 2 * 0 + _ ≤ _; exact Nat.le_of_eq rfl) (hb hby at_20) (fun _ _ => ⟨rfl, e29, (by decide : 0 + 0 ≤ _), (by decide : 0 + 0 ≤ _)⟩)
    dsimp only [Pt.U, Pt.locs, Pt.cells, Pt.slots] at X30 l30 y30 z30 st30 hQ30
    subst l30 y30 z30
    obtain ⟨rfl, N30q, e30⟩ := hQ30
    have N30 := Fr.app N29 N30q
    obtain ⟨cq31, kq31, q31a, q31b, q31c⟩ := isOf hZ e30 E5
    obtain ⟨_, _, ⟨T31, L31, k31, n31⟩, -, X31, ⟨Lc31, hQ31, l31, y31, z31⟩, st31⟩ := X30.virtualBack hx (y := own_m4) (z := own_m4) hown (mvT hZ (own_w19 hw)) (mvT hZ (own_w20 hw)) (notFace_of_selects (args := #[]) (mvT hZ (own_w22 hw))) (mvT hZ (own_w22 hw)) (mvT hZ (own_w21 hw)) (by decide) (backOf (W := 1) (own_holds5m l Z a0 hw [] s0 s1 s2 s3 s4 s5 h0 n0 Z0 S0 F0 E0 S1 F1 E1 S2 F2 E2 S3 F3 E3 S4 F4 E4 S5 F5 E5) hZ (own_w23 hw) (own_w6 hw) (by decide) (by decide)) q31a q31c (g := (mkF m 31 #[.val (.int p1), .val (.int (5 : Int32)), .val (.ref s5), .val (.int (1 : Int32))] [(.int (-1 : Int32)), (.ref s5), (.int (1 : Int32))])) rfl (by rw [hml]; rfl) (Steps.refl _) (argsL := [(.int (-1 : Int32))]) (rest := [(.int (1 : Int32))]) (lenOf own_pd3 rfl) rfl (by show 2 * 0 + _ ≤ _; exact Nat.le_of_eq rfl) (hb hby at_31) (fun _ _ => ⟨rfl, e30, (by decide : 0 + 0 ≤ _), (by decide : 0 + 0 ≤ _)⟩)
    dsimp only [Pt.U, Pt.locs, Pt.cells, Pt.slots] at X31 l31 y31 z31 st31 hQ31
    subst l31 y31 z31
    obtain ⟨rfl, N31q, e31⟩ := hQ31
    have N31 := Fr.app N30 N31q
    obtain ⟨cq32, kq32, q32a, q32b, q32c⟩ := isOf hZ e31 E5
    obtain ⟨_, _, ⟨T32, L32, k32, n32⟩, -, X32, ⟨Lc32, hQ32, l32, y32, z32⟩, st32⟩ := X31.virtualBack hx (y := own_m4) (z := own_m4) hown (mvT hZ (own_w19 hw)) (mvT hZ (own_w20 hw)) (notFace_of_selects (args := #[]) (mvT hZ (own_w22 hw))) (mvT hZ (own_w22 hw)) (mvT hZ (own_w21 hw)) (by decide) (backOf (W := 2) (own_holds5p l Z a0 hw [] s0 s1 s2 s3 s4 s5 h0 n0 Z0 S0 F0 E0 S1 F1 E1 S2 F2 E2 S3 F3 E3 S4 F4 E4 S5 F5 E5) hZ (own_w23 hw) (own_w6 hw) (by decide) (by decide)) q32a q32c (g := (mkF m 36 #[.val (.int p1), .val (.int (5 : Int32)), .val (.ref s5), .val (.int (1 : Int32))] [(.int (1 : Int32)), (.ref s5), (.int (0 : Int32)), (.int (1 : Int32))])) rfl (by rw [hml]; rfl) (Steps.refl _) (argsL := [(.int (1 : Int32))]) (rest := [(.int (0 : Int32)), (.int (1 : Int32))]) (lenOf own_pd3 rfl) rfl (by show 2 * 0 + _ ≤ _; exact Nat.le_of_eq rfl) (hb hby at_36) (fun _ _ => ⟨rfl, e31, (by decide : 0 + 0 ≤ _), (by decide : 0 + 0 ≤ _)⟩)
    dsimp only [Pt.U, Pt.locs, Pt.cells, Pt.slots] at X32 l32 y32 z32 st32 hQ32
    subst l32 y32 z32
    obtain ⟨rfl, N32q, e32⟩ := hQ32
    have N32 := Fr.app N31 N32q
    obtain ⟨fs, hr, hrun, hended, hW, hsame⟩ := X32.leave (v := some (.int (1 : Int32))) (fun h => by rw [Bd.returns] at h; cases h)
    refine ⟨_, _, pre1 _ ?_, hrun, hended, _, _, rfl, ?_, ⟨_, rfl⟩, hW, hsame.mono (by decide) (by decide)⟩
    · show Steps _ _ _ (s₁.setTop (mkF m 8 #[.val (.int p1), .val (.int (5 : Int32)), .unset, .unset] [])) _
      refine XS.iloadN X0.here hx rfl (hb hby at_8) rfl ?_
      refine st28 _ ?_
      refine XS.astoreN X28.here hx rfl (hb hby at_12) rfl rfl (l' := #[.val (.int p1), .val (.int (5 : Int32)), .val (.ref s5), .unset]) rfl ?_
      refine XS.aloadN X28.here hx rfl (hb hby at_13) rfl rfl ?_
      show Steps _ _ _ (T28.setTop (mkF m 14 #[.val (.int p1), .val (.int (5 : Int32)), .val (.ref s5), .unset] [(.ref s5)])) _
      refine st29.trans ?_
      refine XS.istoreN X29.here hx rfl (hb hby at_17) rfl (l' := #[.val (.int p1), .val (.int (5 : Int32)), .val (.ref s5), .val (.int (1 : Int32))]) rfl ?_
      refine XS.iloadN X29.here hx rfl (hb hby at_18) rfl ?_
      refine XS.iloadN X29.here hx rfl (hb hby at_19) rfl ?_
      show Steps _ _ _ (T29.setTop (mkF m 20 #[.val (.int p1), .val (.int (5 : Int32)), .val (.ref s5), .val (.int (1 : Int32))] [(.int (5 : Int32)), (.int (1 : Int32))])) _
      refine st30 _ ?_
      refine XS.icmpYes X30.here hx rfl (pc0 := 23) (pc' := 28) rfl (hb hby at_23) rfl (teq (by decide : (1 : Int32) = (1 : Int32))).1 (by decide) (by decide) ?_
      refine XS.iloadN X30.here hx rfl (hb hby at_28) rfl ?_
      refine XS.aloadN X30.here hx rfl (hb hby at_29) rfl rfl ?_
      show Steps _ _ _ (T30.setTop (mkF m 30 #[.val (.int p1), .val (.int (5 : Int32)), .val (.ref s5), .val (.int (1 : Int32))] [(.ref s5), (.int (1 : Int32))])) _
      refine XS.iconst X30.here hx rfl (hb hby at_30) ?_
      refine st31.trans ?_
      refine XS.aloadN X31.here hx rfl (hb hby at_34) rfl rfl ?_
      refine XS.iconst X31.here hx rfl (hb hby at_35) ?_
      show Steps _ _ _ (T31.setTop (mkF m 36 #[.val (.int p1), .val (.int (5 : Int32)), .val (.ref s5), .val (.int (1 : Int32))] [(.int (1 : Int32)), (.ref s5), (.int (0 : Int32)), (.int (1 : Int32))])) _
      refine st32.trans ?_
      refine XS.icmpNo X32.here hx rfl (hb hby at_39) rfl (feq (by decide : ¬ ((0 : Int32) = (1 : Int32)))).1 ?_
      refine XS.iconst X32.here hx rfl (hb hby at_42) ?_
      refine XS.goto X32.here hx rfl (pc0 := 43) (pc' := 47) rfl (hb hby at_43) (by decide) (by decide) ?_
      show Steps _ _ _ (T32.setTop (mkF m 47 #[.val (.int p1), .val (.int (5 : Int32)), .val (.ref s5), .val (.int (1 : Int32))] [(.int (1 : Int32)), (.int (1 : Int32))])) _
      refine XS.icmpNo X32.here hx rfl (hb hby at_47) rfl (teq (by decide : (1 : Int32) = (1 : Int32))).2 ?_
      refine XS.iconst X32.here hx rfl (hb hby at_50) ?_
      refine XS.goto X32.here hx rfl (pc0 := 51) (pc' := 55) rfl (hb hby at_51) (by decide) (by decide) ?_
      show Steps _ _ _ (T32.setTop (mkF m 55 #[.val (.int p1), .val (.int (5 : Int32)), .val (.ref s5), .val (.int (1 : Int32))] [(.int (1 : Int32))])) _
      exact retN X32 hx (t := .boolean) Bd.returns (by simp) (hb hby at_55) hr
    · show Qown_law Z p1 s0 s1 s2 s3 s4 s5 h0 n0 _ T32.heap _
      rw [e32]
      exact ⟨rfl, N32⟩
set_option maxRecDepth 65536 in
set_option maxHeartbeats 40000000 in
theorem comes_1 {Post : Tables → Env → Array Value → State → Outcome → State → Prop} (hpost : ∀ tb e args s v u, (limb_1_1.after args s (.returned v) u = true ∧ limb_1_2.after args s (.returned v) u = true ∧ True) → FrameEnd s (.returned v) u (Jvm.fieldLocs frame_1_writes args s ++ Jvm.arrayLocs frame_1_arrays args s ++ Jvm.staticLocs frame_1_statics s) 0 0 → Post tb e args s (.returned v) u) :
    ArmFor flags0 classFile x code maxLocals ret World_1 tables_1 room_1 Calls_1 rest_1 Pre_1 Post := by
  intro l hfl _ _ p e ha hc hk s m args below hf hA hF happ hP
  obtain ⟨hcalls, hrest, hpre⟩ := hP
  obtain ⟨-, -, -, hnamed, -, -, -, hat⟩ := (Spec.applies_iff hf).mp happ
  obtain ⟨hg, hn⟩ := and_e (Cond.before_iff.mp (show (Jvm.Cond.and given_1 narrow_1).before args s = true from hpre))
  obtain ⟨gc, gr0⟩ := and_e hg
  have ga0 := gr0
  obtain ⟨w0, rfl⟩ : ∃ w0 : Value, args = #[w0] := by
    have hs : args.size = 1 := by simpa [Cond.value, given_1] using gc
    obtain ⟨L⟩ := args
    match L, hs with
    | [w0], _ => exact ⟨w0, rfl⟩
  have hw := fun d (hd : d ∈ tables_1) => atoms_spec (ws := Jvm.Cond.code x code maxLocals ret :: tables_1) hat d (List.mem_cons_of_mem _ hd)
  have hfit : Fit s := fun {y c} hc i hi => by
    obtain ⟨ha, rfl⟩ := Array.getElem?_eq_some_iff.mp hc
    have q := List.all_eq_true.mp ((Array.all_eq_true_iff_forall_mem.mp hF) _ (Array.getElem_mem ha)) i (List.mem_range.mpr hi)
    simpa [Array.getElem?_eq_getElem hi] using q
  obtain ⟨i0, ei0⟩ := is_v ga0
  obtain rfl : w0 = (.int i0) := Option.some.inj ei0
  obtain ⟨n_exactly_NOT_EQUAL, hn0⟩ := and_e hn
  obtain ⟨n_exactly_EQUAL, hn1⟩ := and_e hn0
  obtain ⟨n_eq_NOT_EQUAL, hn2⟩ := and_e hn1
  obtain ⟨n_eq_EQUAL, hn3⟩ := and_e hn2
  obtain ⟨n_exactly_AT_LEAST, hn4⟩ := and_e hn3
  obtain ⟨n_eq_AT_LEAST, hn5⟩ := and_e hn4
  obtain ⟨n_exactly_AT_MOST, hn6⟩ := and_e hn5
  obtain ⟨n_eq_AT_MOST, hn7⟩ := and_e hn6
  obtain ⟨n_exactly_GREATER, hn8⟩ := and_e hn7
  obtain ⟨n_eq_GREATER, hn9⟩ := and_e hn8
  obtain ⟨n_exactly_LESS, hn10⟩ := and_e hn9
  have n_eq_LESS := hn10
  obtain ⟨s0, v0, E0, F0⟩ := own_enum n_exactly_NOT_EQUAL n_eq_NOT_EQUAL
  have S0 := Sta.start v0 (Or.inr ⟨hw _ (List.mem_of_getElem? (i := 6) rfl), hw _ (List.mem_of_getElem? (i := 7) rfl)⟩)
  obtain ⟨s1, v1, E1, F1⟩ := own_enum n_exactly_AT_MOST n_eq_AT_MOST
  have S1 := Sta.start v1 (Or.inr ⟨hw _ (List.mem_of_getElem? (i := 6) rfl), hw _ (List.mem_of_getElem? (i := 37) rfl)⟩)
  obtain ⟨s2, v2, E2, F2⟩ := own_enum n_exactly_AT_LEAST n_eq_AT_LEAST
  have S2 := Sta.start v2 (Or.inr ⟨hw _ (List.mem_of_getElem? (i := 6) rfl), hw _ (List.mem_of_getElem? (i := 35) rfl)⟩)
  obtain ⟨s3, v3, E3, F3⟩ := own_enum n_exactly_EQUAL n_eq_EQUAL
  have S3 := Sta.start v3 (Or.inr ⟨hw _ (List.mem_of_getElem? (i := 6) rfl), hw _ (List.mem_of_getElem? (i := 14) rfl)⟩)
  obtain ⟨s4, v4, E4, F4⟩ := own_enum n_exactly_LESS n_eq_LESS
  have S4 := Sta.start v4 (Or.inr ⟨hw _ (List.mem_of_getElem? (i := 6) rfl), hw _ (List.mem_of_getElem? (i := 41) rfl)⟩)
  obtain ⟨s5, v5, E5, F5⟩ := own_enum n_exactly_GREATER n_eq_GREATER
  have S5 := Sta.start v5 (Or.inr ⟨hw _ (List.mem_of_getElem? (i := 6) rfl), hw _ (List.mem_of_getElem? (i := 39) rfl)⟩)
  obtain ⟨n, o, h1, h2, h3, _, L, rfl, ⟨rfl, N⟩, hq⟩ := own_law l s _ hw tables_1 i0 s0 s1 s2 s3 s4 s5 s.heap s.heap.size (Nat.le_refl _) S0 F0 E0 S1 F1 E1 S2 F2 E2 S3 F3 E3 S4 F4 E4 S5 F5 E5 p e ha hc hk s m _ below hf ((Spec.applies_iff_loose hf).mp happ).1 ⟨rfl, State.Warmed39.refl s, rfl⟩ trivial
  refine ⟨n, _, h1, h2, h3, hpost _ _ _ _ _ _ ⟨Cond.after_iff.mpr rfl, Cond.after_iff.mpr (eq_i res_at (Term.int_eval (1)) rfl), trivial⟩ ⟨hq.1, hq.2.1, (hq.2.2.sift fun y hy => Or.inr (N y hy)).mono (by decide) (by decide)⟩⟩
theorem main_1_1 : Claimed_1_1 := comes_1 fun _ _ _ _ _ _ h hF => ⟨h.1, hF⟩
theorem main_1_2 : Claimed_1_2 := comes_1 fun _ _ _ _ _ _ h hF => ⟨h.2.1, hF⟩
end Jvm.Pilot.@@N@@
namespace Jvm.Pilot.@@N@@
open Jvm Jvm.ClassFile Sem Op Lib Jvm.Free Jvm.Stand Jvm.Pilot.@@N@@.Jvm.D
/-! MADE BY PROGRAM (witnessworld.py) out of the Statement's table words and the real class files: 12 classes; the members and pool entries that the words name. The judged class is class 1, her method 3. -/
namespace start1
open Jvm.ClassFile
def u (s : String) : CpInfo := .utf8 (stringToUtf16 s)
/-- a pool by its gaps: so many unusable entries, then the entry; so many at the end -/
def gap : Nat → List CpInfo → List CpInfo
  | 0, r => r
  | n + 1, r => .unusable :: gap n r
def poolList (es : List (Nat × CpInfo)) (last : Nat) : List CpInfo := es.foldr (fun e r => gap e.1 (e.2 :: r)) (gap last [])
def pool (es : List (Nat × CpInfo)) (last : Nat) : Array CpInfo := ⟨poolList es last⟩
def fileOf (pool : Array CpInfo) (this : Nat) (attrs : Array Attribute := #[]) (ms : Array MethodInfo := #[]) (fl : Nat := 33) (sup : Nat := 0) (ifs : Array Nat := #[]) (fds : Array FieldInfo := #[]) : ClassFile where
  minorVersion := 0
  majorVersion := 65
  constantPool := pool
  accessFlags := fl
  thisClass := this
  superClass := sup
  interfaces := ifs
  fields := fds
  methods := ms
  attributes := attrs
def plain (name : String) (sup : Option ClassId) : Class where
  name := name
  kind := .ordinary
  loader := none
  accessFlags := 33
  super := sup
  interfaces := #[]
  cf := none
  fields := #[]
  methods := #[]
  instanceTypes := #[]
  staticTypes := #[]
  resolved := #[]
  callSites := []
  init := .initialized
  statics := none
  mirror := none

def pool0 : Array CpInfo := pool [(5, u "<init>"), (0, u "()V"), (1, .class_ 10), (1, u "java/lang/Object")] 113

def k0m0 : Method := { name := "<init>", desc := "()V", sig := { parameters := [], returnType := none }, accessFlags := 1, code := none }
/-- java/lang/Object -/
def k0 : Class := { plain "java/lang/Object" none with
  accessFlags := 33
  interfaces := #[]
  cf := some (fileOf pool0 8 #[] #[{ accessFlags := 1, nameIndex := 5, descriptorIndex := 6, attributes := #[] }] 33 0 #[] #[])
  fields := #[]
  methods := #[k0m0]
  instanceTypes := #[]
  staticTypes := #[]
  resolved := Array.replicate 124 none
  statics := none }

def pool1 : Array CpInfo := pool [(2, .class_ 4), (1, u "java/lang/Object"), (0, u "<init>"), (0, u "()V"), (0, .fieldref 8 9), (0, .class_ 10), (0, .nameAndType 11 12), (0, u "com/example/dirwarden/dirwarden/aci/Comparison"), (0, u "NOT_EQUAL"), (0, u "Lcom/example/dirwarden/dirwarden/aci/Comparison;"), (0, .fieldref 8 14), (0, .nameAndType 15 12), (0, u "AT_MOST"), (0, .fieldref 8 17), (0, .nameAndType 18 12), (0, u "AT_LEAST"), (0, .fieldref 8 20), (0, .nameAndType 21 12), (0, u "EQUAL"), (0, .fieldref 8 23), (0, .nameAndType 24 12), (0, u "LESS"), (0, .fieldref 8 26), (0, .nameAndType 27 12), (0, u "GREATER"), (0, .integer 2147483647), (0, .methodref 30 31), (0, .class_ 32), (0, .nameAndType 33 34), (0, u "com/example/dirwarden/dirwarden/aci/ComparisonOrdersPinLaw"), (0, u "pick"), (0, u "(I)Lcom/example/dirwarden/dirwarden/aci/Comparison;"), (0, .methodref 8 36), (0, .nameAndType 37 38), (0, u "orders"), (0, u "()Z"), (0, .methodref 30 40), (0, .nameAndType 41 42), (0, u "expected"), (0, u "(I)Z"), (0, .methodref 8 44), (0, .nameAndType 45 42), (0, u "holds"), (3, u "law")] 2

def k1m0 : Method := { name := "<init>", desc := "()V", sig := { parameters := [], returnType := none }, accessFlags := 1, code := none }
def k1c1 : Code := { maxStack := 2, maxLocals := 1, code := method_2_code, exceptionTable := #[], attributes := #[] }
def k1m1 : Method := { name := "pick", desc := "(I)Lcom/example/dirwarden/dirwarden/aci/Comparison;", sig := { parameters := [.int], returnType := some (.object "com/example/dirwarden/dirwarden/aci/Comparison") }, accessFlags := 10, code := some k1c1 }
def k1c2 : Code := { maxStack := 2, maxLocals := 1, code := method_3_code, exceptionTable := #[], attributes := #[] }
def k1m2 : Method := { name := "expected", desc := "(I)Z", sig := { parameters := [.int], returnType := some .boolean }, accessFlags := 10, code := some k1c2 }
def k1c3 : Code := { maxStack := 4, maxLocals := 4, code := code, exceptionTable := #[], attributes := #[] }
def k1m3 : Method := { name := "law", desc := "(I)Z", sig := { parameters := [.int], returnType := some .boolean }, accessFlags := 9, code := some k1c3 }
/-- com/example/dirwarden/dirwarden/aci/ComparisonOrdersPinLaw -/
def k1 : Class := { plain "com/example/dirwarden/dirwarden/aci/ComparisonOrdersPinLaw" (some 0) with
  accessFlags := 49
  interfaces := #[]
  cf := some (fileOf pool1 30 #[] #[{ accessFlags := 1, nameIndex := 5, descriptorIndex := 6, attributes := #[] }, { accessFlags := 10, nameIndex := 33, descriptorIndex := 34, attributes := #[] }, { accessFlags := 10, nameIndex := 41, descriptorIndex := 42, attributes := #[] }, { accessFlags := 9, nameIndex := 49, descriptorIndex := 42, attributes := #[] }] 49 2 #[] #[])
  fields := #[]
  methods := #[k1m0, k1m1, k1m2, k1m3]
  instanceTypes := #[]
  staticTypes := #[]
  resolved := Array.replicate 52 none
  statics := none }

def pool2 : Array CpInfo := pool [(1, .class_ 2), (0, u "java/lang/constant/Constable"), (0, .class_ 4), (0, u "java/lang/Object")] 6

/-- java/lang/constant/Constable -/
def k2 : Class := { plain "java/lang/constant/Constable" (some 0) with
  accessFlags := 1537
  interfaces := #[]
  cf := some (fileOf pool2 1 #[] #[] 1537 3 #[] #[])
  fields := #[]
  methods := #[]
  instanceTypes := #[]
  staticTypes := #[]
  resolved := Array.replicate 11 none
  statics := none }

def pool3 : Array CpInfo := pool [(1, .class_ 2), (0, u "java/lang/Comparable"), (0, .class_ 4), (0, u "java/lang/Object")] 7

/-- java/lang/Comparable -/
def k3 : Class := { plain "java/lang/Comparable" (some 0) with
  accessFlags := 1537
  interfaces := #[]
  cf := some (fileOf pool3 1 #[] #[] 1537 3 #[] #[])
  fields := #[]
  methods := #[]
  instanceTypes := #[]
  staticTypes := #[]
  resolved := Array.replicate 12 none
  statics := none }

def pool4 : Array CpInfo := pool [(1, .class_ 2), (0, u "java/io/Serializable"), (0, .class_ 4), (0, u "java/lang/Object")] 2

/-- java/io/Serializable -/
def k4 : Class := { plain "java/io/Serializable" (some 0) with
  accessFlags := 1537
  interfaces := #[]
  cf := some (fileOf pool4 1 #[] #[] 1537 3 #[] #[])
  fields := #[]
  methods := #[]
  instanceTypes := #[]
  staticTypes := #[]
  resolved := Array.replicate 7 none
  statics := none }

def pool5 : Array CpInfo := pool [(2, .class_ 4), (1, u "java/lang/Enum"), (0, u "name"), (0, u "Ljava/lang/String;"), (0, .fieldref 2 8), (0, .nameAndType 9 10), (0, u "ordinal"), (0, u "I"), (1, .class_ 14), (1, u "java/lang/Object"), (4, u "hash"), (86, .class_ 108), (1, u "java/lang/Enum$EnumDesc"), (2, .class_ 112), (0, u "java/lang/constant/Constable"), (0, .class_ 114), (0, u "java/lang/Comparable"), (0, .class_ 116), (0, u "java/io/Serializable"), (9, u "()I")] 77

def k5c0 : Code := { maxStack := 1, maxLocals := 1, code := jdk_37_method_2_code, exceptionTable := #[], attributes := #[] }
def k5m0 : Method := { name := "ordinal", desc := "()I", sig := { parameters := [], returnType := some .int }, accessFlags := 17, code := some k5c0 }
/-- java/lang/Enum -/
def k5 : Class := { plain "java/lang/Enum" (some 0) with
  accessFlags := 1057
  interfaces := #[2, 3, 4]
  cf := some (fileOf pool5 2 #[.nestMembers #[106]] #[{ accessFlags := 17, nameIndex := 9, descriptorIndex := 126, attributes := #[] }] 1057 12 #[111, 113, 115] #[{ accessFlags := 18, nameIndex := 5, descriptorIndex := 6, attributes := #[] }, { accessFlags := 18, nameIndex := 9, descriptorIndex := 10, attributes := #[] }, { accessFlags := 2, nameIndex := 19, descriptorIndex := 10, attributes := #[] }])
  fields := #[{ name := "name", type := (.object "java/lang/String"), accessFlags := 18, slot := 0, constantValue := 0 }, { name := "ordinal", type := .int, accessFlags := 18, slot := 1, constantValue := 0 }, { name := "hash", type := .int, accessFlags := 2, slot := 2, constantValue := 0 }]
  methods := #[k5m0]
  instanceTypes := #[(.object "java/lang/String"), .int, .int]
  staticTypes := #[]
  resolved := Array.replicate 204 none
  statics := none }

def pool6 : Array CpInfo := pool [(1, .class_ 2), (0, u "com/example/dirwarden/dirwarden/aci/Comparison"), (0, .fieldref 1 4), (0, .nameAndType 5 6), (0, u "NOT_EQUAL"), (0, u "Lcom/example/dirwarden/dirwarden/aci/Comparison;"), (2, u "AT_MOST"), (2, u "AT_LEAST"), (0, .fieldref 1 14), (0, .nameAndType 15 6), (0, u "EQUAL"), (2, u "LESS"), (2, u "GREATER"), (2, u "$VALUES"), (0, u "[Lcom/example/dirwarden/dirwarden/aci/Comparison;"), (6, .class_ 34), (1, u "java/lang/Enum"), (8, u "operator"), (0, u "Ljava/lang/String;"), (0, .methodref 1 46), (0, .nameAndType 47 48), (0, u "ordinal"), (0, u "()I"), (38, u "orders"), (0, u "()Z"), (1, u "holds"), (0, u "(I)Z")] 5

def k6c0 : Code := { maxStack := 2, maxLocals := 1, code := prog_2_method_5_code, exceptionTable := #[], attributes := #[] }
def k6m0 : Method := { name := "orders", desc := "()Z", sig := { parameters := [], returnType := some .boolean }, accessFlags := 0, code := some k6c0 }
def k6c1 : Code := { maxStack := 4, maxLocals := 2, code := prog_2_method_6_code, exceptionTable := #[], attributes := #[] }
def k6m1 : Method := { name := "holds", desc := "(I)Z", sig := { parameters := [.int], returnType := some .boolean }, accessFlags := 0, code := some k6c1 }
/-- com/example/dirwarden/dirwarden/aci/Comparison -/
def k6 : Class := { plain "com/example/dirwarden/dirwarden/aci/Comparison" (some 5) with
  accessFlags := 16432
  interfaces := #[]
  cf := some (fileOf pool6 1 #[] #[{ accessFlags := 0, nameIndex := 87, descriptorIndex := 88, attributes := #[] }, { accessFlags := 0, nameIndex := 90, descriptorIndex := 91, attributes := #[] }] 16432 32 #[] #[{ accessFlags := 16409, nameIndex := 5, descriptorIndex := 6, attributes := #[] }, { accessFlags := 16409, nameIndex := 9, descriptorIndex := 6, attributes := #[] }, { accessFlags := 16409, nameIndex := 12, descriptorIndex := 6, attributes := #[] }, { accessFlags := 16409, nameIndex := 15, descriptorIndex := 6, attributes := #[] }, { accessFlags := 16409, nameIndex := 18, descriptorIndex := 6, attributes := #[] }, { accessFlags := 16409, nameIndex := 21, descriptorIndex := 6, attributes := #[] }, { accessFlags := 18, nameIndex := 43, descriptorIndex := 44, attributes := #[] }, { accessFlags := 4122, nameIndex := 24, descriptorIndex := 25, attributes := #[] }])
  fields := #[{ name := "NOT_EQUAL", type := (.object "com/example/dirwarden/dirwarden/aci/Comparison"), accessFlags := 16409, slot := 0, constantValue := 0 }, { name := "AT_MOST", type := (.object "com/example/dirwarden/dirwarden/aci/Comparison"), accessFlags := 16409, slot := 1, constantValue := 0 }, { name := "AT_LEAST", type := (.object "com/example/dirwarden/dirwarden/aci/Comparison"), accessFlags := 16409, slot := 2, constantValue := 0 }, { name := "EQUAL", type := (.object "com/example/dirwarden/dirwarden/aci/Comparison"), accessFlags := 16409, slot := 3, constantValue := 0 }, { name := "LESS", type := (.object "com/example/dirwarden/dirwarden/aci/Comparison"), accessFlags := 16409, slot := 4, constantValue := 0 }, { name := "GREATER", type := (.object "com/example/dirwarden/dirwarden/aci/Comparison"), accessFlags := 16409, slot := 5, constantValue := 0 }, { name := "operator", type := (.object "java/lang/String"), accessFlags := 18, slot := 3, constantValue := 0 }, { name := "$VALUES", type := (.array (.object "com/example/dirwarden/dirwarden/aci/Comparison")), accessFlags := 4122, slot := 6, constantValue := 0 }]
  methods := #[k6m0, k6m1]
  instanceTypes := #[(.object "java/lang/String"), .int, .int, (.object "java/lang/String")]
  staticTypes := #[(.object "com/example/dirwarden/dirwarden/aci/Comparison"), (.object "com/example/dirwarden/dirwarden/aci/Comparison"), (.object "com/example/dirwarden/dirwarden/aci/Comparison"), (.object "com/example/dirwarden/dirwarden/aci/Comparison"), (.object "com/example/dirwarden/dirwarden/aci/Comparison"), (.object "com/example/dirwarden/dirwarden/aci/Comparison"), (.array (.object "com/example/dirwarden/dirwarden/aci/Comparison"))]
  resolved := Array.replicate 97 none
  statics := some 0 }

def pool7 : Array CpInfo := pool [(1, u "java/lang/Cloneable"), (0, .class_ 1), (0, u "java/lang/Object"), (0, .class_ 3)] 3

/-- java/lang/Cloneable -/
def k7 : Class := { plain "java/lang/Cloneable" (some 0) with
  accessFlags := 1537
  interfaces := #[]
  cf := some (fileOf pool7 2 #[] #[] 1537 4 #[] #[])
  fields := #[]
  methods := #[]
  instanceTypes := #[]
  staticTypes := #[]
  resolved := Array.replicate 8 none
  statics := none }

/-- the primitive byte -/
def k8 : Class := { plain "byte" none with kind := .primitive 'B', accessFlags := 0x411 }
/-- [B -/
def k9 : Class := { plain "[B" (some 0) with kind := .array 8 .byte, interfaces := #[7, 4], accessFlags := 1041 }

/-- the primitive int -/
def k10 : Class := { plain "int" none with kind := .primitive 'I', accessFlags := 0x411 }
/-- [I -/
def k11 : Class := { plain "[I" (some 0) with kind := .array 10 .int, interfaces := #[7, 4], accessFlags := 1041 }

def heap : Heap := #[{ cls := 6, slots := #[.ref 1, .ref 2, .ref 3, .ref 4, .ref 5, .ref 6, .null], vm := .statics 6 },
  { cls := 6, slots := #[.null, .int 0, .int 0, .null], vm := .none },
  { cls := 6, slots := #[.null, .int 1, .int 0, .null], vm := .none },
  { cls := 6, slots := #[.null, .int 2, .int 0, .null], vm := .none },
  { cls := 6, slots := #[.null, .int 3, .int 0, .null], vm := .none },
  { cls := 6, slots := #[.null, .int 4, .int 0, .null], vm := .none },
  { cls := 6, slots := #[.null, .int 5, .int 0, .null], vm := .none }]
def classes : Array Class := #[k0, k1, k2, k3, k4, k5, k6, k7, k8, k9, k10, k11]
def interned : List (Array UInt16 × Addr) := []
def slotsUsed : Nat := 31
def theMethod : MethodId := ⟨1, 3⟩
def args0 : Array Value := #[.int 5]
def aboutOver (below : List Frame) : State where
  vm := { classes := classes, interned := interned.toArray }
  heap := heap
  slotsUsed := slotsUsed
  threads := #[{ frames := .invoking theMethod args0 :: below }]
def below0 : List Frame := [.native { method := ⟨0, 0⟩, args := #[] }]
def about1 : State := aboutOver below0
def p0 : Program := .bare "" "" ""
def e0 : Env := launch0.env 0 0 0
theorem w_frames : about1.frames = Frame.invoking theMethod args0 :: below0 := rfl
set_option maxRecDepth 65536 in
theorem w_args : argsFit about1.vm theMethod args0 = true := by decide +kernel
set_option maxRecDepth 65536 in
theorem w_heap : heapFits about1 = true := by decide +kernel
set_option maxRecDepth 65536 in
theorem w_runnable : about1.curStatus? = some .runnable := by decide +kernel
set_option maxRecDepth 65536 in
theorem w_alone : about1.alone = true := by decide +kernel
set_option maxRecDepth 65536 in
theorem w_named : about1.methodNamed? x = some theMethod := by decide +kernel
set_option maxRecDepth 65536 in
theorem w_hears : about1.hears theMethod below0 = true := by decide +kernel
set_option maxRecDepth 65536 in
theorem w_ripe : about1.ripe theMethod args0 below0 = true := by decide +kernel
theorem w_running : about1.status = .running := rfl
set_option maxRecDepth 65536 in
theorem w_room : about1.hasRoom e0.platform room_1 = true :=
  launch0.hasRoom_least _ room_1 (by decide +kernel) (by decide +kernel) (by decide +kernel) (by decide +kernel) (by decide +kernel) (by decide +kernel)
theorem allAtoms_all (ts : List Jvm.Cond) (a : Array Jvm.Value) (st : Jvm.State) : (allAtoms ts).before a st = ts.all (fun c => c.before a st) := by
  induction ts with
  | nil => rfl
  | cons c t ih =>
    show (Jvm.Cond.and c (allAtoms t)).before a st = _
    rw [Jvm.Cond.before_and, ih, List.all_cons]
def words1 : List Jvm.Cond := Jvm.Cond.code x code maxLocals ret :: tables_1
/-- a 'code' word, met by the world's own term for the bytes: nothing is compared byte by byte -/
theorem code_word {y : MethodName} {bytes : ByteArray} {mx : Nat} {rt : Option FieldType} {a : Array Value} {s : State} {m : MethodId} {meth : Method} {c : Code} (h1 : s.methodNamed? y = some m) (h2 : s.vm.method? m = some meth) (h3 : meth.code = some c) (h4 : c.code = bytes)
    (h5 : (c.maxLocals == mx && c.exceptionTable.isEmpty && decide (c.maxStack ≤ mostOperands) && decide (meth.sig.returnType = rt) && !meth.locks && decide (parseMethodDescriptor y.desc = some meth.sig)) = true) : (Jvm.Cond.code y bytes mx rt).before a s = true := by
  simp only [Bool.and_eq_true, beq_iff_eq, Bool.not_eq_true', decide_eq_true_eq] at h5
  obtain ⟨⟨⟨⟨⟨g1, g2⟩, g3⟩, g4⟩, g5⟩, g6⟩ := h5
  simp [Cond.before, Cond.holds, Cond.value, h1, h2, h3, h4, g1, g2, g3, g4, g5, g6]
def isCode : Jvm.Cond → Bool
  | .code _ _ _ _ => true
  | _ => false
theorem all_split {L : List Jvm.Cond} {P : Jvm.Cond → Bool} (h1 : L.all (fun c => isCode c || P c) = true) (h2 : ∀ c ∈ L.filter isCode, P c = true) : L.all P = true := by
  refine List.all_eq_true.mpr fun c hc => ?_
  have h := List.all_eq_true.mp h1 c hc
  rcases Bool.eq_false_or_eq_true (isCode c) with hi | hi
  · exact h2 c (List.mem_filter.mpr ⟨hc, hi⟩)
  · simpa [hi] using h
set_option maxRecDepth 65536 in
theorem w_c0 : (Jvm.Cond.code x code maxLocals ret).before args0 about1 = true := code_word (m := ⟨1, 3⟩) (meth := k1m3) (c := k1c3) (by decide +kernel) rfl rfl rfl (by decide +kernel)
set_option maxRecDepth 65536 in
theorem w_c1 : (Jvm.Cond.code ({ cls := "com/example/dirwarden/dirwarden/aci/ComparisonOrdersPinLaw", name := "pick", desc := "(I)Lcom/example/dirwarden/dirwarden/aci/Comparison;" } : Jvm.MethodName) method_2_code (1 : Nat) (Option.some (Jvm.ClassFile.FieldType.object "com/example/dirwarden/dirwarden/aci/Comparison"))).before args0 about1 = true := code_word (m := ⟨1, 1⟩) (meth := k1m1) (c := k1c1) (by decide +kernel) rfl rfl rfl (by decide +kernel)
set_option maxRecDepth 65536 in
theorem w_c2 : (Jvm.Cond.code ({ cls := "com/example/dirwarden/dirwarden/aci/Comparison", name := "orders", desc := "()Z" } : Jvm.MethodName) prog_2_method_5_code (1 : Nat) (Option.some Jvm.ClassFile.FieldType.boolean)).before args0 about1 = true := code_word (m := ⟨6, 0⟩) (meth := k6m0) (c := k6c0) (by decide +kernel) rfl rfl rfl (by decide +kernel)
set_option maxRecDepth 65536 in
theorem w_c3 : (Jvm.Cond.code ({ cls := "com/example/dirwarden/dirwarden/aci/ComparisonOrdersPinLaw", name := "expected", desc := "(I)Z" } : Jvm.MethodName) method_3_code (1 : Nat) (Option.some Jvm.ClassFile.FieldType.boolean)).before args0 about1 = true := code_word (m := ⟨1, 2⟩) (meth := k1m2) (c := k1c2) (by decide +kernel) rfl rfl rfl (by decide +kernel)
set_option maxRecDepth 65536 in
theorem w_c4 : (Jvm.Cond.code ({ cls := "com/example/dirwarden/dirwarden/aci/Comparison", name := "holds", desc := "(I)Z" } : Jvm.MethodName) prog_2_method_6_code (2 : Nat) (Option.some Jvm.ClassFile.FieldType.boolean)).before args0 about1 = true := code_word (m := ⟨6, 1⟩) (meth := k6m1) (c := k6c1) (by decide +kernel) rfl rfl rfl (by decide +kernel)
set_option maxRecDepth 65536 in
theorem w_c5 : (Jvm.Cond.code ({ cls := "java/lang/Enum", name := "ordinal", desc := "()I" } : Jvm.MethodName) jdk_37_method_2_code (1 : Nat) (Option.some Jvm.ClassFile.FieldType.int)).before args0 about1 = true := code_word (m := ⟨5, 0⟩) (meth := k5m0) (c := k5c0) (by decide +kernel) rfl rfl rfl (by decide +kernel)
def codes1 : List Jvm.Cond := [Jvm.Cond.code x code maxLocals ret, Jvm.Cond.code ({ cls := "com/example/dirwarden/dirwarden/aci/ComparisonOrdersPinLaw", name := "pick", desc := "(I)Lcom/example/dirwarden/dirwarden/aci/Comparison;" } : Jvm.MethodName) method_2_code (1 : Nat) (Option.some (Jvm.ClassFile.FieldType.object "com/example/dirwarden/dirwarden/aci/Comparison")), Jvm.Cond.code ({ cls := "com/example/dirwarden/dirwarden/aci/Comparison", name := "orders", desc := "()Z" } : Jvm.MethodName) prog_2_method_5_code (1 : Nat) (Option.some Jvm.ClassFile.FieldType.boolean), Jvm.Cond.code ({ cls := "com/example/dirwarden/dirwarden/aci/ComparisonOrdersPinLaw", name := "expected", desc := "(I)Z" } : Jvm.MethodName) method_3_code (1 : Nat) (Option.some Jvm.ClassFile.FieldType.boolean), Jvm.Cond.code ({ cls := "com/example/dirwarden/dirwarden/aci/Comparison", name := "holds", desc := "(I)Z" } : Jvm.MethodName) prog_2_method_6_code (2 : Nat) (Option.some Jvm.ClassFile.FieldType.boolean), Jvm.Cond.code ({ cls := "java/lang/Enum", name := "ordinal", desc := "()I" } : Jvm.MethodName) jdk_37_method_2_code (1 : Nat) (Option.some Jvm.ClassFile.FieldType.int)]
set_option maxRecDepth 65536 in
theorem codes_eq : words1.filter isCode = codes1 := rfl
theorem w_codes : ∀ c ∈ words1.filter isCode, c.before args0 about1 = true := by
  rw [codes_eq]
  intro c hc
  simp only [codes1, List.mem_cons, List.not_mem_nil, or_false] at hc
  rcases hc with rfl | rfl | rfl | rfl | rfl | rfl
  · exact w_c0
  · exact w_c1
  · exact w_c2
  · exact w_c3
  · exact w_c4
  · exact w_c5
set_option maxRecDepth 65536 in
theorem w_t1 : (words1.take 24).all (fun c => isCode c || c.before args0 about1) = true := by decide +kernel
set_option maxRecDepth 65536 in
theorem w_t2 : (words1.drop 24).all (fun c => isCode c || c.before args0 about1) = true := by decide +kernel
theorem w_tables : (allAtoms (Jvm.Cond.code x code maxLocals ret :: tables_1)).before args0 about1 = true := by
  rw [allAtoms_all]
  show words1.all (fun c => c.before args0 about1) = true
  refine all_split ?_ w_codes
  rw [← List.take_append_drop 24 words1, List.all_append, w_t1, w_t2]
  rfl
set_option maxRecDepth 65536 in
theorem w_case : (Jvm.Cond.and given_1 narrow_1).before args0 about1 = true := by decide +kernel
theorem w_applies : (headSpec (Jvm.Cond.code x code maxLocals ret :: tables_1) room_1).applies x e0.platform about1 = true :=
  (Spec.applies_iff w_frames).mpr ⟨w_running, w_runnable, w_alone, w_named, w_hears, w_ripe, w_room, w_tables⟩
theorem atStart : AtStart classFile x code maxLocals ret World_1 tables_1 room_1 Calls_1 rest_1 Pre_1 launch0 p0 e0 about1 theMethod args0 below0 :=
  ⟨lists_1, trivial, launch0.admits_env _ _ _, launch0.least_env, fairChoices_fair.cas, fairChoices_fair.clock, w_frames, w_args, w_heap, w_applies, trivial, trivial, w_case⟩
end start1
theorem witness_1 : WitnessClaimed_1 := ⟨start1.p0, start1.e0, start1.about1, start1.theMethod, start1.args0, start1.below0, start1.atStart⟩
end Jvm.Pilot.@@N@@
