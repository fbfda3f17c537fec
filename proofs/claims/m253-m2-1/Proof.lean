import JvmDerived
import JvmDerived.Pilot.@@N@@Statement
import JvmDerived.Pilot.@@N@@Code
set_option linter.unusedVariables false
set_option linter.unusedSimpArgs false
namespace Jvm.RoadKit
open Sem ClassFile Op Lib Jvm.Stand Jvm.Free Jvm.LawKit
section New
variable {p : Program} {l : Launch} {e : Env} {R : Room} {s : State} {m : MethodId} {args : Array Value} {below : List Frame} {meth : Method} {c : Code} {T : State} {locs : List Loc} {cells slots : Nat}
theorem retI (X : Stand p l e R s m args below meth c T locs cells slots) (hx : p.tables.exec = Jvm.exec) {pc : Nat} {Ls : Array Slot} {z : Int32} {rest : List Value} (hret : meth.sig.returnType = some .int) (hd : decode c.code pc = .ok (.ireturn, 1)) {fs : List Frame}
    (hl : ∀ (f : JFrame) (acts : List Action), f.method = m → f.locked = none → f.entered = [] → (doReturn e (T.setTop f) acts (some (.int z))).1 = T.setFrames fs) : Steps p.tables e below (T.setTop (mkF m pc Ls (.int z :: rest))) (T.setFrames fs) := by
  have hm' : T.vm.method? m = some meth := X.method'
  have hn : narrow .int (.int z) = .int z := rfl
  show Steps p.tables e below (T.setTop { method := m, pc := pc, locals := Ls, stack := _ :: rest, locked := none }) _
  jvm_step X.here [X.here.top, hx, hd, hm', hret, hn]
  first | (intro acts; rw [hl _ acts rfl rfl rfl]) | rw [hl _ _ rfl rfl rfl]
  exact Steps.refl _
end New
end Jvm.RoadKit
namespace Jvm.Pilot.@@N@@
open Jvm Jvm.ClassFile Sem Op Lib Jvm.Free Jvm.Stand Jvm.LawKit Jvm.RoadKit Bundle Jvm.Pilot.@@N@@.Jvm.D
abbrev own_m0 : MethodName := ⟨"java/lang/String", "coder", "()B"⟩
abbrev own_m1 : MethodName := ⟨"java/lang/String", "isLatin1", "()Z"⟩
abbrev own_m2 : MethodName := ⟨"jdk/internal/util/Preconditions", "checkIndex", "(IILjava/util/function/BiFunction;)I"⟩
abbrev own_m3 : MethodName := ⟨"java/lang/String", "checkIndex", "(II)V"⟩
abbrev own_m4 : MethodName := ⟨"java/lang/StringLatin1", "charAt", "([BI)C"⟩
abbrev own_m5 : MethodName := ⟨"java/lang/String", "charAt", "(I)C"⟩
abbrev own_m6 : MethodName := ⟨"java/lang/String", "length", "()I"⟩
abbrev own_m7 : MethodName := ⟨"com/example/dirwarden/dirwarden/aci/ComparisonHoldsPinLaw", "has", "(Ljava/lang/String;C)Z"⟩
abbrev own_m8 : MethodName := ⟨"com/example/dirwarden/dirwarden/aci/Comparison", "operator", "()Ljava/lang/String;"⟩
abbrev own_m9 : MethodName := ⟨"java/lang/Enum", "ordinal", "()I"⟩
abbrev own_m10 : MethodName := ⟨"com/example/dirwarden/dirwarden/aci/Comparison", "holds", "(I)Z"⟩
abbrev own_m11 : MethodName := ⟨"com/example/dirwarden/dirwarden/aci/Comparison", "ordinal", "()I"⟩
theorem own_w0 {Z : State} {a0 : Array Value} (hw : ∀ d ∈ tables_1, d.before a0 Z = true) : (Jvm.Cond.classLink "com/example/dirwarden/dirwarden/aci/ComparisonHoldsPinLaw" (17 : Nat) "com/example/dirwarden/dirwarden/aci/Comparison").before a0 Z = true := hw _ (List.mem_of_getElem? (i := 0) rfl)
theorem own_w1 {Z : State} {a0 : Array Value} (hw : ∀ d ∈ tables_1, d.before a0 Z = true) : (Jvm.Cond.arrayOver (Jvm.ClassFile.FieldType.object "com/example/dirwarden/dirwarden/aci/Comparison")).before a0 Z = true := hw _ (List.mem_of_getElem? (i := 1) rfl)
theorem own_w2 {Z : State} {a0 : Array Value} (hw : ∀ d ∈ tables_1, d.before a0 Z = true) : (Jvm.Cond.fieldLink "com/example/dirwarden/dirwarden/aci/ComparisonHoldsPinLaw" (19 : Nat) "com/example/dirwarden/dirwarden/aci/Comparison" "NOT_EQUAL" "Lcom/example/dirwarden/dirwarden/aci/Comparison;").before a0 Z = true := hw _ (List.mem_of_getElem? (i := 2) rfl)
theorem own_w3 {Z : State} {a0 : Array Value} (hw : ∀ d ∈ tables_1, d.before a0 Z = true) : (Jvm.Cond.initialized "com/example/dirwarden/dirwarden/aci/Comparison").before a0 Z = true := hw _ (List.mem_of_getElem? (i := 3) rfl)
theorem own_w6 {Z : State} {a0 : Array Value} (hw : ∀ d ∈ tables_1, d.before a0 Z = true) : (Jvm.Cond.fieldLink "com/example/dirwarden/dirwarden/aci/ComparisonHoldsPinLaw" (23 : Nat) "com/example/dirwarden/dirwarden/aci/Comparison" "AT_MOST" "Lcom/example/dirwarden/dirwarden/aci/Comparison;").before a0 Z = true := hw _ (List.mem_of_getElem? (i := 6) rfl)
theorem own_w8 {Z : State} {a0 : Array Value} (hw : ∀ d ∈ tables_1, d.before a0 Z = true) : (Jvm.Cond.fieldLink "com/example/dirwarden/dirwarden/aci/ComparisonHoldsPinLaw" (26 : Nat) "com/example/dirwarden/dirwarden/aci/Comparison" "AT_LEAST" "Lcom/example/dirwarden/dirwarden/aci/Comparison;").before a0 Z = true := hw _ (List.mem_of_getElem? (i := 8) rfl)
theorem own_w10 {Z : State} {a0 : Array Value} (hw : ∀ d ∈ tables_1, d.before a0 Z = true) : (Jvm.Cond.fieldLink "com/example/dirwarden/dirwarden/aci/ComparisonHoldsPinLaw" (29 : Nat) "com/example/dirwarden/dirwarden/aci/Comparison" "EQUAL" "Lcom/example/dirwarden/dirwarden/aci/Comparison;").before a0 Z = true := hw _ (List.mem_of_getElem? (i := 10) rfl)
theorem own_w12 {Z : State} {a0 : Array Value} (hw : ∀ d ∈ tables_1, d.before a0 Z = true) : (Jvm.Cond.fieldLink "com/example/dirwarden/dirwarden/aci/ComparisonHoldsPinLaw" (32 : Nat) "com/example/dirwarden/dirwarden/aci/Comparison" "LESS" "Lcom/example/dirwarden/dirwarden/aci/Comparison;").before a0 Z = true := hw _ (List.mem_of_getElem? (i := 12) rfl)
theorem own_w14 {Z : State} {a0 : Array Value} (hw : ∀ d ∈ tables_1, d.before a0 Z = true) : (Jvm.Cond.fieldLink "com/example/dirwarden/dirwarden/aci/ComparisonHoldsPinLaw" (35 : Nat) "com/example/dirwarden/dirwarden/aci/Comparison" "GREATER" "Lcom/example/dirwarden/dirwarden/aci/Comparison;").before a0 Z = true := hw _ (List.mem_of_getElem? (i := 14) rfl)
theorem own_w16 {Z : State} {a0 : Array Value} (hw : ∀ d ∈ tables_1, d.before a0 Z = true) : (Jvm.Cond.constant "com/example/dirwarden/dirwarden/aci/ComparisonHoldsPinLaw" (38 : Nat) (2147483647 : Int32)).before a0 Z = true := hw _ (List.mem_of_getElem? (i := 16) rfl)
theorem own_w17 {Z : State} {a0 : Array Value} (hw : ∀ d ∈ tables_1, d.before a0 Z = true) : (Jvm.Cond.methodLink "com/example/dirwarden/dirwarden/aci/ComparisonHoldsPinLaw" (39 : Nat) ({ cls := "com/example/dirwarden/dirwarden/aci/Comparison", name := "operator", desc := "()Ljava/lang/String;" } : Jvm.MethodName)).before a0 Z = true := hw _ (List.mem_of_getElem? (i := 17) rfl)
theorem own_w18 {Z : State} {a0 : Array Value} (hw : ∀ d ∈ tables_1, d.before a0 Z = true) : (Jvm.Cond.declares ({ cls := "com/example/dirwarden/dirwarden/aci/Comparison", name := "operator", desc := "()Ljava/lang/String;" } : Jvm.MethodName)).before a0 Z = true := hw _ (List.mem_of_getElem? (i := 18) rfl)
theorem own_w19 {Z : State} {a0 : Array Value} (hw : ∀ d ∈ tables_1, d.before a0 Z = true) : (Jvm.Cond.instanceMethod ({ cls := "com/example/dirwarden/dirwarden/aci/Comparison", name := "operator", desc := "()Ljava/lang/String;" } : Jvm.MethodName)).before a0 Z = true := hw _ (List.mem_of_getElem? (i := 19) rfl)
theorem own_w20 {Z : State} {a0 : Array Value} (hw : ∀ d ∈ tables_1, d.before a0 Z = true) : (Jvm.Cond.selects "com/example/dirwarden/dirwarden/aci/Comparison" ({ cls := "com/example/dirwarden/dirwarden/aci/Comparison", name := "operator", desc := "()Ljava/lang/String;" } : Jvm.MethodName) ({ cls := "com/example/dirwarden/dirwarden/aci/Comparison", name := "operator", desc := "()Ljava/lang/String;" } : Jvm.MethodName)).before a0 Z = true := hw _ (List.mem_of_getElem? (i := 20) rfl)
theorem own_w21 {Z : State} {a0 : Array Value} (hw : ∀ d ∈ tables_1, d.before a0 Z = true) : (Jvm.Cond.code ({ cls := "com/example/dirwarden/dirwarden/aci/Comparison", name := "operator", desc := "()Ljava/lang/String;" } : Jvm.MethodName) prog_2_method_4_code (1 : Nat) (Option.some (Jvm.ClassFile.FieldType.object "java/lang/String"))).before a0 Z = true := hw _ (List.mem_of_getElem? (i := 21) rfl)
theorem own_w22 {Z : State} {a0 : Array Value} (hw : ∀ d ∈ tables_1, d.before a0 Z = true) : (Jvm.Cond.fieldLink "com/example/dirwarden/dirwarden/aci/Comparison" (41 : Nat) "com/example/dirwarden/dirwarden/aci/Comparison" "operator" "Ljava/lang/String;").before a0 Z = true := hw _ (List.mem_of_getElem? (i := 22) rfl)
theorem own_w24 {Z : State} {a0 : Array Value} (hw : ∀ d ∈ tables_1, d.before a0 Z = true) : (Jvm.Cond.methodLink "com/example/dirwarden/dirwarden/aci/ComparisonHoldsPinLaw" (43 : Nat) ({ cls := "com/example/dirwarden/dirwarden/aci/ComparisonHoldsPinLaw", name := "has", desc := "(Ljava/lang/String;C)Z" } : Jvm.MethodName)).before a0 Z = true := hw _ (List.mem_of_getElem? (i := 24) rfl)
theorem own_w25 {Z : State} {a0 : Array Value} (hw : ∀ d ∈ tables_1, d.before a0 Z = true) : (Jvm.Cond.static ({ cls := "com/example/dirwarden/dirwarden/aci/ComparisonHoldsPinLaw", name := "has", desc := "(Ljava/lang/String;C)Z" } : Jvm.MethodName)).before a0 Z = true := hw _ (List.mem_of_getElem? (i := 25) rfl)
theorem own_w26 {Z : State} {a0 : Array Value} (hw : ∀ d ∈ tables_1, d.before a0 Z = true) : (Jvm.Cond.initialized "com/example/dirwarden/dirwarden/aci/ComparisonHoldsPinLaw").before a0 Z = true := hw _ (List.mem_of_getElem? (i := 26) rfl)
theorem own_w27 {Z : State} {a0 : Array Value} (hw : ∀ d ∈ tables_1, d.before a0 Z = true) : (Jvm.Cond.code ({ cls := "com/example/dirwarden/dirwarden/aci/ComparisonHoldsPinLaw", name := "has", desc := "(Ljava/lang/String;C)Z" } : Jvm.MethodName) method_2_code (4 : Nat) (Option.some Jvm.ClassFile.FieldType.boolean)).before a0 Z = true := hw _ (List.mem_of_getElem? (i := 27) rfl)
theorem own_w28 {Z : State} {a0 : Array Value} (hw : ∀ d ∈ tables_1, d.before a0 Z = true) : (Jvm.Cond.methodLink "com/example/dirwarden/dirwarden/aci/ComparisonHoldsPinLaw" (7 : Nat) ({ cls := "java/lang/String", name := "length", desc := "()I" } : Jvm.MethodName)).before a0 Z = true := hw _ (List.mem_of_getElem? (i := 28) rfl)
theorem own_w29 {Z : State} {a0 : Array Value} (hw : ∀ d ∈ tables_1, d.before a0 Z = true) : (Jvm.Cond.declares ({ cls := "java/lang/String", name := "length", desc := "()I" } : Jvm.MethodName)).before a0 Z = true := hw _ (List.mem_of_getElem? (i := 29) rfl)
theorem own_w30 {Z : State} {a0 : Array Value} (hw : ∀ d ∈ tables_1, d.before a0 Z = true) : (Jvm.Cond.instanceMethod ({ cls := "java/lang/String", name := "length", desc := "()I" } : Jvm.MethodName)).before a0 Z = true := hw _ (List.mem_of_getElem? (i := 30) rfl)
theorem own_w31 {Z : State} {a0 : Array Value} (hw : ∀ d ∈ tables_1, d.before a0 Z = true) : (Jvm.Cond.selects "java/lang/String" ({ cls := "java/lang/String", name := "length", desc := "()I" } : Jvm.MethodName) ({ cls := "java/lang/String", name := "length", desc := "()I" } : Jvm.MethodName)).before a0 Z = true := hw _ (List.mem_of_getElem? (i := 31) rfl)
theorem own_w32 {Z : State} {a0 : Array Value} (hw : ∀ d ∈ tables_1, d.before a0 Z = true) : (Jvm.Cond.initialized "java/lang/String").before a0 Z = true := hw _ (List.mem_of_getElem? (i := 32) rfl)
theorem own_w33 {Z : State} {a0 : Array Value} (hw : ∀ d ∈ tables_1, d.before a0 Z = true) : (Jvm.Cond.code ({ cls := "java/lang/String", name := "length", desc := "()I" } : Jvm.MethodName) jdk_42_method_54_code (1 : Nat) (Option.some Jvm.ClassFile.FieldType.int)).before a0 Z = true := hw _ (List.mem_of_getElem? (i := 33) rfl)
theorem own_w34 {Z : State} {a0 : Array Value} (hw : ∀ d ∈ tables_1, d.before a0 Z = true) : (Jvm.Cond.fieldLink "java/lang/String" (9 : Nat) "java/lang/String" "value" "[B").before a0 Z = true := hw _ (List.mem_of_getElem? (i := 34) rfl)
theorem own_w36 {Z : State} {a0 : Array Value} (hw : ∀ d ∈ tables_1, d.before a0 Z = true) : (Jvm.Cond.methodLink "java/lang/String" (335 : Nat) ({ cls := "java/lang/String", name := "coder", desc := "()B" } : Jvm.MethodName)).before a0 Z = true := hw _ (List.mem_of_getElem? (i := 36) rfl)
theorem own_w37 {Z : State} {a0 : Array Value} (hw : ∀ d ∈ tables_1, d.before a0 Z = true) : (Jvm.Cond.declares ({ cls := "java/lang/String", name := "coder", desc := "()B" } : Jvm.MethodName)).before a0 Z = true := hw _ (List.mem_of_getElem? (i := 37) rfl)
theorem own_w38 {Z : State} {a0 : Array Value} (hw : ∀ d ∈ tables_1, d.before a0 Z = true) : (Jvm.Cond.instanceMethod ({ cls := "java/lang/String", name := "coder", desc := "()B" } : Jvm.MethodName)).before a0 Z = true := hw _ (List.mem_of_getElem? (i := 38) rfl)
theorem own_w39 {Z : State} {a0 : Array Value} (hw : ∀ d ∈ tables_1, d.before a0 Z = true) : (Jvm.Cond.selects "java/lang/String" ({ cls := "java/lang/String", name := "coder", desc := "()B" } : Jvm.MethodName) ({ cls := "java/lang/String", name := "coder", desc := "()B" } : Jvm.MethodName)).before a0 Z = true := hw _ (List.mem_of_getElem? (i := 39) rfl)
theorem own_w40 {Z : State} {a0 : Array Value} (hw : ∀ d ∈ tables_1, d.before a0 Z = true) : (Jvm.Cond.code ({ cls := "java/lang/String", name := "coder", desc := "()B" } : Jvm.MethodName) jdk_42_method_152_code (1 : Nat) (Option.some Jvm.ClassFile.FieldType.byte)).before a0 Z = true := hw _ (List.mem_of_getElem? (i := 40) rfl)
theorem own_w41 {Z : State} {a0 : Array Value} (hw : ∀ d ∈ tables_1, d.before a0 Z = true) : (Jvm.Cond.fieldLink "java/lang/String" (38 : Nat) "java/lang/String" "COMPACT_STRINGS" "Z").before a0 Z = true := hw _ (List.mem_of_getElem? (i := 41) rfl)
theorem own_w42 {Z : State} {a0 : Array Value} (hw : ∀ d ∈ tables_1, d.before a0 Z = true) : (Jvm.Cond.fieldLink "java/lang/String" (15 : Nat) "java/lang/String" "coder" "B").before a0 Z = true := hw _ (List.mem_of_getElem? (i := 42) rfl)
theorem own_w44 {Z : State} {a0 : Array Value} (hw : ∀ d ∈ tables_1, d.before a0 Z = true) : (Jvm.Cond.methodLink "com/example/dirwarden/dirwarden/aci/ComparisonHoldsPinLaw" (13 : Nat) ({ cls := "java/lang/String", name := "charAt", desc := "(I)C" } : Jvm.MethodName)).before a0 Z = true := hw _ (List.mem_of_getElem? (i := 44) rfl)
theorem own_w45 {Z : State} {a0 : Array Value} (hw : ∀ d ∈ tables_1, d.before a0 Z = true) : (Jvm.Cond.declares ({ cls := "java/lang/String", name := "charAt", desc := "(I)C" } : Jvm.MethodName)).before a0 Z = true := hw _ (List.mem_of_getElem? (i := 45) rfl)
theorem own_w46 {Z : State} {a0 : Array Value} (hw : ∀ d ∈ tables_1, d.before a0 Z = true) : (Jvm.Cond.instanceMethod ({ cls := "java/lang/String", name := "charAt", desc := "(I)C" } : Jvm.MethodName)).before a0 Z = true := hw _ (List.mem_of_getElem? (i := 46) rfl)
theorem own_w47 {Z : State} {a0 : Array Value} (hw : ∀ d ∈ tables_1, d.before a0 Z = true) : (Jvm.Cond.selects "java/lang/String" ({ cls := "java/lang/String", name := "charAt", desc := "(I)C" } : Jvm.MethodName) ({ cls := "java/lang/String", name := "charAt", desc := "(I)C" } : Jvm.MethodName)).before a0 Z = true := hw _ (List.mem_of_getElem? (i := 47) rfl)
theorem own_w48 {Z : State} {a0 : Array Value} (hw : ∀ d ∈ tables_1, d.before a0 Z = true) : (Jvm.Cond.code ({ cls := "java/lang/String", name := "charAt", desc := "(I)C" } : Jvm.MethodName) jdk_42_method_56_code (2 : Nat) (Option.some Jvm.ClassFile.FieldType.char)).before a0 Z = true := hw _ (List.mem_of_getElem? (i := 48) rfl)
theorem own_w49 {Z : State} {a0 : Array Value} (hw : ∀ d ∈ tables_1, d.before a0 Z = true) : (Jvm.Cond.methodLink "java/lang/String" (492 : Nat) ({ cls := "java/lang/String", name := "isLatin1", desc := "()Z" } : Jvm.MethodName)).before a0 Z = true := hw _ (List.mem_of_getElem? (i := 49) rfl)
theorem own_w50 {Z : State} {a0 : Array Value} (hw : ∀ d ∈ tables_1, d.before a0 Z = true) : (Jvm.Cond.declares ({ cls := "java/lang/String", name := "isLatin1", desc := "()Z" } : Jvm.MethodName)).before a0 Z = true := hw _ (List.mem_of_getElem? (i := 50) rfl)
theorem own_w51 {Z : State} {a0 : Array Value} (hw : ∀ d ∈ tables_1, d.before a0 Z = true) : (Jvm.Cond.instanceMethod ({ cls := "java/lang/String", name := "isLatin1", desc := "()Z" } : Jvm.MethodName)).before a0 Z = true := hw _ (List.mem_of_getElem? (i := 51) rfl)
theorem own_w52 {Z : State} {a0 : Array Value} (hw : ∀ d ∈ tables_1, d.before a0 Z = true) : (Jvm.Cond.selects "java/lang/String" ({ cls := "java/lang/String", name := "isLatin1", desc := "()Z" } : Jvm.MethodName) ({ cls := "java/lang/String", name := "isLatin1", desc := "()Z" } : Jvm.MethodName)).before a0 Z = true := hw _ (List.mem_of_getElem? (i := 52) rfl)
theorem own_w53 {Z : State} {a0 : Array Value} (hw : ∀ d ∈ tables_1, d.before a0 Z = true) : (Jvm.Cond.code ({ cls := "java/lang/String", name := "isLatin1", desc := "()Z" } : Jvm.MethodName) jdk_42_method_154_code (1 : Nat) (Option.some Jvm.ClassFile.FieldType.boolean)).before a0 Z = true := hw _ (List.mem_of_getElem? (i := 53) rfl)
theorem own_w54 {Z : State} {a0 : Array Value} (hw : ∀ d ∈ tables_1, d.before a0 Z = true) : (Jvm.Cond.methodLink "java/lang/String" (495 : Nat) ({ cls := "java/lang/StringLatin1", name := "charAt", desc := "([BI)C" } : Jvm.MethodName)).before a0 Z = true := hw _ (List.mem_of_getElem? (i := 54) rfl)
theorem own_w55 {Z : State} {a0 : Array Value} (hw : ∀ d ∈ tables_1, d.before a0 Z = true) : (Jvm.Cond.static ({ cls := "java/lang/StringLatin1", name := "charAt", desc := "([BI)C" } : Jvm.MethodName)).before a0 Z = true := hw _ (List.mem_of_getElem? (i := 55) rfl)
theorem own_w56 {Z : State} {a0 : Array Value} (hw : ∀ d ∈ tables_1, d.before a0 Z = true) : (Jvm.Cond.initialized "java/lang/StringLatin1").before a0 Z = true := hw _ (List.mem_of_getElem? (i := 56) rfl)
theorem own_w57 {Z : State} {a0 : Array Value} (hw : ∀ d ∈ tables_1, d.before a0 Z = true) : (Jvm.Cond.code ({ cls := "java/lang/StringLatin1", name := "charAt", desc := "([BI)C" } : Jvm.MethodName) jdk_43_method_2_code (2 : Nat) (Option.some Jvm.ClassFile.FieldType.char)).before a0 Z = true := hw _ (List.mem_of_getElem? (i := 57) rfl)
theorem own_w58 {Z : State} {a0 : Array Value} (hw : ∀ d ∈ tables_1, d.before a0 Z = true) : (Jvm.Cond.methodLink "java/lang/StringLatin1" (9 : Nat) ({ cls := "java/lang/String", name := "checkIndex", desc := "(II)V" } : Jvm.MethodName)).before a0 Z = true := hw _ (List.mem_of_getElem? (i := 58) rfl)
theorem own_w59 {Z : State} {a0 : Array Value} (hw : ∀ d ∈ tables_1, d.before a0 Z = true) : (Jvm.Cond.static ({ cls := "java/lang/String", name := "checkIndex", desc := "(II)V" } : Jvm.MethodName)).before a0 Z = true := hw _ (List.mem_of_getElem? (i := 59) rfl)
theorem own_w60 {Z : State} {a0 : Array Value} (hw : ∀ d ∈ tables_1, d.before a0 Z = true) : (Jvm.Cond.code ({ cls := "java/lang/String", name := "checkIndex", desc := "(II)V" } : Jvm.MethodName) jdk_42_method_155_code (2 : Nat) (Option.none : Option Jvm.ClassFile.FieldType)).before a0 Z = true := hw _ (List.mem_of_getElem? (i := 60) rfl)
theorem own_w61 {Z : State} {a0 : Array Value} (hw : ∀ d ∈ tables_1, d.before a0 Z = true) : (Jvm.Cond.fieldLink "java/lang/String" (1053 : Nat) "jdk/internal/util/Preconditions" "SIOOBE_FORMATTER" "Ljava/util/function/BiFunction;").before a0 Z = true := hw _ (List.mem_of_getElem? (i := 61) rfl)
theorem own_w62 {Z : State} {a0 : Array Value} (hw : ∀ d ∈ tables_1, d.before a0 Z = true) : (Jvm.Cond.initialized "jdk/internal/util/Preconditions").before a0 Z = true := hw _ (List.mem_of_getElem? (i := 62) rfl)
theorem own_w63 {Z : State} {a0 : Array Value} (hw : ∀ d ∈ tables_1, d.before a0 Z = true) : (Jvm.Cond.methodLink "java/lang/String" (1059 : Nat) ({ cls := "jdk/internal/util/Preconditions", name := "checkIndex", desc := "(IILjava/util/function/BiFunction;)I" } : Jvm.MethodName)).before a0 Z = true := hw _ (List.mem_of_getElem? (i := 63) rfl)
theorem own_w64 {Z : State} {a0 : Array Value} (hw : ∀ d ∈ tables_1, d.before a0 Z = true) : (Jvm.Cond.static ({ cls := "jdk/internal/util/Preconditions", name := "checkIndex", desc := "(IILjava/util/function/BiFunction;)I" } : Jvm.MethodName)).before a0 Z = true := hw _ (List.mem_of_getElem? (i := 64) rfl)
theorem own_w65 {Z : State} {a0 : Array Value} (hw : ∀ d ∈ tables_1, d.before a0 Z = true) : (Jvm.Cond.code ({ cls := "jdk/internal/util/Preconditions", name := "checkIndex", desc := "(IILjava/util/function/BiFunction;)I" } : Jvm.MethodName) jdk_41_method_11_code (3 : Nat) (Option.some Jvm.ClassFile.FieldType.int)).before a0 Z = true := hw _ (List.mem_of_getElem? (i := 65) rfl)
theorem own_w66 {Z : State} {a0 : Array Value} (hw : ∀ d ∈ tables_1, d.before a0 Z = true) : (Jvm.Cond.methodLink "com/example/dirwarden/dirwarden/aci/ComparisonHoldsPinLaw" (49 : Nat) ({ cls := "com/example/dirwarden/dirwarden/aci/Comparison", name := "holds", desc := "(I)Z" } : Jvm.MethodName)).before a0 Z = true := hw _ (List.mem_of_getElem? (i := 66) rfl)
theorem own_w67 {Z : State} {a0 : Array Value} (hw : ∀ d ∈ tables_1, d.before a0 Z = true) : (Jvm.Cond.declares ({ cls := "com/example/dirwarden/dirwarden/aci/Comparison", name := "holds", desc := "(I)Z" } : Jvm.MethodName)).before a0 Z = true := hw _ (List.mem_of_getElem? (i := 67) rfl)
theorem own_w68 {Z : State} {a0 : Array Value} (hw : ∀ d ∈ tables_1, d.before a0 Z = true) : (Jvm.Cond.instanceMethod ({ cls := "com/example/dirwarden/dirwarden/aci/Comparison", name := "holds", desc := "(I)Z" } : Jvm.MethodName)).before a0 Z = true := hw _ (List.mem_of_getElem? (i := 68) rfl)
theorem own_w69 {Z : State} {a0 : Array Value} (hw : ∀ d ∈ tables_1, d.before a0 Z = true) : (Jvm.Cond.selects "com/example/dirwarden/dirwarden/aci/Comparison" ({ cls := "com/example/dirwarden/dirwarden/aci/Comparison", name := "holds", desc := "(I)Z" } : Jvm.MethodName) ({ cls := "com/example/dirwarden/dirwarden/aci/Comparison", name := "holds", desc := "(I)Z" } : Jvm.MethodName)).before a0 Z = true := hw _ (List.mem_of_getElem? (i := 69) rfl)
theorem own_w70 {Z : State} {a0 : Array Value} (hw : ∀ d ∈ tables_1, d.before a0 Z = true) : (Jvm.Cond.code ({ cls := "com/example/dirwarden/dirwarden/aci/Comparison", name := "holds", desc := "(I)Z" } : Jvm.MethodName) prog_2_method_6_code (2 : Nat) (Option.some Jvm.ClassFile.FieldType.boolean)).before a0 Z = true := hw _ (List.mem_of_getElem? (i := 70) rfl)
theorem own_w71 {Z : State} {a0 : Array Value} (hw : ∀ d ∈ tables_1, d.before a0 Z = true) : (Jvm.Cond.methodLink "com/example/dirwarden/dirwarden/aci/Comparison" (45 : Nat) ({ cls := "com/example/dirwarden/dirwarden/aci/Comparison", name := "ordinal", desc := "()I" } : Jvm.MethodName)).before a0 Z = true := hw _ (List.mem_of_getElem? (i := 71) rfl)
theorem own_w72 {Z : State} {a0 : Array Value} (hw : ∀ d ∈ tables_1, d.before a0 Z = true) : (Jvm.Cond.sameMethod "com/example/dirwarden/dirwarden/aci/Comparison" "java/lang/Enum" "ordinal" "()I").before a0 Z = true := hw _ (List.mem_of_getElem? (i := 72) rfl)
theorem own_w73 {Z : State} {a0 : Array Value} (hw : ∀ d ∈ tables_1, d.before a0 Z = true) : (Jvm.Cond.declares ({ cls := "java/lang/Enum", name := "ordinal", desc := "()I" } : Jvm.MethodName)).before a0 Z = true := hw _ (List.mem_of_getElem? (i := 73) rfl)
theorem own_w74 {Z : State} {a0 : Array Value} (hw : ∀ d ∈ tables_1, d.before a0 Z = true) : (Jvm.Cond.instanceMethod ({ cls := "java/lang/Enum", name := "ordinal", desc := "()I" } : Jvm.MethodName)).before a0 Z = true := hw _ (List.mem_of_getElem? (i := 74) rfl)
theorem own_w75 {Z : State} {a0 : Array Value} (hw : ∀ d ∈ tables_1, d.before a0 Z = true) : (Jvm.Cond.selects "com/example/dirwarden/dirwarden/aci/Comparison" ({ cls := "com/example/dirwarden/dirwarden/aci/Comparison", name := "ordinal", desc := "()I" } : Jvm.MethodName) ({ cls := "java/lang/Enum", name := "ordinal", desc := "()I" } : Jvm.MethodName)).before a0 Z = true := hw _ (List.mem_of_getElem? (i := 75) rfl)
theorem own_w76 {Z : State} {a0 : Array Value} (hw : ∀ d ∈ tables_1, d.before a0 Z = true) : (Jvm.Cond.initialized "java/lang/Enum").before a0 Z = true := hw _ (List.mem_of_getElem? (i := 76) rfl)
theorem own_w77 {Z : State} {a0 : Array Value} (hw : ∀ d ∈ tables_1, d.before a0 Z = true) : (Jvm.Cond.code ({ cls := "java/lang/Enum", name := "ordinal", desc := "()I" } : Jvm.MethodName) jdk_37_method_2_code (1 : Nat) (Option.some Jvm.ClassFile.FieldType.int)).before a0 Z = true := hw _ (List.mem_of_getElem? (i := 77) rfl)
theorem own_w78 {Z : State} {a0 : Array Value} (hw : ∀ d ∈ tables_1, d.before a0 Z = true) : (Jvm.Cond.fieldLink "java/lang/Enum" (7 : Nat) "java/lang/Enum" "ordinal" "I").before a0 Z = true := hw _ (List.mem_of_getElem? (i := 78) rfl)
theorem own_d1_0 : decode prog_2_method_4_code 0 = .ok (.aload_n 0, 1) := by decide +kernel
theorem own_d1_1 : decode prog_2_method_4_code 1 = .ok (.getfield 41, 3) := by decide +kernel
theorem own_d1_4 : decode prog_2_method_4_code 4 = .ok (.areturn, 1) := by decide +kernel
theorem own_d2_0 : decode method_2_code 0 = .ok (.aload_n 0, 1) := by decide +kernel
theorem own_d2_1 : decode method_2_code 1 = .ok (.invokevirtual 7, 3) := by decide +kernel
theorem own_d2_4 : decode method_2_code 4 = .ok (.iconst 1, 1) := by decide +kernel
theorem own_d2_5 : decode method_2_code 5 = .ok (.if_icmp .lt 16, 3) := by decide +kernel
theorem own_d2_8 : decode method_2_code 8 = .ok (.aload_n 0, 1) := by decide +kernel
theorem own_d2_9 : decode method_2_code 9 = .ok (.iconst 0, 1) := by decide +kernel
theorem own_d2_10 : decode method_2_code 10 = .ok (.invokevirtual 13, 3) := by decide +kernel
theorem own_d2_13 : decode method_2_code 13 = .ok (.iload_n 1, 1) := by decide +kernel
theorem own_d2_14 : decode method_2_code 14 = .ok (.if_icmp .ne 7, 3) := by decide +kernel
theorem own_d2_17 : decode method_2_code 17 = .ok (.iconst 1, 1) := by decide +kernel
theorem own_d2_18 : decode method_2_code 18 = .ok (.goto 4, 3) := by decide +kernel
theorem own_d2_21 : decode method_2_code 21 = .ok (.iconst 0, 1) := by decide +kernel
theorem own_d2_22 : decode method_2_code 22 = .ok (.istore_n 2, 1) := by decide +kernel
theorem own_d2_23 : decode method_2_code 23 = .ok (.aload_n 0, 1) := by decide +kernel
theorem own_d2_24 : decode method_2_code 24 = .ok (.invokevirtual 7, 3) := by decide +kernel
theorem own_d2_27 : decode method_2_code 27 = .ok (.iconst 2, 1) := by decide +kernel
theorem own_d2_28 : decode method_2_code 28 = .ok (.if_icmp .lt 16, 3) := by decide +kernel
theorem own_d2_31 : decode method_2_code 31 = .ok (.aload_n 0, 1) := by decide +kernel
theorem own_d2_32 : decode method_2_code 32 = .ok (.iconst 1, 1) := by decide +kernel
theorem own_d2_33 : decode method_2_code 33 = .ok (.invokevirtual 13, 3) := by decide +kernel
theorem own_d2_36 : decode method_2_code 36 = .ok (.iload_n 1, 1) := by decide +kernel
theorem own_d2_37 : decode method_2_code 37 = .ok (.if_icmp .ne 7, 3) := by decide +kernel
theorem own_d2_40 : decode method_2_code 40 = .ok (.iconst 1, 1) := by decide +kernel
theorem own_d2_41 : decode method_2_code 41 = .ok (.goto 4, 3) := by decide +kernel
theorem own_d2_44 : decode method_2_code 44 = .ok (.iconst 0, 1) := by decide +kernel
theorem own_d2_45 : decode method_2_code 45 = .ok (.istore_n 3, 1) := by decide +kernel
theorem own_d2_46 : decode method_2_code 46 = .ok (.iload_n 2, 1) := by decide +kernel
theorem own_d2_47 : decode method_2_code 47 = .ok (.ifCond .ne 7, 3) := by decide +kernel
theorem own_d2_50 : decode method_2_code 50 = .ok (.iload_n 3, 1) := by decide +kernel
theorem own_d2_51 : decode method_2_code 51 = .ok (.ifCond .eq 7, 3) := by decide +kernel
theorem own_d2_54 : decode method_2_code 54 = .ok (.iconst 1, 1) := by decide +kernel
theorem own_d2_55 : decode method_2_code 55 = .ok (.goto 4, 3) := by decide +kernel
theorem own_d2_58 : decode method_2_code 58 = .ok (.iconst 0, 1) := by decide +kernel
theorem own_d2_59 : decode method_2_code 59 = .ok (.ireturn, 1) := by decide +kernel
theorem own_d3_0 : decode jdk_42_method_54_code 0 = .ok (.aload_n 0, 1) := by decide +kernel
theorem own_d3_1 : decode jdk_42_method_54_code 1 = .ok (.getfield 9, 3) := by decide +kernel
theorem own_d3_4 : decode jdk_42_method_54_code 4 = .ok (.arraylength, 1) := by decide +kernel
theorem own_d3_5 : decode jdk_42_method_54_code 5 = .ok (.aload_n 0, 1) := by decide +kernel
theorem own_d3_6 : decode jdk_42_method_54_code 6 = .ok (.invokevirtual 335, 3) := by decide +kernel
theorem own_d3_9 : decode jdk_42_method_54_code 9 = .ok (.ishr, 1) := by decide +kernel
theorem own_d3_10 : decode jdk_42_method_54_code 10 = .ok (.ireturn, 1) := by decide +kernel
theorem own_d4_0 : decode jdk_42_method_152_code 0 = .ok (.getstatic 38, 3) := by decide +kernel
theorem own_d4_3 : decode jdk_42_method_152_code 3 = .ok (.ifCond .eq 10, 3) := by decide +kernel
theorem own_d4_6 : decode jdk_42_method_152_code 6 = .ok (.aload_n 0, 1) := by decide +kernel
theorem own_d4_7 : decode jdk_42_method_152_code 7 = .ok (.getfield 15, 3) := by decide +kernel
theorem own_d4_10 : decode jdk_42_method_152_code 10 = .ok (.goto 4, 3) := by decide +kernel
theorem own_d4_14 : decode jdk_42_method_152_code 14 = .ok (.ireturn, 1) := by decide +kernel
theorem own_d5_0 : decode jdk_42_method_56_code 0 = .ok (.aload_n 0, 1) := by decide +kernel
theorem own_d5_1 : decode jdk_42_method_56_code 1 = .ok (.invokevirtual 492, 3) := by decide +kernel
theorem own_d5_4 : decode jdk_42_method_56_code 4 = .ok (.ifCond .eq 12, 3) := by decide +kernel
theorem own_d5_7 : decode jdk_42_method_56_code 7 = .ok (.aload_n 0, 1) := by decide +kernel
theorem own_d5_8 : decode jdk_42_method_56_code 8 = .ok (.getfield 9, 3) := by decide +kernel
theorem own_d5_11 : decode jdk_42_method_56_code 11 = .ok (.iload_n 1, 1) := by decide +kernel
theorem own_d5_12 : decode jdk_42_method_56_code 12 = .ok (.invokestatic 495, 3) := by decide +kernel
theorem own_d5_15 : decode jdk_42_method_56_code 15 = .ok (.ireturn, 1) := by decide +kernel
theorem own_d6_0 : decode jdk_42_method_154_code 0 = .ok (.getstatic 38, 3) := by decide +kernel
theorem own_d6_3 : decode jdk_42_method_154_code 3 = .ok (.ifCond .eq 14, 3) := by decide +kernel
theorem own_d6_6 : decode jdk_42_method_154_code 6 = .ok (.aload_n 0, 1) := by decide +kernel
theorem own_d6_7 : decode jdk_42_method_154_code 7 = .ok (.getfield 15, 3) := by decide +kernel
theorem own_d6_10 : decode jdk_42_method_154_code 10 = .ok (.ifCond .ne 7, 3) := by decide +kernel
theorem own_d6_13 : decode jdk_42_method_154_code 13 = .ok (.iconst 1, 1) := by decide +kernel
theorem own_d6_14 : decode jdk_42_method_154_code 14 = .ok (.goto 4, 3) := by decide +kernel
theorem own_d6_18 : decode jdk_42_method_154_code 18 = .ok (.ireturn, 1) := by decide +kernel
theorem own_d7_0 : decode jdk_43_method_2_code 0 = .ok (.iload_n 1, 1) := by decide +kernel
theorem own_d7_1 : decode jdk_43_method_2_code 1 = .ok (.aload_n 0, 1) := by decide +kernel
theorem own_d7_2 : decode jdk_43_method_2_code 2 = .ok (.arraylength, 1) := by decide +kernel
theorem own_d7_3 : decode jdk_43_method_2_code 3 = .ok (.invokestatic 9, 3) := by decide +kernel
theorem own_d7_6 : decode jdk_43_method_2_code 6 = .ok (.aload_n 0, 1) := by decide +kernel
theorem own_d7_7 : decode jdk_43_method_2_code 7 = .ok (.iload_n 1, 1) := by decide +kernel
theorem own_d7_8 : decode jdk_43_method_2_code 8 = .ok (.baload, 1) := by decide +kernel
theorem own_d7_9 : decode jdk_43_method_2_code 9 = .ok (.sipush 255, 3) := by decide +kernel
theorem own_d7_12 : decode jdk_43_method_2_code 12 = .ok (.iand, 1) := by decide +kernel
theorem own_d7_13 : decode jdk_43_method_2_code 13 = .ok (.i2c, 1) := by decide +kernel
theorem own_d7_14 : decode jdk_43_method_2_code 14 = .ok (.ireturn, 1) := by decide +kernel
theorem own_d8_0 : decode jdk_42_method_155_code 0 = .ok (.iload_n 0, 1) := by decide +kernel
theorem own_d8_1 : decode jdk_42_method_155_code 1 = .ok (.iload_n 1, 1) := by decide +kernel
theorem own_d8_2 : decode jdk_42_method_155_code 2 = .ok (.getstatic 1053, 3) := by decide +kernel
theorem own_d8_5 : decode jdk_42_method_155_code 5 = .ok (.invokestatic 1059, 3) := by decide +kernel
theorem own_d8_8 : decode jdk_42_method_155_code 8 = .ok (.pop, 1) := by decide +kernel
theorem own_d8_9 : decode jdk_42_method_155_code 9 = .ok (.return_, 1) := by decide +kernel
theorem own_d9_0 : decode jdk_41_method_11_code 0 = .ok (.iload_n 0, 1) := by decide +kernel
theorem own_d9_1 : decode jdk_41_method_11_code 1 = .ok (.ifCond .lt 8, 3) := by decide +kernel
theorem own_d9_4 : decode jdk_41_method_11_code 4 = .ok (.iload_n 0, 1) := by decide +kernel
theorem own_d9_5 : decode jdk_41_method_11_code 5 = .ok (.iload_n 1, 1) := by decide +kernel
theorem own_d9_6 : decode jdk_41_method_11_code 6 = .ok (.if_icmp .lt 10, 3) := by decide +kernel
theorem own_d9_16 : decode jdk_41_method_11_code 16 = .ok (.iload_n 0, 1) := by decide +kernel
theorem own_d9_17 : decode jdk_41_method_11_code 17 = .ok (.ireturn, 1) := by decide +kernel
theorem own_d10_0 : decode prog_2_method_6_code 0 = .ok (.aload_n 0, 1) := by decide +kernel
theorem own_d10_1 : decode prog_2_method_6_code 1 = .ok (.invokevirtual 45, 3) := by decide +kernel
theorem own_d10_4 : decode prog_2_method_6_code 4 = .ok (.tableswitch 40 0 5 #[62, 86, 110, 50, 74, 98], 40) := by decide +kernel
theorem own_d10_54 : decode prog_2_method_6_code 54 = .ok (.iload_n 1, 1) := by decide +kernel
theorem own_d10_55 : decode prog_2_method_6_code 55 = .ok (.ifCond .ne 7, 3) := by decide +kernel
theorem own_d10_58 : decode prog_2_method_6_code 58 = .ok (.iconst 1, 1) := by decide +kernel
theorem own_d10_59 : decode prog_2_method_6_code 59 = .ok (.goto 64, 3) := by decide +kernel
theorem own_d10_62 : decode prog_2_method_6_code 62 = .ok (.iconst 0, 1) := by decide +kernel
theorem own_d10_63 : decode prog_2_method_6_code 63 = .ok (.goto 60, 3) := by decide +kernel
theorem own_d10_66 : decode prog_2_method_6_code 66 = .ok (.iload_n 1, 1) := by decide +kernel
theorem own_d10_67 : decode prog_2_method_6_code 67 = .ok (.ifCond .eq 7, 3) := by decide +kernel
theorem own_d10_70 : decode prog_2_method_6_code 70 = .ok (.iconst 1, 1) := by decide +kernel
theorem own_d10_71 : decode prog_2_method_6_code 71 = .ok (.goto 52, 3) := by decide +kernel
theorem own_d10_74 : decode prog_2_method_6_code 74 = .ok (.iconst 0, 1) := by decide +kernel
theorem own_d10_75 : decode prog_2_method_6_code 75 = .ok (.goto 48, 3) := by decide +kernel
theorem own_d10_78 : decode prog_2_method_6_code 78 = .ok (.iload_n 1, 1) := by decide +kernel
theorem own_d10_79 : decode prog_2_method_6_code 79 = .ok (.ifCond .ge 7, 3) := by decide +kernel
theorem own_d10_82 : decode prog_2_method_6_code 82 = .ok (.iconst 1, 1) := by decide +kernel
theorem own_d10_83 : decode prog_2_method_6_code 83 = .ok (.goto 40, 3) := by decide +kernel
theorem own_d10_86 : decode prog_2_method_6_code 86 = .ok (.iconst 0, 1) := by decide +kernel
theorem own_d10_87 : decode prog_2_method_6_code 87 = .ok (.goto 36, 3) := by decide +kernel
theorem own_d10_90 : decode prog_2_method_6_code 90 = .ok (.iload_n 1, 1) := by decide +kernel
theorem own_d10_91 : decode prog_2_method_6_code 91 = .ok (.ifCond .gt 7, 3) := by decide +kernel
theorem own_d10_94 : decode prog_2_method_6_code 94 = .ok (.iconst 1, 1) := by decide +kernel
theorem own_d10_95 : decode prog_2_method_6_code 95 = .ok (.goto 28, 3) := by decide +kernel
theorem own_d10_98 : decode prog_2_method_6_code 98 = .ok (.iconst 0, 1) := by decide +kernel
theorem own_d10_99 : decode prog_2_method_6_code 99 = .ok (.goto 24, 3) := by decide +kernel
theorem own_d10_102 : decode prog_2_method_6_code 102 = .ok (.iload_n 1, 1) := by decide +kernel
theorem own_d10_103 : decode prog_2_method_6_code 103 = .ok (.ifCond .le 7, 3) := by decide +kernel
theorem own_d10_106 : decode prog_2_method_6_code 106 = .ok (.iconst 1, 1) := by decide +kernel
theorem own_d10_107 : decode prog_2_method_6_code 107 = .ok (.goto 16, 3) := by decide +kernel
theorem own_d10_110 : decode prog_2_method_6_code 110 = .ok (.iconst 0, 1) := by decide +kernel
theorem own_d10_111 : decode prog_2_method_6_code 111 = .ok (.goto 12, 3) := by decide +kernel
theorem own_d10_114 : decode prog_2_method_6_code 114 = .ok (.iload_n 1, 1) := by decide +kernel
theorem own_d10_115 : decode prog_2_method_6_code 115 = .ok (.ifCond .lt 7, 3) := by decide +kernel
theorem own_d10_118 : decode prog_2_method_6_code 118 = .ok (.iconst 1, 1) := by decide +kernel
theorem own_d10_119 : decode prog_2_method_6_code 119 = .ok (.goto 4, 3) := by decide +kernel
theorem own_d10_122 : decode prog_2_method_6_code 122 = .ok (.iconst 0, 1) := by decide +kernel
theorem own_d10_123 : decode prog_2_method_6_code 123 = .ok (.ireturn, 1) := by decide +kernel
theorem own_d11_0 : decode jdk_37_method_2_code 0 = .ok (.aload_n 0, 1) := by decide +kernel
theorem own_d11_1 : decode jdk_37_method_2_code 1 = .ok (.getfield 7, 3) := by decide +kernel
theorem own_d11_4 : decode jdk_37_method_2_code 4 = .ok (.ireturn, 1) := by decide +kernel
theorem own_pn0 : plainName "java/lang/String" = true := by first | (simp [plainName, overriddenIn]; done) | decide +kernel
theorem own_pn1 : plainName "jdk/internal/util/Preconditions" = true := by first | (simp [plainName, overriddenIn]; done) | decide +kernel
theorem own_pn2 : plainName "java/lang/StringLatin1" = true := by first | (simp [plainName, overriddenIn]; done) | decide +kernel
theorem own_pn3 : plainName "com/example/dirwarden/dirwarden/aci/ComparisonHoldsPinLaw" = true := by first | (simp [plainName, overriddenIn]; done) | decide +kernel
theorem own_pn4 : plainName "com/example/dirwarden/dirwarden/aci/Comparison" = true := by first | (simp [plainName, overriddenIn]; done) | decide +kernel
theorem own_pn5 : plainName "java/lang/Enum" = true := by first | (simp [plainName, overriddenIn]; done) | decide +kernel
theorem own_pd0 : parseMethodDescriptor "(IILjava/util/function/BiFunction;)I" = some ⟨[.int, .int, (.object "java/util/function/BiFunction")], some .int⟩ := by decide +kernel
theorem own_pd1 : parseMethodDescriptor "(II)V" = some ⟨[.int, .int], none⟩ := by decide +kernel
theorem own_pd2 : parseMethodDescriptor "()Z" = some ⟨[], some .boolean⟩ := by decide +kernel
theorem own_pd3 : parseMethodDescriptor "([BI)C" = some ⟨[(.array .byte), .int], some .char⟩ := by decide +kernel
theorem own_pd4 : parseMethodDescriptor "()B" = some ⟨[], some .byte⟩ := by decide +kernel
theorem own_pd5 : parseMethodDescriptor "()I" = some ⟨[], some .int⟩ := by decide +kernel
theorem own_pd6 : parseMethodDescriptor "(I)C" = some ⟨[.int], some .char⟩ := by decide +kernel
theorem own_pd7 : parseMethodDescriptor "()Ljava/lang/String;" = some ⟨[], some (.object "java/lang/String")⟩ := by decide +kernel
theorem own_pd8 : parseMethodDescriptor "(Ljava/lang/String;C)Z" = some ⟨[(.object "java/lang/String"), .char], some .boolean⟩ := by decide +kernel
theorem own_pd9 : parseMethodDescriptor "(I)Z" = some ⟨[.int], some .boolean⟩ := by decide +kernel
theorem own_lt {a b : Int32} {k : Int} (hb : b.toInt = k) : a < b ↔ a.toInt < k := by rw [Int32.lt_iff_toInt_lt, hb]
theorem own_gt {a b : Int32} {k : Int} (ha : a.toInt = k) : a < b ↔ k < b.toInt := by rw [Int32.lt_iff_toInt_lt, ha]
theorem own_eq {a b : Int32} {k : Int} (hb : b.toInt = k) : a = b ↔ a.toInt = k := by rw [← Int32.toInt_inj, hb]
theorem own_lt_of {a b : Int32} {k : Int} (hb : b.toInt = k) (h : a.toInt < k) : a < b := (own_lt hb).mpr h
theorem own_nlt_of {a b : Int32} {k : Int} (hb : b.toInt = k) (h : k ≤ a.toInt) : ¬ a < b := fun q => by have := (own_lt hb).mp q; omega
theorem own_gt_of {a b : Int32} {k : Int} (ha : a.toInt = k) (h : k < b.toInt) : a < b := (own_gt ha).mpr h
theorem own_ngt_of {a b : Int32} {k : Int} (ha : a.toInt = k) (h : b.toInt ≤ k) : ¬ a < b := fun q => by have := (own_gt ha).mp q; omega
theorem own_eq_of {a b : Int32} {k : Int} (hb : b.toInt = k) (h : a.toInt = k) : a = b := (own_eq hb).mpr h
theorem own_ne_of {a b : Int32} {k : Int} (hb : b.toInt = k) (h : a.toInt ≠ k) : ¬ a = b := fun q => h ((own_eq hb).mp q)
theorem own_arr_keep {Z : State} {h h' : Heap} {a : Addr} {c : Cell} {ty : FieldType} (A : Arr Z h a c ty) (K : Keep h h' []) : Arr Z h' a c ty := ⟨K.2.1 a c A.1 nin0, A.2⟩
theorem own_sta0 {Z : State} {h h' : Heap} {C n d : String} {v : Value} (F : Sta Z h C n d v) (K : Keep h h' []) : Sta Z h' C n d v := by
  obtain ⟨cf, i, k, f, st, cell, h1, h2, h3, h4, h5, h6, h7⟩ := F
  exact ⟨cf, i, k, f, st, cell, h1, h2, h3, h4, K.2.1 st cell h5 nin0, h6, h7⟩
theorem own_eqint {t : Term} {n : Int32} {args : Array Value} {s : State} (h : (Jvm.Cond.eq t (.int n)).value args s none s [] = some true) : t.eval args s none [] s = some (.int n) := by
  obtain ⟨a, b, ha, hb, k1, k2⟩ := cmp_v (Or.inl h)
  have hb' : (Term.int n).eval args s none [] s = some (.int n) := rfl
  cases hb.symm.trans hb'
  obtain ⟨z, rfl⟩ := k2
  have : z = n := by simpa [Cond.value, ha, hb'] using h
  rw [ha, this]
theorem own_exa {args : Array Value} {s : State} {t : Term} {C : String} (h1 : (Jvm.Cond.exactly t C).value args s none s [] = some true) : ∃ x, t.eval args s none [] s = some (.ref x) ∧ Exa s s.heap x C := by
  obtain ⟨x, hx⟩ := exa_v h1
  exact ⟨x, hx, Exa.start hx h1⟩
theorem own_fldint {args : Array Value} {s : State} {t : Term} {C n d : String} {x : Addr} {k : Int32} (hx : t.eval args s none [] s = some (.ref x)) (h2 : (Jvm.Cond.eq (.field t C n d) (.int k)).value args s none s [] = some true) : Fld s s.heap x C n d (.int k) :=
  Fld.start ((fld_at hx).symm.trans (own_eqint h2))
theorem own_arr {args : Array Value} {s : State} {t : Term} {ty : FieldType} {n : Int32} (h1 : (Jvm.Cond.arrayOf t ty).value args s none s [] = some true) (h2 : (Jvm.Cond.eq (.length t) (.int n)).value args s none s [] = some true) :
    ∃ a cl, t.eval args s none [] s = some (.ref a) ∧ Arr s s.heap a cl ty ∧ cl.slots.size < 2 ^ 31 ∧ cl.slots.size.toInt32 = n := by
  obtain ⟨a, ha⟩ := arr_v h1
  obtain ⟨cl, A⟩ := Arr.start ha h1
  have e := own_eqint h2
  have hA : s.arrayAt? a = some cl := A.fin (Vm.Alike.refl _)
  simp only [Term.eval, ha, hA, Option.bind_eq_bind, Option.bind_some] at e
  split at e
  · rename_i q
    refine ⟨a, cl, ha, A, q, ?_⟩
    simpa using e
  · cases e
theorem own_elem {args : Array Value} {s : State} {t : Term} {ty : FieldType} {a : Addr} {cl : Cell} {j v : Int32} (ht : t.eval args s none [] s = some (.ref a)) (A : Arr s s.heap a cl ty) (h : (Jvm.Cond.eq (.elem t (.int j)) (.int v)).value args s none s [] = some true) : cl.slots[j.toNatClampNeg]? = some (.int v) :=
  (elem_in (own_eqint h) ht rfl A.1).2
theorem own_eqref {args : Array Value} {s : State} {t u : Term} {x : Addr} (hu : u.eval args s none [] s = some (.ref x)) (h : (Jvm.Cond.eq t u).value args s none s [] = some true) : t.eval args s none [] s = some (.ref x) := by
  obtain ⟨a, b, ha, hb, k1, k2⟩ := cmp_v (Or.inl h)
  cases hb.symm.trans hu
  have q : a.isRef = true := by cases a <;> simp [Kin, Value.isRef] at k1 k2 ⊢
  rcases ref_cases q with rfl | ⟨y, rfl⟩
  · simp [Cond.value, ha, hu] at h
  · have : y = x := by simpa [Cond.value, ha, hu] using h
    rw [ha, this]
theorem own_elemR {args : Array Value} {s : State} {t u : Term} {ty : FieldType} {a x : Addr} {cl : Cell} {j : Int32} (ht : t.eval args s none [] s = some (.ref a)) (A : Arr s s.heap a cl ty) (hu : u.eval args s none [] s = some (.ref x)) (h : (Jvm.Cond.eq (.elem t (.int j)) u).value args s none s [] = some true) : cl.slots[j.toNatClampNeg]? = some (.ref x) :=
  (elem_in (own_eqref hu h) ht rfl A.1).2
def own_h0 (o : Int32) : Int32 := if o.toInt ≠ 0 then 1 else 0
def own_h1 (o : Int32) : Int32 := if o.toInt ≤ 0 then 1 else 0
def own_h2 (o : Int32) : Int32 := if 0 ≤ o.toInt then 1 else 0
def own_h3 (o : Int32) : Int32 := if o.toInt = 0 then 1 else 0
def own_h4 (o : Int32) : Int32 := if o.toInt < 0 then 1 else 0
def own_h5 (o : Int32) : Int32 := if 0 < o.toInt then 1 else 0
def own_Str (Z : State) (h : Heap) (o v : Addr) (kc : ClassId) (n : Int32) (bs : List Value) : Prop := Exa Z h o "java/lang/String" ∧ Fld Z h o "java/lang/String" "value" "[B" (.ref v) ∧ Fld Z h o "java/lang/String" "coder" "B" (.int (0 : Int32)) ∧ Arv Z h v kc .byte n bs (.int (0 : Int32))
theorem own_str_keep {Z : State} {h h' : Heap} {o v : Addr} {kc : ClassId} {n : Int32} {bs : List Value} (H : own_Str Z h o v kc n bs) (K : Keep h h' []) : own_Str Z h' o v kc n bs := ⟨H.1.keep K, H.2.1.keep K nin0, H.2.2.1.keep K nin0, H.2.2.2.keep K nin0⟩
theorem own_mod (p : Int32) : (p &&& (2147483647 : Int32)) % (6 : Int32) = (0 : Int32) ∨ (p &&& (2147483647 : Int32)) % (6 : Int32) = (1 : Int32) ∨ (p &&& (2147483647 : Int32)) % (6 : Int32) = (2 : Int32) ∨ (p &&& (2147483647 : Int32)) % (6 : Int32) = (3 : Int32) ∨ (p &&& (2147483647 : Int32)) % (6 : Int32) = (4 : Int32) ∨ (p &&& (2147483647 : Int32)) % (6 : Int32) = (5 : Int32) := by
  have h1 := c_and p 2147483647 (by decide)
  have h2 := (c_irem (p &&& 2147483647) 6 6 rfl).1 h1.1
  have h3 : 0 ≤ ((p &&& (2147483647 : Int32)) % (6 : Int32)).toInt ∧ ((p &&& (2147483647 : Int32)) % (6 : Int32)).toInt < 6 := by rw [h2]; omega
  generalize (p &&& (2147483647 : Int32)) % (6 : Int32) = z at h3 ⊢
  rw [own_eq (b := 0) (k := 0) rfl, own_eq (b := 1) (k := 1) rfl, own_eq (b := 2) (k := 2) rfl, own_eq (b := 3) (k := 3) rfl, own_eq (b := 4) (k := 4) rfl, own_eq (b := 5) (k := 5) rfl]
  omega
theorem own_nz {args : Array Value} {s : State} {t : Term} {z : Int32} (e : t.eval args s none [] s = some (.int z)) (h : (Jvm.Cond.not (.eq t (.int (0 : Int32)))).value args s none s [] = some true) : ¬ z = (0 : Int32) := by
  have q := not_v h
  have hb : (Term.int (0 : Int32)).eval args s none [] s = some (.int 0) := rfl
  simpa [Cond.value, e, hb] using q
def Qown_coder (Z : State) (o1 : Addr) (cs : Int32) (h0 : Heap) (n0 : Nat) (v : Option Value) (h : Heap) (L : List Loc) : Prop := v = some (.int (0 : Int32)) ∧ Fr n0 L ∧ h = h0
set_option maxRecDepth 65536 in
set_option maxHeartbeats 40000000 in
theorem own_coder (l : Launch) (Z : State) (a0 : Array Value) (hw : ∀ d ∈ tables_1, d.before a0 Z = true) (ws : List Jvm.Cond) (o1 : Addr) (cs : Int32) (h0 : Heap) (n0 : Nat) (Z0 : n0 ≤ h0.size) (SC : Sta Z h0 "java/lang/String" "COMPACT_STRINGS" "Z" (.int cs)) (hcs : ¬ cs = (0 : Int32)) (Fc : Fld Z h0 o1 "java/lang/String" "coder" "B" (.int (0 : Int32))) :
    MetFree l own_m0 (head1 (Jvm.Cond.code own_m0 jdk_42_method_152_code 1 (some .byte) :: ws) ({ frames := 0, cells := 0, slots := 0, locals := 0 } : Room)) (fun a U => a = #[(.ref o1)] ∧ Z.Warmed39 U.vm ∧ U.heap = h0) (fun _ _ _ _ _ => True) (fun _ U o U' => ∃ v L, o = .returned v ∧ Qown_coder Z o1 cs h0 n0 v U'.heap L ∧ FrameEnd U o U' L ({ frames := 0, cells := 0, slots := 0, locals := 0 } : Room).cells ({ frames := 0, cells := 0, slots := 0, locals := 0 } : Room).slots) := by
  refine MetFree.of_bodySF (plainFor_of_name own_pn0) hisR ?_
  intro p e s m args below meth c s₁ Bd hml0 hP hK
  obtain ⟨rfl, hZ, hh⟩ := hP
  have hx := Bd.exec
  have hby := Bd.bytes
  have hml : c.maxLocals = 1 := hml0
  have hown : s.vm.findClass "java/lang/String" = some m.cls := by have q := findClass_of_methodNamed Bd.named; exact q
  have hnm := (name_of_methodNamed Bd.named Bd.method).1
  have X0 : Stand p l e ({ frames := 0, cells := 0, slots := 0, locals := 0 } : Room) s m #[(.ref o1)] below meth c s₁ [] 0 0 := Stand.of_body Bd
  have e0 : s₁.heap = h0 := by rw [← hh, Bd.state]; rfl
  have N0 := Fr.nil n0
  have pre0 : ∀ t, Steps p.tables e below (s₁.setTop (mkF m 0 #[.val (.ref o1)] [])) t → Steps p.tables e below (s₁.setTop (entryFrame m #[(.ref o1)] 1)) t := fun t k => castTop (by first | (simp [entryFrame, mkF, argsToLocals, Value.category, maxLocals]; done) | rfl) k
  obtain ⟨T101, X101, e101, st101⟩ := getS2 X0 hx hZ hown (host := "") (Or.inl (own_w41 hw)) Via.refl e0 SC (g := (mkF m 0 #[.val (.ref o1)] [])) rfl (hb hby own_d4_0)
  obtain ⟨T102, X102, e102, st102⟩ := getF X101 hx hZ hown (host := "") (Or.inl (own_w42 hw)) Via.refl e101 Fc (g := (mkF m 7 #[.val (.ref o1)] [(.ref o1)])) rfl rfl (hb hby own_d4_7)
  obtain ⟨fs, hr, hrun, hended, hW, hsame⟩ := X102.leave (v := some (.int (0 : Int32))) (fun h => by rw [Bd.returns] at h; cases h)
  refine ⟨_, _, pre0 _ ?_, hrun, hended, _, _, rfl, ?_, ⟨_, rfl⟩, hW, hsame.mono (by decide) (by decide)⟩
  · show Steps _ _ _ (s₁.setTop (mkF m 0 #[.val (.ref o1)] [])) _
    refine st101 _ ?_
    refine XS.ifNo X101.here hx rfl (hb hby own_d4_3) rfl ((if0 _ _).trans (feq hcs).1) ?_
    refine XS.aloadN X101.here hx rfl (hb hby own_d4_6) rfl rfl ?_
    refine st102 _ ?_
    show Steps _ _ _ (T102.setTop (mkF m 10 #[.val (.ref o1)] [(.int (0 : Int32))])) _
    refine XS.goto X102.here hx rfl (pc0 := 10) (pc' := 14) rfl (hb hby own_d4_10) (by decide) (by decide) ?_
    show Steps _ _ _ (T102.setTop (mkF m 14 #[.val (.ref o1)] [(.int (0 : Int32))])) _
    exact retN X102 hx (t := .byte) Bd.returns (by simp) (hb hby own_d4_14) hr
  · show Qown_coder Z o1 cs h0 n0 _ T102.heap _
    rw [e102]
    exact ⟨rfl, N0, rfl⟩
def Qown_isLatin1 (Z : State) (o1 : Addr) (cs : Int32) (h0 : Heap) (n0 : Nat) (v : Option Value) (h : Heap) (L : List Loc) : Prop := v = some (.int (1 : Int32)) ∧ Fr n0 L ∧ h = h0
set_option maxRecDepth 65536 in
set_option maxHeartbeats 40000000 in
theorem own_isLatin1 (l : Launch) (Z : State) (a0 : Array Value) (hw : ∀ d ∈ tables_1, d.before a0 Z = true) (ws : List Jvm.Cond) (o1 : Addr) (cs : Int32) (h0 : Heap) (n0 : Nat) (Z0 : n0 ≤ h0.size) (SC : Sta Z h0 "java/lang/String" "COMPACT_STRINGS" "Z" (.int cs)) (hcs : ¬ cs = (0 : Int32)) (Fc : Fld Z h0 o1 "java/lang/String" "coder" "B" (.int (0 : Int32))) :
    MetFree l own_m1 (head1 (Jvm.Cond.code own_m1 jdk_42_method_154_code 1 (some .boolean) :: ws) ({ frames := 0, cells := 0, slots := 0, locals := 0 } : Room)) (fun a U => a = #[(.ref o1)] ∧ Z.Warmed39 U.vm ∧ U.heap = h0) (fun _ _ _ _ _ => True) (fun _ U o U' => ∃ v L, o = .returned v ∧ Qown_isLatin1 Z o1 cs h0 n0 v U'.heap L ∧ FrameEnd U o U' L ({ frames := 0, cells := 0, slots := 0, locals := 0 } : Room).cells ({ frames := 0, cells := 0, slots := 0, locals := 0 } : Room).slots) := by
  refine MetFree.of_bodySF (plainFor_of_name own_pn0) hisR ?_
  intro p e s m args below meth c s₁ Bd hml0 hP hK
  obtain ⟨rfl, hZ, hh⟩ := hP
  have hx := Bd.exec
  have hby := Bd.bytes
  have hml : c.maxLocals = 1 := hml0
  have hown : s.vm.findClass "java/lang/String" = some m.cls := by have q := findClass_of_methodNamed Bd.named; exact q
  have hnm := (name_of_methodNamed Bd.named Bd.method).1
  have X0 : Stand p l e ({ frames := 0, cells := 0, slots := 0, locals := 0 } : Room) s m #[(.ref o1)] below meth c s₁ [] 0 0 := Stand.of_body Bd
  have e0 : s₁.heap = h0 := by rw [← hh, Bd.state]; rfl
  have N0 := Fr.nil n0
  have pre0 : ∀ t, Steps p.tables e below (s₁.setTop (mkF m 0 #[.val (.ref o1)] [])) t → Steps p.tables e below (s₁.setTop (entryFrame m #[(.ref o1)] 1)) t := fun t k => castTop (by first | (simp [entryFrame, mkF, argsToLocals, Value.category, maxLocals]; done) | rfl) k
  obtain ⟨T101, X101, e101, st101⟩ := getS2 X0 hx hZ hown (host := "") (Or.inl (own_w41 hw)) Via.refl e0 SC (g := (mkF m 0 #[.val (.ref o1)] [])) rfl (hb hby own_d6_0)
  obtain ⟨T102, X102, e102, st102⟩ := getF X101 hx hZ hown (host := "") (Or.inl (own_w42 hw)) Via.refl e101 Fc (g := (mkF m 7 #[.val (.ref o1)] [(.ref o1)])) rfl rfl (hb hby own_d6_7)
  obtain ⟨fs, hr, hrun, hended, hW, hsame⟩ := X102.leave (v := some (.int (1 : Int32))) (fun h => by rw [Bd.returns] at h; cases h)
  refine ⟨_, _, pre0 _ ?_, hrun, hended, _, _, rfl, ?_, ⟨_, rfl⟩, hW, hsame.mono (by decide) (by decide)⟩
  · show Steps _ _ _ (s₁.setTop (mkF m 0 #[.val (.ref o1)] [])) _
    refine st101 _ ?_
    refine XS.ifNo X101.here hx rfl (hb hby own_d6_3) rfl ((if0 _ _).trans (feq hcs).1) ?_
    refine XS.aloadN X101.here hx rfl (hb hby own_d6_6) rfl rfl ?_
    refine st102 _ ?_
    show Steps _ _ _ (T102.setTop (mkF m 10 #[.val (.ref o1)] [(.int (0 : Int32))])) _
    refine XS.ifNo X102.here hx rfl (hb hby own_d6_10) rfl ((if0 _ _).trans (teq (by decide : (0 : Int32) = (0 : Int32))).2) ?_
    refine XS.iconst X102.here hx rfl (hb hby own_d6_13) ?_
    refine XS.goto X102.here hx rfl (pc0 := 14) (pc' := 18) rfl (hb hby own_d6_14) (by decide) (by decide) ?_
    show Steps _ _ _ (T102.setTop (mkF m 18 #[.val (.ref o1)] [(.int (1 : Int32))])) _
    exact retN X102 hx (t := .boolean) Bd.returns (by simp) (hb hby own_d6_18) hr
  · show Qown_isLatin1 Z o1 cs h0 n0 _ T102.heap _
    rw [e102]
    exact ⟨rfl, N0, rfl⟩
def Qown_pci01n (Z : State)  (h0 : Heap) (n0 : Nat) (v : Option Value) (h : Heap) (L : List Loc) : Prop := v = some (.int (0 : Int32)) ∧ Fr n0 L ∧ h = h0
set_option maxRecDepth 65536 in
set_option maxHeartbeats 40000000 in
theorem own_pci01n (l : Launch) (Z : State) (a0 : Array Value) (hw : ∀ d ∈ tables_1, d.before a0 Z = true) (ws : List Jvm.Cond)  (h0 : Heap) (n0 : Nat) (Z0 : n0 ≤ h0.size)  :
    MetFree l own_m2 (head1 (Jvm.Cond.code own_m2 jdk_41_method_11_code 3 (some .int) :: ws) ({ frames := 0, cells := 0, slots := 0, locals := 0 } : Room)) (fun a U => a = #[(.int (0 : Int32)), (.int (1 : Int32)), .null] ∧ Z.Warmed39 U.vm ∧ U.heap = h0) (fun _ _ _ _ _ => True) (fun _ U o U' => ∃ v L, o = .returned v ∧ Qown_pci01n Z  h0 n0 v U'.heap L ∧ FrameEnd U o U' L ({ frames := 0, cells := 0, slots := 0, locals := 0 } : Room).cells ({ frames := 0, cells := 0, slots := 0, locals := 0 } : Room).slots) := by
  refine MetFree.of_bodySF (plainFor_of_name own_pn1) hisR ?_
  intro p e s m args below meth c s₁ Bd hml0 hP hK
  obtain ⟨rfl, hZ, hh⟩ := hP
  have hx := Bd.exec
  have hby := Bd.bytes
  have hml : c.maxLocals = 3 := hml0
  have hown : s.vm.findClass "jdk/internal/util/Preconditions" = some m.cls := by have q := findClass_of_methodNamed Bd.named; exact q
  have hnm := (name_of_methodNamed Bd.named Bd.method).1
  have X0 : Stand p l e ({ frames := 0, cells := 0, slots := 0, locals := 0 } : Room) s m #[(.int (0 : Int32)), (.int (1 : Int32)), .null] below meth c s₁ [] 0 0 := Stand.of_body Bd
  have e0 : s₁.heap = h0 := by rw [← hh, Bd.state]; rfl
  have N0 := Fr.nil n0
  have pre0 : ∀ t, Steps p.tables e below (s₁.setTop (mkF m 0 #[.val (.int (0 : Int32)), .val (.int (1 : Int32)), .val .null] [])) t → Steps p.tables e below (s₁.setTop (entryFrame m #[(.int (0 : Int32)), (.int (1 : Int32)), .null] 3)) t := fun t k => castTop (by first | (simp [entryFrame, mkF, argsToLocals, Value.category, maxLocals]; done) | rfl) k
  obtain ⟨fs, hr, hrun, hended, hW, hsame⟩ := X0.leave (v := some (.int (0 : Int32))) (fun h => by rw [Bd.returns] at h; cases h)
  refine ⟨_, _, pre0 _ ?_, hrun, hended, _, _, rfl, ?_, ⟨_, rfl⟩, hW, hsame.mono (by decide) (by decide)⟩
  · show Steps _ _ _ (s₁.setTop (mkF m 0 #[.val (.int (0 : Int32)), .val (.int (1 : Int32)), .val .null] [])) _
    refine XS.iloadN X0.here hx rfl (hb hby own_d9_0) rfl ?_
    refine XS.ifNo X0.here hx rfl (hb hby own_d9_1) rfl ((if0 _ _).trans (flt (by decide : ¬ ((0 : Int32) < (0 : Int32)))).1) ?_
    refine XS.iloadN X0.here hx rfl (hb hby own_d9_4) rfl ?_
    refine XS.iloadN X0.here hx rfl (hb hby own_d9_5) rfl ?_
    show Steps _ _ _ (s₁.setTop (mkF m 6 #[.val (.int (0 : Int32)), .val (.int (1 : Int32)), .val .null] [(.int (1 : Int32)), (.int (0 : Int32))])) _
    refine XS.icmpYes X0.here hx rfl (pc0 := 6) (pc' := 16) rfl (hb hby own_d9_6) rfl (tlt (by decide : (0 : Int32) < (1 : Int32))).1 (by decide) (by decide) ?_
    refine XS.iloadN X0.here hx rfl (hb hby own_d9_16) rfl ?_
    show Steps _ _ _ (s₁.setTop (mkF m 17 #[.val (.int (0 : Int32)), .val (.int (1 : Int32)), .val .null] [(.int (0 : Int32))])) _
    exact retI X0 hx Bd.returns (hb hby own_d9_17) hr
  · show Qown_pci01n Z  h0 n0 _ s₁.heap _
    rw [e0]
    exact ⟨rfl, N0, rfl⟩
def Qown_pci01r (Z : State) (f1 : Addr) (h0 : Heap) (n0 : Nat) (v : Option Value) (h : Heap) (L : List Loc) : Prop := v = some (.int (0 : Int32)) ∧ Fr n0 L ∧ h = h0
set_option maxRecDepth 65536 in
set_option maxHeartbeats 40000000 in
theorem own_pci01r (l : Launch) (Z : State) (a0 : Array Value) (hw : ∀ d ∈ tables_1, d.before a0 Z = true) (ws : List Jvm.Cond) (f1 : Addr) (h0 : Heap) (n0 : Nat) (Z0 : n0 ≤ h0.size)  :
    MetFree l own_m2 (head1 (Jvm.Cond.code own_m2 jdk_41_method_11_code 3 (some .int) :: ws) ({ frames := 0, cells := 0, slots := 0, locals := 0 } : Room)) (fun a U => a = #[(.int (0 : Int32)), (.int (1 : Int32)), (.ref f1)] ∧ Z.Warmed39 U.vm ∧ U.heap = h0) (fun _ _ _ _ _ => True) (fun _ U o U' => ∃ v L, o = .returned v ∧ Qown_pci01r Z f1 h0 n0 v U'.heap L ∧ FrameEnd U o U' L ({ frames := 0, cells := 0, slots := 0, locals := 0 } : Room).cells ({ frames := 0, cells := 0, slots := 0, locals := 0 } : Room).slots) := by
  refine MetFree.of_bodySF (plainFor_of_name own_pn1) hisR ?_
  intro p e s m args below meth c s₁ Bd hml0 hP hK
  obtain ⟨rfl, hZ, hh⟩ := hP
  have hx := Bd.exec
  have hby := Bd.bytes
  have hml : c.maxLocals = 3 := hml0
  have hown : s.vm.findClass "jdk/internal/util/Preconditions" = some m.cls := by have q := findClass_of_methodNamed Bd.named; exact q
  have hnm := (name_of_methodNamed Bd.named Bd.method).1
  have X0 : Stand p l e ({ frames := 0, cells := 0, slots := 0, locals := 0 } : Room) s m #[(.int (0 : Int32)), (.int (1 : Int32)), (.ref f1)] below meth c s₁ [] 0 0 := Stand.of_body Bd
  have e0 : s₁.heap = h0 := by rw [← hh, Bd.state]; rfl
  have N0 := Fr.nil n0
  have pre0 : ∀ t, Steps p.tables e below (s₁.setTop (mkF m 0 #[.val (.int (0 : Int32)), .val (.int (1 : Int32)), .val (.ref f1)] [])) t → Steps p.tables e below (s₁.setTop (entryFrame m #[(.int (0 : Int32)), (.int (1 : Int32)), (.ref f1)] 3)) t := fun t k => castTop (by first | (simp [entryFrame, mkF, argsToLocals, Value.category, maxLocals]; done) | rfl) k
  obtain ⟨fs, hr, hrun, hended, hW, hsame⟩ := X0.leave (v := some (.int (0 : Int32))) (fun h => by rw [Bd.returns] at h; cases h)
  refine ⟨_, _, pre0 _ ?_, hrun, hended, _, _, rfl, ?_, ⟨_, rfl⟩, hW, hsame.mono (by decide) (by decide)⟩
  · show Steps _ _ _ (s₁.setTop (mkF m 0 #[.val (.int (0 : Int32)), .val (.int (1 : Int32)), .val (.ref f1)] [])) _
    refine XS.iloadN X0.here hx rfl (hb hby own_d9_0) rfl ?_
    refine XS.ifNo X0.here hx rfl (hb hby own_d9_1) rfl ((if0 _ _).trans (flt (by decide : ¬ ((0 : Int32) < (0 : Int32)))).1) ?_
    refine XS.iloadN X0.here hx rfl (hb hby own_d9_4) rfl ?_
    refine XS.iloadN X0.here hx rfl (hb hby own_d9_5) rfl ?_
    show Steps _ _ _ (s₁.setTop (mkF m 6 #[.val (.int (0 : Int32)), .val (.int (1 : Int32)), .val (.ref f1)] [(.int (1 : Int32)), (.int (0 : Int32))])) _
    refine XS.icmpYes X0.here hx rfl (pc0 := 6) (pc' := 16) rfl (hb hby own_d9_6) rfl (tlt (by decide : (0 : Int32) < (1 : Int32))).1 (by decide) (by decide) ?_
    refine XS.iloadN X0.here hx rfl (hb hby own_d9_16) rfl ?_
    show Steps _ _ _ (s₁.setTop (mkF m 17 #[.val (.int (0 : Int32)), .val (.int (1 : Int32)), .val (.ref f1)] [(.int (0 : Int32))])) _
    exact retI X0 hx Bd.returns (hb hby own_d9_17) hr
  · show Qown_pci01r Z f1 h0 n0 _ s₁.heap _
    rw [e0]
    exact ⟨rfl, N0, rfl⟩
theorem own_pci01 (l : Launch) (Z : State) (a0 : Array Value) (hw : ∀ d ∈ tables_1, d.before a0 Z = true) (ws : List Jvm.Cond) (fv : Value) (h0 : Heap) (n0 : Nat) (Z0 : n0 ≤ h0.size) (hfv : fv.isRef = true) :
    MetFree l (⟨"jdk/internal/util/Preconditions", "checkIndex", "(IILjava/util/function/BiFunction;)I"⟩ : MethodName) (head1 (Jvm.Cond.code (⟨"jdk/internal/util/Preconditions", "checkIndex", "(IILjava/util/function/BiFunction;)I"⟩ : MethodName) jdk_41_method_11_code 3 (some .int) :: ws) ({ frames := 0, cells := 0, slots := 0, locals := 0 } : Room)) (fun a U => a = #[(.int (0 : Int32)), (.int (1 : Int32)), fv] ∧ Z.Warmed39 U.vm ∧ U.heap = h0) (fun _ _ _ _ _ => True) (fun _ U o U' => ∃ v L, o = .returned v ∧ Qown_pci01n Z h0 n0 v U'.heap L ∧ FrameEnd U o U' L ({ frames := 0, cells := 0, slots := 0, locals := 0 } : Room).cells ({ frames := 0, cells := 0, slots := 0, locals := 0 } : Room).slots) := by
  rcases ref_cases hfv with rfl | ⟨f1, rfl⟩
  · exact own_pci01n l Z a0 hw ws h0 n0 Z0
  · exact own_pci01r l Z a0 hw ws f1 h0 n0 Z0
def Qown_sci01 (Z : State) (cs : Int32) (fv : Value) (h0 : Heap) (n0 : Nat) (v : Option Value) (h : Heap) (L : List Loc) : Prop := v = none ∧ Fr n0 L ∧ h = h0
set_option maxRecDepth 65536 in
set_option maxHeartbeats 40000000 in
theorem own_sci01 (l : Launch) (Z : State) (a0 : Array Value) (hw : ∀ d ∈ tables_1, d.before a0 Z = true) (ws : List Jvm.Cond) (cs : Int32) (fv : Value) (h0 : Heap) (n0 : Nat) (Z0 : n0 ≤ h0.size) (SC : Sta Z h0 "java/lang/String" "COMPACT_STRINGS" "Z" (.int cs)) (hcs : ¬ cs = (0 : Int32)) (SF : Sta Z h0 "jdk/internal/util/Preconditions" "SIOOBE_FORMATTER" "Ljava/util/function/BiFunction;" fv) (hfv : fv.isRef = true) :
    MetFree l own_m3 (head1 (Jvm.Cond.code own_m3 jdk_42_method_155_code 2 none :: ws) ({ frames := 1, cells := 0, slots := 0, locals := 14 } : Room)) (fun a U => a = #[(.int (0 : Int32)), (.int (1 : Int32))] ∧ Z.Warmed39 U.vm ∧ U.heap = h0) (fun _ _ _ _ _ => True) (fun _ U o U' => ∃ v L, o = .returned v ∧ Qown_sci01 Z cs fv h0 n0 v U'.heap L ∧ FrameEnd U o U' L ({ frames := 1, cells := 0, slots := 0, locals := 14 } : Room).cells ({ frames := 1, cells := 0, slots := 0, locals := 14 } : Room).slots) := by
  refine MetFree.of_bodySF (plainFor_of_name own_pn0) hisR ?_
  intro p e s m args below meth c s₁ Bd hml0 hP hK
  obtain ⟨rfl, hZ, hh⟩ := hP
  have hx := Bd.exec
  have hby := Bd.bytes
  have hml : c.maxLocals = 2 := hml0
  have hown : s.vm.findClass "java/lang/String" = some m.cls := by have q := findClass_of_methodNamed Bd.named; exact q
  have hnm := (name_of_methodNamed Bd.named Bd.method).1
  have X0 : Stand p l e ({ frames := 1, cells := 0, slots := 0, locals := 14 } : Room) s m #[(.int (0 : Int32)), (.int (1 : Int32))] below meth c s₁ [] 0 0 := Stand.of_body Bd
  have e0 : s₁.heap = h0 := by rw [← hh, Bd.state]; rfl
  have N0 := Fr.nil n0
  have pre0 : ∀ t, Steps p.tables e below (s₁.setTop (mkF m 0 #[.val (.int (0 : Int32)), .val (.int (1 : Int32))] [])) t → Steps p.tables e below (s₁.setTop (entryFrame m #[(.int (0 : Int32)), (.int (1 : Int32))] 2)) t := fun t k => castTop (by first | (simp [entryFrame, mkF, argsToLocals, Value.category, maxLocals]; done) | rfl) k
  obtain ⟨T101, X101, e101, st101⟩ := getS2 X0 hx hZ hown (host := "") (Or.inl (own_w61 hw)) Via.refl e0 SF (g := (mkF m 2 #[.val (.int (0 : Int32)), .val (.int (1 : Int32))] [(.int (1 : Int32)), (.int (0 : Int32))])) rfl (hb hby own_d8_2)
  obtain ⟨_, _, ⟨T102, L102, k102, n102⟩, -, X102, ⟨Lc102, hQ102, l102, y102, z102⟩, st102⟩ := Jvm.LawKit.callS X101 hx (y := own_m2) hown (mvT hZ (own_w63 hw)) (mvT hZ (own_w64 hw)) (mvT hZ (own_w62 hw)) (mvT hZ (own_w65 hw)) (by decide) (backOf (W := 0) (own_pci01 l Z a0 hw [] fv h0 n0 Z0 hfv) hZ (own_w65 hw) (own_w62 hw) (by decide) (by decide)) (g := (mkF m 5 #[.val (.int (0 : Int32)), .val (.int (1 : Int32))] [fv, (.int (1 : Int32)), (.int (0 : Int32))])) rfl (by rw [hml]; rfl) (argsL := [(.int (0 : Int32)), (.int (1 : Int32)), fv]) (rest := []) (lenOf own_pd0 rfl) rfl (by show 2 * 0 + _ ≤ _; exact Nat.le_of_eq rfl) (hb hby own_d8_5) (fun _ _ => ⟨rfl, e101, (by decide : 0 + 0 ≤ _), (by decide : 0 + 0 ≤ _)⟩)
  dsimp only [Pt.U, Pt.locs, Pt.cells, Pt.slots] at X102 l102 y102 z102 st102 hQ102
  subst l102 y102 z102
  obtain ⟨rfl, N102q, e102⟩ := hQ102
  have N102 := Fr.app N0 N102q
  obtain ⟨fs, hr, hrun, hended, hW, hsame⟩ := X102.leave (v := none) (fun _ => rfl)
  refine ⟨_, _, pre0 _ ?_, hrun, hended, _, _, rfl, ?_, ⟨_, rfl⟩, hW, hsame.mono (by decide) (by decide)⟩
  · show Steps _ _ _ (s₁.setTop (mkF m 0 #[.val (.int (0 : Int32)), .val (.int (1 : Int32))] [])) _
    refine XS.iloadN X0.here hx rfl (hb hby own_d8_0) rfl ?_
    refine XS.iloadN X0.here hx rfl (hb hby own_d8_1) rfl ?_
    refine st101 _ ?_
    refine st102 _ ?_
    show Steps _ _ _ (T102.setTop (mkF m 8 #[.val (.int (0 : Int32)), .val (.int (1 : Int32))] [(.int (0 : Int32))])) _
    refine XS.pop X102.here hx rfl (hb hby own_d8_8) rfl rfl ?_
    show Steps _ _ _ (T102.setTop (mkF m 9 #[.val (.int (0 : Int32)), .val (.int (1 : Int32))] [])) _
    exact X102.returnOut hx Bd.returns (hb hby own_d8_9) hr
  · show Qown_sci01 Z cs fv h0 n0 _ T102.heap _
    rw [e102]
    exact ⟨rfl, N102, rfl⟩
def Qown_pci02n (Z : State)  (h0 : Heap) (n0 : Nat) (v : Option Value) (h : Heap) (L : List Loc) : Prop := v = some (.int (0 : Int32)) ∧ Fr n0 L ∧ h = h0
set_option maxRecDepth 65536 in
set_option maxHeartbeats 40000000 in
theorem own_pci02n (l : Launch) (Z : State) (a0 : Array Value) (hw : ∀ d ∈ tables_1, d.before a0 Z = true) (ws : List Jvm.Cond)  (h0 : Heap) (n0 : Nat) (Z0 : n0 ≤ h0.size)  :
    MetFree l own_m2 (head1 (Jvm.Cond.code own_m2 jdk_41_method_11_code 3 (some .int) :: ws) ({ frames := 0, cells := 0, slots := 0, locals := 0 } : Room)) (fun a U => a = #[(.int (0 : Int32)), (.int (2 : Int32)), .null] ∧ Z.Warmed39 U.vm ∧ U.heap = h0) (fun _ _ _ _ _ => True) (fun _ U o U' => ∃ v L, o = .returned v ∧ Qown_pci02n Z  h0 n0 v U'.heap L ∧ FrameEnd U o U' L ({ frames := 0, cells := 0, slots := 0, locals := 0 } : Room).cells ({ frames := 0, cells := 0, slots := 0, locals := 0 } : Room).slots) := by
  refine MetFree.of_bodySF (plainFor_of_name own_pn1) hisR ?_
  intro p e s m args below meth c s₁ Bd hml0 hP hK
  obtain ⟨rfl, hZ, hh⟩ := hP
  have hx := Bd.exec
  have hby := Bd.bytes
  have hml : c.maxLocals = 3 := hml0
  have hown : s.vm.findClass "jdk/internal/util/Preconditions" = some m.cls := by have q := findClass_of_methodNamed Bd.named; exact q
  have hnm := (name_of_methodNamed Bd.named Bd.method).1
  have X0 : Stand p l e ({ frames := 0, cells := 0, slots := 0, locals := 0 } : Room) s m #[(.int (0 : Int32)), (.int (2 : Int32)), .null] below meth c s₁ [] 0 0 := Stand.of_body Bd
  have e0 : s₁.heap = h0 := by rw [← hh, Bd.state]; rfl
  have N0 := Fr.nil n0
  have pre0 : ∀ t, Steps p.tables e below (s₁.setTop (mkF m 0 #[.val (.int (0 : Int32)), .val (.int (2 : Int32)), .val .null] [])) t → Steps p.tables e below (s₁.setTop (entryFrame m #[(.int (0 : Int32)), (.int (2 : Int32)), .null] 3)) t := fun t k => castTop (by first | (simp [entryFrame, mkF, argsToLocals, Value.category, maxLocals]; done) | rfl) k
  obtain ⟨fs, hr, hrun, hended, hW, hsame⟩ := X0.leave (v := some (.int (0 : Int32))) (fun h => by rw [Bd.returns] at h; cases h)
  refine ⟨_, _, pre0 _ ?_, hrun, hended, _, _, rfl, ?_, ⟨_, rfl⟩, hW, hsame.mono (by decide) (by decide)⟩
  · show Steps _ _ _ (s₁.setTop (mkF m 0 #[.val (.int (0 : Int32)), .val (.int (2 : Int32)), .val .null] [])) _
    refine XS.iloadN X0.here hx rfl (hb hby own_d9_0) rfl ?_
    refine XS.ifNo X0.here hx rfl (hb hby own_d9_1) rfl ((if0 _ _).trans (flt (by decide : ¬ ((0 : Int32) < (0 : Int32)))).1) ?_
    refine XS.iloadN X0.here hx rfl (hb hby own_d9_4) rfl ?_
    refine XS.iloadN X0.here hx rfl (hb hby own_d9_5) rfl ?_
    show Steps _ _ _ (s₁.setTop (mkF m 6 #[.val (.int (0 : Int32)), .val (.int (2 : Int32)), .val .null] [(.int (2 : Int32)), (.int (0 : Int32))])) _
    refine XS.icmpYes X0.here hx rfl (pc0 := 6) (pc' := 16) rfl (hb hby own_d9_6) rfl (tlt (by decide : (0 : Int32) < (2 : Int32))).1 (by decide) (by decide) ?_
    refine XS.iloadN X0.here hx rfl (hb hby own_d9_16) rfl ?_
    show Steps _ _ _ (s₁.setTop (mkF m 17 #[.val (.int (0 : Int32)), .val (.int (2 : Int32)), .val .null] [(.int (0 : Int32))])) _
    exact retI X0 hx Bd.returns (hb hby own_d9_17) hr
  · show Qown_pci02n Z  h0 n0 _ s₁.heap _
    rw [e0]
    exact ⟨rfl, N0, rfl⟩
def Qown_pci02r (Z : State) (f1 : Addr) (h0 : Heap) (n0 : Nat) (v : Option Value) (h : Heap) (L : List Loc) : Prop := v = some (.int (0 : Int32)) ∧ Fr n0 L ∧ h = h0
set_option maxRecDepth 65536 in
set_option maxHeartbeats 40000000 in
theorem own_pci02r (l : Launch) (Z : State) (a0 : Array Value) (hw : ∀ d ∈ tables_1, d.before a0 Z = true) (ws : List Jvm.Cond) (f1 : Addr) (h0 : Heap) (n0 : Nat) (Z0 : n0 ≤ h0.size)  :
    MetFree l own_m2 (head1 (Jvm.Cond.code own_m2 jdk_41_method_11_code 3 (some .int) :: ws) ({ frames := 0, cells := 0, slots := 0, locals := 0 } : Room)) (fun a U => a = #[(.int (0 : Int32)), (.int (2 : Int32)), (.ref f1)] ∧ Z.Warmed39 U.vm ∧ U.heap = h0) (fun _ _ _ _ _ => True) (fun _ U o U' => ∃ v L, o = .returned v ∧ Qown_pci02r Z f1 h0 n0 v U'.heap L ∧ FrameEnd U o U' L ({ frames := 0, cells := 0, slots := 0, locals := 0 } : Room).cells ({ frames := 0, cells := 0, slots := 0, locals := 0 } : Room).slots) := by
  refine MetFree.of_bodySF (plainFor_of_name own_pn1) hisR ?_
  intro p e s m args below meth c s₁ Bd hml0 hP hK
  obtain ⟨rfl, hZ, hh⟩ := hP
  have hx := Bd.exec
  have hby := Bd.bytes
  have hml : c.maxLocals = 3 := hml0
  have hown : s.vm.findClass "jdk/internal/util/Preconditions" = some m.cls := by have q := findClass_of_methodNamed Bd.named; exact q
  have hnm := (name_of_methodNamed Bd.named Bd.method).1
  have X0 : Stand p l e ({ frames := 0, cells := 0, slots := 0, locals := 0 } : Room) s m #[(.int (0 : Int32)), (.int (2 : Int32)), (.ref f1)] below meth c s₁ [] 0 0 := Stand.of_body Bd
  have e0 : s₁.heap = h0 := by rw [← hh, Bd.state]; rfl
  have N0 := Fr.nil n0
  have pre0 : ∀ t, Steps p.tables e below (s₁.setTop (mkF m 0 #[.val (.int (0 : Int32)), .val (.int (2 : Int32)), .val (.ref f1)] [])) t → Steps p.tables e below (s₁.setTop (entryFrame m #[(.int (0 : Int32)), (.int (2 : Int32)), (.ref f1)] 3)) t := fun t k => castTop (by first | (simp [entryFrame, mkF, argsToLocals, Value.category, maxLocals]; done) | rfl) k
  obtain ⟨fs, hr, hrun, hended, hW, hsame⟩ := X0.leave (v := some (.int (0 : Int32))) (fun h => by rw [Bd.returns] at h; cases h)
  refine ⟨_, _, pre0 _ ?_, hrun, hended, _, _, rfl, ?_, ⟨_, rfl⟩, hW, hsame.mono (by decide) (by decide)⟩
  · show Steps _ _ _ (s₁.setTop (mkF m 0 #[.val (.int (0 : Int32)), .val (.int (2 : Int32)), .val (.ref f1)] [])) _
    refine XS.iloadN X0.here hx rfl (hb hby own_d9_0) rfl ?_
    refine XS.ifNo X0.here hx rfl (hb hby own_d9_1) rfl ((if0 _ _).trans (flt (by decide : ¬ ((0 : Int32) < (0 : Int32)))).1) ?_
    refine XS.iloadN X0.here hx rfl (hb hby own_d9_4) rfl ?_
    refine XS.iloadN X0.here hx rfl (hb hby own_d9_5) rfl ?_
    show Steps _ _ _ (s₁.setTop (mkF m 6 #[.val (.int (0 : Int32)), .val (.int (2 : Int32)), .val (.ref f1)] [(.int (2 : Int32)), (.int (0 : Int32))])) _
    refine XS.icmpYes X0.here hx rfl (pc0 := 6) (pc' := 16) rfl (hb hby own_d9_6) rfl (tlt (by decide : (0 : Int32) < (2 : Int32))).1 (by decide) (by decide) ?_
    refine XS.iloadN X0.here hx rfl (hb hby own_d9_16) rfl ?_
    show Steps _ _ _ (s₁.setTop (mkF m 17 #[.val (.int (0 : Int32)), .val (.int (2 : Int32)), .val (.ref f1)] [(.int (0 : Int32))])) _
    exact retI X0 hx Bd.returns (hb hby own_d9_17) hr
  · show Qown_pci02r Z f1 h0 n0 _ s₁.heap _
    rw [e0]
    exact ⟨rfl, N0, rfl⟩
theorem own_pci02 (l : Launch) (Z : State) (a0 : Array Value) (hw : ∀ d ∈ tables_1, d.before a0 Z = true) (ws : List Jvm.Cond) (fv : Value) (h0 : Heap) (n0 : Nat) (Z0 : n0 ≤ h0.size) (hfv : fv.isRef = true) :
    MetFree l (⟨"jdk/internal/util/Preconditions", "checkIndex", "(IILjava/util/function/BiFunction;)I"⟩ : MethodName) (head1 (Jvm.Cond.code (⟨"jdk/internal/util/Preconditions", "checkIndex", "(IILjava/util/function/BiFunction;)I"⟩ : MethodName) jdk_41_method_11_code 3 (some .int) :: ws) ({ frames := 0, cells := 0, slots := 0, locals := 0 } : Room)) (fun a U => a = #[(.int (0 : Int32)), (.int (2 : Int32)), fv] ∧ Z.Warmed39 U.vm ∧ U.heap = h0) (fun _ _ _ _ _ => True) (fun _ U o U' => ∃ v L, o = .returned v ∧ Qown_pci02n Z h0 n0 v U'.heap L ∧ FrameEnd U o U' L ({ frames := 0, cells := 0, slots := 0, locals := 0 } : Room).cells ({ frames := 0, cells := 0, slots := 0, locals := 0 } : Room).slots) := by
  rcases ref_cases hfv with rfl | ⟨f1, rfl⟩
  · exact own_pci02n l Z a0 hw ws h0 n0 Z0
  · exact own_pci02r l Z a0 hw ws f1 h0 n0 Z0
def Qown_sci02 (Z : State) (cs : Int32) (fv : Value) (h0 : Heap) (n0 : Nat) (v : Option Value) (h : Heap) (L : List Loc) : Prop := v = none ∧ Fr n0 L ∧ h = h0
set_option maxRecDepth 65536 in
set_option maxHeartbeats 40000000 in
theorem own_sci02 (l : Launch) (Z : State) (a0 : Array Value) (hw : ∀ d ∈ tables_1, d.before a0 Z = true) (ws : List Jvm.Cond) (cs : Int32) (fv : Value) (h0 : Heap) (n0 : Nat) (Z0 : n0 ≤ h0.size) (SC : Sta Z h0 "java/lang/String" "COMPACT_STRINGS" "Z" (.int cs)) (hcs : ¬ cs = (0 : Int32)) (SF : Sta Z h0 "jdk/internal/util/Preconditions" "SIOOBE_FORMATTER" "Ljava/util/function/BiFunction;" fv) (hfv : fv.isRef = true) :
    MetFree l own_m3 (head1 (Jvm.Cond.code own_m3 jdk_42_method_155_code 2 none :: ws) ({ frames := 1, cells := 0, slots := 0, locals := 14 } : Room)) (fun a U => a = #[(.int (0 : Int32)), (.int (2 : Int32))] ∧ Z.Warmed39 U.vm ∧ U.heap = h0) (fun _ _ _ _ _ => True) (fun _ U o U' => ∃ v L, o = .returned v ∧ Qown_sci02 Z cs fv h0 n0 v U'.heap L ∧ FrameEnd U o U' L ({ frames := 1, cells := 0, slots := 0, locals := 14 } : Room).cells ({ frames := 1, cells := 0, slots := 0, locals := 14 } : Room).slots) := by
  refine MetFree.of_bodySF (plainFor_of_name own_pn0) hisR ?_
  intro p e s m args below meth c s₁ Bd hml0 hP hK
  obtain ⟨rfl, hZ, hh⟩ := hP
  have hx := Bd.exec
  have hby := Bd.bytes
  have hml : c.maxLocals = 2 := hml0
  have hown : s.vm.findClass "java/lang/String" = some m.cls := by have q := findClass_of_methodNamed Bd.named; exact q
  have hnm := (name_of_methodNamed Bd.named Bd.method).1
  have X0 : Stand p l e ({ frames := 1, cells := 0, slots := 0, locals := 14 } : Room) s m #[(.int (0 : Int32)), (.int (2 : Int32))] below meth c s₁ [] 0 0 := Stand.of_body Bd
  have e0 : s₁.heap = h0 := by rw [← hh, Bd.state]; rfl
  have N0 := Fr.nil n0
  have pre0 : ∀ t, Steps p.tables e below (s₁.setTop (mkF m 0 #[.val (.int (0 : Int32)), .val (.int (2 : Int32))] [])) t → Steps p.tables e below (s₁.setTop (entryFrame m #[(.int (0 : Int32)), (.int (2 : Int32))] 2)) t := fun t k => castTop (by first | (simp [entryFrame, mkF, argsToLocals, Value.category, maxLocals]; done) | rfl) k
  obtain ⟨T101, X101, e101, st101⟩ := getS2 X0 hx hZ hown (host := "") (Or.inl (own_w61 hw)) Via.refl e0 SF (g := (mkF m 2 #[.val (.int (0 : Int32)), .val (.int (2 : Int32))] [(.int (2 : Int32)), (.int (0 : Int32))])) rfl (hb hby own_d8_2)
  obtain ⟨_, _, ⟨T102, L102, k102, n102⟩, -, X102, ⟨Lc102, hQ102, l102, y102, z102⟩, st102⟩ := Jvm.LawKit.callS X101 hx (y := own_m2) hown (mvT hZ (own_w63 hw)) (mvT hZ (own_w64 hw)) (mvT hZ (own_w62 hw)) (mvT hZ (own_w65 hw)) (by decide) (backOf (W := 0) (own_pci02 l Z a0 hw [] fv h0 n0 Z0 hfv) hZ (own_w65 hw) (own_w62 hw) (by decide) (by decide)) (g := (mkF m 5 #[.val (.int (0 : Int32)), .val (.int (2 : Int32))] [fv, (.int (2 : Int32)), (.int (0 : Int32))])) rfl (by rw [hml]; rfl) (argsL := [(.int (0 : Int32)), (.int (2 : Int32)), fv]) (rest := []) (lenOf own_pd0 rfl) rfl (by show 2 * 0 + _ ≤ _; exact Nat.le_of_eq rfl) (hb hby own_d8_5) (fun _ _ => ⟨rfl, e101, (by decide : 0 + 0 ≤ _), (by decide : 0 + 0 ≤ _)⟩)
  dsimp only [Pt.U, Pt.locs, Pt.cells, Pt.slots] at X102 l102 y102 z102 st102 hQ102
  subst l102 y102 z102
  obtain ⟨rfl, N102q, e102⟩ := hQ102
  have N102 := Fr.app N0 N102q
  obtain ⟨fs, hr, hrun, hended, hW, hsame⟩ := X102.leave (v := none) (fun _ => rfl)
  refine ⟨_, _, pre0 _ ?_, hrun, hended, _, _, rfl, ?_, ⟨_, rfl⟩, hW, hsame.mono (by decide) (by decide)⟩
  · show Steps _ _ _ (s₁.setTop (mkF m 0 #[.val (.int (0 : Int32)), .val (.int (2 : Int32))] [])) _
    refine XS.iloadN X0.here hx rfl (hb hby own_d8_0) rfl ?_
    refine XS.iloadN X0.here hx rfl (hb hby own_d8_1) rfl ?_
    refine st101 _ ?_
    refine st102 _ ?_
    show Steps _ _ _ (T102.setTop (mkF m 8 #[.val (.int (0 : Int32)), .val (.int (2 : Int32))] [(.int (0 : Int32))])) _
    refine XS.pop X102.here hx rfl (hb hby own_d8_8) rfl rfl ?_
    show Steps _ _ _ (T102.setTop (mkF m 9 #[.val (.int (0 : Int32)), .val (.int (2 : Int32))] [])) _
    exact X102.returnOut hx Bd.returns (hb hby own_d8_9) hr
  · show Qown_sci02 Z cs fv h0 n0 _ T102.heap _
    rw [e102]
    exact ⟨rfl, N102, rfl⟩
def Qown_pci12n (Z : State)  (h0 : Heap) (n0 : Nat) (v : Option Value) (h : Heap) (L : List Loc) : Prop := v = some (.int (1 : Int32)) ∧ Fr n0 L ∧ h = h0
set_option maxRecDepth 65536 in
set_option maxHeartbeats 40000000 in
theorem own_pci12n (l : Launch) (Z : State) (a0 : Array Value) (hw : ∀ d ∈ tables_1, d.before a0 Z = true) (ws : List Jvm.Cond)  (h0 : Heap) (n0 : Nat) (Z0 : n0 ≤ h0.size)  :
    MetFree l own_m2 (head1 (Jvm.Cond.code own_m2 jdk_41_method_11_code 3 (some .int) :: ws) ({ frames := 0, cells := 0, slots := 0, locals := 0 } : Room)) (fun a U => a = #[(.int (1 : Int32)), (.int (2 : Int32)), .null] ∧ Z.Warmed39 U.vm ∧ U.heap = h0) (fun _ _ _ _ _ => True) (fun _ U o U' => ∃ v L, o = .returned v ∧ Qown_pci12n Z  h0 n0 v U'.heap L ∧ FrameEnd U o U' L ({ frames := 0, cells := 0, slots := 0, locals := 0 } : Room).cells ({ frames := 0, cells := 0, slots := 0, locals := 0 } : Room).slots) := by
  refine MetFree.of_bodySF (plainFor_of_name own_pn1) hisR ?_
  intro p e s m args below meth c s₁ Bd hml0 hP hK
  obtain ⟨rfl, hZ, hh⟩ := hP
  have hx := Bd.exec
  have hby := Bd.bytes
  have hml : c.maxLocals = 3 := hml0
  have hown : s.vm.findClass "jdk/internal/util/Preconditions" = some m.cls := by have q := findClass_of_methodNamed Bd.named; exact q
  have hnm := (name_of_methodNamed Bd.named Bd.method).1
  have X0 : Stand p l e ({ frames := 0, cells := 0, slots := 0, locals := 0 } : Room) s m #[(.int (1 : Int32)), (.int (2 : Int32)), .null] below meth c s₁ [] 0 0 := Stand.of_body Bd
  have e0 : s₁.heap = h0 := by rw [← hh, Bd.state]; rfl
  have N0 := Fr.nil n0
  have pre0 : ∀ t, Steps p.tables e below (s₁.setTop (mkF m 0 #[.val (.int (1 : Int32)), .val (.int (2 : Int32)), .val .null] [])) t → Steps p.tables e below (s₁.setTop (entryFrame m #[(.int (1 : Int32)), (.int (2 : Int32)), .null] 3)) t := fun t k => castTop (by first | (simp [entryFrame, mkF, argsToLocals, Value.category, maxLocals]; done) | rfl) k
  obtain ⟨fs, hr, hrun, hended, hW, hsame⟩ := X0.leave (v := some (.int (1 : Int32))) (fun h => by rw [Bd.returns] at h; cases h)
  refine ⟨_, _, pre0 _ ?_, hrun, hended, _, _, rfl, ?_, ⟨_, rfl⟩, hW, hsame.mono (by decide) (by decide)⟩
  · show Steps _ _ _ (s₁.setTop (mkF m 0 #[.val (.int (1 : Int32)), .val (.int (2 : Int32)), .val .null] [])) _
    refine XS.iloadN X0.here hx rfl (hb hby own_d9_0) rfl ?_
    refine XS.ifNo X0.here hx rfl (hb hby own_d9_1) rfl ((if0 _ _).trans (flt (by decide : ¬ ((1 : Int32) < (0 : Int32)))).1) ?_
    refine XS.iloadN X0.here hx rfl (hb hby own_d9_4) rfl ?_
    refine XS.iloadN X0.here hx rfl (hb hby own_d9_5) rfl ?_
    show Steps _ _ _ (s₁.setTop (mkF m 6 #[.val (.int (1 : Int32)), .val (.int (2 : Int32)), .val .null] [(.int (2 : Int32)), (.int (1 : Int32))])) _
    refine XS.icmpYes X0.here hx rfl (pc0 := 6) (pc' := 16) rfl (hb hby own_d9_6) rfl (tlt (by decide : (1 : Int32) < (2 : Int32))).1 (by decide) (by decide) ?_
    refine XS.iloadN X0.here hx rfl (hb hby own_d9_16) rfl ?_
    show Steps _ _ _ (s₁.setTop (mkF m 17 #[.val (.int (1 : Int32)), .val (.int (2 : Int32)), .val .null] [(.int (1 : Int32))])) _
    exact retI X0 hx Bd.returns (hb hby own_d9_17) hr
  · show Qown_pci12n Z  h0 n0 _ s₁.heap _
    rw [e0]
    exact ⟨rfl, N0, rfl⟩
def Qown_pci12r (Z : State) (f1 : Addr) (h0 : Heap) (n0 : Nat) (v : Option Value) (h : Heap) (L : List Loc) : Prop := v = some (.int (1 : Int32)) ∧ Fr n0 L ∧ h = h0
set_option maxRecDepth 65536 in
set_option maxHeartbeats 40000000 in
theorem own_pci12r (l : Launch) (Z : State) (a0 : Array Value) (hw : ∀ d ∈ tables_1, d.before a0 Z = true) (ws : List Jvm.Cond) (f1 : Addr) (h0 : Heap) (n0 : Nat) (Z0 : n0 ≤ h0.size)  :
    MetFree l own_m2 (head1 (Jvm.Cond.code own_m2 jdk_41_method_11_code 3 (some .int) :: ws) ({ frames := 0, cells := 0, slots := 0, locals := 0 } : Room)) (fun a U => a = #[(.int (1 : Int32)), (.int (2 : Int32)), (.ref f1)] ∧ Z.Warmed39 U.vm ∧ U.heap = h0) (fun _ _ _ _ _ => True) (fun _ U o U' => ∃ v L, o = .returned v ∧ Qown_pci12r Z f1 h0 n0 v U'.heap L ∧ FrameEnd U o U' L ({ frames := 0, cells := 0, slots := 0, locals := 0 } : Room).cells ({ frames := 0, cells := 0, slots := 0, locals := 0 } : Room).slots) := by
  refine MetFree.of_bodySF (plainFor_of_name own_pn1) hisR ?_
  intro p e s m args below meth c s₁ Bd hml0 hP hK
  obtain ⟨rfl, hZ, hh⟩ := hP
  have hx := Bd.exec
  have hby := Bd.bytes
  have hml : c.maxLocals = 3 := hml0
  have hown : s.vm.findClass "jdk/internal/util/Preconditions" = some m.cls := by have q := findClass_of_methodNamed Bd.named; exact q
  have hnm := (name_of_methodNamed Bd.named Bd.method).1
  have X0 : Stand p l e ({ frames := 0, cells := 0, slots := 0, locals := 0 } : Room) s m #[(.int (1 : Int32)), (.int (2 : Int32)), (.ref f1)] below meth c s₁ [] 0 0 := Stand.of_body Bd
  have e0 : s₁.heap = h0 := by rw [← hh, Bd.state]; rfl
  have N0 := Fr.nil n0
  have pre0 : ∀ t, Steps p.tables e below (s₁.setTop (mkF m 0 #[.val (.int (1 : Int32)), .val (.int (2 : Int32)), .val (.ref f1)] [])) t → Steps p.tables e below (s₁.setTop (entryFrame m #[(.int (1 : Int32)), (.int (2 : Int32)), (.ref f1)] 3)) t := fun t k => castTop (by first | (simp [entryFrame, mkF, argsToLocals, Value.category, maxLocals]; done) | rfl) k
  obtain ⟨fs, hr, hrun, hended, hW, hsame⟩ := X0.leave (v := some (.int (1 : Int32))) (fun h => by rw [Bd.returns] at h; cases h)
  refine ⟨_, _, pre0 _ ?_, hrun, hended, _, _, rfl, ?_, ⟨_, rfl⟩, hW, hsame.mono (by decide) (by decide)⟩
  · show Steps _ _ _ (s₁.setTop (mkF m 0 #[.val (.int (1 : Int32)), .val (.int (2 : Int32)), .val (.ref f1)] [])) _
    refine XS.iloadN X0.here hx rfl (hb hby own_d9_0) rfl ?_
    refine XS.ifNo X0.here hx rfl (hb hby own_d9_1) rfl ((if0 _ _).trans (flt (by decide : ¬ ((1 : Int32) < (0 : Int32)))).1) ?_
    refine XS.iloadN X0.here hx rfl (hb hby own_d9_4) rfl ?_
    refine XS.iloadN X0.here hx rfl (hb hby own_d9_5) rfl ?_
    show Steps _ _ _ (s₁.setTop (mkF m 6 #[.val (.int (1 : Int32)), .val (.int (2 : Int32)), .val (.ref f1)] [(.int (2 : Int32)), (.int (1 : Int32))])) _
    refine XS.icmpYes X0.here hx rfl (pc0 := 6) (pc' := 16) rfl (hb hby own_d9_6) rfl (tlt (by decide : (1 : Int32) < (2 : Int32))).1 (by decide) (by decide) ?_
    refine XS.iloadN X0.here hx rfl (hb hby own_d9_16) rfl ?_
    show Steps _ _ _ (s₁.setTop (mkF m 17 #[.val (.int (1 : Int32)), .val (.int (2 : Int32)), .val (.ref f1)] [(.int (1 : Int32))])) _
    exact retI X0 hx Bd.returns (hb hby own_d9_17) hr
  · show Qown_pci12r Z f1 h0 n0 _ s₁.heap _
    rw [e0]
    exact ⟨rfl, N0, rfl⟩
theorem own_pci12 (l : Launch) (Z : State) (a0 : Array Value) (hw : ∀ d ∈ tables_1, d.before a0 Z = true) (ws : List Jvm.Cond) (fv : Value) (h0 : Heap) (n0 : Nat) (Z0 : n0 ≤ h0.size) (hfv : fv.isRef = true) :
    MetFree l (⟨"jdk/internal/util/Preconditions", "checkIndex", "(IILjava/util/function/BiFunction;)I"⟩ : MethodName) (head1 (Jvm.Cond.code (⟨"jdk/internal/util/Preconditions", "checkIndex", "(IILjava/util/function/BiFunction;)I"⟩ : MethodName) jdk_41_method_11_code 3 (some .int) :: ws) ({ frames := 0, cells := 0, slots := 0, locals := 0 } : Room)) (fun a U => a = #[(.int (1 : Int32)), (.int (2 : Int32)), fv] ∧ Z.Warmed39 U.vm ∧ U.heap = h0) (fun _ _ _ _ _ => True) (fun _ U o U' => ∃ v L, o = .returned v ∧ Qown_pci12n Z h0 n0 v U'.heap L ∧ FrameEnd U o U' L ({ frames := 0, cells := 0, slots := 0, locals := 0 } : Room).cells ({ frames := 0, cells := 0, slots := 0, locals := 0 } : Room).slots) := by
  rcases ref_cases hfv with rfl | ⟨f1, rfl⟩
  · exact own_pci12n l Z a0 hw ws h0 n0 Z0
  · exact own_pci12r l Z a0 hw ws f1 h0 n0 Z0
def Qown_sci12 (Z : State) (cs : Int32) (fv : Value) (h0 : Heap) (n0 : Nat) (v : Option Value) (h : Heap) (L : List Loc) : Prop := v = none ∧ Fr n0 L ∧ h = h0
set_option maxRecDepth 65536 in
set_option maxHeartbeats 40000000 in
theorem own_sci12 (l : Launch) (Z : State) (a0 : Array Value) (hw : ∀ d ∈ tables_1, d.before a0 Z = true) (ws : List Jvm.Cond) (cs : Int32) (fv : Value) (h0 : Heap) (n0 : Nat) (Z0 : n0 ≤ h0.size) (SC : Sta Z h0 "java/lang/String" "COMPACT_STRINGS" "Z" (.int cs)) (hcs : ¬ cs = (0 : Int32)) (SF : Sta Z h0 "jdk/internal/util/Preconditions" "SIOOBE_FORMATTER" "Ljava/util/function/BiFunction;" fv) (hfv : fv.isRef = true) :
    MetFree l own_m3 (head1 (Jvm.Cond.code own_m3 jdk_42_method_155_code 2 none :: ws) ({ frames := 1, cells := 0, slots := 0, locals := 14 } : Room)) (fun a U => a = #[(.int (1 : Int32)), (.int (2 : Int32))] ∧ Z.Warmed39 U.vm ∧ U.heap = h0) (fun _ _ _ _ _ => True) (fun _ U o U' => ∃ v L, o = .returned v ∧ Qown_sci12 Z cs fv h0 n0 v U'.heap L ∧ FrameEnd U o U' L ({ frames := 1, cells := 0, slots := 0, locals := 14 } : Room).cells ({ frames := 1, cells := 0, slots := 0, locals := 14 } : Room).slots) := by
  refine MetFree.of_bodySF (plainFor_of_name own_pn0) hisR ?_
  intro p e s m args below meth c s₁ Bd hml0 hP hK
  obtain ⟨rfl, hZ, hh⟩ := hP
  have hx := Bd.exec
  have hby := Bd.bytes
  have hml : c.maxLocals = 2 := hml0
  have hown : s.vm.findClass "java/lang/String" = some m.cls := by have q := findClass_of_methodNamed Bd.named; exact q
  have hnm := (name_of_methodNamed Bd.named Bd.method).1
  have X0 : Stand p l e ({ frames := 1, cells := 0, slots := 0, locals := 14 } : Room) s m #[(.int (1 : Int32)), (.int (2 : Int32))] below meth c s₁ [] 0 0 := Stand.of_body Bd
  have e0 : s₁.heap = h0 := by rw [← hh, Bd.state]; rfl
  have N0 := Fr.nil n0
  have pre0 : ∀ t, Steps p.tables e below (s₁.setTop (mkF m 0 #[.val (.int (1 : Int32)), .val (.int (2 : Int32))] [])) t → Steps p.tables e below (s₁.setTop (entryFrame m #[(.int (1 : Int32)), (.int (2 : Int32))] 2)) t := fun t k => castTop (by first | (simp [entryFrame, mkF, argsToLocals, Value.category, maxLocals]; done) | rfl) k
  obtain ⟨T101, X101, e101, st101⟩ := getS2 X0 hx hZ hown (host := "") (Or.inl (own_w61 hw)) Via.refl e0 SF (g := (mkF m 2 #[.val (.int (1 : Int32)), .val (.int (2 : Int32))] [(.int (2 : Int32)), (.int (1 : Int32))])) rfl (hb hby own_d8_2)
  obtain ⟨_, _, ⟨T102, L102, k102, n102⟩, -, X102, ⟨Lc102, hQ102, l102, y102, z102⟩, st102⟩ := Jvm.LawKit.callS X101 hx (y := own_m2) hown (mvT hZ (own_w63 hw)) (mvT hZ (own_w64 hw)) (mvT hZ (own_w62 hw)) (mvT hZ (own_w65 hw)) (by decide) (backOf (W := 0) (own_pci12 l Z a0 hw [] fv h0 n0 Z0 hfv) hZ (own_w65 hw) (own_w62 hw) (by decide) (by decide)) (g := (mkF m 5 #[.val (.int (1 : Int32)), .val (.int (2 : Int32))] [fv, (.int (2 : Int32)), (.int (1 : Int32))])) rfl (by rw [hml]; rfl) (argsL := [(.int (1 : Int32)), (.int (2 : Int32)), fv]) (rest := []) (lenOf own_pd0 rfl) rfl (by show 2 * 0 + _ ≤ _; exact Nat.le_of_eq rfl) (hb hby own_d8_5) (fun _ _ => ⟨rfl, e101, (by decide : 0 + 0 ≤ _), (by decide : 0 + 0 ≤ _)⟩)
  dsimp only [Pt.U, Pt.locs, Pt.cells, Pt.slots] at X102 l102 y102 z102 st102 hQ102
  subst l102 y102 z102
  obtain ⟨rfl, N102q, e102⟩ := hQ102
  have N102 := Fr.app N0 N102q
  obtain ⟨fs, hr, hrun, hended, hW, hsame⟩ := X102.leave (v := none) (fun _ => rfl)
  refine ⟨_, _, pre0 _ ?_, hrun, hended, _, _, rfl, ?_, ⟨_, rfl⟩, hW, hsame.mono (by decide) (by decide)⟩
  · show Steps _ _ _ (s₁.setTop (mkF m 0 #[.val (.int (1 : Int32)), .val (.int (2 : Int32))] [])) _
    refine XS.iloadN X0.here hx rfl (hb hby own_d8_0) rfl ?_
    refine XS.iloadN X0.here hx rfl (hb hby own_d8_1) rfl ?_
    refine st101 _ ?_
    refine st102 _ ?_
    show Steps _ _ _ (T102.setTop (mkF m 8 #[.val (.int (1 : Int32)), .val (.int (2 : Int32))] [(.int (1 : Int32))])) _
    refine XS.pop X102.here hx rfl (hb hby own_d8_8) rfl rfl ?_
    show Steps _ _ _ (T102.setTop (mkF m 9 #[.val (.int (1 : Int32)), .val (.int (2 : Int32))] [])) _
    exact X102.returnOut hx Bd.returns (hb hby own_d8_9) hr
  · show Qown_sci12 Z cs fv h0 n0 _ T102.heap _
    rw [e102]
    exact ⟨rfl, N102, rfl⟩
def Qown_lcaNE0 (Z : State) (v1 : Addr) (kc : ClassId) (cs : Int32) (fv : Value) (h0 : Heap) (n0 : Nat) (v : Option Value) (h : Heap) (L : List Loc) : Prop := v = some (.int (33 : Int32)) ∧ Fr n0 L ∧ h = h0
set_option maxRecDepth 65536 in
set_option maxHeartbeats 40000000 in
theorem own_lcaNE0 (l : Launch) (Z : State) (a0 : Array Value) (hw : ∀ d ∈ tables_1, d.before a0 Z = true) (ws : List Jvm.Cond) (v1 : Addr) (kc : ClassId) (cs : Int32) (fv : Value) (h0 : Heap) (n0 : Nat) (Z0 : n0 ≤ h0.size) (Va : Arv Z h0 v1 kc .byte (2 : Int32) [(.int (33 : Int32)), (.int (61 : Int32))] (.int (0 : Int32))) (SC : Sta Z h0 "java/lang/String" "COMPACT_STRINGS" "Z" (.int cs)) (hcs : ¬ cs = (0 : Int32)) (SF : Sta Z h0 "jdk/internal/util/Preconditions" "SIOOBE_FORMATTER" "Ljava/util/function/BiFunction;" fv) (hfv : fv.isRef = true) :
    MetFree l own_m4 (head1 (Jvm.Cond.code own_m4 jdk_43_method_2_code 2 (some .char) :: ws) ({ frames := 2, cells := 0, slots := 0, locals := 27 } : Room)) (fun a U => a = #[(.ref v1), (.int (0 : Int32))] ∧ Z.Warmed39 U.vm ∧ U.heap = h0) (fun _ _ _ _ _ => True) (fun _ U o U' => ∃ v L, o = .returned v ∧ Qown_lcaNE0 Z v1 kc cs fv h0 n0 v U'.heap L ∧ FrameEnd U o U' L ({ frames := 2, cells := 0, slots := 0, locals := 27 } : Room).cells ({ frames := 2, cells := 0, slots := 0, locals := 27 } : Room).slots) := by
  refine MetFree.of_bodySF (plainFor_of_name own_pn2) hisR ?_
  intro p e s m args below meth c s₁ Bd hml0 hP hK
  obtain ⟨rfl, hZ, hh⟩ := hP
  have hx := Bd.exec
  have hby := Bd.bytes
  have hml : c.maxLocals = 2 := hml0
  have hown : s.vm.findClass "java/lang/StringLatin1" = some m.cls := by have q := findClass_of_methodNamed Bd.named; exact q
  have hnm := (name_of_methodNamed Bd.named Bd.method).1
  have X0 : Stand p l e ({ frames := 2, cells := 0, slots := 0, locals := 27 } : Room) s m #[(.ref v1), (.int (0 : Int32))] below meth c s₁ [] 0 0 := Stand.of_body Bd
  have e0 : s₁.heap = h0 := by rw [← hh, Bd.state]; rfl
  have N0 := Fr.nil n0
  have pre0 : ∀ t, Steps p.tables e below (s₁.setTop (mkF m 0 #[.val (.ref v1), .val (.int (0 : Int32))] [])) t → Steps p.tables e below (s₁.setTop (entryFrame m #[(.ref v1), (.int (0 : Int32))] 2)) t := fun t k => castTop (by first | (simp [entryFrame, mkF, argsToLocals, Value.category, maxLocals]; done) | rfl) k
  obtain ⟨cl101, Ar101, Aq101, As101, An101, Ah101, Ag101⟩ := id Va
  obtain ⟨_, _, ⟨T102, L102, k102, n102⟩, -, X102, ⟨Lc102, hQ102, l102, y102, z102⟩, st102⟩ := Jvm.LawKit.callS X0 hx (y := own_m3) hown (mvT hZ (own_w58 hw)) (mvT hZ (own_w59 hw)) (mvT hZ (own_w32 hw)) (mvT hZ (own_w60 hw)) (by decide) (backOf (W := 0) (own_sci02 l Z a0 hw [] cs fv h0 n0 Z0 SC hcs SF hfv) hZ (own_w60 hw) (own_w32 hw) (by decide) (by decide)) (g := (mkF m 3 #[.val (.ref v1), .val (.int (0 : Int32))] [(.int (2 : Int32)), (.int (0 : Int32))])) rfl (by rw [hml]; rfl) (argsL := [(.int (0 : Int32)), (.int (2 : Int32))]) (rest := []) (lenOf own_pd1 rfl) rfl (by show 2 * 0 + _ ≤ _; exact Nat.le_of_eq rfl) (hb hby own_d7_3) (fun _ _ => ⟨rfl, e0, (by decide : 0 + 0 ≤ _), (by decide : 0 + 0 ≤ _)⟩)
  dsimp only [Pt.U, Pt.locs, Pt.cells, Pt.slots] at X102 l102 y102 z102 st102 hQ102
  subst l102 y102 z102
  obtain ⟨rfl, N102q, e102⟩ := hQ102
  have N102 := Fr.app N0 N102q
  obtain ⟨cl103, Ar103, Aq103, As103, An103, Ah103, Ag103⟩ := id Va
  have hin103 : ¬ ((0 : Int32) < 0 ∨ cl103.slots.size ≤ ((0 : Int32)).toNatClampNeg) := inb_of As103 ⟨by decide, by decide⟩
  obtain ⟨fs, hr, hrun, hended, hW, hsame⟩ := X102.leave (v := some (.int (33 : Int32))) (fun h => by rw [Bd.returns] at h; cases h)
  refine ⟨_, _, pre0 _ ?_, hrun, hended, _, _, rfl, ?_, ⟨_, rfl⟩, hW, hsame.mono (by decide) (by decide)⟩
  · show Steps _ _ _ (s₁.setTop (mkF m 0 #[.val (.ref v1), .val (.int (0 : Int32))] [])) _
    refine XS.iloadN X0.here hx rfl (hb hby own_d7_0) rfl ?_
    refine XS.aloadN X0.here hx rfl (hb hby own_d7_1) rfl rfl ?_
    refine X0.arraylength hx (by rw [e0]; exact Ar101.1) (State.isArrayOf_alike hZ.alike Ar101.2.1) (g := (mkF m 2 #[.val (.ref v1), .val (.int (0 : Int32))] [(.ref v1), (.int (0 : Int32))])) rfl rfl (hb hby own_d7_2) _ ?_
    rw [len_of As101 An101]
    refine st102 _ ?_
    show Steps _ _ _ (T102.setTop (mkF m 6 #[.val (.ref v1), .val (.int (0 : Int32))] [])) _
    refine XS.aloadN X102.here hx rfl (hb hby own_d7_6) rfl rfl ?_
    refine XS.iloadN X102.here hx rfl (hb hby own_d7_7) rfl ?_
    refine X102.baloadBytes hx (j := (0 : Int32)) (v := (.int (33 : Int32))) (by rw [e102]; exact Ar103.1) (State.isArrayOf_alike hZ.alike Ar103.2.1) Ar103.2.2 hin103 (Ah103.at hin103 rfl) (g := (mkF m 8 #[.val (.ref v1), .val (.int (0 : Int32))] [(.int (0 : Int32)), (.ref v1)])) rfl rfl (hb hby own_d7_8) _ ?_
    refine XS.sipush X102.here hx rfl (hb hby own_d7_9) ?_
    show Steps _ _ _ (T102.setTop (mkF m 12 #[.val (.ref v1), .val (.int (0 : Int32))] [(.int (255 : Int32)), (.int (33 : Int32))])) _
    refine XS.iand X102.here hx rfl (hb hby own_d7_12) rfl ?_
    refine XS.i2c X102.here hx rfl (hb hby own_d7_13) rfl ?_
    show Steps _ _ _ (T102.setTop (mkF m 14 #[.val (.ref v1), .val (.int (0 : Int32))] [(.int (33 : Int32))])) _
    exact retN X102 hx (t := .char) Bd.returns (by simp) (hb hby own_d7_14) hr
  · show Qown_lcaNE0 Z v1 kc cs fv h0 n0 _ T102.heap _
    rw [e102]
    exact ⟨rfl, N102, rfl⟩
def Qown_caNE0 (Z : State) (o1 v1 : Addr) (kc : ClassId) (cs : Int32) (fv : Value) (h0 : Heap) (n0 : Nat) (v : Option Value) (h : Heap) (L : List Loc) : Prop := v = some (.int (33 : Int32)) ∧ Fr n0 L ∧ h = h0
set_option maxRecDepth 65536 in
set_option maxHeartbeats 40000000 in
theorem own_caNE0 (l : Launch) (Z : State) (a0 : Array Value) (hw : ∀ d ∈ tables_1, d.before a0 Z = true) (ws : List Jvm.Cond) (o1 v1 : Addr) (kc : ClassId) (cs : Int32) (fv : Value) (h0 : Heap) (n0 : Nat) (Z0 : n0 ≤ h0.size) (H : own_Str Z h0 o1 v1 kc (2 : Int32) [(.int (33 : Int32)), (.int (61 : Int32))]) (SC : Sta Z h0 "java/lang/String" "COMPACT_STRINGS" "Z" (.int cs)) (hcs : ¬ cs = (0 : Int32)) (SF : Sta Z h0 "jdk/internal/util/Preconditions" "SIOOBE_FORMATTER" "Ljava/util/function/BiFunction;" fv) (hfv : fv.isRef = true) :
    MetFree l own_m5 (head1 (Jvm.Cond.code own_m5 jdk_42_method_56_code 2 (some .char) :: ws) ({ frames := 3, cells := 0, slots := 0, locals := 40 } : Room)) (fun a U => a = #[(.ref o1), (.int (0 : Int32))] ∧ Z.Warmed39 U.vm ∧ U.heap = h0) (fun _ _ _ _ _ => True) (fun _ U o U' => ∃ v L, o = .returned v ∧ Qown_caNE0 Z o1 v1 kc cs fv h0 n0 v U'.heap L ∧ FrameEnd U o U' L ({ frames := 3, cells := 0, slots := 0, locals := 40 } : Room).cells ({ frames := 3, cells := 0, slots := 0, locals := 40 } : Room).slots) := by
  refine MetFree.of_bodySF (plainFor_of_name own_pn0) hisR ?_
  intro p e s m args below meth c s₁ Bd hml0 hP hK
  obtain ⟨rfl, hZ, hh⟩ := hP
  have hx := Bd.exec
  have hby := Bd.bytes
  have hml : c.maxLocals = 2 := hml0
  have hown : s.vm.findClass "java/lang/String" = some m.cls := by have q := findClass_of_methodNamed Bd.named; exact q
  have hnm := (name_of_methodNamed Bd.named Bd.method).1
  have X0 : Stand p l e ({ frames := 3, cells := 0, slots := 0, locals := 40 } : Room) s m #[(.ref o1), (.int (0 : Int32))] below meth c s₁ [] 0 0 := Stand.of_body Bd
  have e0 : s₁.heap = h0 := by rw [← hh, Bd.state]; rfl
  have N0 := Fr.nil n0
  have pre0 : ∀ t, Steps p.tables e below (s₁.setTop (mkF m 0 #[.val (.ref o1), .val (.int (0 : Int32))] [])) t → Steps p.tables e below (s₁.setTop (entryFrame m #[(.ref o1), (.int (0 : Int32))] 2)) t := fun t k => castTop (by first | (simp [entryFrame, mkF, argsToLocals, Value.category, maxLocals]; done) | rfl) k
  obtain ⟨E1, Fv, Fc, Va⟩ := H
  obtain ⟨cq101, kq101, q101a, q101b, q101c⟩ := isOf hZ e0 E1
  obtain ⟨_, _, ⟨T101, L101, k101, n101⟩, -, X101, ⟨Lc101, hQ101, l101, y101, z101⟩, st101⟩ := X0.virtualBack hx (y := own_m1) (z := own_m1) hown (mvT hZ (own_w49 hw)) (mvT hZ (own_w50 hw)) (notFace_of_selects (args := #[]) (mvT hZ (own_w52 hw))) (mvT hZ (own_w52 hw)) (mvT hZ (own_w51 hw)) (by decide) (backOf (W := 0) (own_isLatin1 l Z a0 hw [] o1 cs h0 n0 Z0 SC hcs Fc) hZ (own_w53 hw) (own_w32 hw) (by decide) (by decide)) q101a q101c (g := (mkF m 1 #[.val (.ref o1), .val (.int (0 : Int32))] [(.ref o1)])) rfl (by rw [hml]; rfl) (Steps.refl _) (argsL := []) (rest := []) (lenOf own_pd2 rfl) rfl (by show 2 * 0 + _ ≤ _; exact Nat.le_of_eq rfl) (hb hby own_d5_1) (fun _ _ => ⟨rfl, e0, (by decide : 0 + 0 ≤ _), (by decide : 0 + 0 ≤ _)⟩)
  dsimp only [Pt.U, Pt.locs, Pt.cells, Pt.slots] at X101 l101 y101 z101 st101 hQ101
  subst l101 y101 z101
  obtain ⟨rfl, N101q, e101⟩ := hQ101
  have N101 := Fr.app N0 N101q
  obtain ⟨T102, X102, e102, st102⟩ := getF X101 hx hZ hown (host := "") (Or.inl (own_w34 hw)) Via.refl e101 Fv (g := (mkF m 8 #[.val (.ref o1), .val (.int (0 : Int32))] [(.ref o1)])) rfl rfl (hb hby own_d5_8)
  obtain ⟨_, _, ⟨T103, L103, k103, n103⟩, -, X103, ⟨Lc103, hQ103, l103, y103, z103⟩, st103⟩ := Jvm.LawKit.callS X102 hx (y := own_m4) hown (mvT hZ (own_w54 hw)) (mvT hZ (own_w55 hw)) (mvT hZ (own_w56 hw)) (mvT hZ (own_w57 hw)) (by decide) (backOf (W := 0) (own_lcaNE0 l Z a0 hw [] v1 kc cs fv h0 n0 Z0 Va SC hcs SF hfv) hZ (own_w57 hw) (own_w56 hw) (by decide) (by decide)) (g := (mkF m 12 #[.val (.ref o1), .val (.int (0 : Int32))] [(.int (0 : Int32)), (.ref v1)])) rfl (by rw [hml]; rfl) (argsL := [(.ref v1), (.int (0 : Int32))]) (rest := []) (lenOf own_pd3 rfl) rfl (by show 2 * 0 + _ ≤ _; exact Nat.le_of_eq rfl) (hb hby own_d5_12) (fun _ _ => ⟨rfl, e102, (by decide : 0 + 0 ≤ _), (by decide : 0 + 0 ≤ _)⟩)
  dsimp only [Pt.U, Pt.locs, Pt.cells, Pt.slots] at X103 l103 y103 z103 st103 hQ103
  subst l103 y103 z103
  obtain ⟨rfl, N103q, e103⟩ := hQ103
  have N103 := Fr.app N101 N103q
  obtain ⟨fs, hr, hrun, hended, hW, hsame⟩ := X103.leave (v := some (.int (33 : Int32))) (fun h => by rw [Bd.returns] at h; cases h)
  refine ⟨_, _, pre0 _ ?_, hrun, hended, _, _, rfl, ?_, ⟨_, rfl⟩, hW, hsame.mono (by decide) (by decide)⟩
  · show Steps _ _ _ (s₁.setTop (mkF m 0 #[.val (.ref o1), .val (.int (0 : Int32))] [])) _
    refine XS.aloadN X0.here hx rfl (hb hby own_d5_0) rfl rfl ?_
    refine st101.trans ?_
    refine XS.ifNo X101.here hx rfl (hb hby own_d5_4) rfl ((if0 _ _).trans (feq (by decide : ¬ ((1 : Int32) = (0 : Int32)))).1) ?_
    refine XS.aloadN X101.here hx rfl (hb hby own_d5_7) rfl rfl ?_
    show Steps _ _ _ (T101.setTop (mkF m 8 #[.val (.ref o1), .val (.int (0 : Int32))] [(.ref o1)])) _
    refine st102 _ ?_
    refine XS.iloadN X102.here hx rfl (hb hby own_d5_11) rfl ?_
    refine st103 _ ?_
    show Steps _ _ _ (T103.setTop (mkF m 15 #[.val (.ref o1), .val (.int (0 : Int32))] [(.int (33 : Int32))])) _
    exact retN X103 hx (t := .char) Bd.returns (by simp) (hb hby own_d5_15) hr
  · show Qown_caNE0 Z o1 v1 kc cs fv h0 n0 _ T103.heap _
    rw [e103]
    exact ⟨rfl, N103, rfl⟩
def Qown_lcaNE1 (Z : State) (v1 : Addr) (kc : ClassId) (cs : Int32) (fv : Value) (h0 : Heap) (n0 : Nat) (v : Option Value) (h : Heap) (L : List Loc) : Prop := v = some (.int (61 : Int32)) ∧ Fr n0 L ∧ h = h0
set_option maxRecDepth 65536 in
set_option maxHeartbeats 40000000 in
theorem own_lcaNE1 (l : Launch) (Z : State) (a0 : Array Value) (hw : ∀ d ∈ tables_1, d.before a0 Z = true) (ws : List Jvm.Cond) (v1 : Addr) (kc : ClassId) (cs : Int32) (fv : Value) (h0 : Heap) (n0 : Nat) (Z0 : n0 ≤ h0.size) (Va : Arv Z h0 v1 kc .byte (2 : Int32) [(.int (33 : Int32)), (.int (61 : Int32))] (.int (0 : Int32))) (SC : Sta Z h0 "java/lang/String" "COMPACT_STRINGS" "Z" (.int cs)) (hcs : ¬ cs = (0 : Int32)) (SF : Sta Z h0 "jdk/internal/util/Preconditions" "SIOOBE_FORMATTER" "Ljava/util/function/BiFunction;" fv) (hfv : fv.isRef = true) :
    MetFree l own_m4 (head1 (Jvm.Cond.code own_m4 jdk_43_method_2_code 2 (some .char) :: ws) ({ frames := 2, cells := 0, slots := 0, locals := 27 } : Room)) (fun a U => a = #[(.ref v1), (.int (1 : Int32))] ∧ Z.Warmed39 U.vm ∧ U.heap = h0) (fun _ _ _ _ _ => True) (fun _ U o U' => ∃ v L, o = .returned v ∧ Qown_lcaNE1 Z v1 kc cs fv h0 n0 v U'.heap L ∧ FrameEnd U o U' L ({ frames := 2, cells := 0, slots := 0, locals := 27 } : Room).cells ({ frames := 2, cells := 0, slots := 0, locals := 27 } : Room).slots) := by
  refine MetFree.of_bodySF (plainFor_of_name own_pn2) hisR ?_
  intro p e s m args below meth c s₁ Bd hml0 hP hK
  obtain ⟨rfl, hZ, hh⟩ := hP
  have hx := Bd.exec
  have hby := Bd.bytes
  have hml : c.maxLocals = 2 := hml0
  have hown : s.vm.findClass "java/lang/StringLatin1" = some m.cls := by have q := findClass_of_methodNamed Bd.named; exact q
  have hnm := (name_of_methodNamed Bd.named Bd.method).1
  have X0 : Stand p l e ({ frames := 2, cells := 0, slots := 0, locals := 27 } : Room) s m #[(.ref v1), (.int (1 : Int32))] below meth c s₁ [] 0 0 := Stand.of_body Bd
  have e0 : s₁.heap = h0 := by rw [← hh, Bd.state]; rfl
  have N0 := Fr.nil n0
  have pre0 : ∀ t, Steps p.tables e below (s₁.setTop (mkF m 0 #[.val (.ref v1), .val (.int (1 : Int32))] [])) t → Steps p.tables e below (s₁.setTop (entryFrame m #[(.ref v1), (.int (1 : Int32))] 2)) t := fun t k => castTop (by first | (simp [entryFrame, mkF, argsToLocals, Value.category, maxLocals]; done) | rfl) k
  obtain ⟨cl101, Ar101, Aq101, As101, An101, Ah101, Ag101⟩ := id Va
  obtain ⟨_, _, ⟨T102, L102, k102, n102⟩, -, X102, ⟨Lc102, hQ102, l102, y102, z102⟩, st102⟩ := Jvm.LawKit.callS X0 hx (y := own_m3) hown (mvT hZ (own_w58 hw)) (mvT hZ (own_w59 hw)) (mvT hZ (own_w32 hw)) (mvT hZ (own_w60 hw)) (by decide) (backOf (W := 0) (own_sci12 l Z a0 hw [] cs fv h0 n0 Z0 SC hcs SF hfv) hZ (own_w60 hw) (own_w32 hw) (by decide) (by decide)) (g := (mkF m 3 #[.val (.ref v1), .val (.int (1 : Int32))] [(.int (2 : Int32)), (.int (1 : Int32))])) rfl (by rw [hml]; rfl) (argsL := [(.int (1 : Int32)), (.int (2 : Int32))]) (rest := []) (lenOf own_pd1 rfl) rfl (by show 2 * 0 + _ ≤ _; exact Nat.le_of_eq rfl) (hb hby own_d7_3) (fun _ _ => ⟨rfl, e0, (by decide : 0 + 0 ≤ _), (by decide : 0 + 0 ≤ _)⟩)
  dsimp only [Pt.U, Pt.locs, Pt.cells, Pt.slots] at X102 l102 y102 z102 st102 hQ102
  subst l102 y102 z102
  obtain ⟨rfl, N102q, e102⟩ := hQ102
  have N102 := Fr.app N0 N102q
  obtain ⟨cl103, Ar103, Aq103, As103, An103, Ah103, Ag103⟩ := id Va
  have hin103 : ¬ ((1 : Int32) < 0 ∨ cl103.slots.size ≤ ((1 : Int32)).toNatClampNeg) := inb_of As103 ⟨by decide, by decide⟩
  obtain ⟨fs, hr, hrun, hended, hW, hsame⟩ := X102.leave (v := some (.int (61 : Int32))) (fun h => by rw [Bd.returns] at h; cases h)
  refine ⟨_, _, pre0 _ ?_, hrun, hended, _, _, rfl, ?_, ⟨_, rfl⟩, hW, hsame.mono (by decide) (by decide)⟩
  · show Steps _ _ _ (s₁.setTop (mkF m 0 #[.val (.ref v1), .val (.int (1 : Int32))] [])) _
    refine XS.iloadN X0.here hx rfl (hb hby own_d7_0) rfl ?_
    refine XS.aloadN X0.here hx rfl (hb hby own_d7_1) rfl rfl ?_
    refine X0.arraylength hx (by rw [e0]; exact Ar101.1) (State.isArrayOf_alike hZ.alike Ar101.2.1) (g := (mkF m 2 #[.val (.ref v1), .val (.int (1 : Int32))] [(.ref v1), (.int (1 : Int32))])) rfl rfl (hb hby own_d7_2) _ ?_
    rw [len_of As101 An101]
    refine st102 _ ?_
    show Steps _ _ _ (T102.setTop (mkF m 6 #[.val (.ref v1), .val (.int (1 : Int32))] [])) _
    refine XS.aloadN X102.here hx rfl (hb hby own_d7_6) rfl rfl ?_
    refine XS.iloadN X102.here hx rfl (hb hby own_d7_7) rfl ?_
    refine X102.baloadBytes hx (j := (1 : Int32)) (v := (.int (61 : Int32))) (by rw [e102]; exact Ar103.1) (State.isArrayOf_alike hZ.alike Ar103.2.1) Ar103.2.2 hin103 (Ah103.at hin103 rfl) (g := (mkF m 8 #[.val (.ref v1), .val (.int (1 : Int32))] [(.int (1 : Int32)), (.ref v1)])) rfl rfl (hb hby own_d7_8) _ ?_
    refine XS.sipush X102.here hx rfl (hb hby own_d7_9) ?_
    show Steps _ _ _ (T102.setTop (mkF m 12 #[.val (.ref v1), .val (.int (1 : Int32))] [(.int (255 : Int32)), (.int (61 : Int32))])) _
    refine XS.iand X102.here hx rfl (hb hby own_d7_12) rfl ?_
    refine XS.i2c X102.here hx rfl (hb hby own_d7_13) rfl ?_
    show Steps _ _ _ (T102.setTop (mkF m 14 #[.val (.ref v1), .val (.int (1 : Int32))] [(.int (61 : Int32))])) _
    exact retN X102 hx (t := .char) Bd.returns (by simp) (hb hby own_d7_14) hr
  · show Qown_lcaNE1 Z v1 kc cs fv h0 n0 _ T102.heap _
    rw [e102]
    exact ⟨rfl, N102, rfl⟩
def Qown_caNE1 (Z : State) (o1 v1 : Addr) (kc : ClassId) (cs : Int32) (fv : Value) (h0 : Heap) (n0 : Nat) (v : Option Value) (h : Heap) (L : List Loc) : Prop := v = some (.int (61 : Int32)) ∧ Fr n0 L ∧ h = h0
set_option maxRecDepth 65536 in
set_option maxHeartbeats 40000000 in
theorem own_caNE1 (l : Launch) (Z : State) (a0 : Array Value) (hw : ∀ d ∈ tables_1, d.before a0 Z = true) (ws : List Jvm.Cond) (o1 v1 : Addr) (kc : ClassId) (cs : Int32) (fv : Value) (h0 : Heap) (n0 : Nat) (Z0 : n0 ≤ h0.size) (H : own_Str Z h0 o1 v1 kc (2 : Int32) [(.int (33 : Int32)), (.int (61 : Int32))]) (SC : Sta Z h0 "java/lang/String" "COMPACT_STRINGS" "Z" (.int cs)) (hcs : ¬ cs = (0 : Int32)) (SF : Sta Z h0 "jdk/internal/util/Preconditions" "SIOOBE_FORMATTER" "Ljava/util/function/BiFunction;" fv) (hfv : fv.isRef = true) :
    MetFree l own_m5 (head1 (Jvm.Cond.code own_m5 jdk_42_method_56_code 2 (some .char) :: ws) ({ frames := 3, cells := 0, slots := 0, locals := 40 } : Room)) (fun a U => a = #[(.ref o1), (.int (1 : Int32))] ∧ Z.Warmed39 U.vm ∧ U.heap = h0) (fun _ _ _ _ _ => True) (fun _ U o U' => ∃ v L, o = .returned v ∧ Qown_caNE1 Z o1 v1 kc cs fv h0 n0 v U'.heap L ∧ FrameEnd U o U' L ({ frames := 3, cells := 0, slots := 0, locals := 40 } : Room).cells ({ frames := 3, cells := 0, slots := 0, locals := 40 } : Room).slots) := by
  refine MetFree.of_bodySF (plainFor_of_name own_pn0) hisR ?_
  intro p e s m args below meth c s₁ Bd hml0 hP hK
  obtain ⟨rfl, hZ, hh⟩ := hP
  have hx := Bd.exec
  have hby := Bd.bytes
  have hml : c.maxLocals = 2 := hml0
  have hown : s.vm.findClass "java/lang/String" = some m.cls := by have q := findClass_of_methodNamed Bd.named; exact q
  have hnm := (name_of_methodNamed Bd.named Bd.method).1
  have X0 : Stand p l e ({ frames := 3, cells := 0, slots := 0, locals := 40 } : Room) s m #[(.ref o1), (.int (1 : Int32))] below meth c s₁ [] 0 0 := Stand.of_body Bd
  have e0 : s₁.heap = h0 := by rw [← hh, Bd.state]; rfl
  have N0 := Fr.nil n0
  have pre0 : ∀ t, Steps p.tables e below (s₁.setTop (mkF m 0 #[.val (.ref o1), .val (.int (1 : Int32))] [])) t → Steps p.tables e below (s₁.setTop (entryFrame m #[(.ref o1), (.int (1 : Int32))] 2)) t := fun t k => castTop (by first | (simp [entryFrame, mkF, argsToLocals, Value.category, maxLocals]; done) | rfl) k
  obtain ⟨E1, Fv, Fc, Va⟩ := H
  obtain ⟨cq101, kq101, q101a, q101b, q101c⟩ := isOf hZ e0 E1
  obtain ⟨_, _, ⟨T101, L101, k101, n101⟩, -, X101, ⟨Lc101, hQ101, l101, y101, z101⟩, st101⟩ := X0.virtualBack hx (y := own_m1) (z := own_m1) hown (mvT hZ (own_w49 hw)) (mvT hZ (own_w50 hw)) (notFace_of_selects (args := #[]) (mvT hZ (own_w52 hw))) (mvT hZ (own_w52 hw)) (mvT hZ (own_w51 hw)) (by decide) (backOf (W := 0) (own_isLatin1 l Z a0 hw [] o1 cs h0 n0 Z0 SC hcs Fc) hZ (own_w53 hw) (own_w32 hw) (by decide) (by decide)) q101a q101c (g := (mkF m 1 #[.val (.ref o1), .val (.int (1 : Int32))] [(.ref o1)])) rfl (by rw [hml]; rfl) (Steps.refl _) (argsL := []) (rest := []) (lenOf own_pd2 rfl) rfl (by show 2 * 0 + _ ≤ _; exact Nat.le_of_eq rfl) (hb hby own_d5_1) (fun _ _ => ⟨rfl, e0, (by decide : 0 + 0 ≤ _), (by decide : 0 + 0 ≤ _)⟩)
  dsimp only [Pt.U, Pt.locs, Pt.cells, Pt.slots] at X101 l101 y101 z101 st101 hQ101
  subst l101 y101 z101
  obtain ⟨rfl, N101q, e101⟩ := hQ101
  have N101 := Fr.app N0 N101q
  obtain ⟨T102, X102, e102, st102⟩ := getF X101 hx hZ hown (host := "") (Or.inl (own_w34 hw)) Via.refl e101 Fv (g := (mkF m 8 #[.val (.ref o1), .val (.int (1 : Int32))] [(.ref o1)])) rfl rfl (hb hby own_d5_8)
  obtain ⟨_, _, ⟨T103, L103, k103, n103⟩, -, X103, ⟨Lc103, hQ103, l103, y103, z103⟩, st103⟩ := Jvm.LawKit.callS X102 hx (y := own_m4) hown (mvT hZ (own_w54 hw)) (mvT hZ (own_w55 hw)) (mvT hZ (own_w56 hw)) (mvT hZ (own_w57 hw)) (by decide) (backOf (W := 0) (own_lcaNE1 l Z a0 hw [] v1 kc cs fv h0 n0 Z0 Va SC hcs SF hfv) hZ (own_w57 hw) (own_w56 hw) (by decide) (by decide)) (g := (mkF m 12 #[.val (.ref o1), .val (.int (1 : Int32))] [(.int (1 : Int32)), (.ref v1)])) rfl (by rw [hml]; rfl) (argsL := [(.ref v1), (.int (1 : Int32))]) (rest := []) (lenOf own_pd3 rfl) rfl (by show 2 * 0 + _ ≤ _; exact Nat.le_of_eq rfl) (hb hby own_d5_12) (fun _ _ => ⟨rfl, e102, (by decide : 0 + 0 ≤ _), (by decide : 0 + 0 ≤ _)⟩)
  dsimp only [Pt.U, Pt.locs, Pt.cells, Pt.slots] at X103 l103 y103 z103 st103 hQ103
  subst l103 y103 z103
  obtain ⟨rfl, N103q, e103⟩ := hQ103
  have N103 := Fr.app N101 N103q
  obtain ⟨fs, hr, hrun, hended, hW, hsame⟩ := X103.leave (v := some (.int (61 : Int32))) (fun h => by rw [Bd.returns] at h; cases h)
  refine ⟨_, _, pre0 _ ?_, hrun, hended, _, _, rfl, ?_, ⟨_, rfl⟩, hW, hsame.mono (by decide) (by decide)⟩
  · show Steps _ _ _ (s₁.setTop (mkF m 0 #[.val (.ref o1), .val (.int (1 : Int32))] [])) _
    refine XS.aloadN X0.here hx rfl (hb hby own_d5_0) rfl rfl ?_
    refine st101.trans ?_
    refine XS.ifNo X101.here hx rfl (hb hby own_d5_4) rfl ((if0 _ _).trans (feq (by decide : ¬ ((1 : Int32) = (0 : Int32)))).1) ?_
    refine XS.aloadN X101.here hx rfl (hb hby own_d5_7) rfl rfl ?_
    show Steps _ _ _ (T101.setTop (mkF m 8 #[.val (.ref o1), .val (.int (1 : Int32))] [(.ref o1)])) _
    refine st102 _ ?_
    refine XS.iloadN X102.here hx rfl (hb hby own_d5_11) rfl ?_
    refine st103 _ ?_
    show Steps _ _ _ (T103.setTop (mkF m 15 #[.val (.ref o1), .val (.int (1 : Int32))] [(.int (61 : Int32))])) _
    exact retN X103 hx (t := .char) Bd.returns (by simp) (hb hby own_d5_15) hr
  · show Qown_caNE1 Z o1 v1 kc cs fv h0 n0 _ T103.heap _
    rw [e103]
    exact ⟨rfl, N103, rfl⟩
def Qown_lenNE (Z : State) (o1 v1 : Addr) (kc : ClassId) (cs : Int32) (fv : Value) (h0 : Heap) (n0 : Nat) (v : Option Value) (h : Heap) (L : List Loc) : Prop := v = some (.int (2 : Int32)) ∧ Fr n0 L ∧ h = h0
set_option maxRecDepth 65536 in
set_option maxHeartbeats 40000000 in
theorem own_lenNE (l : Launch) (Z : State) (a0 : Array Value) (hw : ∀ d ∈ tables_1, d.before a0 Z = true) (ws : List Jvm.Cond) (o1 v1 : Addr) (kc : ClassId) (cs : Int32) (fv : Value) (h0 : Heap) (n0 : Nat) (Z0 : n0 ≤ h0.size) (H : own_Str Z h0 o1 v1 kc (2 : Int32) [(.int (33 : Int32)), (.int (61 : Int32))]) (SC : Sta Z h0 "java/lang/String" "COMPACT_STRINGS" "Z" (.int cs)) (hcs : ¬ cs = (0 : Int32)) (SF : Sta Z h0 "jdk/internal/util/Preconditions" "SIOOBE_FORMATTER" "Ljava/util/function/BiFunction;" fv) (hfv : fv.isRef = true) :
    MetFree l own_m6 (head1 (Jvm.Cond.code own_m6 jdk_42_method_54_code 1 (some .int) :: ws) ({ frames := 1, cells := 0, slots := 0, locals := 13 } : Room)) (fun a U => a = #[(.ref o1)] ∧ Z.Warmed39 U.vm ∧ U.heap = h0) (fun _ _ _ _ _ => True) (fun _ U o U' => ∃ v L, o = .returned v ∧ Qown_lenNE Z o1 v1 kc cs fv h0 n0 v U'.heap L ∧ FrameEnd U o U' L ({ frames := 1, cells := 0, slots := 0, locals := 13 } : Room).cells ({ frames := 1, cells := 0, slots := 0, locals := 13 } : Room).slots) := by
  refine MetFree.of_bodySF (plainFor_of_name own_pn0) hisR ?_
  intro p e s m args below meth c s₁ Bd hml0 hP hK
  obtain ⟨rfl, hZ, hh⟩ := hP
  have hx := Bd.exec
  have hby := Bd.bytes
  have hml : c.maxLocals = 1 := hml0
  have hown : s.vm.findClass "java/lang/String" = some m.cls := by have q := findClass_of_methodNamed Bd.named; exact q
  have hnm := (name_of_methodNamed Bd.named Bd.method).1
  have X0 : Stand p l e ({ frames := 1, cells := 0, slots := 0, locals := 13 } : Room) s m #[(.ref o1)] below meth c s₁ [] 0 0 := Stand.of_body Bd
  have e0 : s₁.heap = h0 := by rw [← hh, Bd.state]; rfl
  have N0 := Fr.nil n0
  have pre0 : ∀ t, Steps p.tables e below (s₁.setTop (mkF m 0 #[.val (.ref o1)] [])) t → Steps p.tables e below (s₁.setTop (entryFrame m #[(.ref o1)] 1)) t := fun t k => castTop (by first | (simp [entryFrame, mkF, argsToLocals, Value.category, maxLocals]; done) | rfl) k
  obtain ⟨E1, Fv, Fc, Va⟩ := H
  obtain ⟨T101, X101, e101, st101⟩ := getF X0 hx hZ hown (host := "") (Or.inl (own_w34 hw)) Via.refl e0 Fv (g := (mkF m 1 #[.val (.ref o1)] [(.ref o1)])) rfl rfl (hb hby own_d3_1)
  obtain ⟨cl102, Ar102, Aq102, As102, An102, Ah102, Ag102⟩ := id Va
  obtain ⟨cq103, kq103, q103a, q103b, q103c⟩ := isOf hZ e101 E1
  obtain ⟨_, _, ⟨T103, L103, k103, n103⟩, -, X103, ⟨Lc103, hQ103, l103, y103, z103⟩, st103⟩ := X101.virtualBack hx (y := own_m0) (z := own_m0) hown (mvT hZ (own_w36 hw)) (mvT hZ (own_w37 hw)) (notFace_of_selects (args := #[]) (mvT hZ (own_w39 hw))) (mvT hZ (own_w39 hw)) (mvT hZ (own_w38 hw)) (by decide) (backOf (W := 1) (own_coder l Z a0 hw [] o1 cs h0 n0 Z0 SC hcs Fc) hZ (own_w40 hw) (own_w32 hw) (by decide) (by decide)) q103a q103c (g := (mkF m 6 #[.val (.ref o1)] [(.ref o1), (.int (2 : Int32))])) rfl (by rw [hml]; rfl) (Steps.refl _) (argsL := []) (rest := [(.int (2 : Int32))]) (lenOf own_pd4 rfl) rfl (by show 2 * 0 + _ ≤ _; exact Nat.le_of_eq rfl) (hb hby own_d3_6) (fun _ _ => ⟨rfl, e101, (by decide : 0 + 0 ≤ _), (by decide : 0 + 0 ≤ _)⟩)
  dsimp only [Pt.U, Pt.locs, Pt.cells, Pt.slots] at X103 l103 y103 z103 st103 hQ103
  subst l103 y103 z103
  obtain ⟨rfl, N103q, e103⟩ := hQ103
  have N103 := Fr.app N0 N103q
  obtain ⟨fs, hr, hrun, hended, hW, hsame⟩ := X103.leave (v := some (.int (2 : Int32))) (fun h => by rw [Bd.returns] at h; cases h)
  refine ⟨_, _, pre0 _ ?_, hrun, hended, _, _, rfl, ?_, ⟨_, rfl⟩, hW, hsame.mono (by decide) (by decide)⟩
  · show Steps _ _ _ (s₁.setTop (mkF m 0 #[.val (.ref o1)] [])) _
    refine XS.aloadN X0.here hx rfl (hb hby own_d3_0) rfl rfl ?_
    refine st101 _ ?_
    refine X101.arraylength hx (by rw [e101]; exact Ar102.1) (State.isArrayOf_alike hZ.alike Ar102.2.1) (g := (mkF m 4 #[.val (.ref o1)] [(.ref v1)])) rfl rfl (hb hby own_d3_4) _ ?_
    rw [len_of As102 An102]
    refine XS.aloadN X101.here hx rfl (hb hby own_d3_5) rfl rfl ?_
    show Steps _ _ _ (T101.setTop (mkF m 6 #[.val (.ref o1)] [(.ref o1), (.int (2 : Int32))])) _
    refine st103.trans ?_
    refine XS.ishr X103.here hx rfl (hb hby own_d3_9) rfl ?_
    show Steps _ _ _ (T103.setTop (mkF m 10 #[.val (.ref o1)] [(.int (2 : Int32))])) _
    exact retI X103 hx Bd.returns (hb hby own_d3_10) hr
  · show Qown_lenNE Z o1 v1 kc cs fv h0 n0 _ T103.heap _
    rw [e103]
    exact ⟨rfl, N103, rfl⟩
def Qown_lcaLE0 (Z : State) (v1 : Addr) (kc : ClassId) (cs : Int32) (fv : Value) (h0 : Heap) (n0 : Nat) (v : Option Value) (h : Heap) (L : List Loc) : Prop := v = some (.int (60 : Int32)) ∧ Fr n0 L ∧ h = h0
set_option maxRecDepth 65536 in
set_option maxHeartbeats 40000000 in
theorem own_lcaLE0 (l : Launch) (Z : State) (a0 : Array Value) (hw : ∀ d ∈ tables_1, d.before a0 Z = true) (ws : List Jvm.Cond) (v1 : Addr) (kc : ClassId) (cs : Int32) (fv : Value) (h0 : Heap) (n0 : Nat) (Z0 : n0 ≤ h0.size) (Va : Arv Z h0 v1 kc .byte (2 : Int32) [(.int (60 : Int32)), (.int (61 : Int32))] (.int (0 : Int32))) (SC : Sta Z h0 "java/lang/String" "COMPACT_STRINGS" "Z" (.int cs)) (hcs : ¬ cs = (0 : Int32)) (SF : Sta Z h0 "jdk/internal/util/Preconditions" "SIOOBE_FORMATTER" "Ljava/util/function/BiFunction;" fv) (hfv : fv.isRef = true) :
    MetFree l own_m4 (head1 (Jvm.Cond.code own_m4 jdk_43_method_2_code 2 (some .char) :: ws) ({ frames := 2, cells := 0, slots := 0, locals := 27 } : Room)) (fun a U => a = #[(.ref v1), (.int (0 : Int32))] ∧ Z.Warmed39 U.vm ∧ U.heap = h0) (fun _ _ _ _ _ => True) (fun _ U o U' => ∃ v L, o = .returned v ∧ Qown_lcaLE0 Z v1 kc cs fv h0 n0 v U'.heap L ∧ FrameEnd U o U' L ({ frames := 2, cells := 0, slots := 0, locals := 27 } : Room).cells ({ frames := 2, cells := 0, slots := 0, locals := 27 } : Room).slots) := by
  refine MetFree.of_bodySF (plainFor_of_name own_pn2) hisR ?_
  intro p e s m args below meth c s₁ Bd hml0 hP hK
  obtain ⟨rfl, hZ, hh⟩ := hP
  have hx := Bd.exec
  have hby := Bd.bytes
  have hml : c.maxLocals = 2 := hml0
  have hown : s.vm.findClass "java/lang/StringLatin1" = some m.cls := by have q := findClass_of_methodNamed Bd.named; exact q
  have hnm := (name_of_methodNamed Bd.named Bd.method).1
  have X0 : Stand p l e ({ frames := 2, cells := 0, slots := 0, locals := 27 } : Room) s m #[(.ref v1), (.int (0 : Int32))] below meth c s₁ [] 0 0 := Stand.of_body Bd
  have e0 : s₁.heap = h0 := by rw [← hh, Bd.state]; rfl
  have N0 := Fr.nil n0
  have pre0 : ∀ t, Steps p.tables e below (s₁.setTop (mkF m 0 #[.val (.ref v1), .val (.int (0 : Int32))] [])) t → Steps p.tables e below (s₁.setTop (entryFrame m #[(.ref v1), (.int (0 : Int32))] 2)) t := fun t k => castTop (by first | (simp [entryFrame, mkF, argsToLocals, Value.category, maxLocals]; done) | rfl) k
  obtain ⟨cl101, Ar101, Aq101, As101, An101, Ah101, Ag101⟩ := id Va
  obtain ⟨_, _, ⟨T102, L102, k102, n102⟩, -, X102, ⟨Lc102, hQ102, l102, y102, z102⟩, st102⟩ := Jvm.LawKit.callS X0 hx (y := own_m3) hown (mvT hZ (own_w58 hw)) (mvT hZ (own_w59 hw)) (mvT hZ (own_w32 hw)) (mvT hZ (own_w60 hw)) (by decide) (backOf (W := 0) (own_sci02 l Z a0 hw [] cs fv h0 n0 Z0 SC hcs SF hfv) hZ (own_w60 hw) (own_w32 hw) (by decide) (by decide)) (g := (mkF m 3 #[.val (.ref v1), .val (.int (0 : Int32))] [(.int (2 : Int32)), (.int (0 : Int32))])) rfl (by rw [hml]; rfl) (argsL := [(.int (0 : Int32)), (.int (2 : Int32))]) (rest := []) (lenOf own_pd1 rfl) rfl (by show 2 * 0 + _ ≤ _; exact Nat.le_of_eq rfl) (hb hby own_d7_3) (fun _ _ => ⟨rfl, e0, (by decide : 0 + 0 ≤ _), (by decide : 0 + 0 ≤ _)⟩)
  dsimp only [Pt.U, Pt.locs, Pt.cells, Pt.slots] at X102 l102 y102 z102 st102 hQ102
  subst l102 y102 z102
  obtain ⟨rfl, N102q, e102⟩ := hQ102
  have N102 := Fr.app N0 N102q
  obtain ⟨cl103, Ar103, Aq103, As103, An103, Ah103, Ag103⟩ := id Va
  have hin103 : ¬ ((0 : Int32) < 0 ∨ cl103.slots.size ≤ ((0 : Int32)).toNatClampNeg) := inb_of As103 ⟨by decide, by decide⟩
  obtain ⟨fs, hr, hrun, hended, hW, hsame⟩ := X102.leave (v := some (.int (60 : Int32))) (fun h => by rw [Bd.returns] at h; cases h)
  refine ⟨_, _, pre0 _ ?_, hrun, hended, _, _, rfl, ?_, ⟨_, rfl⟩, hW, hsame.mono (by decide) (by decide)⟩
  · show Steps _ _ _ (s₁.setTop (mkF m 0 #[.val (.ref v1), .val (.int (0 : Int32))] [])) _
    refine XS.iloadN X0.here hx rfl (hb hby own_d7_0) rfl ?_
    refine XS.aloadN X0.here hx rfl (hb hby own_d7_1) rfl rfl ?_
    refine X0.arraylength hx (by rw [e0]; exact Ar101.1) (State.isArrayOf_alike hZ.alike Ar101.2.1) (g := (mkF m 2 #[.val (.ref v1), .val (.int (0 : Int32))] [(.ref v1), (.int (0 : Int32))])) rfl rfl (hb hby own_d7_2) _ ?_
    rw [len_of As101 An101]
    refine st102 _ ?_
    show Steps _ _ _ (T102.setTop (mkF m 6 #[.val (.ref v1), .val (.int (0 : Int32))] [])) _
    refine XS.aloadN X102.here hx rfl (hb hby own_d7_6) rfl rfl ?_
    refine XS.iloadN X102.here hx rfl (hb hby own_d7_7) rfl ?_
    refine X102.baloadBytes hx (j := (0 : Int32)) (v := (.int (60 : Int32))) (by rw [e102]; exact Ar103.1) (State.isArrayOf_alike hZ.alike Ar103.2.1) Ar103.2.2 hin103 (Ah103.at hin103 rfl) (g := (mkF m 8 #[.val (.ref v1), .val (.int (0 : Int32))] [(.int (0 : Int32)), (.ref v1)])) rfl rfl (hb hby own_d7_8) _ ?_
    refine XS.sipush X102.here hx rfl (hb hby own_d7_9) ?_
    show Steps _ _ _ (T102.setTop (mkF m 12 #[.val (.ref v1), .val (.int (0 : Int32))] [(.int (255 : Int32)), (.int (60 : Int32))])) _
    refine XS.iand X102.here hx rfl (hb hby own_d7_12) rfl ?_
    refine XS.i2c X102.here hx rfl (hb hby own_d7_13) rfl ?_
    show Steps _ _ _ (T102.setTop (mkF m 14 #[.val (.ref v1), .val (.int (0 : Int32))] [(.int (60 : Int32))])) _
    exact retN X102 hx (t := .char) Bd.returns (by simp) (hb hby own_d7_14) hr
  · show Qown_lcaLE0 Z v1 kc cs fv h0 n0 _ T102.heap _
    rw [e102]
    exact ⟨rfl, N102, rfl⟩
def Qown_caLE0 (Z : State) (o1 v1 : Addr) (kc : ClassId) (cs : Int32) (fv : Value) (h0 : Heap) (n0 : Nat) (v : Option Value) (h : Heap) (L : List Loc) : Prop := v = some (.int (60 : Int32)) ∧ Fr n0 L ∧ h = h0
set_option maxRecDepth 65536 in
set_option maxHeartbeats 40000000 in
theorem own_caLE0 (l : Launch) (Z : State) (a0 : Array Value) (hw : ∀ d ∈ tables_1, d.before a0 Z = true) (ws : List Jvm.Cond) (o1 v1 : Addr) (kc : ClassId) (cs : Int32) (fv : Value) (h0 : Heap) (n0 : Nat) (Z0 : n0 ≤ h0.size) (H : own_Str Z h0 o1 v1 kc (2 : Int32) [(.int (60 : Int32)), (.int (61 : Int32))]) (SC : Sta Z h0 "java/lang/String" "COMPACT_STRINGS" "Z" (.int cs)) (hcs : ¬ cs = (0 : Int32)) (SF : Sta Z h0 "jdk/internal/util/Preconditions" "SIOOBE_FORMATTER" "Ljava/util/function/BiFunction;" fv) (hfv : fv.isRef = true) :
    MetFree l own_m5 (head1 (Jvm.Cond.code own_m5 jdk_42_method_56_code 2 (some .char) :: ws) ({ frames := 3, cells := 0, slots := 0, locals := 40 } : Room)) (fun a U => a = #[(.ref o1), (.int (0 : Int32))] ∧ Z.Warmed39 U.vm ∧ U.heap = h0) (fun _ _ _ _ _ => True) (fun _ U o U' => ∃ v L, o = .returned v ∧ Qown_caLE0 Z o1 v1 kc cs fv h0 n0 v U'.heap L ∧ FrameEnd U o U' L ({ frames := 3, cells := 0, slots := 0, locals := 40 } : Room).cells ({ frames := 3, cells := 0, slots := 0, locals := 40 } : Room).slots) := by
  refine MetFree.of_bodySF (plainFor_of_name own_pn0) hisR ?_
  intro p e s m args below meth c s₁ Bd hml0 hP hK
  obtain ⟨rfl, hZ, hh⟩ := hP
  have hx := Bd.exec
  have hby := Bd.bytes
  have hml : c.maxLocals = 2 := hml0
  have hown : s.vm.findClass "java/lang/String" = some m.cls := by have q := findClass_of_methodNamed Bd.named; exact q
  have hnm := (name_of_methodNamed Bd.named Bd.method).1
  have X0 : Stand p l e ({ frames := 3, cells := 0, slots := 0, locals := 40 } : Room) s m #[(.ref o1), (.int (0 : Int32))] below meth c s₁ [] 0 0 := Stand.of_body Bd
  have e0 : s₁.heap = h0 := by rw [← hh, Bd.state]; rfl
  have N0 := Fr.nil n0
  have pre0 : ∀ t, Steps p.tables e below (s₁.setTop (mkF m 0 #[.val (.ref o1), .val (.int (0 : Int32))] [])) t → Steps p.tables e below (s₁.setTop (entryFrame m #[(.ref o1), (.int (0 : Int32))] 2)) t := fun t k => castTop (by first | (simp [entryFrame, mkF, argsToLocals, Value.category, maxLocals]; done) | rfl) k
  obtain ⟨E1, Fv, Fc, Va⟩ := H
  obtain ⟨cq101, kq101, q101a, q101b, q101c⟩ := isOf hZ e0 E1
  obtain ⟨_, _, ⟨T101, L101, k101, n101⟩, -, X101, ⟨Lc101, hQ101, l101, y101, z101⟩, st101⟩ := X0.virtualBack hx (y := own_m1) (z := own_m1) hown (mvT hZ (own_w49 hw)) (mvT hZ (own_w50 hw)) (notFace_of_selects (args := #[]) (mvT hZ (own_w52 hw))) (mvT hZ (own_w52 hw)) (mvT hZ (own_w51 hw)) (by decide) (backOf (W := 0) (own_isLatin1 l Z a0 hw [] o1 cs h0 n0 Z0 SC hcs Fc) hZ (own_w53 hw) (own_w32 hw) (by decide) (by decide)) q101a q101c (g := (mkF m 1 #[.val (.ref o1), .val (.int (0 : Int32))] [(.ref o1)])) rfl (by rw [hml]; rfl) (Steps.refl _) (argsL := []) (rest := []) (lenOf own_pd2 rfl) rfl (by show 2 * 0 + _ ≤ _; exact Nat.le_of_eq rfl) (hb hby own_d5_1) (fun _ _ => ⟨rfl, e0, (by decide : 0 + 0 ≤ _), (by decide : 0 + 0 ≤ _)⟩)
  dsimp only [Pt.U, Pt.locs, Pt.cells, Pt.slots] at X101 l101 y101 z101 st101 hQ101
  subst l101 y101 z101
  obtain ⟨rfl, N101q, e101⟩ := hQ101
  have N101 := Fr.app N0 N101q
  obtain ⟨T102, X102, e102, st102⟩ := getF X101 hx hZ hown (host := "") (Or.inl (own_w34 hw)) Via.refl e101 Fv (g := (mkF m 8 #[.val (.ref o1), .val (.int (0 : Int32))] [(.ref o1)])) rfl rfl (hb hby own_d5_8)
  obtain ⟨_, _, ⟨T103, L103, k103, n103⟩, -, X103, ⟨Lc103, hQ103, l103, y103, z103⟩, st103⟩ := Jvm.LawKit.callS X102 hx (y := own_m4) hown (mvT hZ (own_w54 hw)) (mvT hZ (own_w55 hw)) (mvT hZ (own_w56 hw)) (mvT hZ (own_w57 hw)) (by decide) (backOf (W := 0) (own_lcaLE0 l Z a0 hw [] v1 kc cs fv h0 n0 Z0 Va SC hcs SF hfv) hZ (own_w57 hw) (own_w56 hw) (by decide) (by decide)) (g := (mkF m 12 #[.val (.ref o1), .val (.int (0 : Int32))] [(.int (0 : Int32)), (.ref v1)])) rfl (by rw [hml]; rfl) (argsL := [(.ref v1), (.int (0 : Int32))]) (rest := []) (lenOf own_pd3 rfl) rfl (by show 2 * 0 + _ ≤ _; exact Nat.le_of_eq rfl) (hb hby own_d5_12) (fun _ _ => ⟨rfl, e102, (by decide : 0 + 0 ≤ _), (by decide : 0 + 0 ≤ _)⟩)
  dsimp only [Pt.U, Pt.locs, Pt.cells, Pt.slots] at X103 l103 y103 z103 st103 hQ103
  subst l103 y103 z103
  obtain ⟨rfl, N103q, e103⟩ := hQ103
  have N103 := Fr.app N101 N103q
  obtain ⟨fs, hr, hrun, hended, hW, hsame⟩ := X103.leave (v := some (.int (60 : Int32))) (fun h => by rw [Bd.returns] at h; cases h)
  refine ⟨_, _, pre0 _ ?_, hrun, hended, _, _, rfl, ?_, ⟨_, rfl⟩, hW, hsame.mono (by decide) (by decide)⟩
  · show Steps _ _ _ (s₁.setTop (mkF m 0 #[.val (.ref o1), .val (.int (0 : Int32))] [])) _
    refine XS.aloadN X0.here hx rfl (hb hby own_d5_0) rfl rfl ?_
    refine st101.trans ?_
    refine XS.ifNo X101.here hx rfl (hb hby own_d5_4) rfl ((if0 _ _).trans (feq (by decide : ¬ ((1 : Int32) = (0 : Int32)))).1) ?_
    refine XS.aloadN X101.here hx rfl (hb hby own_d5_7) rfl rfl ?_
    show Steps _ _ _ (T101.setTop (mkF m 8 #[.val (.ref o1), .val (.int (0 : Int32))] [(.ref o1)])) _
    refine st102 _ ?_
    refine XS.iloadN X102.here hx rfl (hb hby own_d5_11) rfl ?_
    refine st103 _ ?_
    show Steps _ _ _ (T103.setTop (mkF m 15 #[.val (.ref o1), .val (.int (0 : Int32))] [(.int (60 : Int32))])) _
    exact retN X103 hx (t := .char) Bd.returns (by simp) (hb hby own_d5_15) hr
  · show Qown_caLE0 Z o1 v1 kc cs fv h0 n0 _ T103.heap _
    rw [e103]
    exact ⟨rfl, N103, rfl⟩
def Qown_lcaLE1 (Z : State) (v1 : Addr) (kc : ClassId) (cs : Int32) (fv : Value) (h0 : Heap) (n0 : Nat) (v : Option Value) (h : Heap) (L : List Loc) : Prop := v = some (.int (61 : Int32)) ∧ Fr n0 L ∧ h = h0
set_option maxRecDepth 65536 in
set_option maxHeartbeats 40000000 in
theorem own_lcaLE1 (l : Launch) (Z : State) (a0 : Array Value) (hw : ∀ d ∈ tables_1, d.before a0 Z = true) (ws : List Jvm.Cond) (v1 : Addr) (kc : ClassId) (cs : Int32) (fv : Value) (h0 : Heap) (n0 : Nat) (Z0 : n0 ≤ h0.size) (Va : Arv Z h0 v1 kc .byte (2 : Int32) [(.int (60 : Int32)), (.int (61 : Int32))] (.int (0 : Int32))) (SC : Sta Z h0 "java/lang/String" "COMPACT_STRINGS" "Z" (.int cs)) (hcs : ¬ cs = (0 : Int32)) (SF : Sta Z h0 "jdk/internal/util/Preconditions" "SIOOBE_FORMATTER" "Ljava/util/function/BiFunction;" fv) (hfv : fv.isRef = true) :
    MetFree l own_m4 (head1 (Jvm.Cond.code own_m4 jdk_43_method_2_code 2 (some .char) :: ws) ({ frames := 2, cells := 0, slots := 0, locals := 27 } : Room)) (fun a U => a = #[(.ref v1), (.int (1 : Int32))] ∧ Z.Warmed39 U.vm ∧ U.heap = h0) (fun _ _ _ _ _ => True) (fun _ U o U' => ∃ v L, o = .returned v ∧ Qown_lcaLE1 Z v1 kc cs fv h0 n0 v U'.heap L ∧ FrameEnd U o U' L ({ frames := 2, cells := 0, slots := 0, locals := 27 } : Room).cells ({ frames := 2, cells := 0, slots := 0, locals := 27 } : Room).slots) := by
  refine MetFree.of_bodySF (plainFor_of_name own_pn2) hisR ?_
  intro p e s m args below meth c s₁ Bd hml0 hP hK
  obtain ⟨rfl, hZ, hh⟩ := hP
  have hx := Bd.exec
  have hby := Bd.bytes
  have hml : c.maxLocals = 2 := hml0
  have hown : s.vm.findClass "java/lang/StringLatin1" = some m.cls := by have q := findClass_of_methodNamed Bd.named; exact q
  have hnm := (name_of_methodNamed Bd.named Bd.method).1
  have X0 : Stand p l e ({ frames := 2, cells := 0, slots := 0, locals := 27 } : Room) s m #[(.ref v1), (.int (1 : Int32))] below meth c s₁ [] 0 0 := Stand.of_body Bd
  have e0 : s₁.heap = h0 := by rw [← hh, Bd.state]; rfl
  have N0 := Fr.nil n0
  have pre0 : ∀ t, Steps p.tables e below (s₁.setTop (mkF m 0 #[.val (.ref v1), .val (.int (1 : Int32))] [])) t → Steps p.tables e below (s₁.setTop (entryFrame m #[(.ref v1), (.int (1 : Int32))] 2)) t := fun t k => castTop (by first | (simp [entryFrame, mkF, argsToLocals, Value.category, maxLocals]; done) | rfl) k
  obtain ⟨cl101, Ar101, Aq101, As101, An101, Ah101, Ag101⟩ := id Va
  obtain ⟨_, _, ⟨T102, L102, k102, n102⟩, -, X102, ⟨Lc102, hQ102, l102, y102, z102⟩, st102⟩ := Jvm.LawKit.callS X0 hx (y := own_m3) hown (mvT hZ (own_w58 hw)) (mvT hZ (own_w59 hw)) (mvT hZ (own_w32 hw)) (mvT hZ (own_w60 hw)) (by decide) (backOf (W := 0) (own_sci12 l Z a0 hw [] cs fv h0 n0 Z0 SC hcs SF hfv) hZ (own_w60 hw) (own_w32 hw) (by decide) (by decide)) (g := (mkF m 3 #[.val (.ref v1), .val (.int (1 : Int32))] [(.int (2 : Int32)), (.int (1 : Int32))])) rfl (by rw [hml]; rfl) (argsL := [(.int (1 : Int32)), (.int (2 : Int32))]) (rest := []) (lenOf own_pd1 rfl) rfl (by show 2 * 0 + _ ≤ _; exact Nat.le_of_eq rfl) (hb hby own_d7_3) (fun _ _ => ⟨rfl, e0, (by decide : 0 + 0 ≤ _), (by decide : 0 + 0 ≤ _)⟩)
  dsimp only [Pt.U, Pt.locs, Pt.cells, Pt.slots] at X102 l102 y102 z102 st102 hQ102
  subst l102 y102 z102
  obtain ⟨rfl, N102q, e102⟩ := hQ102
  have N102 := Fr.app N0 N102q
  obtain ⟨cl103, Ar103, Aq103, As103, An103, Ah103, Ag103⟩ := id Va
  have hin103 : ¬ ((1 : Int32) < 0 ∨ cl103.slots.size ≤ ((1 : Int32)).toNatClampNeg) := inb_of As103 ⟨by decide, by decide⟩
  obtain ⟨fs, hr, hrun, hended, hW, hsame⟩ := X102.leave (v := some (.int (61 : Int32))) (fun h => by rw [Bd.returns] at h; cases h)
  refine ⟨_, _, pre0 _ ?_, hrun, hended, _, _, rfl, ?_, ⟨_, rfl⟩, hW, hsame.mono (by decide) (by decide)⟩
  · show Steps _ _ _ (s₁.setTop (mkF m 0 #[.val (.ref v1), .val (.int (1 : Int32))] [])) _
    refine XS.iloadN X0.here hx rfl (hb hby own_d7_0) rfl ?_
    refine XS.aloadN X0.here hx rfl (hb hby own_d7_1) rfl rfl ?_
    refine X0.arraylength hx (by rw [e0]; exact Ar101.1) (State.isArrayOf_alike hZ.alike Ar101.2.1) (g := (mkF m 2 #[.val (.ref v1), .val (.int (1 : Int32))] [(.ref v1), (.int (1 : Int32))])) rfl rfl (hb hby own_d7_2) _ ?_
    rw [len_of As101 An101]
    refine st102 _ ?_
    show Steps _ _ _ (T102.setTop (mkF m 6 #[.val (.ref v1), .val (.int (1 : Int32))] [])) _
    refine XS.aloadN X102.here hx rfl (hb hby own_d7_6) rfl rfl ?_
    refine XS.iloadN X102.here hx rfl (hb hby own_d7_7) rfl ?_
    refine X102.baloadBytes hx (j := (1 : Int32)) (v := (.int (61 : Int32))) (by rw [e102]; exact Ar103.1) (State.isArrayOf_alike hZ.alike Ar103.2.1) Ar103.2.2 hin103 (Ah103.at hin103 rfl) (g := (mkF m 8 #[.val (.ref v1), .val (.int (1 : Int32))] [(.int (1 : Int32)), (.ref v1)])) rfl rfl (hb hby own_d7_8) _ ?_
    refine XS.sipush X102.here hx rfl (hb hby own_d7_9) ?_
    show Steps _ _ _ (T102.setTop (mkF m 12 #[.val (.ref v1), .val (.int (1 : Int32))] [(.int (255 : Int32)), (.int (61 : Int32))])) _
    refine XS.iand X102.here hx rfl (hb hby own_d7_12) rfl ?_
    refine XS.i2c X102.here hx rfl (hb hby own_d7_13) rfl ?_
    show Steps _ _ _ (T102.setTop (mkF m 14 #[.val (.ref v1), .val (.int (1 : Int32))] [(.int (61 : Int32))])) _
    exact retN X102 hx (t := .char) Bd.returns (by simp) (hb hby own_d7_14) hr
  · show Qown_lcaLE1 Z v1 kc cs fv h0 n0 _ T102.heap _
    rw [e102]
    exact ⟨rfl, N102, rfl⟩
def Qown_caLE1 (Z : State) (o1 v1 : Addr) (kc : ClassId) (cs : Int32) (fv : Value) (h0 : Heap) (n0 : Nat) (v : Option Value) (h : Heap) (L : List Loc) : Prop := v = some (.int (61 : Int32)) ∧ Fr n0 L ∧ h = h0
set_option maxRecDepth 65536 in
set_option maxHeartbeats 40000000 in
theorem own_caLE1 (l : Launch) (Z : State) (a0 : Array Value) (hw : ∀ d ∈ tables_1, d.before a0 Z = true) (ws : List Jvm.Cond) (o1 v1 : Addr) (kc : ClassId) (cs : Int32) (fv : Value) (h0 : Heap) (n0 : Nat) (Z0 : n0 ≤ h0.size) (H : own_Str Z h0 o1 v1 kc (2 : Int32) [(.int (60 : Int32)), (.int (61 : Int32))]) (SC : Sta Z h0 "java/lang/String" "COMPACT_STRINGS" "Z" (.int cs)) (hcs : ¬ cs = (0 : Int32)) (SF : Sta Z h0 "jdk/internal/util/Preconditions" "SIOOBE_FORMATTER" "Ljava/util/function/BiFunction;" fv) (hfv : fv.isRef = true) :
    MetFree l own_m5 (head1 (Jvm.Cond.code own_m5 jdk_42_method_56_code 2 (some .char) :: ws) ({ frames := 3, cells := 0, slots := 0, locals := 40 } : Room)) (fun a U => a = #[(.ref o1), (.int (1 : Int32))] ∧ Z.Warmed39 U.vm ∧ U.heap = h0) (fun _ _ _ _ _ => True) (fun _ U o U' => ∃ v L, o = .returned v ∧ Qown_caLE1 Z o1 v1 kc cs fv h0 n0 v U'.heap L ∧ FrameEnd U o U' L ({ frames := 3, cells := 0, slots := 0, locals := 40 } : Room).cells ({ frames := 3, cells := 0, slots := 0, locals := 40 } : Room).slots) := by
  refine MetFree.of_bodySF (plainFor_of_name own_pn0) hisR ?_
  intro p e s m args below meth c s₁ Bd hml0 hP hK
  obtain ⟨rfl, hZ, hh⟩ := hP
  have hx := Bd.exec
  have hby := Bd.bytes
  have hml : c.maxLocals = 2 := hml0
  have hown : s.vm.findClass "java/lang/String" = some m.cls := by have q := findClass_of_methodNamed Bd.named; exact q
  have hnm := (name_of_methodNamed Bd.named Bd.method).1
  have X0 : Stand p l e ({ frames := 3, cells := 0, slots := 0, locals := 40 } : Room) s m #[(.ref o1), (.int (1 : Int32))] below meth c s₁ [] 0 0 := Stand.of_body Bd
  have e0 : s₁.heap = h0 := by rw [← hh, Bd.state]; rfl
  have N0 := Fr.nil n0
  have pre0 : ∀ t, Steps p.tables e below (s₁.setTop (mkF m 0 #[.val (.ref o1), .val (.int (1 : Int32))] [])) t → Steps p.tables e below (s₁.setTop (entryFrame m #[(.ref o1), (.int (1 : Int32))] 2)) t := fun t k => castTop (by first | (simp [entryFrame, mkF, argsToLocals, Value.category, maxLocals]; done) | rfl) k
  obtain ⟨E1, Fv, Fc, Va⟩ := H
  obtain ⟨cq101, kq101, q101a, q101b, q101c⟩ := isOf hZ e0 E1
  obtain ⟨_, _, ⟨T101, L101, k101, n101⟩, -, X101, ⟨Lc101, hQ101, l101, y101, z101⟩, st101⟩ := X0.virtualBack hx (y := own_m1) (z := own_m1) hown (mvT hZ (own_w49 hw)) (mvT hZ (own_w50 hw)) (notFace_of_selects (args := #[]) (mvT hZ (own_w52 hw))) (mvT hZ (own_w52 hw)) (mvT hZ (own_w51 hw)) (by decide) (backOf (W := 0) (own_isLatin1 l Z a0 hw [] o1 cs h0 n0 Z0 SC hcs Fc) hZ (own_w53 hw) (own_w32 hw) (by decide) (by decide)) q101a q101c (g := (mkF m 1 #[.val (.ref o1), .val (.int (1 : Int32))] [(.ref o1)])) rfl (by rw [hml]; rfl) (Steps.refl _) (argsL := []) (rest := []) (lenOf own_pd2 rfl) rfl (by show 2 * 0 + _ ≤ _; exact Nat.le_of_eq rfl) (hb hby own_d5_1) (fun _ _ => ⟨rfl, e0, (by decide : 0 + 0 ≤ _), (by decide : 0 + 0 ≤ _)⟩)
  dsimp only [Pt.U, Pt.locs, Pt.cells, Pt.slots] at X101 l101 y101 z101 st101 hQ101
  subst l101 y101 z101
  obtain ⟨rfl, N101q, e101⟩ := hQ101
  have N101 := Fr.app N0 N101q
  obtain ⟨T102, X102, e102, st102⟩ := getF X101 hx hZ hown (host := "") (Or.inl (own_w34 hw)) Via.refl e101 Fv (g := (mkF m 8 #[.val (.ref o1), .val (.int (1 : Int32))] [(.ref o1)])) rfl rfl (hb hby own_d5_8)
  obtain ⟨_, _, ⟨T103, L103, k103, n103⟩, -, X103, ⟨Lc103, hQ103, l103, y103, z103⟩, st103⟩ := Jvm.LawKit.callS X102 hx (y := own_m4) hown (mvT hZ (own_w54 hw)) (mvT hZ (own_w55 hw)) (mvT hZ (own_w56 hw)) (mvT hZ (own_w57 hw)) (by decide) (backOf (W := 0) (own_lcaLE1 l Z a0 hw [] v1 kc cs fv h0 n0 Z0 Va SC hcs SF hfv) hZ (own_w57 hw) (own_w56 hw) (by decide) (by decide)) (g := (mkF m 12 #[.val (.ref o1), .val (.int (1 : Int32))] [(.int (1 : Int32)), (.ref v1)])) rfl (by rw [hml]; rfl) (argsL := [(.ref v1), (.int (1 : Int32))]) (rest := []) (lenOf own_pd3 rfl) rfl (by show 2 * 0 + _ ≤ _; exact Nat.le_of_eq rfl) (hb hby own_d5_12) (fun _ _ => ⟨rfl, e102, (by decide : 0 + 0 ≤ _), (by decide : 0 + 0 ≤ _)⟩)
  dsimp only [Pt.U, Pt.locs, Pt.cells, Pt.slots] at X103 l103 y103 z103 st103 hQ103
  subst l103 y103 z103
  obtain ⟨rfl, N103q, e103⟩ := hQ103
  have N103 := Fr.app N101 N103q
  obtain ⟨fs, hr, hrun, hended, hW, hsame⟩ := X103.leave (v := some (.int (61 : Int32))) (fun h => by rw [Bd.returns] at h; cases h)
  refine ⟨_, _, pre0 _ ?_, hrun, hended, _, _, rfl, ?_, ⟨_, rfl⟩, hW, hsame.mono (by decide) (by decide)⟩
  · show Steps _ _ _ (s₁.setTop (mkF m 0 #[.val (.ref o1), .val (.int (1 : Int32))] [])) _
    refine XS.aloadN X0.here hx rfl (hb hby own_d5_0) rfl rfl ?_
    refine st101.trans ?_
    refine XS.ifNo X101.here hx rfl (hb hby own_d5_4) rfl ((if0 _ _).trans (feq (by decide : ¬ ((1 : Int32) = (0 : Int32)))).1) ?_
    refine XS.aloadN X101.here hx rfl (hb hby own_d5_7) rfl rfl ?_
    show Steps _ _ _ (T101.setTop (mkF m 8 #[.val (.ref o1), .val (.int (1 : Int32))] [(.ref o1)])) _
    refine st102 _ ?_
    refine XS.iloadN X102.here hx rfl (hb hby own_d5_11) rfl ?_
    refine st103 _ ?_
    show Steps _ _ _ (T103.setTop (mkF m 15 #[.val (.ref o1), .val (.int (1 : Int32))] [(.int (61 : Int32))])) _
    exact retN X103 hx (t := .char) Bd.returns (by simp) (hb hby own_d5_15) hr
  · show Qown_caLE1 Z o1 v1 kc cs fv h0 n0 _ T103.heap _
    rw [e103]
    exact ⟨rfl, N103, rfl⟩
def Qown_lenLE (Z : State) (o1 v1 : Addr) (kc : ClassId) (cs : Int32) (fv : Value) (h0 : Heap) (n0 : Nat) (v : Option Value) (h : Heap) (L : List Loc) : Prop := v = some (.int (2 : Int32)) ∧ Fr n0 L ∧ h = h0
set_option maxRecDepth 65536 in
set_option maxHeartbeats 40000000 in
theorem own_lenLE (l : Launch) (Z : State) (a0 : Array Value) (hw : ∀ d ∈ tables_1, d.before a0 Z = true) (ws : List Jvm.Cond) (o1 v1 : Addr) (kc : ClassId) (cs : Int32) (fv : Value) (h0 : Heap) (n0 : Nat) (Z0 : n0 ≤ h0.size) (H : own_Str Z h0 o1 v1 kc (2 : Int32) [(.int (60 : Int32)), (.int (61 : Int32))]) (SC : Sta Z h0 "java/lang/String" "COMPACT_STRINGS" "Z" (.int cs)) (hcs : ¬ cs = (0 : Int32)) (SF : Sta Z h0 "jdk/internal/util/Preconditions" "SIOOBE_FORMATTER" "Ljava/util/function/BiFunction;" fv) (hfv : fv.isRef = true) :
    MetFree l own_m6 (head1 (Jvm.Cond.code own_m6 jdk_42_method_54_code 1 (some .int) :: ws) ({ frames := 1, cells := 0, slots := 0, locals := 13 } : Room)) (fun a U => a = #[(.ref o1)] ∧ Z.Warmed39 U.vm ∧ U.heap = h0) (fun _ _ _ _ _ => True) (fun _ U o U' => ∃ v L, o = .returned v ∧ Qown_lenLE Z o1 v1 kc cs fv h0 n0 v U'.heap L ∧ FrameEnd U o U' L ({ frames := 1, cells := 0, slots := 0, locals := 13 } : Room).cells ({ frames := 1, cells := 0, slots := 0, locals := 13 } : Room).slots) := by
  refine MetFree.of_bodySF (plainFor_of_name own_pn0) hisR ?_
  intro p e s m args below meth c s₁ Bd hml0 hP hK
  obtain ⟨rfl, hZ, hh⟩ := hP
  have hx := Bd.exec
  have hby := Bd.bytes
  have hml : c.maxLocals = 1 := hml0
  have hown : s.vm.findClass "java/lang/String" = some m.cls := by have q := findClass_of_methodNamed Bd.named; exact q
  have hnm := (name_of_methodNamed Bd.named Bd.method).1
  have X0 : Stand p l e ({ frames := 1, cells := 0, slots := 0, locals := 13 } : Room) s m #[(.ref o1)] below meth c s₁ [] 0 0 := Stand.of_body Bd
  have e0 : s₁.heap = h0 := by rw [← hh, Bd.state]; rfl
  have N0 := Fr.nil n0
  have pre0 : ∀ t, Steps p.tables e below (s₁.setTop (mkF m 0 #[.val (.ref o1)] [])) t → Steps p.tables e below (s₁.setTop (entryFrame m #[(.ref o1)] 1)) t := fun t k => castTop (by first | (simp [entryFrame, mkF, argsToLocals, Value.category, maxLocals]; done) | rfl) k
  obtain ⟨E1, Fv, Fc, Va⟩ := H
  obtain ⟨T101, X101, e101, st101⟩ := getF X0 hx hZ hown (host := "") (Or.inl (own_w34 hw)) Via.refl e0 Fv (g := (mkF m 1 #[.val (.ref o1)] [(.ref o1)])) rfl rfl (hb hby own_d3_1)
  obtain ⟨cl102, Ar102, Aq102, As102, An102, Ah102, Ag102⟩ := id Va
  obtain ⟨cq103, kq103, q103a, q103b, q103c⟩ := isOf hZ e101 E1
  obtain ⟨_, _, ⟨T103, L103, k103, n103⟩, -, X103, ⟨Lc103, hQ103, l103, y103, z103⟩, st103⟩ := X101.virtualBack hx (y := own_m0) (z := own_m0) hown (mvT hZ (own_w36 hw)) (mvT hZ (own_w37 hw)) (notFace_of_selects (args := #[]) (mvT hZ (own_w39 hw))) (mvT hZ (own_w39 hw)) (mvT hZ (own_w38 hw)) (by decide) (backOf (W := 1) (own_coder l Z a0 hw [] o1 cs h0 n0 Z0 SC hcs Fc) hZ (own_w40 hw) (own_w32 hw) (by decide) (by decide)) q103a q103c (g := (mkF m 6 #[.val (.ref o1)] [(.ref o1), (.int (2 : Int32))])) rfl (by rw [hml]; rfl) (Steps.refl _) (argsL := []) (rest := [(.int (2 : Int32))]) (lenOf own_pd4 rfl) rfl (by show 2 * 0 + _ ≤ _; exact Nat.le_of_eq rfl) (hb hby own_d3_6) (fun _ _ => ⟨rfl, e101, (by decide : 0 + 0 ≤ _), (by decide : 0 + 0 ≤ _)⟩)
  dsimp only [Pt.U, Pt.locs, Pt.cells, Pt.slots] at X103 l103 y103 z103 st103 hQ103
  subst l103 y103 z103
  obtain ⟨rfl, N103q, e103⟩ := hQ103
  have N103 := Fr.app N0 N103q
  obtain ⟨fs, hr, hrun, hended, hW, hsame⟩ := X103.leave (v := some (.int (2 : Int32))) (fun h => by rw [Bd.returns] at h; cases h)
  refine ⟨_, _, pre0 _ ?_, hrun, hended, _, _, rfl, ?_, ⟨_, rfl⟩, hW, hsame.mono (by decide) (by decide)⟩
  · show Steps _ _ _ (s₁.setTop (mkF m 0 #[.val (.ref o1)] [])) _
    refine XS.aloadN X0.here hx rfl (hb hby own_d3_0) rfl rfl ?_
    refine st101 _ ?_
    refine X101.arraylength hx (by rw [e101]; exact Ar102.1) (State.isArrayOf_alike hZ.alike Ar102.2.1) (g := (mkF m 4 #[.val (.ref o1)] [(.ref v1)])) rfl rfl (hb hby own_d3_4) _ ?_
    rw [len_of As102 An102]
    refine XS.aloadN X101.here hx rfl (hb hby own_d3_5) rfl rfl ?_
    show Steps _ _ _ (T101.setTop (mkF m 6 #[.val (.ref o1)] [(.ref o1), (.int (2 : Int32))])) _
    refine st103.trans ?_
    refine XS.ishr X103.here hx rfl (hb hby own_d3_9) rfl ?_
    show Steps _ _ _ (T103.setTop (mkF m 10 #[.val (.ref o1)] [(.int (2 : Int32))])) _
    exact retI X103 hx Bd.returns (hb hby own_d3_10) hr
  · show Qown_lenLE Z o1 v1 kc cs fv h0 n0 _ T103.heap _
    rw [e103]
    exact ⟨rfl, N103, rfl⟩
def Qown_lcaGE0 (Z : State) (v1 : Addr) (kc : ClassId) (cs : Int32) (fv : Value) (h0 : Heap) (n0 : Nat) (v : Option Value) (h : Heap) (L : List Loc) : Prop := v = some (.int (62 : Int32)) ∧ Fr n0 L ∧ h = h0
set_option maxRecDepth 65536 in
set_option maxHeartbeats 40000000 in
theorem own_lcaGE0 (l : Launch) (Z : State) (a0 : Array Value) (hw : ∀ d ∈ tables_1, d.before a0 Z = true) (ws : List Jvm.Cond) (v1 : Addr) (kc : ClassId) (cs : Int32) (fv : Value) (h0 : Heap) (n0 : Nat) (Z0 : n0 ≤ h0.size) (Va : Arv Z h0 v1 kc .byte (2 : Int32) [(.int (62 : Int32)), (.int (61 : Int32))] (.int (0 : Int32))) (SC : Sta Z h0 "java/lang/String" "COMPACT_STRINGS" "Z" (.int cs)) (hcs : ¬ cs = (0 : Int32)) (SF : Sta Z h0 "jdk/internal/util/Preconditions" "SIOOBE_FORMATTER" "Ljava/util/function/BiFunction;" fv) (hfv : fv.isRef = true) :
    MetFree l own_m4 (head1 (Jvm.Cond.code own_m4 jdk_43_method_2_code 2 (some .char) :: ws) ({ frames := 2, cells := 0, slots := 0, locals := 27 } : Room)) (fun a U => a = #[(.ref v1), (.int (0 : Int32))] ∧ Z.Warmed39 U.vm ∧ U.heap = h0) (fun _ _ _ _ _ => True) (fun _ U o U' => ∃ v L, o = .returned v ∧ Qown_lcaGE0 Z v1 kc cs fv h0 n0 v U'.heap L ∧ FrameEnd U o U' L ({ frames := 2, cells := 0, slots := 0, locals := 27 } : Room).cells ({ frames := 2, cells := 0, slots := 0, locals := 27 } : Room).slots) := by
  refine MetFree.of_bodySF (plainFor_of_name own_pn2) hisR ?_
  intro p e s m args below meth c s₁ Bd hml0 hP hK
  obtain ⟨rfl, hZ, hh⟩ := hP
  have hx := Bd.exec
  have hby := Bd.bytes
  have hml : c.maxLocals = 2 := hml0
  have hown : s.vm.findClass "java/lang/StringLatin1" = some m.cls := by have q := findClass_of_methodNamed Bd.named; exact q
  have hnm := (name_of_methodNamed Bd.named Bd.method).1
  have X0 : Stand p l e ({ frames := 2, cells := 0, slots := 0, locals := 27 } : Room) s m #[(.ref v1), (.int (0 : Int32))] below meth c s₁ [] 0 0 := Stand.of_body Bd
  have e0 : s₁.heap = h0 := by rw [← hh, Bd.state]; rfl
  have N0 := Fr.nil n0
  have pre0 : ∀ t, Steps p.tables e below (s₁.setTop (mkF m 0 #[.val (.ref v1), .val (.int (0 : Int32))] [])) t → Steps p.tables e below (s₁.setTop (entryFrame m #[(.ref v1), (.int (0 : Int32))] 2)) t := fun t k => castTop (by first | (simp [entryFrame, mkF, argsToLocals, Value.category, maxLocals]; done) | rfl) k
  obtain ⟨cl101, Ar101, Aq101, As101, An101, Ah101, Ag101⟩ := id Va
  obtain ⟨_, _, ⟨T102, L102, k102, n102⟩, -, X102, ⟨Lc102, hQ102, l102, y102, z102⟩, st102⟩ := Jvm.LawKit.callS X0 hx (y := own_m3) hown (mvT hZ (own_w58 hw)) (mvT hZ (own_w59 hw)) (mvT hZ (own_w32 hw)) (mvT hZ (own_w60 hw)) (by decide) (backOf (W := 0) (own_sci02 l Z a0 hw [] cs fv h0 n0 Z0 SC hcs SF hfv) hZ (own_w60 hw) (own_w32 hw) (by decide) (by decide)) (g := (mkF m 3 #[.val (.ref v1), .val (.int (0 : Int32))] [(.int (2 : Int32)), (.int (0 : Int32))])) rfl (by rw [hml]; rfl) (argsL := [(.int (0 : Int32)), (.int (2 : Int32))]) (rest := []) (lenOf own_pd1 rfl) rfl (by show 2 * 0 + _ ≤ _; exact Nat.le_of_eq rfl) (hb hby own_d7_3) (fun _ _ => ⟨rfl, e0, (by decide : 0 + 0 ≤ _), (by decide : 0 + 0 ≤ _)⟩)
  dsimp only [Pt.U, Pt.locs, Pt.cells, Pt.slots] at X102 l102 y102 z102 st102 hQ102
  subst l102 y102 z102
  obtain ⟨rfl, N102q, e102⟩ := hQ102
  have N102 := Fr.app N0 N102q
  obtain ⟨cl103, Ar103, Aq103, As103, An103, Ah103, Ag103⟩ := id Va
  have hin103 : ¬ ((0 : Int32) < 0 ∨ cl103.slots.size ≤ ((0 : Int32)).toNatClampNeg) := inb_of As103 ⟨by decide, by decide⟩
  obtain ⟨fs, hr, hrun, hended, hW, hsame⟩ := X102.leave (v := some (.int (62 : Int32))) (fun h => by rw [Bd.returns] at h; cases h)
  refine ⟨_, _, pre0 _ ?_, hrun, hended, _, _, rfl, ?_, ⟨_, rfl⟩, hW, hsame.mono (by decide) (by decide)⟩
  · show Steps _ _ _ (s₁.setTop (mkF m 0 #[.val (.ref v1), .val (.int (0 : Int32))] [])) _
    refine XS.iloadN X0.here hx rfl (hb hby own_d7_0) rfl ?_
    refine XS.aloadN X0.here hx rfl (hb hby own_d7_1) rfl rfl ?_
    refine X0.arraylength hx (by rw [e0]; exact Ar101.1) (State.isArrayOf_alike hZ.alike Ar101.2.1) (g := (mkF m 2 #[.val (.ref v1), .val (.int (0 : Int32))] [(.ref v1), (.int (0 : Int32))])) rfl rfl (hb hby own_d7_2) _ ?_
    rw [len_of As101 An101]
    refine st102 _ ?_
    show Steps _ _ _ (T102.setTop (mkF m 6 #[.val (.ref v1), .val (.int (0 : Int32))] [])) _
    refine XS.aloadN X102.here hx rfl (hb hby own_d7_6) rfl rfl ?_
    refine XS.iloadN X102.here hx rfl (hb hby own_d7_7) rfl ?_
    refine X102.baloadBytes hx (j := (0 : Int32)) (v := (.int (62 : Int32))) (by rw [e102]; exact Ar103.1) (State.isArrayOf_alike hZ.alike Ar103.2.1) Ar103.2.2 hin103 (Ah103.at hin103 rfl) (g := (mkF m 8 #[.val (.ref v1), .val (.int (0 : Int32))] [(.int (0 : Int32)), (.ref v1)])) rfl rfl (hb hby own_d7_8) _ ?_
    refine XS.sipush X102.here hx rfl (hb hby own_d7_9) ?_
    show Steps _ _ _ (T102.setTop (mkF m 12 #[.val (.ref v1), .val (.int (0 : Int32))] [(.int (255 : Int32)), (.int (62 : Int32))])) _
    refine XS.iand X102.here hx rfl (hb hby own_d7_12) rfl ?_
    refine XS.i2c X102.here hx rfl (hb hby own_d7_13) rfl ?_
    show Steps _ _ _ (T102.setTop (mkF m 14 #[.val (.ref v1), .val (.int (0 : Int32))] [(.int (62 : Int32))])) _
    exact retN X102 hx (t := .char) Bd.returns (by simp) (hb hby own_d7_14) hr
  · show Qown_lcaGE0 Z v1 kc cs fv h0 n0 _ T102.heap _
    rw [e102]
    exact ⟨rfl, N102, rfl⟩
def Qown_caGE0 (Z : State) (o1 v1 : Addr) (kc : ClassId) (cs : Int32) (fv : Value) (h0 : Heap) (n0 : Nat) (v : Option Value) (h : Heap) (L : List Loc) : Prop := v = some (.int (62 : Int32)) ∧ Fr n0 L ∧ h = h0
set_option maxRecDepth 65536 in
set_option maxHeartbeats 40000000 in
theorem own_caGE0 (l : Launch) (Z : State) (a0 : Array Value) (hw : ∀ d ∈ tables_1, d.before a0 Z = true) (ws : List Jvm.Cond) (o1 v1 : Addr) (kc : ClassId) (cs : Int32) (fv : Value) (h0 : Heap) (n0 : Nat) (Z0 : n0 ≤ h0.size) (H : own_Str Z h0 o1 v1 kc (2 : Int32) [(.int (62 : Int32)), (.int (61 : Int32))]) (SC : Sta Z h0 "java/lang/String" "COMPACT_STRINGS" "Z" (.int cs)) (hcs : ¬ cs = (0 : Int32)) (SF : Sta Z h0 "jdk/internal/util/Preconditions" "SIOOBE_FORMATTER" "Ljava/util/function/BiFunction;" fv) (hfv : fv.isRef = true) :
    MetFree l own_m5 (head1 (Jvm.Cond.code own_m5 jdk_42_method_56_code 2 (some .char) :: ws) ({ frames := 3, cells := 0, slots := 0, locals := 40 } : Room)) (fun a U => a = #[(.ref o1), (.int (0 : Int32))] ∧ Z.Warmed39 U.vm ∧ U.heap = h0) (fun _ _ _ _ _ => True) (fun _ U o U' => ∃ v L, o = .returned v ∧ Qown_caGE0 Z o1 v1 kc cs fv h0 n0 v U'.heap L ∧ FrameEnd U o U' L ({ frames := 3, cells := 0, slots := 0, locals := 40 } : Room).cells ({ frames := 3, cells := 0, slots := 0, locals := 40 } : Room).slots) := by
  refine MetFree.of_bodySF (plainFor_of_name own_pn0) hisR ?_
  intro p e s m args below meth c s₁ Bd hml0 hP hK
  obtain ⟨rfl, hZ, hh⟩ := hP
  have hx := Bd.exec
  have hby := Bd.bytes
  have hml : c.maxLocals = 2 := hml0
  have hown : s.vm.findClass "java/lang/String" = some m.cls := by have q := findClass_of_methodNamed Bd.named; exact q
  have hnm := (name_of_methodNamed Bd.named Bd.method).1
  have X0 : Stand p l e ({ frames := 3, cells := 0, slots := 0, locals := 40 } : Room) s m #[(.ref o1), (.int (0 : Int32))] below meth c s₁ [] 0 0 := Stand.of_body Bd
  have e0 : s₁.heap = h0 := by rw [← hh, Bd.state]; rfl
  have N0 := Fr.nil n0
  have pre0 : ∀ t, Steps p.tables e below (s₁.setTop (mkF m 0 #[.val (.ref o1), .val (.int (0 : Int32))] [])) t → Steps p.tables e below (s₁.setTop (entryFrame m #[(.ref o1), (.int (0 : Int32))] 2)) t := fun t k => castTop (by first | (simp [entryFrame, mkF, argsToLocals, Value.category, maxLocals]; done) | rfl) k
  obtain ⟨E1, Fv, Fc, Va⟩ := H
  obtain ⟨cq101, kq101, q101a, q101b, q101c⟩ := isOf hZ e0 E1
  obtain ⟨_, _, ⟨T101, L101, k101, n101⟩, -, X101, ⟨Lc101, hQ101, l101, y101, z101⟩, st101⟩ := X0.virtualBack hx (y := own_m1) (z := own_m1) hown (mvT hZ (own_w49 hw)) (mvT hZ (own_w50 hw)) (notFace_of_selects (args := #[]) (mvT hZ (own_w52 hw))) (mvT hZ (own_w52 hw)) (mvT hZ (own_w51 hw)) (by decide) (backOf (W := 0) (own_isLatin1 l Z a0 hw [] o1 cs h0 n0 Z0 SC hcs Fc) hZ (own_w53 hw) (own_w32 hw) (by decide) (by decide)) q101a q101c (g := (mkF m 1 #[.val (.ref o1), .val (.int (0 : Int32))] [(.ref o1)])) rfl (by rw [hml]; rfl) (Steps.refl _) (argsL := []) (rest := []) (lenOf own_pd2 rfl) rfl (by show 2 * 0 + _ ≤ _; exact Nat.le_of_eq rfl) (hb hby own_d5_1) (fun _ _ => ⟨rfl, e0, (by decide : 0 + 0 ≤ _), (by decide : 0 + 0 ≤ _)⟩)
  dsimp only [Pt.U, Pt.locs, Pt.cells, Pt.slots] at X101 l101 y101 z101 st101 hQ101
  subst l101 y101 z101
  obtain ⟨rfl, N101q, e101⟩ := hQ101
  have N101 := Fr.app N0 N101q
  obtain ⟨T102, X102, e102, st102⟩ := getF X101 hx hZ hown (host := "") (Or.inl (own_w34 hw)) Via.refl e101 Fv (g := (mkF m 8 #[.val (.ref o1), .val (.int (0 : Int32))] [(.ref o1)])) rfl rfl (hb hby own_d5_8)
  obtain ⟨_, _, ⟨T103, L103, k103, n103⟩, -, X103, ⟨Lc103, hQ103, l103, y103, z103⟩, st103⟩ := Jvm.LawKit.callS X102 hx (y := own_m4) hown (mvT hZ (own_w54 hw)) (mvT hZ (own_w55 hw)) (mvT hZ (own_w56 hw)) (mvT hZ (own_w57 hw)) (by decide) (backOf (W := 0) (own_lcaGE0 l Z a0 hw [] v1 kc cs fv h0 n0 Z0 Va SC hcs SF hfv) hZ (own_w57 hw) (own_w56 hw) (by decide) (by decide)) (g := (mkF m 12 #[.val (.ref o1), .val (.int (0 : Int32))] [(.int (0 : Int32)), (.ref v1)])) rfl (by rw [hml]; rfl) (argsL := [(.ref v1), (.int (0 : Int32))]) (rest := []) (lenOf own_pd3 rfl) rfl (by show 2 * 0 + _ ≤ _; exact Nat.le_of_eq rfl) (hb hby own_d5_12) (fun _ _ => ⟨rfl, e102, (by decide : 0 + 0 ≤ _), (by decide : 0 + 0 ≤ _)⟩)
  dsimp only [Pt.U, Pt.locs, Pt.cells, Pt.slots] at X103 l103 y103 z103 st103 hQ103
  subst l103 y103 z103
  obtain ⟨rfl, N103q, e103⟩ := hQ103
  have N103 := Fr.app N101 N103q
  obtain ⟨fs, hr, hrun, hended, hW, hsame⟩ := X103.leave (v := some (.int (62 : Int32))) (fun h => by rw [Bd.returns] at h; cases h)
  refine ⟨_, _, pre0 _ ?_, hrun, hended, _, _, rfl, ?_, ⟨_, rfl⟩, hW, hsame.mono (by decide) (by decide)⟩
  · show Steps _ _ _ (s₁.setTop (mkF m 0 #[.val (.ref o1), .val (.int (0 : Int32))] [])) _
    refine XS.aloadN X0.here hx rfl (hb hby own_d5_0) rfl rfl ?_
    refine st101.trans ?_
    refine XS.ifNo X101.here hx rfl (hb hby own_d5_4) rfl ((if0 _ _).trans (feq (by decide : ¬ ((1 : Int32) = (0 : Int32)))).1) ?_
    refine XS.aloadN X101.here hx rfl (hb hby own_d5_7) rfl rfl ?_
    show Steps _ _ _ (T101.setTop (mkF m 8 #[.val (.ref o1), .val (.int (0 : Int32))] [(.ref o1)])) _
    refine st102 _ ?_
    refine XS.iloadN X102.here hx rfl (hb hby own_d5_11) rfl ?_
    refine st103 _ ?_
    show Steps _ _ _ (T103.setTop (mkF m 15 #[.val (.ref o1), .val (.int (0 : Int32))] [(.int (62 : Int32))])) _
    exact retN X103 hx (t := .char) Bd.returns (by simp) (hb hby own_d5_15) hr
  · show Qown_caGE0 Z o1 v1 kc cs fv h0 n0 _ T103.heap _
    rw [e103]
    exact ⟨rfl, N103, rfl⟩
def Qown_lcaGE1 (Z : State) (v1 : Addr) (kc : ClassId) (cs : Int32) (fv : Value) (h0 : Heap) (n0 : Nat) (v : Option Value) (h : Heap) (L : List Loc) : Prop := v = some (.int (61 : Int32)) ∧ Fr n0 L ∧ h = h0
set_option maxRecDepth 65536 in
set_option maxHeartbeats 40000000 in
theorem own_lcaGE1 (l : Launch) (Z : State) (a0 : Array Value) (hw : ∀ d ∈ tables_1, d.before a0 Z = true) (ws : List Jvm.Cond) (v1 : Addr) (kc : ClassId) (cs : Int32) (fv : Value) (h0 : Heap) (n0 : Nat) (Z0 : n0 ≤ h0.size) (Va : Arv Z h0 v1 kc .byte (2 : Int32) [(.int (62 : Int32)), (.int (61 : Int32))] (.int (0 : Int32))) (SC : Sta Z h0 "java/lang/String" "COMPACT_STRINGS" "Z" (.int cs)) (hcs : ¬ cs = (0 : Int32)) (SF : Sta Z h0 "jdk/internal/util/Preconditions" "SIOOBE_FORMATTER" "Ljava/util/function/BiFunction;" fv) (hfv : fv.isRef = true) :
    MetFree l own_m4 (head1 (Jvm.Cond.code own_m4 jdk_43_method_2_code 2 (some .char) :: ws) ({ frames := 2, cells := 0, slots := 0, locals := 27 } : Room)) (fun a U => a = #[(.ref v1), (.int (1 : Int32))] ∧ Z.Warmed39 U.vm ∧ U.heap = h0) (fun _ _ _ _ _ => True) (fun _ U o U' => ∃ v L, o = .returned v ∧ Qown_lcaGE1 Z v1 kc cs fv h0 n0 v U'.heap L ∧ FrameEnd U o U' L ({ frames := 2, cells := 0, slots := 0, locals := 27 } : Room).cells ({ frames := 2, cells := 0, slots := 0, locals := 27 } : Room).slots) := by
  refine MetFree.of_bodySF (plainFor_of_name own_pn2) hisR ?_
  intro p e s m args below meth c s₁ Bd hml0 hP hK
  obtain ⟨rfl, hZ, hh⟩ := hP
  have hx := Bd.exec
  have hby := Bd.bytes
  have hml : c.maxLocals = 2 := hml0
  have hown : s.vm.findClass "java/lang/StringLatin1" = some m.cls := by have q := findClass_of_methodNamed Bd.named; exact q
  have hnm := (name_of_methodNamed Bd.named Bd.method).1
  have X0 : Stand p l e ({ frames := 2, cells := 0, slots := 0, locals := 27 } : Room) s m #[(.ref v1), (.int (1 : Int32))] below meth c s₁ [] 0 0 := Stand.of_body Bd
  have e0 : s₁.heap = h0 := by rw [← hh, Bd.state]; rfl
  have N0 := Fr.nil n0
  have pre0 : ∀ t, Steps p.tables e below (s₁.setTop (mkF m 0 #[.val (.ref v1), .val (.int (1 : Int32))] [])) t → Steps p.tables e below (s₁.setTop (entryFrame m #[(.ref v1), (.int (1 : Int32))] 2)) t := fun t k => castTop (by first | (simp [entryFrame, mkF, argsToLocals, Value.category, maxLocals]; done) | rfl) k
  obtain ⟨cl101, Ar101, Aq101, As101, An101, Ah101, Ag101⟩ := id Va
  obtain ⟨_, _, ⟨T102, L102, k102, n102⟩, -, X102, ⟨Lc102, hQ102, l102, y102, z102⟩, st102⟩ := Jvm.LawKit.callS X0 hx (y := own_m3) hown (mvT hZ (own_w58 hw)) (mvT hZ (own_w59 hw)) (mvT hZ (own_w32 hw)) (mvT hZ (own_w60 hw)) (by decide) (backOf (W := 0) (own_sci12 l Z a0 hw [] cs fv h0 n0 Z0 SC hcs SF hfv) hZ (own_w60 hw) (own_w32 hw) (by decide) (by decide)) (g := (mkF m 3 #[.val (.ref v1), .val (.int (1 : Int32))] [(.int (2 : Int32)), (.int (1 : Int32))])) rfl (by rw [hml]; rfl) (argsL := [(.int (1 : Int32)), (.int (2 : Int32))]) (rest := []) (lenOf own_pd1 rfl) rfl (by show 2 * 0 + _ ≤ _; exact Nat.le_of_eq rfl) (hb hby own_d7_3) (fun _ _ => ⟨rfl, e0, (by decide : 0 + 0 ≤ _), (by decide : 0 + 0 ≤ _)⟩)
  dsimp only [Pt.U, Pt.locs, Pt.cells, Pt.slots] at X102 l102 y102 z102 st102 hQ102
  subst l102 y102 z102
  obtain ⟨rfl, N102q, e102⟩ := hQ102
  have N102 := Fr.app N0 N102q
  obtain ⟨cl103, Ar103, Aq103, As103, An103, Ah103, Ag103⟩ := id Va
  have hin103 : ¬ ((1 : Int32) < 0 ∨ cl103.slots.size ≤ ((1 : Int32)).toNatClampNeg) := inb_of As103 ⟨by decide, by decide⟩
  obtain ⟨fs, hr, hrun, hended, hW, hsame⟩ := X102.leave (v := some (.int (61 : Int32))) (fun h => by rw [Bd.returns] at h; cases h)
  refine ⟨_, _, pre0 _ ?_, hrun, hended, _, _, rfl, ?_, ⟨_, rfl⟩, hW, hsame.mono (by decide) (by decide)⟩
  · show Steps _ _ _ (s₁.setTop (mkF m 0 #[.val (.ref v1), .val (.int (1 : Int32))] [])) _
    refine XS.iloadN X0.here hx rfl (hb hby own_d7_0) rfl ?_
    refine XS.aloadN X0.here hx rfl (hb hby own_d7_1) rfl rfl ?_
    refine X0.arraylength hx (by rw [e0]; exact Ar101.1) (State.isArrayOf_alike hZ.alike Ar101.2.1) (g := (mkF m 2 #[.val (.ref v1), .val (.int (1 : Int32))] [(.ref v1), (.int (1 : Int32))])) rfl rfl (hb hby own_d7_2) _ ?_
    rw [len_of As101 An101]
    refine st102 _ ?_
    show Steps _ _ _ (T102.setTop (mkF m 6 #[.val (.ref v1), .val (.int (1 : Int32))] [])) _
    refine XS.aloadN X102.here hx rfl (hb hby own_d7_6) rfl rfl ?_
    refine XS.iloadN X102.here hx rfl (hb hby own_d7_7) rfl ?_
    refine X102.baloadBytes hx (j := (1 : Int32)) (v := (.int (61 : Int32))) (by rw [e102]; exact Ar103.1) (State.isArrayOf_alike hZ.alike Ar103.2.1) Ar103.2.2 hin103 (Ah103.at hin103 rfl) (g := (mkF m 8 #[.val (.ref v1), .val (.int (1 : Int32))] [(.int (1 : Int32)), (.ref v1)])) rfl rfl (hb hby own_d7_8) _ ?_
    refine XS.sipush X102.here hx rfl (hb hby own_d7_9) ?_
    show Steps _ _ _ (T102.setTop (mkF m 12 #[.val (.ref v1), .val (.int (1 : Int32))] [(.int (255 : Int32)), (.int (61 : Int32))])) _
    refine XS.iand X102.here hx rfl (hb hby own_d7_12) rfl ?_
    refine XS.i2c X102.here hx rfl (hb hby own_d7_13) rfl ?_
    show Steps _ _ _ (T102.setTop (mkF m 14 #[.val (.ref v1), .val (.int (1 : Int32))] [(.int (61 : Int32))])) _
    exact retN X102 hx (t := .char) Bd.returns (by simp) (hb hby own_d7_14) hr
  · show Qown_lcaGE1 Z v1 kc cs fv h0 n0 _ T102.heap _
    rw [e102]
    exact ⟨rfl, N102, rfl⟩
def Qown_caGE1 (Z : State) (o1 v1 : Addr) (kc : ClassId) (cs : Int32) (fv : Value) (h0 : Heap) (n0 : Nat) (v : Option Value) (h : Heap) (L : List Loc) : Prop := v = some (.int (61 : Int32)) ∧ Fr n0 L ∧ h = h0
set_option maxRecDepth 65536 in
set_option maxHeartbeats 40000000 in
theorem own_caGE1 (l : Launch) (Z : State) (a0 : Array Value) (hw : ∀ d ∈ tables_1, d.before a0 Z = true) (ws : List Jvm.Cond) (o1 v1 : Addr) (kc : ClassId) (cs : Int32) (fv : Value) (h0 : Heap) (n0 : Nat) (Z0 : n0 ≤ h0.size) (H : own_Str Z h0 o1 v1 kc (2 : Int32) [(.int (62 : Int32)), (.int (61 : Int32))]) (SC : Sta Z h0 "java/lang/String" "COMPACT_STRINGS" "Z" (.int cs)) (hcs : ¬ cs = (0 : Int32)) (SF : Sta Z h0 "jdk/internal/util/Preconditions" "SIOOBE_FORMATTER" "Ljava/util/function/BiFunction;" fv) (hfv : fv.isRef = true) :
    MetFree l own_m5 (head1 (Jvm.Cond.code own_m5 jdk_42_method_56_code 2 (some .char) :: ws) ({ frames := 3, cells := 0, slots := 0, locals := 40 } : Room)) (fun a U => a = #[(.ref o1), (.int (1 : Int32))] ∧ Z.Warmed39 U.vm ∧ U.heap = h0) (fun _ _ _ _ _ => True) (fun _ U o U' => ∃ v L, o = .returned v ∧ Qown_caGE1 Z o1 v1 kc cs fv h0 n0 v U'.heap L ∧ FrameEnd U o U' L ({ frames := 3, cells := 0, slots := 0, locals := 40 } : Room).cells ({ frames := 3, cells := 0, slots := 0, locals := 40 } : Room).slots) := by
  refine MetFree.of_bodySF (plainFor_of_name own_pn0) hisR ?_
  intro p e s m args below meth c s₁ Bd hml0 hP hK
  obtain ⟨rfl, hZ, hh⟩ := hP
  have hx := Bd.exec
  have hby := Bd.bytes
  have hml : c.maxLocals = 2 := hml0
  have hown : s.vm.findClass "java/lang/String" = some m.cls := by have q := findClass_of_methodNamed Bd.named; exact q
  have hnm := (name_of_methodNamed Bd.named Bd.method).1
  have X0 : Stand p l e ({ frames := 3, cells := 0, slots := 0, locals := 40 } : Room) s m #[(.ref o1), (.int (1 : Int32))] below meth c s₁ [] 0 0 := Stand.of_body Bd
  have e0 : s₁.heap = h0 := by rw [← hh, Bd.state]; rfl
  have N0 := Fr.nil n0
  have pre0 : ∀ t, Steps p.tables e below (s₁.setTop (mkF m 0 #[.val (.ref o1), .val (.int (1 : Int32))] [])) t → Steps p.tables e below (s₁.setTop (entryFrame m #[(.ref o1), (.int (1 : Int32))] 2)) t := fun t k => castTop (by first | (simp [entryFrame, mkF, argsToLocals, Value.category, maxLocals]; done) | rfl) k
  obtain ⟨E1, Fv, Fc, Va⟩ := H
  obtain ⟨cq101, kq101, q101a, q101b, q101c⟩ := isOf hZ e0 E1
  obtain ⟨_, _, ⟨T101, L101, k101, n101⟩, -, X101, ⟨Lc101, hQ101, l101, y101, z101⟩, st101⟩ := X0.virtualBack hx (y := own_m1) (z := own_m1) hown (mvT hZ (own_w49 hw)) (mvT hZ (own_w50 hw)) (notFace_of_selects (args := #[]) (mvT hZ (own_w52 hw))) (mvT hZ (own_w52 hw)) (mvT hZ (own_w51 hw)) (by decide) (backOf (W := 0) (own_isLatin1 l Z a0 hw [] o1 cs h0 n0 Z0 SC hcs Fc) hZ (own_w53 hw) (own_w32 hw) (by decide) (by decide)) q101a q101c (g := (mkF m 1 #[.val (.ref o1), .val (.int (1 : Int32))] [(.ref o1)])) rfl (by rw [hml]; rfl) (Steps.refl _) (argsL := []) (rest := []) (lenOf own_pd2 rfl) rfl (by show 2 * 0 + _ ≤ _; exact Nat.le_of_eq rfl) (hb hby own_d5_1) (fun _ _ => ⟨rfl, e0, (by decide : 0 + 0 ≤ _), (by decide : 0 + 0 ≤ _)⟩)
  dsimp only [Pt.U, Pt.locs, Pt.cells, Pt.slots] at X101 l101 y101 z101 st101 hQ101
  subst l101 y101 z101
  obtain ⟨rfl, N101q, e101⟩ := hQ101
  have N101 := Fr.app N0 N101q
  obtain ⟨T102, X102, e102, st102⟩ := getF X101 hx hZ hown (host := "") (Or.inl (own_w34 hw)) Via.refl e101 Fv (g := (mkF m 8 #[.val (.ref o1), .val (.int (1 : Int32))] [(.ref o1)])) rfl rfl (hb hby own_d5_8)
  obtain ⟨_, _, ⟨T103, L103, k103, n103⟩, -, X103, ⟨Lc103, hQ103, l103, y103, z103⟩, st103⟩ := Jvm.LawKit.callS X102 hx (y := own_m4) hown (mvT hZ (own_w54 hw)) (mvT hZ (own_w55 hw)) (mvT hZ (own_w56 hw)) (mvT hZ (own_w57 hw)) (by decide) (backOf (W := 0) (own_lcaGE1 l Z a0 hw [] v1 kc cs fv h0 n0 Z0 Va SC hcs SF hfv) hZ (own_w57 hw) (own_w56 hw) (by decide) (by decide)) (g := (mkF m 12 #[.val (.ref o1), .val (.int (1 : Int32))] [(.int (1 : Int32)), (.ref v1)])) rfl (by rw [hml]; rfl) (argsL := [(.ref v1), (.int (1 : Int32))]) (rest := []) (lenOf own_pd3 rfl) rfl (by show 2 * 0 + _ ≤ _; exact Nat.le_of_eq rfl) (hb hby own_d5_12) (fun _ _ => ⟨rfl, e102, (by decide : 0 + 0 ≤ _), (by decide : 0 + 0 ≤ _)⟩)
  dsimp only [Pt.U, Pt.locs, Pt.cells, Pt.slots] at X103 l103 y103 z103 st103 hQ103
  subst l103 y103 z103
  obtain ⟨rfl, N103q, e103⟩ := hQ103
  have N103 := Fr.app N101 N103q
  obtain ⟨fs, hr, hrun, hended, hW, hsame⟩ := X103.leave (v := some (.int (61 : Int32))) (fun h => by rw [Bd.returns] at h; cases h)
  refine ⟨_, _, pre0 _ ?_, hrun, hended, _, _, rfl, ?_, ⟨_, rfl⟩, hW, hsame.mono (by decide) (by decide)⟩
  · show Steps _ _ _ (s₁.setTop (mkF m 0 #[.val (.ref o1), .val (.int (1 : Int32))] [])) _
    refine XS.aloadN X0.here hx rfl (hb hby own_d5_0) rfl rfl ?_
    refine st101.trans ?_
    refine XS.ifNo X101.here hx rfl (hb hby own_d5_4) rfl ((if0 _ _).trans (feq (by decide : ¬ ((1 : Int32) = (0 : Int32)))).1) ?_
    refine XS.aloadN X101.here hx rfl (hb hby own_d5_7) rfl rfl ?_
    show Steps _ _ _ (T101.setTop (mkF m 8 #[.val (.ref o1), .val (.int (1 : Int32))] [(.ref o1)])) _
    refine st102 _ ?_
    refine XS.iloadN X102.here hx rfl (hb hby own_d5_11) rfl ?_
    refine st103 _ ?_
    show Steps _ _ _ (T103.setTop (mkF m 15 #[.val (.ref o1), .val (.int (1 : Int32))] [(.int (61 : Int32))])) _
    exact retN X103 hx (t := .char) Bd.returns (by simp) (hb hby own_d5_15) hr
  · show Qown_caGE1 Z o1 v1 kc cs fv h0 n0 _ T103.heap _
    rw [e103]
    exact ⟨rfl, N103, rfl⟩
def Qown_lenGE (Z : State) (o1 v1 : Addr) (kc : ClassId) (cs : Int32) (fv : Value) (h0 : Heap) (n0 : Nat) (v : Option Value) (h : Heap) (L : List Loc) : Prop := v = some (.int (2 : Int32)) ∧ Fr n0 L ∧ h = h0
set_option maxRecDepth 65536 in
set_option maxHeartbeats 40000000 in
theorem own_lenGE (l : Launch) (Z : State) (a0 : Array Value) (hw : ∀ d ∈ tables_1, d.before a0 Z = true) (ws : List Jvm.Cond) (o1 v1 : Addr) (kc : ClassId) (cs : Int32) (fv : Value) (h0 : Heap) (n0 : Nat) (Z0 : n0 ≤ h0.size) (H : own_Str Z h0 o1 v1 kc (2 : Int32) [(.int (62 : Int32)), (.int (61 : Int32))]) (SC : Sta Z h0 "java/lang/String" "COMPACT_STRINGS" "Z" (.int cs)) (hcs : ¬ cs = (0 : Int32)) (SF : Sta Z h0 "jdk/internal/util/Preconditions" "SIOOBE_FORMATTER" "Ljava/util/function/BiFunction;" fv) (hfv : fv.isRef = true) :
    MetFree l own_m6 (head1 (Jvm.Cond.code own_m6 jdk_42_method_54_code 1 (some .int) :: ws) ({ frames := 1, cells := 0, slots := 0, locals := 13 } : Room)) (fun a U => a = #[(.ref o1)] ∧ Z.Warmed39 U.vm ∧ U.heap = h0) (fun _ _ _ _ _ => True) (fun _ U o U' => ∃ v L, o = .returned v ∧ Qown_lenGE Z o1 v1 kc cs fv h0 n0 v U'.heap L ∧ FrameEnd U o U' L ({ frames := 1, cells := 0, slots := 0, locals := 13 } : Room).cells ({ frames := 1, cells := 0, slots := 0, locals := 13 } : Room).slots) := by
  refine MetFree.of_bodySF (plainFor_of_name own_pn0) hisR ?_
  intro p e s m args below meth c s₁ Bd hml0 hP hK
  obtain ⟨rfl, hZ, hh⟩ := hP
  have hx := Bd.exec
  have hby := Bd.bytes
  have hml : c.maxLocals = 1 := hml0
  have hown : s.vm.findClass "java/lang/String" = some m.cls := by have q := findClass_of_methodNamed Bd.named; exact q
  have hnm := (name_of_methodNamed Bd.named Bd.method).1
  have X0 : Stand p l e ({ frames := 1, cells := 0, slots := 0, locals := 13 } : Room) s m #[(.ref o1)] below meth c s₁ [] 0 0 := Stand.of_body Bd
  have e0 : s₁.heap = h0 := by rw [← hh, Bd.state]; rfl
  have N0 := Fr.nil n0
  have pre0 : ∀ t, Steps p.tables e below (s₁.setTop (mkF m 0 #[.val (.ref o1)] [])) t → Steps p.tables e below (s₁.setTop (entryFrame m #[(.ref o1)] 1)) t := fun t k => castTop (by first | (simp [entryFrame, mkF, argsToLocals, Value.category, maxLocals]; done) | rfl) k
  obtain ⟨E1, Fv, Fc, Va⟩ := H
  obtain ⟨T101, X101, e101, st101⟩ := getF X0 hx hZ hown (host := "") (Or.inl (own_w34 hw)) Via.refl e0 Fv (g := (mkF m 1 #[.val (.ref o1)] [(.ref o1)])) rfl rfl (hb hby own_d3_1)
  obtain ⟨cl102, Ar102, Aq102, As102, An102, Ah102, Ag102⟩ := id Va
  obtain ⟨cq103, kq103, q103a, q103b, q103c⟩ := isOf hZ e101 E1
  obtain ⟨_, _, ⟨T103, L103, k103, n103⟩, -, X103, ⟨Lc103, hQ103, l103, y103, z103⟩, st103⟩ := X101.virtualBack hx (y := own_m0) (z := own_m0) hown (mvT hZ (own_w36 hw)) (mvT hZ (own_w37 hw)) (notFace_of_selects (args := #[]) (mvT hZ (own_w39 hw))) (mvT hZ (own_w39 hw)) (mvT hZ (own_w38 hw)) (by decide) (backOf (W := 1) (own_coder l Z a0 hw [] o1 cs h0 n0 Z0 SC hcs Fc) hZ (own_w40 hw) (own_w32 hw) (by decide) (by decide)) q103a q103c (g := (mkF m 6 #[.val (.ref o1)] [(.ref o1), (.int (2 : Int32))])) rfl (by rw [hml]; rfl) (Steps.refl _) (argsL := []) (rest := [(.int (2 : Int32))]) (lenOf own_pd4 rfl) rfl (by show 2 * 0 + _ ≤ _; exact Nat.le_of_eq rfl) (hb hby own_d3_6) (fun _ _ => ⟨rfl, e101, (by decide : 0 + 0 ≤ _), (by decide : 0 + 0 ≤ _)⟩)
  dsimp only [Pt.U, Pt.locs, Pt.cells, Pt.slots] at X103 l103 y103 z103 st103 hQ103
  subst l103 y103 z103
  obtain ⟨rfl, N103q, e103⟩ := hQ103
  have N103 := Fr.app N0 N103q
  obtain ⟨fs, hr, hrun, hended, hW, hsame⟩ := X103.leave (v := some (.int (2 : Int32))) (fun h => by rw [Bd.returns] at h; cases h)
  refine ⟨_, _, pre0 _ ?_, hrun, hended, _, _, rfl, ?_, ⟨_, rfl⟩, hW, hsame.mono (by decide) (by decide)⟩
  · show Steps _ _ _ (s₁.setTop (mkF m 0 #[.val (.ref o1)] [])) _
    refine XS.aloadN X0.here hx rfl (hb hby own_d3_0) rfl rfl ?_
    refine st101 _ ?_
    refine X101.arraylength hx (by rw [e101]; exact Ar102.1) (State.isArrayOf_alike hZ.alike Ar102.2.1) (g := (mkF m 4 #[.val (.ref o1)] [(.ref v1)])) rfl rfl (hb hby own_d3_4) _ ?_
    rw [len_of As102 An102]
    refine XS.aloadN X101.here hx rfl (hb hby own_d3_5) rfl rfl ?_
    show Steps _ _ _ (T101.setTop (mkF m 6 #[.val (.ref o1)] [(.ref o1), (.int (2 : Int32))])) _
    refine st103.trans ?_
    refine XS.ishr X103.here hx rfl (hb hby own_d3_9) rfl ?_
    show Steps _ _ _ (T103.setTop (mkF m 10 #[.val (.ref o1)] [(.int (2 : Int32))])) _
    exact retI X103 hx Bd.returns (hb hby own_d3_10) hr
  · show Qown_lenGE Z o1 v1 kc cs fv h0 n0 _ T103.heap _
    rw [e103]
    exact ⟨rfl, N103, rfl⟩
def Qown_lcaE0 (Z : State) (v1 : Addr) (kc : ClassId) (cs : Int32) (fv : Value) (h0 : Heap) (n0 : Nat) (v : Option Value) (h : Heap) (L : List Loc) : Prop := v = some (.int (61 : Int32)) ∧ Fr n0 L ∧ h = h0
set_option maxRecDepth 65536 in
set_option maxHeartbeats 40000000 in
theorem own_lcaE0 (l : Launch) (Z : State) (a0 : Array Value) (hw : ∀ d ∈ tables_1, d.before a0 Z = true) (ws : List Jvm.Cond) (v1 : Addr) (kc : ClassId) (cs : Int32) (fv : Value) (h0 : Heap) (n0 : Nat) (Z0 : n0 ≤ h0.size) (Va : Arv Z h0 v1 kc .byte (1 : Int32) [(.int (61 : Int32))] (.int (0 : Int32))) (SC : Sta Z h0 "java/lang/String" "COMPACT_STRINGS" "Z" (.int cs)) (hcs : ¬ cs = (0 : Int32)) (SF : Sta Z h0 "jdk/internal/util/Preconditions" "SIOOBE_FORMATTER" "Ljava/util/function/BiFunction;" fv) (hfv : fv.isRef = true) :
    MetFree l own_m4 (head1 (Jvm.Cond.code own_m4 jdk_43_method_2_code 2 (some .char) :: ws) ({ frames := 2, cells := 0, slots := 0, locals := 27 } : Room)) (fun a U => a = #[(.ref v1), (.int (0 : Int32))] ∧ Z.Warmed39 U.vm ∧ U.heap = h0) (fun _ _ _ _ _ => True) (fun _ U o U' => ∃ v L, o = .returned v ∧ Qown_lcaE0 Z v1 kc cs fv h0 n0 v U'.heap L ∧ FrameEnd U o U' L ({ frames := 2, cells := 0, slots := 0, locals := 27 } : Room).cells ({ frames := 2, cells := 0, slots := 0, locals := 27 } : Room).slots) := by
  refine MetFree.of_bodySF (plainFor_of_name own_pn2) hisR ?_
  intro p e s m args below meth c s₁ Bd hml0 hP hK
  obtain ⟨rfl, hZ, hh⟩ := hP
  have hx := Bd.exec
  have hby := Bd.bytes
  have hml : c.maxLocals = 2 := hml0
  have hown : s.vm.findClass "java/lang/StringLatin1" = some m.cls := by have q := findClass_of_methodNamed Bd.named; exact q
  have hnm := (name_of_methodNamed Bd.named Bd.method).1
  have X0 : Stand p l e ({ frames := 2, cells := 0, slots := 0, locals := 27 } : Room) s m #[(.ref v1), (.int (0 : Int32))] below meth c s₁ [] 0 0 := Stand.of_body Bd
  have e0 : s₁.heap = h0 := by rw [← hh, Bd.state]; rfl
  have N0 := Fr.nil n0
  have pre0 : ∀ t, Steps p.tables e below (s₁.setTop (mkF m 0 #[.val (.ref v1), .val (.int (0 : Int32))] [])) t → Steps p.tables e below (s₁.setTop (entryFrame m #[(.ref v1), (.int (0 : Int32))] 2)) t := fun t k => castTop (by first | (simp [entryFrame, mkF, argsToLocals, Value.category, maxLocals]; done) | rfl) k
  obtain ⟨cl101, Ar101, Aq101, As101, An101, Ah101, Ag101⟩ := id Va
  obtain ⟨_, _, ⟨T102, L102, k102, n102⟩, -, X102, ⟨Lc102, hQ102, l102, y102, z102⟩, st102⟩ := Jvm.LawKit.callS X0 hx (y := own_m3) hown (mvT hZ (own_w58 hw)) (mvT hZ (own_w59 hw)) (mvT hZ (own_w32 hw)) (mvT hZ (own_w60 hw)) (by decide) (backOf (W := 0) (own_sci01 l Z a0 hw [] cs fv h0 n0 Z0 SC hcs SF hfv) hZ (own_w60 hw) (own_w32 hw) (by decide) (by decide)) (g := (mkF m 3 #[.val (.ref v1), .val (.int (0 : Int32))] [(.int (1 : Int32)), (.int (0 : Int32))])) rfl (by rw [hml]; rfl) (argsL := [(.int (0 : Int32)), (.int (1 : Int32))]) (rest := []) (lenOf own_pd1 rfl) rfl (by show 2 * 0 + _ ≤ _; exact Nat.le_of_eq rfl) (hb hby own_d7_3) (fun _ _ => ⟨rfl, e0, (by decide : 0 + 0 ≤ _), (by decide : 0 + 0 ≤ _)⟩)
  dsimp only [Pt.U, Pt.locs, Pt.cells, Pt.slots] at X102 l102 y102 z102 st102 hQ102
  subst l102 y102 z102
  obtain ⟨rfl, N102q, e102⟩ := hQ102
  have N102 := Fr.app N0 N102q
  obtain ⟨cl103, Ar103, Aq103, As103, An103, Ah103, Ag103⟩ := id Va
  have hin103 : ¬ ((0 : Int32) < 0 ∨ cl103.slots.size ≤ ((0 : Int32)).toNatClampNeg) := inb_of As103 ⟨by decide, by decide⟩
  obtain ⟨fs, hr, hrun, hended, hW, hsame⟩ := X102.leave (v := some (.int (61 : Int32))) (fun h => by rw [Bd.returns] at h; cases h)
  refine ⟨_, _, pre0 _ ?_, hrun, hended, _, _, rfl, ?_, ⟨_, rfl⟩, hW, hsame.mono (by decide) (by decide)⟩
  · show Steps _ _ _ (s₁.setTop (mkF m 0 #[.val (.ref v1), .val (.int (0 : Int32))] [])) _
    refine XS.iloadN X0.here hx rfl (hb hby own_d7_0) rfl ?_
    refine XS.aloadN X0.here hx rfl (hb hby own_d7_1) rfl rfl ?_
    refine X0.arraylength hx (by rw [e0]; exact Ar101.1) (State.isArrayOf_alike hZ.alike Ar101.2.1) (g := (mkF m 2 #[.val (.ref v1), .val (.int (0 : Int32))] [(.ref v1), (.int (0 : Int32))])) rfl rfl (hb hby own_d7_2) _ ?_
    rw [len_of As101 An101]
    refine st102 _ ?_
    show Steps _ _ _ (T102.setTop (mkF m 6 #[.val (.ref v1), .val (.int (0 : Int32))] [])) _
    refine XS.aloadN X102.here hx rfl (hb hby own_d7_6) rfl rfl ?_
    refine XS.iloadN X102.here hx rfl (hb hby own_d7_7) rfl ?_
    refine X102.baloadBytes hx (j := (0 : Int32)) (v := (.int (61 : Int32))) (by rw [e102]; exact Ar103.1) (State.isArrayOf_alike hZ.alike Ar103.2.1) Ar103.2.2 hin103 (Ah103.at hin103 rfl) (g := (mkF m 8 #[.val (.ref v1), .val (.int (0 : Int32))] [(.int (0 : Int32)), (.ref v1)])) rfl rfl (hb hby own_d7_8) _ ?_
    refine XS.sipush X102.here hx rfl (hb hby own_d7_9) ?_
    show Steps _ _ _ (T102.setTop (mkF m 12 #[.val (.ref v1), .val (.int (0 : Int32))] [(.int (255 : Int32)), (.int (61 : Int32))])) _
    refine XS.iand X102.here hx rfl (hb hby own_d7_12) rfl ?_
    refine XS.i2c X102.here hx rfl (hb hby own_d7_13) rfl ?_
    show Steps _ _ _ (T102.setTop (mkF m 14 #[.val (.ref v1), .val (.int (0 : Int32))] [(.int (61 : Int32))])) _
    exact retN X102 hx (t := .char) Bd.returns (by simp) (hb hby own_d7_14) hr
  · show Qown_lcaE0 Z v1 kc cs fv h0 n0 _ T102.heap _
    rw [e102]
    exact ⟨rfl, N102, rfl⟩
def Qown_caE0 (Z : State) (o1 v1 : Addr) (kc : ClassId) (cs : Int32) (fv : Value) (h0 : Heap) (n0 : Nat) (v : Option Value) (h : Heap) (L : List Loc) : Prop := v = some (.int (61 : Int32)) ∧ Fr n0 L ∧ h = h0
set_option maxRecDepth 65536 in
set_option maxHeartbeats 40000000 in
theorem own_caE0 (l : Launch) (Z : State) (a0 : Array Value) (hw : ∀ d ∈ tables_1, d.before a0 Z = true) (ws : List Jvm.Cond) (o1 v1 : Addr) (kc : ClassId) (cs : Int32) (fv : Value) (h0 : Heap) (n0 : Nat) (Z0 : n0 ≤ h0.size) (H : own_Str Z h0 o1 v1 kc (1 : Int32) [(.int (61 : Int32))]) (SC : Sta Z h0 "java/lang/String" "COMPACT_STRINGS" "Z" (.int cs)) (hcs : ¬ cs = (0 : Int32)) (SF : Sta Z h0 "jdk/internal/util/Preconditions" "SIOOBE_FORMATTER" "Ljava/util/function/BiFunction;" fv) (hfv : fv.isRef = true) :
    MetFree l own_m5 (head1 (Jvm.Cond.code own_m5 jdk_42_method_56_code 2 (some .char) :: ws) ({ frames := 3, cells := 0, slots := 0, locals := 40 } : Room)) (fun a U => a = #[(.ref o1), (.int (0 : Int32))] ∧ Z.Warmed39 U.vm ∧ U.heap = h0) (fun _ _ _ _ _ => True) (fun _ U o U' => ∃ v L, o = .returned v ∧ Qown_caE0 Z o1 v1 kc cs fv h0 n0 v U'.heap L ∧ FrameEnd U o U' L ({ frames := 3, cells := 0, slots := 0, locals := 40 } : Room).cells ({ frames := 3, cells := 0, slots := 0, locals := 40 } : Room).slots) := by
  refine MetFree.of_bodySF (plainFor_of_name own_pn0) hisR ?_
  intro p e s m args below meth c s₁ Bd hml0 hP hK
  obtain ⟨rfl, hZ, hh⟩ := hP
  have hx := Bd.exec
  have hby := Bd.bytes
  have hml : c.maxLocals = 2 := hml0
  have hown : s.vm.findClass "java/lang/String" = some m.cls := by have q := findClass_of_methodNamed Bd.named; exact q
  have hnm := (name_of_methodNamed Bd.named Bd.method).1
  have X0 : Stand p l e ({ frames := 3, cells := 0, slots := 0, locals := 40 } : Room) s m #[(.ref o1), (.int (0 : Int32))] below meth c s₁ [] 0 0 := Stand.of_body Bd
  have e0 : s₁.heap = h0 := by rw [← hh, Bd.state]; rfl
  have N0 := Fr.nil n0
  have pre0 : ∀ t, Steps p.tables e below (s₁.setTop (mkF m 0 #[.val (.ref o1), .val (.int (0 : Int32))] [])) t → Steps p.tables e below (s₁.setTop (entryFrame m #[(.ref o1), (.int (0 : Int32))] 2)) t := fun t k => castTop (by first | (simp [entryFrame, mkF, argsToLocals, Value.category, maxLocals]; done) | rfl) k
  obtain ⟨E1, Fv, Fc, Va⟩ := H
  obtain ⟨cq101, kq101, q101a, q101b, q101c⟩ := isOf hZ e0 E1
  obtain ⟨_, _, ⟨T101, L101, k101, n101⟩, -, X101, ⟨Lc101, hQ101, l101, y101, z101⟩, st101⟩ := X0.virtualBack hx (y := own_m1) (z := own_m1) hown (mvT hZ (own_w49 hw)) (mvT hZ (own_w50 hw)) (notFace_of_selects (args := #[]) (mvT hZ (own_w52 hw))) (mvT hZ (own_w52 hw)) (mvT hZ (own_w51 hw)) (by decide) (backOf (W := 0) (own_isLatin1 l Z a0 hw [] o1 cs h0 n0 Z0 SC hcs Fc) hZ (own_w53 hw) (own_w32 hw) (by decide) (by decide)) q101a q101c (g := (mkF m 1 #[.val (.ref o1), .val (.int (0 : Int32))] [(.ref o1)])) rfl (by rw [hml]; rfl) (Steps.refl _) (argsL := []) (rest := []) (lenOf own_pd2 rfl) rfl (by show 2 * 0 + _ ≤ _; exact Nat.le_of_eq rfl) (hb hby own_d5_1) (fun _ _ => ⟨rfl, e0, (by decide : 0 + 0 ≤ _), (by decide : 0 + 0 ≤ _)⟩)
  dsimp only [Pt.U, Pt.locs, Pt.cells, Pt.slots] at X101 l101 y101 z101 st101 hQ101
  subst l101 y101 z101
  obtain ⟨rfl, N101q, e101⟩ := hQ101
  have N101 := Fr.app N0 N101q
  obtain ⟨T102, X102, e102, st102⟩ := getF X101 hx hZ hown (host := "") (Or.inl (own_w34 hw)) Via.refl e101 Fv (g := (mkF m 8 #[.val (.ref o1), .val (.int (0 : Int32))] [(.ref o1)])) rfl rfl (hb hby own_d5_8)
  obtain ⟨_, _, ⟨T103, L103, k103, n103⟩, -, X103, ⟨Lc103, hQ103, l103, y103, z103⟩, st103⟩ := Jvm.LawKit.callS X102 hx (y := own_m4) hown (mvT hZ (own_w54 hw)) (mvT hZ (own_w55 hw)) (mvT hZ (own_w56 hw)) (mvT hZ (own_w57 hw)) (by decide) (backOf (W := 0) (own_lcaE0 l Z a0 hw [] v1 kc cs fv h0 n0 Z0 Va SC hcs SF hfv) hZ (own_w57 hw) (own_w56 hw) (by decide) (by decide)) (g := (mkF m 12 #[.val (.ref o1), .val (.int (0 : Int32))] [(.int (0 : Int32)), (.ref v1)])) rfl (by rw [hml]; rfl) (argsL := [(.ref v1), (.int (0 : Int32))]) (rest := []) (lenOf own_pd3 rfl) rfl (by show 2 * 0 + _ ≤ _; exact Nat.le_of_eq rfl) (hb hby own_d5_12) (fun _ _ => ⟨rfl, e102, (by decide : 0 + 0 ≤ _), (by decide : 0 + 0 ≤ _)⟩)
  dsimp only [Pt.U, Pt.locs, Pt.cells, Pt.slots] at X103 l103 y103 z103 st103 hQ103
  subst l103 y103 z103
  obtain ⟨rfl, N103q, e103⟩ := hQ103
  have N103 := Fr.app N101 N103q
  obtain ⟨fs, hr, hrun, hended, hW, hsame⟩ := X103.leave (v := some (.int (61 : Int32))) (fun h => by rw [Bd.returns] at h; cases h)
  refine ⟨_, _, pre0 _ ?_, hrun, hended, _, _, rfl, ?_, ⟨_, rfl⟩, hW, hsame.mono (by decide) (by decide)⟩
  · show Steps _ _ _ (s₁.setTop (mkF m 0 #[.val (.ref o1), .val (.int (0 : Int32))] [])) _
    refine XS.aloadN X0.here hx rfl (hb hby own_d5_0) rfl rfl ?_
    refine st101.trans ?_
    refine XS.ifNo X101.here hx rfl (hb hby own_d5_4) rfl ((if0 _ _).trans (feq (by decide : ¬ ((1 : Int32) = (0 : Int32)))).1) ?_
    refine XS.aloadN X101.here hx rfl (hb hby own_d5_7) rfl rfl ?_
    show Steps _ _ _ (T101.setTop (mkF m 8 #[.val (.ref o1), .val (.int (0 : Int32))] [(.ref o1)])) _
    refine st102 _ ?_
    refine XS.iloadN X102.here hx rfl (hb hby own_d5_11) rfl ?_
    refine st103 _ ?_
    show Steps _ _ _ (T103.setTop (mkF m 15 #[.val (.ref o1), .val (.int (0 : Int32))] [(.int (61 : Int32))])) _
    exact retN X103 hx (t := .char) Bd.returns (by simp) (hb hby own_d5_15) hr
  · show Qown_caE0 Z o1 v1 kc cs fv h0 n0 _ T103.heap _
    rw [e103]
    exact ⟨rfl, N103, rfl⟩
def Qown_lenE (Z : State) (o1 v1 : Addr) (kc : ClassId) (cs : Int32) (fv : Value) (h0 : Heap) (n0 : Nat) (v : Option Value) (h : Heap) (L : List Loc) : Prop := v = some (.int (1 : Int32)) ∧ Fr n0 L ∧ h = h0
set_option maxRecDepth 65536 in
set_option maxHeartbeats 40000000 in
theorem own_lenE (l : Launch) (Z : State) (a0 : Array Value) (hw : ∀ d ∈ tables_1, d.before a0 Z = true) (ws : List Jvm.Cond) (o1 v1 : Addr) (kc : ClassId) (cs : Int32) (fv : Value) (h0 : Heap) (n0 : Nat) (Z0 : n0 ≤ h0.size) (H : own_Str Z h0 o1 v1 kc (1 : Int32) [(.int (61 : Int32))]) (SC : Sta Z h0 "java/lang/String" "COMPACT_STRINGS" "Z" (.int cs)) (hcs : ¬ cs = (0 : Int32)) (SF : Sta Z h0 "jdk/internal/util/Preconditions" "SIOOBE_FORMATTER" "Ljava/util/function/BiFunction;" fv) (hfv : fv.isRef = true) :
    MetFree l own_m6 (head1 (Jvm.Cond.code own_m6 jdk_42_method_54_code 1 (some .int) :: ws) ({ frames := 1, cells := 0, slots := 0, locals := 13 } : Room)) (fun a U => a = #[(.ref o1)] ∧ Z.Warmed39 U.vm ∧ U.heap = h0) (fun _ _ _ _ _ => True) (fun _ U o U' => ∃ v L, o = .returned v ∧ Qown_lenE Z o1 v1 kc cs fv h0 n0 v U'.heap L ∧ FrameEnd U o U' L ({ frames := 1, cells := 0, slots := 0, locals := 13 } : Room).cells ({ frames := 1, cells := 0, slots := 0, locals := 13 } : Room).slots) := by
  refine MetFree.of_bodySF (plainFor_of_name own_pn0) hisR ?_
  intro p e s m args below meth c s₁ Bd hml0 hP hK
  obtain ⟨rfl, hZ, hh⟩ := hP
  have hx := Bd.exec
  have hby := Bd.bytes
  have hml : c.maxLocals = 1 := hml0
  have hown : s.vm.findClass "java/lang/String" = some m.cls := by have q := findClass_of_methodNamed Bd.named; exact q
  have hnm := (name_of_methodNamed Bd.named Bd.method).1
  have X0 : Stand p l e ({ frames := 1, cells := 0, slots := 0, locals := 13 } : Room) s m #[(.ref o1)] below meth c s₁ [] 0 0 := Stand.of_body Bd
  have e0 : s₁.heap = h0 := by rw [← hh, Bd.state]; rfl
  have N0 := Fr.nil n0
  have pre0 : ∀ t, Steps p.tables e below (s₁.setTop (mkF m 0 #[.val (.ref o1)] [])) t → Steps p.tables e below (s₁.setTop (entryFrame m #[(.ref o1)] 1)) t := fun t k => castTop (by first | (simp [entryFrame, mkF, argsToLocals, Value.category, maxLocals]; done) | rfl) k
  obtain ⟨E1, Fv, Fc, Va⟩ := H
  obtain ⟨T101, X101, e101, st101⟩ := getF X0 hx hZ hown (host := "") (Or.inl (own_w34 hw)) Via.refl e0 Fv (g := (mkF m 1 #[.val (.ref o1)] [(.ref o1)])) rfl rfl (hb hby own_d3_1)
  obtain ⟨cl102, Ar102, Aq102, As102, An102, Ah102, Ag102⟩ := id Va
  obtain ⟨cq103, kq103, q103a, q103b, q103c⟩ := isOf hZ e101 E1
  obtain ⟨_, _, ⟨T103, L103, k103, n103⟩, -, X103, ⟨Lc103, hQ103, l103, y103, z103⟩, st103⟩ := X101.virtualBack hx (y := own_m0) (z := own_m0) hown (mvT hZ (own_w36 hw)) (mvT hZ (own_w37 hw)) (notFace_of_selects (args := #[]) (mvT hZ (own_w39 hw))) (mvT hZ (own_w39 hw)) (mvT hZ (own_w38 hw)) (by decide) (backOf (W := 1) (own_coder l Z a0 hw [] o1 cs h0 n0 Z0 SC hcs Fc) hZ (own_w40 hw) (own_w32 hw) (by decide) (by decide)) q103a q103c (g := (mkF m 6 #[.val (.ref o1)] [(.ref o1), (.int (1 : Int32))])) rfl (by rw [hml]; rfl) (Steps.refl _) (argsL := []) (rest := [(.int (1 : Int32))]) (lenOf own_pd4 rfl) rfl (by show 2 * 0 + _ ≤ _; exact Nat.le_of_eq rfl) (hb hby own_d3_6) (fun _ _ => ⟨rfl, e101, (by decide : 0 + 0 ≤ _), (by decide : 0 + 0 ≤ _)⟩)
  dsimp only [Pt.U, Pt.locs, Pt.cells, Pt.slots] at X103 l103 y103 z103 st103 hQ103
  subst l103 y103 z103
  obtain ⟨rfl, N103q, e103⟩ := hQ103
  have N103 := Fr.app N0 N103q
  obtain ⟨fs, hr, hrun, hended, hW, hsame⟩ := X103.leave (v := some (.int (1 : Int32))) (fun h => by rw [Bd.returns] at h; cases h)
  refine ⟨_, _, pre0 _ ?_, hrun, hended, _, _, rfl, ?_, ⟨_, rfl⟩, hW, hsame.mono (by decide) (by decide)⟩
  · show Steps _ _ _ (s₁.setTop (mkF m 0 #[.val (.ref o1)] [])) _
    refine XS.aloadN X0.here hx rfl (hb hby own_d3_0) rfl rfl ?_
    refine st101 _ ?_
    refine X101.arraylength hx (by rw [e101]; exact Ar102.1) (State.isArrayOf_alike hZ.alike Ar102.2.1) (g := (mkF m 4 #[.val (.ref o1)] [(.ref v1)])) rfl rfl (hb hby own_d3_4) _ ?_
    rw [len_of As102 An102]
    refine XS.aloadN X101.here hx rfl (hb hby own_d3_5) rfl rfl ?_
    show Steps _ _ _ (T101.setTop (mkF m 6 #[.val (.ref o1)] [(.ref o1), (.int (1 : Int32))])) _
    refine st103.trans ?_
    refine XS.ishr X103.here hx rfl (hb hby own_d3_9) rfl ?_
    show Steps _ _ _ (T103.setTop (mkF m 10 #[.val (.ref o1)] [(.int (1 : Int32))])) _
    exact retI X103 hx Bd.returns (hb hby own_d3_10) hr
  · show Qown_lenE Z o1 v1 kc cs fv h0 n0 _ T103.heap _
    rw [e103]
    exact ⟨rfl, N103, rfl⟩
def Qown_lcaL0 (Z : State) (v1 : Addr) (kc : ClassId) (cs : Int32) (fv : Value) (h0 : Heap) (n0 : Nat) (v : Option Value) (h : Heap) (L : List Loc) : Prop := v = some (.int (60 : Int32)) ∧ Fr n0 L ∧ h = h0
set_option maxRecDepth 65536 in
set_option maxHeartbeats 40000000 in
theorem own_lcaL0 (l : Launch) (Z : State) (a0 : Array Value) (hw : ∀ d ∈ tables_1, d.before a0 Z = true) (ws : List Jvm.Cond) (v1 : Addr) (kc : ClassId) (cs : Int32) (fv : Value) (h0 : Heap) (n0 : Nat) (Z0 : n0 ≤ h0.size) (Va : Arv Z h0 v1 kc .byte (1 : Int32) [(.int (60 : Int32))] (.int (0 : Int32))) (SC : Sta Z h0 "java/lang/String" "COMPACT_STRINGS" "Z" (.int cs)) (hcs : ¬ cs = (0 : Int32)) (SF : Sta Z h0 "jdk/internal/util/Preconditions" "SIOOBE_FORMATTER" "Ljava/util/function/BiFunction;" fv) (hfv : fv.isRef = true) :
    MetFree l own_m4 (head1 (Jvm.Cond.code own_m4 jdk_43_method_2_code 2 (some .char) :: ws) ({ frames := 2, cells := 0, slots := 0, locals := 27 } : Room)) (fun a U => a = #[(.ref v1), (.int (0 : Int32))] ∧ Z.Warmed39 U.vm ∧ U.heap = h0) (fun _ _ _ _ _ => True) (fun _ U o U' => ∃ v L, o = .returned v ∧ Qown_lcaL0 Z v1 kc cs fv h0 n0 v U'.heap L ∧ FrameEnd U o U' L ({ frames := 2, cells := 0, slots := 0, locals := 27 } : Room).cells ({ frames := 2, cells := 0, slots := 0, locals := 27 } : Room).slots) := by
  refine MetFree.of_bodySF (plainFor_of_name own_pn2) hisR ?_
  intro p e s m args below meth c s₁ Bd hml0 hP hK
  obtain ⟨rfl, hZ, hh⟩ := hP
  have hx := Bd.exec
  have hby := Bd.bytes
  have hml : c.maxLocals = 2 := hml0
  have hown : s.vm.findClass "java/lang/StringLatin1" = some m.cls := by have q := findClass_of_methodNamed Bd.named; exact q
  have hnm := (name_of_methodNamed Bd.named Bd.method).1
  have X0 : Stand p l e ({ frames := 2, cells := 0, slots := 0, locals := 27 } : Room) s m #[(.ref v1), (.int (0 : Int32))] below meth c s₁ [] 0 0 := Stand.of_body Bd
  have e0 : s₁.heap = h0 := by rw [← hh, Bd.state]; rfl
  have N0 := Fr.nil n0
  have pre0 : ∀ t, Steps p.tables e below (s₁.setTop (mkF m 0 #[.val (.ref v1), .val (.int (0 : Int32))] [])) t → Steps p.tables e below (s₁.setTop (entryFrame m #[(.ref v1), (.int (0 : Int32))] 2)) t := fun t k => castTop (by first | (simp [entryFrame, mkF, argsToLocals, Value.category, maxLocals]; done) | rfl) k
  obtain ⟨cl101, Ar101, Aq101, As101, An101, Ah101, Ag101⟩ := id Va
  obtain ⟨_, _, ⟨T102, L102, k102, n102⟩, -, X102, ⟨Lc102, hQ102, l102, y102, z102⟩, st102⟩ := Jvm.LawKit.callS X0 hx (y := own_m3) hown (mvT hZ (own_w58 hw)) (mvT hZ (own_w59 hw)) (mvT hZ (own_w32 hw)) (mvT hZ (own_w60 hw)) (by decide) (backOf (W := 0) (own_sci01 l Z a0 hw [] cs fv h0 n0 Z0 SC hcs SF hfv) hZ (own_w60 hw) (own_w32 hw) (by decide) (by decide)) (g := (mkF m 3 #[.val (.ref v1), .val (.int (0 : Int32))] [(.int (1 : Int32)), (.int (0 : Int32))])) rfl (by rw [hml]; rfl) (argsL := [(.int (0 : Int32)), (.int (1 : Int32))]) (rest := []) (lenOf own_pd1 rfl) rfl (by show 2 * 0 + _ ≤ _; exact Nat.le_of_eq rfl) (hb hby own_d7_3) (fun _ _ => ⟨rfl, e0, (by decide : 0 + 0 ≤ _), (by decide : 0 + 0 ≤ _)⟩)
  dsimp only [Pt.U, Pt.locs, Pt.cells, Pt.slots] at X102 l102 y102 z102 st102 hQ102
  subst l102 y102 z102
  obtain ⟨rfl, N102q, e102⟩ := hQ102
  have N102 := Fr.app N0 N102q
  obtain ⟨cl103, Ar103, Aq103, As103, An103, Ah103, Ag103⟩ := id Va
  have hin103 : ¬ ((0 : Int32) < 0 ∨ cl103.slots.size ≤ ((0 : Int32)).toNatClampNeg) := inb_of As103 ⟨by decide, by decide⟩
  obtain ⟨fs, hr, hrun, hended, hW, hsame⟩ := X102.leave (v := some (.int (60 : Int32))) (fun h => by rw [Bd.returns] at h; cases h)
  refine ⟨_, _, pre0 _ ?_, hrun, hended, _, _, rfl, ?_, ⟨_, rfl⟩, hW, hsame.mono (by decide) (by decide)⟩
  · show Steps _ _ _ (s₁.setTop (mkF m 0 #[.val (.ref v1), .val (.int (0 : Int32))] [])) _
    refine XS.iloadN X0.here hx rfl (hb hby own_d7_0) rfl ?_
    refine XS.aloadN X0.here hx rfl (hb hby own_d7_1) rfl rfl ?_
    refine X0.arraylength hx (by rw [e0]; exact Ar101.1) (State.isArrayOf_alike hZ.alike Ar101.2.1) (g := (mkF m 2 #[.val (.ref v1), .val (.int (0 : Int32))] [(.ref v1), (.int (0 : Int32))])) rfl rfl (hb hby own_d7_2) _ ?_
    rw [len_of As101 An101]
    refine st102 _ ?_
    show Steps _ _ _ (T102.setTop (mkF m 6 #[.val (.ref v1), .val (.int (0 : Int32))] [])) _
    refine XS.aloadN X102.here hx rfl (hb hby own_d7_6) rfl rfl ?_
    refine XS.iloadN X102.here hx rfl (hb hby own_d7_7) rfl ?_
    refine X102.baloadBytes hx (j := (0 : Int32)) (v := (.int (60 : Int32))) (by rw [e102]; exact Ar103.1) (State.isArrayOf_alike hZ.alike Ar103.2.1) Ar103.2.2 hin103 (Ah103.at hin103 rfl) (g := (mkF m 8 #[.val (.ref v1), .val (.int (0 : Int32))] [(.int (0 : Int32)), (.ref v1)])) rfl rfl (hb hby own_d7_8) _ ?_
    refine XS.sipush X102.here hx rfl (hb hby own_d7_9) ?_
    show Steps _ _ _ (T102.setTop (mkF m 12 #[.val (.ref v1), .val (.int (0 : Int32))] [(.int (255 : Int32)), (.int (60 : Int32))])) _
    refine XS.iand X102.here hx rfl (hb hby own_d7_12) rfl ?_
    refine XS.i2c X102.here hx rfl (hb hby own_d7_13) rfl ?_
    show Steps _ _ _ (T102.setTop (mkF m 14 #[.val (.ref v1), .val (.int (0 : Int32))] [(.int (60 : Int32))])) _
    exact retN X102 hx (t := .char) Bd.returns (by simp) (hb hby own_d7_14) hr
  · show Qown_lcaL0 Z v1 kc cs fv h0 n0 _ T102.heap _
    rw [e102]
    exact ⟨rfl, N102, rfl⟩
def Qown_caL0 (Z : State) (o1 v1 : Addr) (kc : ClassId) (cs : Int32) (fv : Value) (h0 : Heap) (n0 : Nat) (v : Option Value) (h : Heap) (L : List Loc) : Prop := v = some (.int (60 : Int32)) ∧ Fr n0 L ∧ h = h0
set_option maxRecDepth 65536 in
set_option maxHeartbeats 40000000 in
theorem own_caL0 (l : Launch) (Z : State) (a0 : Array Value) (hw : ∀ d ∈ tables_1, d.before a0 Z = true) (ws : List Jvm.Cond) (o1 v1 : Addr) (kc : ClassId) (cs : Int32) (fv : Value) (h0 : Heap) (n0 : Nat) (Z0 : n0 ≤ h0.size) (H : own_Str Z h0 o1 v1 kc (1 : Int32) [(.int (60 : Int32))]) (SC : Sta Z h0 "java/lang/String" "COMPACT_STRINGS" "Z" (.int cs)) (hcs : ¬ cs = (0 : Int32)) (SF : Sta Z h0 "jdk/internal/util/Preconditions" "SIOOBE_FORMATTER" "Ljava/util/function/BiFunction;" fv) (hfv : fv.isRef = true) :
    MetFree l own_m5 (head1 (Jvm.Cond.code own_m5 jdk_42_method_56_code 2 (some .char) :: ws) ({ frames := 3, cells := 0, slots := 0, locals := 40 } : Room)) (fun a U => a = #[(.ref o1), (.int (0 : Int32))] ∧ Z.Warmed39 U.vm ∧ U.heap = h0) (fun _ _ _ _ _ => True) (fun _ U o U' => ∃ v L, o = .returned v ∧ Qown_caL0 Z o1 v1 kc cs fv h0 n0 v U'.heap L ∧ FrameEnd U o U' L ({ frames := 3, cells := 0, slots := 0, locals := 40 } : Room).cells ({ frames := 3, cells := 0, slots := 0, locals := 40 } : Room).slots) := by
  refine MetFree.of_bodySF (plainFor_of_name own_pn0) hisR ?_
  intro p e s m args below meth c s₁ Bd hml0 hP hK
  obtain ⟨rfl, hZ, hh⟩ := hP
  have hx := Bd.exec
  have hby := Bd.bytes
  have hml : c.maxLocals = 2 := hml0
  have hown : s.vm.findClass "java/lang/String" = some m.cls := by have q := findClass_of_methodNamed Bd.named; exact q
  have hnm := (name_of_methodNamed Bd.named Bd.method).1
  have X0 : Stand p l e ({ frames := 3, cells := 0, slots := 0, locals := 40 } : Room) s m #[(.ref o1), (.int (0 : Int32))] below meth c s₁ [] 0 0 := Stand.of_body Bd
  have e0 : s₁.heap = h0 := by rw [← hh, Bd.state]; rfl
  have N0 := Fr.nil n0
  have pre0 : ∀ t, Steps p.tables e below (s₁.setTop (mkF m 0 #[.val (.ref o1), .val (.int (0 : Int32))] [])) t → Steps p.tables e below (s₁.setTop (entryFrame m #[(.ref o1), (.int (0 : Int32))] 2)) t := fun t k => castTop (by first | (simp [entryFrame, mkF, argsToLocals, Value.category, maxLocals]; done) | rfl) k
  obtain ⟨E1, Fv, Fc, Va⟩ := H
  obtain ⟨cq101, kq101, q101a, q101b, q101c⟩ := isOf hZ e0 E1
  obtain ⟨_, _, ⟨T101, L101, k101, n101⟩, -, X101, ⟨Lc101, hQ101, l101, y101, z101⟩, st101⟩ := X0.virtualBack hx (y := own_m1) (z := own_m1) hown (mvT hZ (own_w49 hw)) (mvT hZ (own_w50 hw)) (notFace_of_selects (args := #[]) (mvT hZ (own_w52 hw))) (mvT hZ (own_w52 hw)) (mvT hZ (own_w51 hw)) (by decide) (backOf (W := 0) (own_isLatin1 l Z a0 hw [] o1 cs h0 n0 Z0 SC hcs Fc) hZ (own_w53 hw) (own_w32 hw) (by decide) (by decide)) q101a q101c (g := (mkF m 1 #[.val (.ref o1), .val (.int (0 : Int32))] [(.ref o1)])) rfl (by rw [hml]; rfl) (Steps.refl _) (argsL := []) (rest := []) (lenOf own_pd2 rfl) rfl (by show 2 * 0 + _ ≤ _; exact Nat.le_of_eq rfl) (hb hby own_d5_1) (fun _ _ => ⟨rfl, e0, (by decide : 0 + 0 ≤ _), (by decide : 0 + 0 ≤ _)⟩)
  dsimp only [Pt.U, Pt.locs, Pt.cells, Pt.slots] at X101 l101 y101 z101 st101 hQ101
  subst l101 y101 z101
  obtain ⟨rfl, N101q, e101⟩ := hQ101
  have N101 := Fr.app N0 N101q
  obtain ⟨T102, X102, e102, st102⟩ := getF X101 hx hZ hown (host := "") (Or.inl (own_w34 hw)) Via.refl e101 Fv (g := (mkF m 8 #[.val (.ref o1), .val (.int (0 : Int32))] [(.ref o1)])) rfl rfl (hb hby own_d5_8)
  obtain ⟨_, _, ⟨T103, L103, k103, n103⟩, -, X103, ⟨Lc103, hQ103, l103, y103, z103⟩, st103⟩ := Jvm.LawKit.callS X102 hx (y := own_m4) hown (mvT hZ (own_w54 hw)) (mvT hZ (own_w55 hw)) (mvT hZ (own_w56 hw)) (mvT hZ (own_w57 hw)) (by decide) (backOf (W := 0) (own_lcaL0 l Z a0 hw [] v1 kc cs fv h0 n0 Z0 Va SC hcs SF hfv) hZ (own_w57 hw) (own_w56 hw) (by decide) (by decide)) (g := (mkF m 12 #[.val (.ref o1), .val (.int (0 : Int32))] [(.int (0 : Int32)), (.ref v1)])) rfl (by rw [hml]; rfl) (argsL := [(.ref v1), (.int (0 : Int32))]) (rest := []) (lenOf own_pd3 rfl) rfl (by show 2 * 0 + _ ≤ _; exact Nat.le_of_eq rfl) (hb hby own_d5_12) (fun _ _ => ⟨rfl, e102, (by decide : 0 + 0 ≤ _), (by decide : 0 + 0 ≤ _)⟩)
  dsimp only [Pt.U, Pt.locs, Pt.cells, Pt.slots] at X103 l103 y103 z103 st103 hQ103
  subst l103 y103 z103
  obtain ⟨rfl, N103q, e103⟩ := hQ103
  have N103 := Fr.app N101 N103q
  obtain ⟨fs, hr, hrun, hended, hW, hsame⟩ := X103.leave (v := some (.int (60 : Int32))) (fun h => by rw [Bd.returns] at h; cases h)
  refine ⟨_, _, pre0 _ ?_, hrun, hended, _, _, rfl, ?_, ⟨_, rfl⟩, hW, hsame.mono (by decide) (by decide)⟩
  · show Steps _ _ _ (s₁.setTop (mkF m 0 #[.val (.ref o1), .val (.int (0 : Int32))] [])) _
    refine XS.aloadN X0.here hx rfl (hb hby own_d5_0) rfl rfl ?_
    refine st101.trans ?_
    refine XS.ifNo X101.here hx rfl (hb hby own_d5_4) rfl ((if0 _ _).trans (feq (by decide : ¬ ((1 : Int32) = (0 : Int32)))).1) ?_
    refine XS.aloadN X101.here hx rfl (hb hby own_d5_7) rfl rfl ?_
    show Steps _ _ _ (T101.setTop (mkF m 8 #[.val (.ref o1), .val (.int (0 : Int32))] [(.ref o1)])) _
    refine st102 _ ?_
    refine XS.iloadN X102.here hx rfl (hb hby own_d5_11) rfl ?_
    refine st103 _ ?_
    show Steps _ _ _ (T103.setTop (mkF m 15 #[.val (.ref o1), .val (.int (0 : Int32))] [(.int (60 : Int32))])) _
    exact retN X103 hx (t := .char) Bd.returns (by simp) (hb hby own_d5_15) hr
  · show Qown_caL0 Z o1 v1 kc cs fv h0 n0 _ T103.heap _
    rw [e103]
    exact ⟨rfl, N103, rfl⟩
def Qown_lenL (Z : State) (o1 v1 : Addr) (kc : ClassId) (cs : Int32) (fv : Value) (h0 : Heap) (n0 : Nat) (v : Option Value) (h : Heap) (L : List Loc) : Prop := v = some (.int (1 : Int32)) ∧ Fr n0 L ∧ h = h0
set_option maxRecDepth 65536 in
set_option maxHeartbeats 40000000 in
theorem own_lenL (l : Launch) (Z : State) (a0 : Array Value) (hw : ∀ d ∈ tables_1, d.before a0 Z = true) (ws : List Jvm.Cond) (o1 v1 : Addr) (kc : ClassId) (cs : Int32) (fv : Value) (h0 : Heap) (n0 : Nat) (Z0 : n0 ≤ h0.size) (H : own_Str Z h0 o1 v1 kc (1 : Int32) [(.int (60 : Int32))]) (SC : Sta Z h0 "java/lang/String" "COMPACT_STRINGS" "Z" (.int cs)) (hcs : ¬ cs = (0 : Int32)) (SF : Sta Z h0 "jdk/internal/util/Preconditions" "SIOOBE_FORMATTER" "Ljava/util/function/BiFunction;" fv) (hfv : fv.isRef = true) :
    MetFree l own_m6 (head1 (Jvm.Cond.code own_m6 jdk_42_method_54_code 1 (some .int) :: ws) ({ frames := 1, cells := 0, slots := 0, locals := 13 } : Room)) (fun a U => a = #[(.ref o1)] ∧ Z.Warmed39 U.vm ∧ U.heap = h0) (fun _ _ _ _ _ => True) (fun _ U o U' => ∃ v L, o = .returned v ∧ Qown_lenL Z o1 v1 kc cs fv h0 n0 v U'.heap L ∧ FrameEnd U o U' L ({ frames := 1, cells := 0, slots := 0, locals := 13 } : Room).cells ({ frames := 1, cells := 0, slots := 0, locals := 13 } : Room).slots) := by
  refine MetFree.of_bodySF (plainFor_of_name own_pn0) hisR ?_
  intro p e s m args below meth c s₁ Bd hml0 hP hK
  obtain ⟨rfl, hZ, hh⟩ := hP
  have hx := Bd.exec
  have hby := Bd.bytes
  have hml : c.maxLocals = 1 := hml0
  have hown : s.vm.findClass "java/lang/String" = some m.cls := by have q := findClass_of_methodNamed Bd.named; exact q
  have hnm := (name_of_methodNamed Bd.named Bd.method).1
  have X0 : Stand p l e ({ frames := 1, cells := 0, slots := 0, locals := 13 } : Room) s m #[(.ref o1)] below meth c s₁ [] 0 0 := Stand.of_body Bd
  have e0 : s₁.heap = h0 := by rw [← hh, Bd.state]; rfl
  have N0 := Fr.nil n0
  have pre0 : ∀ t, Steps p.tables e below (s₁.setTop (mkF m 0 #[.val (.ref o1)] [])) t → Steps p.tables e below (s₁.setTop (entryFrame m #[(.ref o1)] 1)) t := fun t k => castTop (by first | (simp [entryFrame, mkF, argsToLocals, Value.category, maxLocals]; done) | rfl) k
  obtain ⟨E1, Fv, Fc, Va⟩ := H
  obtain ⟨T101, X101, e101, st101⟩ := getF X0 hx hZ hown (host := "") (Or.inl (own_w34 hw)) Via.refl e0 Fv (g := (mkF m 1 #[.val (.ref o1)] [(.ref o1)])) rfl rfl (hb hby own_d3_1)
  obtain ⟨cl102, Ar102, Aq102, As102, An102, Ah102, Ag102⟩ := id Va
  obtain ⟨cq103, kq103, q103a, q103b, q103c⟩ := isOf hZ e101 E1
  obtain ⟨_, _, ⟨T103, L103, k103, n103⟩, -, X103, ⟨Lc103, hQ103, l103, y103, z103⟩, st103⟩ := X101.virtualBack hx (y := own_m0) (z := own_m0) hown (mvT hZ (own_w36 hw)) (mvT hZ (own_w37 hw)) (notFace_of_selects (args := #[]) (mvT hZ (own_w39 hw))) (mvT hZ (own_w39 hw)) (mvT hZ (own_w38 hw)) (by decide) (backOf (W := 1) (own_coder l Z a0 hw [] o1 cs h0 n0 Z0 SC hcs Fc) hZ (own_w40 hw) (own_w32 hw) (by decide) (by decide)) q103a q103c (g := (mkF m 6 #[.val (.ref o1)] [(.ref o1), (.int (1 : Int32))])) rfl (by rw [hml]; rfl) (Steps.refl _) (argsL := []) (rest := [(.int (1 : Int32))]) (lenOf own_pd4 rfl) rfl (by show 2 * 0 + _ ≤ _; exact Nat.le_of_eq rfl) (hb hby own_d3_6) (fun _ _ => ⟨rfl, e101, (by decide : 0 + 0 ≤ _), (by decide : 0 + 0 ≤ _)⟩)
  dsimp only [Pt.U, Pt.locs, Pt.cells, Pt.slots] at X103 l103 y103 z103 st103 hQ103
  subst l103 y103 z103
  obtain ⟨rfl, N103q, e103⟩ := hQ103
  have N103 := Fr.app N0 N103q
  obtain ⟨fs, hr, hrun, hended, hW, hsame⟩ := X103.leave (v := some (.int (1 : Int32))) (fun h => by rw [Bd.returns] at h; cases h)
  refine ⟨_, _, pre0 _ ?_, hrun, hended, _, _, rfl, ?_, ⟨_, rfl⟩, hW, hsame.mono (by decide) (by decide)⟩
  · show Steps _ _ _ (s₁.setTop (mkF m 0 #[.val (.ref o1)] [])) _
    refine XS.aloadN X0.here hx rfl (hb hby own_d3_0) rfl rfl ?_
    refine st101 _ ?_
    refine X101.arraylength hx (by rw [e101]; exact Ar102.1) (State.isArrayOf_alike hZ.alike Ar102.2.1) (g := (mkF m 4 #[.val (.ref o1)] [(.ref v1)])) rfl rfl (hb hby own_d3_4) _ ?_
    rw [len_of As102 An102]
    refine XS.aloadN X101.here hx rfl (hb hby own_d3_5) rfl rfl ?_
    show Steps _ _ _ (T101.setTop (mkF m 6 #[.val (.ref o1)] [(.ref o1), (.int (1 : Int32))])) _
    refine st103.trans ?_
    refine XS.ishr X103.here hx rfl (hb hby own_d3_9) rfl ?_
    show Steps _ _ _ (T103.setTop (mkF m 10 #[.val (.ref o1)] [(.int (1 : Int32))])) _
    exact retI X103 hx Bd.returns (hb hby own_d3_10) hr
  · show Qown_lenL Z o1 v1 kc cs fv h0 n0 _ T103.heap _
    rw [e103]
    exact ⟨rfl, N103, rfl⟩
def Qown_lcaG0 (Z : State) (v1 : Addr) (kc : ClassId) (cs : Int32) (fv : Value) (h0 : Heap) (n0 : Nat) (v : Option Value) (h : Heap) (L : List Loc) : Prop := v = some (.int (62 : Int32)) ∧ Fr n0 L ∧ h = h0
set_option maxRecDepth 65536 in
set_option maxHeartbeats 40000000 in
theorem own_lcaG0 (l : Launch) (Z : State) (a0 : Array Value) (hw : ∀ d ∈ tables_1, d.before a0 Z = true) (ws : List Jvm.Cond) (v1 : Addr) (kc : ClassId) (cs : Int32) (fv : Value) (h0 : Heap) (n0 : Nat) (Z0 : n0 ≤ h0.size) (Va : Arv Z h0 v1 kc .byte (1 : Int32) [(.int (62 : Int32))] (.int (0 : Int32))) (SC : Sta Z h0 "java/lang/String" "COMPACT_STRINGS" "Z" (.int cs)) (hcs : ¬ cs = (0 : Int32)) (SF : Sta Z h0 "jdk/internal/util/Preconditions" "SIOOBE_FORMATTER" "Ljava/util/function/BiFunction;" fv) (hfv : fv.isRef = true) :
    MetFree l own_m4 (head1 (Jvm.Cond.code own_m4 jdk_43_method_2_code 2 (some .char) :: ws) ({ frames := 2, cells := 0, slots := 0, locals := 27 } : Room)) (fun a U => a = #[(.ref v1), (.int (0 : Int32))] ∧ Z.Warmed39 U.vm ∧ U.heap = h0) (fun _ _ _ _ _ => True) (fun _ U o U' => ∃ v L, o = .returned v ∧ Qown_lcaG0 Z v1 kc cs fv h0 n0 v U'.heap L ∧ FrameEnd U o U' L ({ frames := 2, cells := 0, slots := 0, locals := 27 } : Room).cells ({ frames := 2, cells := 0, slots := 0, locals := 27 } : Room).slots) := by
  refine MetFree.of_bodySF (plainFor_of_name own_pn2) hisR ?_
  intro p e s m args below meth c s₁ Bd hml0 hP hK
  obtain ⟨rfl, hZ, hh⟩ := hP
  have hx := Bd.exec
  have hby := Bd.bytes
  have hml : c.maxLocals = 2 := hml0
  have hown : s.vm.findClass "java/lang/StringLatin1" = some m.cls := by have q := findClass_of_methodNamed Bd.named; exact q
  have hnm := (name_of_methodNamed Bd.named Bd.method).1
  have X0 : Stand p l e ({ frames := 2, cells := 0, slots := 0, locals := 27 } : Room) s m #[(.ref v1), (.int (0 : Int32))] below meth c s₁ [] 0 0 := Stand.of_body Bd
  have e0 : s₁.heap = h0 := by rw [← hh, Bd.state]; rfl
  have N0 := Fr.nil n0
  have pre0 : ∀ t, Steps p.tables e below (s₁.setTop (mkF m 0 #[.val (.ref v1), .val (.int (0 : Int32))] [])) t → Steps p.tables e below (s₁.setTop (entryFrame m #[(.ref v1), (.int (0 : Int32))] 2)) t := fun t k => castTop (by first | (simp [entryFrame, mkF, argsToLocals, Value.category, maxLocals]; done) | rfl) k
  obtain ⟨cl101, Ar101, Aq101, As101, An101, Ah101, Ag101⟩ := id Va
  obtain ⟨_, _, ⟨T102, L102, k102, n102⟩, -, X102, ⟨Lc102, hQ102, l102, y102, z102⟩, st102⟩ := Jvm.LawKit.callS X0 hx (y := own_m3) hown (mvT hZ (own_w58 hw)) (mvT hZ (own_w59 hw)) (mvT hZ (own_w32 hw)) (mvT hZ (own_w60 hw)) (by decide) (backOf (W := 0) (own_sci01 l Z a0 hw [] cs fv h0 n0 Z0 SC hcs SF hfv) hZ (own_w60 hw) (own_w32 hw) (by decide) (by decide)) (g := (mkF m 3 #[.val (.ref v1), .val (.int (0 : Int32))] [(.int (1 : Int32)), (.int (0 : Int32))])) rfl (by rw [hml]; rfl) (argsL := [(.int (0 : Int32)), (.int (1 : Int32))]) (rest := []) (lenOf own_pd1 rfl) rfl (by show 2 * 0 + _ ≤ _; exact Nat.le_of_eq rfl) (hb hby own_d7_3) (fun _ _ => ⟨rfl, e0, (by decide : 0 + 0 ≤ _), (by decide : 0 + 0 ≤ _)⟩)
  dsimp only [Pt.U, Pt.locs, Pt.cells, Pt.slots] at X102 l102 y102 z102 st102 hQ102
  subst l102 y102 z102
  obtain ⟨rfl, N102q, e102⟩ := hQ102
  have N102 := Fr.app N0 N102q
  obtain ⟨cl103, Ar103, Aq103, As103, An103, Ah103, Ag103⟩ := id Va
  have hin103 : ¬ ((0 : Int32) < 0 ∨ cl103.slots.size ≤ ((0 : Int32)).toNatClampNeg) := inb_of As103 ⟨by decide, by decide⟩
  obtain ⟨fs, hr, hrun, hended, hW, hsame⟩ := X102.leave (v := some (.int (62 : Int32))) (fun h => by rw [Bd.returns] at h; cases h)
  refine ⟨_, _, pre0 _ ?_, hrun, hended, _, _, rfl, ?_, ⟨_, rfl⟩, hW, hsame.mono (by decide) (by decide)⟩
  · show Steps _ _ _ (s₁.setTop (mkF m 0 #[.val (.ref v1), .val (.int (0 : Int32))] [])) _
    refine XS.iloadN X0.here hx rfl (hb hby own_d7_0) rfl ?_
    refine XS.aloadN X0.here hx rfl (hb hby own_d7_1) rfl rfl ?_
    refine X0.arraylength hx (by rw [e0]; exact Ar101.1) (State.isArrayOf_alike hZ.alike Ar101.2.1) (g := (mkF m 2 #[.val (.ref v1), .val (.int (0 : Int32))] [(.ref v1), (.int (0 : Int32))])) rfl rfl (hb hby own_d7_2) _ ?_
    rw [len_of As101 An101]
    refine st102 _ ?_
    show Steps _ _ _ (T102.setTop (mkF m 6 #[.val (.ref v1), .val (.int (0 : Int32))] [])) _
    refine XS.aloadN X102.here hx rfl (hb hby own_d7_6) rfl rfl ?_
    refine XS.iloadN X102.here hx rfl (hb hby own_d7_7) rfl ?_
    refine X102.baloadBytes hx (j := (0 : Int32)) (v := (.int (62 : Int32))) (by rw [e102]; exact Ar103.1) (State.isArrayOf_alike hZ.alike Ar103.2.1) Ar103.2.2 hin103 (Ah103.at hin103 rfl) (g := (mkF m 8 #[.val (.ref v1), .val (.int (0 : Int32))] [(.int (0 : Int32)), (.ref v1)])) rfl rfl (hb hby own_d7_8) _ ?_
    refine XS.sipush X102.here hx rfl (hb hby own_d7_9) ?_
    show Steps _ _ _ (T102.setTop (mkF m 12 #[.val (.ref v1), .val (.int (0 : Int32))] [(.int (255 : Int32)), (.int (62 : Int32))])) _
    refine XS.iand X102.here hx rfl (hb hby own_d7_12) rfl ?_
    refine XS.i2c X102.here hx rfl (hb hby own_d7_13) rfl ?_
    show Steps _ _ _ (T102.setTop (mkF m 14 #[.val (.ref v1), .val (.int (0 : Int32))] [(.int (62 : Int32))])) _
    exact retN X102 hx (t := .char) Bd.returns (by simp) (hb hby own_d7_14) hr
  · show Qown_lcaG0 Z v1 kc cs fv h0 n0 _ T102.heap _
    rw [e102]
    exact ⟨rfl, N102, rfl⟩
def Qown_caG0 (Z : State) (o1 v1 : Addr) (kc : ClassId) (cs : Int32) (fv : Value) (h0 : Heap) (n0 : Nat) (v : Option Value) (h : Heap) (L : List Loc) : Prop := v = some (.int (62 : Int32)) ∧ Fr n0 L ∧ h = h0
set_option maxRecDepth 65536 in
set_option maxHeartbeats 40000000 in
theorem own_caG0 (l : Launch) (Z : State) (a0 : Array Value) (hw : ∀ d ∈ tables_1, d.before a0 Z = true) (ws : List Jvm.Cond) (o1 v1 : Addr) (kc : ClassId) (cs : Int32) (fv : Value) (h0 : Heap) (n0 : Nat) (Z0 : n0 ≤ h0.size) (H : own_Str Z h0 o1 v1 kc (1 : Int32) [(.int (62 : Int32))]) (SC : Sta Z h0 "java/lang/String" "COMPACT_STRINGS" "Z" (.int cs)) (hcs : ¬ cs = (0 : Int32)) (SF : Sta Z h0 "jdk/internal/util/Preconditions" "SIOOBE_FORMATTER" "Ljava/util/function/BiFunction;" fv) (hfv : fv.isRef = true) :
    MetFree l own_m5 (head1 (Jvm.Cond.code own_m5 jdk_42_method_56_code 2 (some .char) :: ws) ({ frames := 3, cells := 0, slots := 0, locals := 40 } : Room)) (fun a U => a = #[(.ref o1), (.int (0 : Int32))] ∧ Z.Warmed39 U.vm ∧ U.heap = h0) (fun _ _ _ _ _ => True) (fun _ U o U' => ∃ v L, o = .returned v ∧ Qown_caG0 Z o1 v1 kc cs fv h0 n0 v U'.heap L ∧ FrameEnd U o U' L ({ frames := 3, cells := 0, slots := 0, locals := 40 } : Room).cells ({ frames := 3, cells := 0, slots := 0, locals := 40 } : Room).slots) := by
  refine MetFree.of_bodySF (plainFor_of_name own_pn0) hisR ?_
  intro p e s m args below meth c s₁ Bd hml0 hP hK
  obtain ⟨rfl, hZ, hh⟩ := hP
  have hx := Bd.exec
  have hby := Bd.bytes
  have hml : c.maxLocals = 2 := hml0
  have hown : s.vm.findClass "java/lang/String" = some m.cls := by have q := findClass_of_methodNamed Bd.named; exact q
  have hnm := (name_of_methodNamed Bd.named Bd.method).1
  have X0 : Stand p l e ({ frames := 3, cells := 0, slots := 0, locals := 40 } : Room) s m #[(.ref o1), (.int (0 : Int32))] below meth c s₁ [] 0 0 := Stand.of_body Bd
  have e0 : s₁.heap = h0 := by rw [← hh, Bd.state]; rfl
  have N0 := Fr.nil n0
  have pre0 : ∀ t, Steps p.tables e below (s₁.setTop (mkF m 0 #[.val (.ref o1), .val (.int (0 : Int32))] [])) t → Steps p.tables e below (s₁.setTop (entryFrame m #[(.ref o1), (.int (0 : Int32))] 2)) t := fun t k => castTop (by first | (simp [entryFrame, mkF, argsToLocals, Value.category, maxLocals]; done) | rfl) k
  obtain ⟨E1, Fv, Fc, Va⟩ := H
  obtain ⟨cq101, kq101, q101a, q101b, q101c⟩ := isOf hZ e0 E1
  obtain ⟨_, _, ⟨T101, L101, k101, n101⟩, -, X101, ⟨Lc101, hQ101, l101, y101, z101⟩, st101⟩ := X0.virtualBack hx (y := own_m1) (z := own_m1) hown (mvT hZ (own_w49 hw)) (mvT hZ (own_w50 hw)) (notFace_of_selects (args := #[]) (mvT hZ (own_w52 hw))) (mvT hZ (own_w52 hw)) (mvT hZ (own_w51 hw)) (by decide) (backOf (W := 0) (own_isLatin1 l Z a0 hw [] o1 cs h0 n0 Z0 SC hcs Fc) hZ (own_w53 hw) (own_w32 hw) (by decide) (by decide)) q101a q101c (g := (mkF m 1 #[.val (.ref o1), .val (.int (0 : Int32))] [(.ref o1)])) rfl (by rw [hml]; rfl) (Steps.refl _) (argsL := []) (rest := []) (lenOf own_pd2 rfl) rfl (by show 2 * 0 + _ ≤ _; exact Nat.le_of_eq rfl) (hb hby own_d5_1) (fun _ _ => ⟨rfl, e0, (by decide : 0 + 0 ≤ _), (by decide : 0 + 0 ≤ _)⟩)
  dsimp only [Pt.U, Pt.locs, Pt.cells, Pt.slots] at X101 l101 y101 z101 st101 hQ101
  subst l101 y101 z101
  obtain ⟨rfl, N101q, e101⟩ := hQ101
  have N101 := Fr.app N0 N101q
  obtain ⟨T102, X102, e102, st102⟩ := getF X101 hx hZ hown (host := "") (Or.inl (own_w34 hw)) Via.refl e101 Fv (g := (mkF m 8 #[.val (.ref o1), .val (.int (0 : Int32))] [(.ref o1)])) rfl rfl (hb hby own_d5_8)
  obtain ⟨_, _, ⟨T103, L103, k103, n103⟩, -, X103, ⟨Lc103, hQ103, l103, y103, z103⟩, st103⟩ := Jvm.LawKit.callS X102 hx (y := own_m4) hown (mvT hZ (own_w54 hw)) (mvT hZ (own_w55 hw)) (mvT hZ (own_w56 hw)) (mvT hZ (own_w57 hw)) (by decide) (backOf (W := 0) (own_lcaG0 l Z a0 hw [] v1 kc cs fv h0 n0 Z0 Va SC hcs SF hfv) hZ (own_w57 hw) (own_w56 hw) (by decide) (by decide)) (g := (mkF m 12 #[.val (.ref o1), .val (.int (0 : Int32))] [(.int (0 : Int32)), (.ref v1)])) rfl (by rw [hml]; rfl) (argsL := [(.ref v1), (.int (0 : Int32))]) (rest := []) (lenOf own_pd3 rfl) rfl (by show 2 * 0 + _ ≤ _; exact Nat.le_of_eq rfl) (hb hby own_d5_12) (fun _ _ => ⟨rfl, e102, (by decide : 0 + 0 ≤ _), (by decide : 0 + 0 ≤ _)⟩)
  dsimp only [Pt.U, Pt.locs, Pt.cells, Pt.slots] at X103 l103 y103 z103 st103 hQ103
  subst l103 y103 z103
  obtain ⟨rfl, N103q, e103⟩ := hQ103
  have N103 := Fr.app N101 N103q
  obtain ⟨fs, hr, hrun, hended, hW, hsame⟩ := X103.leave (v := some (.int (62 : Int32))) (fun h => by rw [Bd.returns] at h; cases h)
  refine ⟨_, _, pre0 _ ?_, hrun, hended, _, _, rfl, ?_, ⟨_, rfl⟩, hW, hsame.mono (by decide) (by decide)⟩
  · show Steps _ _ _ (s₁.setTop (mkF m 0 #[.val (.ref o1), .val (.int (0 : Int32))] [])) _
    refine XS.aloadN X0.here hx rfl (hb hby own_d5_0) rfl rfl ?_
    refine st101.trans ?_
    refine XS.ifNo X101.here hx rfl (hb hby own_d5_4) rfl ((if0 _ _).trans (feq (by decide : ¬ ((1 : Int32) = (0 : Int32)))).1) ?_
    refine XS.aloadN X101.here hx rfl (hb hby own_d5_7) rfl rfl ?_
    show Steps _ _ _ (T101.setTop (mkF m 8 #[.val (.ref o1), .val (.int (0 : Int32))] [(.ref o1)])) _
    refine st102 _ ?_
    refine XS.iloadN X102.here hx rfl (hb hby own_d5_11) rfl ?_
    refine st103 _ ?_
    show Steps _ _ _ (T103.setTop (mkF m 15 #[.val (.ref o1), .val (.int (0 : Int32))] [(.int (62 : Int32))])) _
    exact retN X103 hx (t := .char) Bd.returns (by simp) (hb hby own_d5_15) hr
  · show Qown_caG0 Z o1 v1 kc cs fv h0 n0 _ T103.heap _
    rw [e103]
    exact ⟨rfl, N103, rfl⟩
def Qown_lenG (Z : State) (o1 v1 : Addr) (kc : ClassId) (cs : Int32) (fv : Value) (h0 : Heap) (n0 : Nat) (v : Option Value) (h : Heap) (L : List Loc) : Prop := v = some (.int (1 : Int32)) ∧ Fr n0 L ∧ h = h0
set_option maxRecDepth 65536 in
set_option maxHeartbeats 40000000 in
theorem own_lenG (l : Launch) (Z : State) (a0 : Array Value) (hw : ∀ d ∈ tables_1, d.before a0 Z = true) (ws : List Jvm.Cond) (o1 v1 : Addr) (kc : ClassId) (cs : Int32) (fv : Value) (h0 : Heap) (n0 : Nat) (Z0 : n0 ≤ h0.size) (H : own_Str Z h0 o1 v1 kc (1 : Int32) [(.int (62 : Int32))]) (SC : Sta Z h0 "java/lang/String" "COMPACT_STRINGS" "Z" (.int cs)) (hcs : ¬ cs = (0 : Int32)) (SF : Sta Z h0 "jdk/internal/util/Preconditions" "SIOOBE_FORMATTER" "Ljava/util/function/BiFunction;" fv) (hfv : fv.isRef = true) :
    MetFree l own_m6 (head1 (Jvm.Cond.code own_m6 jdk_42_method_54_code 1 (some .int) :: ws) ({ frames := 1, cells := 0, slots := 0, locals := 13 } : Room)) (fun a U => a = #[(.ref o1)] ∧ Z.Warmed39 U.vm ∧ U.heap = h0) (fun _ _ _ _ _ => True) (fun _ U o U' => ∃ v L, o = .returned v ∧ Qown_lenG Z o1 v1 kc cs fv h0 n0 v U'.heap L ∧ FrameEnd U o U' L ({ frames := 1, cells := 0, slots := 0, locals := 13 } : Room).cells ({ frames := 1, cells := 0, slots := 0, locals := 13 } : Room).slots) := by
  refine MetFree.of_bodySF (plainFor_of_name own_pn0) hisR ?_
  intro p e s m args below meth c s₁ Bd hml0 hP hK
  obtain ⟨rfl, hZ, hh⟩ := hP
  have hx := Bd.exec
  have hby := Bd.bytes
  have hml : c.maxLocals = 1 := hml0
  have hown : s.vm.findClass "java/lang/String" = some m.cls := by have q := findClass_of_methodNamed Bd.named; exact q
  have hnm := (name_of_methodNamed Bd.named Bd.method).1
  have X0 : Stand p l e ({ frames := 1, cells := 0, slots := 0, locals := 13 } : Room) s m #[(.ref o1)] below meth c s₁ [] 0 0 := Stand.of_body Bd
  have e0 : s₁.heap = h0 := by rw [← hh, Bd.state]; rfl
  have N0 := Fr.nil n0
  have pre0 : ∀ t, Steps p.tables e below (s₁.setTop (mkF m 0 #[.val (.ref o1)] [])) t → Steps p.tables e below (s₁.setTop (entryFrame m #[(.ref o1)] 1)) t := fun t k => castTop (by first | (simp [entryFrame, mkF, argsToLocals, Value.category, maxLocals]; done) | rfl) k
  obtain ⟨E1, Fv, Fc, Va⟩ := H
  obtain ⟨T101, X101, e101, st101⟩ := getF X0 hx hZ hown (host := "") (Or.inl (own_w34 hw)) Via.refl e0 Fv (g := (mkF m 1 #[.val (.ref o1)] [(.ref o1)])) rfl rfl (hb hby own_d3_1)
  obtain ⟨cl102, Ar102, Aq102, As102, An102, Ah102, Ag102⟩ := id Va
  obtain ⟨cq103, kq103, q103a, q103b, q103c⟩ := isOf hZ e101 E1
  obtain ⟨_, _, ⟨T103, L103, k103, n103⟩, -, X103, ⟨Lc103, hQ103, l103, y103, z103⟩, st103⟩ := X101.virtualBack hx (y := own_m0) (z := own_m0) hown (mvT hZ (own_w36 hw)) (mvT hZ (own_w37 hw)) (notFace_of_selects (args := #[]) (mvT hZ (own_w39 hw))) (mvT hZ (own_w39 hw)) (mvT hZ (own_w38 hw)) (by decide) (backOf (W := 1) (own_coder l Z a0 hw [] o1 cs h0 n0 Z0 SC hcs Fc) hZ (own_w40 hw) (own_w32 hw) (by decide) (by decide)) q103a q103c (g := (mkF m 6 #[.val (.ref o1)] [(.ref o1), (.int (1 : Int32))])) rfl (by rw [hml]; rfl) (Steps.refl _) (argsL := []) (rest := [(.int (1 : Int32))]) (lenOf own_pd4 rfl) rfl (by show 2 * 0 + _ ≤ _; exact Nat.le_of_eq rfl) (hb hby own_d3_6) (fun _ _ => ⟨rfl, e101, (by decide : 0 + 0 ≤ _), (by decide : 0 + 0 ≤ _)⟩)
  dsimp only [Pt.U, Pt.locs, Pt.cells, Pt.slots] at X103 l103 y103 z103 st103 hQ103
  subst l103 y103 z103
  obtain ⟨rfl, N103q, e103⟩ := hQ103
  have N103 := Fr.app N0 N103q
  obtain ⟨fs, hr, hrun, hended, hW, hsame⟩ := X103.leave (v := some (.int (1 : Int32))) (fun h => by rw [Bd.returns] at h; cases h)
  refine ⟨_, _, pre0 _ ?_, hrun, hended, _, _, rfl, ?_, ⟨_, rfl⟩, hW, hsame.mono (by decide) (by decide)⟩
  · show Steps _ _ _ (s₁.setTop (mkF m 0 #[.val (.ref o1)] [])) _
    refine XS.aloadN X0.here hx rfl (hb hby own_d3_0) rfl rfl ?_
    refine st101 _ ?_
    refine X101.arraylength hx (by rw [e101]; exact Ar102.1) (State.isArrayOf_alike hZ.alike Ar102.2.1) (g := (mkF m 4 #[.val (.ref o1)] [(.ref v1)])) rfl rfl (hb hby own_d3_4) _ ?_
    rw [len_of As102 An102]
    refine XS.aloadN X101.here hx rfl (hb hby own_d3_5) rfl rfl ?_
    show Steps _ _ _ (T101.setTop (mkF m 6 #[.val (.ref o1)] [(.ref o1), (.int (1 : Int32))])) _
    refine st103.trans ?_
    refine XS.ishr X103.here hx rfl (hb hby own_d3_9) rfl ?_
    show Steps _ _ _ (T103.setTop (mkF m 10 #[.val (.ref o1)] [(.int (1 : Int32))])) _
    exact retI X103 hx Bd.returns (hb hby own_d3_10) hr
  · show Qown_lenG Z o1 v1 kc cs fv h0 n0 _ T103.heap _
    rw [e103]
    exact ⟨rfl, N103, rfl⟩
def Qown_hasNEL (Z : State) (o1 v1 : Addr) (kc : ClassId) (cs : Int32) (fv : Value) (h0 : Heap) (n0 : Nat) (v : Option Value) (h : Heap) (L : List Loc) : Prop := v = some (.int (0 : Int32)) ∧ Fr n0 L ∧ h = h0
set_option maxRecDepth 65536 in
set_option maxHeartbeats 40000000 in
theorem own_hasNEL (l : Launch) (Z : State) (a0 : Array Value) (hw : ∀ d ∈ tables_1, d.before a0 Z = true) (ws : List Jvm.Cond) (o1 v1 : Addr) (kc : ClassId) (cs : Int32) (fv : Value) (h0 : Heap) (n0 : Nat) (Z0 : n0 ≤ h0.size) (H : own_Str Z h0 o1 v1 kc (2 : Int32) [(.int (33 : Int32)), (.int (61 : Int32))]) (SC : Sta Z h0 "java/lang/String" "COMPACT_STRINGS" "Z" (.int cs)) (hcs : ¬ cs = (0 : Int32)) (SF : Sta Z h0 "jdk/internal/util/Preconditions" "SIOOBE_FORMATTER" "Ljava/util/function/BiFunction;" fv) (hfv : fv.isRef = true) :
    MetFree l own_m7 (head1 (Jvm.Cond.code own_m7 method_2_code 4 (some .boolean) :: ws) ({ frames := 4, cells := 0, slots := 0, locals := 53 } : Room)) (fun a U => a = #[(.ref o1), (.int (60 : Int32))] ∧ Z.Warmed39 U.vm ∧ U.heap = h0) (fun _ _ _ _ _ => True) (fun _ U o U' => ∃ v L, o = .returned v ∧ Qown_hasNEL Z o1 v1 kc cs fv h0 n0 v U'.heap L ∧ FrameEnd U o U' L ({ frames := 4, cells := 0, slots := 0, locals := 53 } : Room).cells ({ frames := 4, cells := 0, slots := 0, locals := 53 } : Room).slots) := by
  refine MetFree.of_bodySF (plainFor_of_name own_pn3) hisR ?_
  intro p e s m args below meth c s₁ Bd hml0 hP hK
  obtain ⟨rfl, hZ, hh⟩ := hP
  have hx := Bd.exec
  have hby := Bd.bytes
  have hml : c.maxLocals = 4 := hml0
  have hown : s.vm.findClass "com/example/dirwarden/dirwarden/aci/ComparisonHoldsPinLaw" = some m.cls := by have q := findClass_of_methodNamed Bd.named; exact q
  have hnm := (name_of_methodNamed Bd.named Bd.method).1
  have X0 : Stand p l e ({ frames := 4, cells := 0, slots := 0, locals := 53 } : Room) s m #[(.ref o1), (.int (60 : Int32))] below meth c s₁ [] 0 0 := Stand.of_body Bd
  have e0 : s₁.heap = h0 := by rw [← hh, Bd.state]; rfl
  have N0 := Fr.nil n0
  have pre0 : ∀ t, Steps p.tables e below (s₁.setTop (mkF m 0 #[.val (.ref o1), .val (.int (60 : Int32)), .unset, .unset] [])) t → Steps p.tables e below (s₁.setTop (entryFrame m #[(.ref o1), (.int (60 : Int32))] 4)) t := fun t k => castTop (by first | (simp [entryFrame, mkF, argsToLocals, Value.category, maxLocals]; done) | rfl) k
  obtain ⟨cq101, kq101, q101a, q101b, q101c⟩ := isOf hZ e0 H.1
  obtain ⟨_, _, ⟨T101, L101, k101, n101⟩, -, X101, ⟨Lc101, hQ101, l101, y101, z101⟩, st101⟩ := X0.virtualBack hx (y := own_m6) (z := own_m6) hown (mvT hZ (own_w28 hw)) (mvT hZ (own_w29 hw)) (notFace_of_selects (args := #[]) (mvT hZ (own_w31 hw))) (mvT hZ (own_w31 hw)) (mvT hZ (own_w30 hw)) (by decide) (backOf (W := 0) (own_lenNE l Z a0 hw [] o1 v1 kc cs fv h0 n0 Z0 H SC hcs SF hfv) hZ (own_w33 hw) (own_w32 hw) (by decide) (by decide)) q101a q101c (g := (mkF m 1 #[.val (.ref o1), .val (.int (60 : Int32)), .unset, .unset] [(.ref o1)])) rfl (by rw [hml]; rfl) (Steps.refl _) (argsL := []) (rest := []) (lenOf own_pd5 rfl) rfl (by show 2 * 0 + _ ≤ _; exact Nat.le_of_eq rfl) (hb hby own_d2_1) (fun _ _ => ⟨rfl, e0, (by decide : 0 + 0 ≤ _), (by decide : 0 + 0 ≤ _)⟩)
  dsimp only [Pt.U, Pt.locs, Pt.cells, Pt.slots] at X101 l101 y101 z101 st101 hQ101
  subst l101 y101 z101
  obtain ⟨rfl, N101q, e101⟩ := hQ101
  have N101 := Fr.app N0 N101q
  obtain ⟨cq102, kq102, q102a, q102b, q102c⟩ := isOf hZ e101 H.1
  obtain ⟨_, _, ⟨T102, L102, k102, n102⟩, -, X102, ⟨Lc102, hQ102, l102, y102, z102⟩, st102⟩ := X101.virtualBack hx (y := own_m5) (z := own_m5) hown (mvT hZ (own_w44 hw)) (mvT hZ (own_w45 hw)) (notFace_of_selects (args := #[]) (mvT hZ (own_w47 hw))) (mvT hZ (own_w47 hw)) (mvT hZ (own_w46 hw)) (by decide) (backOf (W := 0) (own_caNE0 l Z a0 hw [] o1 v1 kc cs fv h0 n0 Z0 H SC hcs SF hfv) hZ (own_w48 hw) (own_w32 hw) (by decide) (by decide)) q102a q102c (g := (mkF m 10 #[.val (.ref o1), .val (.int (60 : Int32)), .unset, .unset] [(.int (0 : Int32)), (.ref o1)])) rfl (by rw [hml]; rfl) (Steps.refl _) (argsL := [(.int (0 : Int32))]) (rest := []) (lenOf own_pd6 rfl) rfl (by show 2 * 0 + _ ≤ _; exact Nat.le_of_eq rfl) (hb hby own_d2_10) (fun _ _ => ⟨rfl, e101, (by decide : 0 + 0 ≤ _), (by decide : 0 + 0 ≤ _)⟩)
  dsimp only [Pt.U, Pt.locs, Pt.cells, Pt.slots] at X102 l102 y102 z102 st102 hQ102
  subst l102 y102 z102
  obtain ⟨rfl, N102q, e102⟩ := hQ102
  have N102 := Fr.app N101 N102q
  obtain ⟨cq103, kq103, q103a, q103b, q103c⟩ := isOf hZ e102 H.1
  obtain ⟨_, _, ⟨T103, L103, k103, n103⟩, -, X103, ⟨Lc103, hQ103, l103, y103, z103⟩, st103⟩ := X102.virtualBack hx (y := own_m6) (z := own_m6) hown (mvT hZ (own_w28 hw)) (mvT hZ (own_w29 hw)) (notFace_of_selects (args := #[]) (mvT hZ (own_w31 hw))) (mvT hZ (own_w31 hw)) (mvT hZ (own_w30 hw)) (by decide) (backOf (W := 0) (own_lenNE l Z a0 hw [] o1 v1 kc cs fv h0 n0 Z0 H SC hcs SF hfv) hZ (own_w33 hw) (own_w32 hw) (by decide) (by decide)) q103a q103c (g := (mkF m 24 #[.val (.ref o1), .val (.int (60 : Int32)), .val (.int (0 : Int32)), .unset] [(.ref o1)])) rfl (by rw [hml]; rfl) (Steps.refl _) (argsL := []) (rest := []) (lenOf own_pd5 rfl) rfl (by show 2 * 0 + _ ≤ _; exact Nat.le_of_eq rfl) (hb hby own_d2_24) (fun _ _ => ⟨rfl, e102, (by decide : 0 + 0 ≤ _), (by decide : 0 + 0 ≤ _)⟩)
  dsimp only [Pt.U, Pt.locs, Pt.cells, Pt.slots] at X103 l103 y103 z103 st103 hQ103
  subst l103 y103 z103
  obtain ⟨rfl, N103q, e103⟩ := hQ103
  have N103 := Fr.app N102 N103q
  obtain ⟨cq104, kq104, q104a, q104b, q104c⟩ := isOf hZ e103 H.1
  obtain ⟨_, _, ⟨T104, L104, k104, n104⟩, -, X104, ⟨Lc104, hQ104, l104, y104, z104⟩, st104⟩ := X103.virtualBack hx (y := own_m5) (z := own_m5) hown (mvT hZ (own_w44 hw)) (mvT hZ (own_w45 hw)) (notFace_of_selects (args := #[]) (mvT hZ (own_w47 hw))) (mvT hZ (own_w47 hw)) (mvT hZ (own_w46 hw)) (by decide) (backOf (W := 0) (own_caNE1 l Z a0 hw [] o1 v1 kc cs fv h0 n0 Z0 H SC hcs SF hfv) hZ (own_w48 hw) (own_w32 hw) (by decide) (by decide)) q104a q104c (g := (mkF m 33 #[.val (.ref o1), .val (.int (60 : Int32)), .val (.int (0 : Int32)), .unset] [(.int (1 : Int32)), (.ref o1)])) rfl (by rw [hml]; rfl) (Steps.refl _) (argsL := [(.int (1 : Int32))]) (rest := []) (lenOf own_pd6 rfl) rfl (by show 2 * 0 + _ ≤ _; exact Nat.le_of_eq rfl) (hb hby own_d2_33) (fun _ _ => ⟨rfl, e103, (by decide : 0 + 0 ≤ _), (by decide : 0 + 0 ≤ _)⟩)
  dsimp only [Pt.U, Pt.locs, Pt.cells, Pt.slots] at X104 l104 y104 z104 st104 hQ104
  subst l104 y104 z104
  obtain ⟨rfl, N104q, e104⟩ := hQ104
  have N104 := Fr.app N103 N104q
  obtain ⟨fs, hr, hrun, hended, hW, hsame⟩ := X104.leave (v := some (.int (0 : Int32))) (fun h => by rw [Bd.returns] at h; cases h)
  refine ⟨_, _, pre0 _ ?_, hrun, hended, _, _, rfl, ?_, ⟨_, rfl⟩, hW, hsame.mono (by decide) (by decide)⟩
  · show Steps _ _ _ (s₁.setTop (mkF m 0 #[.val (.ref o1), .val (.int (60 : Int32)), .unset, .unset] [])) _
    refine XS.aloadN X0.here hx rfl (hb hby own_d2_0) rfl rfl ?_
    refine st101.trans ?_
    refine XS.iconst X101.here hx rfl (hb hby own_d2_4) ?_
    refine XS.icmpNo X101.here hx rfl (hb hby own_d2_5) rfl (flt (by decide : ¬ ((2 : Int32) < (1 : Int32)))).1 ?_
    show Steps _ _ _ (T101.setTop (mkF m 8 #[.val (.ref o1), .val (.int (60 : Int32)), .unset, .unset] [])) _
    refine XS.aloadN X101.here hx rfl (hb hby own_d2_8) rfl rfl ?_
    refine XS.iconst X101.here hx rfl (hb hby own_d2_9) ?_
    refine st102.trans ?_
    refine XS.iloadN X102.here hx rfl (hb hby own_d2_13) rfl ?_
    show Steps _ _ _ (T102.setTop (mkF m 14 #[.val (.ref o1), .val (.int (60 : Int32)), .unset, .unset] [(.int (60 : Int32)), (.int (33 : Int32))])) _
    refine XS.icmpYes X102.here hx rfl (pc0 := 14) (pc' := 21) rfl (hb hby own_d2_14) rfl (feq (by decide : ¬ ((33 : Int32) = (60 : Int32)))).2 (by decide) (by decide) ?_
    refine XS.iconst X102.here hx rfl (hb hby own_d2_21) ?_
    refine XS.istoreN X102.here hx rfl (hb hby own_d2_22) rfl (l' := #[.val (.ref o1), .val (.int (60 : Int32)), .val (.int (0 : Int32)), .unset]) rfl ?_
    refine XS.aloadN X102.here hx rfl (hb hby own_d2_23) rfl rfl ?_
    show Steps _ _ _ (T102.setTop (mkF m 24 #[.val (.ref o1), .val (.int (60 : Int32)), .val (.int (0 : Int32)), .unset] [(.ref o1)])) _
    refine st103.trans ?_
    refine XS.iconst X103.here hx rfl (hb hby own_d2_27) ?_
    refine XS.icmpNo X103.here hx rfl (hb hby own_d2_28) rfl (flt (by decide : ¬ ((2 : Int32) < (2 : Int32)))).1 ?_
    refine XS.aloadN X103.here hx rfl (hb hby own_d2_31) rfl rfl ?_
    show Steps _ _ _ (T103.setTop (mkF m 32 #[.val (.ref o1), .val (.int (60 : Int32)), .val (.int (0 : Int32)), .unset] [(.ref o1)])) _
    refine XS.iconst X103.here hx rfl (hb hby own_d2_32) ?_
    refine st104.trans ?_
    refine XS.iloadN X104.here hx rfl (hb hby own_d2_36) rfl ?_
    refine XS.icmpYes X104.here hx rfl (pc0 := 37) (pc' := 44) rfl (hb hby own_d2_37) rfl (feq (by decide : ¬ ((61 : Int32) = (60 : Int32)))).2 (by decide) (by decide) ?_
    show Steps _ _ _ (T104.setTop (mkF m 44 #[.val (.ref o1), .val (.int (60 : Int32)), .val (.int (0 : Int32)), .unset] [])) _
    refine XS.iconst X104.here hx rfl (hb hby own_d2_44) ?_
    refine XS.istoreN X104.here hx rfl (hb hby own_d2_45) rfl (l' := #[.val (.ref o1), .val (.int (60 : Int32)), .val (.int (0 : Int32)), .val (.int (0 : Int32))]) rfl ?_
    refine XS.iloadN X104.here hx rfl (hb hby own_d2_46) rfl ?_
    refine XS.ifNo X104.here hx rfl (hb hby own_d2_47) rfl ((if0 _ _).trans (teq (by decide : (0 : Int32) = (0 : Int32))).2) ?_
    show Steps _ _ _ (T104.setTop (mkF m 50 #[.val (.ref o1), .val (.int (60 : Int32)), .val (.int (0 : Int32)), .val (.int (0 : Int32))] [])) _
    refine XS.iloadN X104.here hx rfl (hb hby own_d2_50) rfl ?_
    refine XS.ifYes X104.here hx rfl (pc0 := 51) (pc' := 58) rfl (hb hby own_d2_51) rfl ((if0 _ _).trans (teq (by decide : (0 : Int32) = (0 : Int32))).1) (by decide) (by decide) ?_
    refine XS.iconst X104.here hx rfl (hb hby own_d2_58) ?_
    show Steps _ _ _ (T104.setTop (mkF m 59 #[.val (.ref o1), .val (.int (60 : Int32)), .val (.int (0 : Int32)), .val (.int (0 : Int32))] [(.int (0 : Int32))])) _
    exact retN X104 hx (t := .boolean) Bd.returns (by simp) (hb hby own_d2_59) hr
  · show Qown_hasNEL Z o1 v1 kc cs fv h0 n0 _ T104.heap _
    rw [e104]
    exact ⟨rfl, N104, rfl⟩
def Qown_hasNEE (Z : State) (o1 v1 : Addr) (kc : ClassId) (cs : Int32) (fv : Value) (h0 : Heap) (n0 : Nat) (v : Option Value) (h : Heap) (L : List Loc) : Prop := v = some (.int (1 : Int32)) ∧ Fr n0 L ∧ h = h0
set_option maxRecDepth 65536 in
set_option maxHeartbeats 40000000 in
theorem own_hasNEE (l : Launch) (Z : State) (a0 : Array Value) (hw : ∀ d ∈ tables_1, d.before a0 Z = true) (ws : List Jvm.Cond) (o1 v1 : Addr) (kc : ClassId) (cs : Int32) (fv : Value) (h0 : Heap) (n0 : Nat) (Z0 : n0 ≤ h0.size) (H : own_Str Z h0 o1 v1 kc (2 : Int32) [(.int (33 : Int32)), (.int (61 : Int32))]) (SC : Sta Z h0 "java/lang/String" "COMPACT_STRINGS" "Z" (.int cs)) (hcs : ¬ cs = (0 : Int32)) (SF : Sta Z h0 "jdk/internal/util/Preconditions" "SIOOBE_FORMATTER" "Ljava/util/function/BiFunction;" fv) (hfv : fv.isRef = true) :
    MetFree l own_m7 (head1 (Jvm.Cond.code own_m7 method_2_code 4 (some .boolean) :: ws) ({ frames := 4, cells := 0, slots := 0, locals := 53 } : Room)) (fun a U => a = #[(.ref o1), (.int (61 : Int32))] ∧ Z.Warmed39 U.vm ∧ U.heap = h0) (fun _ _ _ _ _ => True) (fun _ U o U' => ∃ v L, o = .returned v ∧ Qown_hasNEE Z o1 v1 kc cs fv h0 n0 v U'.heap L ∧ FrameEnd U o U' L ({ frames := 4, cells := 0, slots := 0, locals := 53 } : Room).cells ({ frames := 4, cells := 0, slots := 0, locals := 53 } : Room).slots) := by
  refine MetFree.of_bodySF (plainFor_of_name own_pn3) hisR ?_
  intro p e s m args below meth c s₁ Bd hml0 hP hK
  obtain ⟨rfl, hZ, hh⟩ := hP
  have hx := Bd.exec
  have hby := Bd.bytes
  have hml : c.maxLocals = 4 := hml0
  have hown : s.vm.findClass "com/example/dirwarden/dirwarden/aci/ComparisonHoldsPinLaw" = some m.cls := by have q := findClass_of_methodNamed Bd.named; exact q
  have hnm := (name_of_methodNamed Bd.named Bd.method).1
  have X0 : Stand p l e ({ frames := 4, cells := 0, slots := 0, locals := 53 } : Room) s m #[(.ref o1), (.int (61 : Int32))] below meth c s₁ [] 0 0 := Stand.of_body Bd
  have e0 : s₁.heap = h0 := by rw [← hh, Bd.state]; rfl
  have N0 := Fr.nil n0
  have pre0 : ∀ t, Steps p.tables e below (s₁.setTop (mkF m 0 #[.val (.ref o1), .val (.int (61 : Int32)), .unset, .unset] [])) t → Steps p.tables e below (s₁.setTop (entryFrame m #[(.ref o1), (.int (61 : Int32))] 4)) t := fun t k => castTop (by first | (simp [entryFrame, mkF, argsToLocals, Value.category, maxLocals]; done) | rfl) k
  obtain ⟨cq101, kq101, q101a, q101b, q101c⟩ := isOf hZ e0 H.1
  obtain ⟨_, _, ⟨T101, L101, k101, n101⟩, -, X101, ⟨Lc101, hQ101, l101, y101, z101⟩, st101⟩ := X0.virtualBack hx (y := own_m6) (z := own_m6) hown (mvT hZ (own_w28 hw)) (mvT hZ (own_w29 hw)) (notFace_of_selects (args := #[]) (mvT hZ (own_w31 hw))) (mvT hZ (own_w31 hw)) (mvT hZ (own_w30 hw)) (by decide) (backOf (W := 0) (own_lenNE l Z a0 hw [] o1 v1 kc cs fv h0 n0 Z0 H SC hcs SF hfv) hZ (own_w33 hw) (own_w32 hw) (by decide) (by decide)) q101a q101c (g := (mkF m 1 #[.val (.ref o1), .val (.int (61 : Int32)), .unset, .unset] [(.ref o1)])) rfl (by rw [hml]; rfl) (Steps.refl _) (argsL := []) (rest := []) (lenOf own_pd5 rfl) rfl (by show 2 * 0 + _ ≤ _; exact Nat.le_of_eq rfl) (hb hby own_d2_1) (fun _ _ => ⟨rfl, e0, (by decide : 0 + 0 ≤ _), (by decide : 0 + 0 ≤ _)⟩)
  dsimp only [Pt.U, Pt.locs, Pt.cells, Pt.slots] at X101 l101 y101 z101 st101 hQ101
  subst l101 y101 z101
  obtain ⟨rfl, N101q, e101⟩ := hQ101
  have N101 := Fr.app N0 N101q
  obtain ⟨cq102, kq102, q102a, q102b, q102c⟩ := isOf hZ e101 H.1
  obtain ⟨_, _, ⟨T102, L102, k102, n102⟩, -, X102, ⟨Lc102, hQ102, l102, y102, z102⟩, st102⟩ := X101.virtualBack hx (y := own_m5) (z := own_m5) hown (mvT hZ (own_w44 hw)) (mvT hZ (own_w45 hw)) (notFace_of_selects (args := #[]) (mvT hZ (own_w47 hw))) (mvT hZ (own_w47 hw)) (mvT hZ (own_w46 hw)) (by decide) (backOf (W := 0) (own_caNE0 l Z a0 hw [] o1 v1 kc cs fv h0 n0 Z0 H SC hcs SF hfv) hZ (own_w48 hw) (own_w32 hw) (by decide) (by decide)) q102a q102c (g := (mkF m 10 #[.val (.ref o1), .val (.int (61 : Int32)), .unset, .unset] [(.int (0 : Int32)), (.ref o1)])) rfl (by rw [hml]; rfl) (Steps.refl _) (argsL := [(.int (0 : Int32))]) (rest := []) (lenOf own_pd6 rfl) rfl (by show 2 * 0 + _ ≤ _; exact Nat.le_of_eq rfl) (hb hby own_d2_10) (fun _ _ => ⟨rfl, e101, (by decide : 0 + 0 ≤ _), (by decide : 0 + 0 ≤ _)⟩)
  dsimp only [Pt.U, Pt.locs, Pt.cells, Pt.slots] at X102 l102 y102 z102 st102 hQ102
  subst l102 y102 z102
  obtain ⟨rfl, N102q, e102⟩ := hQ102
  have N102 := Fr.app N101 N102q
  obtain ⟨cq103, kq103, q103a, q103b, q103c⟩ := isOf hZ e102 H.1
  obtain ⟨_, _, ⟨T103, L103, k103, n103⟩, -, X103, ⟨Lc103, hQ103, l103, y103, z103⟩, st103⟩ := X102.virtualBack hx (y := own_m6) (z := own_m6) hown (mvT hZ (own_w28 hw)) (mvT hZ (own_w29 hw)) (notFace_of_selects (args := #[]) (mvT hZ (own_w31 hw))) (mvT hZ (own_w31 hw)) (mvT hZ (own_w30 hw)) (by decide) (backOf (W := 0) (own_lenNE l Z a0 hw [] o1 v1 kc cs fv h0 n0 Z0 H SC hcs SF hfv) hZ (own_w33 hw) (own_w32 hw) (by decide) (by decide)) q103a q103c (g := (mkF m 24 #[.val (.ref o1), .val (.int (61 : Int32)), .val (.int (0 : Int32)), .unset] [(.ref o1)])) rfl (by rw [hml]; rfl) (Steps.refl _) (argsL := []) (rest := []) (lenOf own_pd5 rfl) rfl (by show 2 * 0 + _ ≤ _; exact Nat.le_of_eq rfl) (hb hby own_d2_24) (fun _ _ => ⟨rfl, e102, (by decide : 0 + 0 ≤ _), (by decide : 0 + 0 ≤ _)⟩)
  dsimp only [Pt.U, Pt.locs, Pt.cells, Pt.slots] at X103 l103 y103 z103 st103 hQ103
  subst l103 y103 z103
  obtain ⟨rfl, N103q, e103⟩ := hQ103
  have N103 := Fr.app N102 N103q
  obtain ⟨cq104, kq104, q104a, q104b, q104c⟩ := isOf hZ e103 H.1
  obtain ⟨_, _, ⟨T104, L104, k104, n104⟩, -, X104, ⟨Lc104, hQ104, l104, y104, z104⟩, st104⟩ := X103.virtualBack hx (y := own_m5) (z := own_m5) hown (mvT hZ (own_w44 hw)) (mvT hZ (own_w45 hw)) (notFace_of_selects (args := #[]) (mvT hZ (own_w47 hw))) (mvT hZ (own_w47 hw)) (mvT hZ (own_w46 hw)) (by decide) (backOf (W := 0) (own_caNE1 l Z a0 hw [] o1 v1 kc cs fv h0 n0 Z0 H SC hcs SF hfv) hZ (own_w48 hw) (own_w32 hw) (by decide) (by decide)) q104a q104c (g := (mkF m 33 #[.val (.ref o1), .val (.int (61 : Int32)), .val (.int (0 : Int32)), .unset] [(.int (1 : Int32)), (.ref o1)])) rfl (by rw [hml]; rfl) (Steps.refl _) (argsL := [(.int (1 : Int32))]) (rest := []) (lenOf own_pd6 rfl) rfl (by show 2 * 0 + _ ≤ _; exact Nat.le_of_eq rfl) (hb hby own_d2_33) (fun _ _ => ⟨rfl, e103, (by decide : 0 + 0 ≤ _), (by decide : 0 + 0 ≤ _)⟩)
  dsimp only [Pt.U, Pt.locs, Pt.cells, Pt.slots] at X104 l104 y104 z104 st104 hQ104
  subst l104 y104 z104
  obtain ⟨rfl, N104q, e104⟩ := hQ104
  have N104 := Fr.app N103 N104q
  obtain ⟨fs, hr, hrun, hended, hW, hsame⟩ := X104.leave (v := some (.int (1 : Int32))) (fun h => by rw [Bd.returns] at h; cases h)
  refine ⟨_, _, pre0 _ ?_, hrun, hended, _, _, rfl, ?_, ⟨_, rfl⟩, hW, hsame.mono (by decide) (by decide)⟩
  · show Steps _ _ _ (s₁.setTop (mkF m 0 #[.val (.ref o1), .val (.int (61 : Int32)), .unset, .unset] [])) _
    refine XS.aloadN X0.here hx rfl (hb hby own_d2_0) rfl rfl ?_
    refine st101.trans ?_
    refine XS.iconst X101.here hx rfl (hb hby own_d2_4) ?_
    refine XS.icmpNo X101.here hx rfl (hb hby own_d2_5) rfl (flt (by decide : ¬ ((2 : Int32) < (1 : Int32)))).1 ?_
    show Steps _ _ _ (T101.setTop (mkF m 8 #[.val (.ref o1), .val (.int (61 : Int32)), .unset, .unset] [])) _
    refine XS.aloadN X101.here hx rfl (hb hby own_d2_8) rfl rfl ?_
    refine XS.iconst X101.here hx rfl (hb hby own_d2_9) ?_
    refine st102.trans ?_
    refine XS.iloadN X102.here hx rfl (hb hby own_d2_13) rfl ?_
    show Steps _ _ _ (T102.setTop (mkF m 14 #[.val (.ref o1), .val (.int (61 : Int32)), .unset, .unset] [(.int (61 : Int32)), (.int (33 : Int32))])) _
    refine XS.icmpYes X102.here hx rfl (pc0 := 14) (pc' := 21) rfl (hb hby own_d2_14) rfl (feq (by decide : ¬ ((33 : Int32) = (61 : Int32)))).2 (by decide) (by decide) ?_
    refine XS.iconst X102.here hx rfl (hb hby own_d2_21) ?_
    refine XS.istoreN X102.here hx rfl (hb hby own_d2_22) rfl (l' := #[.val (.ref o1), .val (.int (61 : Int32)), .val (.int (0 : Int32)), .unset]) rfl ?_
    refine XS.aloadN X102.here hx rfl (hb hby own_d2_23) rfl rfl ?_
    show Steps _ _ _ (T102.setTop (mkF m 24 #[.val (.ref o1), .val (.int (61 : Int32)), .val (.int (0 : Int32)), .unset] [(.ref o1)])) _
    refine st103.trans ?_
    refine XS.iconst X103.here hx rfl (hb hby own_d2_27) ?_
    refine XS.icmpNo X103.here hx rfl (hb hby own_d2_28) rfl (flt (by decide : ¬ ((2 : Int32) < (2 : Int32)))).1 ?_
    refine XS.aloadN X103.here hx rfl (hb hby own_d2_31) rfl rfl ?_
    show Steps _ _ _ (T103.setTop (mkF m 32 #[.val (.ref o1), .val (.int (61 : Int32)), .val (.int (0 : Int32)), .unset] [(.ref o1)])) _
    refine XS.iconst X103.here hx rfl (hb hby own_d2_32) ?_
    refine st104.trans ?_
    refine XS.iloadN X104.here hx rfl (hb hby own_d2_36) rfl ?_
    refine XS.icmpNo X104.here hx rfl (hb hby own_d2_37) rfl (teq (by decide : (61 : Int32) = (61 : Int32))).2 ?_
    show Steps _ _ _ (T104.setTop (mkF m 40 #[.val (.ref o1), .val (.int (61 : Int32)), .val (.int (0 : Int32)), .unset] [])) _
    refine XS.iconst X104.here hx rfl (hb hby own_d2_40) ?_
    refine XS.goto X104.here hx rfl (pc0 := 41) (pc' := 45) rfl (hb hby own_d2_41) (by decide) (by decide) ?_
    refine XS.istoreN X104.here hx rfl (hb hby own_d2_45) rfl (l' := #[.val (.ref o1), .val (.int (61 : Int32)), .val (.int (0 : Int32)), .val (.int (1 : Int32))]) rfl ?_
    refine XS.iloadN X104.here hx rfl (hb hby own_d2_46) rfl ?_
    show Steps _ _ _ (T104.setTop (mkF m 47 #[.val (.ref o1), .val (.int (61 : Int32)), .val (.int (0 : Int32)), .val (.int (1 : Int32))] [(.int (0 : Int32))])) _
    refine XS.ifNo X104.here hx rfl (hb hby own_d2_47) rfl ((if0 _ _).trans (teq (by decide : (0 : Int32) = (0 : Int32))).2) ?_
    refine XS.iloadN X104.here hx rfl (hb hby own_d2_50) rfl ?_
    refine XS.ifNo X104.here hx rfl (hb hby own_d2_51) rfl ((if0 _ _).trans (feq (by decide : ¬ ((1 : Int32) = (0 : Int32)))).1) ?_
    refine XS.iconst X104.here hx rfl (hb hby own_d2_54) ?_
    show Steps _ _ _ (T104.setTop (mkF m 55 #[.val (.ref o1), .val (.int (61 : Int32)), .val (.int (0 : Int32)), .val (.int (1 : Int32))] [(.int (1 : Int32))])) _
    refine XS.goto X104.here hx rfl (pc0 := 55) (pc' := 59) rfl (hb hby own_d2_55) (by decide) (by decide) ?_
    show Steps _ _ _ (T104.setTop (mkF m 59 #[.val (.ref o1), .val (.int (61 : Int32)), .val (.int (0 : Int32)), .val (.int (1 : Int32))] [(.int (1 : Int32))])) _
    exact retN X104 hx (t := .boolean) Bd.returns (by simp) (hb hby own_d2_59) hr
  · show Qown_hasNEE Z o1 v1 kc cs fv h0 n0 _ T104.heap _
    rw [e104]
    exact ⟨rfl, N104, rfl⟩
def Qown_hasNEG (Z : State) (o1 v1 : Addr) (kc : ClassId) (cs : Int32) (fv : Value) (h0 : Heap) (n0 : Nat) (v : Option Value) (h : Heap) (L : List Loc) : Prop := v = some (.int (0 : Int32)) ∧ Fr n0 L ∧ h = h0
set_option maxRecDepth 65536 in
set_option maxHeartbeats 40000000 in
theorem own_hasNEG (l : Launch) (Z : State) (a0 : Array Value) (hw : ∀ d ∈ tables_1, d.before a0 Z = true) (ws : List Jvm.Cond) (o1 v1 : Addr) (kc : ClassId) (cs : Int32) (fv : Value) (h0 : Heap) (n0 : Nat) (Z0 : n0 ≤ h0.size) (H : own_Str Z h0 o1 v1 kc (2 : Int32) [(.int (33 : Int32)), (.int (61 : Int32))]) (SC : Sta Z h0 "java/lang/String" "COMPACT_STRINGS" "Z" (.int cs)) (hcs : ¬ cs = (0 : Int32)) (SF : Sta Z h0 "jdk/internal/util/Preconditions" "SIOOBE_FORMATTER" "Ljava/util/function/BiFunction;" fv) (hfv : fv.isRef = true) :
    MetFree l own_m7 (head1 (Jvm.Cond.code own_m7 method_2_code 4 (some .boolean) :: ws) ({ frames := 4, cells := 0, slots := 0, locals := 53 } : Room)) (fun a U => a = #[(.ref o1), (.int (62 : Int32))] ∧ Z.Warmed39 U.vm ∧ U.heap = h0) (fun _ _ _ _ _ => True) (fun _ U o U' => ∃ v L, o = .returned v ∧ Qown_hasNEG Z o1 v1 kc cs fv h0 n0 v U'.heap L ∧ FrameEnd U o U' L ({ frames := 4, cells := 0, slots := 0, locals := 53 } : Room).cells ({ frames := 4, cells := 0, slots := 0, locals := 53 } : Room).slots) := by
  refine MetFree.of_bodySF (plainFor_of_name own_pn3) hisR ?_
  intro p e s m args below meth c s₁ Bd hml0 hP hK
  obtain ⟨rfl, hZ, hh⟩ := hP
  have hx := Bd.exec
  have hby := Bd.bytes
  have hml : c.maxLocals = 4 := hml0
  have hown : s.vm.findClass "com/example/dirwarden/dirwarden/aci/ComparisonHoldsPinLaw" = some m.cls := by have q := findClass_of_methodNamed Bd.named; exact q
  have hnm := (name_of_methodNamed Bd.named Bd.method).1
  have X0 : Stand p l e ({ frames := 4, cells := 0, slots := 0, locals := 53 } : Room) s m #[(.ref o1), (.int (62 : Int32))] below meth c s₁ [] 0 0 := Stand.of_body Bd
  have e0 : s₁.heap = h0 := by rw [← hh, Bd.state]; rfl
  have N0 := Fr.nil n0
  have pre0 : ∀ t, Steps p.tables e below (s₁.setTop (mkF m 0 #[.val (.ref o1), .val (.int (62 : Int32)), .unset, .unset] [])) t → Steps p.tables e below (s₁.setTop (entryFrame m #[(.ref o1), (.int (62 : Int32))] 4)) t := fun t k => castTop (by first | (simp [entryFrame, mkF, argsToLocals, Value.category, maxLocals]; done) | rfl) k
  obtain ⟨cq101, kq101, q101a, q101b, q101c⟩ := isOf hZ e0 H.1
  obtain ⟨_, _, ⟨T101, L101, k101, n101⟩, -, X101, ⟨Lc101, hQ101, l101, y101, z101⟩, st101⟩ := X0.virtualBack hx (y := own_m6) (z := own_m6) hown (mvT hZ (own_w28 hw)) (mvT hZ (own_w29 hw)) (notFace_of_selects (args := #[]) (mvT hZ (own_w31 hw))) (mvT hZ (own_w31 hw)) (mvT hZ (own_w30 hw)) (by decide) (backOf (W := 0) (own_lenNE l Z a0 hw [] o1 v1 kc cs fv h0 n0 Z0 H SC hcs SF hfv) hZ (own_w33 hw) (own_w32 hw) (by decide) (by decide)) q101a q101c (g := (mkF m 1 #[.val (.ref o1), .val (.int (62 : Int32)), .unset, .unset] [(.ref o1)])) rfl (by rw [hml]; rfl) (Steps.refl _) (argsL := []) (rest := []) (lenOf own_pd5 rfl) rfl (by show 2 * 0 + _ ≤ _; exact Nat.le_of_eq rfl) (hb hby own_d2_1) (fun _ _ => ⟨rfl, e0, (by decide : 0 + 0 ≤ _), (by decide : 0 + 0 ≤ _)⟩)
  dsimp only [Pt.U, Pt.locs, Pt.cells, Pt.slots] at X101 l101 y101 z101 st101 hQ101
  subst l101 y101 z101
  obtain ⟨rfl, N101q, e101⟩ := hQ101
  have N101 := Fr.app N0 N101q
  obtain ⟨cq102, kq102, q102a, q102b, q102c⟩ := isOf hZ e101 H.1
  obtain ⟨_, _, ⟨T102, L102, k102, n102⟩, -, X102, ⟨Lc102, hQ102, l102, y102, z102⟩, st102⟩ := X101.virtualBack hx (y := own_m5) (z := own_m5) hown (mvT hZ (own_w44 hw)) (mvT hZ (own_w45 hw)) (notFace_of_selects (args := #[]) (mvT hZ (own_w47 hw))) (mvT hZ (own_w47 hw)) (mvT hZ (own_w46 hw)) (by decide) (backOf (W := 0) (own_caNE0 l Z a0 hw [] o1 v1 kc cs fv h0 n0 Z0 H SC hcs SF hfv) hZ (own_w48 hw) (own_w32 hw) (by decide) (by decide)) q102a q102c (g := (mkF m 10 #[.val (.ref o1), .val (.int (62 : Int32)), .unset, .unset] [(.int (0 : Int32)), (.ref o1)])) rfl (by rw [hml]; rfl) (Steps.refl _) (argsL := [(.int (0 : Int32))]) (rest := []) (lenOf own_pd6 rfl) rfl (by show 2 * 0 + _ ≤ _; exact Nat.le_of_eq rfl) (hb hby own_d2_10) (fun _ _ => ⟨rfl, e101, (by decide : 0 + 0 ≤ _), (by decide : 0 + 0 ≤ _)⟩)
  dsimp only [Pt.U, Pt.locs, Pt.cells, Pt.slots] at X102 l102 y102 z102 st102 hQ102
  subst l102 y102 z102
  obtain ⟨rfl, N102q, e102⟩ := hQ102
  have N102 := Fr.app N101 N102q
  obtain ⟨cq103, kq103, q103a, q103b, q103c⟩ := isOf hZ e102 H.1
  obtain ⟨_, _, ⟨T103, L103, k103, n103⟩, -, X103, ⟨Lc103, hQ103, l103, y103, z103⟩, st103⟩ := X102.virtualBack hx (y := own_m6) (z := own_m6) hown (mvT hZ (own_w28 hw)) (mvT hZ (own_w29 hw)) (notFace_of_selects (args := #[]) (mvT hZ (own_w31 hw))) (mvT hZ (own_w31 hw)) (mvT hZ (own_w30 hw)) (by decide) (backOf (W := 0) (own_lenNE l Z a0 hw [] o1 v1 kc cs fv h0 n0 Z0 H SC hcs SF hfv) hZ (own_w33 hw) (own_w32 hw) (by decide) (by decide)) q103a q103c (g := (mkF m 24 #[.val (.ref o1), .val (.int (62 : Int32)), .val (.int (0 : Int32)), .unset] [(.ref o1)])) rfl (by rw [hml]; rfl) (Steps.refl _) (argsL := []) (rest := []) (lenOf own_pd5 rfl) rfl (by show 2 * 0 + _ ≤ _; exact Nat.le_of_eq rfl) (hb hby own_d2_24) (fun _ _ => ⟨rfl, e102, (by decide : 0 + 0 ≤ _), (by decide : 0 + 0 ≤ _)⟩)
  dsimp only [Pt.U, Pt.locs, Pt.cells, Pt.slots] at X103 l103 y103 z103 st103 hQ103
  subst l103 y103 z103
  obtain ⟨rfl, N103q, e103⟩ := hQ103
  have N103 := Fr.app N102 N103q
  obtain ⟨cq104, kq104, q104a, q104b, q104c⟩ := isOf hZ e103 H.1
  obtain ⟨_, _, ⟨T104, L104, k104, n104⟩, -, X104, ⟨Lc104, hQ104, l104, y104, z104⟩, st104⟩ := X103.virtualBack hx (y := own_m5) (z := own_m5) hown (mvT hZ (own_w44 hw)) (mvT hZ (own_w45 hw)) (notFace_of_selects (args := #[]) (mvT hZ (own_w47 hw))) (mvT hZ (own_w47 hw)) (mvT hZ (own_w46 hw)) (by decide) (backOf (W := 0) (own_caNE1 l Z a0 hw [] o1 v1 kc cs fv h0 n0 Z0 H SC hcs SF hfv) hZ (own_w48 hw) (own_w32 hw) (by decide) (by decide)) q104a q104c (g := (mkF m 33 #[.val (.ref o1), .val (.int (62 : Int32)), .val (.int (0 : Int32)), .unset] [(.int (1 : Int32)), (.ref o1)])) rfl (by rw [hml]; rfl) (Steps.refl _) (argsL := [(.int (1 : Int32))]) (rest := []) (lenOf own_pd6 rfl) rfl (by show 2 * 0 + _ ≤ _; exact Nat.le_of_eq rfl) (hb hby own_d2_33) (fun _ _ => ⟨rfl, e103, (by decide : 0 + 0 ≤ _), (by decide : 0 + 0 ≤ _)⟩)
  dsimp only [Pt.U, Pt.locs, Pt.cells, Pt.slots] at X104 l104 y104 z104 st104 hQ104
  subst l104 y104 z104
  obtain ⟨rfl, N104q, e104⟩ := hQ104
  have N104 := Fr.app N103 N104q
  obtain ⟨fs, hr, hrun, hended, hW, hsame⟩ := X104.leave (v := some (.int (0 : Int32))) (fun h => by rw [Bd.returns] at h; cases h)
  refine ⟨_, _, pre0 _ ?_, hrun, hended, _, _, rfl, ?_, ⟨_, rfl⟩, hW, hsame.mono (by decide) (by decide)⟩
  · show Steps _ _ _ (s₁.setTop (mkF m 0 #[.val (.ref o1), .val (.int (62 : Int32)), .unset, .unset] [])) _
    refine XS.aloadN X0.here hx rfl (hb hby own_d2_0) rfl rfl ?_
    refine st101.trans ?_
    refine XS.iconst X101.here hx rfl (hb hby own_d2_4) ?_
    refine XS.icmpNo X101.here hx rfl (hb hby own_d2_5) rfl (flt (by decide : ¬ ((2 : Int32) < (1 : Int32)))).1 ?_
    show Steps _ _ _ (T101.setTop (mkF m 8 #[.val (.ref o1), .val (.int (62 : Int32)), .unset, .unset] [])) _
    refine XS.aloadN X101.here hx rfl (hb hby own_d2_8) rfl rfl ?_
    refine XS.iconst X101.here hx rfl (hb hby own_d2_9) ?_
    refine st102.trans ?_
    refine XS.iloadN X102.here hx rfl (hb hby own_d2_13) rfl ?_
    show Steps _ _ _ (T102.setTop (mkF m 14 #[.val (.ref o1), .val (.int (62 : Int32)), .unset, .unset] [(.int (62 : Int32)), (.int (33 : Int32))])) _
    refine XS.icmpYes X102.here hx rfl (pc0 := 14) (pc' := 21) rfl (hb hby own_d2_14) rfl (feq (by decide : ¬ ((33 : Int32) = (62 : Int32)))).2 (by decide) (by decide) ?_
    refine XS.iconst X102.here hx rfl (hb hby own_d2_21) ?_
    refine XS.istoreN X102.here hx rfl (hb hby own_d2_22) rfl (l' := #[.val (.ref o1), .val (.int (62 : Int32)), .val (.int (0 : Int32)), .unset]) rfl ?_
    refine XS.aloadN X102.here hx rfl (hb hby own_d2_23) rfl rfl ?_
    show Steps _ _ _ (T102.setTop (mkF m 24 #[.val (.ref o1), .val (.int (62 : Int32)), .val (.int (0 : Int32)), .unset] [(.ref o1)])) _
    refine st103.trans ?_
    refine XS.iconst X103.here hx rfl (hb hby own_d2_27) ?_
    refine XS.icmpNo X103.here hx rfl (hb hby own_d2_28) rfl (flt (by decide : ¬ ((2 : Int32) < (2 : Int32)))).1 ?_
    refine XS.aloadN X103.here hx rfl (hb hby own_d2_31) rfl rfl ?_
    show Steps _ _ _ (T103.setTop (mkF m 32 #[.val (.ref o1), .val (.int (62 : Int32)), .val (.int (0 : Int32)), .unset] [(.ref o1)])) _
    refine XS.iconst X103.here hx rfl (hb hby own_d2_32) ?_
    refine st104.trans ?_
    refine XS.iloadN X104.here hx rfl (hb hby own_d2_36) rfl ?_
    refine XS.icmpYes X104.here hx rfl (pc0 := 37) (pc' := 44) rfl (hb hby own_d2_37) rfl (feq (by decide : ¬ ((61 : Int32) = (62 : Int32)))).2 (by decide) (by decide) ?_
    show Steps _ _ _ (T104.setTop (mkF m 44 #[.val (.ref o1), .val (.int (62 : Int32)), .val (.int (0 : Int32)), .unset] [])) _
    refine XS.iconst X104.here hx rfl (hb hby own_d2_44) ?_
    refine XS.istoreN X104.here hx rfl (hb hby own_d2_45) rfl (l' := #[.val (.ref o1), .val (.int (62 : Int32)), .val (.int (0 : Int32)), .val (.int (0 : Int32))]) rfl ?_
    refine XS.iloadN X104.here hx rfl (hb hby own_d2_46) rfl ?_
    refine XS.ifNo X104.here hx rfl (hb hby own_d2_47) rfl ((if0 _ _).trans (teq (by decide : (0 : Int32) = (0 : Int32))).2) ?_
    show Steps _ _ _ (T104.setTop (mkF m 50 #[.val (.ref o1), .val (.int (62 : Int32)), .val (.int (0 : Int32)), .val (.int (0 : Int32))] [])) _
    refine XS.iloadN X104.here hx rfl (hb hby own_d2_50) rfl ?_
    refine XS.ifYes X104.here hx rfl (pc0 := 51) (pc' := 58) rfl (hb hby own_d2_51) rfl ((if0 _ _).trans (teq (by decide : (0 : Int32) = (0 : Int32))).1) (by decide) (by decide) ?_
    refine XS.iconst X104.here hx rfl (hb hby own_d2_58) ?_
    show Steps _ _ _ (T104.setTop (mkF m 59 #[.val (.ref o1), .val (.int (62 : Int32)), .val (.int (0 : Int32)), .val (.int (0 : Int32))] [(.int (0 : Int32))])) _
    exact retN X104 hx (t := .boolean) Bd.returns (by simp) (hb hby own_d2_59) hr
  · show Qown_hasNEG Z o1 v1 kc cs fv h0 n0 _ T104.heap _
    rw [e104]
    exact ⟨rfl, N104, rfl⟩
def Qown_hasLEL (Z : State) (o1 v1 : Addr) (kc : ClassId) (cs : Int32) (fv : Value) (h0 : Heap) (n0 : Nat) (v : Option Value) (h : Heap) (L : List Loc) : Prop := v = some (.int (1 : Int32)) ∧ Fr n0 L ∧ h = h0
set_option maxRecDepth 65536 in
set_option maxHeartbeats 40000000 in
theorem own_hasLEL (l : Launch) (Z : State) (a0 : Array Value) (hw : ∀ d ∈ tables_1, d.before a0 Z = true) (ws : List Jvm.Cond) (o1 v1 : Addr) (kc : ClassId) (cs : Int32) (fv : Value) (h0 : Heap) (n0 : Nat) (Z0 : n0 ≤ h0.size) (H : own_Str Z h0 o1 v1 kc (2 : Int32) [(.int (60 : Int32)), (.int (61 : Int32))]) (SC : Sta Z h0 "java/lang/String" "COMPACT_STRINGS" "Z" (.int cs)) (hcs : ¬ cs = (0 : Int32)) (SF : Sta Z h0 "jdk/internal/util/Preconditions" "SIOOBE_FORMATTER" "Ljava/util/function/BiFunction;" fv) (hfv : fv.isRef = true) :
    MetFree l own_m7 (head1 (Jvm.Cond.code own_m7 method_2_code 4 (some .boolean) :: ws) ({ frames := 4, cells := 0, slots := 0, locals := 53 } : Room)) (fun a U => a = #[(.ref o1), (.int (60 : Int32))] ∧ Z.Warmed39 U.vm ∧ U.heap = h0) (fun _ _ _ _ _ => True) (fun _ U o U' => ∃ v L, o = .returned v ∧ Qown_hasLEL Z o1 v1 kc cs fv h0 n0 v U'.heap L ∧ FrameEnd U o U' L ({ frames := 4, cells := 0, slots := 0, locals := 53 } : Room).cells ({ frames := 4, cells := 0, slots := 0, locals := 53 } : Room).slots) := by
  refine MetFree.of_bodySF (plainFor_of_name own_pn3) hisR ?_
  intro p e s m args below meth c s₁ Bd hml0 hP hK
  obtain ⟨rfl, hZ, hh⟩ := hP
  have hx := Bd.exec
  have hby := Bd.bytes
  have hml : c.maxLocals = 4 := hml0
  have hown : s.vm.findClass "com/example/dirwarden/dirwarden/aci/ComparisonHoldsPinLaw" = some m.cls := by have q := findClass_of_methodNamed Bd.named; exact q
  have hnm := (name_of_methodNamed Bd.named Bd.method).1
  have X0 : Stand p l e ({ frames := 4, cells := 0, slots := 0, locals := 53 } : Room) s m #[(.ref o1), (.int (60 : Int32))] below meth c s₁ [] 0 0 := Stand.of_body Bd
  have e0 : s₁.heap = h0 := by rw [← hh, Bd.state]; rfl
  have N0 := Fr.nil n0
  have pre0 : ∀ t, Steps p.tables e below (s₁.setTop (mkF m 0 #[.val (.ref o1), .val (.int (60 : Int32)), .unset, .unset] [])) t → Steps p.tables e below (s₁.setTop (entryFrame m #[(.ref o1), (.int (60 : Int32))] 4)) t := fun t k => castTop (by first | (simp [entryFrame, mkF, argsToLocals, Value.category, maxLocals]; done) | rfl) k
  obtain ⟨cq101, kq101, q101a, q101b, q101c⟩ := isOf hZ e0 H.1
  obtain ⟨_, _, ⟨T101, L101, k101, n101⟩, -, X101, ⟨Lc101, hQ101, l101, y101, z101⟩, st101⟩ := X0.virtualBack hx (y := own_m6) (z := own_m6) hown (mvT hZ (own_w28 hw)) (mvT hZ (own_w29 hw)) (notFace_of_selects (args := #[]) (mvT hZ (own_w31 hw))) (mvT hZ (own_w31 hw)) (mvT hZ (own_w30 hw)) (by decide) (backOf (W := 0) (own_lenLE l Z a0 hw [] o1 v1 kc cs fv h0 n0 Z0 H SC hcs SF hfv) hZ (own_w33 hw) (own_w32 hw) (by decide) (by decide)) q101a q101c (g := (mkF m 1 #[.val (.ref o1), .val (.int (60 : Int32)), .unset, .unset] [(.ref o1)])) rfl (by rw [hml]; rfl) (Steps.refl _) (argsL := []) (rest := []) (lenOf own_pd5 rfl) rfl (by show 2 * 0 + _ ≤ _; exact Nat.le_of_eq rfl) (hb hby own_d2_1) (fun _ _ => ⟨rfl, e0, (by decide : 0 + 0 ≤ _), (by decide : 0 + 0 ≤ _)⟩)
  dsimp only [Pt.U, Pt.locs, Pt.cells, Pt.slots] at X101 l101 y101 z101 st101 hQ101
  subst l101 y101 z101
  obtain ⟨rfl, N101q, e101⟩ := hQ101
  have N101 := Fr.app N0 N101q
  obtain ⟨cq102, kq102, q102a, q102b, q102c⟩ := isOf hZ e101 H.1
  obtain ⟨_, _, ⟨T102, L102, k102, n102⟩, -, X102, ⟨Lc102, hQ102, l102, y102, z102⟩, st102⟩ := X101.virtualBack hx (y := own_m5) (z := own_m5) hown (mvT hZ (own_w44 hw)) (mvT hZ (own_w45 hw)) (notFace_of_selects (args := #[]) (mvT hZ (own_w47 hw))) (mvT hZ (own_w47 hw)) (mvT hZ (own_w46 hw)) (by decide) (backOf (W := 0) (own_caLE0 l Z a0 hw [] o1 v1 kc cs fv h0 n0 Z0 H SC hcs SF hfv) hZ (own_w48 hw) (own_w32 hw) (by decide) (by decide)) q102a q102c (g := (mkF m 10 #[.val (.ref o1), .val (.int (60 : Int32)), .unset, .unset] [(.int (0 : Int32)), (.ref o1)])) rfl (by rw [hml]; rfl) (Steps.refl _) (argsL := [(.int (0 : Int32))]) (rest := []) (lenOf own_pd6 rfl) rfl (by show 2 * 0 + _ ≤ _; exact Nat.le_of_eq rfl) (hb hby own_d2_10) (fun _ _ => ⟨rfl, e101, (by decide : 0 + 0 ≤ _), (by decide : 0 + 0 ≤ _)⟩)
  dsimp only [Pt.U, Pt.locs, Pt.cells, Pt.slots] at X102 l102 y102 z102 st102 hQ102
  subst l102 y102 z102
  obtain ⟨rfl, N102q, e102⟩ := hQ102
  have N102 := Fr.app N101 N102q
  obtain ⟨cq103, kq103, q103a, q103b, q103c⟩ := isOf hZ e102 H.1
  obtain ⟨_, _, ⟨T103, L103, k103, n103⟩, -, X103, ⟨Lc103, hQ103, l103, y103, z103⟩, st103⟩ := X102.virtualBack hx (y := own_m6) (z := own_m6) hown (mvT hZ (own_w28 hw)) (mvT hZ (own_w29 hw)) (notFace_of_selects (args := #[]) (mvT hZ (own_w31 hw))) (mvT hZ (own_w31 hw)) (mvT hZ (own_w30 hw)) (by decide) (backOf (W := 0) (own_lenLE l Z a0 hw [] o1 v1 kc cs fv h0 n0 Z0 H SC hcs SF hfv) hZ (own_w33 hw) (own_w32 hw) (by decide) (by decide)) q103a q103c (g := (mkF m 24 #[.val (.ref o1), .val (.int (60 : Int32)), .val (.int (1 : Int32)), .unset] [(.ref o1)])) rfl (by rw [hml]; rfl) (Steps.refl _) (argsL := []) (rest := []) (lenOf own_pd5 rfl) rfl (by show 2 * 0 + _ ≤ _; exact Nat.le_of_eq rfl) (hb hby own_d2_24) (fun _ _ => ⟨rfl, e102, (by decide : 0 + 0 ≤ _), (by decide : 0 + 0 ≤ _)⟩)
  dsimp only [Pt.U, Pt.locs, Pt.cells, Pt.slots] at X103 l103 y103 z103 st103 hQ103
  subst l103 y103 z103
  obtain ⟨rfl, N103q, e103⟩ := hQ103
  have N103 := Fr.app N102 N103q
  obtain ⟨cq104, kq104, q104a, q104b, q104c⟩ := isOf hZ e103 H.1
  obtain ⟨_, _, ⟨T104, L104, k104, n104⟩, -, X104, ⟨Lc104, hQ104, l104, y104, z104⟩, st104⟩ := X103.virtualBack hx (y := own_m5) (z := own_m5) hown (mvT hZ (own_w44 hw)) (mvT hZ (own_w45 hw)) (notFace_of_selects (args := #[]) (mvT hZ (own_w47 hw))) (mvT hZ (own_w47 hw)) (mvT hZ (own_w46 hw)) (by decide) (backOf (W := 0) (own_caLE1 l Z a0 hw [] o1 v1 kc cs fv h0 n0 Z0 H SC hcs SF hfv) hZ (own_w48 hw) (own_w32 hw) (by decide) (by decide)) q104a q104c (g := (mkF m 33 #[.val (.ref o1), .val (.int (60 : Int32)), .val (.int (1 : Int32)), .unset] [(.int (1 : Int32)), (.ref o1)])) rfl (by rw [hml]; rfl) (Steps.refl _) (argsL := [(.int (1 : Int32))]) (rest := []) (lenOf own_pd6 rfl) rfl (by show 2 * 0 + _ ≤ _; exact Nat.le_of_eq rfl) (hb hby own_d2_33) (fun _ _ => ⟨rfl, e103, (by decide : 0 + 0 ≤ _), (by decide : 0 + 0 ≤ _)⟩)
  dsimp only [Pt.U, Pt.locs, Pt.cells, Pt.slots] at X104 l104 y104 z104 st104 hQ104
  subst l104 y104 z104
  obtain ⟨rfl, N104q, e104⟩ := hQ104
  have N104 := Fr.app N103 N104q
  obtain ⟨fs, hr, hrun, hended, hW, hsame⟩ := X104.leave (v := some (.int (1 : Int32))) (fun h => by rw [Bd.returns] at h; cases h)
  refine ⟨_, _, pre0 _ ?_, hrun, hended, _, _, rfl, ?_, ⟨_, rfl⟩, hW, hsame.mono (by decide) (by decide)⟩
  · show Steps _ _ _ (s₁.setTop (mkF m 0 #[.val (.ref o1), .val (.int (60 : Int32)), .unset, .unset] [])) _
    refine XS.aloadN X0.here hx rfl (hb hby own_d2_0) rfl rfl ?_
    refine st101.trans ?_
    refine XS.iconst X101.here hx rfl (hb hby own_d2_4) ?_
    refine XS.icmpNo X101.here hx rfl (hb hby own_d2_5) rfl (flt (by decide : ¬ ((2 : Int32) < (1 : Int32)))).1 ?_
    show Steps _ _ _ (T101.setTop (mkF m 8 #[.val (.ref o1), .val (.int (60 : Int32)), .unset, .unset] [])) _
    refine XS.aloadN X101.here hx rfl (hb hby own_d2_8) rfl rfl ?_
    refine XS.iconst X101.here hx rfl (hb hby own_d2_9) ?_
    refine st102.trans ?_
    refine XS.iloadN X102.here hx rfl (hb hby own_d2_13) rfl ?_
    show Steps _ _ _ (T102.setTop (mkF m 14 #[.val (.ref o1), .val (.int (60 : Int32)), .unset, .unset] [(.int (60 : Int32)), (.int (60 : Int32))])) _
    refine XS.icmpNo X102.here hx rfl (hb hby own_d2_14) rfl (teq (by decide : (60 : Int32) = (60 : Int32))).2 ?_
    refine XS.iconst X102.here hx rfl (hb hby own_d2_17) ?_
    refine XS.goto X102.here hx rfl (pc0 := 18) (pc' := 22) rfl (hb hby own_d2_18) (by decide) (by decide) ?_
    refine XS.istoreN X102.here hx rfl (hb hby own_d2_22) rfl (l' := #[.val (.ref o1), .val (.int (60 : Int32)), .val (.int (1 : Int32)), .unset]) rfl ?_
    show Steps _ _ _ (T102.setTop (mkF m 23 #[.val (.ref o1), .val (.int (60 : Int32)), .val (.int (1 : Int32)), .unset] [])) _
    refine XS.aloadN X102.here hx rfl (hb hby own_d2_23) rfl rfl ?_
    refine st103.trans ?_
    refine XS.iconst X103.here hx rfl (hb hby own_d2_27) ?_
    refine XS.icmpNo X103.here hx rfl (hb hby own_d2_28) rfl (flt (by decide : ¬ ((2 : Int32) < (2 : Int32)))).1 ?_
    show Steps _ _ _ (T103.setTop (mkF m 31 #[.val (.ref o1), .val (.int (60 : Int32)), .val (.int (1 : Int32)), .unset] [])) _
    refine XS.aloadN X103.here hx rfl (hb hby own_d2_31) rfl rfl ?_
    refine XS.iconst X103.here hx rfl (hb hby own_d2_32) ?_
    refine st104.trans ?_
    refine XS.iloadN X104.here hx rfl (hb hby own_d2_36) rfl ?_
    show Steps _ _ _ (T104.setTop (mkF m 37 #[.val (.ref o1), .val (.int (60 : Int32)), .val (.int (1 : Int32)), .unset] [(.int (60 : Int32)), (.int (61 : Int32))])) _
    refine XS.icmpYes X104.here hx rfl (pc0 := 37) (pc' := 44) rfl (hb hby own_d2_37) rfl (feq (by decide : ¬ ((61 : Int32) = (60 : Int32)))).2 (by decide) (by decide) ?_
    refine XS.iconst X104.here hx rfl (hb hby own_d2_44) ?_
    refine XS.istoreN X104.here hx rfl (hb hby own_d2_45) rfl (l' := #[.val (.ref o1), .val (.int (60 : Int32)), .val (.int (1 : Int32)), .val (.int (0 : Int32))]) rfl ?_
    refine XS.iloadN X104.here hx rfl (hb hby own_d2_46) rfl ?_
    show Steps _ _ _ (T104.setTop (mkF m 47 #[.val (.ref o1), .val (.int (60 : Int32)), .val (.int (1 : Int32)), .val (.int (0 : Int32))] [(.int (1 : Int32))])) _
    refine XS.ifYes X104.here hx rfl (pc0 := 47) (pc' := 54) rfl (hb hby own_d2_47) rfl ((if0 _ _).trans (feq (by decide : ¬ ((1 : Int32) = (0 : Int32)))).2) (by decide) (by decide) ?_
    refine XS.iconst X104.here hx rfl (hb hby own_d2_54) ?_
    refine XS.goto X104.here hx rfl (pc0 := 55) (pc' := 59) rfl (hb hby own_d2_55) (by decide) (by decide) ?_
    show Steps _ _ _ (T104.setTop (mkF m 59 #[.val (.ref o1), .val (.int (60 : Int32)), .val (.int (1 : Int32)), .val (.int (0 : Int32))] [(.int (1 : Int32))])) _
    exact retN X104 hx (t := .boolean) Bd.returns (by simp) (hb hby own_d2_59) hr
  · show Qown_hasLEL Z o1 v1 kc cs fv h0 n0 _ T104.heap _
    rw [e104]
    exact ⟨rfl, N104, rfl⟩
def Qown_hasLEE (Z : State) (o1 v1 : Addr) (kc : ClassId) (cs : Int32) (fv : Value) (h0 : Heap) (n0 : Nat) (v : Option Value) (h : Heap) (L : List Loc) : Prop := v = some (.int (1 : Int32)) ∧ Fr n0 L ∧ h = h0
set_option maxRecDepth 65536 in
set_option maxHeartbeats 40000000 in
theorem own_hasLEE (l : Launch) (Z : State) (a0 : Array Value) (hw : ∀ d ∈ tables_1, d.before a0 Z = true) (ws : List Jvm.Cond) (o1 v1 : Addr) (kc : ClassId) (cs : Int32) (fv : Value) (h0 : Heap) (n0 : Nat) (Z0 : n0 ≤ h0.size) (H : own_Str Z h0 o1 v1 kc (2 : Int32) [(.int (60 : Int32)), (.int (61 : Int32))]) (SC : Sta Z h0 "java/lang/String" "COMPACT_STRINGS" "Z" (.int cs)) (hcs : ¬ cs = (0 : Int32)) (SF : Sta Z h0 "jdk/internal/util/Preconditions" "SIOOBE_FORMATTER" "Ljava/util/function/BiFunction;" fv) (hfv : fv.isRef = true) :
    MetFree l own_m7 (head1 (Jvm.Cond.code own_m7 method_2_code 4 (some .boolean) :: ws) ({ frames := 4, cells := 0, slots := 0, locals := 53 } : Room)) (fun a U => a = #[(.ref o1), (.int (61 : Int32))] ∧ Z.Warmed39 U.vm ∧ U.heap = h0) (fun _ _ _ _ _ => True) (fun _ U o U' => ∃ v L, o = .returned v ∧ Qown_hasLEE Z o1 v1 kc cs fv h0 n0 v U'.heap L ∧ FrameEnd U o U' L ({ frames := 4, cells := 0, slots := 0, locals := 53 } : Room).cells ({ frames := 4, cells := 0, slots := 0, locals := 53 } : Room).slots) := by
  refine MetFree.of_bodySF (plainFor_of_name own_pn3) hisR ?_
  intro p e s m args below meth c s₁ Bd hml0 hP hK
  obtain ⟨rfl, hZ, hh⟩ := hP
  have hx := Bd.exec
  have hby := Bd.bytes
  have hml : c.maxLocals = 4 := hml0
  have hown : s.vm.findClass "com/example/dirwarden/dirwarden/aci/ComparisonHoldsPinLaw" = some m.cls := by have q := findClass_of_methodNamed Bd.named; exact q
  have hnm := (name_of_methodNamed Bd.named Bd.method).1
  have X0 : Stand p l e ({ frames := 4, cells := 0, slots := 0, locals := 53 } : Room) s m #[(.ref o1), (.int (61 : Int32))] below meth c s₁ [] 0 0 := Stand.of_body Bd
  have e0 : s₁.heap = h0 := by rw [← hh, Bd.state]; rfl
  have N0 := Fr.nil n0
  have pre0 : ∀ t, Steps p.tables e below (s₁.setTop (mkF m 0 #[.val (.ref o1), .val (.int (61 : Int32)), .unset, .unset] [])) t → Steps p.tables e below (s₁.setTop (entryFrame m #[(.ref o1), (.int (61 : Int32))] 4)) t := fun t k => castTop (by first | (simp [entryFrame, mkF, argsToLocals, Value.category, maxLocals]; done) | rfl) k
  obtain ⟨cq101, kq101, q101a, q101b, q101c⟩ := isOf hZ e0 H.1
  obtain ⟨_, _, ⟨T101, L101, k101, n101⟩, -, X101, ⟨Lc101, hQ101, l101, y101, z101⟩, st101⟩ := X0.virtualBack hx (y := own_m6) (z := own_m6) hown (mvT hZ (own_w28 hw)) (mvT hZ (own_w29 hw)) (notFace_of_selects (args := #[]) (mvT hZ (own_w31 hw))) (mvT hZ (own_w31 hw)) (mvT hZ (own_w30 hw)) (by decide) (backOf (W := 0) (own_lenLE l Z a0 hw [] o1 v1 kc cs fv h0 n0 Z0 H SC hcs SF hfv) hZ (own_w33 hw) (own_w32 hw) (by decide) (by decide)) q101a q101c (g := (mkF m 1 #[.val (.ref o1), .val (.int (61 : Int32)), .unset, .unset] [(.ref o1)])) rfl (by rw [hml]; rfl) (Steps.refl _) (argsL := []) (rest := []) (lenOf own_pd5 rfl) rfl (by show 2 * 0 + _ ≤ _; exact Nat.le_of_eq rfl) (hb hby own_d2_1) (fun _ _ => ⟨rfl, e0, (by decide : 0 + 0 ≤ _), (by decide : 0 + 0 ≤ _)⟩)
  dsimp only [Pt.U, Pt.locs, Pt.cells, Pt.slots] at X101 l101 y101 z101 st101 hQ101
  subst l101 y101 z101
  obtain ⟨rfl, N101q, e101⟩ := hQ101
  have N101 := Fr.app N0 N101q
  obtain ⟨cq102, kq102, q102a, q102b, q102c⟩ := isOf hZ e101 H.1
  obtain ⟨_, _, ⟨T102, L102, k102, n102⟩, -, X102, ⟨Lc102, hQ102, l102, y102, z102⟩, st102⟩ := X101.virtualBack hx (y := own_m5) (z := own_m5) hown (mvT hZ (own_w44 hw)) (mvT hZ (own_w45 hw)) (notFace_of_selects (args := #[]) (mvT hZ (own_w47 hw))) (mvT hZ (own_w47 hw)) (mvT hZ (own_w46 hw)) (by decide) (backOf (W := 0) (own_caLE0 l Z a0 hw [] o1 v1 kc cs fv h0 n0 Z0 H SC hcs SF hfv) hZ (own_w48 hw) (own_w32 hw) (by decide) (by decide)) q102a q102c (g := (mkF m 10 #[.val (.ref o1), .val (.int (61 : Int32)), .unset, .unset] [(.int (0 : Int32)), (.ref o1)])) rfl (by rw [hml]; rfl) (Steps.refl _) (argsL := [(.int (0 : Int32))]) (rest := []) (lenOf own_pd6 rfl) rfl (by show 2 * 0 + _ ≤ _; exact Nat.le_of_eq rfl) (hb hby own_d2_10) (fun _ _ => ⟨rfl, e101, (by decide : 0 + 0 ≤ _), (by decide : 0 + 0 ≤ _)⟩)
  dsimp only [Pt.U, Pt.locs, Pt.cells, Pt.slots] at X102 l102 y102 z102 st102 hQ102
  subst l102 y102 z102
  obtain ⟨rfl, N102q, e102⟩ := hQ102
  have N102 := Fr.app N101 N102q
  obtain ⟨cq103, kq103, q103a, q103b, q103c⟩ := isOf hZ e102 H.1
  obtain ⟨_, _, ⟨T103, L103, k103, n103⟩, -, X103, ⟨Lc103, hQ103, l103, y103, z103⟩, st103⟩ := X102.virtualBack hx (y := own_m6) (z := own_m6) hown (mvT hZ (own_w28 hw)) (mvT hZ (own_w29 hw)) (notFace_of_selects (args := #[]) (mvT hZ (own_w31 hw))) (mvT hZ (own_w31 hw)) (mvT hZ (own_w30 hw)) (by decide) (backOf (W := 0) (own_lenLE l Z a0 hw [] o1 v1 kc cs fv h0 n0 Z0 H SC hcs SF hfv) hZ (own_w33 hw) (own_w32 hw) (by decide) (by decide)) q103a q103c (g := (mkF m 24 #[.val (.ref o1), .val (.int (61 : Int32)), .val (.int (0 : Int32)), .unset] [(.ref o1)])) rfl (by rw [hml]; rfl) (Steps.refl _) (argsL := []) (rest := []) (lenOf own_pd5 rfl) rfl (by show 2 * 0 + _ ≤ _; exact Nat.le_of_eq rfl) (hb hby own_d2_24) (fun _ _ => ⟨rfl, e102, (by decide : 0 + 0 ≤ _), (by decide : 0 + 0 ≤ _)⟩)
  dsimp only [Pt.U, Pt.locs, Pt.cells, Pt.slots] at X103 l103 y103 z103 st103 hQ103
  subst l103 y103 z103
  obtain ⟨rfl, N103q, e103⟩ := hQ103
  have N103 := Fr.app N102 N103q
  obtain ⟨cq104, kq104, q104a, q104b, q104c⟩ := isOf hZ e103 H.1
  obtain ⟨_, _, ⟨T104, L104, k104, n104⟩, -, X104, ⟨Lc104, hQ104, l104, y104, z104⟩, st104⟩ := X103.virtualBack hx (y := own_m5) (z := own_m5) hown (mvT hZ (own_w44 hw)) (mvT hZ (own_w45 hw)) (notFace_of_selects (args := #[]) (mvT hZ (own_w47 hw))) (mvT hZ (own_w47 hw)) (mvT hZ (own_w46 hw)) (by decide) (backOf (W := 0) (own_caLE1 l Z a0 hw [] o1 v1 kc cs fv h0 n0 Z0 H SC hcs SF hfv) hZ (own_w48 hw) (own_w32 hw) (by decide) (by decide)) q104a q104c (g := (mkF m 33 #[.val (.ref o1), .val (.int (61 : Int32)), .val (.int (0 : Int32)), .unset] [(.int (1 : Int32)), (.ref o1)])) rfl (by rw [hml]; rfl) (Steps.refl _) (argsL := [(.int (1 : Int32))]) (rest := []) (lenOf own_pd6 rfl) rfl (by show 2 * 0 + _ ≤ _; exact Nat.le_of_eq rfl) (hb hby own_d2_33) (fun _ _ => ⟨rfl, e103, (by decide : 0 + 0 ≤ _), (by decide : 0 + 0 ≤ _)⟩)
  dsimp only [Pt.U, Pt.locs, Pt.cells, Pt.slots] at X104 l104 y104 z104 st104 hQ104
  subst l104 y104 z104
  obtain ⟨rfl, N104q, e104⟩ := hQ104
  have N104 := Fr.app N103 N104q
  obtain ⟨fs, hr, hrun, hended, hW, hsame⟩ := X104.leave (v := some (.int (1 : Int32))) (fun h => by rw [Bd.returns] at h; cases h)
  refine ⟨_, _, pre0 _ ?_, hrun, hended, _, _, rfl, ?_, ⟨_, rfl⟩, hW, hsame.mono (by decide) (by decide)⟩
  · show Steps _ _ _ (s₁.setTop (mkF m 0 #[.val (.ref o1), .val (.int (61 : Int32)), .unset, .unset] [])) _
    refine XS.aloadN X0.here hx rfl (hb hby own_d2_0) rfl rfl ?_
    refine st101.trans ?_
    refine XS.iconst X101.here hx rfl (hb hby own_d2_4) ?_
    refine XS.icmpNo X101.here hx rfl (hb hby own_d2_5) rfl (flt (by decide : ¬ ((2 : Int32) < (1 : Int32)))).1 ?_
    show Steps _ _ _ (T101.setTop (mkF m 8 #[.val (.ref o1), .val (.int (61 : Int32)), .unset, .unset] [])) _
    refine XS.aloadN X101.here hx rfl (hb hby own_d2_8) rfl rfl ?_
    refine XS.iconst X101.here hx rfl (hb hby own_d2_9) ?_
    refine st102.trans ?_
    refine XS.iloadN X102.here hx rfl (hb hby own_d2_13) rfl ?_
    show Steps _ _ _ (T102.setTop (mkF m 14 #[.val (.ref o1), .val (.int (61 : Int32)), .unset, .unset] [(.int (61 : Int32)), (.int (60 : Int32))])) _
    refine XS.icmpYes X102.here hx rfl (pc0 := 14) (pc' := 21) rfl (hb hby own_d2_14) rfl (feq (by decide : ¬ ((60 : Int32) = (61 : Int32)))).2 (by decide) (by decide) ?_
    refine XS.iconst X102.here hx rfl (hb hby own_d2_21) ?_
    refine XS.istoreN X102.here hx rfl (hb hby own_d2_22) rfl (l' := #[.val (.ref o1), .val (.int (61 : Int32)), .val (.int (0 : Int32)), .unset]) rfl ?_
    refine XS.aloadN X102.here hx rfl (hb hby own_d2_23) rfl rfl ?_
    show Steps _ _ _ (T102.setTop (mkF m 24 #[.val (.ref o1), .val (.int (61 : Int32)), .val (.int (0 : Int32)), .unset] [(.ref o1)])) _
    refine st103.trans ?_
    refine XS.iconst X103.here hx rfl (hb hby own_d2_27) ?_
    refine XS.icmpNo X103.here hx rfl (hb hby own_d2_28) rfl (flt (by decide : ¬ ((2 : Int32) < (2 : Int32)))).1 ?_
    refine XS.aloadN X103.here hx rfl (hb hby own_d2_31) rfl rfl ?_
    show Steps _ _ _ (T103.setTop (mkF m 32 #[.val (.ref o1), .val (.int (61 : Int32)), .val (.int (0 : Int32)), .unset] [(.ref o1)])) _
    refine XS.iconst X103.here hx rfl (hb hby own_d2_32) ?_
    refine st104.trans ?_
    refine XS.iloadN X104.here hx rfl (hb hby own_d2_36) rfl ?_
    refine XS.icmpNo X104.here hx rfl (hb hby own_d2_37) rfl (teq (by decide : (61 : Int32) = (61 : Int32))).2 ?_
    show Steps _ _ _ (T104.setTop (mkF m 40 #[.val (.ref o1), .val (.int (61 : Int32)), .val (.int (0 : Int32)), .unset] [])) _
    refine XS.iconst X104.here hx rfl (hb hby own_d2_40) ?_
    refine XS.goto X104.here hx rfl (pc0 := 41) (pc' := 45) rfl (hb hby own_d2_41) (by decide) (by decide) ?_
    refine XS.istoreN X104.here hx rfl (hb hby own_d2_45) rfl (l' := #[.val (.ref o1), .val (.int (61 : Int32)), .val (.int (0 : Int32)), .val (.int (1 : Int32))]) rfl ?_
    refine XS.iloadN X104.here hx rfl (hb hby own_d2_46) rfl ?_
    show Steps _ _ _ (T104.setTop (mkF m 47 #[.val (.ref o1), .val (.int (61 : Int32)), .val (.int (0 : Int32)), .val (.int (1 : Int32))] [(.int (0 : Int32))])) _
    refine XS.ifNo X104.here hx rfl (hb hby own_d2_47) rfl ((if0 _ _).trans (teq (by decide : (0 : Int32) = (0 : Int32))).2) ?_
    refine XS.iloadN X104.here hx rfl (hb hby own_d2_50) rfl ?_
    refine XS.ifNo X104.here hx rfl (hb hby own_d2_51) rfl ((if0 _ _).trans (feq (by decide : ¬ ((1 : Int32) = (0 : Int32)))).1) ?_
    refine XS.iconst X104.here hx rfl (hb hby own_d2_54) ?_
    show Steps _ _ _ (T104.setTop (mkF m 55 #[.val (.ref o1), .val (.int (61 : Int32)), .val (.int (0 : Int32)), .val (.int (1 : Int32))] [(.int (1 : Int32))])) _
    refine XS.goto X104.here hx rfl (pc0 := 55) (pc' := 59) rfl (hb hby own_d2_55) (by decide) (by decide) ?_
    show Steps _ _ _ (T104.setTop (mkF m 59 #[.val (.ref o1), .val (.int (61 : Int32)), .val (.int (0 : Int32)), .val (.int (1 : Int32))] [(.int (1 : Int32))])) _
    exact retN X104 hx (t := .boolean) Bd.returns (by simp) (hb hby own_d2_59) hr
  · show Qown_hasLEE Z o1 v1 kc cs fv h0 n0 _ T104.heap _
    rw [e104]
    exact ⟨rfl, N104, rfl⟩
def Qown_hasLEG (Z : State) (o1 v1 : Addr) (kc : ClassId) (cs : Int32) (fv : Value) (h0 : Heap) (n0 : Nat) (v : Option Value) (h : Heap) (L : List Loc) : Prop := v = some (.int (0 : Int32)) ∧ Fr n0 L ∧ h = h0
set_option maxRecDepth 65536 in
set_option maxHeartbeats 40000000 in
theorem own_hasLEG (l : Launch) (Z : State) (a0 : Array Value) (hw : ∀ d ∈ tables_1, d.before a0 Z = true) (ws : List Jvm.Cond) (o1 v1 : Addr) (kc : ClassId) (cs : Int32) (fv : Value) (h0 : Heap) (n0 : Nat) (Z0 : n0 ≤ h0.size) (H : own_Str Z h0 o1 v1 kc (2 : Int32) [(.int (60 : Int32)), (.int (61 : Int32))]) (SC : Sta Z h0 "java/lang/String" "COMPACT_STRINGS" "Z" (.int cs)) (hcs : ¬ cs = (0 : Int32)) (SF : Sta Z h0 "jdk/internal/util/Preconditions" "SIOOBE_FORMATTER" "Ljava/util/function/BiFunction;" fv) (hfv : fv.isRef = true) :
    MetFree l own_m7 (head1 (Jvm.Cond.code own_m7 method_2_code 4 (some .boolean) :: ws) ({ frames := 4, cells := 0, slots := 0, locals := 53 } : Room)) (fun a U => a = #[(.ref o1), (.int (62 : Int32))] ∧ Z.Warmed39 U.vm ∧ U.heap = h0) (fun _ _ _ _ _ => True) (fun _ U o U' => ∃ v L, o = .returned v ∧ Qown_hasLEG Z o1 v1 kc cs fv h0 n0 v U'.heap L ∧ FrameEnd U o U' L ({ frames := 4, cells := 0, slots := 0, locals := 53 } : Room).cells ({ frames := 4, cells := 0, slots := 0, locals := 53 } : Room).slots) := by
  refine MetFree.of_bodySF (plainFor_of_name own_pn3) hisR ?_
  intro p e s m args below meth c s₁ Bd hml0 hP hK
  obtain ⟨rfl, hZ, hh⟩ := hP
  have hx := Bd.exec
  have hby := Bd.bytes
  have hml : c.maxLocals = 4 := hml0
  have hown : s.vm.findClass "com/example/dirwarden/dirwarden/aci/ComparisonHoldsPinLaw" = some m.cls := by have q := findClass_of_methodNamed Bd.named; exact q
  have hnm := (name_of_methodNamed Bd.named Bd.method).1
  have X0 : Stand p l e ({ frames := 4, cells := 0, slots := 0, locals := 53 } : Room) s m #[(.ref o1), (.int (62 : Int32))] below meth c s₁ [] 0 0 := Stand.of_body Bd
  have e0 : s₁.heap = h0 := by rw [← hh, Bd.state]; rfl
  have N0 := Fr.nil n0
  have pre0 : ∀ t, Steps p.tables e below (s₁.setTop (mkF m 0 #[.val (.ref o1), .val (.int (62 : Int32)), .unset, .unset] [])) t → Steps p.tables e below (s₁.setTop (entryFrame m #[(.ref o1), (.int (62 : Int32))] 4)) t := fun t k => castTop (by first | (simp [entryFrame, mkF, argsToLocals, Value.category, maxLocals]; done) | rfl) k
  obtain ⟨cq101, kq101, q101a, q101b, q101c⟩ := isOf hZ e0 H.1
  obtain ⟨_, _, ⟨T101, L101, k101, n101⟩, -, X101, ⟨Lc101, hQ101, l101, y101, z101⟩, st101⟩ := X0.virtualBack hx (y := own_m6) (z := own_m6) hown (mvT hZ (own_w28 hw)) (mvT hZ (own_w29 hw)) (notFace_of_selects (args := #[]) (mvT hZ (own_w31 hw))) (mvT hZ (own_w31 hw)) (mvT hZ (own_w30 hw)) (by decide) (backOf (W := 0) (own_lenLE l Z a0 hw [] o1 v1 kc cs fv h0 n0 Z0 H SC hcs SF hfv) hZ (own_w33 hw) (own_w32 hw) (by decide) (by decide)) q101a q101c (g := (mkF m 1 #[.val (.ref o1), .val (.int (62 : Int32)), .unset, .unset] [(.ref o1)])) rfl (by rw [hml]; rfl) (Steps.refl _) (argsL := []) (rest := []) (lenOf own_pd5 rfl) rfl (by show 2 * 0 + _ ≤ _; exact Nat.le_of_eq rfl) (hb hby own_d2_1) (fun _ _ => ⟨rfl, e0, (by decide : 0 + 0 ≤ _), (by decide : 0 + 0 ≤ _)⟩)
  dsimp only [Pt.U, Pt.locs, Pt.cells, Pt.slots] at X101 l101 y101 z101 st101 hQ101
  subst l101 y101 z101
  obtain ⟨rfl, N101q, e101⟩ := hQ101
  have N101 := Fr.app N0 N101q
  obtain ⟨cq102, kq102, q102a, q102b, q102c⟩ := isOf hZ e101 H.1
  obtain ⟨_, _, ⟨T102, L102, k102, n102⟩, -, X102, ⟨Lc102, hQ102, l102, y102, z102⟩, st102⟩ := X101.virtualBack hx (y := own_m5) (z := own_m5) hown (mvT hZ (own_w44 hw)) (mvT hZ (own_w45 hw)) (notFace_of_selects (args := #[]) (mvT hZ (own_w47 hw))) (mvT hZ (own_w47 hw)) (mvT hZ (own_w46 hw)) (by decide) (backOf (W := 0) (own_caLE0 l Z a0 hw [] o1 v1 kc cs fv h0 n0 Z0 H SC hcs SF hfv) hZ (own_w48 hw) (own_w32 hw) (by decide) (by decide)) q102a q102c (g := (mkF m 10 #[.val (.ref o1), .val (.int (62 : Int32)), .unset, .unset] [(.int (0 : Int32)), (.ref o1)])) rfl (by rw [hml]; rfl) (Steps.refl _) (argsL := [(.int (0 : Int32))]) (rest := []) (lenOf own_pd6 rfl) rfl (by show 2 * 0 + _ ≤ _; exact Nat.le_of_eq rfl) (hb hby own_d2_10) (fun _ _ => ⟨rfl, e101, (by decide : 0 + 0 ≤ _), (by decide : 0 + 0 ≤ _)⟩)
  dsimp only [Pt.U, Pt.locs, Pt.cells, Pt.slots] at X102 l102 y102 z102 st102 hQ102
  subst l102 y102 z102
  obtain ⟨rfl, N102q, e102⟩ := hQ102
  have N102 := Fr.app N101 N102q
  obtain ⟨cq103, kq103, q103a, q103b, q103c⟩ := isOf hZ e102 H.1
  obtain ⟨_, _, ⟨T103, L103, k103, n103⟩, -, X103, ⟨Lc103, hQ103, l103, y103, z103⟩, st103⟩ := X102.virtualBack hx (y := own_m6) (z := own_m6) hown (mvT hZ (own_w28 hw)) (mvT hZ (own_w29 hw)) (notFace_of_selects (args := #[]) (mvT hZ (own_w31 hw))) (mvT hZ (own_w31 hw)) (mvT hZ (own_w30 hw)) (by decide) (backOf (W := 0) (own_lenLE l Z a0 hw [] o1 v1 kc cs fv h0 n0 Z0 H SC hcs SF hfv) hZ (own_w33 hw) (own_w32 hw) (by decide) (by decide)) q103a q103c (g := (mkF m 24 #[.val (.ref o1), .val (.int (62 : Int32)), .val (.int (0 : Int32)), .unset] [(.ref o1)])) rfl (by rw [hml]; rfl) (Steps.refl _) (argsL := []) (rest := []) (lenOf own_pd5 rfl) rfl (by show 2 * 0 + _ ≤ _; exact Nat.le_of_eq rfl) (hb hby own_d2_24) (fun _ _ => ⟨rfl, e102, (by decide : 0 + 0 ≤ _), (by decide : 0 + 0 ≤ _)⟩)
  dsimp only [Pt.U, Pt.locs, Pt.cells, Pt.slots] at X103 l103 y103 z103 st103 hQ103
  subst l103 y103 z103
  obtain ⟨rfl, N103q, e103⟩ := hQ103
  have N103 := Fr.app N102 N103q
  obtain ⟨cq104, kq104, q104a, q104b, q104c⟩ := isOf hZ e103 H.1
  obtain ⟨_, _, ⟨T104, L104, k104, n104⟩, -, X104, ⟨Lc104, hQ104, l104, y104, z104⟩, st104⟩ := X103.virtualBack hx (y := own_m5) (z := own_m5) hown (mvT hZ (own_w44 hw)) (mvT hZ (own_w45 hw)) (notFace_of_selects (args := #[]) (mvT hZ (own_w47 hw))) (mvT hZ (own_w47 hw)) (mvT hZ (own_w46 hw)) (by decide) (backOf (W := 0) (own_caLE1 l Z a0 hw [] o1 v1 kc cs fv h0 n0 Z0 H SC hcs SF hfv) hZ (own_w48 hw) (own_w32 hw) (by decide) (by decide)) q104a q104c (g := (mkF m 33 #[.val (.ref o1), .val (.int (62 : Int32)), .val (.int (0 : Int32)), .unset] [(.int (1 : Int32)), (.ref o1)])) rfl (by rw [hml]; rfl) (Steps.refl _) (argsL := [(.int (1 : Int32))]) (rest := []) (lenOf own_pd6 rfl) rfl (by show 2 * 0 + _ ≤ _; exact Nat.le_of_eq rfl) (hb hby own_d2_33) (fun _ _ => ⟨rfl, e103, (by decide : 0 + 0 ≤ _), (by decide : 0 + 0 ≤ _)⟩)
  dsimp only [Pt.U, Pt.locs, Pt.cells, Pt.slots] at X104 l104 y104 z104 st104 hQ104
  subst l104 y104 z104
  obtain ⟨rfl, N104q, e104⟩ := hQ104
  have N104 := Fr.app N103 N104q
  obtain ⟨fs, hr, hrun, hended, hW, hsame⟩ := X104.leave (v := some (.int (0 : Int32))) (fun h => by rw [Bd.returns] at h; cases h)
  refine ⟨_, _, pre0 _ ?_, hrun, hended, _, _, rfl, ?_, ⟨_, rfl⟩, hW, hsame.mono (by decide) (by decide)⟩
  · show Steps _ _ _ (s₁.setTop (mkF m 0 #[.val (.ref o1), .val (.int (62 : Int32)), .unset, .unset] [])) _
    refine XS.aloadN X0.here hx rfl (hb hby own_d2_0) rfl rfl ?_
    refine st101.trans ?_
    refine XS.iconst X101.here hx rfl (hb hby own_d2_4) ?_
    refine XS.icmpNo X101.here hx rfl (hb hby own_d2_5) rfl (flt (by decide : ¬ ((2 : Int32) < (1 : Int32)))).1 ?_
    show Steps _ _ _ (T101.setTop (mkF m 8 #[.val (.ref o1), .val (.int (62 : Int32)), .unset, .unset] [])) _
    refine XS.aloadN X101.here hx rfl (hb hby own_d2_8) rfl rfl ?_
    refine XS.iconst X101.here hx rfl (hb hby own_d2_9) ?_
    refine st102.trans ?_
    refine XS.iloadN X102.here hx rfl (hb hby own_d2_13) rfl ?_
    show Steps _ _ _ (T102.setTop (mkF m 14 #[.val (.ref o1), .val (.int (62 : Int32)), .unset, .unset] [(.int (62 : Int32)), (.int (60 : Int32))])) _
    refine XS.icmpYes X102.here hx rfl (pc0 := 14) (pc' := 21) rfl (hb hby own_d2_14) rfl (feq (by decide : ¬ ((60 : Int32) = (62 : Int32)))).2 (by decide) (by decide) ?_
    refine XS.iconst X102.here hx rfl (hb hby own_d2_21) ?_
    refine XS.istoreN X102.here hx rfl (hb hby own_d2_22) rfl (l' := #[.val (.ref o1), .val (.int (62 : Int32)), .val (.int (0 : Int32)), .unset]) rfl ?_
    refine XS.aloadN X102.here hx rfl (hb hby own_d2_23) rfl rfl ?_
    show Steps _ _ _ (T102.setTop (mkF m 24 #[.val (.ref o1), .val (.int (62 : Int32)), .val (.int (0 : Int32)), .unset] [(.ref o1)])) _
    refine st103.trans ?_
    refine XS.iconst X103.here hx rfl (hb hby own_d2_27) ?_
    refine XS.icmpNo X103.here hx rfl (hb hby own_d2_28) rfl (flt (by decide : ¬ ((2 : Int32) < (2 : Int32)))).1 ?_
    refine XS.aloadN X103.here hx rfl (hb hby own_d2_31) rfl rfl ?_
    show Steps _ _ _ (T103.setTop (mkF m 32 #[.val (.ref o1), .val (.int (62 : Int32)), .val (.int (0 : Int32)), .unset] [(.ref o1)])) _
    refine XS.iconst X103.here hx rfl (hb hby own_d2_32) ?_
    refine st104.trans ?_
    refine XS.iloadN X104.here hx rfl (hb hby own_d2_36) rfl ?_
    refine XS.icmpYes X104.here hx rfl (pc0 := 37) (pc' := 44) rfl (hb hby own_d2_37) rfl (feq (by decide : ¬ ((61 : Int32) = (62 : Int32)))).2 (by decide) (by decide) ?_
    show Steps _ _ _ (T104.setTop (mkF m 44 #[.val (.ref o1), .val (.int (62 : Int32)), .val (.int (0 : Int32)), .unset] [])) _
    refine XS.iconst X104.here hx rfl (hb hby own_d2_44) ?_
    refine XS.istoreN X104.here hx rfl (hb hby own_d2_45) rfl (l' := #[.val (.ref o1), .val (.int (62 : Int32)), .val (.int (0 : Int32)), .val (.int (0 : Int32))]) rfl ?_
    refine XS.iloadN X104.here hx rfl (hb hby own_d2_46) rfl ?_
    refine XS.ifNo X104.here hx rfl (hb hby own_d2_47) rfl ((if0 _ _).trans (teq (by decide : (0 : Int32) = (0 : Int32))).2) ?_
    show Steps _ _ _ (T104.setTop (mkF m 50 #[.val (.ref o1), .val (.int (62 : Int32)), .val (.int (0 : Int32)), .val (.int (0 : Int32))] [])) _
    refine XS.iloadN X104.here hx rfl (hb hby own_d2_50) rfl ?_
    refine XS.ifYes X104.here hx rfl (pc0 := 51) (pc' := 58) rfl (hb hby own_d2_51) rfl ((if0 _ _).trans (teq (by decide : (0 : Int32) = (0 : Int32))).1) (by decide) (by decide) ?_
    refine XS.iconst X104.here hx rfl (hb hby own_d2_58) ?_
    show Steps _ _ _ (T104.setTop (mkF m 59 #[.val (.ref o1), .val (.int (62 : Int32)), .val (.int (0 : Int32)), .val (.int (0 : Int32))] [(.int (0 : Int32))])) _
    exact retN X104 hx (t := .boolean) Bd.returns (by simp) (hb hby own_d2_59) hr
  · show Qown_hasLEG Z o1 v1 kc cs fv h0 n0 _ T104.heap _
    rw [e104]
    exact ⟨rfl, N104, rfl⟩
def Qown_hasGEL (Z : State) (o1 v1 : Addr) (kc : ClassId) (cs : Int32) (fv : Value) (h0 : Heap) (n0 : Nat) (v : Option Value) (h : Heap) (L : List Loc) : Prop := v = some (.int (0 : Int32)) ∧ Fr n0 L ∧ h = h0
set_option maxRecDepth 65536 in
set_option maxHeartbeats 40000000 in
theorem own_hasGEL (l : Launch) (Z : State) (a0 : Array Value) (hw : ∀ d ∈ tables_1, d.before a0 Z = true) (ws : List Jvm.Cond) (o1 v1 : Addr) (kc : ClassId) (cs : Int32) (fv : Value) (h0 : Heap) (n0 : Nat) (Z0 : n0 ≤ h0.size) (H : own_Str Z h0 o1 v1 kc (2 : Int32) [(.int (62 : Int32)), (.int (61 : Int32))]) (SC : Sta Z h0 "java/lang/String" "COMPACT_STRINGS" "Z" (.int cs)) (hcs : ¬ cs = (0 : Int32)) (SF : Sta Z h0 "jdk/internal/util/Preconditions" "SIOOBE_FORMATTER" "Ljava/util/function/BiFunction;" fv) (hfv : fv.isRef = true) :
    MetFree l own_m7 (head1 (Jvm.Cond.code own_m7 method_2_code 4 (some .boolean) :: ws) ({ frames := 4, cells := 0, slots := 0, locals := 53 } : Room)) (fun a U => a = #[(.ref o1), (.int (60 : Int32))] ∧ Z.Warmed39 U.vm ∧ U.heap = h0) (fun _ _ _ _ _ => True) (fun _ U o U' => ∃ v L, o = .returned v ∧ Qown_hasGEL Z o1 v1 kc cs fv h0 n0 v U'.heap L ∧ FrameEnd U o U' L ({ frames := 4, cells := 0, slots := 0, locals := 53 } : Room).cells ({ frames := 4, cells := 0, slots := 0, locals := 53 } : Room).slots) := by
  refine MetFree.of_bodySF (plainFor_of_name own_pn3) hisR ?_
  intro p e s m args below meth c s₁ Bd hml0 hP hK
  obtain ⟨rfl, hZ, hh⟩ := hP
  have hx := Bd.exec
  have hby := Bd.bytes
  have hml : c.maxLocals = 4 := hml0
  have hown : s.vm.findClass "com/example/dirwarden/dirwarden/aci/ComparisonHoldsPinLaw" = some m.cls := by have q := findClass_of_methodNamed Bd.named; exact q
  have hnm := (name_of_methodNamed Bd.named Bd.method).1
  have X0 : Stand p l e ({ frames := 4, cells := 0, slots := 0, locals := 53 } : Room) s m #[(.ref o1), (.int (60 : Int32))] below meth c s₁ [] 0 0 := Stand.of_body Bd
  have e0 : s₁.heap = h0 := by rw [← hh, Bd.state]; rfl
  have N0 := Fr.nil n0
  have pre0 : ∀ t, Steps p.tables e below (s₁.setTop (mkF m 0 #[.val (.ref o1), .val (.int (60 : Int32)), .unset, .unset] [])) t → Steps p.tables e below (s₁.setTop (entryFrame m #[(.ref o1), (.int (60 : Int32))] 4)) t := fun t k => castTop (by first | (simp [entryFrame, mkF, argsToLocals, Value.category, maxLocals]; done) | rfl) k
  obtain ⟨cq101, kq101, q101a, q101b, q101c⟩ := isOf hZ e0 H.1
  obtain ⟨_, _, ⟨T101, L101, k101, n101⟩, -, X101, ⟨Lc101, hQ101, l101, y101, z101⟩, st101⟩ := X0.virtualBack hx (y := own_m6) (z := own_m6) hown (mvT hZ (own_w28 hw)) (mvT hZ (own_w29 hw)) (notFace_of_selects (args := #[]) (mvT hZ (own_w31 hw))) (mvT hZ (own_w31 hw)) (mvT hZ (own_w30 hw)) (by decide) (backOf (W := 0) (own_lenGE l Z a0 hw [] o1 v1 kc cs fv h0 n0 Z0 H SC hcs SF hfv) hZ (own_w33 hw) (own_w32 hw) (by decide) (by decide)) q101a q101c (g := (mkF m 1 #[.val (.ref o1), .val (.int (60 : Int32)), .unset, .unset] [(.ref o1)])) rfl (by rw [hml]; rfl) (Steps.refl _) (argsL := []) (rest := []) (lenOf own_pd5 rfl) rfl (by show 2 * 0 + _ ≤ _; exact Nat.le_of_eq rfl) (hb hby own_d2_1) (fun _ _ => ⟨rfl, e0, (by decide : 0 + 0 ≤ _), (by decide : 0 + 0 ≤ _)⟩)
  dsimp only [Pt.U, Pt.locs, Pt.cells, Pt.slots] at X101 l101 y101 z101 st101 hQ101
  subst l101 y101 z101
  obtain ⟨rfl, N101q, e101⟩ := hQ101
  have N101 := Fr.app N0 N101q
  obtain ⟨cq102, kq102, q102a, q102b, q102c⟩ := isOf hZ e101 H.1
  obtain ⟨_, _, ⟨T102, L102, k102, n102⟩, -, X102, ⟨Lc102, hQ102, l102, y102, z102⟩, st102⟩ := X101.virtualBack hx (y := own_m5) (z := own_m5) hown (mvT hZ (own_w44 hw)) (mvT hZ (own_w45 hw)) (notFace_of_selects (args := #[]) (mvT hZ (own_w47 hw))) (mvT hZ (own_w47 hw)) (mvT hZ (own_w46 hw)) (by decide) (backOf (W := 0) (own_caGE0 l Z a0 hw [] o1 v1 kc cs fv h0 n0 Z0 H SC hcs SF hfv) hZ (own_w48 hw) (own_w32 hw) (by decide) (by decide)) q102a q102c (g := (mkF m 10 #[.val (.ref o1), .val (.int (60 : Int32)), .unset, .unset] [(.int (0 : Int32)), (.ref o1)])) rfl (by rw [hml]; rfl) (Steps.refl _) (argsL := [(.int (0 : Int32))]) (rest := []) (lenOf own_pd6 rfl) rfl (by show 2 * 0 + _ ≤ _; exact Nat.le_of_eq rfl) (hb hby own_d2_10) (fun _ _ => ⟨rfl, e101, (by decide : 0 + 0 ≤ _), (by decide : 0 + 0 ≤ _)⟩)
  dsimp only [Pt.U, Pt.locs, Pt.cells, Pt.slots] at X102 l102 y102 z102 st102 hQ102
  subst l102 y102 z102
  obtain ⟨rfl, N102q, e102⟩ := hQ102
  have N102 := Fr.app N101 N102q
  obtain ⟨cq103, kq103, q103a, q103b, q103c⟩ := isOf hZ e102 H.1
  obtain ⟨_, _, ⟨T103, L103, k103, n103⟩, -, X103, ⟨Lc103, hQ103, l103, y103, z103⟩, st103⟩ := X102.virtualBack hx (y := own_m6) (z := own_m6) hown (mvT hZ (own_w28 hw)) (mvT hZ (own_w29 hw)) (notFace_of_selects (args := #[]) (mvT hZ (own_w31 hw))) (mvT hZ (own_w31 hw)) (mvT hZ (own_w30 hw)) (by decide) (backOf (W := 0) (own_lenGE l Z a0 hw [] o1 v1 kc cs fv h0 n0 Z0 H SC hcs SF hfv) hZ (own_w33 hw) (own_w32 hw) (by decide) (by decide)) q103a q103c (g := (mkF m 24 #[.val (.ref o1), .val (.int (60 : Int32)), .val (.int (0 : Int32)), .unset] [(.ref o1)])) rfl (by rw [hml]; rfl) (Steps.refl _) (argsL := []) (rest := []) (lenOf own_pd5 rfl) rfl (by show 2 * 0 + _ ≤ _; exact Nat.le_of_eq rfl) (hb hby own_d2_24) (fun _ _ => ⟨rfl, e102, (by decide : 0 + 0 ≤ _), (by decide : 0 + 0 ≤ _)⟩)
  dsimp only [Pt.U, Pt.locs, Pt.cells, Pt.slots] at X103 l103 y103 z103 st103 hQ103
  subst l103 y103 z103
  obtain ⟨rfl, N103q, e103⟩ := hQ103
  have N103 := Fr.app N102 N103q
  obtain ⟨cq104, kq104, q104a, q104b, q104c⟩ := isOf hZ e103 H.1
  obtain ⟨_, _, ⟨T104, L104, k104, n104⟩, -, X104, ⟨Lc104, hQ104, l104, y104, z104⟩, st104⟩ := X103.virtualBack hx (y := own_m5) (z := own_m5) hown (mvT hZ (own_w44 hw)) (mvT hZ (own_w45 hw)) (notFace_of_selects (args := #[]) (mvT hZ (own_w47 hw))) (mvT hZ (own_w47 hw)) (mvT hZ (own_w46 hw)) (by decide) (backOf (W := 0) (own_caGE1 l Z a0 hw [] o1 v1 kc cs fv h0 n0 Z0 H SC hcs SF hfv) hZ (own_w48 hw) (own_w32 hw) (by decide) (by decide)) q104a q104c (g := (mkF m 33 #[.val (.ref o1), .val (.int (60 : Int32)), .val (.int (0 : Int32)), .unset] [(.int (1 : Int32)), (.ref o1)])) rfl (by rw [hml]; rfl) (Steps.refl _) (argsL := [(.int (1 : Int32))]) (rest := []) (lenOf own_pd6 rfl) rfl (by show 2 * 0 + _ ≤ _; exact Nat.le_of_eq rfl) (hb hby own_d2_33) (fun _ _ => ⟨rfl, e103, (by decide : 0 + 0 ≤ _), (by decide : 0 + 0 ≤ _)⟩)
  dsimp only [Pt.U, Pt.locs, Pt.cells, Pt.slots] at X104 l104 y104 z104 st104 hQ104
  subst l104 y104 z104
  obtain ⟨rfl, N104q, e104⟩ := hQ104
  have N104 := Fr.app N103 N104q
  obtain ⟨fs, hr, hrun, hended, hW, hsame⟩ := X104.leave (v := some (.int (0 : Int32))) (fun h => by rw [Bd.returns] at h; cases h)
  refine ⟨_, _, pre0 _ ?_, hrun, hended, _, _, rfl, ?_, ⟨_, rfl⟩, hW, hsame.mono (by decide) (by decide)⟩
  · show Steps _ _ _ (s₁.setTop (mkF m 0 #[.val (.ref o1), .val (.int (60 : Int32)), .unset, .unset] [])) _
    refine XS.aloadN X0.here hx rfl (hb hby own_d2_0) rfl rfl ?_
    refine st101.trans ?_
    refine XS.iconst X101.here hx rfl (hb hby own_d2_4) ?_
    refine XS.icmpNo X101.here hx rfl (hb hby own_d2_5) rfl (flt (by decide : ¬ ((2 : Int32) < (1 : Int32)))).1 ?_
    show Steps _ _ _ (T101.setTop (mkF m 8 #[.val (.ref o1), .val (.int (60 : Int32)), .unset, .unset] [])) _
    refine XS.aloadN X101.here hx rfl (hb hby own_d2_8) rfl rfl ?_
    refine XS.iconst X101.here hx rfl (hb hby own_d2_9) ?_
    refine st102.trans ?_
    refine XS.iloadN X102.here hx rfl (hb hby own_d2_13) rfl ?_
    show Steps _ _ _ (T102.setTop (mkF m 14 #[.val (.ref o1), .val (.int (60 : Int32)), .unset, .unset] [(.int (60 : Int32)), (.int (62 : Int32))])) _
    refine XS.icmpYes X102.here hx rfl (pc0 := 14) (pc' := 21) rfl (hb hby own_d2_14) rfl (feq (by decide : ¬ ((62 : Int32) = (60 : Int32)))).2 (by decide) (by decide) ?_
    refine XS.iconst X102.here hx rfl (hb hby own_d2_21) ?_
    refine XS.istoreN X102.here hx rfl (hb hby own_d2_22) rfl (l' := #[.val (.ref o1), .val (.int (60 : Int32)), .val (.int (0 : Int32)), .unset]) rfl ?_
    refine XS.aloadN X102.here hx rfl (hb hby own_d2_23) rfl rfl ?_
    show Steps _ _ _ (T102.setTop (mkF m 24 #[.val (.ref o1), .val (.int (60 : Int32)), .val (.int (0 : Int32)), .unset] [(.ref o1)])) _
    refine st103.trans ?_
    refine XS.iconst X103.here hx rfl (hb hby own_d2_27) ?_
    refine XS.icmpNo X103.here hx rfl (hb hby own_d2_28) rfl (flt (by decide : ¬ ((2 : Int32) < (2 : Int32)))).1 ?_
    refine XS.aloadN X103.here hx rfl (hb hby own_d2_31) rfl rfl ?_
    show Steps _ _ _ (T103.setTop (mkF m 32 #[.val (.ref o1), .val (.int (60 : Int32)), .val (.int (0 : Int32)), .unset] [(.ref o1)])) _
    refine XS.iconst X103.here hx rfl (hb hby own_d2_32) ?_
    refine st104.trans ?_
    refine XS.iloadN X104.here hx rfl (hb hby own_d2_36) rfl ?_
    refine XS.icmpYes X104.here hx rfl (pc0 := 37) (pc' := 44) rfl (hb hby own_d2_37) rfl (feq (by decide : ¬ ((61 : Int32) = (60 : Int32)))).2 (by decide) (by decide) ?_
    show Steps _ _ _ (T104.setTop (mkF m 44 #[.val (.ref o1), .val (.int (60 : Int32)), .val (.int (0 : Int32)), .unset] [])) _
    refine XS.iconst X104.here hx rfl (hb hby own_d2_44) ?_
    refine XS.istoreN X104.here hx rfl (hb hby own_d2_45) rfl (l' := #[.val (.ref o1), .val (.int (60 : Int32)), .val (.int (0 : Int32)), .val (.int (0 : Int32))]) rfl ?_
    refine XS.iloadN X104.here hx rfl (hb hby own_d2_46) rfl ?_
    refine XS.ifNo X104.here hx rfl (hb hby own_d2_47) rfl ((if0 _ _).trans (teq (by decide : (0 : Int32) = (0 : Int32))).2) ?_
    show Steps _ _ _ (T104.setTop (mkF m 50 #[.val (.ref o1), .val (.int (60 : Int32)), .val (.int (0 : Int32)), .val (.int (0 : Int32))] [])) _
    refine XS.iloadN X104.here hx rfl (hb hby own_d2_50) rfl ?_
    refine XS.ifYes X104.here hx rfl (pc0 := 51) (pc' := 58) rfl (hb hby own_d2_51) rfl ((if0 _ _).trans (teq (by decide : (0 : Int32) = (0 : Int32))).1) (by decide) (by decide) ?_
    refine XS.iconst X104.here hx rfl (hb hby own_d2_58) ?_
    show Steps _ _ _ (T104.setTop (mkF m 59 #[.val (.ref o1), .val (.int (60 : Int32)), .val (.int (0 : Int32)), .val (.int (0 : Int32))] [(.int (0 : Int32))])) _
    exact retN X104 hx (t := .boolean) Bd.returns (by simp) (hb hby own_d2_59) hr
  · show Qown_hasGEL Z o1 v1 kc cs fv h0 n0 _ T104.heap _
    rw [e104]
    exact ⟨rfl, N104, rfl⟩
def Qown_hasGEE (Z : State) (o1 v1 : Addr) (kc : ClassId) (cs : Int32) (fv : Value) (h0 : Heap) (n0 : Nat) (v : Option Value) (h : Heap) (L : List Loc) : Prop := v = some (.int (1 : Int32)) ∧ Fr n0 L ∧ h = h0
set_option maxRecDepth 65536 in
set_option maxHeartbeats 40000000 in
theorem own_hasGEE (l : Launch) (Z : State) (a0 : Array Value) (hw : ∀ d ∈ tables_1, d.before a0 Z = true) (ws : List Jvm.Cond) (o1 v1 : Addr) (kc : ClassId) (cs : Int32) (fv : Value) (h0 : Heap) (n0 : Nat) (Z0 : n0 ≤ h0.size) (H : own_Str Z h0 o1 v1 kc (2 : Int32) [(.int (62 : Int32)), (.int (61 : Int32))]) (SC : Sta Z h0 "java/lang/String" "COMPACT_STRINGS" "Z" (.int cs)) (hcs : ¬ cs = (0 : Int32)) (SF : Sta Z h0 "jdk/internal/util/Preconditions" "SIOOBE_FORMATTER" "Ljava/util/function/BiFunction;" fv) (hfv : fv.isRef = true) :
    MetFree l own_m7 (head1 (Jvm.Cond.code own_m7 method_2_code 4 (some .boolean) :: ws) ({ frames := 4, cells := 0, slots := 0, locals := 53 } : Room)) (fun a U => a = #[(.ref o1), (.int (61 : Int32))] ∧ Z.Warmed39 U.vm ∧ U.heap = h0) (fun _ _ _ _ _ => True) (fun _ U o U' => ∃ v L, o = .returned v ∧ Qown_hasGEE Z o1 v1 kc cs fv h0 n0 v U'.heap L ∧ FrameEnd U o U' L ({ frames := 4, cells := 0, slots := 0, locals := 53 } : Room).cells ({ frames := 4, cells := 0, slots := 0, locals := 53 } : Room).slots) := by
  refine MetFree.of_bodySF (plainFor_of_name own_pn3) hisR ?_
  intro p e s m args below meth c s₁ Bd hml0 hP hK
  obtain ⟨rfl, hZ, hh⟩ := hP
  have hx := Bd.exec
  have hby := Bd.bytes
  have hml : c.maxLocals = 4 := hml0
  have hown : s.vm.findClass "com/example/dirwarden/dirwarden/aci/ComparisonHoldsPinLaw" = some m.cls := by have q := findClass_of_methodNamed Bd.named; exact q
  have hnm := (name_of_methodNamed Bd.named Bd.method).1
  have X0 : Stand p l e ({ frames := 4, cells := 0, slots := 0, locals := 53 } : Room) s m #[(.ref o1), (.int (61 : Int32))] below meth c s₁ [] 0 0 := Stand.of_body Bd
  have e0 : s₁.heap = h0 := by rw [← hh, Bd.state]; rfl
  have N0 := Fr.nil n0
  have pre0 : ∀ t, Steps p.tables e below (s₁.setTop (mkF m 0 #[.val (.ref o1), .val (.int (61 : Int32)), .unset, .unset] [])) t → Steps p.tables e below (s₁.setTop (entryFrame m #[(.ref o1), (.int (61 : Int32))] 4)) t := fun t k => castTop (by first | (simp [entryFrame, mkF, argsToLocals, Value.category, maxLocals]; done) | rfl) k
  obtain ⟨cq101, kq101, q101a, q101b, q101c⟩ := isOf hZ e0 H.1
  obtain ⟨_, _, ⟨T101, L101, k101, n101⟩, -, X101, ⟨Lc101, hQ101, l101, y101, z101⟩, st101⟩ := X0.virtualBack hx (y := own_m6) (z := own_m6) hown (mvT hZ (own_w28 hw)) (mvT hZ (own_w29 hw)) (notFace_of_selects (args := #[]) (mvT hZ (own_w31 hw))) (mvT hZ (own_w31 hw)) (mvT hZ (own_w30 hw)) (by decide) (backOf (W := 0) (own_lenGE l Z a0 hw [] o1 v1 kc cs fv h0 n0 Z0 H SC hcs SF hfv) hZ (own_w33 hw) (own_w32 hw) (by decide) (by decide)) q101a q101c (g := (mkF m 1 #[.val (.ref o1), .val (.int (61 : Int32)), .unset, .unset] [(.ref o1)])) rfl (by rw [hml]; rfl) (Steps.refl _) (argsL := []) (rest := []) (lenOf own_pd5 rfl) rfl (by show 2 * 0 + _ ≤ _; exact Nat.le_of_eq rfl) (hb hby own_d2_1) (fun _ _ => ⟨rfl, e0, (by decide : 0 + 0 ≤ _), (by decide : 0 + 0 ≤ _)⟩)
  dsimp only [Pt.U, Pt.locs, Pt.cells, Pt.slots] at X101 l101 y101 z101 st101 hQ101
  subst l101 y101 z101
  obtain ⟨rfl, N101q, e101⟩ := hQ101
  have N101 := Fr.app N0 N101q
  obtain ⟨cq102, kq102, q102a, q102b, q102c⟩ := isOf hZ e101 H.1
  obtain ⟨_, _, ⟨T102, L102, k102, n102⟩, -, X102, ⟨Lc102, hQ102, l102, y102, z102⟩, st102⟩ := X101.virtualBack hx (y := own_m5) (z := own_m5) hown (mvT hZ (own_w44 hw)) (mvT hZ (own_w45 hw)) (notFace_of_selects (args := #[]) (mvT hZ (own_w47 hw))) (mvT hZ (own_w47 hw)) (mvT hZ (own_w46 hw)) (by decide) (backOf (W := 0) (own_caGE0 l Z a0 hw [] o1 v1 kc cs fv h0 n0 Z0 H SC hcs SF hfv) hZ (own_w48 hw) (own_w32 hw) (by decide) (by decide)) q102a q102c (g := (mkF m 10 #[.val (.ref o1), .val (.int (61 : Int32)), .unset, .unset] [(.int (0 : Int32)), (.ref o1)])) rfl (by rw [hml]; rfl) (Steps.refl _) (argsL := [(.int (0 : Int32))]) (rest := []) (lenOf own_pd6 rfl) rfl (by show 2 * 0 + _ ≤ _; exact Nat.le_of_eq rfl) (hb hby own_d2_10) (fun _ _ => ⟨rfl, e101, (by decide : 0 + 0 ≤ _), (by decide : 0 + 0 ≤ _)⟩)
  dsimp only [Pt.U, Pt.locs, Pt.cells, Pt.slots] at X102 l102 y102 z102 st102 hQ102
  subst l102 y102 z102
  obtain ⟨rfl, N102q, e102⟩ := hQ102
  have N102 := Fr.app N101 N102q
  obtain ⟨cq103, kq103, q103a, q103b, q103c⟩ := isOf hZ e102 H.1
  obtain ⟨_, _, ⟨T103, L103, k103, n103⟩, -, X103, ⟨Lc103, hQ103, l103, y103, z103⟩, st103⟩ := X102.virtualBack hx (y := own_m6) (z := own_m6) hown (mvT hZ (own_w28 hw)) (mvT hZ (own_w29 hw)) (notFace_of_selects (args := #[]) (mvT hZ (own_w31 hw))) (mvT hZ (own_w31 hw)) (mvT hZ (own_w30 hw)) (by decide) (backOf (W := 0) (own_lenGE l Z a0 hw [] o1 v1 kc cs fv h0 n0 Z0 H SC hcs SF hfv) hZ (own_w33 hw) (own_w32 hw) (by decide) (by decide)) q103a q103c (g := (mkF m 24 #[.val (.ref o1), .val (.int (61 : Int32)), .val (.int (0 : Int32)), .unset] [(.ref o1)])) rfl (by rw [hml]; rfl) (Steps.refl _) (argsL := []) (rest := []) (lenOf own_pd5 rfl) rfl (by show 2 * 0 + _ ≤ _; exact Nat.le_of_eq rfl) (hb hby own_d2_24) (fun _ _ => ⟨rfl, e102, (by decide : 0 + 0 ≤ _), (by decide : 0 + 0 ≤ _)⟩)
  dsimp only [Pt.U, Pt.locs, Pt.cells, Pt.slots] at X103 l103 y103 z103 st103 hQ103
  subst l103 y103 z103
  obtain ⟨rfl, N103q, e103⟩ := hQ103
  have N103 := Fr.app N102 N103q
  obtain ⟨cq104, kq104, q104a, q104b, q104c⟩ := isOf hZ e103 H.1
  obtain ⟨_, _, ⟨T104, L104, k104, n104⟩, -, X104, ⟨Lc104, hQ104, l104, y104, z104⟩, st104⟩ := X103.virtualBack hx (y := own_m5) (z := own_m5) hown (mvT hZ (own_w44 hw)) (mvT hZ (own_w45 hw)) (notFace_of_selects (args := #[]) (mvT hZ (own_w47 hw))) (mvT hZ (own_w47 hw)) (mvT hZ (own_w46 hw)) (by decide) (backOf (W := 0) (own_caGE1 l Z a0 hw [] o1 v1 kc cs fv h0 n0 Z0 H SC hcs SF hfv) hZ (own_w48 hw) (own_w32 hw) (by decide) (by decide)) q104a q104c (g := (mkF m 33 #[.val (.ref o1), .val (.int (61 : Int32)), .val (.int (0 : Int32)), .unset] [(.int (1 : Int32)), (.ref o1)])) rfl (by rw [hml]; rfl) (Steps.refl _) (argsL := [(.int (1 : Int32))]) (rest := []) (lenOf own_pd6 rfl) rfl (by show 2 * 0 + _ ≤ _; exact Nat.le_of_eq rfl) (hb hby own_d2_33) (fun _ _ => ⟨rfl, e103, (by decide : 0 + 0 ≤ _), (by decide : 0 + 0 ≤ _)⟩)
  dsimp only [Pt.U, Pt.locs, Pt.cells, Pt.slots] at X104 l104 y104 z104 st104 hQ104
  subst l104 y104 z104
  obtain ⟨rfl, N104q, e104⟩ := hQ104
  have N104 := Fr.app N103 N104q
  obtain ⟨fs, hr, hrun, hended, hW, hsame⟩ := X104.leave (v := some (.int (1 : Int32))) (fun h => by rw [Bd.returns] at h; cases h)
  refine ⟨_, _, pre0 _ ?_, hrun, hended, _, _, rfl, ?_, ⟨_, rfl⟩, hW, hsame.mono (by decide) (by decide)⟩
  · show Steps _ _ _ (s₁.setTop (mkF m 0 #[.val (.ref o1), .val (.int (61 : Int32)), .unset, .unset] [])) _
    refine XS.aloadN X0.here hx rfl (hb hby own_d2_0) rfl rfl ?_
    refine st101.trans ?_
    refine XS.iconst X101.here hx rfl (hb hby own_d2_4) ?_
    refine XS.icmpNo X101.here hx rfl (hb hby own_d2_5) rfl (flt (by decide : ¬ ((2 : Int32) < (1 : Int32)))).1 ?_
    show Steps _ _ _ (T101.setTop (mkF m 8 #[.val (.ref o1), .val (.int (61 : Int32)), .unset, .unset] [])) _
    refine XS.aloadN X101.here hx rfl (hb hby own_d2_8) rfl rfl ?_
    refine XS.iconst X101.here hx rfl (hb hby own_d2_9) ?_
    refine st102.trans ?_
    refine XS.iloadN X102.here hx rfl (hb hby own_d2_13) rfl ?_
    show Steps _ _ _ (T102.setTop (mkF m 14 #[.val (.ref o1), .val (.int (61 : Int32)), .unset, .unset] [(.int (61 : Int32)), (.int (62 : Int32))])) _
    refine XS.icmpYes X102.here hx rfl (pc0 := 14) (pc' := 21) rfl (hb hby own_d2_14) rfl (feq (by decide : ¬ ((62 : Int32) = (61 : Int32)))).2 (by decide) (by decide) ?_
    refine XS.iconst X102.here hx rfl (hb hby own_d2_21) ?_
    refine XS.istoreN X102.here hx rfl (hb hby own_d2_22) rfl (l' := #[.val (.ref o1), .val (.int (61 : Int32)), .val (.int (0 : Int32)), .unset]) rfl ?_
    refine XS.aloadN X102.here hx rfl (hb hby own_d2_23) rfl rfl ?_
    show Steps _ _ _ (T102.setTop (mkF m 24 #[.val (.ref o1), .val (.int (61 : Int32)), .val (.int (0 : Int32)), .unset] [(.ref o1)])) _
    refine st103.trans ?_
    refine XS.iconst X103.here hx rfl (hb hby own_d2_27) ?_
    refine XS.icmpNo X103.here hx rfl (hb hby own_d2_28) rfl (flt (by decide : ¬ ((2 : Int32) < (2 : Int32)))).1 ?_
    refine XS.aloadN X103.here hx rfl (hb hby own_d2_31) rfl rfl ?_
    show Steps _ _ _ (T103.setTop (mkF m 32 #[.val (.ref o1), .val (.int (61 : Int32)), .val (.int (0 : Int32)), .unset] [(.ref o1)])) _
    refine XS.iconst X103.here hx rfl (hb hby own_d2_32) ?_
    refine st104.trans ?_
    refine XS.iloadN X104.here hx rfl (hb hby own_d2_36) rfl ?_
    refine XS.icmpNo X104.here hx rfl (hb hby own_d2_37) rfl (teq (by decide : (61 : Int32) = (61 : Int32))).2 ?_
    show Steps _ _ _ (T104.setTop (mkF m 40 #[.val (.ref o1), .val (.int (61 : Int32)), .val (.int (0 : Int32)), .unset] [])) _
    refine XS.iconst X104.here hx rfl (hb hby own_d2_40) ?_
    refine XS.goto X104.here hx rfl (pc0 := 41) (pc' := 45) rfl (hb hby own_d2_41) (by decide) (by decide) ?_
    refine XS.istoreN X104.here hx rfl (hb hby own_d2_45) rfl (l' := #[.val (.ref o1), .val (.int (61 : Int32)), .val (.int (0 : Int32)), .val (.int (1 : Int32))]) rfl ?_
    refine XS.iloadN X104.here hx rfl (hb hby own_d2_46) rfl ?_
    show Steps _ _ _ (T104.setTop (mkF m 47 #[.val (.ref o1), .val (.int (61 : Int32)), .val (.int (0 : Int32)), .val (.int (1 : Int32))] [(.int (0 : Int32))])) _
    refine XS.ifNo X104.here hx rfl (hb hby own_d2_47) rfl ((if0 _ _).trans (teq (by decide : (0 : Int32) = (0 : Int32))).2) ?_
    refine XS.iloadN X104.here hx rfl (hb hby own_d2_50) rfl ?_
    refine XS.ifNo X104.here hx rfl (hb hby own_d2_51) rfl ((if0 _ _).trans (feq (by decide : ¬ ((1 : Int32) = (0 : Int32)))).1) ?_
    refine XS.iconst X104.here hx rfl (hb hby own_d2_54) ?_
    show Steps _ _ _ (T104.setTop (mkF m 55 #[.val (.ref o1), .val (.int (61 : Int32)), .val (.int (0 : Int32)), .val (.int (1 : Int32))] [(.int (1 : Int32))])) _
    refine XS.goto X104.here hx rfl (pc0 := 55) (pc' := 59) rfl (hb hby own_d2_55) (by decide) (by decide) ?_
    show Steps _ _ _ (T104.setTop (mkF m 59 #[.val (.ref o1), .val (.int (61 : Int32)), .val (.int (0 : Int32)), .val (.int (1 : Int32))] [(.int (1 : Int32))])) _
    exact retN X104 hx (t := .boolean) Bd.returns (by simp) (hb hby own_d2_59) hr
  · show Qown_hasGEE Z o1 v1 kc cs fv h0 n0 _ T104.heap _
    rw [e104]
    exact ⟨rfl, N104, rfl⟩
def Qown_hasGEG (Z : State) (o1 v1 : Addr) (kc : ClassId) (cs : Int32) (fv : Value) (h0 : Heap) (n0 : Nat) (v : Option Value) (h : Heap) (L : List Loc) : Prop := v = some (.int (1 : Int32)) ∧ Fr n0 L ∧ h = h0
set_option maxRecDepth 65536 in
set_option maxHeartbeats 40000000 in
theorem own_hasGEG (l : Launch) (Z : State) (a0 : Array Value) (hw : ∀ d ∈ tables_1, d.before a0 Z = true) (ws : List Jvm.Cond) (o1 v1 : Addr) (kc : ClassId) (cs : Int32) (fv : Value) (h0 : Heap) (n0 : Nat) (Z0 : n0 ≤ h0.size) (H : own_Str Z h0 o1 v1 kc (2 : Int32) [(.int (62 : Int32)), (.int (61 : Int32))]) (SC : Sta Z h0 "java/lang/String" "COMPACT_STRINGS" "Z" (.int cs)) (hcs : ¬ cs = (0 : Int32)) (SF : Sta Z h0 "jdk/internal/util/Preconditions" "SIOOBE_FORMATTER" "Ljava/util/function/BiFunction;" fv) (hfv : fv.isRef = true) :
    MetFree l own_m7 (head1 (Jvm.Cond.code own_m7 method_2_code 4 (some .boolean) :: ws) ({ frames := 4, cells := 0, slots := 0, locals := 53 } : Room)) (fun a U => a = #[(.ref o1), (.int (62 : Int32))] ∧ Z.Warmed39 U.vm ∧ U.heap = h0) (fun _ _ _ _ _ => True) (fun _ U o U' => ∃ v L, o = .returned v ∧ Qown_hasGEG Z o1 v1 kc cs fv h0 n0 v U'.heap L ∧ FrameEnd U o U' L ({ frames := 4, cells := 0, slots := 0, locals := 53 } : Room).cells ({ frames := 4, cells := 0, slots := 0, locals := 53 } : Room).slots) := by
  refine MetFree.of_bodySF (plainFor_of_name own_pn3) hisR ?_
  intro p e s m args below meth c s₁ Bd hml0 hP hK
  obtain ⟨rfl, hZ, hh⟩ := hP
  have hx := Bd.exec
  have hby := Bd.bytes
  have hml : c.maxLocals = 4 := hml0
  have hown : s.vm.findClass "com/example/dirwarden/dirwarden/aci/ComparisonHoldsPinLaw" = some m.cls := by have q := findClass_of_methodNamed Bd.named; exact q
  have hnm := (name_of_methodNamed Bd.named Bd.method).1
  have X0 : Stand p l e ({ frames := 4, cells := 0, slots := 0, locals := 53 } : Room) s m #[(.ref o1), (.int (62 : Int32))] below meth c s₁ [] 0 0 := Stand.of_body Bd
  have e0 : s₁.heap = h0 := by rw [← hh, Bd.state]; rfl
  have N0 := Fr.nil n0
  have pre0 : ∀ t, Steps p.tables e below (s₁.setTop (mkF m 0 #[.val (.ref o1), .val (.int (62 : Int32)), .unset, .unset] [])) t → Steps p.tables e below (s₁.setTop (entryFrame m #[(.ref o1), (.int (62 : Int32))] 4)) t := fun t k => castTop (by first | (simp [entryFrame, mkF, argsToLocals, Value.category, maxLocals]; done) | rfl) k
  obtain ⟨cq101, kq101, q101a, q101b, q101c⟩ := isOf hZ e0 H.1
  obtain ⟨_, _, ⟨T101, L101, k101, n101⟩, -, X101, ⟨Lc101, hQ101, l101, y101, z101⟩, st101⟩ := X0.virtualBack hx (y := own_m6) (z := own_m6) hown (mvT hZ (own_w28 hw)) (mvT hZ (own_w29 hw)) (notFace_of_selects (args := #[]) (mvT hZ (own_w31 hw))) (mvT hZ (own_w31 hw)) (mvT hZ (own_w30 hw)) (by decide) (backOf (W := 0) (own_lenGE l Z a0 hw [] o1 v1 kc cs fv h0 n0 Z0 H SC hcs SF hfv) hZ (own_w33 hw) (own_w32 hw) (by decide) (by decide)) q101a q101c (g := (mkF m 1 #[.val (.ref o1), .val (.int (62 : Int32)), .unset, .unset] [(.ref o1)])) rfl (by rw [hml]; rfl) (Steps.refl _) (argsL := []) (rest := []) (lenOf own_pd5 rfl) rfl (by show 2 * 0 + _ ≤ _; exact Nat.le_of_eq rfl) (hb hby own_d2_1) (fun _ _ => ⟨rfl, e0, (by decide : 0 + 0 ≤ _), (by decide : 0 + 0 ≤ _)⟩)
  dsimp only [Pt.U, Pt.locs, Pt.cells, Pt.slots] at X101 l101 y101 z101 st101 hQ101
  subst l101 y101 z101
  obtain ⟨rfl, N101q, e101⟩ := hQ101
  have N101 := Fr.app N0 N101q
  obtain ⟨cq102, kq102, q102a, q102b, q102c⟩ := isOf hZ e101 H.1
  obtain ⟨_, _, ⟨T102, L102, k102, n102⟩, -, X102, ⟨Lc102, hQ102, l102, y102, z102⟩, st102⟩ := X101.virtualBack hx (y := own_m5) (z := own_m5) hown (mvT hZ (own_w44 hw)) (mvT hZ (own_w45 hw)) (notFace_of_selects (args := #[]) (mvT hZ (own_w47 hw))) (mvT hZ (own_w47 hw)) (mvT hZ (own_w46 hw)) (by decide) (backOf (W := 0) (own_caGE0 l Z a0 hw [] o1 v1 kc cs fv h0 n0 Z0 H SC hcs SF hfv) hZ (own_w48 hw) (own_w32 hw) (by decide) (by decide)) q102a q102c (g := (mkF m 10 #[.val (.ref o1), .val (.int (62 : Int32)), .unset, .unset] [(.int (0 : Int32)), (.ref o1)])) rfl (by rw [hml]; rfl) (Steps.refl _) (argsL := [(.int (0 : Int32))]) (rest := []) (lenOf own_pd6 rfl) rfl (by show 2 * 0 + _ ≤ _; exact Nat.le_of_eq rfl) (hb hby own_d2_10) (fun _ _ => ⟨rfl, e101, (by decide : 0 + 0 ≤ _), (by decide : 0 + 0 ≤ _)⟩)
  dsimp only [Pt.U, Pt.locs, Pt.cells, Pt.slots] at X102 l102 y102 z102 st102 hQ102
  subst l102 y102 z102
  obtain ⟨rfl, N102q, e102⟩ := hQ102
  have N102 := Fr.app N101 N102q
  obtain ⟨cq103, kq103, q103a, q103b, q103c⟩ := isOf hZ e102 H.1
  obtain ⟨_, _, ⟨T103, L103, k103, n103⟩, -, X103, ⟨Lc103, hQ103, l103, y103, z103⟩, st103⟩ := X102.virtualBack hx (y := own_m6) (z := own_m6) hown (mvT hZ (own_w28 hw)) (mvT hZ (own_w29 hw)) (notFace_of_selects (args := #[]) (mvT hZ (own_w31 hw))) (mvT hZ (own_w31 hw)) (mvT hZ (own_w30 hw)) (by decide) (backOf (W := 0) (own_lenGE l Z a0 hw [] o1 v1 kc cs fv h0 n0 Z0 H SC hcs SF hfv) hZ (own_w33 hw) (own_w32 hw) (by decide) (by decide)) q103a q103c (g := (mkF m 24 #[.val (.ref o1), .val (.int (62 : Int32)), .val (.int (1 : Int32)), .unset] [(.ref o1)])) rfl (by rw [hml]; rfl) (Steps.refl _) (argsL := []) (rest := []) (lenOf own_pd5 rfl) rfl (by show 2 * 0 + _ ≤ _; exact Nat.le_of_eq rfl) (hb hby own_d2_24) (fun _ _ => ⟨rfl, e102, (by decide : 0 + 0 ≤ _), (by decide : 0 + 0 ≤ _)⟩)
  dsimp only [Pt.U, Pt.locs, Pt.cells, Pt.slots] at X103 l103 y103 z103 st103 hQ103
  subst l103 y103 z103
  obtain ⟨rfl, N103q, e103⟩ := hQ103
  have N103 := Fr.app N102 N103q
  obtain ⟨cq104, kq104, q104a, q104b, q104c⟩ := isOf hZ e103 H.1
  obtain ⟨_, _, ⟨T104, L104, k104, n104⟩, -, X104, ⟨Lc104, hQ104, l104, y104, z104⟩, st104⟩ := X103.virtualBack hx (y := own_m5) (z := own_m5) hown (mvT hZ (own_w44 hw)) (mvT hZ (own_w45 hw)) (notFace_of_selects (args := #[]) (mvT hZ (own_w47 hw))) (mvT hZ (own_w47 hw)) (mvT hZ (own_w46 hw)) (by decide) (backOf (W := 0) (own_caGE1 l Z a0 hw [] o1 v1 kc cs fv h0 n0 Z0 H SC hcs SF hfv) hZ (own_w48 hw) (own_w32 hw) (by decide) (by decide)) q104a q104c (g := (mkF m 33 #[.val (.ref o1), .val (.int (62 : Int32)), .val (.int (1 : Int32)), .unset] [(.int (1 : Int32)), (.ref o1)])) rfl (by rw [hml]; rfl) (Steps.refl _) (argsL := [(.int (1 : Int32))]) (rest := []) (lenOf own_pd6 rfl) rfl (by show 2 * 0 + _ ≤ _; exact Nat.le_of_eq rfl) (hb hby own_d2_33) (fun _ _ => ⟨rfl, e103, (by decide : 0 + 0 ≤ _), (by decide : 0 + 0 ≤ _)⟩)
  dsimp only [Pt.U, Pt.locs, Pt.cells, Pt.slots] at X104 l104 y104 z104 st104 hQ104
  subst l104 y104 z104
  obtain ⟨rfl, N104q, e104⟩ := hQ104
  have N104 := Fr.app N103 N104q
  obtain ⟨fs, hr, hrun, hended, hW, hsame⟩ := X104.leave (v := some (.int (1 : Int32))) (fun h => by rw [Bd.returns] at h; cases h)
  refine ⟨_, _, pre0 _ ?_, hrun, hended, _, _, rfl, ?_, ⟨_, rfl⟩, hW, hsame.mono (by decide) (by decide)⟩
  · show Steps _ _ _ (s₁.setTop (mkF m 0 #[.val (.ref o1), .val (.int (62 : Int32)), .unset, .unset] [])) _
    refine XS.aloadN X0.here hx rfl (hb hby own_d2_0) rfl rfl ?_
    refine st101.trans ?_
    refine XS.iconst X101.here hx rfl (hb hby own_d2_4) ?_
    refine XS.icmpNo X101.here hx rfl (hb hby own_d2_5) rfl (flt (by decide : ¬ ((2 : Int32) < (1 : Int32)))).1 ?_
    show Steps _ _ _ (T101.setTop (mkF m 8 #[.val (.ref o1), .val (.int (62 : Int32)), .unset, .unset] [])) _
    refine XS.aloadN X101.here hx rfl (hb hby own_d2_8) rfl rfl ?_
    refine XS.iconst X101.here hx rfl (hb hby own_d2_9) ?_
    refine st102.trans ?_
    refine XS.iloadN X102.here hx rfl (hb hby own_d2_13) rfl ?_
    show Steps _ _ _ (T102.setTop (mkF m 14 #[.val (.ref o1), .val (.int (62 : Int32)), .unset, .unset] [(.int (62 : Int32)), (.int (62 : Int32))])) _
    refine XS.icmpNo X102.here hx rfl (hb hby own_d2_14) rfl (teq (by decide : (62 : Int32) = (62 : Int32))).2 ?_
    refine XS.iconst X102.here hx rfl (hb hby own_d2_17) ?_
    refine XS.goto X102.here hx rfl (pc0 := 18) (pc' := 22) rfl (hb hby own_d2_18) (by decide) (by decide) ?_
    refine XS.istoreN X102.here hx rfl (hb hby own_d2_22) rfl (l' := #[.val (.ref o1), .val (.int (62 : Int32)), .val (.int (1 : Int32)), .unset]) rfl ?_
    show Steps _ _ _ (T102.setTop (mkF m 23 #[.val (.ref o1), .val (.int (62 : Int32)), .val (.int (1 : Int32)), .unset] [])) _
    refine XS.aloadN X102.here hx rfl (hb hby own_d2_23) rfl rfl ?_
    refine st103.trans ?_
    refine XS.iconst X103.here hx rfl (hb hby own_d2_27) ?_
    refine XS.icmpNo X103.here hx rfl (hb hby own_d2_28) rfl (flt (by decide : ¬ ((2 : Int32) < (2 : Int32)))).1 ?_
    show Steps _ _ _ (T103.setTop (mkF m 31 #[.val (.ref o1), .val (.int (62 : Int32)), .val (.int (1 : Int32)), .unset] [])) _
    refine XS.aloadN X103.here hx rfl (hb hby own_d2_31) rfl rfl ?_
    refine XS.iconst X103.here hx rfl (hb hby own_d2_32) ?_
    refine st104.trans ?_
    refine XS.iloadN X104.here hx rfl (hb hby own_d2_36) rfl ?_
    show Steps _ _ _ (T104.setTop (mkF m 37 #[.val (.ref o1), .val (.int (62 : Int32)), .val (.int (1 : Int32)), .unset] [(.int (62 : Int32)), (.int (61 : Int32))])) _
    refine XS.icmpYes X104.here hx rfl (pc0 := 37) (pc' := 44) rfl (hb hby own_d2_37) rfl (feq (by decide : ¬ ((61 : Int32) = (62 : Int32)))).2 (by decide) (by decide) ?_
    refine XS.iconst X104.here hx rfl (hb hby own_d2_44) ?_
    refine XS.istoreN X104.here hx rfl (hb hby own_d2_45) rfl (l' := #[.val (.ref o1), .val (.int (62 : Int32)), .val (.int (1 : Int32)), .val (.int (0 : Int32))]) rfl ?_
    refine XS.iloadN X104.here hx rfl (hb hby own_d2_46) rfl ?_
    show Steps _ _ _ (T104.setTop (mkF m 47 #[.val (.ref o1), .val (.int (62 : Int32)), .val (.int (1 : Int32)), .val (.int (0 : Int32))] [(.int (1 : Int32))])) _
    refine XS.ifYes X104.here hx rfl (pc0 := 47) (pc' := 54) rfl (hb hby own_d2_47) rfl ((if0 _ _).trans (feq (by decide : ¬ ((1 : Int32) = (0 : Int32)))).2) (by decide) (by decide) ?_
    refine XS.iconst X104.here hx rfl (hb hby own_d2_54) ?_
    refine XS.goto X104.here hx rfl (pc0 := 55) (pc' := 59) rfl (hb hby own_d2_55) (by decide) (by decide) ?_
    show Steps _ _ _ (T104.setTop (mkF m 59 #[.val (.ref o1), .val (.int (62 : Int32)), .val (.int (1 : Int32)), .val (.int (0 : Int32))] [(.int (1 : Int32))])) _
    exact retN X104 hx (t := .boolean) Bd.returns (by simp) (hb hby own_d2_59) hr
  · show Qown_hasGEG Z o1 v1 kc cs fv h0 n0 _ T104.heap _
    rw [e104]
    exact ⟨rfl, N104, rfl⟩
def Qown_hasEL (Z : State) (o1 v1 : Addr) (kc : ClassId) (cs : Int32) (fv : Value) (h0 : Heap) (n0 : Nat) (v : Option Value) (h : Heap) (L : List Loc) : Prop := v = some (.int (0 : Int32)) ∧ Fr n0 L ∧ h = h0
set_option maxRecDepth 65536 in
set_option maxHeartbeats 40000000 in
theorem own_hasEL (l : Launch) (Z : State) (a0 : Array Value) (hw : ∀ d ∈ tables_1, d.before a0 Z = true) (ws : List Jvm.Cond) (o1 v1 : Addr) (kc : ClassId) (cs : Int32) (fv : Value) (h0 : Heap) (n0 : Nat) (Z0 : n0 ≤ h0.size) (H : own_Str Z h0 o1 v1 kc (1 : Int32) [(.int (61 : Int32))]) (SC : Sta Z h0 "java/lang/String" "COMPACT_STRINGS" "Z" (.int cs)) (hcs : ¬ cs = (0 : Int32)) (SF : Sta Z h0 "jdk/internal/util/Preconditions" "SIOOBE_FORMATTER" "Ljava/util/function/BiFunction;" fv) (hfv : fv.isRef = true) :
    MetFree l own_m7 (head1 (Jvm.Cond.code own_m7 method_2_code 4 (some .boolean) :: ws) ({ frames := 4, cells := 0, slots := 0, locals := 53 } : Room)) (fun a U => a = #[(.ref o1), (.int (60 : Int32))] ∧ Z.Warmed39 U.vm ∧ U.heap = h0) (fun _ _ _ _ _ => True) (fun _ U o U' => ∃ v L, o = .returned v ∧ Qown_hasEL Z o1 v1 kc cs fv h0 n0 v U'.heap L ∧ FrameEnd U o U' L ({ frames := 4, cells := 0, slots := 0, locals := 53 } : Room).cells ({ frames := 4, cells := 0, slots := 0, locals := 53 } : Room).slots) := by
  refine MetFree.of_bodySF (plainFor_of_name own_pn3) hisR ?_
  intro p e s m args below meth c s₁ Bd hml0 hP hK
  obtain ⟨rfl, hZ, hh⟩ := hP
  have hx := Bd.exec
  have hby := Bd.bytes
  have hml : c.maxLocals = 4 := hml0
  have hown : s.vm.findClass "com/example/dirwarden/dirwarden/aci/ComparisonHoldsPinLaw" = some m.cls := by have q := findClass_of_methodNamed Bd.named; exact q
  have hnm := (name_of_methodNamed Bd.named Bd.method).1
  have X0 : Stand p l e ({ frames := 4, cells := 0, slots := 0, locals := 53 } : Room) s m #[(.ref o1), (.int (60 : Int32))] below meth c s₁ [] 0 0 := Stand.of_body Bd
  have e0 : s₁.heap = h0 := by rw [← hh, Bd.state]; rfl
  have N0 := Fr.nil n0
  have pre0 : ∀ t, Steps p.tables e below (s₁.setTop (mkF m 0 #[.val (.ref o1), .val (.int (60 : Int32)), .unset, .unset] [])) t → Steps p.tables e below (s₁.setTop (entryFrame m #[(.ref o1), (.int (60 : Int32))] 4)) t := fun t k => castTop (by first | (simp [entryFrame, mkF, argsToLocals, Value.category, maxLocals]; done) | rfl) k
  obtain ⟨cq101, kq101, q101a, q101b, q101c⟩ := isOf hZ e0 H.1
  obtain ⟨_, _, ⟨T101, L101, k101, n101⟩, -, X101, ⟨Lc101, hQ101, l101, y101, z101⟩, st101⟩ := X0.virtualBack hx (y := own_m6) (z := own_m6) hown (mvT hZ (own_w28 hw)) (mvT hZ (own_w29 hw)) (notFace_of_selects (args := #[]) (mvT hZ (own_w31 hw))) (mvT hZ (own_w31 hw)) (mvT hZ (own_w30 hw)) (by decide) (backOf (W := 0) (own_lenE l Z a0 hw [] o1 v1 kc cs fv h0 n0 Z0 H SC hcs SF hfv) hZ (own_w33 hw) (own_w32 hw) (by decide) (by decide)) q101a q101c (g := (mkF m 1 #[.val (.ref o1), .val (.int (60 : Int32)), .unset, .unset] [(.ref o1)])) rfl (by rw [hml]; rfl) (Steps.refl _) (argsL := []) (rest := []) (lenOf own_pd5 rfl) rfl (by show 2 * 0 + _ ≤ _; exact Nat.le_of_eq rfl) (hb hby own_d2_1) (fun _ _ => ⟨rfl, e0, (by decide : 0 + 0 ≤ _), (by decide : 0 + 0 ≤ _)⟩)
  dsimp only [Pt.U, Pt.locs, Pt.cells, Pt.slots] at X101 l101 y101 z101 st101 hQ101
  subst l101 y101 z101
  obtain ⟨rfl, N101q, e101⟩ := hQ101
  have N101 := Fr.app N0 N101q
  obtain ⟨cq102, kq102, q102a, q102b, q102c⟩ := isOf hZ e101 H.1
  obtain ⟨_, _, ⟨T102, L102, k102, n102⟩, -, X102, ⟨Lc102, hQ102, l102, y102, z102⟩, st102⟩ := X101.virtualBack hx (y := own_m5) (z := own_m5) hown (mvT hZ (own_w44 hw)) (mvT hZ (own_w45 hw)) (notFace_of_selects (args := #[]) (mvT hZ (own_w47 hw))) (mvT hZ (own_w47 hw)) (mvT hZ (own_w46 hw)) (by decide) (backOf (W := 0) (own_caE0 l Z a0 hw [] o1 v1 kc cs fv h0 n0 Z0 H SC hcs SF hfv) hZ (own_w48 hw) (own_w32 hw) (by decide) (by decide)) q102a q102c (g := (mkF m 10 #[.val (.ref o1), .val (.int (60 : Int32)), .unset, .unset] [(.int (0 : Int32)), (.ref o1)])) rfl (by rw [hml]; rfl) (Steps.refl _) (argsL := [(.int (0 : Int32))]) (rest := []) (lenOf own_pd6 rfl) rfl (by show 2 * 0 + _ ≤ _; exact Nat.le_of_eq rfl) (hb hby own_d2_10) (fun _ _ => ⟨rfl, e101, (by decide : 0 + 0 ≤ _), (by decide : 0 + 0 ≤ _)⟩)
  dsimp only [Pt.U, Pt.locs, Pt.cells, Pt.slots] at X102 l102 y102 z102 st102 hQ102
  subst l102 y102 z102
  obtain ⟨rfl, N102q, e102⟩ := hQ102
  have N102 := Fr.app N101 N102q
  obtain ⟨cq103, kq103, q103a, q103b, q103c⟩ := isOf hZ e102 H.1
  obtain ⟨_, _, ⟨T103, L103, k103, n103⟩, -, X103, ⟨Lc103, hQ103, l103, y103, z103⟩, st103⟩ := X102.virtualBack hx (y := own_m6) (z := own_m6) hown (mvT hZ (own_w28 hw)) (mvT hZ (own_w29 hw)) (notFace_of_selects (args := #[]) (mvT hZ (own_w31 hw))) (mvT hZ (own_w31 hw)) (mvT hZ (own_w30 hw)) (by decide) (backOf (W := 0) (own_lenE l Z a0 hw [] o1 v1 kc cs fv h0 n0 Z0 H SC hcs SF hfv) hZ (own_w33 hw) (own_w32 hw) (by decide) (by decide)) q103a q103c (g := (mkF m 24 #[.val (.ref o1), .val (.int (60 : Int32)), .val (.int (0 : Int32)), .unset] [(.ref o1)])) rfl (by rw [hml]; rfl) (Steps.refl _) (argsL := []) (rest := []) (lenOf own_pd5 rfl) rfl (by show 2 * 0 + _ ≤ _; exact Nat.le_of_eq rfl) (hb hby own_d2_24) (fun _ _ => ⟨rfl, e102, (by decide : 0 + 0 ≤ _), (by decide : 0 + 0 ≤ _)⟩)
  dsimp only [Pt.U, Pt.locs, Pt.cells, Pt.slots] at X103 l103 y103 z103 st103 hQ103
  subst l103 y103 z103
  obtain ⟨rfl, N103q, e103⟩ := hQ103
  have N103 := Fr.app N102 N103q
  obtain ⟨fs, hr, hrun, hended, hW, hsame⟩ := X103.leave (v := some (.int (0 : Int32))) (fun h => by rw [Bd.returns] at h; cases h)
  refine ⟨_, _, pre0 _ ?_, hrun, hended, _, _, rfl, ?_, ⟨_, rfl⟩, hW, hsame.mono (by decide) (by decide)⟩
  · show Steps _ _ _ (s₁.setTop (mkF m 0 #[.val (.ref o1), .val (.int (60 : Int32)), .unset, .unset] [])) _
    refine XS.aloadN X0.here hx rfl (hb hby own_d2_0) rfl rfl ?_
    refine st101.trans ?_
    refine XS.iconst X101.here hx rfl (hb hby own_d2_4) ?_
    refine XS.icmpNo X101.here hx rfl (hb hby own_d2_5) rfl (flt (by decide : ¬ ((1 : Int32) < (1 : Int32)))).1 ?_
    show Steps _ _ _ (T101.setTop (mkF m 8 #[.val (.ref o1), .val (.int (60 : Int32)), .unset, .unset] [])) _
    refine XS.aloadN X101.here hx rfl (hb hby own_d2_8) rfl rfl ?_
    refine XS.iconst X101.here hx rfl (hb hby own_d2_9) ?_
    refine st102.trans ?_
    refine XS.iloadN X102.here hx rfl (hb hby own_d2_13) rfl ?_
    show Steps _ _ _ (T102.setTop (mkF m 14 #[.val (.ref o1), .val (.int (60 : Int32)), .unset, .unset] [(.int (60 : Int32)), (.int (61 : Int32))])) _
    refine XS.icmpYes X102.here hx rfl (pc0 := 14) (pc' := 21) rfl (hb hby own_d2_14) rfl (feq (by decide : ¬ ((61 : Int32) = (60 : Int32)))).2 (by decide) (by decide) ?_
    refine XS.iconst X102.here hx rfl (hb hby own_d2_21) ?_
    refine XS.istoreN X102.here hx rfl (hb hby own_d2_22) rfl (l' := #[.val (.ref o1), .val (.int (60 : Int32)), .val (.int (0 : Int32)), .unset]) rfl ?_
    refine XS.aloadN X102.here hx rfl (hb hby own_d2_23) rfl rfl ?_
    show Steps _ _ _ (T102.setTop (mkF m 24 #[.val (.ref o1), .val (.int (60 : Int32)), .val (.int (0 : Int32)), .unset] [(.ref o1)])) _
    refine st103.trans ?_
    refine XS.iconst X103.here hx rfl (hb hby own_d2_27) ?_
    refine XS.icmpYes X103.here hx rfl (pc0 := 28) (pc' := 44) rfl (hb hby own_d2_28) rfl (tlt (by decide : (1 : Int32) < (2 : Int32))).1 (by decide) (by decide) ?_
    refine XS.iconst X103.here hx rfl (hb hby own_d2_44) ?_
    show Steps _ _ _ (T103.setTop (mkF m 45 #[.val (.ref o1), .val (.int (60 : Int32)), .val (.int (0 : Int32)), .unset] [(.int (0 : Int32))])) _
    refine XS.istoreN X103.here hx rfl (hb hby own_d2_45) rfl (l' := #[.val (.ref o1), .val (.int (60 : Int32)), .val (.int (0 : Int32)), .val (.int (0 : Int32))]) rfl ?_
    refine XS.iloadN X103.here hx rfl (hb hby own_d2_46) rfl ?_
    refine XS.ifNo X103.here hx rfl (hb hby own_d2_47) rfl ((if0 _ _).trans (teq (by decide : (0 : Int32) = (0 : Int32))).2) ?_
    refine XS.iloadN X103.here hx rfl (hb hby own_d2_50) rfl ?_
    show Steps _ _ _ (T103.setTop (mkF m 51 #[.val (.ref o1), .val (.int (60 : Int32)), .val (.int (0 : Int32)), .val (.int (0 : Int32))] [(.int (0 : Int32))])) _
    refine XS.ifYes X103.here hx rfl (pc0 := 51) (pc' := 58) rfl (hb hby own_d2_51) rfl ((if0 _ _).trans (teq (by decide : (0 : Int32) = (0 : Int32))).1) (by decide) (by decide) ?_
    refine XS.iconst X103.here hx rfl (hb hby own_d2_58) ?_
    show Steps _ _ _ (T103.setTop (mkF m 59 #[.val (.ref o1), .val (.int (60 : Int32)), .val (.int (0 : Int32)), .val (.int (0 : Int32))] [(.int (0 : Int32))])) _
    exact retN X103 hx (t := .boolean) Bd.returns (by simp) (hb hby own_d2_59) hr
  · show Qown_hasEL Z o1 v1 kc cs fv h0 n0 _ T103.heap _
    rw [e103]
    exact ⟨rfl, N103, rfl⟩
def Qown_hasEE (Z : State) (o1 v1 : Addr) (kc : ClassId) (cs : Int32) (fv : Value) (h0 : Heap) (n0 : Nat) (v : Option Value) (h : Heap) (L : List Loc) : Prop := v = some (.int (1 : Int32)) ∧ Fr n0 L ∧ h = h0
set_option maxRecDepth 65536 in
set_option maxHeartbeats 40000000 in
theorem own_hasEE (l : Launch) (Z : State) (a0 : Array Value) (hw : ∀ d ∈ tables_1, d.before a0 Z = true) (ws : List Jvm.Cond) (o1 v1 : Addr) (kc : ClassId) (cs : Int32) (fv : Value) (h0 : Heap) (n0 : Nat) (Z0 : n0 ≤ h0.size) (H : own_Str Z h0 o1 v1 kc (1 : Int32) [(.int (61 : Int32))]) (SC : Sta Z h0 "java/lang/String" "COMPACT_STRINGS" "Z" (.int cs)) (hcs : ¬ cs = (0 : Int32)) (SF : Sta Z h0 "jdk/internal/util/Preconditions" "SIOOBE_FORMATTER" "Ljava/util/function/BiFunction;" fv) (hfv : fv.isRef = true) :
    MetFree l own_m7 (head1 (Jvm.Cond.code own_m7 method_2_code 4 (some .boolean) :: ws) ({ frames := 4, cells := 0, slots := 0, locals := 53 } : Room)) (fun a U => a = #[(.ref o1), (.int (61 : Int32))] ∧ Z.Warmed39 U.vm ∧ U.heap = h0) (fun _ _ _ _ _ => True) (fun _ U o U' => ∃ v L, o = .returned v ∧ Qown_hasEE Z o1 v1 kc cs fv h0 n0 v U'.heap L ∧ FrameEnd U o U' L ({ frames := 4, cells := 0, slots := 0, locals := 53 } : Room).cells ({ frames := 4, cells := 0, slots := 0, locals := 53 } : Room).slots) := by
  refine MetFree.of_bodySF (plainFor_of_name own_pn3) hisR ?_
  intro p e s m args below meth c s₁ Bd hml0 hP hK
  obtain ⟨rfl, hZ, hh⟩ := hP
  have hx := Bd.exec
  have hby := Bd.bytes
  have hml : c.maxLocals = 4 := hml0
  have hown : s.vm.findClass "com/example/dirwarden/dirwarden/aci/ComparisonHoldsPinLaw" = some m.cls := by have q := findClass_of_methodNamed Bd.named; exact q
  have hnm := (name_of_methodNamed Bd.named Bd.method).1
  have X0 : Stand p l e ({ frames := 4, cells := 0, slots := 0, locals := 53 } : Room) s m #[(.ref o1), (.int (61 : Int32))] below meth c s₁ [] 0 0 := Stand.of_body Bd
  have e0 : s₁.heap = h0 := by rw [← hh, Bd.state]; rfl
  have N0 := Fr.nil n0
  have pre0 : ∀ t, Steps p.tables e below (s₁.setTop (mkF m 0 #[.val (.ref o1), .val (.int (61 : Int32)), .unset, .unset] [])) t → Steps p.tables e below (s₁.setTop (entryFrame m #[(.ref o1), (.int (61 : Int32))] 4)) t := fun t k => castTop (by first | (simp [entryFrame, mkF, argsToLocals, Value.category, maxLocals]; done) | rfl) k
  obtain ⟨cq101, kq101, q101a, q101b, q101c⟩ := isOf hZ e0 H.1
  obtain ⟨_, _, ⟨T101, L101, k101, n101⟩, -, X101, ⟨Lc101, hQ101, l101, y101, z101⟩, st101⟩ := X0.virtualBack hx (y := own_m6) (z := own_m6) hown (mvT hZ (own_w28 hw)) (mvT hZ (own_w29 hw)) (notFace_of_selects (args := #[]) (mvT hZ (own_w31 hw))) (mvT hZ (own_w31 hw)) (mvT hZ (own_w30 hw)) (by decide) (backOf (W := 0) (own_lenE l Z a0 hw [] o1 v1 kc cs fv h0 n0 Z0 H SC hcs SF hfv) hZ (own_w33 hw) (own_w32 hw) (by decide) (by decide)) q101a q101c (g := (mkF m 1 #[.val (.ref o1), .val (.int (61 : Int32)), .unset, .unset] [(.ref o1)])) rfl (by rw [hml]; rfl) (Steps.refl _) (argsL := []) (rest := []) (lenOf own_pd5 rfl) rfl (by show 2 * 0 + _ ≤ _; exact Nat.le_of_eq rfl) (hb hby own_d2_1) (fun _ _ => ⟨rfl, e0, (by decide : 0 + 0 ≤ _), (by decide : 0 + 0 ≤ _)⟩)
  dsimp only [Pt.U, Pt.locs, Pt.cells, Pt.slots] at X101 l101 y101 z101 st101 hQ101
  subst l101 y101 z101
  obtain ⟨rfl, N101q, e101⟩ := hQ101
  have N101 := Fr.app N0 N101q
  obtain ⟨cq102, kq102, q102a, q102b, q102c⟩ := isOf hZ e101 H.1
  obtain ⟨_, _, ⟨T102, L102, k102, n102⟩, -, X102, ⟨Lc102, hQ102, l102, y102, z102⟩, st102⟩ := X101.virtualBack hx (y := own_m5) (z := own_m5) hown (mvT hZ (own_w44 hw)) (mvT hZ (own_w45 hw)) (notFace_of_selects (args := #[]) (mvT hZ (own_w47 hw))) (mvT hZ (own_w47 hw)) (mvT hZ (own_w46 hw)) (by decide) (backOf (W := 0) (own_caE0 l Z a0 hw [] o1 v1 kc cs fv h0 n0 Z0 H SC hcs SF hfv) hZ (own_w48 hw) (own_w32 hw) (by decide) (by decide)) q102a q102c (g := (mkF m 10 #[.val (.ref o1), .val (.int (61 : Int32)), .unset, .unset] [(.int (0 : Int32)), (.ref o1)])) rfl (by rw [hml]; rfl) (Steps.refl _) (argsL := [(.int (0 : Int32))]) (rest := []) (lenOf own_pd6 rfl) rfl (by show 2 * 0 + _ ≤ _; exact Nat.le_of_eq rfl) (hb hby own_d2_10) (fun _ _ => ⟨rfl, e101, (by decide : 0 + 0 ≤ _), (by decide : 0 + 0 ≤ _)⟩)
  dsimp only [Pt.U, Pt.locs, Pt.cells, Pt.slots] at X102 l102 y102 z102 st102 hQ102
  subst l102 y102 z102
  obtain ⟨rfl, N102q, e102⟩ := hQ102
  have N102 := Fr.app N101 N102q
  obtain ⟨cq103, kq103, q103a, q103b, q103c⟩ := isOf hZ e102 H.1
  obtain ⟨_, _, ⟨T103, L103, k103, n103⟩, -, X103, ⟨Lc103, hQ103, l103, y103, z103⟩, st103⟩ := X102.virtualBack hx (y := own_m6) (z := own_m6) hown (mvT hZ (own_w28 hw)) (mvT hZ (own_w29 hw)) (notFace_of_selects (args := #[]) (mvT hZ (own_w31 hw))) (mvT hZ (own_w31 hw)) (mvT hZ (own_w30 hw)) (by decide) (backOf (W := 0) (own_lenE l Z a0 hw [] o1 v1 kc cs fv h0 n0 Z0 H SC hcs SF hfv) hZ (own_w33 hw) (own_w32 hw) (by decide) (by decide)) q103a q103c (g := (mkF m 24 #[.val (.ref o1), .val (.int (61 : Int32)), .val (.int (1 : Int32)), .unset] [(.ref o1)])) rfl (by rw [hml]; rfl) (Steps.refl _) (argsL := []) (rest := []) (lenOf own_pd5 rfl) rfl (by show 2 * 0 + _ ≤ _; exact Nat.le_of_eq rfl) (hb hby own_d2_24) (fun _ _ => ⟨rfl, e102, (by decide : 0 + 0 ≤ _), (by decide : 0 + 0 ≤ _)⟩)
  dsimp only [Pt.U, Pt.locs, Pt.cells, Pt.slots] at X103 l103 y103 z103 st103 hQ103
  subst l103 y103 z103
  obtain ⟨rfl, N103q, e103⟩ := hQ103
  have N103 := Fr.app N102 N103q
  obtain ⟨fs, hr, hrun, hended, hW, hsame⟩ := X103.leave (v := some (.int (1 : Int32))) (fun h => by rw [Bd.returns] at h; cases h)
  refine ⟨_, _, pre0 _ ?_, hrun, hended, _, _, rfl, ?_, ⟨_, rfl⟩, hW, hsame.mono (by decide) (by decide)⟩
  · show Steps _ _ _ (s₁.setTop (mkF m 0 #[.val (.ref o1), .val (.int (61 : Int32)), .unset, .unset] [])) _
    refine XS.aloadN X0.here hx rfl (hb hby own_d2_0) rfl rfl ?_
    refine st101.trans ?_
    refine XS.iconst X101.here hx rfl (hb hby own_d2_4) ?_
    refine XS.icmpNo X101.here hx rfl (hb hby own_d2_5) rfl (flt (by decide : ¬ ((1 : Int32) < (1 : Int32)))).1 ?_
    show Steps _ _ _ (T101.setTop (mkF m 8 #[.val (.ref o1), .val (.int (61 : Int32)), .unset, .unset] [])) _
    refine XS.aloadN X101.here hx rfl (hb hby own_d2_8) rfl rfl ?_
    refine XS.iconst X101.here hx rfl (hb hby own_d2_9) ?_
    refine st102.trans ?_
    refine XS.iloadN X102.here hx rfl (hb hby own_d2_13) rfl ?_
    show Steps _ _ _ (T102.setTop (mkF m 14 #[.val (.ref o1), .val (.int (61 : Int32)), .unset, .unset] [(.int (61 : Int32)), (.int (61 : Int32))])) _
    refine XS.icmpNo X102.here hx rfl (hb hby own_d2_14) rfl (teq (by decide : (61 : Int32) = (61 : Int32))).2 ?_
    refine XS.iconst X102.here hx rfl (hb hby own_d2_17) ?_
    refine XS.goto X102.here hx rfl (pc0 := 18) (pc' := 22) rfl (hb hby own_d2_18) (by decide) (by decide) ?_
    refine XS.istoreN X102.here hx rfl (hb hby own_d2_22) rfl (l' := #[.val (.ref o1), .val (.int (61 : Int32)), .val (.int (1 : Int32)), .unset]) rfl ?_
    show Steps _ _ _ (T102.setTop (mkF m 23 #[.val (.ref o1), .val (.int (61 : Int32)), .val (.int (1 : Int32)), .unset] [])) _
    refine XS.aloadN X102.here hx rfl (hb hby own_d2_23) rfl rfl ?_
    refine st103.trans ?_
    refine XS.iconst X103.here hx rfl (hb hby own_d2_27) ?_
    refine XS.icmpYes X103.here hx rfl (pc0 := 28) (pc' := 44) rfl (hb hby own_d2_28) rfl (tlt (by decide : (1 : Int32) < (2 : Int32))).1 (by decide) (by decide) ?_
    show Steps _ _ _ (T103.setTop (mkF m 44 #[.val (.ref o1), .val (.int (61 : Int32)), .val (.int (1 : Int32)), .unset] [])) _
    refine XS.iconst X103.here hx rfl (hb hby own_d2_44) ?_
    refine XS.istoreN X103.here hx rfl (hb hby own_d2_45) rfl (l' := #[.val (.ref o1), .val (.int (61 : Int32)), .val (.int (1 : Int32)), .val (.int (0 : Int32))]) rfl ?_
    refine XS.iloadN X103.here hx rfl (hb hby own_d2_46) rfl ?_
    refine XS.ifYes X103.here hx rfl (pc0 := 47) (pc' := 54) rfl (hb hby own_d2_47) rfl ((if0 _ _).trans (feq (by decide : ¬ ((1 : Int32) = (0 : Int32)))).2) (by decide) (by decide) ?_
    show Steps _ _ _ (T103.setTop (mkF m 54 #[.val (.ref o1), .val (.int (61 : Int32)), .val (.int (1 : Int32)), .val (.int (0 : Int32))] [])) _
    refine XS.iconst X103.here hx rfl (hb hby own_d2_54) ?_
    refine XS.goto X103.here hx rfl (pc0 := 55) (pc' := 59) rfl (hb hby own_d2_55) (by decide) (by decide) ?_
    show Steps _ _ _ (T103.setTop (mkF m 59 #[.val (.ref o1), .val (.int (61 : Int32)), .val (.int (1 : Int32)), .val (.int (0 : Int32))] [(.int (1 : Int32))])) _
    exact retN X103 hx (t := .boolean) Bd.returns (by simp) (hb hby own_d2_59) hr
  · show Qown_hasEE Z o1 v1 kc cs fv h0 n0 _ T103.heap _
    rw [e103]
    exact ⟨rfl, N103, rfl⟩
def Qown_hasEG (Z : State) (o1 v1 : Addr) (kc : ClassId) (cs : Int32) (fv : Value) (h0 : Heap) (n0 : Nat) (v : Option Value) (h : Heap) (L : List Loc) : Prop := v = some (.int (0 : Int32)) ∧ Fr n0 L ∧ h = h0
set_option maxRecDepth 65536 in
set_option maxHeartbeats 40000000 in
theorem own_hasEG (l : Launch) (Z : State) (a0 : Array Value) (hw : ∀ d ∈ tables_1, d.before a0 Z = true) (ws : List Jvm.Cond) (o1 v1 : Addr) (kc : ClassId) (cs : Int32) (fv : Value) (h0 : Heap) (n0 : Nat) (Z0 : n0 ≤ h0.size) (H : own_Str Z h0 o1 v1 kc (1 : Int32) [(.int (61 : Int32))]) (SC : Sta Z h0 "java/lang/String" "COMPACT_STRINGS" "Z" (.int cs)) (hcs : ¬ cs = (0 : Int32)) (SF : Sta Z h0 "jdk/internal/util/Preconditions" "SIOOBE_FORMATTER" "Ljava/util/function/BiFunction;" fv) (hfv : fv.isRef = true) :
    MetFree l own_m7 (head1 (Jvm.Cond.code own_m7 method_2_code 4 (some .boolean) :: ws) ({ frames := 4, cells := 0, slots := 0, locals := 53 } : Room)) (fun a U => a = #[(.ref o1), (.int (62 : Int32))] ∧ Z.Warmed39 U.vm ∧ U.heap = h0) (fun _ _ _ _ _ => True) (fun _ U o U' => ∃ v L, o = .returned v ∧ Qown_hasEG Z o1 v1 kc cs fv h0 n0 v U'.heap L ∧ FrameEnd U o U' L ({ frames := 4, cells := 0, slots := 0, locals := 53 } : Room).cells ({ frames := 4, cells := 0, slots := 0, locals := 53 } : Room).slots) := by
  refine MetFree.of_bodySF (plainFor_of_name own_pn3) hisR ?_
  intro p e s m args below meth c s₁ Bd hml0 hP hK
  obtain ⟨rfl, hZ, hh⟩ := hP
  have hx := Bd.exec
  have hby := Bd.bytes
  have hml : c.maxLocals = 4 := hml0
  have hown : s.vm.findClass "com/example/dirwarden/dirwarden/aci/ComparisonHoldsPinLaw" = some m.cls := by have q := findClass_of_methodNamed Bd.named; exact q
  have hnm := (name_of_methodNamed Bd.named Bd.method).1
  have X0 : Stand p l e ({ frames := 4, cells := 0, slots := 0, locals := 53 } : Room) s m #[(.ref o1), (.int (62 : Int32))] below meth c s₁ [] 0 0 := Stand.of_body Bd
  have e0 : s₁.heap = h0 := by rw [← hh, Bd.state]; rfl
  have N0 := Fr.nil n0
  have pre0 : ∀ t, Steps p.tables e below (s₁.setTop (mkF m 0 #[.val (.ref o1), .val (.int (62 : Int32)), .unset, .unset] [])) t → Steps p.tables e below (s₁.setTop (entryFrame m #[(.ref o1), (.int (62 : Int32))] 4)) t := fun t k => castTop (by first | (simp [entryFrame, mkF, argsToLocals, Value.category, maxLocals]; done) | rfl) k
  obtain ⟨cq101, kq101, q101a, q101b, q101c⟩ := isOf hZ e0 H.1
  obtain ⟨_, _, ⟨T101, L101, k101, n101⟩, -, X101, ⟨Lc101, hQ101, l101, y101, z101⟩, st101⟩ := X0.virtualBack hx (y := own_m6) (z := own_m6) hown (mvT hZ (own_w28 hw)) (mvT hZ (own_w29 hw)) (notFace_of_selects (args := #[]) (mvT hZ (own_w31 hw))) (mvT hZ (own_w31 hw)) (mvT hZ (own_w30 hw)) (by decide) (backOf (W := 0) (own_lenE l Z a0 hw [] o1 v1 kc cs fv h0 n0 Z0 H SC hcs SF hfv) hZ (own_w33 hw) (own_w32 hw) (by decide) (by decide)) q101a q101c (g := (mkF m 1 #[.val (.ref o1), .val (.int (62 : Int32)), .unset, .unset] [(.ref o1)])) rfl (by rw [hml]; rfl) (Steps.refl _) (argsL := []) (rest := []) (lenOf own_pd5 rfl) rfl (by show 2 * 0 + _ ≤ _; exact Nat.le_of_eq rfl) (hb hby own_d2_1) (fun _ _ => ⟨rfl, e0, (by decide : 0 + 0 ≤ _), (by decide : 0 + 0 ≤ _)⟩)
  dsimp only [Pt.U, Pt.locs, Pt.cells, Pt.slots] at X101 l101 y101 z101 st101 hQ101
  subst l101 y101 z101
  obtain ⟨rfl, N101q, e101⟩ := hQ101
  have N101 := Fr.app N0 N101q
  obtain ⟨cq102, kq102, q102a, q102b, q102c⟩ := isOf hZ e101 H.1
  obtain ⟨_, _, ⟨T102, L102, k102, n102⟩, -, X102, ⟨Lc102, hQ102, l102, y102, z102⟩, st102⟩ := X101.virtualBack hx (y := own_m5) (z := own_m5) hown (mvT hZ (own_w44 hw)) (mvT hZ (own_w45 hw)) (notFace_of_selects (args := #[]) (mvT hZ (own_w47 hw))) (mvT hZ (own_w47 hw)) (mvT hZ (own_w46 hw)) (by decide) (backOf (W := 0) (own_caE0 l Z a0 hw [] o1 v1 kc cs fv h0 n0 Z0 H SC hcs SF hfv) hZ (own_w48 hw) (own_w32 hw) (by decide) (by decide)) q102a q102c (g := (mkF m 10 #[.val (.ref o1), .val (.int (62 : Int32)), .unset, .unset] [(.int (0 : Int32)), (.ref o1)])) rfl (by rw [hml]; rfl) (Steps.refl _) (argsL := [(.int (0 : Int32))]) (rest := []) (lenOf own_pd6 rfl) rfl (by show 2 * 0 + _ ≤ _; exact Nat.le_of_eq rfl) (hb hby own_d2_10) (fun _ _ => ⟨rfl, e101, (by decide : 0 + 0 ≤ _), (by decide : 0 + 0 ≤ _)⟩)
  dsimp only [Pt.U, Pt.locs, Pt.cells, Pt.slots] at X102 l102 y102 z102 st102 hQ102
  subst l102 y102 z102
  obtain ⟨rfl, N102q, e102⟩ := hQ102
  have N102 := Fr.app N101 N102q
  obtain ⟨cq103, kq103, q103a, q103b, q103c⟩ := isOf hZ e102 H.1
  obtain ⟨_, _, ⟨T103, L103, k103, n103⟩, -, X103, ⟨Lc103, hQ103, l103, y103, z103⟩, st103⟩ := X102.virtualBack hx (y := own_m6) (z := own_m6) hown (mvT hZ (own_w28 hw)) (mvT hZ (own_w29 hw)) (notFace_of_selects (args := #[]) (mvT hZ (own_w31 hw))) (mvT hZ (own_w31 hw)) (mvT hZ (own_w30 hw)) (by decide) (backOf (W := 0) (own_lenE l Z a0 hw [] o1 v1 kc cs fv h0 n0 Z0 H SC hcs SF hfv) hZ (own_w33 hw) (own_w32 hw) (by decide) (by decide)) q103a q103c (g := (mkF m 24 #[.val (.ref o1), .val (.int (62 : Int32)), .val (.int (0 : Int32)), .unset] [(.ref o1)])) rfl (by rw [hml]; rfl) (Steps.refl _) (argsL := []) (rest := []) (lenOf own_pd5 rfl) rfl (by show 2 * 0 + _ ≤ _; exact Nat.le_of_eq rfl) (hb hby own_d2_24) (fun _ _ => ⟨rfl, e102, (by decide : 0 + 0 ≤ _), (by decide : 0 + 0 ≤ _)⟩)
  dsimp only [Pt.U, Pt.locs, Pt.cells, Pt.slots] at X103 l103 y103 z103 st103 hQ103
  subst l103 y103 z103
  obtain ⟨rfl, N103q, e103⟩ := hQ103
  have N103 := Fr.app N102 N103q
  obtain ⟨fs, hr, hrun, hended, hW, hsame⟩ := X103.leave (v := some (.int (0 : Int32))) (fun h => by rw [Bd.returns] at h; cases h)
  refine ⟨_, _, pre0 _ ?_, hrun, hended, _, _, rfl, ?_, ⟨_, rfl⟩, hW, hsame.mono (by decide) (by decide)⟩
  · show Steps _ _ _ (s₁.setTop (mkF m 0 #[.val (.ref o1), .val (.int (62 : Int32)), .unset, .unset] [])) _
    refine XS.aloadN X0.here hx rfl (hb hby own_d2_0) rfl rfl ?_
    refine st101.trans ?_
    refine XS.iconst X101.here hx rfl (hb hby own_d2_4) ?_
    refine XS.icmpNo X101.here hx rfl (hb hby own_d2_5) rfl (flt (by decide : ¬ ((1 : Int32) < (1 : Int32)))).1 ?_
    show Steps _ _ _ (T101.setTop (mkF m 8 #[.val (.ref o1), .val (.int (62 : Int32)), .unset, .unset] [])) _
    refine XS.aloadN X101.here hx rfl (hb hby own_d2_8) rfl rfl ?_
    refine XS.iconst X101.here hx rfl (hb hby own_d2_9) ?_
    refine st102.trans ?_
    refine XS.iloadN X102.here hx rfl (hb hby own_d2_13) rfl ?_
    show Steps _ _ _ (T102.setTop (mkF m 14 #[.val (.ref o1), .val (.int (62 : Int32)), .unset, .unset] [(.int (62 : Int32)), (.int (61 : Int32))])) _
    refine XS.icmpYes X102.here hx rfl (pc0 := 14) (pc' := 21) rfl (hb hby own_d2_14) rfl (feq (by decide : ¬ ((61 : Int32) = (62 : Int32)))).2 (by decide) (by decide) ?_
    refine XS.iconst X102.here hx rfl (hb hby own_d2_21) ?_
    refine XS.istoreN X102.here hx rfl (hb hby own_d2_22) rfl (l' := #[.val (.ref o1), .val (.int (62 : Int32)), .val (.int (0 : Int32)), .unset]) rfl ?_
    refine XS.aloadN X102.here hx rfl (hb hby own_d2_23) rfl rfl ?_
    show Steps _ _ _ (T102.setTop (mkF m 24 #[.val (.ref o1), .val (.int (62 : Int32)), .val (.int (0 : Int32)), .unset] [(.ref o1)])) _
    refine st103.trans ?_
    refine XS.iconst X103.here hx rfl (hb hby own_d2_27) ?_
    refine XS.icmpYes X103.here hx rfl (pc0 := 28) (pc' := 44) rfl (hb hby own_d2_28) rfl (tlt (by decide : (1 : Int32) < (2 : Int32))).1 (by decide) (by decide) ?_
    refine XS.iconst X103.here hx rfl (hb hby own_d2_44) ?_
    show Steps _ _ _ (T103.setTop (mkF m 45 #[.val (.ref o1), .val (.int (62 : Int32)), .val (.int (0 : Int32)), .unset] [(.int (0 : Int32))])) _
    refine XS.istoreN X103.here hx rfl (hb hby own_d2_45) rfl (l' := #[.val (.ref o1), .val (.int (62 : Int32)), .val (.int (0 : Int32)), .val (.int (0 : Int32))]) rfl ?_
    refine XS.iloadN X103.here hx rfl (hb hby own_d2_46) rfl ?_
    refine XS.ifNo X103.here hx rfl (hb hby own_d2_47) rfl ((if0 _ _).trans (teq (by decide : (0 : Int32) = (0 : Int32))).2) ?_
    refine XS.iloadN X103.here hx rfl (hb hby own_d2_50) rfl ?_
    show Steps _ _ _ (T103.setTop (mkF m 51 #[.val (.ref o1), .val (.int (62 : Int32)), .val (.int (0 : Int32)), .val (.int (0 : Int32))] [(.int (0 : Int32))])) _
    refine XS.ifYes X103.here hx rfl (pc0 := 51) (pc' := 58) rfl (hb hby own_d2_51) rfl ((if0 _ _).trans (teq (by decide : (0 : Int32) = (0 : Int32))).1) (by decide) (by decide) ?_
    refine XS.iconst X103.here hx rfl (hb hby own_d2_58) ?_
    show Steps _ _ _ (T103.setTop (mkF m 59 #[.val (.ref o1), .val (.int (62 : Int32)), .val (.int (0 : Int32)), .val (.int (0 : Int32))] [(.int (0 : Int32))])) _
    exact retN X103 hx (t := .boolean) Bd.returns (by simp) (hb hby own_d2_59) hr
  · show Qown_hasEG Z o1 v1 kc cs fv h0 n0 _ T103.heap _
    rw [e103]
    exact ⟨rfl, N103, rfl⟩
def Qown_hasLL (Z : State) (o1 v1 : Addr) (kc : ClassId) (cs : Int32) (fv : Value) (h0 : Heap) (n0 : Nat) (v : Option Value) (h : Heap) (L : List Loc) : Prop := v = some (.int (1 : Int32)) ∧ Fr n0 L ∧ h = h0
set_option maxRecDepth 65536 in
set_option maxHeartbeats 40000000 in
theorem own_hasLL (l : Launch) (Z : State) (a0 : Array Value) (hw : ∀ d ∈ tables_1, d.before a0 Z = true) (ws : List Jvm.Cond) (o1 v1 : Addr) (kc : ClassId) (cs : Int32) (fv : Value) (h0 : Heap) (n0 : Nat) (Z0 : n0 ≤ h0.size) (H : own_Str Z h0 o1 v1 kc (1 : Int32) [(.int (60 : Int32))]) (SC : Sta Z h0 "java/lang/String" "COMPACT_STRINGS" "Z" (.int cs)) (hcs : ¬ cs = (0 : Int32)) (SF : Sta Z h0 "jdk/internal/util/Preconditions" "SIOOBE_FORMATTER" "Ljava/util/function/BiFunction;" fv) (hfv : fv.isRef = true) :
    MetFree l own_m7 (head1 (Jvm.Cond.code own_m7 method_2_code 4 (some .boolean) :: ws) ({ frames := 4, cells := 0, slots := 0, locals := 53 } : Room)) (fun a U => a = #[(.ref o1), (.int (60 : Int32))] ∧ Z.Warmed39 U.vm ∧ U.heap = h0) (fun _ _ _ _ _ => True) (fun _ U o U' => ∃ v L, o = .returned v ∧ Qown_hasLL Z o1 v1 kc cs fv h0 n0 v U'.heap L ∧ FrameEnd U o U' L ({ frames := 4, cells := 0, slots := 0, locals := 53 } : Room).cells ({ frames := 4, cells := 0, slots := 0, locals := 53 } : Room).slots) := by
  refine MetFree.of_bodySF (plainFor_of_name own_pn3) hisR ?_
  intro p e s m args below meth c s₁ Bd hml0 hP hK
  obtain ⟨rfl, hZ, hh⟩ := hP
  have hx := Bd.exec
  have hby := Bd.bytes
  have hml : c.maxLocals = 4 := hml0
  have hown : s.vm.findClass "com/example/dirwarden/dirwarden/aci/ComparisonHoldsPinLaw" = some m.cls := by have q := findClass_of_methodNamed Bd.named; exact q
  have hnm := (name_of_methodNamed Bd.named Bd.method).1
  have X0 : Stand p l e ({ frames := 4, cells := 0, slots := 0, locals := 53 } : Room) s m #[(.ref o1), (.int (60 : Int32))] below meth c s₁ [] 0 0 := Stand.of_body Bd
  have e0 : s₁.heap = h0 := by rw [← hh, Bd.state]; rfl
  have N0 := Fr.nil n0
  have pre0 : ∀ t, Steps p.tables e below (s₁.setTop (mkF m 0 #[.val (.ref o1), .val (.int (60 : Int32)), .unset, .unset] [])) t → Steps p.tables e below (s₁.setTop (entryFrame m #[(.ref o1), (.int (60 : Int32))] 4)) t := fun t k => castTop (by first | (simp [entryFrame, mkF, argsToLocals, Value.category, maxLocals]; done) | rfl) k
  obtain ⟨cq101, kq101, q101a, q101b, q101c⟩ := isOf hZ e0 H.1
  obtain ⟨_, _, ⟨T101, L101, k101, n101⟩, -, X101, ⟨Lc101, hQ101, l101, y101, z101⟩, st101⟩ := X0.virtualBack hx (y := own_m6) (z := own_m6) hown (mvT hZ (own_w28 hw)) (mvT hZ (own_w29 hw)) (notFace_of_selects (args := #[]) (mvT hZ (own_w31 hw))) (mvT hZ (own_w31 hw)) (mvT hZ (own_w30 hw)) (by decide) (backOf (W := 0) (own_lenL l Z a0 hw [] o1 v1 kc cs fv h0 n0 Z0 H SC hcs SF hfv) hZ (own_w33 hw) (own_w32 hw) (by decide) (by decide)) q101a q101c (g := (mkF m 1 #[.val (.ref o1), .val (.int (60 : Int32)), .unset, .unset] [(.ref o1)])) rfl (by rw [hml]; rfl) (Steps.refl _) (argsL := []) (rest := []) (lenOf own_pd5 rfl) rfl (by show 2 * 0 + _ ≤ _; exact Nat.le_of_eq rfl) (hb hby own_d2_1) (fun _ _ => ⟨rfl, e0, (by decide : 0 + 0 ≤ _), (by decide : 0 + 0 ≤ _)⟩)
  dsimp only [Pt.U, Pt.locs, Pt.cells, Pt.slots] at X101 l101 y101 z101 st101 hQ101
  subst l101 y101 z101
  obtain ⟨rfl, N101q, e101⟩ := hQ101
  have N101 := Fr.app N0 N101q
  obtain ⟨cq102, kq102, q102a, q102b, q102c⟩ := isOf hZ e101 H.1
  obtain ⟨_, _, ⟨T102, L102, k102, n102⟩, -, X102, ⟨Lc102, hQ102, l102, y102, z102⟩, st102⟩ := X101.virtualBack hx (y := own_m5) (z := own_m5) hown (mvT hZ (own_w44 hw)) (mvT hZ (own_w45 hw)) (notFace_of_selects (args := #[]) (mvT hZ (own_w47 hw))) (mvT hZ (own_w47 hw)) (mvT hZ (own_w46 hw)) (by decide) (backOf (W := 0) (own_caL0 l Z a0 hw [] o1 v1 kc cs fv h0 n0 Z0 H SC hcs SF hfv) hZ (own_w48 hw) (own_w32 hw) (by decide) (by decide)) q102a q102c (g := (mkF m 10 #[.val (.ref o1), .val (.int (60 : Int32)), .unset, .unset] [(.int (0 : Int32)), (.ref o1)])) rfl (by rw [hml]; rfl) (Steps.refl _) (argsL := [(.int (0 : Int32))]) (rest := []) (lenOf own_pd6 rfl) rfl (by show 2 * 0 + _ ≤ _; exact Nat.le_of_eq rfl) (hb hby own_d2_10) (fun _ _ => ⟨rfl, e101, (by decide : 0 + 0 ≤ _), (by decide : 0 + 0 ≤ _)⟩)
  dsimp only [Pt.U, Pt.locs, Pt.cells, Pt.slots] at X102 l102 y102 z102 st102 hQ102
  subst l102 y102 z102
  obtain ⟨rfl, N102q, e102⟩ := hQ102
  have N102 := Fr.app N101 N102q
  obtain ⟨cq103, kq103, q103a, q103b, q103c⟩ := isOf hZ e102 H.1
  obtain ⟨_, _, ⟨T103, L103, k103, n103⟩, -, X103, ⟨Lc103, hQ103, l103, y103, z103⟩, st103⟩ := X102.virtualBack hx (y := own_m6) (z := own_m6) hown (mvT hZ (own_w28 hw)) (mvT hZ (own_w29 hw)) (notFace_of_selects (args := #[]) (mvT hZ (own_w31 hw))) (mvT hZ (own_w31 hw)) (mvT hZ (own_w30 hw)) (by decide) (backOf (W := 0) (own_lenL l Z a0 hw [] o1 v1 kc cs fv h0 n0 Z0 H SC hcs SF hfv) hZ (own_w33 hw) (own_w32 hw) (by decide) (by decide)) q103a q103c (g := (mkF m 24 #[.val (.ref o1), .val (.int (60 : Int32)), .val (.int (1 : Int32)), .unset] [(.ref o1)])) rfl (by rw [hml]; rfl) (Steps.refl _) (argsL := []) (rest := []) (lenOf own_pd5 rfl) rfl (by show 2 * 0 + _ ≤ _; exact Nat.le_of_eq rfl) (hb hby own_d2_24) (fun _ _ => ⟨rfl, e102, (by decide : 0 + 0 ≤ _), (by decide : 0 + 0 ≤ _)⟩)
  dsimp only [Pt.U, Pt.locs, Pt.cells, Pt.slots] at X103 l103 y103 z103 st103 hQ103
  subst l103 y103 z103
  obtain ⟨rfl, N103q, e103⟩ := hQ103
  have N103 := Fr.app N102 N103q
  obtain ⟨fs, hr, hrun, hended, hW, hsame⟩ := X103.leave (v := some (.int (1 : Int32))) (fun h => by rw [Bd.returns] at h; cases h)
  refine ⟨_, _, pre0 _ ?_, hrun, hended, _, _, rfl, ?_, ⟨_, rfl⟩, hW, hsame.mono (by decide) (by decide)⟩
  · show Steps _ _ _ (s₁.setTop (mkF m 0 #[.val (.ref o1), .val (.int (60 : Int32)), .unset, .unset] [])) _
    refine XS.aloadN X0.here hx rfl (hb hby own_d2_0) rfl rfl ?_
    refine st101.trans ?_
    refine XS.iconst X101.here hx rfl (hb hby own_d2_4) ?_
    refine XS.icmpNo X101.here hx rfl (hb hby own_d2_5) rfl (flt (by decide : ¬ ((1 : Int32) < (1 : Int32)))).1 ?_
    show Steps _ _ _ (T101.setTop (mkF m 8 #[.val (.ref o1), .val (.int (60 : Int32)), .unset, .unset] [])) _
    refine XS.aloadN X101.here hx rfl (hb hby own_d2_8) rfl rfl ?_
    refine XS.iconst X101.here hx rfl (hb hby own_d2_9) ?_
    refine st102.trans ?_
    refine XS.iloadN X102.here hx rfl (hb hby own_d2_13) rfl ?_
    show Steps _ _ _ (T102.setTop (mkF m 14 #[.val (.ref o1), .val (.int (60 : Int32)), .unset, .unset] [(.int (60 : Int32)), (.int (60 : Int32))])) _
    refine XS.icmpNo X102.here hx rfl (hb hby own_d2_14) rfl (teq (by decide : (60 : Int32) = (60 : Int32))).2 ?_
    refine XS.iconst X102.here hx rfl (hb hby own_d2_17) ?_
    refine XS.goto X102.here hx rfl (pc0 := 18) (pc' := 22) rfl (hb hby own_d2_18) (by decide) (by decide) ?_
    refine XS.istoreN X102.here hx rfl (hb hby own_d2_22) rfl (l' := #[.val (.ref o1), .val (.int (60 : Int32)), .val (.int (1 : Int32)), .unset]) rfl ?_
    show Steps _ _ _ (T102.setTop (mkF m 23 #[.val (.ref o1), .val (.int (60 : Int32)), .val (.int (1 : Int32)), .unset] [])) _
    refine XS.aloadN X102.here hx rfl (hb hby own_d2_23) rfl rfl ?_
    refine st103.trans ?_
    refine XS.iconst X103.here hx rfl (hb hby own_d2_27) ?_
    refine XS.icmpYes X103.here hx rfl (pc0 := 28) (pc' := 44) rfl (hb hby own_d2_28) rfl (tlt (by decide : (1 : Int32) < (2 : Int32))).1 (by decide) (by decide) ?_
    show Steps _ _ _ (T103.setTop (mkF m 44 #[.val (.ref o1), .val (.int (60 : Int32)), .val (.int (1 : Int32)), .unset] [])) _
    refine XS.iconst X103.here hx rfl (hb hby own_d2_44) ?_
    refine XS.istoreN X103.here hx rfl (hb hby own_d2_45) rfl (l' := #[.val (.ref o1), .val (.int (60 : Int32)), .val (.int (1 : Int32)), .val (.int (0 : Int32))]) rfl ?_
    refine XS.iloadN X103.here hx rfl (hb hby own_d2_46) rfl ?_
    refine XS.ifYes X103.here hx rfl (pc0 := 47) (pc' := 54) rfl (hb hby own_d2_47) rfl ((if0 _ _).trans (feq (by decide : ¬ ((1 : Int32) = (0 : Int32)))).2) (by decide) (by decide) ?_
    show Steps _ _ _ (T103.setTop (mkF m 54 #[.val (.ref o1), .val (.int (60 : Int32)), .val (.int (1 : Int32)), .val (.int (0 : Int32))] [])) _
    refine XS.iconst X103.here hx rfl (hb hby own_d2_54) ?_
    refine XS.goto X103.here hx rfl (pc0 := 55) (pc' := 59) rfl (hb hby own_d2_55) (by decide) (by decide) ?_
    show Steps _ _ _ (T103.setTop (mkF m 59 #[.val (.ref o1), .val (.int (60 : Int32)), .val (.int (1 : Int32)), .val (.int (0 : Int32))] [(.int (1 : Int32))])) _
    exact retN X103 hx (t := .boolean) Bd.returns (by simp) (hb hby own_d2_59) hr
  · show Qown_hasLL Z o1 v1 kc cs fv h0 n0 _ T103.heap _
    rw [e103]
    exact ⟨rfl, N103, rfl⟩
def Qown_hasLE (Z : State) (o1 v1 : Addr) (kc : ClassId) (cs : Int32) (fv : Value) (h0 : Heap) (n0 : Nat) (v : Option Value) (h : Heap) (L : List Loc) : Prop := v = some (.int (0 : Int32)) ∧ Fr n0 L ∧ h = h0
set_option maxRecDepth 65536 in
set_option maxHeartbeats 40000000 in
theorem own_hasLE (l : Launch) (Z : State) (a0 : Array Value) (hw : ∀ d ∈ tables_1, d.before a0 Z = true) (ws : List Jvm.Cond) (o1 v1 : Addr) (kc : ClassId) (cs : Int32) (fv : Value) (h0 : Heap) (n0 : Nat) (Z0 : n0 ≤ h0.size) (H : own_Str Z h0 o1 v1 kc (1 : Int32) [(.int (60 : Int32))]) (SC : Sta Z h0 "java/lang/String" "COMPACT_STRINGS" "Z" (.int cs)) (hcs : ¬ cs = (0 : Int32)) (SF : Sta Z h0 "jdk/internal/util/Preconditions" "SIOOBE_FORMATTER" "Ljava/util/function/BiFunction;" fv) (hfv : fv.isRef = true) :
    MetFree l own_m7 (head1 (Jvm.Cond.code own_m7 method_2_code 4 (some .boolean) :: ws) ({ frames := 4, cells := 0, slots := 0, locals := 53 } : Room)) (fun a U => a = #[(.ref o1), (.int (61 : Int32))] ∧ Z.Warmed39 U.vm ∧ U.heap = h0) (fun _ _ _ _ _ => True) (fun _ U o U' => ∃ v L, o = .returned v ∧ Qown_hasLE Z o1 v1 kc cs fv h0 n0 v U'.heap L ∧ FrameEnd U o U' L ({ frames := 4, cells := 0, slots := 0, locals := 53 } : Room).cells ({ frames := 4, cells := 0, slots := 0, locals := 53 } : Room).slots) := by
  refine MetFree.of_bodySF (plainFor_of_name own_pn3) hisR ?_
  intro p e s m args below meth c s₁ Bd hml0 hP hK
  obtain ⟨rfl, hZ, hh⟩ := hP
  have hx := Bd.exec
  have hby := Bd.bytes
  have hml : c.maxLocals = 4 := hml0
  have hown : s.vm.findClass "com/example/dirwarden/dirwarden/aci/ComparisonHoldsPinLaw" = some m.cls := by have q := findClass_of_methodNamed Bd.named; exact q
  have hnm := (name_of_methodNamed Bd.named Bd.method).1
  have X0 : Stand p l e ({ frames := 4, cells := 0, slots := 0, locals := 53 } : Room) s m #[(.ref o1), (.int (61 : Int32))] below meth c s₁ [] 0 0 := Stand.of_body Bd
  have e0 : s₁.heap = h0 := by rw [← hh, Bd.state]; rfl
  have N0 := Fr.nil n0
  have pre0 : ∀ t, Steps p.tables e below (s₁.setTop (mkF m 0 #[.val (.ref o1), .val (.int (61 : Int32)), .unset, .unset] [])) t → Steps p.tables e below (s₁.setTop (entryFrame m #[(.ref o1), (.int (61 : Int32))] 4)) t := fun t k => castTop (by first | (simp [entryFrame, mkF, argsToLocals, Value.category, maxLocals]; done) | rfl) k
  obtain ⟨cq101, kq101, q101a, q101b, q101c⟩ := isOf hZ e0 H.1
  obtain ⟨_, _, ⟨T101, L101, k101, n101⟩, -, X101, ⟨Lc101, hQ101, l101, y101, z101⟩, st101⟩ := X0.virtualBack hx (y := own_m6) (z := own_m6) hown (mvT hZ (own_w28 hw)) (mvT hZ (own_w29 hw)) (notFace_of_selects (args := #[]) (mvT hZ (own_w31 hw))) (mvT hZ (own_w31 hw)) (mvT hZ (own_w30 hw)) (by decide) (backOf (W := 0) (own_lenL l Z a0 hw [] o1 v1 kc cs fv h0 n0 Z0 H SC hcs SF hfv) hZ (own_w33 hw) (own_w32 hw) (by decide) (by decide)) q101a q101c (g := (mkF m 1 #[.val (.ref o1), .val (.int (61 : Int32)), .unset, .unset] [(.ref o1)])) rfl (by rw [hml]; rfl) (Steps.refl _) (argsL := []) (rest := []) (lenOf own_pd5 rfl) rfl (by show 2 * 0 + _ ≤ _; exact Nat.le_of_eq rfl) (hb hby own_d2_1) (fun _ _ => ⟨rfl, e0, (by decide : 0 + 0 ≤ _), (by decide : 0 + 0 ≤ _)⟩)
  dsimp only [Pt.U, Pt.locs, Pt.cells, Pt.slots] at X101 l101 y101 z101 st101 hQ101
  subst l101 y101 z101
  obtain ⟨rfl, N101q, e101⟩ := hQ101
  have N101 := Fr.app N0 N101q
  obtain ⟨cq102, kq102, q102a, q102b, q102c⟩ := isOf hZ e101 H.1
  obtain ⟨_, _, ⟨T102, L102, k102, n102⟩, -, X102, ⟨Lc102, hQ102, l102, y102, z102⟩, st102⟩ := X101.virtualBack hx (y := own_m5) (z := own_m5) hown (mvT hZ (own_w44 hw)) (mvT hZ (own_w45 hw)) (notFace_of_selects (args := #[]) (mvT hZ (own_w47 hw))) (mvT hZ (own_w47 hw)) (mvT hZ (own_w46 hw)) (by decide) (backOf (W := 0) (own_caL0 l Z a0 hw [] o1 v1 kc cs fv h0 n0 Z0 H SC hcs SF hfv) hZ (own_w48 hw) (own_w32 hw) (by decide) (by decide)) q102a q102c (g := (mkF m 10 #[.val (.ref o1), .val (.int (61 : Int32)), .unset, .unset] [(.int (0 : Int32)), (.ref o1)])) rfl (by rw [hml]; rfl) (Steps.refl _) (argsL := [(.int (0 : Int32))]) (rest := []) (lenOf own_pd6 rfl) rfl (by show 2 * 0 + _ ≤ _; exact Nat.le_of_eq rfl) (hb hby own_d2_10) (fun _ _ => ⟨rfl, e101, (by decide : 0 + 0 ≤ _), (by decide : 0 + 0 ≤ _)⟩)
  dsimp only [Pt.U, Pt.locs, Pt.cells, Pt.slots] at X102 l102 y102 z102 st102 hQ102
  subst l102 y102 z102
  obtain ⟨rfl, N102q, e102⟩ := hQ102
  have N102 := Fr.app N101 N102q
  obtain ⟨cq103, kq103, q103a, q103b, q103c⟩ := isOf hZ e102 H.1
  obtain ⟨_, _, ⟨T103, L103, k103, n103⟩, -, X103, ⟨Lc103, hQ103, l103, y103, z103⟩, st103⟩ := X102.virtualBack hx (y := own_m6) (z := own_m6) hown (mvT hZ (own_w28 hw)) (mvT hZ (own_w29 hw)) (notFace_of_selects (args := #[]) (mvT hZ (own_w31 hw))) (mvT hZ (own_w31 hw)) (mvT hZ (own_w30 hw)) (by decide) (backOf (W := 0) (own_lenL l Z a0 hw [] o1 v1 kc cs fv h0 n0 Z0 H SC hcs SF hfv) hZ (own_w33 hw) (own_w32 hw) (by decide) (by decide)) q103a q103c (g := (mkF m 24 #[.val (.ref o1), .val (.int (61 : Int32)), .val (.int (0 : Int32)), .unset] [(.ref o1)])) rfl (by rw [hml]; rfl) (Steps.refl _) (argsL := []) (rest := []) (lenOf own_pd5 rfl) rfl (by show 2 * 0 + _ ≤ _; exact Nat.le_of_eq rfl) (hb hby own_d2_24) (fun _ _ => ⟨rfl, e102, (by decide : 0 + 0 ≤ _), (by decide : 0 + 0 ≤ _)⟩)
  dsimp only [Pt.U, Pt.locs, Pt.cells, Pt.slots] at X103 l103 y103 z103 st103 hQ103
  subst l103 y103 z103
  obtain ⟨rfl, N103q, e103⟩ := hQ103
  have N103 := Fr.app N102 N103q
  obtain ⟨fs, hr, hrun, hended, hW, hsame⟩ := X103.leave (v := some (.int (0 : Int32))) (fun h => by rw [Bd.returns] at h; cases h)
  refine ⟨_, _, pre0 _ ?_, hrun, hended, _, _, rfl, ?_, ⟨_, rfl⟩, hW, hsame.mono (by decide) (by decide)⟩
  · show Steps _ _ _ (s₁.setTop (mkF m 0 #[.val (.ref o1), .val (.int (61 : Int32)), .unset, .unset] [])) _
    refine XS.aloadN X0.here hx rfl (hb hby own_d2_0) rfl rfl ?_
    refine st101.trans ?_
    refine XS.iconst X101.here hx rfl (hb hby own_d2_4) ?_
    refine XS.icmpNo X101.here hx rfl (hb hby own_d2_5) rfl (flt (by decide : ¬ ((1 : Int32) < (1 : Int32)))).1 ?_
    show Steps _ _ _ (T101.setTop (mkF m 8 #[.val (.ref o1), .val (.int (61 : Int32)), .unset, .unset] [])) _
    refine XS.aloadN X101.here hx rfl (hb hby own_d2_8) rfl rfl ?_
    refine XS.iconst X101.here hx rfl (hb hby own_d2_9) ?_
    refine st102.trans ?_
    refine XS.iloadN X102.here hx rfl (hb hby own_d2_13) rfl ?_
    show Steps _ _ _ (T102.setTop (mkF m 14 #[.val (.ref o1), .val (.int (61 : Int32)), .unset, .unset] [(.int (61 : Int32)), (.int (60 : Int32))])) _
    refine XS.icmpYes X102.here hx rfl (pc0 := 14) (pc' := 21) rfl (hb hby own_d2_14) rfl (feq (by decide : ¬ ((60 : Int32) = (61 : Int32)))).2 (by decide) (by decide) ?_
    refine XS.iconst X102.here hx rfl (hb hby own_d2_21) ?_
    refine XS.istoreN X102.here hx rfl (hb hby own_d2_22) rfl (l' := #[.val (.ref o1), .val (.int (61 : Int32)), .val (.int (0 : Int32)), .unset]) rfl ?_
    refine XS.aloadN X102.here hx rfl (hb hby own_d2_23) rfl rfl ?_
    show Steps _ _ _ (T102.setTop (mkF m 24 #[.val (.ref o1), .val (.int (61 : Int32)), .val (.int (0 : Int32)), .unset] [(.ref o1)])) _
    refine st103.trans ?_
    refine XS.iconst X103.here hx rfl (hb hby own_d2_27) ?_
    refine XS.icmpYes X103.here hx rfl (pc0 := 28) (pc' := 44) rfl (hb hby own_d2_28) rfl (tlt (by decide : (1 : Int32) < (2 : Int32))).1 (by decide) (by decide) ?_
    refine XS.iconst X103.here hx rfl (hb hby own_d2_44) ?_
    show Steps _ _ _ (T103.setTop (mkF m 45 #[.val (.ref o1), .val (.int (61 : Int32)), .val (.int (0 : Int32)), .unset] [(.int (0 : Int32))])) _
    refine XS.istoreN X103.here hx rfl (hb hby own_d2_45) rfl (l' := #[.val (.ref o1), .val (.int (61 : Int32)), .val (.int (0 : Int32)), .val (.int (0 : Int32))]) rfl ?_
    refine XS.iloadN X103.here hx rfl (hb hby own_d2_46) rfl ?_
    refine XS.ifNo X103.here hx rfl (hb hby own_d2_47) rfl ((if0 _ _).trans (teq (by decide : (0 : Int32) = (0 : Int32))).2) ?_
    refine XS.iloadN X103.here hx rfl (hb hby own_d2_50) rfl ?_
    show Steps _ _ _ (T103.setTop (mkF m 51 #[.val (.ref o1), .val (.int (61 : Int32)), .val (.int (0 : Int32)), .val (.int (0 : Int32))] [(.int (0 : Int32))])) _
    refine XS.ifYes X103.here hx rfl (pc0 := 51) (pc' := 58) rfl (hb hby own_d2_51) rfl ((if0 _ _).trans (teq (by decide : (0 : Int32) = (0 : Int32))).1) (by decide) (by decide) ?_
    refine XS.iconst X103.here hx rfl (hb hby own_d2_58) ?_
    show Steps _ _ _ (T103.setTop (mkF m 59 #[.val (.ref o1), .val (.int (61 : Int32)), .val (.int (0 : Int32)), .val (.int (0 : Int32))] [(.int (0 : Int32))])) _
    exact retN X103 hx (t := .boolean) Bd.returns (by simp) (hb hby own_d2_59) hr
  · show Qown_hasLE Z o1 v1 kc cs fv h0 n0 _ T103.heap _
    rw [e103]
    exact ⟨rfl, N103, rfl⟩
def Qown_hasLG (Z : State) (o1 v1 : Addr) (kc : ClassId) (cs : Int32) (fv : Value) (h0 : Heap) (n0 : Nat) (v : Option Value) (h : Heap) (L : List Loc) : Prop := v = some (.int (0 : Int32)) ∧ Fr n0 L ∧ h = h0
set_option maxRecDepth 65536 in
set_option maxHeartbeats 40000000 in
theorem own_hasLG (l : Launch) (Z : State) (a0 : Array Value) (hw : ∀ d ∈ tables_1, d.before a0 Z = true) (ws : List Jvm.Cond) (o1 v1 : Addr) (kc : ClassId) (cs : Int32) (fv : Value) (h0 : Heap) (n0 : Nat) (Z0 : n0 ≤ h0.size) (H : own_Str Z h0 o1 v1 kc (1 : Int32) [(.int (60 : Int32))]) (SC : Sta Z h0 "java/lang/String" "COMPACT_STRINGS" "Z" (.int cs)) (hcs : ¬ cs = (0 : Int32)) (SF : Sta Z h0 "jdk/internal/util/Preconditions" "SIOOBE_FORMATTER" "Ljava/util/function/BiFunction;" fv) (hfv : fv.isRef = true) :
    MetFree l own_m7 (head1 (Jvm.Cond.code own_m7 method_2_code 4 (some .boolean) :: ws) ({ frames := 4, cells := 0, slots := 0, locals := 53 } : Room)) (fun a U => a = #[(.ref o1), (.int (62 : Int32))] ∧ Z.Warmed39 U.vm ∧ U.heap = h0) (fun _ _ _ _ _ => True) (fun _ U o U' => ∃ v L, o = .returned v ∧ Qown_hasLG Z o1 v1 kc cs fv h0 n0 v U'.heap L ∧ FrameEnd U o U' L ({ frames := 4, cells := 0, slots := 0, locals := 53 } : Room).cells ({ frames := 4, cells := 0, slots := 0, locals := 53 } : Room).slots) := by
  refine MetFree.of_bodySF (plainFor_of_name own_pn3) hisR ?_
  intro p e s m args below meth c s₁ Bd hml0 hP hK
  obtain ⟨rfl, hZ, hh⟩ := hP
  have hx := Bd.exec
  have hby := Bd.bytes
  have hml : c.maxLocals = 4 := hml0
  have hown : s.vm.findClass "com/example/dirwarden/dirwarden/aci/ComparisonHoldsPinLaw" = some m.cls := by have q := findClass_of_methodNamed Bd.named; exact q
  have hnm := (name_of_methodNamed Bd.named Bd.method).1
  have X0 : Stand p l e ({ frames := 4, cells := 0, slots := 0, locals := 53 } : Room) s m #[(.ref o1), (.int (62 : Int32))] below meth c s₁ [] 0 0 := Stand.of_body Bd
  have e0 : s₁.heap = h0 := by rw [← hh, Bd.state]; rfl
  have N0 := Fr.nil n0
  have pre0 : ∀ t, Steps p.tables e below (s₁.setTop (mkF m 0 #[.val (.ref o1), .val (.int (62 : Int32)), .unset, .unset] [])) t → Steps p.tables e below (s₁.setTop (entryFrame m #[(.ref o1), (.int (62 : Int32))] 4)) t := fun t k => castTop (by first | (simp [entryFrame, mkF, argsToLocals, Value.category, maxLocals]; done) | rfl) k
  obtain ⟨cq101, kq101, q101a, q101b, q101c⟩ := isOf hZ e0 H.1
  obtain ⟨_, _, ⟨T101, L101, k101, n101⟩, -, X101, ⟨Lc101, hQ101, l101, y101, z101⟩, st101⟩ := X0.virtualBack hx (y := own_m6) (z := own_m6) hown (mvT hZ (own_w28 hw)) (mvT hZ (own_w29 hw)) (notFace_of_selects (args := #[]) (mvT hZ (own_w31 hw))) (mvT hZ (own_w31 hw)) (mvT hZ (own_w30 hw)) (by decide) (backOf (W := 0) (own_lenL l Z a0 hw [] o1 v1 kc cs fv h0 n0 Z0 H SC hcs SF hfv) hZ (own_w33 hw) (own_w32 hw) (by decide) (by decide)) q101a q101c (g := (mkF m 1 #[.val (.ref o1), .val (.int (62 : Int32)), .unset, .unset] [(.ref o1)])) rfl (by rw [hml]; rfl) (Steps.refl _) (argsL := []) (rest := []) (lenOf own_pd5 rfl) rfl (by show 2 * 0 + _ ≤ _; exact Nat.le_of_eq rfl) (hb hby own_d2_1) (fun _ _ => ⟨rfl, e0, (by decide : 0 + 0 ≤ _), (by decide : 0 + 0 ≤ _)⟩)
  dsimp only [Pt.U, Pt.locs, Pt.cells, Pt.slots] at X101 l101 y101 z101 st101 hQ101
  subst l101 y101 z101
  obtain ⟨rfl, N101q, e101⟩ := hQ101
  have N101 := Fr.app N0 N101q
  obtain ⟨cq102, kq102, q102a, q102b, q102c⟩ := isOf hZ e101 H.1
  obtain ⟨_, _, ⟨T102, L102, k102, n102⟩, -, X102, ⟨Lc102, hQ102, l102, y102, z102⟩, st102⟩ := X101.virtualBack hx (y := own_m5) (z := own_m5) hown (mvT hZ (own_w44 hw)) (mvT hZ (own_w45 hw)) (notFace_of_selects (args := #[]) (mvT hZ (own_w47 hw))) (mvT hZ (own_w47 hw)) (mvT hZ (own_w46 hw)) (by decide) (backOf (W := 0) (own_caL0 l Z a0 hw [] o1 v1 kc cs fv h0 n0 Z0 H SC hcs SF hfv) hZ (own_w48 hw) (own_w32 hw) (by decide) (by decide)) q102a q102c (g := (mkF m 10 #[.val (.ref o1), .val (.int (62 : Int32)), .unset, .unset] [(.int (0 : Int32)), (.ref o1)])) rfl (by rw [hml]; rfl) (Steps.refl _) (argsL := [(.int (0 : Int32))]) (rest := []) (lenOf own_pd6 rfl) rfl (by show 2 * 0 + _ ≤ _; exact Nat.le_of_eq rfl) (hb hby own_d2_10) (fun _ _ => ⟨rfl, e101, (by decide : 0 + 0 ≤ _), (by decide : 0 + 0 ≤ _)⟩)
  dsimp only [Pt.U, Pt.locs, Pt.cells, Pt.slots] at X102 l102 y102 z102 st102 hQ102
  subst l102 y102 z102
  obtain ⟨rfl, N102q, e102⟩ := hQ102
  have N102 := Fr.app N101 N102q
  obtain ⟨cq103, kq103, q103a, q103b, q103c⟩ := isOf hZ e102 H.1
  obtain ⟨_, _, ⟨T103, L103, k103, n103⟩, -, X103, ⟨Lc103, hQ103, l103, y103, z103⟩, st103⟩ := X102.virtualBack hx (y := own_m6) (z := own_m6) hown (mvT hZ (own_w28 hw)) (mvT hZ (own_w29 hw)) (notFace_of_selects (args := #[]) (mvT hZ (own_w31 hw))) (mvT hZ (own_w31 hw)) (mvT hZ (own_w30 hw)) (by decide) (backOf (W := 0) (own_lenL l Z a0 hw [] o1 v1 kc cs fv h0 n0 Z0 H SC hcs SF hfv) hZ (own_w33 hw) (own_w32 hw) (by decide) (by decide)) q103a q103c (g := (mkF m 24 #[.val (.ref o1), .val (.int (62 : Int32)), .val (.int (0 : Int32)), .unset] [(.ref o1)])) rfl (by rw [hml]; rfl) (Steps.refl _) (argsL := []) (rest := []) (lenOf own_pd5 rfl) rfl (by show 2 * 0 + _ ≤ _; exact Nat.le_of_eq rfl) (hb hby own_d2_24) (fun _ _ => ⟨rfl, e102, (by decide : 0 + 0 ≤ _), (by decide : 0 + 0 ≤ _)⟩)
  dsimp only [Pt.U, Pt.locs, Pt.cells, Pt.slots] at X103 l103 y103 z103 st103 hQ103
  subst l103 y103 z103
  obtain ⟨rfl, N103q, e103⟩ := hQ103
  have N103 := Fr.app N102 N103q
  obtain ⟨fs, hr, hrun, hended, hW, hsame⟩ := X103.leave (v := some (.int (0 : Int32))) (fun h => by rw [Bd.returns] at h; cases h)
  refine ⟨_, _, pre0 _ ?_, hrun, hended, _, _, rfl, ?_, ⟨_, rfl⟩, hW, hsame.mono (by decide) (by decide)⟩
  · show Steps _ _ _ (s₁.setTop (mkF m 0 #[.val (.ref o1), .val (.int (62 : Int32)), .unset, .unset] [])) _
    refine XS.aloadN X0.here hx rfl (hb hby own_d2_0) rfl rfl ?_
    refine st101.trans ?_
    refine XS.iconst X101.here hx rfl (hb hby own_d2_4) ?_
    refine XS.icmpNo X101.here hx rfl (hb hby own_d2_5) rfl (flt (by decide : ¬ ((1 : Int32) < (1 : Int32)))).1 ?_
    show Steps _ _ _ (T101.setTop (mkF m 8 #[.val (.ref o1), .val (.int (62 : Int32)), .unset, .unset] [])) _
    refine XS.aloadN X101.here hx rfl (hb hby own_d2_8) rfl rfl ?_
    refine XS.iconst X101.here hx rfl (hb hby own_d2_9) ?_
    refine st102.trans ?_
    refine XS.iloadN X102.here hx rfl (hb hby own_d2_13) rfl ?_
    show Steps _ _ _ (T102.setTop (mkF m 14 #[.val (.ref o1), .val (.int (62 : Int32)), .unset, .unset] [(.int (62 : Int32)), (.int (60 : Int32))])) _
    refine XS.icmpYes X102.here hx rfl (pc0 := 14) (pc' := 21) rfl (hb hby own_d2_14) rfl (feq (by decide : ¬ ((60 : Int32) = (62 : Int32)))).2 (by decide) (by decide) ?_
    refine XS.iconst X102.here hx rfl (hb hby own_d2_21) ?_
    refine XS.istoreN X102.here hx rfl (hb hby own_d2_22) rfl (l' := #[.val (.ref o1), .val (.int (62 : Int32)), .val (.int (0 : Int32)), .unset]) rfl ?_
    refine XS.aloadN X102.here hx rfl (hb hby own_d2_23) rfl rfl ?_
    show Steps _ _ _ (T102.setTop (mkF m 24 #[.val (.ref o1), .val (.int (62 : Int32)), .val (.int (0 : Int32)), .unset] [(.ref o1)])) _
    refine st103.trans ?_
    refine XS.iconst X103.here hx rfl (hb hby own_d2_27) ?_
    refine XS.icmpYes X103.here hx rfl (pc0 := 28) (pc' := 44) rfl (hb hby own_d2_28) rfl (tlt (by decide : (1 : Int32) < (2 : Int32))).1 (by decide) (by decide) ?_
    refine XS.iconst X103.here hx rfl (hb hby own_d2_44) ?_
    show Steps _ _ _ (T103.setTop (mkF m 45 #[.val (.ref o1), .val (.int (62 : Int32)), .val (.int (0 : Int32)), .unset] [(.int (0 : Int32))])) _
    refine XS.istoreN X103.here hx rfl (hb hby own_d2_45) rfl (l' := #[.val (.ref o1), .val (.int (62 : Int32)), .val (.int (0 : Int32)), .val (.int (0 : Int32))]) rfl ?_
    refine XS.iloadN X103.here hx rfl (hb hby own_d2_46) rfl ?_
    refine XS.ifNo X103.here hx rfl (hb hby own_d2_47) rfl ((if0 _ _).trans (teq (by decide : (0 : Int32) = (0 : Int32))).2) ?_
    refine XS.iloadN X103.here hx rfl (hb hby own_d2_50) rfl ?_
    show Steps _ _ _ (T103.setTop (mkF m 51 #[.val (.ref o1), .val (.int (62 : Int32)), .val (.int (0 : Int32)), .val (.int (0 : Int32))] [(.int (0 : Int32))])) _
    refine XS.ifYes X103.here hx rfl (pc0 := 51) (pc' := 58) rfl (hb hby own_d2_51) rfl ((if0 _ _).trans (teq (by decide : (0 : Int32) = (0 : Int32))).1) (by decide) (by decide) ?_
    refine XS.iconst X103.here hx rfl (hb hby own_d2_58) ?_
    show Steps _ _ _ (T103.setTop (mkF m 59 #[.val (.ref o1), .val (.int (62 : Int32)), .val (.int (0 : Int32)), .val (.int (0 : Int32))] [(.int (0 : Int32))])) _
    exact retN X103 hx (t := .boolean) Bd.returns (by simp) (hb hby own_d2_59) hr
  · show Qown_hasLG Z o1 v1 kc cs fv h0 n0 _ T103.heap _
    rw [e103]
    exact ⟨rfl, N103, rfl⟩
def Qown_hasGL (Z : State) (o1 v1 : Addr) (kc : ClassId) (cs : Int32) (fv : Value) (h0 : Heap) (n0 : Nat) (v : Option Value) (h : Heap) (L : List Loc) : Prop := v = some (.int (0 : Int32)) ∧ Fr n0 L ∧ h = h0
set_option maxRecDepth 65536 in
set_option maxHeartbeats 40000000 in
theorem own_hasGL (l : Launch) (Z : State) (a0 : Array Value) (hw : ∀ d ∈ tables_1, d.before a0 Z = true) (ws : List Jvm.Cond) (o1 v1 : Addr) (kc : ClassId) (cs : Int32) (fv : Value) (h0 : Heap) (n0 : Nat) (Z0 : n0 ≤ h0.size) (H : own_Str Z h0 o1 v1 kc (1 : Int32) [(.int (62 : Int32))]) (SC : Sta Z h0 "java/lang/String" "COMPACT_STRINGS" "Z" (.int cs)) (hcs : ¬ cs = (0 : Int32)) (SF : Sta Z h0 "jdk/internal/util/Preconditions" "SIOOBE_FORMATTER" "Ljava/util/function/BiFunction;" fv) (hfv : fv.isRef = true) :
    MetFree l own_m7 (head1 (Jvm.Cond.code own_m7 method_2_code 4 (some .boolean) :: ws) ({ frames := 4, cells := 0, slots := 0, locals := 53 } : Room)) (fun a U => a = #[(.ref o1), (.int (60 : Int32))] ∧ Z.Warmed39 U.vm ∧ U.heap = h0) (fun _ _ _ _ _ => True) (fun _ U o U' => ∃ v L, o = .returned v ∧ Qown_hasGL Z o1 v1 kc cs fv h0 n0 v U'.heap L ∧ FrameEnd U o U' L ({ frames := 4, cells := 0, slots := 0, locals := 53 } : Room).cells ({ frames := 4, cells := 0, slots := 0, locals := 53 } : Room).slots) := by
  refine MetFree.of_bodySF (plainFor_of_name own_pn3) hisR ?_
  intro p e s m args below meth c s₁ Bd hml0 hP hK
  obtain ⟨rfl, hZ, hh⟩ := hP
  have hx := Bd.exec
  have hby := Bd.bytes
  have hml : c.maxLocals = 4 := hml0
  have hown : s.vm.findClass "com/example/dirwarden/dirwarden/aci/ComparisonHoldsPinLaw" = some m.cls := by have q := findClass_of_methodNamed Bd.named; exact q
  have hnm := (name_of_methodNamed Bd.named Bd.method).1
  have X0 : Stand p l e ({ frames := 4, cells := 0, slots := 0, locals := 53 } : Room) s m #[(.ref o1), (.int (60 : Int32))] below meth c s₁ [] 0 0 := Stand.of_body Bd
  have e0 : s₁.heap = h0 := by rw [← hh, Bd.state]; rfl
  have N0 := Fr.nil n0
  have pre0 : ∀ t, Steps p.tables e below (s₁.setTop (mkF m 0 #[.val (.ref o1), .val (.int (60 : Int32)), .unset, .unset] [])) t → Steps p.tables e below (s₁.setTop (entryFrame m #[(.ref o1), (.int (60 : Int32))] 4)) t := fun t k => castTop (by first | (simp [entryFrame, mkF, argsToLocals, Value.category, maxLocals]; done) | rfl) k
  obtain ⟨cq101, kq101, q101a, q101b, q101c⟩ := isOf hZ e0 H.1
  obtain ⟨_, _, ⟨T101, L101, k101, n101⟩, -, X101, ⟨Lc101, hQ101, l101, y101, z101⟩, st101⟩ := X0.virtualBack hx (y := own_m6) (z := own_m6) hown (mvT hZ (own_w28 hw)) (mvT hZ (own_w29 hw)) (notFace_of_selects (args := #[]) (mvT hZ (own_w31 hw))) (mvT hZ (own_w31 hw)) (mvT hZ (own_w30 hw)) (by decide) (backOf (W := 0) (own_lenG l Z a0 hw [] o1 v1 kc cs fv h0 n0 Z0 H SC hcs SF hfv) hZ (own_w33 hw) (own_w32 hw) (by decide) (by decide)) q101a q101c (g := (mkF m 1 #[.val (.ref o1), .val (.int (60 : Int32)), .unset, .unset] [(.ref o1)])) rfl (by rw [hml]; rfl) (Steps.refl _) (argsL := []) (rest := []) (lenOf own_pd5 rfl) rfl (by show 2 * 0 + _ ≤ _; exact Nat.le_of_eq rfl) (hb hby own_d2_1) (fun _ _ => ⟨rfl, e0, (by decide : 0 + 0 ≤ _), (by decide : 0 + 0 ≤ _)⟩)
  dsimp only [Pt.U, Pt.locs, Pt.cells, Pt.slots] at X101 l101 y101 z101 st101 hQ101
  subst l101 y101 z101
  obtain ⟨rfl, N101q, e101⟩ := hQ101
  have N101 := Fr.app N0 N101q
  obtain ⟨cq102, kq102, q102a, q102b, q102c⟩ := isOf hZ e101 H.1
  obtain ⟨_, _, ⟨T102, L102, k102, n102⟩, -, X102, ⟨Lc102, hQ102, l102, y102, z102⟩, st102⟩ := X101.virtualBack hx (y := own_m5) (z := own_m5) hown (mvT hZ (own_w44 hw)) (mvT hZ (own_w45 hw)) (notFace_of_selects (args := #[]) (mvT hZ (own_w47 hw))) (mvT hZ (own_w47 hw)) (mvT hZ (own_w46 hw)) (by decide) (backOf (W := 0) (own_caG0 l Z a0 hw [] o1 v1 kc cs fv h0 n0 Z0 H SC hcs SF hfv) hZ (own_w48 hw) (own_w32 hw) (by decide) (by decide)) q102a q102c (g := (mkF m 10 #[.val (.ref o1), .val (.int (60 : Int32)), .unset, .unset] [(.int (0 : Int32)), (.ref o1)])) rfl (by rw [hml]; rfl) (Steps.refl _) (argsL := [(.int (0 : Int32))]) (rest := []) (lenOf own_pd6 rfl) rfl (by show 2 * 0 + _ ≤ _; exact Nat.le_of_eq rfl) (hb hby own_d2_10) (fun _ _ => ⟨rfl, e101, (by decide : 0 + 0 ≤ _), (by decide : 0 + 0 ≤ _)⟩)
  dsimp only [Pt.U, Pt.locs, Pt.cells, Pt.slots] at X102 l102 y102 z102 st102 hQ102
  subst l102 y102 z102
  obtain ⟨rfl, N102q, e102⟩ := hQ102
  have N102 := Fr.app N101 N102q
  obtain ⟨cq103, kq103, q103a, q103b, q103c⟩ := isOf hZ e102 H.1
  obtain ⟨_, _, ⟨T103, L103, k103, n103⟩, -, X103, ⟨Lc103, hQ103, l103, y103, z103⟩, st103⟩ := X102.virtualBack hx (y := own_m6) (z := own_m6) hown (mvT hZ (own_w28 hw)) (mvT hZ (own_w29 hw)) (notFace_of_selects (args := #[]) (mvT hZ (own_w31 hw))) (mvT hZ (own_w31 hw)) (mvT hZ (own_w30 hw)) (by decide) (backOf (W := 0) (own_lenG l Z a0 hw [] o1 v1 kc cs fv h0 n0 Z0 H SC hcs SF hfv) hZ (own_w33 hw) (own_w32 hw) (by decide) (by decide)) q103a q103c (g := (mkF m 24 #[.val (.ref o1), .val (.int (60 : Int32)), .val (.int (0 : Int32)), .unset] [(.ref o1)])) rfl (by rw [hml]; rfl) (Steps.refl _) (argsL := []) (rest := []) (lenOf own_pd5 rfl) rfl (by show 2 * 0 + _ ≤ _; exact Nat.le_of_eq rfl) (hb hby own_d2_24) (fun _ _ => ⟨rfl, e102, (by decide : 0 + 0 ≤ _), (by decide : 0 + 0 ≤ _)⟩)
  dsimp only [Pt.U, Pt.locs, Pt.cells, Pt.slots] at X103 l103 y103 z103 st103 hQ103
  subst l103 y103 z103
  obtain ⟨rfl, N103q, e103⟩ := hQ103
  have N103 := Fr.app N102 N103q
  obtain ⟨fs, hr, hrun, hended, hW, hsame⟩ := X103.leave (v := some (.int (0 : Int32))) (fun h => by rw [Bd.returns] at h; cases h)
  refine ⟨_, _, pre0 _ ?_, hrun, hended, _, _, rfl, ?_, ⟨_, rfl⟩, hW, hsame.mono (by decide) (by decide)⟩
  · show Steps _ _ _ (s₁.setTop (mkF m 0 #[.val (.ref o1), .val (.int (60 : Int32)), .unset, .unset] [])) _
    refine XS.aloadN X0.here hx rfl (hb hby own_d2_0) rfl rfl ?_
    refine st101.trans ?_
    refine XS.iconst X101.here hx rfl (hb hby own_d2_4) ?_
    refine XS.icmpNo X101.here hx rfl (hb hby own_d2_5) rfl (flt (by decide : ¬ ((1 : Int32) < (1 : Int32)))).1 ?_
    show Steps _ _ _ (T101.setTop (mkF m 8 #[.val (.ref o1), .val (.int (60 : Int32)), .unset, .unset] [])) _
    refine XS.aloadN X101.here hx rfl (hb hby own_d2_8) rfl rfl ?_
    refine XS.iconst X101.here hx rfl (hb hby own_d2_9) ?_
    refine st102.trans ?_
    refine XS.iloadN X102.here hx rfl (hb hby own_d2_13) rfl ?_
    show Steps _ _ _ (T102.setTop (mkF m 14 #[.val (.ref o1), .val (.int (60 : Int32)), .unset, .unset] [(.int (60 : Int32)), (.int (62 : Int32))])) _
    refine XS.icmpYes X102.here hx rfl (pc0 := 14) (pc' := 21) rfl (hb hby own_d2_14) rfl (feq (by decide : ¬ ((62 : Int32) = (60 : Int32)))).2 (by decide) (by decide) ?_
    refine XS.iconst X102.here hx rfl (hb hby own_d2_21) ?_
    refine XS.istoreN X102.here hx rfl (hb hby own_d2_22) rfl (l' := #[.val (.ref o1), .val (.int (60 : Int32)), .val (.int (0 : Int32)), .unset]) rfl ?_
    refine XS.aloadN X102.here hx rfl (hb hby own_d2_23) rfl rfl ?_
    show Steps _ _ _ (T102.setTop (mkF m 24 #[.val (.ref o1), .val (.int (60 : Int32)), .val (.int (0 : Int32)), .unset] [(.ref o1)])) _
    refine st103.trans ?_
    refine XS.iconst X103.here hx rfl (hb hby own_d2_27) ?_
    refine XS.icmpYes X103.here hx rfl (pc0 := 28) (pc' := 44) rfl (hb hby own_d2_28) rfl (tlt (by decide : (1 : Int32) < (2 : Int32))).1 (by decide) (by decide) ?_
    refine XS.iconst X103.here hx rfl (hb hby own_d2_44) ?_
    show Steps _ _ _ (T103.setTop (mkF m 45 #[.val (.ref o1), .val (.int (60 : Int32)), .val (.int (0 : Int32)), .unset] [(.int (0 : Int32))])) _
    refine XS.istoreN X103.here hx rfl (hb hby own_d2_45) rfl (l' := #[.val (.ref o1), .val (.int (60 : Int32)), .val (.int (0 : Int32)), .val (.int (0 : Int32))]) rfl ?_
    refine XS.iloadN X103.here hx rfl (hb hby own_d2_46) rfl ?_
    refine XS.ifNo X103.here hx rfl (hb hby own_d2_47) rfl ((if0 _ _).trans (teq (by decide : (0 : Int32) = (0 : Int32))).2) ?_
    refine XS.iloadN X103.here hx rfl (hb hby own_d2_50) rfl ?_
    show Steps _ _ _ (T103.setTop (mkF m 51 #[.val (.ref o1), .val (.int (60 : Int32)), .val (.int (0 : Int32)), .val (.int (0 : Int32))] [(.int (0 : Int32))])) _
    refine XS.ifYes X103.here hx rfl (pc0 := 51) (pc' := 58) rfl (hb hby own_d2_51) rfl ((if0 _ _).trans (teq (by decide : (0 : Int32) = (0 : Int32))).1) (by decide) (by decide) ?_
    refine XS.iconst X103.here hx rfl (hb hby own_d2_58) ?_
    show Steps _ _ _ (T103.setTop (mkF m 59 #[.val (.ref o1), .val (.int (60 : Int32)), .val (.int (0 : Int32)), .val (.int (0 : Int32))] [(.int (0 : Int32))])) _
    exact retN X103 hx (t := .boolean) Bd.returns (by simp) (hb hby own_d2_59) hr
  · show Qown_hasGL Z o1 v1 kc cs fv h0 n0 _ T103.heap _
    rw [e103]
    exact ⟨rfl, N103, rfl⟩
def Qown_hasGE (Z : State) (o1 v1 : Addr) (kc : ClassId) (cs : Int32) (fv : Value) (h0 : Heap) (n0 : Nat) (v : Option Value) (h : Heap) (L : List Loc) : Prop := v = some (.int (0 : Int32)) ∧ Fr n0 L ∧ h = h0
set_option maxRecDepth 65536 in
set_option maxHeartbeats 40000000 in
theorem own_hasGE (l : Launch) (Z : State) (a0 : Array Value) (hw : ∀ d ∈ tables_1, d.before a0 Z = true) (ws : List Jvm.Cond) (o1 v1 : Addr) (kc : ClassId) (cs : Int32) (fv : Value) (h0 : Heap) (n0 : Nat) (Z0 : n0 ≤ h0.size) (H : own_Str Z h0 o1 v1 kc (1 : Int32) [(.int (62 : Int32))]) (SC : Sta Z h0 "java/lang/String" "COMPACT_STRINGS" "Z" (.int cs)) (hcs : ¬ cs = (0 : Int32)) (SF : Sta Z h0 "jdk/internal/util/Preconditions" "SIOOBE_FORMATTER" "Ljava/util/function/BiFunction;" fv) (hfv : fv.isRef = true) :
    MetFree l own_m7 (head1 (Jvm.Cond.code own_m7 method_2_code 4 (some .boolean) :: ws) ({ frames := 4, cells := 0, slots := 0, locals := 53 } : Room)) (fun a U => a = #[(.ref o1), (.int (61 : Int32))] ∧ Z.Warmed39 U.vm ∧ U.heap = h0) (fun _ _ _ _ _ => True) (fun _ U o U' => ∃ v L, o = .returned v ∧ Qown_hasGE Z o1 v1 kc cs fv h0 n0 v U'.heap L ∧ FrameEnd U o U' L ({ frames := 4, cells := 0, slots := 0, locals := 53 } : Room).cells ({ frames := 4, cells := 0, slots := 0, locals := 53 } : Room).slots) := by
  refine MetFree.of_bodySF (plainFor_of_name own_pn3) hisR ?_
  intro p e s m args below meth c s₁ Bd hml0 hP hK
  obtain ⟨rfl, hZ, hh⟩ := hP
  have hx := Bd.exec
  have hby := Bd.bytes
  have hml : c.maxLocals = 4 := hml0
  have hown : s.vm.findClass "com/example/dirwarden/dirwarden/aci/ComparisonHoldsPinLaw" = some m.cls := by have q := findClass_of_methodNamed Bd.named; exact q
  have hnm := (name_of_methodNamed Bd.named Bd.method).1
  have X0 : Stand p l e ({ frames := 4, cells := 0, slots := 0, locals := 53 } : Room) s m #[(.ref o1), (.int (61 : Int32))] below meth c s₁ [] 0 0 := Stand.of_body Bd
  have e0 : s₁.heap = h0 := by rw [← hh, Bd.state]; rfl
  have N0 := Fr.nil n0
  have pre0 : ∀ t, Steps p.tables e below (s₁.setTop (mkF m 0 #[.val (.ref o1), .val (.int (61 : Int32)), .unset, .unset] [])) t → Steps p.tables e below (s₁.setTop (entryFrame m #[(.ref o1), (.int (61 : Int32))] 4)) t := fun t k => castTop (by first | (simp [entryFrame, mkF, argsToLocals, Value.category, maxLocals]; done) | rfl) k
  obtain ⟨cq101, kq101, q101a, q101b, q101c⟩ := isOf hZ e0 H.1
  obtain ⟨_, _, ⟨T101, L101, k101, n101⟩, -, X101, ⟨Lc101, hQ101, l101, y101, z101⟩, st101⟩ := X0.virtualBack hx (y := own_m6) (z := own_m6) hown (mvT hZ (own_w28 hw)) (mvT hZ (own_w29 hw)) (notFace_of_selects (args := #[]) (mvT hZ (own_w31 hw))) (mvT hZ (own_w31 hw)) (mvT hZ (own_w30 hw)) (by decide) (backOf (W := 0) (own_lenG l Z a0 hw [] o1 v1 kc cs fv h0 n0 Z0 H SC hcs SF hfv) hZ (own_w33 hw) (own_w32 hw) (by decide) (by decide)) q101a q101c (g := (mkF m 1 #[.val (.ref o1), .val (.int (61 : Int32)), .unset, .unset] [(.ref o1)])) rfl (by rw [hml]; rfl) (Steps.refl _) (argsL := []) (rest := []) (lenOf own_pd5 rfl) rfl (by show 2 * 0 + _ ≤ _; exact Nat.le_of_eq rfl) (hb hby own_d2_1) (fun _ _ => ⟨rfl, e0, (by decide : 0 + 0 ≤ _), (by decide : 0 + 0 ≤ _)⟩)
  dsimp only [Pt.U, Pt.locs, Pt.cells, Pt.slots] at X101 l101 y101 z101 st101 hQ101
  subst l101 y101 z101
  obtain ⟨rfl, N101q, e101⟩ := hQ101
  have N101 := Fr.app N0 N101q
  obtain ⟨cq102, kq102, q102a, q102b, q102c⟩ := isOf hZ e101 H.1
  obtain ⟨_, _, ⟨T102, L102, k102, n102⟩, -, X102, ⟨Lc102, hQ102, l102, y102, z102⟩, st102⟩ := X101.virtualBack hx (y := own_m5) (z := own_m5) hown (mvT hZ (own_w44 hw)) (mvT hZ (own_w45 hw)) (notFace_of_selects (args := #[]) (mvT hZ (own_w47 hw))) (mvT hZ (own_w47 hw)) (mvT hZ (own_w46 hw)) (by decide) (backOf (W := 0) (own_caG0 l Z a0 hw [] o1 v1 kc cs fv h0 n0 Z0 H SC hcs SF hfv) hZ (own_w48 hw) (own_w32 hw) (by decide) (by decide)) q102a q102c (g := (mkF m 10 #[.val (.ref o1), .val (.int (61 : Int32)), .unset, .unset] [(.int (0 : Int32)), (.ref o1)])) rfl (by rw [hml]; rfl) (Steps.refl _) (argsL := [(.int (0 : Int32))]) (rest := []) (lenOf own_pd6 rfl) rfl (by show 2 * 0 + _ ≤ _; exact Nat.le_of_eq rfl) (hb hby own_d2_10) (fun _ _ => ⟨rfl, e101, (by decide : 0 + 0 ≤ _), (by decide : 0 + 0 ≤ _)⟩)
  dsimp only [Pt.U, Pt.locs, Pt.cells, Pt.slots] at X102 l102 y102 z102 st102 hQ102
  subst l102 y102 z102
  obtain ⟨rfl, N102q, e102⟩ := hQ102
  have N102 := Fr.app N101 N102q
  obtain ⟨cq103, kq103, q103a, q103b, q103c⟩ := isOf hZ e102 H.1
  obtain ⟨_, _, ⟨T103, L103, k103, n103⟩, -, X103, ⟨Lc103, hQ103, l103, y103, z103⟩, st103⟩ := X102.virtualBack hx (y := own_m6) (z := own_m6) hown (mvT hZ (own_w28 hw)) (mvT hZ (own_w29 hw)) (notFace_of_selects (args := #[]) (mvT hZ (own_w31 hw))) (mvT hZ (own_w31 hw)) (mvT hZ (own_w30 hw)) (by decide) (backOf (W := 0) (own_lenG l Z a0 hw [] o1 v1 kc cs fv h0 n0 Z0 H SC hcs SF hfv) hZ (own_w33 hw) (own_w32 hw) (by decide) (by decide)) q103a q103c (g := (mkF m 24 #[.val (.ref o1), .val (.int (61 : Int32)), .val (.int (0 : Int32)), .unset] [(.ref o1)])) rfl (by rw [hml]; rfl) (Steps.refl _) (argsL := []) (rest := []) (lenOf own_pd5 rfl) rfl (by show 2 * 0 + _ ≤ _; exact Nat.le_of_eq rfl) (hb hby own_d2_24) (fun _ _ => ⟨rfl, e102, (by decide : 0 + 0 ≤ _), (by decide : 0 + 0 ≤ _)⟩)
  dsimp only [Pt.U, Pt.locs, Pt.cells, Pt.slots] at X103 l103 y103 z103 st103 hQ103
  subst l103 y103 z103
  obtain ⟨rfl, N103q, e103⟩ := hQ103
  have N103 := Fr.app N102 N103q
  obtain ⟨fs, hr, hrun, hended, hW, hsame⟩ := X103.leave (v := some (.int (0 : Int32))) (fun h => by rw [Bd.returns] at h; cases h)
  refine ⟨_, _, pre0 _ ?_, hrun, hended, _, _, rfl, ?_, ⟨_, rfl⟩, hW, hsame.mono (by decide) (by decide)⟩
  · show Steps _ _ _ (s₁.setTop (mkF m 0 #[.val (.ref o1), .val (.int (61 : Int32)), .unset, .unset] [])) _
    refine XS.aloadN X0.here hx rfl (hb hby own_d2_0) rfl rfl ?_
    refine st101.trans ?_
    refine XS.iconst X101.here hx rfl (hb hby own_d2_4) ?_
    refine XS.icmpNo X101.here hx rfl (hb hby own_d2_5) rfl (flt (by decide : ¬ ((1 : Int32) < (1 : Int32)))).1 ?_
    show Steps _ _ _ (T101.setTop (mkF m 8 #[.val (.ref o1), .val (.int (61 : Int32)), .unset, .unset] [])) _
    refine XS.aloadN X101.here hx rfl (hb hby own_d2_8) rfl rfl ?_
    refine XS.iconst X101.here hx rfl (hb hby own_d2_9) ?_
    refine st102.trans ?_
    refine XS.iloadN X102.here hx rfl (hb hby own_d2_13) rfl ?_
    show Steps _ _ _ (T102.setTop (mkF m 14 #[.val (.ref o1), .val (.int (61 : Int32)), .unset, .unset] [(.int (61 : Int32)), (.int (62 : Int32))])) _
    refine XS.icmpYes X102.here hx rfl (pc0 := 14) (pc' := 21) rfl (hb hby own_d2_14) rfl (feq (by decide : ¬ ((62 : Int32) = (61 : Int32)))).2 (by decide) (by decide) ?_
    refine XS.iconst X102.here hx rfl (hb hby own_d2_21) ?_
    refine XS.istoreN X102.here hx rfl (hb hby own_d2_22) rfl (l' := #[.val (.ref o1), .val (.int (61 : Int32)), .val (.int (0 : Int32)), .unset]) rfl ?_
    refine XS.aloadN X102.here hx rfl (hb hby own_d2_23) rfl rfl ?_
    show Steps _ _ _ (T102.setTop (mkF m 24 #[.val (.ref o1), .val (.int (61 : Int32)), .val (.int (0 : Int32)), .unset] [(.ref o1)])) _
    refine st103.trans ?_
    refine XS.iconst X103.here hx rfl (hb hby own_d2_27) ?_
    refine XS.icmpYes X103.here hx rfl (pc0 := 28) (pc' := 44) rfl (hb hby own_d2_28) rfl (tlt (by decide : (1 : Int32) < (2 : Int32))).1 (by decide) (by decide) ?_
    refine XS.iconst X103.here hx rfl (hb hby own_d2_44) ?_
    show Steps _ _ _ (T103.setTop (mkF m 45 #[.val (.ref o1), .val (.int (61 : Int32)), .val (.int (0 : Int32)), .unset] [(.int (0 : Int32))])) _
    refine XS.istoreN X103.here hx rfl (hb hby own_d2_45) rfl (l' := #[.val (.ref o1), .val (.int (61 : Int32)), .val (.int (0 : Int32)), .val (.int (0 : Int32))]) rfl ?_
    refine XS.iloadN X103.here hx rfl (hb hby own_d2_46) rfl ?_
    refine XS.ifNo X103.here hx rfl (hb hby own_d2_47) rfl ((if0 _ _).trans (teq (by decide : (0 : Int32) = (0 : Int32))).2) ?_
    refine XS.iloadN X103.here hx rfl (hb hby own_d2_50) rfl ?_
    show Steps _ _ _ (T103.setTop (mkF m 51 #[.val (.ref o1), .val (.int (61 : Int32)), .val (.int (0 : Int32)), .val (.int (0 : Int32))] [(.int (0 : Int32))])) _
    refine XS.ifYes X103.here hx rfl (pc0 := 51) (pc' := 58) rfl (hb hby own_d2_51) rfl ((if0 _ _).trans (teq (by decide : (0 : Int32) = (0 : Int32))).1) (by decide) (by decide) ?_
    refine XS.iconst X103.here hx rfl (hb hby own_d2_58) ?_
    show Steps _ _ _ (T103.setTop (mkF m 59 #[.val (.ref o1), .val (.int (61 : Int32)), .val (.int (0 : Int32)), .val (.int (0 : Int32))] [(.int (0 : Int32))])) _
    exact retN X103 hx (t := .boolean) Bd.returns (by simp) (hb hby own_d2_59) hr
  · show Qown_hasGE Z o1 v1 kc cs fv h0 n0 _ T103.heap _
    rw [e103]
    exact ⟨rfl, N103, rfl⟩
def Qown_hasGG (Z : State) (o1 v1 : Addr) (kc : ClassId) (cs : Int32) (fv : Value) (h0 : Heap) (n0 : Nat) (v : Option Value) (h : Heap) (L : List Loc) : Prop := v = some (.int (1 : Int32)) ∧ Fr n0 L ∧ h = h0
set_option maxRecDepth 65536 in
set_option maxHeartbeats 40000000 in
theorem own_hasGG (l : Launch) (Z : State) (a0 : Array Value) (hw : ∀ d ∈ tables_1, d.before a0 Z = true) (ws : List Jvm.Cond) (o1 v1 : Addr) (kc : ClassId) (cs : Int32) (fv : Value) (h0 : Heap) (n0 : Nat) (Z0 : n0 ≤ h0.size) (H : own_Str Z h0 o1 v1 kc (1 : Int32) [(.int (62 : Int32))]) (SC : Sta Z h0 "java/lang/String" "COMPACT_STRINGS" "Z" (.int cs)) (hcs : ¬ cs = (0 : Int32)) (SF : Sta Z h0 "jdk/internal/util/Preconditions" "SIOOBE_FORMATTER" "Ljava/util/function/BiFunction;" fv) (hfv : fv.isRef = true) :
    MetFree l own_m7 (head1 (Jvm.Cond.code own_m7 method_2_code 4 (some .boolean) :: ws) ({ frames := 4, cells := 0, slots := 0, locals := 53 } : Room)) (fun a U => a = #[(.ref o1), (.int (62 : Int32))] ∧ Z.Warmed39 U.vm ∧ U.heap = h0) (fun _ _ _ _ _ => True) (fun _ U o U' => ∃ v L, o = .returned v ∧ Qown_hasGG Z o1 v1 kc cs fv h0 n0 v U'.heap L ∧ FrameEnd U o U' L ({ frames := 4, cells := 0, slots := 0, locals := 53 } : Room).cells ({ frames := 4, cells := 0, slots := 0, locals := 53 } : Room).slots) := by
  refine MetFree.of_bodySF (plainFor_of_name own_pn3) hisR ?_
  intro p e s m args below meth c s₁ Bd hml0 hP hK
  obtain ⟨rfl, hZ, hh⟩ := hP
  have hx := Bd.exec
  have hby := Bd.bytes
  have hml : c.maxLocals = 4 := hml0
  have hown : s.vm.findClass "com/example/dirwarden/dirwarden/aci/ComparisonHoldsPinLaw" = some m.cls := by have q := findClass_of_methodNamed Bd.named; exact q
  have hnm := (name_of_methodNamed Bd.named Bd.method).1
  have X0 : Stand p l e ({ frames := 4, cells := 0, slots := 0, locals := 53 } : Room) s m #[(.ref o1), (.int (62 : Int32))] below meth c s₁ [] 0 0 := Stand.of_body Bd
  have e0 : s₁.heap = h0 := by rw [← hh, Bd.state]; rfl
  have N0 := Fr.nil n0
  have pre0 : ∀ t, Steps p.tables e below (s₁.setTop (mkF m 0 #[.val (.ref o1), .val (.int (62 : Int32)), .unset, .unset] [])) t → Steps p.tables e below (s₁.setTop (entryFrame m #[(.ref o1), (.int (62 : Int32))] 4)) t := fun t k => castTop (by first | (simp [entryFrame, mkF, argsToLocals, Value.category, maxLocals]; done) | rfl) k
  obtain ⟨cq101, kq101, q101a, q101b, q101c⟩ := isOf hZ e0 H.1
  obtain ⟨_, _, ⟨T101, L101, k101, n101⟩, -, X101, ⟨Lc101, hQ101, l101, y101, z101⟩, st101⟩ := X0.virtualBack hx (y := own_m6) (z := own_m6) hown (mvT hZ (own_w28 hw)) (mvT hZ (own_w29 hw)) (notFace_of_selects (args := #[]) (mvT hZ (own_w31 hw))) (mvT hZ (own_w31 hw)) (mvT hZ (own_w30 hw)) (by decide) (backOf (W := 0) (own_lenG l Z a0 hw [] o1 v1 kc cs fv h0 n0 Z0 H SC hcs SF hfv) hZ (own_w33 hw) (own_w32 hw) (by decide) (by decide)) q101a q101c (g := (mkF m 1 #[.val (.ref o1), .val (.int (62 : Int32)), .unset, .unset] [(.ref o1)])) rfl (by rw [hml]; rfl) (Steps.refl _) (argsL := []) (rest := []) (lenOf own_pd5 rfl) rfl (by show 2 * 0 + _ ≤ _; exact Nat.le_of_eq rfl) (hb hby own_d2_1) (fun _ _ => ⟨rfl, e0, (by decide : 0 + 0 ≤ _), (by decide : 0 + 0 ≤ _)⟩)
  dsimp only [Pt.U, Pt.locs, Pt.cells, Pt.slots] at X101 l101 y101 z101 st101 hQ101
  subst l101 y101 z101
  obtain ⟨rfl, N101q, e101⟩ := hQ101
  have N101 := Fr.app N0 N101q
  obtain ⟨cq102, kq102, q102a, q102b, q102c⟩ := isOf hZ e101 H.1
  obtain ⟨_, _, ⟨T102, L102, k102, n102⟩, -, X102, ⟨Lc102, hQ102, l102, y102, z102⟩, st102⟩ := X101.virtualBack hx (y := own_m5) (z := own_m5) hown (mvT hZ (own_w44 hw)) (mvT hZ (own_w45 hw)) (notFace_of_selects (args := #[]) (mvT hZ (own_w47 hw))) (mvT hZ (own_w47 hw)) (mvT hZ (own_w46 hw)) (by decide) (backOf (W := 0) (own_caG0 l Z a0 hw [] o1 v1 kc cs fv h0 n0 Z0 H SC hcs SF hfv) hZ (own_w48 hw) (own_w32 hw) (by decide) (by decide)) q102a q102c (g := (mkF m 10 #[.val (.ref o1), .val (.int (62 : Int32)), .unset, .unset] [(.int (0 : Int32)), (.ref o1)])) rfl (by rw [hml]; rfl) (Steps.refl _) (argsL := [(.int (0 : Int32))]) (rest := []) (lenOf own_pd6 rfl) rfl (by show 2 * 0 + _ ≤ _; exact Nat.le_of_eq rfl) (hb hby own_d2_10) (fun _ _ => ⟨rfl, e101, (by decide : 0 + 0 ≤ _), (by decide : 0 + 0 ≤ _)⟩)
  dsimp only [Pt.U, Pt.locs, Pt.cells, Pt.slots] at X102 l102 y102 z102 st102 hQ102
  subst l102 y102 z102
  obtain ⟨rfl, N102q, e102⟩ := hQ102
  have N102 := Fr.app N101 N102q
  obtain ⟨cq103, kq103, q103a, q103b, q103c⟩ := isOf hZ e102 H.1
  obtain ⟨_, _, ⟨T103, L103, k103, n103⟩, -, X103, ⟨Lc103, hQ103, l103, y103, z103⟩, st103⟩ := X102.virtualBack hx (y := own_m6) (z := own_m6) hown (mvT hZ (own_w28 hw)) (mvT hZ (own_w29 hw)) (notFace_of_selects (args := #[]) (mvT hZ (own_w31 hw))) (mvT hZ (own_w31 hw)) (mvT hZ (own_w30 hw)) (by decide) (backOf (W := 0) (own_lenG l Z a0 hw [] o1 v1 kc cs fv h0 n0 Z0 H SC hcs SF hfv) hZ (own_w33 hw) (own_w32 hw) (by decide) (by decide)) q103a q103c (g := (mkF m 24 #[.val (.ref o1), .val (.int (62 : Int32)), .val (.int (1 : Int32)), .unset] [(.ref o1)])) rfl (by rw [hml]; rfl) (Steps.refl _) (argsL := []) (rest := []) (lenOf own_pd5 rfl) rfl (by show 2 * 0 + _ ≤ _; exact Nat.le_of_eq rfl) (hb hby own_d2_24) (fun _ _ => ⟨rfl, e102, (by decide : 0 + 0 ≤ _), (by decide : 0 + 0 ≤ _)⟩)
  dsimp only [Pt.U, Pt.locs, Pt.cells, Pt.slots] at X103 l103 y103 z103 st103 hQ103
  subst l103 y103 z103
  obtain ⟨rfl, N103q, e103⟩ := hQ103
  have N103 := Fr.app N102 N103q
  obtain ⟨fs, hr, hrun, hended, hW, hsame⟩ := X103.leave (v := some (.int (1 : Int32))) (fun h => by rw [Bd.returns] at h; cases h)
  refine ⟨_, _, pre0 _ ?_, hrun, hended, _, _, rfl, ?_, ⟨_, rfl⟩, hW, hsame.mono (by decide) (by decide)⟩
  · show Steps _ _ _ (s₁.setTop (mkF m 0 #[.val (.ref o1), .val (.int (62 : Int32)), .unset, .unset] [])) _
    refine XS.aloadN X0.here hx rfl (hb hby own_d2_0) rfl rfl ?_
    refine st101.trans ?_
    refine XS.iconst X101.here hx rfl (hb hby own_d2_4) ?_
    refine XS.icmpNo X101.here hx rfl (hb hby own_d2_5) rfl (flt (by decide : ¬ ((1 : Int32) < (1 : Int32)))).1 ?_
    show Steps _ _ _ (T101.setTop (mkF m 8 #[.val (.ref o1), .val (.int (62 : Int32)), .unset, .unset] [])) _
    refine XS.aloadN X101.here hx rfl (hb hby own_d2_8) rfl rfl ?_
    refine XS.iconst X101.here hx rfl (hb hby own_d2_9) ?_
    refine st102.trans ?_
    refine XS.iloadN X102.here hx rfl (hb hby own_d2_13) rfl ?_
    show Steps _ _ _ (T102.setTop (mkF m 14 #[.val (.ref o1), .val (.int (62 : Int32)), .unset, .unset] [(.int (62 : Int32)), (.int (62 : Int32))])) _
    refine XS.icmpNo X102.here hx rfl (hb hby own_d2_14) rfl (teq (by decide : (62 : Int32) = (62 : Int32))).2 ?_
    refine XS.iconst X102.here hx rfl (hb hby own_d2_17) ?_
    refine XS.goto X102.here hx rfl (pc0 := 18) (pc' := 22) rfl (hb hby own_d2_18) (by decide) (by decide) ?_
    refine XS.istoreN X102.here hx rfl (hb hby own_d2_22) rfl (l' := #[.val (.ref o1), .val (.int (62 : Int32)), .val (.int (1 : Int32)), .unset]) rfl ?_
    show Steps _ _ _ (T102.setTop (mkF m 23 #[.val (.ref o1), .val (.int (62 : Int32)), .val (.int (1 : Int32)), .unset] [])) _
    refine XS.aloadN X102.here hx rfl (hb hby own_d2_23) rfl rfl ?_
    refine st103.trans ?_
    refine XS.iconst X103.here hx rfl (hb hby own_d2_27) ?_
    refine XS.icmpYes X103.here hx rfl (pc0 := 28) (pc' := 44) rfl (hb hby own_d2_28) rfl (tlt (by decide : (1 : Int32) < (2 : Int32))).1 (by decide) (by decide) ?_
    show Steps _ _ _ (T103.setTop (mkF m 44 #[.val (.ref o1), .val (.int (62 : Int32)), .val (.int (1 : Int32)), .unset] [])) _
    refine XS.iconst X103.here hx rfl (hb hby own_d2_44) ?_
    refine XS.istoreN X103.here hx rfl (hb hby own_d2_45) rfl (l' := #[.val (.ref o1), .val (.int (62 : Int32)), .val (.int (1 : Int32)), .val (.int (0 : Int32))]) rfl ?_
    refine XS.iloadN X103.here hx rfl (hb hby own_d2_46) rfl ?_
    refine XS.ifYes X103.here hx rfl (pc0 := 47) (pc' := 54) rfl (hb hby own_d2_47) rfl ((if0 _ _).trans (feq (by decide : ¬ ((1 : Int32) = (0 : Int32)))).2) (by decide) (by decide) ?_
    show Steps _ _ _ (T103.setTop (mkF m 54 #[.val (.ref o1), .val (.int (62 : Int32)), .val (.int (1 : Int32)), .val (.int (0 : Int32))] [])) _
    refine XS.iconst X103.here hx rfl (hb hby own_d2_54) ?_
    refine XS.goto X103.here hx rfl (pc0 := 55) (pc' := 59) rfl (hb hby own_d2_55) (by decide) (by decide) ?_
    show Steps _ _ _ (T103.setTop (mkF m 59 #[.val (.ref o1), .val (.int (62 : Int32)), .val (.int (1 : Int32)), .val (.int (0 : Int32))] [(.int (1 : Int32))])) _
    exact retN X103 hx (t := .boolean) Bd.returns (by simp) (hb hby own_d2_59) hr
  · show Qown_hasGG Z o1 v1 kc cs fv h0 n0 _ T103.heap _
    rw [e103]
    exact ⟨rfl, N103, rfl⟩
def Qown_op (Z : State) (a1 o1 : Addr) (h0 : Heap) (n0 : Nat) (v : Option Value) (h : Heap) (L : List Loc) : Prop := v = some (.ref o1) ∧ Fr n0 L ∧ h = h0
set_option maxRecDepth 65536 in
set_option maxHeartbeats 40000000 in
theorem own_op (l : Launch) (Z : State) (a0 : Array Value) (hw : ∀ d ∈ tables_1, d.before a0 Z = true) (ws : List Jvm.Cond) (a1 o1 : Addr) (h0 : Heap) (n0 : Nat) (Z0 : n0 ≤ h0.size) (F1 : Fld Z h0 a1 "com/example/dirwarden/dirwarden/aci/Comparison" "operator" "Ljava/lang/String;" (.ref o1)) :
    MetFree l own_m8 (head1 (Jvm.Cond.code own_m8 prog_2_method_4_code 1 (some (.object "java/lang/String")) :: ws) ({ frames := 0, cells := 0, slots := 0, locals := 0 } : Room)) (fun a U => a = #[(.ref a1)] ∧ Z.Warmed39 U.vm ∧ U.heap = h0) (fun _ _ _ _ _ => True) (fun _ U o U' => ∃ v L, o = .returned v ∧ Qown_op Z a1 o1 h0 n0 v U'.heap L ∧ FrameEnd U o U' L ({ frames := 0, cells := 0, slots := 0, locals := 0 } : Room).cells ({ frames := 0, cells := 0, slots := 0, locals := 0 } : Room).slots) := by
  refine MetFree.of_bodySF (plainFor_of_name own_pn4) hisR ?_
  intro p e s m args below meth c s₁ Bd hml0 hP hK
  obtain ⟨rfl, hZ, hh⟩ := hP
  have hx := Bd.exec
  have hby := Bd.bytes
  have hml : c.maxLocals = 1 := hml0
  have hown : s.vm.findClass "com/example/dirwarden/dirwarden/aci/Comparison" = some m.cls := by have q := findClass_of_methodNamed Bd.named; exact q
  have hnm := (name_of_methodNamed Bd.named Bd.method).1
  have X0 : Stand p l e ({ frames := 0, cells := 0, slots := 0, locals := 0 } : Room) s m #[(.ref a1)] below meth c s₁ [] 0 0 := Stand.of_body Bd
  have e0 : s₁.heap = h0 := by rw [← hh, Bd.state]; rfl
  have N0 := Fr.nil n0
  have pre0 : ∀ t, Steps p.tables e below (s₁.setTop (mkF m 0 #[.val (.ref a1)] [])) t → Steps p.tables e below (s₁.setTop (entryFrame m #[(.ref a1)] 1)) t := fun t k => castTop (by first | (simp [entryFrame, mkF, argsToLocals, Value.category, maxLocals]; done) | rfl) k
  obtain ⟨T101, X101, e101, st101⟩ := getF X0 hx hZ hown (host := "") (Or.inl (own_w22 hw)) Via.refl e0 F1 (g := (mkF m 1 #[.val (.ref a1)] [(.ref a1)])) rfl rfl (hb hby own_d1_1)
  obtain ⟨fs, hr, hrun, hended, hW, hsame⟩ := X101.leave (v := some (.ref o1)) (fun h => by rw [Bd.returns] at h; cases h)
  refine ⟨_, _, pre0 _ ?_, hrun, hended, _, _, rfl, ?_, ⟨_, rfl⟩, hW, hsame.mono (by decide) (by decide)⟩
  · show Steps _ _ _ (s₁.setTop (mkF m 0 #[.val (.ref a1)] [])) _
    refine XS.aloadN X0.here hx rfl (hb hby own_d1_0) rfl rfl ?_
    refine st101 _ ?_
    show Steps _ _ _ (T101.setTop (mkF m 4 #[.val (.ref a1)] [(.ref o1)])) _
    jvm_step X101.here [X101.here.top, hx, (hb hby own_d1_4), X101.method', Bd.returns, Value.isRef, FieldType.isReference]
    first | (intro acts; rw [hr _ acts rfl rfl rfl]) | rw [hr _ _ rfl rfl rfl]
    exact Steps.refl _
  · show Qown_op Z a1 o1 h0 n0 _ T101.heap _
    rw [e101]
    exact ⟨rfl, N0, rfl⟩
def Qown_ordinal (Z : State) (a1 : Addr) (w1 : Int32) (h0 : Heap) (n0 : Nat) (v : Option Value) (h : Heap) (L : List Loc) : Prop := v = some (.int w1) ∧ Fr n0 L ∧ h = h0
set_option maxRecDepth 65536 in
set_option maxHeartbeats 40000000 in
theorem own_ordinal (l : Launch) (Z : State) (a0 : Array Value) (hw : ∀ d ∈ tables_1, d.before a0 Z = true) (ws : List Jvm.Cond) (a1 : Addr) (w1 : Int32) (h0 : Heap) (n0 : Nat) (Z0 : n0 ≤ h0.size) (F1 : Fld Z h0 a1 "java/lang/Enum" "ordinal" "I" (.int w1)) :
    MetFree l own_m9 (head1 (Jvm.Cond.code own_m9 jdk_37_method_2_code 1 (some .int) :: ws) ({ frames := 0, cells := 0, slots := 0, locals := 0 } : Room)) (fun a U => a = #[(.ref a1)] ∧ Z.Warmed39 U.vm ∧ U.heap = h0) (fun _ _ _ _ _ => True) (fun _ U o U' => ∃ v L, o = .returned v ∧ Qown_ordinal Z a1 w1 h0 n0 v U'.heap L ∧ FrameEnd U o U' L ({ frames := 0, cells := 0, slots := 0, locals := 0 } : Room).cells ({ frames := 0, cells := 0, slots := 0, locals := 0 } : Room).slots) := by
  refine MetFree.of_bodySF (plainFor_of_name own_pn5) hisR ?_
  intro p e s m args below meth c s₁ Bd hml0 hP hK
  obtain ⟨rfl, hZ, hh⟩ := hP
  have hx := Bd.exec
  have hby := Bd.bytes
  have hml : c.maxLocals = 1 := hml0
  have hown : s.vm.findClass "java/lang/Enum" = some m.cls := by have q := findClass_of_methodNamed Bd.named; exact q
  have hnm := (name_of_methodNamed Bd.named Bd.method).1
  have X0 : Stand p l e ({ frames := 0, cells := 0, slots := 0, locals := 0 } : Room) s m #[(.ref a1)] below meth c s₁ [] 0 0 := Stand.of_body Bd
  have e0 : s₁.heap = h0 := by rw [← hh, Bd.state]; rfl
  have N0 := Fr.nil n0
  have pre0 : ∀ t, Steps p.tables e below (s₁.setTop (mkF m 0 #[.val (.ref a1)] [])) t → Steps p.tables e below (s₁.setTop (entryFrame m #[(.ref a1)] 1)) t := fun t k => castTop (by first | (simp [entryFrame, mkF, argsToLocals, Value.category, maxLocals]; done) | rfl) k
  obtain ⟨T101, X101, e101, st101⟩ := getF X0 hx hZ hown (host := "") (Or.inl (own_w78 hw)) Via.refl e0 F1 (g := (mkF m 1 #[.val (.ref a1)] [(.ref a1)])) rfl rfl (hb hby own_d11_1)
  obtain ⟨fs, hr, hrun, hended, hW, hsame⟩ := X101.leave (v := some (.int w1)) (fun h => by rw [Bd.returns] at h; cases h)
  refine ⟨_, _, pre0 _ ?_, hrun, hended, _, _, rfl, ?_, ⟨_, rfl⟩, hW, hsame.mono (by decide) (by decide)⟩
  · show Steps _ _ _ (s₁.setTop (mkF m 0 #[.val (.ref a1)] [])) _
    refine XS.aloadN X0.here hx rfl (hb hby own_d11_0) rfl rfl ?_
    refine st101 _ ?_
    show Steps _ _ _ (T101.setTop (mkF m 4 #[.val (.ref a1)] [(.int w1)])) _
    exact retI X101 hx Bd.returns (hb hby own_d11_4) hr
  · show Qown_ordinal Z a1 w1 h0 n0 _ T101.heap _
    rw [e101]
    exact ⟨rfl, N0, rfl⟩
def Qown_holds0 (Z : State) (a1 : Addr) (p1 : Int32) (h0 : Heap) (n0 : Nat) (v : Option Value) (h : Heap) (L : List Loc) : Prop := v = some (.int (own_h0 p1)) ∧ Fr n0 L ∧ h = h0
set_option maxRecDepth 65536 in
set_option maxHeartbeats 40000000 in
theorem own_holds0 (l : Launch) (Z : State) (a0 : Array Value) (hw : ∀ d ∈ tables_1, d.before a0 Z = true) (ws : List Jvm.Cond) (a1 : Addr) (p1 : Int32) (h0 : Heap) (n0 : Nat) (Z0 : n0 ≤ h0.size) (E1 : Exa Z h0 a1 "com/example/dirwarden/dirwarden/aci/Comparison") (F1 : Fld Z h0 a1 "java/lang/Enum" "ordinal" "I" (.int (0 : Int32))) :
    MetFree l own_m10 (head1 (Jvm.Cond.code own_m10 prog_2_method_6_code 2 (some .boolean) :: ws) ({ frames := 1, cells := 0, slots := 0, locals := 12 } : Room)) (fun a U => a = #[(.ref a1), (.int p1)] ∧ Z.Warmed39 U.vm ∧ U.heap = h0) (fun _ _ _ _ _ => True) (fun _ U o U' => ∃ v L, o = .returned v ∧ Qown_holds0 Z a1 p1 h0 n0 v U'.heap L ∧ FrameEnd U o U' L ({ frames := 1, cells := 0, slots := 0, locals := 12 } : Room).cells ({ frames := 1, cells := 0, slots := 0, locals := 12 } : Room).slots) := by
  refine MetFree.of_bodySF (plainFor_of_name own_pn4) hisR ?_
  intro p e s m args below meth c s₁ Bd hml0 hP hK
  obtain ⟨rfl, hZ, hh⟩ := hP
  have hx := Bd.exec
  have hby := Bd.bytes
  have hml : c.maxLocals = 2 := hml0
  have hown : s.vm.findClass "com/example/dirwarden/dirwarden/aci/Comparison" = some m.cls := by have q := findClass_of_methodNamed Bd.named; exact q
  have hnm := (name_of_methodNamed Bd.named Bd.method).1
  have X0 : Stand p l e ({ frames := 1, cells := 0, slots := 0, locals := 12 } : Room) s m #[(.ref a1), (.int p1)] below meth c s₁ [] 0 0 := Stand.of_body Bd
  have e0 : s₁.heap = h0 := by rw [← hh, Bd.state]; rfl
  have N0 := Fr.nil n0
  have pre0 : ∀ t, Steps p.tables e below (s₁.setTop (mkF m 0 #[.val (.ref a1), .val (.int p1)] [])) t → Steps p.tables e below (s₁.setTop (entryFrame m #[(.ref a1), (.int p1)] 2)) t := fun t k => castTop (by first | (simp [entryFrame, mkF, argsToLocals, Value.category, maxLocals]; done) | rfl) k
  obtain ⟨cq101, kq101, q101a, q101b, q101c⟩ := isOf hZ e0 E1
  obtain ⟨_, _, ⟨T101, L101, k101, n101⟩, -, X101, ⟨Lc101, hQ101, l101, y101, z101⟩, st101⟩ := X0.virtualBackUp hx (x := own_m11) (y := own_m9) (owner := "java/lang/Enum") hown (mvT hZ (own_w71 hw)) (mvT hZ (own_w72 hw)) (mvT hZ (own_w73 hw)) (by decide) (mvT hZ (own_w75 hw)) (mvT hZ (own_w74 hw)) (backOf (W := 0) (own_ordinal l Z a0 hw [] a1 (0 : Int32) h0 n0 Z0 F1) hZ (own_w77 hw) (own_w76 hw) (by decide) (by decide)) q101a q101c (g := (mkF m 1 #[.val (.ref a1), .val (.int p1)] [(.ref a1)])) rfl (by rw [hml]; rfl) (Steps.refl _) (argsL := []) (rest := []) (lenOf own_pd5 rfl) rfl (by show 2 * 0 + _ ≤ _; exact Nat.le_of_eq rfl) (hb hby own_d10_1) (fun _ _ => ⟨rfl, e0, (by decide : 0 + 0 ≤ _), (by decide : 0 + 0 ≤ _)⟩)
  dsimp only [Pt.U, Pt.locs, Pt.cells, Pt.slots] at X101 l101 y101 z101 st101 hQ101
  subst l101 y101 z101
  obtain ⟨rfl, N101q, e101⟩ := hQ101
  have N101 := Fr.app N0 N101q
  have pre102 : ∀ t, Steps p.tables e below (T101.setTop (mkF m 67 #[.val (.ref a1), .val (.int p1)] [(.int p1)])) t → Steps p.tables e below (s₁.setTop (entryFrame m #[(.ref a1), (.int p1)] 2)) t := fun t kt => pre0 t (by
    show Steps _ _ _ (s₁.setTop (mkF m 0 #[.val (.ref a1), .val (.int p1)] [])) _
    refine XS.aloadN X0.here hx rfl (hb hby own_d10_0) rfl rfl ?_
    refine st101.trans ?_
    refine XS.tswIn X101.here hx rfl (pc0 := 4) (pc' := 66) rfl (hb hby own_d10_4) (i := (0 : Int32)) rfl (by decide) (o := 62) (by decide) (by decide) (by decide) ?_
    refine XS.iloadN X101.here hx rfl (hb hby own_d10_66) rfl ?_
    exact kt)
  by_cases hc67_103 : p1 = (0 : Int32)
  · skip
    have ihc67_103 := (own_eq (b := (0 : Int32)) (k := 0) rfl).mp hc67_103
    obtain ⟨fs, hr, hrun, hended, hW, hsame⟩ := X101.leave (v := some (.int (0 : Int32))) (fun h => by rw [Bd.returns] at h; cases h)
    refine ⟨_, _, pre102 _ ?_, hrun, hended, _, _, rfl, ?_, ⟨_, rfl⟩, hW, hsame.mono (by decide) (by decide)⟩
    · show Steps _ _ _ (T101.setTop (mkF m 67 #[.val (.ref a1), .val (.int p1)] [(.int p1)])) _
      refine XS.ifYes X101.here hx rfl (pc0 := 67) (pc' := 74) rfl (hb hby own_d10_67) rfl ((if0 _ _).trans (teq hc67_103).1) (by decide) (by decide) ?_
      refine XS.iconst X101.here hx rfl (hb hby own_d10_74) ?_
      refine XS.goto X101.here hx rfl (pc0 := 75) (pc' := 123) rfl (hb hby own_d10_75) (by decide) (by decide) ?_
      show Steps _ _ _ (T101.setTop (mkF m 123 #[.val (.ref a1), .val (.int p1)] [(.int (0 : Int32))])) _
      exact retN X101 hx (t := .boolean) Bd.returns (by simp) (hb hby own_d10_123) hr
    · show Qown_holds0 Z a1 p1 h0 n0 _ T101.heap _
      rw [e101]
      exact ⟨congrArg (fun z => some (Value.int z)) (by unfold own_h0; exact (if_neg (by omega)).symm), N101, rfl⟩
  · skip
    have ihc67_103 := (mt (own_eq (b := (0 : Int32)) (k := 0) rfl).mpr hc67_103)
    obtain ⟨fs, hr, hrun, hended, hW, hsame⟩ := X101.leave (v := some (.int (1 : Int32))) (fun h => by rw [Bd.returns] at h; cases h)
    refine ⟨_, _, pre102 _ ?_, hrun, hended, _, _, rfl, ?_, ⟨_, rfl⟩, hW, hsame.mono (by decide) (by decide)⟩
    · show Steps _ _ _ (T101.setTop (mkF m 67 #[.val (.ref a1), .val (.int p1)] [(.int p1)])) _
      refine XS.ifNo X101.here hx rfl (hb hby own_d10_67) rfl ((if0 _ _).trans (feq hc67_103).1) ?_
      refine XS.iconst X101.here hx rfl (hb hby own_d10_70) ?_
      refine XS.goto X101.here hx rfl (pc0 := 71) (pc' := 123) rfl (hb hby own_d10_71) (by decide) (by decide) ?_
      show Steps _ _ _ (T101.setTop (mkF m 123 #[.val (.ref a1), .val (.int p1)] [(.int (1 : Int32))])) _
      exact retN X101 hx (t := .boolean) Bd.returns (by simp) (hb hby own_d10_123) hr
    · show Qown_holds0 Z a1 p1 h0 n0 _ T101.heap _
      rw [e101]
      exact ⟨congrArg (fun z => some (Value.int z)) (by unfold own_h0; exact (if_pos (by omega)).symm), N101, rfl⟩
def Qown_holds1 (Z : State) (a1 : Addr) (p1 : Int32) (h0 : Heap) (n0 : Nat) (v : Option Value) (h : Heap) (L : List Loc) : Prop := v = some (.int (own_h1 p1)) ∧ Fr n0 L ∧ h = h0
set_option maxRecDepth 65536 in
set_option maxHeartbeats 40000000 in
theorem own_holds1 (l : Launch) (Z : State) (a0 : Array Value) (hw : ∀ d ∈ tables_1, d.before a0 Z = true) (ws : List Jvm.Cond) (a1 : Addr) (p1 : Int32) (h0 : Heap) (n0 : Nat) (Z0 : n0 ≤ h0.size) (E1 : Exa Z h0 a1 "com/example/dirwarden/dirwarden/aci/Comparison") (F1 : Fld Z h0 a1 "java/lang/Enum" "ordinal" "I" (.int (1 : Int32))) :
    MetFree l own_m10 (head1 (Jvm.Cond.code own_m10 prog_2_method_6_code 2 (some .boolean) :: ws) ({ frames := 1, cells := 0, slots := 0, locals := 12 } : Room)) (fun a U => a = #[(.ref a1), (.int p1)] ∧ Z.Warmed39 U.vm ∧ U.heap = h0) (fun _ _ _ _ _ => True) (fun _ U o U' => ∃ v L, o = .returned v ∧ Qown_holds1 Z a1 p1 h0 n0 v U'.heap L ∧ FrameEnd U o U' L ({ frames := 1, cells := 0, slots := 0, locals := 12 } : Room).cells ({ frames := 1, cells := 0, slots := 0, locals := 12 } : Room).slots) := by
  refine MetFree.of_bodySF (plainFor_of_name own_pn4) hisR ?_
  intro p e s m args below meth c s₁ Bd hml0 hP hK
  obtain ⟨rfl, hZ, hh⟩ := hP
  have hx := Bd.exec
  have hby := Bd.bytes
  have hml : c.maxLocals = 2 := hml0
  have hown : s.vm.findClass "com/example/dirwarden/dirwarden/aci/Comparison" = some m.cls := by have q := findClass_of_methodNamed Bd.named; exact q
  have hnm := (name_of_methodNamed Bd.named Bd.method).1
  have X0 : Stand p l e ({ frames := 1, cells := 0, slots := 0, locals := 12 } : Room) s m #[(.ref a1), (.int p1)] below meth c s₁ [] 0 0 := Stand.of_body Bd
  have e0 : s₁.heap = h0 := by rw [← hh, Bd.state]; rfl
  have N0 := Fr.nil n0
  have pre0 : ∀ t, Steps p.tables e below (s₁.setTop (mkF m 0 #[.val (.ref a1), .val (.int p1)] [])) t → Steps p.tables e below (s₁.setTop (entryFrame m #[(.ref a1), (.int p1)] 2)) t := fun t k => castTop (by first | (simp [entryFrame, mkF, argsToLocals, Value.category, maxLocals]; done) | rfl) k
  obtain ⟨cq101, kq101, q101a, q101b, q101c⟩ := isOf hZ e0 E1
  obtain ⟨_, _, ⟨T101, L101, k101, n101⟩, -, X101, ⟨Lc101, hQ101, l101, y101, z101⟩, st101⟩ := X0.virtualBackUp hx (x := own_m11) (y := own_m9) (owner := "java/lang/Enum") hown (mvT hZ (own_w71 hw)) (mvT hZ (own_w72 hw)) (mvT hZ (own_w73 hw)) (by decide) (mvT hZ (own_w75 hw)) (mvT hZ (own_w74 hw)) (backOf (W := 0) (own_ordinal l Z a0 hw [] a1 (1 : Int32) h0 n0 Z0 F1) hZ (own_w77 hw) (own_w76 hw) (by decide) (by decide)) q101a q101c (g := (mkF m 1 #[.val (.ref a1), .val (.int p1)] [(.ref a1)])) rfl (by rw [hml]; rfl) (Steps.refl _) (argsL := []) (rest := []) (lenOf own_pd5 rfl) rfl (by show 2 * 0 + _ ≤ _; exact Nat.le_of_eq rfl) (hb hby own_d10_1) (fun _ _ => ⟨rfl, e0, (by decide : 0 + 0 ≤ _), (by decide : 0 + 0 ≤ _)⟩)
  dsimp only [Pt.U, Pt.locs, Pt.cells, Pt.slots] at X101 l101 y101 z101 st101 hQ101
  subst l101 y101 z101
  obtain ⟨rfl, N101q, e101⟩ := hQ101
  have N101 := Fr.app N0 N101q
  have pre102 : ∀ t, Steps p.tables e below (T101.setTop (mkF m 91 #[.val (.ref a1), .val (.int p1)] [(.int p1)])) t → Steps p.tables e below (s₁.setTop (entryFrame m #[(.ref a1), (.int p1)] 2)) t := fun t kt => pre0 t (by
    show Steps _ _ _ (s₁.setTop (mkF m 0 #[.val (.ref a1), .val (.int p1)] [])) _
    refine XS.aloadN X0.here hx rfl (hb hby own_d10_0) rfl rfl ?_
    refine st101.trans ?_
    refine XS.tswIn X101.here hx rfl (pc0 := 4) (pc' := 90) rfl (hb hby own_d10_4) (i := (1 : Int32)) rfl (by decide) (o := 86) (by decide) (by decide) (by decide) ?_
    refine XS.iloadN X101.here hx rfl (hb hby own_d10_90) rfl ?_
    exact kt)
  by_cases hc91_103 : (0 : Int32) < p1
  · skip
    have ihc91_103 := (own_gt (a := (0 : Int32)) (k := 0) rfl).mp hc91_103
    obtain ⟨fs, hr, hrun, hended, hW, hsame⟩ := X101.leave (v := some (.int (0 : Int32))) (fun h => by rw [Bd.returns] at h; cases h)
    refine ⟨_, _, pre102 _ ?_, hrun, hended, _, _, rfl, ?_, ⟨_, rfl⟩, hW, hsame.mono (by decide) (by decide)⟩
    · show Steps _ _ _ (T101.setTop (mkF m 91 #[.val (.ref a1), .val (.int p1)] [(.int p1)])) _
      refine XS.ifYes X101.here hx rfl (pc0 := 91) (pc' := 98) rfl (hb hby own_d10_91) rfl ((if0 _ _).trans (tlt hc91_103).2.2.1) (by decide) (by decide) ?_
      refine XS.iconst X101.here hx rfl (hb hby own_d10_98) ?_
      refine XS.goto X101.here hx rfl (pc0 := 99) (pc' := 123) rfl (hb hby own_d10_99) (by decide) (by decide) ?_
      show Steps _ _ _ (T101.setTop (mkF m 123 #[.val (.ref a1), .val (.int p1)] [(.int (0 : Int32))])) _
      exact retN X101 hx (t := .boolean) Bd.returns (by simp) (hb hby own_d10_123) hr
    · show Qown_holds1 Z a1 p1 h0 n0 _ T101.heap _
      rw [e101]
      exact ⟨congrArg (fun z => some (Value.int z)) (by unfold own_h1; exact (if_neg (by omega)).symm), N101, rfl⟩
  · skip
    have ihc91_103 := (mt (own_gt (a := (0 : Int32)) (k := 0) rfl).mpr hc91_103)
    obtain ⟨fs, hr, hrun, hended, hW, hsame⟩ := X101.leave (v := some (.int (1 : Int32))) (fun h => by rw [Bd.returns] at h; cases h)
    refine ⟨_, _, pre102 _ ?_, hrun, hended, _, _, rfl, ?_, ⟨_, rfl⟩, hW, hsame.mono (by decide) (by decide)⟩
    · show Steps _ _ _ (T101.setTop (mkF m 91 #[.val (.ref a1), .val (.int p1)] [(.int p1)])) _
      refine XS.ifNo X101.here hx rfl (hb hby own_d10_91) rfl ((if0 _ _).trans (flt hc91_103).2.2.1) ?_
      refine XS.iconst X101.here hx rfl (hb hby own_d10_94) ?_
      refine XS.goto X101.here hx rfl (pc0 := 95) (pc' := 123) rfl (hb hby own_d10_95) (by decide) (by decide) ?_
      show Steps _ _ _ (T101.setTop (mkF m 123 #[.val (.ref a1), .val (.int p1)] [(.int (1 : Int32))])) _
      exact retN X101 hx (t := .boolean) Bd.returns (by simp) (hb hby own_d10_123) hr
    · show Qown_holds1 Z a1 p1 h0 n0 _ T101.heap _
      rw [e101]
      exact ⟨congrArg (fun z => some (Value.int z)) (by unfold own_h1; exact (if_pos (by omega)).symm), N101, rfl⟩
def Qown_holds2 (Z : State) (a1 : Addr) (p1 : Int32) (h0 : Heap) (n0 : Nat) (v : Option Value) (h : Heap) (L : List Loc) : Prop := v = some (.int (own_h2 p1)) ∧ Fr n0 L ∧ h = h0
set_option maxRecDepth 65536 in
set_option maxHeartbeats 40000000 in
theorem own_holds2 (l : Launch) (Z : State) (a0 : Array Value) (hw : ∀ d ∈ tables_1, d.before a0 Z = true) (ws : List Jvm.Cond) (a1 : Addr) (p1 : Int32) (h0 : Heap) (n0 : Nat) (Z0 : n0 ≤ h0.size) (E1 : Exa Z h0 a1 "com/example/dirwarden/dirwarden/aci/Comparison") (F1 : Fld Z h0 a1 "java/lang/Enum" "ordinal" "I" (.int (2 : Int32))) :
    MetFree l own_m10 (head1 (Jvm.Cond.code own_m10 prog_2_method_6_code 2 (some .boolean) :: ws) ({ frames := 1, cells := 0, slots := 0, locals := 12 } : Room)) (fun a U => a = #[(.ref a1), (.int p1)] ∧ Z.Warmed39 U.vm ∧ U.heap = h0) (fun _ _ _ _ _ => True) (fun _ U o U' => ∃ v L, o = .returned v ∧ Qown_holds2 Z a1 p1 h0 n0 v U'.heap L ∧ FrameEnd U o U' L ({ frames := 1, cells := 0, slots := 0, locals := 12 } : Room).cells ({ frames := 1, cells := 0, slots := 0, locals := 12 } : Room).slots) := by
  refine MetFree.of_bodySF (plainFor_of_name own_pn4) hisR ?_
  intro p e s m args below meth c s₁ Bd hml0 hP hK
  obtain ⟨rfl, hZ, hh⟩ := hP
  have hx := Bd.exec
  have hby := Bd.bytes
  have hml : c.maxLocals = 2 := hml0
  have hown : s.vm.findClass "com/example/dirwarden/dirwarden/aci/Comparison" = some m.cls := by have q := findClass_of_methodNamed Bd.named; exact q
  have hnm := (name_of_methodNamed Bd.named Bd.method).1
  have X0 : Stand p l e ({ frames := 1, cells := 0, slots := 0, locals := 12 } : Room) s m #[(.ref a1), (.int p1)] below meth c s₁ [] 0 0 := Stand.of_body Bd
  have e0 : s₁.heap = h0 := by rw [← hh, Bd.state]; rfl
  have N0 := Fr.nil n0
  have pre0 : ∀ t, Steps p.tables e below (s₁.setTop (mkF m 0 #[.val (.ref a1), .val (.int p1)] [])) t → Steps p.tables e below (s₁.setTop (entryFrame m #[(.ref a1), (.int p1)] 2)) t := fun t k => castTop (by first | (simp [entryFrame, mkF, argsToLocals, Value.category, maxLocals]; done) | rfl) k
  obtain ⟨cq101, kq101, q101a, q101b, q101c⟩ := isOf hZ e0 E1
  obtain ⟨_, _, ⟨T101, L101, k101, n101⟩, -, X101, ⟨Lc101, hQ101, l101, y101, z101⟩, st101⟩ := X0.virtualBackUp hx (x := own_m11) (y := own_m9) (owner := "java/lang/Enum") hown (mvT hZ (own_w71 hw)) (mvT hZ (own_w72 hw)) (mvT hZ (own_w73 hw)) (by decide) (mvT hZ (own_w75 hw)) (mvT hZ (own_w74 hw)) (backOf (W := 0) (own_ordinal l Z a0 hw [] a1 (2 : Int32) h0 n0 Z0 F1) hZ (own_w77 hw) (own_w76 hw) (by decide) (by decide)) q101a q101c (g := (mkF m 1 #[.val (.ref a1), .val (.int p1)] [(.ref a1)])) rfl (by rw [hml]; rfl) (Steps.refl _) (argsL := []) (rest := []) (lenOf own_pd5 rfl) rfl (by show 2 * 0 + _ ≤ _; exact Nat.le_of_eq rfl) (hb hby own_d10_1) (fun _ _ => ⟨rfl, e0, (by decide : 0 + 0 ≤ _), (by decide : 0 + 0 ≤ _)⟩)
  dsimp only [Pt.U, Pt.locs, Pt.cells, Pt.slots] at X101 l101 y101 z101 st101 hQ101
  subst l101 y101 z101
  obtain ⟨rfl, N101q, e101⟩ := hQ101
  have N101 := Fr.app N0 N101q
  have pre102 : ∀ t, Steps p.tables e below (T101.setTop (mkF m 115 #[.val (.ref a1), .val (.int p1)] [(.int p1)])) t → Steps p.tables e below (s₁.setTop (entryFrame m #[(.ref a1), (.int p1)] 2)) t := fun t kt => pre0 t (by
    show Steps _ _ _ (s₁.setTop (mkF m 0 #[.val (.ref a1), .val (.int p1)] [])) _
    refine XS.aloadN X0.here hx rfl (hb hby own_d10_0) rfl rfl ?_
    refine st101.trans ?_
    refine XS.tswIn X101.here hx rfl (pc0 := 4) (pc' := 114) rfl (hb hby own_d10_4) (i := (2 : Int32)) rfl (by decide) (o := 110) (by decide) (by decide) (by decide) ?_
    refine XS.iloadN X101.here hx rfl (hb hby own_d10_114) rfl ?_
    exact kt)
  by_cases hc115_103 : p1 < (0 : Int32)
  · skip
    have ihc115_103 := (own_lt (b := (0 : Int32)) (k := 0) rfl).mp hc115_103
    obtain ⟨fs, hr, hrun, hended, hW, hsame⟩ := X101.leave (v := some (.int (0 : Int32))) (fun h => by rw [Bd.returns] at h; cases h)
    refine ⟨_, _, pre102 _ ?_, hrun, hended, _, _, rfl, ?_, ⟨_, rfl⟩, hW, hsame.mono (by decide) (by decide)⟩
    · show Steps _ _ _ (T101.setTop (mkF m 115 #[.val (.ref a1), .val (.int p1)] [(.int p1)])) _
      refine XS.ifYes X101.here hx rfl (pc0 := 115) (pc' := 122) rfl (hb hby own_d10_115) rfl ((if0 _ _).trans (tlt hc115_103).1) (by decide) (by decide) ?_
      refine XS.iconst X101.here hx rfl (hb hby own_d10_122) ?_
      show Steps _ _ _ (T101.setTop (mkF m 123 #[.val (.ref a1), .val (.int p1)] [(.int (0 : Int32))])) _
      exact retN X101 hx (t := .boolean) Bd.returns (by simp) (hb hby own_d10_123) hr
    · show Qown_holds2 Z a1 p1 h0 n0 _ T101.heap _
      rw [e101]
      exact ⟨congrArg (fun z => some (Value.int z)) (by unfold own_h2; exact (if_neg (by omega)).symm), N101, rfl⟩
  · skip
    have ihc115_103 := (mt (own_lt (b := (0 : Int32)) (k := 0) rfl).mpr hc115_103)
    obtain ⟨fs, hr, hrun, hended, hW, hsame⟩ := X101.leave (v := some (.int (1 : Int32))) (fun h => by rw [Bd.returns] at h; cases h)
    refine ⟨_, _, pre102 _ ?_, hrun, hended, _, _, rfl, ?_, ⟨_, rfl⟩, hW, hsame.mono (by decide) (by decide)⟩
    · show Steps _ _ _ (T101.setTop (mkF m 115 #[.val (.ref a1), .val (.int p1)] [(.int p1)])) _
      refine XS.ifNo X101.here hx rfl (hb hby own_d10_115) rfl ((if0 _ _).trans (flt hc115_103).1) ?_
      refine XS.iconst X101.here hx rfl (hb hby own_d10_118) ?_
      refine XS.goto X101.here hx rfl (pc0 := 119) (pc' := 123) rfl (hb hby own_d10_119) (by decide) (by decide) ?_
      show Steps _ _ _ (T101.setTop (mkF m 123 #[.val (.ref a1), .val (.int p1)] [(.int (1 : Int32))])) _
      exact retN X101 hx (t := .boolean) Bd.returns (by simp) (hb hby own_d10_123) hr
    · show Qown_holds2 Z a1 p1 h0 n0 _ T101.heap _
      rw [e101]
      exact ⟨congrArg (fun z => some (Value.int z)) (by unfold own_h2; exact (if_pos (by omega)).symm), N101, rfl⟩
def Qown_holds3 (Z : State) (a1 : Addr) (p1 : Int32) (h0 : Heap) (n0 : Nat) (v : Option Value) (h : Heap) (L : List Loc) : Prop := v = some (.int (own_h3 p1)) ∧ Fr n0 L ∧ h = h0
set_option maxRecDepth 65536 in
set_option maxHeartbeats 40000000 in
theorem own_holds3 (l : Launch) (Z : State) (a0 : Array Value) (hw : ∀ d ∈ tables_1, d.before a0 Z = true) (ws : List Jvm.Cond) (a1 : Addr) (p1 : Int32) (h0 : Heap) (n0 : Nat) (Z0 : n0 ≤ h0.size) (E1 : Exa Z h0 a1 "com/example/dirwarden/dirwarden/aci/Comparison") (F1 : Fld Z h0 a1 "java/lang/Enum" "ordinal" "I" (.int (3 : Int32))) :
    MetFree l own_m10 (head1 (Jvm.Cond.code own_m10 prog_2_method_6_code 2 (some .boolean) :: ws) ({ frames := 1, cells := 0, slots := 0, locals := 12 } : Room)) (fun a U => a = #[(.ref a1), (.int p1)] ∧ Z.Warmed39 U.vm ∧ U.heap = h0) (fun _ _ _ _ _ => True) (fun _ U o U' => ∃ v L, o = .returned v ∧ Qown_holds3 Z a1 p1 h0 n0 v U'.heap L ∧ FrameEnd U o U' L ({ frames := 1, cells := 0, slots := 0, locals := 12 } : Room).cells ({ frames := 1, cells := 0, slots := 0, locals := 12 } : Room).slots) := by
  refine MetFree.of_bodySF (plainFor_of_name own_pn4) hisR ?_
  intro p e s m args below meth c s₁ Bd hml0 hP hK
  obtain ⟨rfl, hZ, hh⟩ := hP
  have hx := Bd.exec
  have hby := Bd.bytes
  have hml : c.maxLocals = 2 := hml0
  have hown : s.vm.findClass "com/example/dirwarden/dirwarden/aci/Comparison" = some m.cls := by have q := findClass_of_methodNamed Bd.named; exact q
  have hnm := (name_of_methodNamed Bd.named Bd.method).1
  have X0 : Stand p l e ({ frames := 1, cells := 0, slots := 0, locals := 12 } : Room) s m #[(.ref a1), (.int p1)] below meth c s₁ [] 0 0 := Stand.of_body Bd
  have e0 : s₁.heap = h0 := by rw [← hh, Bd.state]; rfl
  have N0 := Fr.nil n0
  have pre0 : ∀ t, Steps p.tables e below (s₁.setTop (mkF m 0 #[.val (.ref a1), .val (.int p1)] [])) t → Steps p.tables e below (s₁.setTop (entryFrame m #[(.ref a1), (.int p1)] 2)) t := fun t k => castTop (by first | (simp [entryFrame, mkF, argsToLocals, Value.category, maxLocals]; done) | rfl) k
  obtain ⟨cq101, kq101, q101a, q101b, q101c⟩ := isOf hZ e0 E1
  obtain ⟨_, _, ⟨T101, L101, k101, n101⟩, -, X101, ⟨Lc101, hQ101, l101, y101, z101⟩, st101⟩ := X0.virtualBackUp hx (x := own_m11) (y := own_m9) (owner := "java/lang/Enum") hown (mvT hZ (own_w71 hw)) (mvT hZ (own_w72 hw)) (mvT hZ (own_w73 hw)) (by decide) (mvT hZ (own_w75 hw)) (mvT hZ (own_w74 hw)) (backOf (W := 0) (own_ordinal l Z a0 hw [] a1 (3 : Int32) h0 n0 Z0 F1) hZ (own_w77 hw) (own_w76 hw) (by decide) (by decide)) q101a q101c (g := (mkF m 1 #[.val (.ref a1), .val (.int p1)] [(.ref a1)])) rfl (by rw [hml]; rfl) (Steps.refl _) (argsL := []) (rest := []) (lenOf own_pd5 rfl) rfl (by show 2 * 0 + _ ≤ _; exact Nat.le_of_eq rfl) (hb hby own_d10_1) (fun _ _ => ⟨rfl, e0, (by decide : 0 + 0 ≤ _), (by decide : 0 + 0 ≤ _)⟩)
  dsimp only [Pt.U, Pt.locs, Pt.cells, Pt.slots] at X101 l101 y101 z101 st101 hQ101
  subst l101 y101 z101
  obtain ⟨rfl, N101q, e101⟩ := hQ101
  have N101 := Fr.app N0 N101q
  have pre102 : ∀ t, Steps p.tables e below (T101.setTop (mkF m 55 #[.val (.ref a1), .val (.int p1)] [(.int p1)])) t → Steps p.tables e below (s₁.setTop (entryFrame m #[(.ref a1), (.int p1)] 2)) t := fun t kt => pre0 t (by
    show Steps _ _ _ (s₁.setTop (mkF m 0 #[.val (.ref a1), .val (.int p1)] [])) _
    refine XS.aloadN X0.here hx rfl (hb hby own_d10_0) rfl rfl ?_
    refine st101.trans ?_
    refine XS.tswIn X101.here hx rfl (pc0 := 4) (pc' := 54) rfl (hb hby own_d10_4) (i := (3 : Int32)) rfl (by decide) (o := 50) (by decide) (by decide) (by decide) ?_
    refine XS.iloadN X101.here hx rfl (hb hby own_d10_54) rfl ?_
    exact kt)
  by_cases hc55_103 : p1 = (0 : Int32)
  · skip
    have ihc55_103 := (own_eq (b := (0 : Int32)) (k := 0) rfl).mp hc55_103
    obtain ⟨fs, hr, hrun, hended, hW, hsame⟩ := X101.leave (v := some (.int (1 : Int32))) (fun h => by rw [Bd.returns] at h; cases h)
    refine ⟨_, _, pre102 _ ?_, hrun, hended, _, _, rfl, ?_, ⟨_, rfl⟩, hW, hsame.mono (by decide) (by decide)⟩
    · show Steps _ _ _ (T101.setTop (mkF m 55 #[.val (.ref a1), .val (.int p1)] [(.int p1)])) _
      refine XS.ifNo X101.here hx rfl (hb hby own_d10_55) rfl ((if0 _ _).trans (teq hc55_103).2) ?_
      refine XS.iconst X101.here hx rfl (hb hby own_d10_58) ?_
      refine XS.goto X101.here hx rfl (pc0 := 59) (pc' := 123) rfl (hb hby own_d10_59) (by decide) (by decide) ?_
      show Steps _ _ _ (T101.setTop (mkF m 123 #[.val (.ref a1), .val (.int p1)] [(.int (1 : Int32))])) _
      exact retN X101 hx (t := .boolean) Bd.returns (by simp) (hb hby own_d10_123) hr
    · show Qown_holds3 Z a1 p1 h0 n0 _ T101.heap _
      rw [e101]
      exact ⟨congrArg (fun z => some (Value.int z)) (by unfold own_h3; exact (if_pos (by omega)).symm), N101, rfl⟩
  · skip
    have ihc55_103 := (mt (own_eq (b := (0 : Int32)) (k := 0) rfl).mpr hc55_103)
    obtain ⟨fs, hr, hrun, hended, hW, hsame⟩ := X101.leave (v := some (.int (0 : Int32))) (fun h => by rw [Bd.returns] at h; cases h)
    refine ⟨_, _, pre102 _ ?_, hrun, hended, _, _, rfl, ?_, ⟨_, rfl⟩, hW, hsame.mono (by decide) (by decide)⟩
    · show Steps _ _ _ (T101.setTop (mkF m 55 #[.val (.ref a1), .val (.int p1)] [(.int p1)])) _
      refine XS.ifYes X101.here hx rfl (pc0 := 55) (pc' := 62) rfl (hb hby own_d10_55) rfl ((if0 _ _).trans (feq hc55_103).2) (by decide) (by decide) ?_
      refine XS.iconst X101.here hx rfl (hb hby own_d10_62) ?_
      refine XS.goto X101.here hx rfl (pc0 := 63) (pc' := 123) rfl (hb hby own_d10_63) (by decide) (by decide) ?_
      show Steps _ _ _ (T101.setTop (mkF m 123 #[.val (.ref a1), .val (.int p1)] [(.int (0 : Int32))])) _
      exact retN X101 hx (t := .boolean) Bd.returns (by simp) (hb hby own_d10_123) hr
    · show Qown_holds3 Z a1 p1 h0 n0 _ T101.heap _
      rw [e101]
      exact ⟨congrArg (fun z => some (Value.int z)) (by unfold own_h3; exact (if_neg (by omega)).symm), N101, rfl⟩
def Qown_holds4 (Z : State) (a1 : Addr) (p1 : Int32) (h0 : Heap) (n0 : Nat) (v : Option Value) (h : Heap) (L : List Loc) : Prop := v = some (.int (own_h4 p1)) ∧ Fr n0 L ∧ h = h0
set_option maxRecDepth 65536 in
set_option maxHeartbeats 40000000 in
theorem own_holds4 (l : Launch) (Z : State) (a0 : Array Value) (hw : ∀ d ∈ tables_1, d.before a0 Z = true) (ws : List Jvm.Cond) (a1 : Addr) (p1 : Int32) (h0 : Heap) (n0 : Nat) (Z0 : n0 ≤ h0.size) (E1 : Exa Z h0 a1 "com/example/dirwarden/dirwarden/aci/Comparison") (F1 : Fld Z h0 a1 "java/lang/Enum" "ordinal" "I" (.int (4 : Int32))) :
    MetFree l own_m10 (head1 (Jvm.Cond.code own_m10 prog_2_method_6_code 2 (some .boolean) :: ws) ({ frames := 1, cells := 0, slots := 0, locals := 12 } : Room)) (fun a U => a = #[(.ref a1), (.int p1)] ∧ Z.Warmed39 U.vm ∧ U.heap = h0) (fun _ _ _ _ _ => True) (fun _ U o U' => ∃ v L, o = .returned v ∧ Qown_holds4 Z a1 p1 h0 n0 v U'.heap L ∧ FrameEnd U o U' L ({ frames := 1, cells := 0, slots := 0, locals := 12 } : Room).cells ({ frames := 1, cells := 0, slots := 0, locals := 12 } : Room).slots) := by
  refine MetFree.of_bodySF (plainFor_of_name own_pn4) hisR ?_
  intro p e s m args below meth c s₁ Bd hml0 hP hK
  obtain ⟨rfl, hZ, hh⟩ := hP
  have hx := Bd.exec
  have hby := Bd.bytes
  have hml : c.maxLocals = 2 := hml0
  have hown : s.vm.findClass "com/example/dirwarden/dirwarden/aci/Comparison" = some m.cls := by have q := findClass_of_methodNamed Bd.named; exact q
  have hnm := (name_of_methodNamed Bd.named Bd.method).1
  have X0 : Stand p l e ({ frames := 1, cells := 0, slots := 0, locals := 12 } : Room) s m #[(.ref a1), (.int p1)] below meth c s₁ [] 0 0 := Stand.of_body Bd
  have e0 : s₁.heap = h0 := by rw [← hh, Bd.state]; rfl
  have N0 := Fr.nil n0
  have pre0 : ∀ t, Steps p.tables e below (s₁.setTop (mkF m 0 #[.val (.ref a1), .val (.int p1)] [])) t → Steps p.tables e below (s₁.setTop (entryFrame m #[(.ref a1), (.int p1)] 2)) t := fun t k => castTop (by first | (simp [entryFrame, mkF, argsToLocals, Value.category, maxLocals]; done) | rfl) k
  obtain ⟨cq101, kq101, q101a, q101b, q101c⟩ := isOf hZ e0 E1
  obtain ⟨_, _, ⟨T101, L101, k101, n101⟩, -, X101, ⟨Lc101, hQ101, l101, y101, z101⟩, st101⟩ := X0.virtualBackUp hx (x := own_m11) (y := own_m9) (owner := "java/lang/Enum") hown (mvT hZ (own_w71 hw)) (mvT hZ (own_w72 hw)) (mvT hZ (own_w73 hw)) (by decide) (mvT hZ (own_w75 hw)) (mvT hZ (own_w74 hw)) (backOf (W := 0) (own_ordinal l Z a0 hw [] a1 (4 : Int32) h0 n0 Z0 F1) hZ (own_w77 hw) (own_w76 hw) (by decide) (by decide)) q101a q101c (g := (mkF m 1 #[.val (.ref a1), .val (.int p1)] [(.ref a1)])) rfl (by rw [hml]; rfl) (Steps.refl _) (argsL := []) (rest := []) (lenOf own_pd5 rfl) rfl (by show 2 * 0 + _ ≤ _; exact Nat.le_of_eq rfl) (hb hby own_d10_1) (fun _ _ => ⟨rfl, e0, (by decide : 0 + 0 ≤ _), (by decide : 0 + 0 ≤ _)⟩)
  dsimp only [Pt.U, Pt.locs, Pt.cells, Pt.slots] at X101 l101 y101 z101 st101 hQ101
  subst l101 y101 z101
  obtain ⟨rfl, N101q, e101⟩ := hQ101
  have N101 := Fr.app N0 N101q
  have pre102 : ∀ t, Steps p.tables e below (T101.setTop (mkF m 79 #[.val (.ref a1), .val (.int p1)] [(.int p1)])) t → Steps p.tables e below (s₁.setTop (entryFrame m #[(.ref a1), (.int p1)] 2)) t := fun t kt => pre0 t (by
    show Steps _ _ _ (s₁.setTop (mkF m 0 #[.val (.ref a1), .val (.int p1)] [])) _
    refine XS.aloadN X0.here hx rfl (hb hby own_d10_0) rfl rfl ?_
    refine st101.trans ?_
    refine XS.tswIn X101.here hx rfl (pc0 := 4) (pc' := 78) rfl (hb hby own_d10_4) (i := (4 : Int32)) rfl (by decide) (o := 74) (by decide) (by decide) (by decide) ?_
    refine XS.iloadN X101.here hx rfl (hb hby own_d10_78) rfl ?_
    exact kt)
  by_cases hc79_103 : p1 < (0 : Int32)
  · skip
    have ihc79_103 := (own_lt (b := (0 : Int32)) (k := 0) rfl).mp hc79_103
    obtain ⟨fs, hr, hrun, hended, hW, hsame⟩ := X101.leave (v := some (.int (1 : Int32))) (fun h => by rw [Bd.returns] at h; cases h)
    refine ⟨_, _, pre102 _ ?_, hrun, hended, _, _, rfl, ?_, ⟨_, rfl⟩, hW, hsame.mono (by decide) (by decide)⟩
    · show Steps _ _ _ (T101.setTop (mkF m 79 #[.val (.ref a1), .val (.int p1)] [(.int p1)])) _
      refine XS.ifNo X101.here hx rfl (hb hby own_d10_79) rfl ((if0 _ _).trans (tlt hc79_103).2.1) ?_
      refine XS.iconst X101.here hx rfl (hb hby own_d10_82) ?_
      refine XS.goto X101.here hx rfl (pc0 := 83) (pc' := 123) rfl (hb hby own_d10_83) (by decide) (by decide) ?_
      show Steps _ _ _ (T101.setTop (mkF m 123 #[.val (.ref a1), .val (.int p1)] [(.int (1 : Int32))])) _
      exact retN X101 hx (t := .boolean) Bd.returns (by simp) (hb hby own_d10_123) hr
    · show Qown_holds4 Z a1 p1 h0 n0 _ T101.heap _
      rw [e101]
      exact ⟨congrArg (fun z => some (Value.int z)) (by unfold own_h4; exact (if_pos (by omega)).symm), N101, rfl⟩
  · skip
    have ihc79_103 := (mt (own_lt (b := (0 : Int32)) (k := 0) rfl).mpr hc79_103)
    obtain ⟨fs, hr, hrun, hended, hW, hsame⟩ := X101.leave (v := some (.int (0 : Int32))) (fun h => by rw [Bd.returns] at h; cases h)
    refine ⟨_, _, pre102 _ ?_, hrun, hended, _, _, rfl, ?_, ⟨_, rfl⟩, hW, hsame.mono (by decide) (by decide)⟩
    · show Steps _ _ _ (T101.setTop (mkF m 79 #[.val (.ref a1), .val (.int p1)] [(.int p1)])) _
      refine XS.ifYes X101.here hx rfl (pc0 := 79) (pc' := 86) rfl (hb hby own_d10_79) rfl ((if0 _ _).trans (flt hc79_103).2.1) (by decide) (by decide) ?_
      refine XS.iconst X101.here hx rfl (hb hby own_d10_86) ?_
      refine XS.goto X101.here hx rfl (pc0 := 87) (pc' := 123) rfl (hb hby own_d10_87) (by decide) (by decide) ?_
      show Steps _ _ _ (T101.setTop (mkF m 123 #[.val (.ref a1), .val (.int p1)] [(.int (0 : Int32))])) _
      exact retN X101 hx (t := .boolean) Bd.returns (by simp) (hb hby own_d10_123) hr
    · show Qown_holds4 Z a1 p1 h0 n0 _ T101.heap _
      rw [e101]
      exact ⟨congrArg (fun z => some (Value.int z)) (by unfold own_h4; exact (if_neg (by omega)).symm), N101, rfl⟩
def Qown_holds5 (Z : State) (a1 : Addr) (p1 : Int32) (h0 : Heap) (n0 : Nat) (v : Option Value) (h : Heap) (L : List Loc) : Prop := v = some (.int (own_h5 p1)) ∧ Fr n0 L ∧ h = h0
set_option maxRecDepth 65536 in
set_option maxHeartbeats 40000000 in
theorem own_holds5 (l : Launch) (Z : State) (a0 : Array Value) (hw : ∀ d ∈ tables_1, d.before a0 Z = true) (ws : List Jvm.Cond) (a1 : Addr) (p1 : Int32) (h0 : Heap) (n0 : Nat) (Z0 : n0 ≤ h0.size) (E1 : Exa Z h0 a1 "com/example/dirwarden/dirwarden/aci/Comparison") (F1 : Fld Z h0 a1 "java/lang/Enum" "ordinal" "I" (.int (5 : Int32))) :
    MetFree l own_m10 (head1 (Jvm.Cond.code own_m10 prog_2_method_6_code 2 (some .boolean) :: ws) ({ frames := 1, cells := 0, slots := 0, locals := 12 } : Room)) (fun a U => a = #[(.ref a1), (.int p1)] ∧ Z.Warmed39 U.vm ∧ U.heap = h0) (fun _ _ _ _ _ => True) (fun _ U o U' => ∃ v L, o = .returned v ∧ Qown_holds5 Z a1 p1 h0 n0 v U'.heap L ∧ FrameEnd U o U' L ({ frames := 1, cells := 0, slots := 0, locals := 12 } : Room).cells ({ frames := 1, cells := 0, slots := 0, locals := 12 } : Room).slots) := by
  refine MetFree.of_bodySF (plainFor_of_name own_pn4) hisR ?_
  intro p e s m args below meth c s₁ Bd hml0 hP hK
  obtain ⟨rfl, hZ, hh⟩ := hP
  have hx := Bd.exec
  have hby := Bd.bytes
  have hml : c.maxLocals = 2 := hml0
  have hown : s.vm.findClass "com/example/dirwarden/dirwarden/aci/Comparison" = some m.cls := by have q := findClass_of_methodNamed Bd.named; exact q
  have hnm := (name_of_methodNamed Bd.named Bd.method).1
  have X0 : Stand p l e ({ frames := 1, cells := 0, slots := 0, locals := 12 } : Room) s m #[(.ref a1), (.int p1)] below meth c s₁ [] 0 0 := Stand.of_body Bd
  have e0 : s₁.heap = h0 := by rw [← hh, Bd.state]; rfl
  have N0 := Fr.nil n0
  have pre0 : ∀ t, Steps p.tables e below (s₁.setTop (mkF m 0 #[.val (.ref a1), .val (.int p1)] [])) t → Steps p.tables e below (s₁.setTop (entryFrame m #[(.ref a1), (.int p1)] 2)) t := fun t k => castTop (by first | (simp [entryFrame, mkF, argsToLocals, Value.category, maxLocals]; done) | rfl) k
  obtain ⟨cq101, kq101, q101a, q101b, q101c⟩ := isOf hZ e0 E1
  obtain ⟨_, _, ⟨T101, L101, k101, n101⟩, -, X101, ⟨Lc101, hQ101, l101, y101, z101⟩, st101⟩ := X0.virtualBackUp hx (x := own_m11) (y := own_m9) (owner := "java/lang/Enum") hown (mvT hZ (own_w71 hw)) (mvT hZ (own_w72 hw)) (mvT hZ (own_w73 hw)) (by decide) (mvT hZ (own_w75 hw)) (mvT hZ (own_w74 hw)) (backOf (W := 0) (own_ordinal l Z a0 hw [] a1 (5 : Int32) h0 n0 Z0 F1) hZ (own_w77 hw) (own_w76 hw) (by decide) (by decide)) q101a q101c (g := (mkF m 1 #[.val (.ref a1), .val (.int p1)] [(.ref a1)])) rfl (by rw [hml]; rfl) (Steps.refl _) (argsL := []) (rest := []) (lenOf own_pd5 rfl) rfl (by show 2 * 0 + _ ≤ _; exact Nat.le_of_eq rfl) (hb hby own_d10_1) (fun _ _ => ⟨rfl, e0, (by decide : 0 + 0 ≤ _), (by decide : 0 + 0 ≤ _)⟩)
  dsimp only [Pt.U, Pt.locs, Pt.cells, Pt.slots] at X101 l101 y101 z101 st101 hQ101
  subst l101 y101 z101
  obtain ⟨rfl, N101q, e101⟩ := hQ101
  have N101 := Fr.app N0 N101q
  have pre102 : ∀ t, Steps p.tables e below (T101.setTop (mkF m 103 #[.val (.ref a1), .val (.int p1)] [(.int p1)])) t → Steps p.tables e below (s₁.setTop (entryFrame m #[(.ref a1), (.int p1)] 2)) t := fun t kt => pre0 t (by
    show Steps _ _ _ (s₁.setTop (mkF m 0 #[.val (.ref a1), .val (.int p1)] [])) _
    refine XS.aloadN X0.here hx rfl (hb hby own_d10_0) rfl rfl ?_
    refine st101.trans ?_
    refine XS.tswIn X101.here hx rfl (pc0 := 4) (pc' := 102) rfl (hb hby own_d10_4) (i := (5 : Int32)) rfl (by decide) (o := 98) (by decide) (by decide) (by decide) ?_
    refine XS.iloadN X101.here hx rfl (hb hby own_d10_102) rfl ?_
    exact kt)
  by_cases hc103_103 : (0 : Int32) < p1
  · skip
    have ihc103_103 := (own_gt (a := (0 : Int32)) (k := 0) rfl).mp hc103_103
    obtain ⟨fs, hr, hrun, hended, hW, hsame⟩ := X101.leave (v := some (.int (1 : Int32))) (fun h => by rw [Bd.returns] at h; cases h)
    refine ⟨_, _, pre102 _ ?_, hrun, hended, _, _, rfl, ?_, ⟨_, rfl⟩, hW, hsame.mono (by decide) (by decide)⟩
    · show Steps _ _ _ (T101.setTop (mkF m 103 #[.val (.ref a1), .val (.int p1)] [(.int p1)])) _
      refine XS.ifNo X101.here hx rfl (hb hby own_d10_103) rfl ((if0 _ _).trans (tlt hc103_103).2.2.2) ?_
      refine XS.iconst X101.here hx rfl (hb hby own_d10_106) ?_
      refine XS.goto X101.here hx rfl (pc0 := 107) (pc' := 123) rfl (hb hby own_d10_107) (by decide) (by decide) ?_
      show Steps _ _ _ (T101.setTop (mkF m 123 #[.val (.ref a1), .val (.int p1)] [(.int (1 : Int32))])) _
      exact retN X101 hx (t := .boolean) Bd.returns (by simp) (hb hby own_d10_123) hr
    · show Qown_holds5 Z a1 p1 h0 n0 _ T101.heap _
      rw [e101]
      exact ⟨congrArg (fun z => some (Value.int z)) (by unfold own_h5; exact (if_pos (by omega)).symm), N101, rfl⟩
  · skip
    have ihc103_103 := (mt (own_gt (a := (0 : Int32)) (k := 0) rfl).mpr hc103_103)
    obtain ⟨fs, hr, hrun, hended, hW, hsame⟩ := X101.leave (v := some (.int (0 : Int32))) (fun h => by rw [Bd.returns] at h; cases h)
    refine ⟨_, _, pre102 _ ?_, hrun, hended, _, _, rfl, ?_, ⟨_, rfl⟩, hW, hsame.mono (by decide) (by decide)⟩
    · show Steps _ _ _ (T101.setTop (mkF m 103 #[.val (.ref a1), .val (.int p1)] [(.int p1)])) _
      refine XS.ifYes X101.here hx rfl (pc0 := 103) (pc' := 110) rfl (hb hby own_d10_103) rfl ((if0 _ _).trans (flt hc103_103).2.2.2) (by decide) (by decide) ?_
      refine XS.iconst X101.here hx rfl (hb hby own_d10_110) ?_
      refine XS.goto X101.here hx rfl (pc0 := 111) (pc' := 123) rfl (hb hby own_d10_111) (by decide) (by decide) ?_
      show Steps _ _ _ (T101.setTop (mkF m 123 #[.val (.ref a1), .val (.int p1)] [(.int (0 : Int32))])) _
      exact retN X101 hx (t := .boolean) Bd.returns (by simp) (hb hby own_d10_123) hr
    · show Qown_holds5 Z a1 p1 h0 n0 _ T101.heap _
      rw [e101]
      exact ⟨congrArg (fun z => some (Value.int z)) (by unfold own_h5; exact (if_neg (by omega)).symm), N101, rfl⟩
def Qown_law (Z : State) (p1 p2 p3 : Int32) (s0 o0 v0 s1 o1 v1 s2 o2 v2 s3 o3 v3 s4 o4 v4 s5 o5 v5 : Addr) (kc0 kc1 kc2 kc3 kc4 kc5 : ClassId) (cs : Int32) (fv : Value) (h0 : Heap) (n0 : Nat) (v : Option Value) (h : Heap) (L : List Loc) : Prop := v = some (.int (1 : Int32)) ∧ Fr n0 L
set_option maxRecDepth 65536 in
set_option maxHeartbeats 40000000 in
theorem own_law (l : Launch) (Z : State) (a0 : Array Value) (hw : ∀ d ∈ tables_1, d.before a0 Z = true) (ws : List Jvm.Cond) (p1 p2 p3 : Int32) (s0 o0 v0 s1 o1 v1 s2 o2 v2 s3 o3 v3 s4 o4 v4 s5 o5 v5 : Addr) (kc0 kc1 kc2 kc3 kc4 kc5 : ClassId) (cs : Int32) (fv : Value) (h0 : Heap) (n0 : Nat) (Z0 : n0 ≤ h0.size) (S0 : Sta Z h0 "com/example/dirwarden/dirwarden/aci/Comparison" "NOT_EQUAL" "Lcom/example/dirwarden/dirwarden/aci/Comparison;" (.ref s0)) (E0 : Exa Z h0 s0 "com/example/dirwarden/dirwarden/aci/Comparison") (F0 : Fld Z h0 s0 "java/lang/Enum" "ordinal" "I" (.int (0 : Int32))) (O0 : Fld Z h0 s0 "com/example/dirwarden/dirwarden/aci/Comparison" "operator" "Ljava/lang/String;" (.ref o0)) (H0 : own_Str Z h0 o0 v0 kc0 (2 : Int32) [(.int (33 : Int32)), (.int (61 : Int32))]) (S1 : Sta Z h0 "com/example/dirwarden/dirwarden/aci/Comparison" "AT_MOST" "Lcom/example/dirwarden/dirwarden/aci/Comparison;" (.ref s1)) (E1 : Exa Z h0 s1 "com/example/dirwarden/dirwarden/aci/Comparison") (F1 : Fld Z h0 s1 "java/lang/Enum" "ordinal" "I" (.int (1 : Int32))) (O1 : Fld Z h0 s1 "com/example/dirwarden/dirwarden/aci/Comparison" "operator" "Ljava/lang/String;" (.ref o1)) (H1 : own_Str Z h0 o1 v1 kc1 (2 : Int32) [(.int (60 : Int32)), (.int (61 : Int32))]) (S2 : Sta Z h0 "com/example/dirwarden/dirwarden/aci/Comparison" "AT_LEAST" "Lcom/example/dirwarden/dirwarden/aci/Comparison;" (.ref s2)) (E2 : Exa Z h0 s2 "com/example/dirwarden/dirwarden/aci/Comparison") (F2 : Fld Z h0 s2 "java/lang/Enum" "ordinal" "I" (.int (2 : Int32))) (O2 : Fld Z h0 s2 "com/example/dirwarden/dirwarden/aci/Comparison" "operator" "Ljava/lang/String;" (.ref o2)) (H2 : own_Str Z h0 o2 v2 kc2 (2 : Int32) [(.int (62 : Int32)), (.int (61 : Int32))]) (S3 : Sta Z h0 "com/example/dirwarden/dirwarden/aci/Comparison" "EQUAL" "Lcom/example/dirwarden/dirwarden/aci/Comparison;" (.ref s3)) (E3 : Exa Z h0 s3 "com/example/dirwarden/dirwarden/aci/Comparison") (F3 : Fld Z h0 s3 "java/lang/Enum" "ordinal" "I" (.int (3 : Int32))) (O3 : Fld Z h0 s3 "com/example/dirwarden/dirwarden/aci/Comparison" "operator" "Ljava/lang/String;" (.ref o3)) (H3 : own_Str Z h0 o3 v3 kc3 (1 : Int32) [(.int (61 : Int32))]) (S4 : Sta Z h0 "com/example/dirwarden/dirwarden/aci/Comparison" "LESS" "Lcom/example/dirwarden/dirwarden/aci/Comparison;" (.ref s4)) (E4 : Exa Z h0 s4 "com/example/dirwarden/dirwarden/aci/Comparison") (F4 : Fld Z h0 s4 "java/lang/Enum" "ordinal" "I" (.int (4 : Int32))) (O4 : Fld Z h0 s4 "com/example/dirwarden/dirwarden/aci/Comparison" "operator" "Ljava/lang/String;" (.ref o4)) (H4 : own_Str Z h0 o4 v4 kc4 (1 : Int32) [(.int (60 : Int32))]) (S5 : Sta Z h0 "com/example/dirwarden/dirwarden/aci/Comparison" "GREATER" "Lcom/example/dirwarden/dirwarden/aci/Comparison;" (.ref s5)) (E5 : Exa Z h0 s5 "com/example/dirwarden/dirwarden/aci/Comparison") (F5 : Fld Z h0 s5 "java/lang/Enum" "ordinal" "I" (.int (5 : Int32))) (O5 : Fld Z h0 s5 "com/example/dirwarden/dirwarden/aci/Comparison" "operator" "Ljava/lang/String;" (.ref o5)) (H5 : own_Str Z h0 o5 v5 kc5 (1 : Int32) [(.int (62 : Int32))]) (SC : Sta Z h0 "java/lang/String" "COMPACT_STRINGS" "Z" (.int cs)) (hcs : ¬ cs = (0 : Int32)) (SF : Sta Z h0 "jdk/internal/util/Preconditions" "SIOOBE_FORMATTER" "Ljava/util/function/BiFunction;" fv) (hfv : fv.isRef = true) :
    MetFree l x (head1 (Jvm.Cond.code x code maxLocals ret :: ws) room_1) (fun a U => a = #[(.int p1), (.int p2), (.int p3)] ∧ Z.Warmed39 U.vm ∧ U.heap = h0) (fun _ _ _ _ _ => True) (fun _ U o U' => ∃ v L, o = .returned v ∧ Qown_law Z p1 p2 p3 s0 o0 v0 s1 o1 v1 s2 o2 v2 s3 o3 v3 s4 o4 v4 s5 o5 v5 kc0 kc1 kc2 kc3 kc4 kc5 cs fv h0 n0 v U'.heap L ∧ FrameEnd U o U' L room_1.cells room_1.slots) := by
  refine MetFree.of_bodySF (plainFor_of_name own_pn3) hisR ?_
  intro p e s m args below meth c s₁ Bd hml0 hP hK
  obtain ⟨rfl, hZ, hh⟩ := hP
  have hx := Bd.exec
  have hby := Bd.bytes
  have hml : c.maxLocals = 11 := hml0
  have hown : s.vm.findClass "com/example/dirwarden/dirwarden/aci/ComparisonHoldsPinLaw" = some m.cls := by have q := findClass_of_methodNamed Bd.named; exact q
  have hnm := (name_of_methodNamed Bd.named Bd.method).1
  have X0 : Stand p l e room_1 s m #[(.int p1), (.int p2), (.int p3)] below meth c s₁ [] 0 0 := Stand.of_body Bd
  have e0 : s₁.heap = h0 := by rw [← hh, Bd.state]; rfl
  have N0 := Fr.nil n0
  have pre0 : ∀ t, Steps p.tables e below (s₁.setTop (mkF m 0 #[.val (.int p1), .val (.int p2), .val (.int p3), .unset, .unset, .unset, .unset, .unset, .unset, .unset, .unset] [])) t → Steps p.tables e below (s₁.setTop (entryFrame m #[(.int p1), (.int p2), (.int p3)] maxLocals)) t := fun t k => castTop (by first | (simp [entryFrame, mkF, argsToLocals, Value.category, maxLocals]; done) | rfl) k
  obtain ⟨T101, h101, k101, X101, e101, E101, A101, O101, st101⟩ := newR X0 hx hZ hown (own_w0 hw) (own_w1 hw) e0 (g := (mkF m 2 #[.val (.int p1), .val (.int p2), .val (.int p3), .unset, .unset, .unset, .unset, .unset, .unset, .unset, .unset] [(.int (6 : Int32))])) rfl (hb hby at_2) rfl (by decide) (cap := 6) (by decide) (by decide) (by decide) (by decide)
  obtain ⟨b101, g101⟩ : ∃ z, z = h0.size := ⟨_, rfl⟩
  rw [← g101] at A101 st101
  have ne_s0_b101 : s0 ≠ b101 := Nat.ne_of_lt (Nat.lt_of_lt_of_le E0.lt (Nat.le_of_eq g101.symm))
  have ne_s1_b101 : s1 ≠ b101 := Nat.ne_of_lt (Nat.lt_of_lt_of_le E1.lt (Nat.le_of_eq g101.symm))
  have ne_s2_b101 : s2 ≠ b101 := Nat.ne_of_lt (Nat.lt_of_lt_of_le E2.lt (Nat.le_of_eq g101.symm))
  have ne_s3_b101 : s3 ≠ b101 := Nat.ne_of_lt (Nat.lt_of_lt_of_le E3.lt (Nat.le_of_eq g101.symm))
  have ne_s4_b101 : s4 ≠ b101 := Nat.ne_of_lt (Nat.lt_of_lt_of_le E4.lt (Nat.le_of_eq g101.symm))
  have ne_s5_b101 : s5 ≠ b101 := Nat.ne_of_lt (Nat.lt_of_lt_of_le E5.lt (Nat.le_of_eq g101.symm))
  have g_b101 : n0 ≤ b101 := Nat.le_trans Z0 (Nat.le_of_eq g101.symm)
  have sz_b101 : h0.size ≤ b101 := Nat.le_trans (Keep.refl h0 []).1 (Nat.le_of_eq g101.symm)
  have Z101 : n0 ≤ h101.size := Nat.le_trans Z0 E101.1
  have K101 := (Keep.refl h0 []).ext E101
  have V101 : Arv Z h101 b101 k101 (.object "com/example/dirwarden/dirwarden/aci/Comparison") (6 : Int32) [.null, .null, .null, .null, .null, .null] .null := (Arv.new A101 (by decide)).pad (pad_rep [] .null 6)
  have c102 := (S0.ext E101)
  obtain ⟨T103, X103, e103, st103⟩ := getS2 X101 hx hZ hown (host := "") (Or.inl (own_w2 hw)) Via.refl e101 c102 (g := (mkF m 7 #[.val (.int p1), .val (.int p2), .val (.int p3), .unset, .unset, .unset, .unset, .unset, .unset, .unset, .unset] [(.int (0 : Int32)), (.ref b101), (.ref b101)])) rfl (hb hby at_7)
  obtain ⟨cl104, Ar104, Aq104, As104, An104, Ah104, Ag104⟩ := id V101
  have hin104 : ¬ ((0 : Int32) < 0 ∨ cl104.slots.size ≤ ((0 : Int32)).toNatClampNeg) := inb_of As104 ⟨by decide, by decide⟩
  have c105 := (E0.ext E101)
  obtain ⟨T106, h106, X106, e106, W106, st106⟩ := stR X103 hx hZ e103 Ar104 (j := (0 : Int32)) hin104 rfl (Sto.ofV Ar104 Aq104 O101 (Ins.self c105)) (g := (mkF m 10 #[.val (.int p1), .val (.int p2), .val (.int p3), .unset, .unset, .unset, .unset, .unset, .unset, .unset, .unset] [(.ref s0), (.int (0 : Int32)), (.ref b101), (.ref b101)])) rfl rfl (hb hby at_10)
  have Z106 : n0 ≤ h106.size := Nat.le_trans Z101 (Nat.le_of_eq W106.size.symm)
  have K106 := K101.wr W106 (Or.inr sz_b101)
  have N106 := Fr.snoc X106 N0 g_b101
  have V106 : Arv Z h106 b101 k101 (.object "com/example/dirwarden/dirwarden/aci/Comparison") (6 : Int32) [(.ref s0), .null, .null, .null, .null, .null] .null := Arv.set Ar104 Aq104 As104 An104 Ah104 Ag104 rfl W106 0 rfl (Nat.le_of_ble_eq_true rfl)
  have c107 := own_sta0 S1 K106
  obtain ⟨T108, X108, e108, st108⟩ := getS2 X106 hx hZ hown (host := "") (Or.inl (own_w6 hw)) Via.refl e106 c107 (g := (mkF m 13 #[.val (.int p1), .val (.int p2), .val (.int p3), .unset, .unset, .unset, .unset, .unset, .unset, .unset, .unset] [(.int (1 : Int32)), (.ref b101), (.ref b101)])) rfl (hb hby at_13)
  obtain ⟨cl109, Ar109, Aq109, As109, An109, Ah109, Ag109⟩ := id V106
  have hin109 : ¬ ((1 : Int32) < 0 ∨ cl109.slots.size ≤ ((1 : Int32)).toNatClampNeg) := inb_of As109 ⟨by decide, by decide⟩
  have c110 := E1.keep K106
  obtain ⟨T111, h111, X111, e111, W111, st111⟩ := stR X108 hx hZ e108 Ar109 (j := (1 : Int32)) hin109 rfl (Sto.ofV Ar109 Aq109 O101 (Ins.self c110)) (g := (mkF m 16 #[.val (.int p1), .val (.int p2), .val (.int p3), .unset, .unset, .unset, .unset, .unset, .unset, .unset, .unset] [(.ref s1), (.int (1 : Int32)), (.ref b101), (.ref b101)])) rfl rfl (hb hby at_16)
  have Z111 : n0 ≤ h111.size := Nat.le_trans Z106 (Nat.le_of_eq W111.size.symm)
  have K111 := K106.wr W111 (Or.inr sz_b101)
  have N111 := Fr.snoc X111 N106 g_b101
  have V111 : Arv Z h111 b101 k101 (.object "com/example/dirwarden/dirwarden/aci/Comparison") (6 : Int32) [(.ref s0), (.ref s1), .null, .null, .null, .null] .null := Arv.set Ar109 Aq109 As109 An109 Ah109 Ag109 rfl W111 1 rfl (Nat.le_of_ble_eq_true rfl)
  have c112 := own_sta0 S2 K111
  obtain ⟨T113, X113, e113, st113⟩ := getS2 X111 hx hZ hown (host := "") (Or.inl (own_w8 hw)) Via.refl e111 c112 (g := (mkF m 19 #[.val (.int p1), .val (.int p2), .val (.int p3), .unset, .unset, .unset, .unset, .unset, .unset, .unset, .unset] [(.int (2 : Int32)), (.ref b101), (.ref b101)])) rfl (hb hby at_19)
  obtain ⟨cl114, Ar114, Aq114, As114, An114, Ah114, Ag114⟩ := id V111
  have hin114 : ¬ ((2 : Int32) < 0 ∨ cl114.slots.size ≤ ((2 : Int32)).toNatClampNeg) := inb_of As114 ⟨by decide, by decide⟩
  have c115 := E2.keep K111
  obtain ⟨T116, h116, X116, e116, W116, st116⟩ := stR X113 hx hZ e113 Ar114 (j := (2 : Int32)) hin114 rfl (Sto.ofV Ar114 Aq114 O101 (Ins.self c115)) (g := (mkF m 22 #[.val (.int p1), .val (.int p2), .val (.int p3), .unset, .unset, .unset, .unset, .unset, .unset, .unset, .unset] [(.ref s2), (.int (2 : Int32)), (.ref b101), (.ref b101)])) rfl rfl (hb hby at_22)
  have Z116 : n0 ≤ h116.size := Nat.le_trans Z111 (Nat.le_of_eq W116.size.symm)
  have K116 := K111.wr W116 (Or.inr sz_b101)
  have N116 := Fr.snoc X116 N111 g_b101
  have V116 : Arv Z h116 b101 k101 (.object "com/example/dirwarden/dirwarden/aci/Comparison") (6 : Int32) [(.ref s0), (.ref s1), (.ref s2), .null, .null, .null] .null := Arv.set Ar114 Aq114 As114 An114 Ah114 Ag114 rfl W116 2 rfl (Nat.le_of_ble_eq_true rfl)
  have c117 := own_sta0 S3 K116
  obtain ⟨T118, X118, e118, st118⟩ := getS2 X116 hx hZ hown (host := "") (Or.inl (own_w10 hw)) Via.refl e116 c117 (g := (mkF m 25 #[.val (.int p1), .val (.int p2), .val (.int p3), .unset, .unset, .unset, .unset, .unset, .unset, .unset, .unset] [(.int (3 : Int32)), (.ref b101), (.ref b101)])) rfl (hb hby at_25)
  obtain ⟨cl119, Ar119, Aq119, As119, An119, Ah119, Ag119⟩ := id V116
  have hin119 : ¬ ((3 : Int32) < 0 ∨ cl119.slots.size ≤ ((3 : Int32)).toNatClampNeg) := inb_of As119 ⟨by decide, by decide⟩
  have c120 := E3.keep K116
  obtain ⟨T121, h121, X121, e121, W121, st121⟩ := stR X118 hx hZ e118 Ar119 (j := (3 : Int32)) hin119 rfl (Sto.ofV Ar119 Aq119 O101 (Ins.self c120)) (g := (mkF m 28 #[.val (.int p1), .val (.int p2), .val (.int p3), .unset, .unset, .unset, .unset, .unset, .unset, .unset, .unset] [(.ref s3), (.int (3 : Int32)), (.ref b101), (.ref b101)])) rfl rfl (hb hby at_28)
  have Z121 : n0 ≤ h121.size := Nat.le_trans Z116 (Nat.le_of_eq W121.size.symm)
  have K121 := K116.wr W121 (Or.inr sz_b101)
  have N121 := Fr.snoc X121 N116 g_b101
  have V121 : Arv Z h121 b101 k101 (.object "com/example/dirwarden/dirwarden/aci/Comparison") (6 : Int32) [(.ref s0), (.ref s1), (.ref s2), (.ref s3), .null, .null] .null := Arv.set Ar119 Aq119 As119 An119 Ah119 Ag119 rfl W121 3 rfl (Nat.le_of_ble_eq_true rfl)
  have c122 := own_sta0 S4 K121
  obtain ⟨T123, X123, e123, st123⟩ := getS2 X121 hx hZ hown (host := "") (Or.inl (own_w12 hw)) Via.refl e121 c122 (g := (mkF m 31 #[.val (.int p1), .val (.int p2), .val (.int p3), .unset, .unset, .unset, .unset, .unset, .unset, .unset, .unset] [(.int (4 : Int32)), (.ref b101), (.ref b101)])) rfl (hb hby at_31)
  obtain ⟨cl124, Ar124, Aq124, As124, An124, Ah124, Ag124⟩ := id V121
  have hin124 : ¬ ((4 : Int32) < 0 ∨ cl124.slots.size ≤ ((4 : Int32)).toNatClampNeg) := inb_of As124 ⟨by decide, by decide⟩
  have c125 := E4.keep K121
  obtain ⟨T126, h126, X126, e126, W126, st126⟩ := stR X123 hx hZ e123 Ar124 (j := (4 : Int32)) hin124 rfl (Sto.ofV Ar124 Aq124 O101 (Ins.self c125)) (g := (mkF m 34 #[.val (.int p1), .val (.int p2), .val (.int p3), .unset, .unset, .unset, .unset, .unset, .unset, .unset, .unset] [(.ref s4), (.int (4 : Int32)), (.ref b101), (.ref b101)])) rfl rfl (hb hby at_34)
  have Z126 : n0 ≤ h126.size := Nat.le_trans Z121 (Nat.le_of_eq W126.size.symm)
  have K126 := K121.wr W126 (Or.inr sz_b101)
  have N126 := Fr.snoc X126 N121 g_b101
  have V126 : Arv Z h126 b101 k101 (.object "com/example/dirwarden/dirwarden/aci/Comparison") (6 : Int32) [(.ref s0), (.ref s1), (.ref s2), (.ref s3), (.ref s4), .null] .null := Arv.set Ar124 Aq124 As124 An124 Ah124 Ag124 rfl W126 4 rfl (Nat.le_of_ble_eq_true rfl)
  have c127 := own_sta0 S5 K126
  obtain ⟨T128, X128, e128, st128⟩ := getS2 X126 hx hZ hown (host := "") (Or.inl (own_w14 hw)) Via.refl e126 c127 (g := (mkF m 37 #[.val (.int p1), .val (.int p2), .val (.int p3), .unset, .unset, .unset, .unset, .unset, .unset, .unset, .unset] [(.int (5 : Int32)), (.ref b101), (.ref b101)])) rfl (hb hby at_37)
  obtain ⟨cl129, Ar129, Aq129, As129, An129, Ah129, Ag129⟩ := id V126
  have hin129 : ¬ ((5 : Int32) < 0 ∨ cl129.slots.size ≤ ((5 : Int32)).toNatClampNeg) := inb_of As129 ⟨by decide, by decide⟩
  have c130 := E5.keep K126
  obtain ⟨T131, h131, X131, e131, W131, st131⟩ := stR X128 hx hZ e128 Ar129 (j := (5 : Int32)) hin129 rfl (Sto.ofV Ar129 Aq129 O101 (Ins.self c130)) (g := (mkF m 40 #[.val (.int p1), .val (.int p2), .val (.int p3), .unset, .unset, .unset, .unset, .unset, .unset, .unset, .unset] [(.ref s5), (.int (5 : Int32)), (.ref b101), (.ref b101)])) rfl rfl (hb hby at_40)
  have Z131 : n0 ≤ h131.size := Nat.le_trans Z126 (Nat.le_of_eq W131.size.symm)
  have K131 := K126.wr W131 (Or.inr sz_b101)
  have N131 := Fr.snoc X131 N126 g_b101
  have V131 : Arv Z h131 b101 k101 (.object "com/example/dirwarden/dirwarden/aci/Comparison") (6 : Int32) [(.ref s0), (.ref s1), (.ref s2), (.ref s3), (.ref s4), (.ref s5)] .null := Arv.set Ar129 Aq129 As129 An129 Ah129 Ag129 rfl W131 5 rfl (Nat.le_of_ble_eq_true rfl)
  have c132 := own_sta0 SC K131
  have c133 := own_sta0 SF K131
  have c134 := ((((((c105.wr W106).wr W111).wr W116).wr W121).wr W126).wr W131)
  have c135 := F0.keep K131 nin0
  have c136 := O0.keep K131 nin0
  have c137 := own_str_keep H0 K131
  have c138 := E1.keep K131
  have c139 := F1.keep K131 nin0
  have c140 := O1.keep K131 nin0
  have c141 := own_str_keep H1 K131
  have c142 := E2.keep K131
  have c143 := F2.keep K131 nin0
  have c144 := O2.keep K131 nin0
  have c145 := own_str_keep H2 K131
  have c146 := E3.keep K131
  have c147 := F3.keep K131 nin0
  have c148 := O3.keep K131 nin0
  have c149 := own_str_keep H3 K131
  have c150 := E4.keep K131
  have c151 := F4.keep K131 nin0
  have c152 := O4.keep K131 nin0
  have c153 := own_str_keep H4 K131
  have c154 := E5.keep K131
  have c155 := F5.keep K131 nin0
  have c156 := O5.keep K131 nin0
  have c157 := own_str_keep H5 K131
  have pre158 : ∀ t, Steps p.tables e below (T131.setTop (mkF m 50 #[.val (.int p1), .val (.int p2), .val (.int p3), .val (.ref b101), .unset, .unset, .unset, .unset, .unset, .unset, .unset] [(.int ((p1 &&& (2147483647 : Int32)) % (6 : Int32))), (.ref b101)])) t → Steps p.tables e below (s₁.setTop (entryFrame m #[(.int p1), (.int p2), (.int p3)] maxLocals)) t := fun t kt => pre0 t (by
    show Steps _ _ _ (s₁.setTop (mkF m 0 #[.val (.int p1), .val (.int p2), .val (.int p3), .unset, .unset, .unset, .unset, .unset, .unset, .unset, .unset] [])) _
    refine XS.bipush X0.here hx rfl (hb hby at_0) ?_
    refine st101 _ ?_
    refine XS.dup X101.here hx rfl (hb hby at_5) rfl rfl ?_
    refine XS.iconst X101.here hx rfl (hb hby at_6) ?_
    show Steps _ _ _ (T101.setTop (mkF m 7 #[.val (.int p1), .val (.int p2), .val (.int p3), .unset, .unset, .unset, .unset, .unset, .unset, .unset, .unset] [(.int (0 : Int32)), (.ref b101), (.ref b101)])) _
    refine st103 _ ?_
    refine st106 _ ?_
    refine XS.dup X106.here hx rfl (hb hby at_11) rfl rfl ?_
    refine XS.iconst X106.here hx rfl (hb hby at_12) ?_
    show Steps _ _ _ (T106.setTop (mkF m 13 #[.val (.int p1), .val (.int p2), .val (.int p3), .unset, .unset, .unset, .unset, .unset, .unset, .unset, .unset] [(.int (1 : Int32)), (.ref b101), (.ref b101)])) _
    refine st108 _ ?_
    refine st111 _ ?_
    refine XS.dup X111.here hx rfl (hb hby at_17) rfl rfl ?_
    refine XS.iconst X111.here hx rfl (hb hby at_18) ?_
    show Steps _ _ _ (T111.setTop (mkF m 19 #[.val (.int p1), .val (.int p2), .val (.int p3), .unset, .unset, .unset, .unset, .unset, .unset, .unset, .unset] [(.int (2 : Int32)), (.ref b101), (.ref b101)])) _
    refine st113 _ ?_
    refine st116 _ ?_
    refine XS.dup X116.here hx rfl (hb hby at_23) rfl rfl ?_
    refine XS.iconst X116.here hx rfl (hb hby at_24) ?_
    show Steps _ _ _ (T116.setTop (mkF m 25 #[.val (.int p1), .val (.int p2), .val (.int p3), .unset, .unset, .unset, .unset, .unset, .unset, .unset, .unset] [(.int (3 : Int32)), (.ref b101), (.ref b101)])) _
    refine st118 _ ?_
    refine st121 _ ?_
    refine XS.dup X121.here hx rfl (hb hby at_29) rfl rfl ?_
    refine XS.iconst X121.here hx rfl (hb hby at_30) ?_
    show Steps _ _ _ (T121.setTop (mkF m 31 #[.val (.int p1), .val (.int p2), .val (.int p3), .unset, .unset, .unset, .unset, .unset, .unset, .unset, .unset] [(.int (4 : Int32)), (.ref b101), (.ref b101)])) _
    refine st123 _ ?_
    refine st126 _ ?_
    refine XS.dup X126.here hx rfl (hb hby at_35) rfl rfl ?_
    refine XS.iconst X126.here hx rfl (hb hby at_36) ?_
    show Steps _ _ _ (T126.setTop (mkF m 37 #[.val (.int p1), .val (.int p2), .val (.int p3), .unset, .unset, .unset, .unset, .unset, .unset, .unset, .unset] [(.int (5 : Int32)), (.ref b101), (.ref b101)])) _
    refine st128 _ ?_
    refine st131 _ ?_
    refine XS.astoreN X131.here hx rfl (hb hby at_41) rfl rfl (l' := #[.val (.int p1), .val (.int p2), .val (.int p3), .val (.ref b101), .unset, .unset, .unset, .unset, .unset, .unset, .unset]) rfl ?_
    refine XS.aloadN X131.here hx rfl (hb hby at_42) rfl rfl ?_
    show Steps _ _ _ (T131.setTop (mkF m 43 #[.val (.int p1), .val (.int p2), .val (.int p3), .val (.ref b101), .unset, .unset, .unset, .unset, .unset, .unset, .unset] [(.ref b101)])) _
    refine XS.iloadN X131.here hx rfl (hb hby at_43) rfl ?_
    refine X131.ldcInt hx hown (mvT hZ (own_w16 hw)) (g := (mkF m 44 #[.val (.int p1), .val (.int p2), .val (.int p3), .val (.ref b101), .unset, .unset, .unset, .unset, .unset, .unset, .unset] [(.int p1), (.ref b101)])) rfl (hb hby at_44) _ ?_
    refine XS.iand X131.here hx rfl (hb hby at_46) rfl ?_
    refine XS.bipush X131.here hx rfl (hb hby at_47) ?_
    show Steps _ _ _ (T131.setTop (mkF m 49 #[.val (.int p1), .val (.int p2), .val (.int p3), .val (.ref b101), .unset, .unset, .unset, .unset, .unset, .unset, .unset] [(.int (6 : Int32)), (.int (p1 &&& (2147483647 : Int32))), (.ref b101)])) _
    refine iremM X131 hx rfl (hb hby at_49) rfl (by decide) ?_
    exact kt)
  rcases own_mod p1 with hs159 | hs159 | hs159 | hs159 | hs159 | hs159
  · skip
    rw [hs159] at pre158
    obtain ⟨cl160, Ar160, Aq160, As160, An160, Ah160, Ag160⟩ := id V131
    have hin160 : ¬ ((0 : Int32) < 0 ∨ cl160.slots.size ≤ ((0 : Int32)).toNatClampNeg) := inb_of As160 ⟨by decide, by decide⟩
    have pre161 : ∀ t, Steps p.tables e below (T131.setTop (mkF m 56 #[.val (.int p1), .val (.int p2), .val (.int p3), .val (.ref b101), .val (.ref s0), .unset, .unset, .unset, .unset, .unset, .unset] [(.int (p3 &&& (1 : Int32)))])) t → Steps p.tables e below (s₁.setTop (entryFrame m #[(.int p1), (.int p2), (.int p3)] maxLocals)) t := fun t kt => pre158 t (by
      show Steps _ _ _ (T131.setTop (mkF m 50 #[.val (.int p1), .val (.int p2), .val (.int p3), .val (.ref b101), .unset, .unset, .unset, .unset, .unset, .unset, .unset] [(.int (0 : Int32)), (.ref b101)])) _
      refine X131.aaload hx (j := (0 : Int32)) (v := (.ref s0)) (by rw [e131]; exact Ar160.1) (State.isArrayOf_alike hZ.alike Ar160.2.1) rfl Ar160.2.2 hin160 (Ah160.at hin160 rfl) (g := (mkF m 50 #[.val (.int p1), .val (.int p2), .val (.int p3), .val (.ref b101), .unset, .unset, .unset, .unset, .unset, .unset, .unset] [(.int (0 : Int32)), (.ref b101)])) rfl rfl (hb hby at_50) _ ?_
      refine XS.astore X131.here hx rfl (hb hby at_51) rfl rfl (l' := #[.val (.int p1), .val (.int p2), .val (.int p3), .val (.ref b101), .val (.ref s0), .unset, .unset, .unset, .unset, .unset, .unset]) rfl ?_
      refine XS.iloadN X131.here hx rfl (hb hby at_53) rfl ?_
      refine XS.iconst X131.here hx rfl (hb hby at_54) ?_
      show Steps _ _ _ (T131.setTop (mkF m 55 #[.val (.int p1), .val (.int p2), .val (.int p3), .val (.ref b101), .val (.ref s0), .unset, .unset, .unset, .unset, .unset, .unset] [(.int (1 : Int32)), (.int p3)])) _
      refine XS.iand X131.here hx rfl (hb hby at_55) rfl ?_
      exact kt)
    by_cases hc56_162 : (p3 &&& (1 : Int32)) = (0 : Int32)
    · skip
      have ihc56_162 := (own_eq (b := (0 : Int32)) (k := 0) rfl).mp hc56_162
      obtain ⟨cq163, kq163, q163a, q163b, q163c⟩ := isOf hZ e131 c134
      obtain ⟨_, _, ⟨T163, L163, k163, n163⟩, -, X163, ⟨Lc163, hQ163, l163, y163, z163⟩, st163⟩ := X131.virtualBack hx (y := own_m8) (z := own_m8) hown (mvT hZ (own_w17 hw)) (mvT hZ (own_w18 hw)) (notFace_of_selects (args := #[]) (mvT hZ (own_w20 hw))) (mvT hZ (own_w20 hw)) (mvT hZ (own_w19 hw)) (by decide) (backOf (W := 0) (own_op l Z a0 hw [] s0 o0 h131 n0 Z131 c136) hZ (own_w21 hw) (own_w3 hw) (by decide) (by decide)) q163a q163c (g := (mkF m 68 #[.val (.int p1), .val (.int p2), .val (.int p3), .val (.ref b101), .val (.ref s0), .val (.int p2), .unset, .unset, .unset, .unset, .unset] [(.ref s0)])) rfl (by rw [hml]; rfl) (Steps.refl _) (argsL := []) (rest := []) (lenOf own_pd7 rfl) rfl (by show 2 * 0 + _ ≤ _; exact Nat.le_of_eq rfl) (hb hby at_68) (fun _ _ => ⟨rfl, e131, (by decide : 1 + 0 ≤ _), (by decide : 6 + 0 ≤ _)⟩)
      dsimp only [Pt.U, Pt.locs, Pt.cells, Pt.slots] at X163 l163 y163 z163 st163 hQ163
      subst l163 y163 z163
      obtain ⟨rfl, N163q, e163⟩ := hQ163
      have N163 := Fr.app N131 N163q
      have pre164 : ∀ t, Steps p.tables e below (T163.setTop (mkF m 75 #[.val (.int p1), .val (.int p2), .val (.int p3), .val (.ref b101), .val (.ref s0), .val (.int p2), .val (.ref o0), .unset, .unset, .unset, .unset] [(.int p2)])) t → Steps p.tables e below (s₁.setTop (entryFrame m #[(.int p1), (.int p2), (.int p3)] maxLocals)) t := fun t kt => pre161 t (by
        show Steps _ _ _ (T131.setTop (mkF m 56 #[.val (.int p1), .val (.int p2), .val (.int p3), .val (.ref b101), .val (.ref s0), .unset, .unset, .unset, .unset, .unset, .unset] [(.int (p3 &&& (1 : Int32)))])) _
        refine XS.ifYes X131.here hx rfl (pc0 := 56) (pc' := 63) rfl (hb hby at_56) rfl ((if0 _ _).trans (teq hc56_162).1) (by decide) (by decide) ?_
        refine XS.iloadN X131.here hx rfl (hb hby at_63) rfl ?_
        refine XS.istore X131.here hx rfl (hb hby at_64) rfl (l' := #[.val (.int p1), .val (.int p2), .val (.int p3), .val (.ref b101), .val (.ref s0), .val (.int p2), .unset, .unset, .unset, .unset, .unset]) rfl ?_
        refine XS.aload X131.here hx rfl (hb hby at_66) rfl rfl ?_
        show Steps _ _ _ (T131.setTop (mkF m 68 #[.val (.int p1), .val (.int p2), .val (.int p3), .val (.ref b101), .val (.ref s0), .val (.int p2), .unset, .unset, .unset, .unset, .unset] [(.ref s0)])) _
        refine st163.trans ?_
        refine XS.astore X163.here hx rfl (hb hby at_71) rfl rfl (l' := #[.val (.int p1), .val (.int p2), .val (.int p3), .val (.ref b101), .val (.ref s0), .val (.int p2), .val (.ref o0), .unset, .unset, .unset, .unset]) rfl ?_
        refine XS.iload X163.here hx rfl (hb hby at_73) rfl ?_
        exact kt)
      by_cases hc75_165 : p2 < (0 : Int32)
      · skip
        have ihc75_165 := (own_lt (b := (0 : Int32)) (k := 0) rfl).mp hc75_165
        obtain ⟨_, _, ⟨T166, L166, k166, n166⟩, -, X166, ⟨Lc166, hQ166, l166, y166, z166⟩, st166⟩ := Jvm.LawKit.callS X163 hx (y := own_m7) hown (mvT hZ (own_w24 hw)) (mvT hZ (own_w25 hw)) (mvT hZ (own_w26 hw)) (mvT hZ (own_w27 hw)) (by decide) (backOf (W := 0) (own_hasNEL l Z a0 hw [] o0 v0 kc0 cs fv h131 n0 Z131 c137 c132 hcs c133 hfv) hZ (own_w27 hw) (own_w26 hw) (by decide) (by decide)) (g := (mkF m 105 #[.val (.int p1), .val (.int p2), .val (.int p3), .val (.ref b101), .val (.ref s0), .val (.int p2), .val (.ref o0), .val (.int (60 : Int32)), .unset, .unset, .unset] [(.int (60 : Int32)), (.ref o0)])) rfl (by rw [hml]; rfl) (argsL := [(.ref o0), (.int (60 : Int32))]) (rest := []) (lenOf own_pd8 rfl) rfl (by show 2 * 0 + _ ≤ _; exact Nat.le_of_eq rfl) (hb hby at_105) (fun _ _ => ⟨rfl, e163, (by decide : 1 + 0 ≤ _), (by decide : 6 + 0 ≤ _)⟩)
        dsimp only [Pt.U, Pt.locs, Pt.cells, Pt.slots] at X166 l166 y166 z166 st166 hQ166
        subst l166 y166 z166
        obtain ⟨rfl, N166q, e166⟩ := hQ166
        have N166 := Fr.app N163 N166q
        obtain ⟨cq167, kq167, q167a, q167b, q167c⟩ := isOf hZ e166 c137.1
        obtain ⟨_, _, ⟨T167, L167, k167, n167⟩, -, X167, ⟨Lc167, hQ167, l167, y167, z167⟩, st167⟩ := X166.virtualBack hx (y := own_m6) (z := own_m6) hown (mvT hZ (own_w28 hw)) (mvT hZ (own_w29 hw)) (notFace_of_selects (args := #[]) (mvT hZ (own_w31 hw))) (mvT hZ (own_w31 hw)) (mvT hZ (own_w30 hw)) (by decide) (backOf (W := 0) (own_lenNE l Z a0 hw [] o0 v0 kc0 cs fv h131 n0 Z131 c137 c132 hcs c133 hfv) hZ (own_w33 hw) (own_w32 hw) (by decide) (by decide)) q167a q167c (g := (mkF m 112 #[.val (.int p1), .val (.int p2), .val (.int p3), .val (.ref b101), .val (.ref s0), .val (.int p2), .val (.ref o0), .val (.int (60 : Int32)), .val (.int (0 : Int32)), .unset, .unset] [(.ref o0)])) rfl (by rw [hml]; rfl) (Steps.refl _) (argsL := []) (rest := []) (lenOf own_pd5 rfl) rfl (by show 2 * 0 + _ ≤ _; exact Nat.le_of_eq rfl) (hb hby at_112) (fun _ _ => ⟨rfl, e166, (by decide : 1 + 0 ≤ _), (by decide : 6 + 0 ≤ _)⟩)
        dsimp only [Pt.U, Pt.locs, Pt.cells, Pt.slots] at X167 l167 y167 z167 st167 hQ167
        subst l167 y167 z167
        obtain ⟨rfl, N167q, e167⟩ := hQ167
        have N167 := Fr.app N166 N167q
        obtain ⟨cq168, kq168, q168a, q168b, q168c⟩ := isOf hZ e167 c137.1
        obtain ⟨_, _, ⟨T168, L168, k168, n168⟩, -, X168, ⟨Lc168, hQ168, l168, y168, z168⟩, st168⟩ := X167.virtualBack hx (y := own_m5) (z := own_m5) hown (mvT hZ (own_w44 hw)) (mvT hZ (own_w45 hw)) (notFace_of_selects (args := #[]) (mvT hZ (own_w47 hw))) (mvT hZ (own_w47 hw)) (mvT hZ (own_w46 hw)) (by decide) (backOf (W := 0) (own_caNE0 l Z a0 hw [] o0 v0 kc0 cs fv h131 n0 Z131 c137 c132 hcs c133 hfv) hZ (own_w48 hw) (own_w32 hw) (by decide) (by decide)) q168a q168c (g := (mkF m 122 #[.val (.int p1), .val (.int p2), .val (.int p3), .val (.ref b101), .val (.ref s0), .val (.int p2), .val (.ref o0), .val (.int (60 : Int32)), .val (.int (0 : Int32)), .unset, .unset] [(.int (0 : Int32)), (.ref o0)])) rfl (by rw [hml]; rfl) (Steps.refl _) (argsL := [(.int (0 : Int32))]) (rest := []) (lenOf own_pd6 rfl) rfl (by show 2 * 0 + _ ≤ _; exact Nat.le_of_eq rfl) (hb hby at_122) (fun _ _ => ⟨rfl, e167, (by decide : 1 + 0 ≤ _), (by decide : 6 + 0 ≤ _)⟩)
        dsimp only [Pt.U, Pt.locs, Pt.cells, Pt.slots] at X168 l168 y168 z168 st168 hQ168
        subst l168 y168 z168
        obtain ⟨rfl, N168q, e168⟩ := hQ168
        have N168 := Fr.app N167 N168q
        obtain ⟨cq169, kq169, q169a, q169b, q169c⟩ := isOf hZ e168 c134
        obtain ⟨_, _, ⟨T169, L169, k169, n169⟩, -, X169, ⟨Lc169, hQ169, l169, y169, z169⟩, st169⟩ := X168.virtualBack hx (y := own_m10) (z := own_m10) hown (mvT hZ (own_w66 hw)) (mvT hZ (own_w67 hw)) (notFace_of_selects (args := #[]) (mvT hZ (own_w69 hw))) (mvT hZ (own_w69 hw)) (mvT hZ (own_w68 hw)) (by decide) (backOf (W := 0) (own_holds0 l Z a0 hw [] s0 p2 h131 n0 Z131 c134 c135) hZ (own_w70 hw) (own_w3 hw) (by decide) (by decide)) q169a q169c (g := (mkF m 163 #[.val (.int p1), .val (.int p2), .val (.int p3), .val (.ref b101), .val (.ref s0), .val (.int p2), .val (.ref o0), .val (.int (60 : Int32)), .val (.int (0 : Int32)), .val (.int (1 : Int32)), .val (.int (1 : Int32))] [(.int p2), (.ref s0)])) rfl (by rw [hml]; rfl) (Steps.refl _) (argsL := [(.int p2)]) (rest := []) (lenOf own_pd9 rfl) rfl (by show 2 * 0 + _ ≤ _; exact Nat.le_of_eq rfl) (hb hby at_163) (fun _ _ => ⟨rfl, e168, (by decide : 1 + 0 ≤ _), (by decide : 6 + 0 ≤ _)⟩)
        dsimp only [Pt.U, Pt.locs, Pt.cells, Pt.slots] at X169 l169 y169 z169 st169 hQ169
        subst l169 y169 z169
        obtain ⟨rfl, N169q, e169⟩ := hQ169
        have N169 := Fr.app N168 N169q
        obtain ⟨fs, hr, hrun, hended, hW, hsame⟩ := X169.leave (v := some (.int (1 : Int32))) (fun h => by rw [Bd.returns] at h; cases h)
        refine ⟨_, _, pre164 _ ?_, hrun, hended, _, _, rfl, ?_, ⟨_, rfl⟩, hW, hsame.mono (by decide) (by decide)⟩
        · show Steps _ _ _ (T163.setTop (mkF m 75 #[.val (.int p1), .val (.int p2), .val (.int p3), .val (.ref b101), .val (.ref s0), .val (.int p2), .val (.ref o0), .unset, .unset, .unset, .unset] [(.int p2)])) _
          refine XS.ifNo X163.here hx rfl (hb hby at_75) rfl ((if0 _ _).trans (tlt hc75_165).2.1) ?_
          refine XS.bipush X163.here hx rfl (hb hby at_78) ?_
          refine XS.istore X163.here hx rfl (hb hby at_80) rfl (l' := #[.val (.int p1), .val (.int p2), .val (.int p3), .val (.ref b101), .val (.ref s0), .val (.int p2), .val (.ref o0), .val (.int (60 : Int32)), .unset, .unset, .unset]) rfl ?_
          refine XS.goto X163.here hx rfl (pc0 := 82) (pc' := 101) rfl (hb hby at_82) (by decide) (by decide) ?_
          show Steps _ _ _ (T163.setTop (mkF m 101 #[.val (.int p1), .val (.int p2), .val (.int p3), .val (.ref b101), .val (.ref s0), .val (.int p2), .val (.ref o0), .val (.int (60 : Int32)), .unset, .unset, .unset] [])) _
          refine XS.aload X163.here hx rfl (hb hby at_101) rfl rfl ?_
          refine XS.iload X163.here hx rfl (hb hby at_103) rfl ?_
          refine st166 _ ?_
          refine XS.istore X166.here hx rfl (hb hby at_108) rfl (l' := #[.val (.int p1), .val (.int p2), .val (.int p3), .val (.ref b101), .val (.ref s0), .val (.int p2), .val (.ref o0), .val (.int (60 : Int32)), .val (.int (0 : Int32)), .unset, .unset]) rfl ?_
          show Steps _ _ _ (T166.setTop (mkF m 110 #[.val (.int p1), .val (.int p2), .val (.int p3), .val (.ref b101), .val (.ref s0), .val (.int p2), .val (.ref o0), .val (.int (60 : Int32)), .val (.int (0 : Int32)), .unset, .unset] [])) _
          refine XS.aload X166.here hx rfl (hb hby at_110) rfl rfl ?_
          refine st167.trans ?_
          refine XS.iconst X167.here hx rfl (hb hby at_115) ?_
          refine XS.icmpNo X167.here hx rfl (hb hby at_116) rfl (flt (by decide : ¬ ((2 : Int32) < (1 : Int32)))).1 ?_
          show Steps _ _ _ (T167.setTop (mkF m 119 #[.val (.int p1), .val (.int p2), .val (.int p3), .val (.ref b101), .val (.ref s0), .val (.int p2), .val (.ref o0), .val (.int (60 : Int32)), .val (.int (0 : Int32)), .unset, .unset] [])) _
          refine XS.aload X167.here hx rfl (hb hby at_119) rfl rfl ?_
          refine XS.iconst X167.here hx rfl (hb hby at_121) ?_
          refine st168.trans ?_
          refine XS.bipush X168.here hx rfl (hb hby at_125) ?_
          show Steps _ _ _ (T168.setTop (mkF m 127 #[.val (.int p1), .val (.int p2), .val (.int p3), .val (.ref b101), .val (.ref s0), .val (.int p2), .val (.ref o0), .val (.int (60 : Int32)), .val (.int (0 : Int32)), .unset, .unset] [(.int (33 : Int32)), (.int (33 : Int32))])) _
          refine XS.icmpNo X168.here hx rfl (hb hby at_127) rfl (teq (by decide : (33 : Int32) = (33 : Int32))).2 ?_
          refine XS.iconst X168.here hx rfl (hb hby at_130) ?_
          refine XS.goto X168.here hx rfl (pc0 := 131) (pc' := 135) rfl (hb hby at_131) (by decide) (by decide) ?_
          refine XS.istore X168.here hx rfl (hb hby at_135) rfl (l' := #[.val (.int p1), .val (.int p2), .val (.int p3), .val (.ref b101), .val (.ref s0), .val (.int p2), .val (.ref o0), .val (.int (60 : Int32)), .val (.int (0 : Int32)), .val (.int (1 : Int32)), .unset]) rfl ?_
          show Steps _ _ _ (T168.setTop (mkF m 137 #[.val (.int p1), .val (.int p2), .val (.int p3), .val (.ref b101), .val (.ref s0), .val (.int p2), .val (.ref o0), .val (.int (60 : Int32)), .val (.int (0 : Int32)), .val (.int (1 : Int32)), .unset] [])) _
          refine XS.iload X168.here hx rfl (hb hby at_137) rfl ?_
          refine XS.ifNo X168.here hx rfl (hb hby at_139) rfl ((if0 _ _).trans (feq (by decide : ¬ ((1 : Int32) = (0 : Int32)))).1) ?_
          refine XS.iload X168.here hx rfl (hb hby at_142) rfl ?_
          refine XS.ifNo X168.here hx rfl (hb hby at_144) rfl ((if0 _ _).trans (teq (by decide : (0 : Int32) = (0 : Int32))).2) ?_
          show Steps _ _ _ (T168.setTop (mkF m 147 #[.val (.int p1), .val (.int p2), .val (.int p3), .val (.ref b101), .val (.ref s0), .val (.int p2), .val (.ref o0), .val (.int (60 : Int32)), .val (.int (0 : Int32)), .val (.int (1 : Int32)), .unset] [])) _
          refine XS.iconst X168.here hx rfl (hb hby at_147) ?_
          refine XS.goto X168.here hx rfl (pc0 := 148) (pc' := 157) rfl (hb hby at_148) (by decide) (by decide) ?_
          refine XS.istore X168.here hx rfl (hb hby at_157) rfl (l' := #[.val (.int p1), .val (.int p2), .val (.int p3), .val (.ref b101), .val (.ref s0), .val (.int p2), .val (.ref o0), .val (.int (60 : Int32)), .val (.int (0 : Int32)), .val (.int (1 : Int32)), .val (.int (1 : Int32))]) rfl ?_
          refine XS.aload X168.here hx rfl (hb hby at_159) rfl rfl ?_
          show Steps _ _ _ (T168.setTop (mkF m 161 #[.val (.int p1), .val (.int p2), .val (.int p3), .val (.ref b101), .val (.ref s0), .val (.int p2), .val (.ref o0), .val (.int (60 : Int32)), .val (.int (0 : Int32)), .val (.int (1 : Int32)), .val (.int (1 : Int32))] [(.ref s0)])) _
          refine XS.iload X168.here hx rfl (hb hby at_161) rfl ?_
          refine st169.trans ?_
          refine XS.iload X169.here hx rfl (hb hby at_166) rfl ?_
          refine XS.icmpNo X169.here hx rfl (hb hby at_168) rfl (teq (by unfold own_h0; exact if_pos (by omega))).2 ?_
          show Steps _ _ _ (T169.setTop (mkF m 171 #[.val (.int p1), .val (.int p2), .val (.int p3), .val (.ref b101), .val (.ref s0), .val (.int p2), .val (.ref o0), .val (.int (60 : Int32)), .val (.int (0 : Int32)), .val (.int (1 : Int32)), .val (.int (1 : Int32))] [])) _
          refine XS.iconst X169.here hx rfl (hb hby at_171) ?_
          refine XS.goto X169.here hx rfl (pc0 := 172) (pc' := 176) rfl (hb hby at_172) (by decide) (by decide) ?_
          show Steps _ _ _ (T169.setTop (mkF m 176 #[.val (.int p1), .val (.int p2), .val (.int p3), .val (.ref b101), .val (.ref s0), .val (.int p2), .val (.ref o0), .val (.int (60 : Int32)), .val (.int (0 : Int32)), .val (.int (1 : Int32)), .val (.int (1 : Int32))] [(.int (1 : Int32))])) _
          exact retN X169 hx (t := .boolean) Bd.returns (by simp) (hb hby at_176) hr
        · show Qown_law Z p1 p2 p3 s0 o0 v0 s1 o1 v1 s2 o2 v2 s3 o3 v3 s4 o4 v4 s5 o5 v5 kc0 kc1 kc2 kc3 kc4 kc5 cs fv h0 n0 _ T169.heap _
          rw [e169]
          exact ⟨rfl, N169⟩
      · skip
        have ihc75_165 := (mt (own_lt (b := (0 : Int32)) (k := 0) rfl).mpr hc75_165)
        have pre170 : ∀ t, Steps p.tables e below (T163.setTop (mkF m 87 #[.val (.int p1), .val (.int p2), .val (.int p3), .val (.ref b101), .val (.ref s0), .val (.int p2), .val (.ref o0), .unset, .unset, .unset, .unset] [(.int p2)])) t → Steps p.tables e below (s₁.setTop (entryFrame m #[(.int p1), (.int p2), (.int p3)] maxLocals)) t := fun t kt => pre164 t (by
          show Steps _ _ _ (T163.setTop (mkF m 75 #[.val (.int p1), .val (.int p2), .val (.int p3), .val (.ref b101), .val (.ref s0), .val (.int p2), .val (.ref o0), .unset, .unset, .unset, .unset] [(.int p2)])) _
          refine XS.ifYes X163.here hx rfl (pc0 := 75) (pc' := 85) rfl (hb hby at_75) rfl ((if0 _ _).trans (flt hc75_165).2.1) (by decide) (by decide) ?_
          refine XS.iload X163.here hx rfl (hb hby at_85) rfl ?_
          exact kt)
        by_cases hc87_171 : p2 = (0 : Int32)
        · skip
          have ihc87_171 := (own_eq (b := (0 : Int32)) (k := 0) rfl).mp hc87_171
          obtain ⟨_, _, ⟨T172, L172, k172, n172⟩, -, X172, ⟨Lc172, hQ172, l172, y172, z172⟩, st172⟩ := Jvm.LawKit.callS X163 hx (y := own_m7) hown (mvT hZ (own_w24 hw)) (mvT hZ (own_w25 hw)) (mvT hZ (own_w26 hw)) (mvT hZ (own_w27 hw)) (by decide) (backOf (W := 0) (own_hasNEE l Z a0 hw [] o0 v0 kc0 cs fv h131 n0 Z131 c137 c132 hcs c133 hfv) hZ (own_w27 hw) (own_w26 hw) (by decide) (by decide)) (g := (mkF m 105 #[.val (.int p1), .val (.int p2), .val (.int p3), .val (.ref b101), .val (.ref s0), .val (.int p2), .val (.ref o0), .val (.int (61 : Int32)), .unset, .unset, .unset] [(.int (61 : Int32)), (.ref o0)])) rfl (by rw [hml]; rfl) (argsL := [(.ref o0), (.int (61 : Int32))]) (rest := []) (lenOf own_pd8 rfl) rfl (by show 2 * 0 + _ ≤ _; exact Nat.le_of_eq rfl) (hb hby at_105) (fun _ _ => ⟨rfl, e163, (by decide : 1 + 0 ≤ _), (by decide : 6 + 0 ≤ _)⟩)
          dsimp only [Pt.U, Pt.locs, Pt.cells, Pt.slots] at X172 l172 y172 z172 st172 hQ172
          subst l172 y172 z172
          obtain ⟨rfl, N172q, e172⟩ := hQ172
          have N172 := Fr.app N163 N172q
          obtain ⟨cq173, kq173, q173a, q173b, q173c⟩ := isOf hZ e172 c137.1
          obtain ⟨_, _, ⟨T173, L173, k173, n173⟩, -, X173, ⟨Lc173, hQ173, l173, y173, z173⟩, st173⟩ := X172.virtualBack hx (y := own_m6) (z := own_m6) hown (mvT hZ (own_w28 hw)) (mvT hZ (own_w29 hw)) (notFace_of_selects (args := #[]) (mvT hZ (own_w31 hw))) (mvT hZ (own_w31 hw)) (mvT hZ (own_w30 hw)) (by decide) (backOf (W := 0) (own_lenNE l Z a0 hw [] o0 v0 kc0 cs fv h131 n0 Z131 c137 c132 hcs c133 hfv) hZ (own_w33 hw) (own_w32 hw) (by decide) (by decide)) q173a q173c (g := (mkF m 112 #[.val (.int p1), .val (.int p2), .val (.int p3), .val (.ref b101), .val (.ref s0), .val (.int p2), .val (.ref o0), .val (.int (61 : Int32)), .val (.int (1 : Int32)), .unset, .unset] [(.ref o0)])) rfl (by rw [hml]; rfl) (Steps.refl _) (argsL := []) (rest := []) (lenOf own_pd5 rfl) rfl (by show 2 * 0 + _ ≤ _; exact Nat.le_of_eq rfl) (hb hby at_112) (fun _ _ => ⟨rfl, e172, (by decide : 1 + 0 ≤ _), (by decide : 6 + 0 ≤ _)⟩)
          dsimp only [Pt.U, Pt.locs, Pt.cells, Pt.slots] at X173 l173 y173 z173 st173 hQ173
          subst l173 y173 z173
          obtain ⟨rfl, N173q, e173⟩ := hQ173
          have N173 := Fr.app N172 N173q
          obtain ⟨cq174, kq174, q174a, q174b, q174c⟩ := isOf hZ e173 c137.1
          obtain ⟨_, _, ⟨T174, L174, k174, n174⟩, -, X174, ⟨Lc174, hQ174, l174, y174, z174⟩, st174⟩ := X173.virtualBack hx (y := own_m5) (z := own_m5) hown (mvT hZ (own_w44 hw)) (mvT hZ (own_w45 hw)) (notFace_of_selects (args := #[]) (mvT hZ (own_w47 hw))) (mvT hZ (own_w47 hw)) (mvT hZ (own_w46 hw)) (by decide) (backOf (W := 0) (own_caNE0 l Z a0 hw [] o0 v0 kc0 cs fv h131 n0 Z131 c137 c132 hcs c133 hfv) hZ (own_w48 hw) (own_w32 hw) (by decide) (by decide)) q174a q174c (g := (mkF m 122 #[.val (.int p1), .val (.int p2), .val (.int p3), .val (.ref b101), .val (.ref s0), .val (.int p2), .val (.ref o0), .val (.int (61 : Int32)), .val (.int (1 : Int32)), .unset, .unset] [(.int (0 : Int32)), (.ref o0)])) rfl (by rw [hml]; rfl) (Steps.refl _) (argsL := [(.int (0 : Int32))]) (rest := []) (lenOf own_pd6 rfl) rfl (by show 2 * 0 + _ ≤ _; exact Nat.le_of_eq rfl) (hb hby at_122) (fun _ _ => ⟨rfl, e173, (by decide : 1 + 0 ≤ _), (by decide : 6 + 0 ≤ _)⟩)
          dsimp only [Pt.U, Pt.locs, Pt.cells, Pt.slots] at X174 l174 y174 z174 st174 hQ174
          subst l174 y174 z174
          obtain ⟨rfl, N174q, e174⟩ := hQ174
          have N174 := Fr.app N173 N174q
          obtain ⟨cq175, kq175, q175a, q175b, q175c⟩ := isOf hZ e174 c134
          obtain ⟨_, _, ⟨T175, L175, k175, n175⟩, -, X175, ⟨Lc175, hQ175, l175, y175, z175⟩, st175⟩ := X174.virtualBack hx (y := own_m10) (z := own_m10) hown (mvT hZ (own_w66 hw)) (mvT hZ (own_w67 hw)) (notFace_of_selects (args := #[]) (mvT hZ (own_w69 hw))) (mvT hZ (own_w69 hw)) (mvT hZ (own_w68 hw)) (by decide) (backOf (W := 0) (own_holds0 l Z a0 hw [] s0 p2 h131 n0 Z131 c134 c135) hZ (own_w70 hw) (own_w3 hw) (by decide) (by decide)) q175a q175c (g := (mkF m 163 #[.val (.int p1), .val (.int p2), .val (.int p3), .val (.ref b101), .val (.ref s0), .val (.int p2), .val (.ref o0), .val (.int (61 : Int32)), .val (.int (1 : Int32)), .val (.int (1 : Int32)), .val (.int (0 : Int32))] [(.int p2), (.ref s0)])) rfl (by rw [hml]; rfl) (Steps.refl _) (argsL := [(.int p2)]) (rest := []) (lenOf own_pd9 rfl) rfl (by show 2 * 0 + _ ≤ _; exact Nat.le_of_eq rfl) (hb hby at_163) (fun _ _ => ⟨rfl, e174, (by decide : 1 + 0 ≤ _), (by decide : 6 + 0 ≤ _)⟩)
          dsimp only [Pt.U, Pt.locs, Pt.cells, Pt.slots] at X175 l175 y175 z175 st175 hQ175
          subst l175 y175 z175
          obtain ⟨rfl, N175q, e175⟩ := hQ175
          have N175 := Fr.app N174 N175q
          obtain ⟨fs, hr, hrun, hended, hW, hsame⟩ := X175.leave (v := some (.int (1 : Int32))) (fun h => by rw [Bd.returns] at h; cases h)
          refine ⟨_, _, pre170 _ ?_, hrun, hended, _, _, rfl, ?_, ⟨_, rfl⟩, hW, hsame.mono (by decide) (by decide)⟩
          · show Steps _ _ _ (T163.setTop (mkF m 87 #[.val (.int p1), .val (.int p2), .val (.int p3), .val (.ref b101), .val (.ref s0), .val (.int p2), .val (.ref o0), .unset, .unset, .unset, .unset] [(.int p2)])) _
            refine XS.ifNo X163.here hx rfl (hb hby at_87) rfl ((if0 _ _).trans (teq hc87_171).2) ?_
            refine XS.bipush X163.here hx rfl (hb hby at_90) ?_
            refine XS.istore X163.here hx rfl (hb hby at_92) rfl (l' := #[.val (.int p1), .val (.int p2), .val (.int p3), .val (.ref b101), .val (.ref s0), .val (.int p2), .val (.ref o0), .val (.int (61 : Int32)), .unset, .unset, .unset]) rfl ?_
            refine XS.goto X163.here hx rfl (pc0 := 94) (pc' := 101) rfl (hb hby at_94) (by decide) (by decide) ?_
            show Steps _ _ _ (T163.setTop (mkF m 101 #[.val (.int p1), .val (.int p2), .val (.int p3), .val (.ref b101), .val (.ref s0), .val (.int p2), .val (.ref o0), .val (.int (61 : Int32)), .unset, .unset, .unset] [])) _
            refine XS.aload X163.here hx rfl (hb hby at_101) rfl rfl ?_
            refine XS.iload X163.here hx rfl (hb hby at_103) rfl ?_
            refine st172 _ ?_
            refine XS.istore X172.here hx rfl (hb hby at_108) rfl (l' := #[.val (.int p1), .val (.int p2), .val (.int p3), .val (.ref b101), .val (.ref s0), .val (.int p2), .val (.ref o0), .val (.int (61 : Int32)), .val (.int (1 : Int32)), .unset, .unset]) rfl ?_
            show Steps _ _ _ (T172.setTop (mkF m 110 #[.val (.int p1), .val (.int p2), .val (.int p3), .val (.ref b101), .val (.ref s0), .val (.int p2), .val (.ref o0), .val (.int (61 : Int32)), .val (.int (1 : Int32)), .unset, .unset] [])) _
            refine XS.aload X172.here hx rfl (hb hby at_110) rfl rfl ?_
            refine st173.trans ?_
            refine XS.iconst X173.here hx rfl (hb hby at_115) ?_
            refine XS.icmpNo X173.here hx rfl (hb hby at_116) rfl (flt (by decide : ¬ ((2 : Int32) < (1 : Int32)))).1 ?_
            show Steps _ _ _ (T173.setTop (mkF m 119 #[.val (.int p1), .val (.int p2), .val (.int p3), .val (.ref b101), .val (.ref s0), .val (.int p2), .val (.ref o0), .val (.int (61 : Int32)), .val (.int (1 : Int32)), .unset, .unset] [])) _
            refine XS.aload X173.here hx rfl (hb hby at_119) rfl rfl ?_
            refine XS.iconst X173.here hx rfl (hb hby at_121) ?_
            refine st174.trans ?_
            refine XS.bipush X174.here hx rfl (hb hby at_125) ?_
            show Steps _ _ _ (T174.setTop (mkF m 127 #[.val (.int p1), .val (.int p2), .val (.int p3), .val (.ref b101), .val (.ref s0), .val (.int p2), .val (.ref o0), .val (.int (61 : Int32)), .val (.int (1 : Int32)), .unset, .unset] [(.int (33 : Int32)), (.int (33 : Int32))])) _
            refine XS.icmpNo X174.here hx rfl (hb hby at_127) rfl (teq (by decide : (33 : Int32) = (33 : Int32))).2 ?_
            refine XS.iconst X174.here hx rfl (hb hby at_130) ?_
            refine XS.goto X174.here hx rfl (pc0 := 131) (pc' := 135) rfl (hb hby at_131) (by decide) (by decide) ?_
            refine XS.istore X174.here hx rfl (hb hby at_135) rfl (l' := #[.val (.int p1), .val (.int p2), .val (.int p3), .val (.ref b101), .val (.ref s0), .val (.int p2), .val (.ref o0), .val (.int (61 : Int32)), .val (.int (1 : Int32)), .val (.int (1 : Int32)), .unset]) rfl ?_
            show Steps _ _ _ (T174.setTop (mkF m 137 #[.val (.int p1), .val (.int p2), .val (.int p3), .val (.ref b101), .val (.ref s0), .val (.int p2), .val (.ref o0), .val (.int (61 : Int32)), .val (.int (1 : Int32)), .val (.int (1 : Int32)), .unset] [])) _
            refine XS.iload X174.here hx rfl (hb hby at_137) rfl ?_
            refine XS.ifNo X174.here hx rfl (hb hby at_139) rfl ((if0 _ _).trans (feq (by decide : ¬ ((1 : Int32) = (0 : Int32)))).1) ?_
            refine XS.iload X174.here hx rfl (hb hby at_142) rfl ?_
            refine XS.ifYes X174.here hx rfl (pc0 := 144) (pc' := 151) rfl (hb hby at_144) rfl ((if0 _ _).trans (feq (by decide : ¬ ((1 : Int32) = (0 : Int32)))).2) (by decide) (by decide) ?_
            show Steps _ _ _ (T174.setTop (mkF m 151 #[.val (.int p1), .val (.int p2), .val (.int p3), .val (.ref b101), .val (.ref s0), .val (.int p2), .val (.ref o0), .val (.int (61 : Int32)), .val (.int (1 : Int32)), .val (.int (1 : Int32)), .unset] [])) _
            refine XS.iconst X174.here hx rfl (hb hby at_151) ?_
            refine XS.goto X174.here hx rfl (pc0 := 152) (pc' := 157) rfl (hb hby at_152) (by decide) (by decide) ?_
            refine XS.istore X174.here hx rfl (hb hby at_157) rfl (l' := #[.val (.int p1), .val (.int p2), .val (.int p3), .val (.ref b101), .val (.ref s0), .val (.int p2), .val (.ref o0), .val (.int (61 : Int32)), .val (.int (1 : Int32)), .val (.int (1 : Int32)), .val (.int (0 : Int32))]) rfl ?_
            refine XS.aload X174.here hx rfl (hb hby at_159) rfl rfl ?_
            show Steps _ _ _ (T174.setTop (mkF m 161 #[.val (.int p1), .val (.int p2), .val (.int p3), .val (.ref b101), .val (.ref s0), .val (.int p2), .val (.ref o0), .val (.int (61 : Int32)), .val (.int (1 : Int32)), .val (.int (1 : Int32)), .val (.int (0 : Int32))] [(.ref s0)])) _
            refine XS.iload X174.here hx rfl (hb hby at_161) rfl ?_
            refine st175.trans ?_
            refine XS.iload X175.here hx rfl (hb hby at_166) rfl ?_
            refine XS.icmpNo X175.here hx rfl (hb hby at_168) rfl (teq (by unfold own_h0; exact if_neg (by omega))).2 ?_
            show Steps _ _ _ (T175.setTop (mkF m 171 #[.val (.int p1), .val (.int p2), .val (.int p3), .val (.ref b101), .val (.ref s0), .val (.int p2), .val (.ref o0), .val (.int (61 : Int32)), .val (.int (1 : Int32)), .val (.int (1 : Int32)), .val (.int (0 : Int32))] [])) _
            refine XS.iconst X175.here hx rfl (hb hby at_171) ?_
            refine XS.goto X175.here hx rfl (pc0 := 172) (pc' := 176) rfl (hb hby at_172) (by decide) (by decide) ?_
            show Steps _ _ _ (T175.setTop (mkF m 176 #[.val (.int p1), .val (.int p2), .val (.int p3), .val (.ref b101), .val (.ref s0), .val (.int p2), .val (.ref o0), .val (.int (61 : Int32)), .val (.int (1 : Int32)), .val (.int (1 : Int32)), .val (.int (0 : Int32))] [(.int (1 : Int32))])) _
            exact retN X175 hx (t := .boolean) Bd.returns (by simp) (hb hby at_176) hr
          · show Qown_law Z p1 p2 p3 s0 o0 v0 s1 o1 v1 s2 o2 v2 s3 o3 v3 s4 o4 v4 s5 o5 v5 kc0 kc1 kc2 kc3 kc4 kc5 cs fv h0 n0 _ T175.heap _
            rw [e175]
            exact ⟨rfl, N175⟩
        · skip
          have ihc87_171 := (mt (own_eq (b := (0 : Int32)) (k := 0) rfl).mpr hc87_171)
          obtain ⟨_, _, ⟨T176, L176, k176, n176⟩, -, X176, ⟨Lc176, hQ176, l176, y176, z176⟩, st176⟩ := Jvm.LawKit.callS X163 hx (y := own_m7) hown (mvT hZ (own_w24 hw)) (mvT hZ (own_w25 hw)) (mvT hZ (own_w26 hw)) (mvT hZ (own_w27 hw)) (by decide) (backOf (W := 0) (own_hasNEG l Z a0 hw [] o0 v0 kc0 cs fv h131 n0 Z131 c137 c132 hcs c133 hfv) hZ (own_w27 hw) (own_w26 hw) (by decide) (by decide)) (g := (mkF m 105 #[.val (.int p1), .val (.int p2), .val (.int p3), .val (.ref b101), .val (.ref s0), .val (.int p2), .val (.ref o0), .val (.int (62 : Int32)), .unset, .unset, .unset] [(.int (62 : Int32)), (.ref o0)])) rfl (by rw [hml]; rfl) (argsL := [(.ref o0), (.int (62 : Int32))]) (rest := []) (lenOf own_pd8 rfl) rfl (by show 2 * 0 + _ ≤ _; exact Nat.le_of_eq rfl) (hb hby at_105) (fun _ _ => ⟨rfl, e163, (by decide : 1 + 0 ≤ _), (by decide : 6 + 0 ≤ _)⟩)
          dsimp only [Pt.U, Pt.locs, Pt.cells, Pt.slots] at X176 l176 y176 z176 st176 hQ176
          subst l176 y176 z176
          obtain ⟨rfl, N176q, e176⟩ := hQ176
          have N176 := Fr.app N163 N176q
          obtain ⟨cq177, kq177, q177a, q177b, q177c⟩ := isOf hZ e176 c137.1
          obtain ⟨_, _, ⟨T177, L177, k177, n177⟩, -, X177, ⟨Lc177, hQ177, l177, y177, z177⟩, st177⟩ := X176.virtualBack hx (y := own_m6) (z := own_m6) hown (mvT hZ (own_w28 hw)) (mvT hZ (own_w29 hw)) (notFace_of_selects (args := #[]) (mvT hZ (own_w31 hw))) (mvT hZ (own_w31 hw)) (mvT hZ (own_w30 hw)) (by decide) (backOf (W := 0) (own_lenNE l Z a0 hw [] o0 v0 kc0 cs fv h131 n0 Z131 c137 c132 hcs c133 hfv) hZ (own_w33 hw) (own_w32 hw) (by decide) (by decide)) q177a q177c (g := (mkF m 112 #[.val (.int p1), .val (.int p2), .val (.int p3), .val (.ref b101), .val (.ref s0), .val (.int p2), .val (.ref o0), .val (.int (62 : Int32)), .val (.int (0 : Int32)), .unset, .unset] [(.ref o0)])) rfl (by rw [hml]; rfl) (Steps.refl _) (argsL := []) (rest := []) (lenOf own_pd5 rfl) rfl (by show 2 * 0 + _ ≤ _; exact Nat.le_of_eq rfl) (hb hby at_112) (fun _ _ => ⟨rfl, e176, (by decide : 1 + 0 ≤ _), (by decide : 6 + 0 ≤ _)⟩)
          dsimp only [Pt.U, Pt.locs, Pt.cells, Pt.slots] at X177 l177 y177 z177 st177 hQ177
          subst l177 y177 z177
          obtain ⟨rfl, N177q, e177⟩ := hQ177
          have N177 := Fr.app N176 N177q
          obtain ⟨cq178, kq178, q178a, q178b, q178c⟩ := isOf hZ e177 c137.1
          obtain ⟨_, _, ⟨T178, L178, k178, n178⟩, -, X178, ⟨Lc178, hQ178, l178, y178, z178⟩, st178⟩ := X177.virtualBack hx (y := own_m5) (z := own_m5) hown (mvT hZ (own_w44 hw)) (mvT hZ (own_w45 hw)) (notFace_of_selects (args := #[]) (mvT hZ (own_w47 hw))) (mvT hZ (own_w47 hw)) (mvT hZ (own_w46 hw)) (by decide) (backOf (W := 0) (own_caNE0 l Z a0 hw [] o0 v0 kc0 cs fv h131 n0 Z131 c137 c132 hcs c133 hfv) hZ (own_w48 hw) (own_w32 hw) (by decide) (by decide)) q178a q178c (g := (mkF m 122 #[.val (.int p1), .val (.int p2), .val (.int p3), .val (.ref b101), .val (.ref s0), .val (.int p2), .val (.ref o0), .val (.int (62 : Int32)), .val (.int (0 : Int32)), .unset, .unset] [(.int (0 : Int32)), (.ref o0)])) rfl (by rw [hml]; rfl) (Steps.refl _) (argsL := [(.int (0 : Int32))]) (rest := []) (lenOf own_pd6 rfl) rfl (by show 2 * 0 + _ ≤ _; exact Nat.le_of_eq rfl) (hb hby at_122) (fun _ _ => ⟨rfl, e177, (by decide : 1 + 0 ≤ _), (by decide : 6 + 0 ≤ _)⟩)
          dsimp only [Pt.U, Pt.locs, Pt.cells, Pt.slots] at X178 l178 y178 z178 st178 hQ178
          subst l178 y178 z178
          obtain ⟨rfl, N178q, e178⟩ := hQ178
          have N178 := Fr.app N177 N178q
          obtain ⟨cq179, kq179, q179a, q179b, q179c⟩ := isOf hZ e178 c134
          obtain ⟨_, _, ⟨T179, L179, k179, n179⟩, -, X179, ⟨Lc179, hQ179, l179, y179, z179⟩, st179⟩ := X178.virtualBack hx (y := own_m10) (z := own_m10) hown (mvT hZ (own_w66 hw)) (mvT hZ (own_w67 hw)) (notFace_of_selects (args := #[]) (mvT hZ (own_w69 hw))) (mvT hZ (own_w69 hw)) (mvT hZ (own_w68 hw)) (by decide) (backOf (W := 0) (own_holds0 l Z a0 hw [] s0 p2 h131 n0 Z131 c134 c135) hZ (own_w70 hw) (own_w3 hw) (by decide) (by decide)) q179a q179c (g := (mkF m 163 #[.val (.int p1), .val (.int p2), .val (.int p3), .val (.ref b101), .val (.ref s0), .val (.int p2), .val (.ref o0), .val (.int (62 : Int32)), .val (.int (0 : Int32)), .val (.int (1 : Int32)), .val (.int (1 : Int32))] [(.int p2), (.ref s0)])) rfl (by rw [hml]; rfl) (Steps.refl _) (argsL := [(.int p2)]) (rest := []) (lenOf own_pd9 rfl) rfl (by show 2 * 0 + _ ≤ _; exact Nat.le_of_eq rfl) (hb hby at_163) (fun _ _ => ⟨rfl, e178, (by decide : 1 + 0 ≤ _), (by decide : 6 + 0 ≤ _)⟩)
          dsimp only [Pt.U, Pt.locs, Pt.cells, Pt.slots] at X179 l179 y179 z179 st179 hQ179
          subst l179 y179 z179
          obtain ⟨rfl, N179q, e179⟩ := hQ179
          have N179 := Fr.app N178 N179q
          obtain ⟨fs, hr, hrun, hended, hW, hsame⟩ := X179.leave (v := some (.int (1 : Int32))) (fun h => by rw [Bd.returns] at h; cases h)
          refine ⟨_, _, pre170 _ ?_, hrun, hended, _, _, rfl, ?_, ⟨_, rfl⟩, hW, hsame.mono (by decide) (by decide)⟩
          · show Steps _ _ _ (T163.setTop (mkF m 87 #[.val (.int p1), .val (.int p2), .val (.int p3), .val (.ref b101), .val (.ref s0), .val (.int p2), .val (.ref o0), .unset, .unset, .unset, .unset] [(.int p2)])) _
            refine XS.ifYes X163.here hx rfl (pc0 := 87) (pc' := 97) rfl (hb hby at_87) rfl ((if0 _ _).trans (feq hc87_171).2) (by decide) (by decide) ?_
            refine XS.bipush X163.here hx rfl (hb hby at_97) ?_
            refine XS.istore X163.here hx rfl (hb hby at_99) rfl (l' := #[.val (.int p1), .val (.int p2), .val (.int p3), .val (.ref b101), .val (.ref s0), .val (.int p2), .val (.ref o0), .val (.int (62 : Int32)), .unset, .unset, .unset]) rfl ?_
            refine XS.aload X163.here hx rfl (hb hby at_101) rfl rfl ?_
            show Steps _ _ _ (T163.setTop (mkF m 103 #[.val (.int p1), .val (.int p2), .val (.int p3), .val (.ref b101), .val (.ref s0), .val (.int p2), .val (.ref o0), .val (.int (62 : Int32)), .unset, .unset, .unset] [(.ref o0)])) _
            refine XS.iload X163.here hx rfl (hb hby at_103) rfl ?_
            refine st176 _ ?_
            refine XS.istore X176.here hx rfl (hb hby at_108) rfl (l' := #[.val (.int p1), .val (.int p2), .val (.int p3), .val (.ref b101), .val (.ref s0), .val (.int p2), .val (.ref o0), .val (.int (62 : Int32)), .val (.int (0 : Int32)), .unset, .unset]) rfl ?_
            refine XS.aload X176.here hx rfl (hb hby at_110) rfl rfl ?_
            show Steps _ _ _ (T176.setTop (mkF m 112 #[.val (.int p1), .val (.int p2), .val (.int p3), .val (.ref b101), .val (.ref s0), .val (.int p2), .val (.ref o0), .val (.int (62 : Int32)), .val (.int (0 : Int32)), .unset, .unset] [(.ref o0)])) _
            refine st177.trans ?_
            refine XS.iconst X177.here hx rfl (hb hby at_115) ?_
            refine XS.icmpNo X177.here hx rfl (hb hby at_116) rfl (flt (by decide : ¬ ((2 : Int32) < (1 : Int32)))).1 ?_
            refine XS.aload X177.here hx rfl (hb hby at_119) rfl rfl ?_
            show Steps _ _ _ (T177.setTop (mkF m 121 #[.val (.int p1), .val (.int p2), .val (.int p3), .val (.ref b101), .val (.ref s0), .val (.int p2), .val (.ref o0), .val (.int (62 : Int32)), .val (.int (0 : Int32)), .unset, .unset] [(.ref o0)])) _
            refine XS.iconst X177.here hx rfl (hb hby at_121) ?_
            refine st178.trans ?_
            refine XS.bipush X178.here hx rfl (hb hby at_125) ?_
            refine XS.icmpNo X178.here hx rfl (hb hby at_127) rfl (teq (by decide : (33 : Int32) = (33 : Int32))).2 ?_
            show Steps _ _ _ (T178.setTop (mkF m 130 #[.val (.int p1), .val (.int p2), .val (.int p3), .val (.ref b101), .val (.ref s0), .val (.int p2), .val (.ref o0), .val (.int (62 : Int32)), .val (.int (0 : Int32)), .unset, .unset] [])) _
            refine XS.iconst X178.here hx rfl (hb hby at_130) ?_
            refine XS.goto X178.here hx rfl (pc0 := 131) (pc' := 135) rfl (hb hby at_131) (by decide) (by decide) ?_
            refine XS.istore X178.here hx rfl (hb hby at_135) rfl (l' := #[.val (.int p1), .val (.int p2), .val (.int p3), .val (.ref b101), .val (.ref s0), .val (.int p2), .val (.ref o0), .val (.int (62 : Int32)), .val (.int (0 : Int32)), .val (.int (1 : Int32)), .unset]) rfl ?_
            refine XS.iload X178.here hx rfl (hb hby at_137) rfl ?_
            show Steps _ _ _ (T178.setTop (mkF m 139 #[.val (.int p1), .val (.int p2), .val (.int p3), .val (.ref b101), .val (.ref s0), .val (.int p2), .val (.ref o0), .val (.int (62 : Int32)), .val (.int (0 : Int32)), .val (.int (1 : Int32)), .unset] [(.int (1 : Int32))])) _
            refine XS.ifNo X178.here hx rfl (hb hby at_139) rfl ((if0 _ _).trans (feq (by decide : ¬ ((1 : Int32) = (0 : Int32)))).1) ?_
            refine XS.iload X178.here hx rfl (hb hby at_142) rfl ?_
            refine XS.ifNo X178.here hx rfl (hb hby at_144) rfl ((if0 _ _).trans (teq (by decide : (0 : Int32) = (0 : Int32))).2) ?_
            refine XS.iconst X178.here hx rfl (hb hby at_147) ?_
            show Steps _ _ _ (T178.setTop (mkF m 148 #[.val (.int p1), .val (.int p2), .val (.int p3), .val (.ref b101), .val (.ref s0), .val (.int p2), .val (.ref o0), .val (.int (62 : Int32)), .val (.int (0 : Int32)), .val (.int (1 : Int32)), .unset] [(.int (1 : Int32))])) _
            refine XS.goto X178.here hx rfl (pc0 := 148) (pc' := 157) rfl (hb hby at_148) (by decide) (by decide) ?_
            refine XS.istore X178.here hx rfl (hb hby at_157) rfl (l' := #[.val (.int p1), .val (.int p2), .val (.int p3), .val (.ref b101), .val (.ref s0), .val (.int p2), .val (.ref o0), .val (.int (62 : Int32)), .val (.int (0 : Int32)), .val (.int (1 : Int32)), .val (.int (1 : Int32))]) rfl ?_
            refine XS.aload X178.here hx rfl (hb hby at_159) rfl rfl ?_
            refine XS.iload X178.here hx rfl (hb hby at_161) rfl ?_
            show Steps _ _ _ (T178.setTop (mkF m 163 #[.val (.int p1), .val (.int p2), .val (.int p3), .val (.ref b101), .val (.ref s0), .val (.int p2), .val (.ref o0), .val (.int (62 : Int32)), .val (.int (0 : Int32)), .val (.int (1 : Int32)), .val (.int (1 : Int32))] [(.int p2), (.ref s0)])) _
            refine st179.trans ?_
            refine XS.iload X179.here hx rfl (hb hby at_166) rfl ?_
            refine XS.icmpNo X179.here hx rfl (hb hby at_168) rfl (teq (by unfold own_h0; exact if_pos (by omega))).2 ?_
            refine XS.iconst X179.here hx rfl (hb hby at_171) ?_
            show Steps _ _ _ (T179.setTop (mkF m 172 #[.val (.int p1), .val (.int p2), .val (.int p3), .val (.ref b101), .val (.ref s0), .val (.int p2), .val (.ref o0), .val (.int (62 : Int32)), .val (.int (0 : Int32)), .val (.int (1 : Int32)), .val (.int (1 : Int32))] [(.int (1 : Int32))])) _
            refine XS.goto X179.here hx rfl (pc0 := 172) (pc' := 176) rfl (hb hby at_172) (by decide) (by decide) ?_
            show Steps _ _ _ (T179.setTop (mkF m 176 #[.val (.int p1), .val (.int p2), .val (.int p3), .val (.ref b101), .val (.ref s0), .val (.int p2), .val (.ref o0), .val (.int (62 : Int32)), .val (.int (0 : Int32)), .val (.int (1 : Int32)), .val (.int (1 : Int32))] [(.int (1 : Int32))])) _
            exact retN X179 hx (t := .boolean) Bd.returns (by simp) (hb hby at_176) hr
          · show Qown_law Z p1 p2 p3 s0 o0 v0 s1 o1 v1 s2 o2 v2 s3 o3 v3 s4 o4 v4 s5 o5 v5 kc0 kc1 kc2 kc3 kc4 kc5 cs fv h0 n0 _ T179.heap _
            rw [e179]
            exact ⟨rfl, N179⟩
    · skip
      have ihc56_162 := (mt (own_eq (b := (0 : Int32)) (k := 0) rfl).mpr hc56_162)
      obtain ⟨cq180, kq180, q180a, q180b, q180c⟩ := isOf hZ e131 c134
      obtain ⟨_, _, ⟨T180, L180, k180, n180⟩, -, X180, ⟨Lc180, hQ180, l180, y180, z180⟩, st180⟩ := X131.virtualBack hx (y := own_m8) (z := own_m8) hown (mvT hZ (own_w17 hw)) (mvT hZ (own_w18 hw)) (notFace_of_selects (args := #[]) (mvT hZ (own_w20 hw))) (mvT hZ (own_w20 hw)) (mvT hZ (own_w19 hw)) (by decide) (backOf (W := 0) (own_op l Z a0 hw [] s0 o0 h131 n0 Z131 c136) hZ (own_w21 hw) (own_w3 hw) (by decide) (by decide)) q180a q180c (g := (mkF m 68 #[.val (.int p1), .val (.int p2), .val (.int p3), .val (.ref b101), .val (.ref s0), .val (.int (0 : Int32)), .unset, .unset, .unset, .unset, .unset] [(.ref s0)])) rfl (by rw [hml]; rfl) (Steps.refl _) (argsL := []) (rest := []) (lenOf own_pd7 rfl) rfl (by show 2 * 0 + _ ≤ _; exact Nat.le_of_eq rfl) (hb hby at_68) (fun _ _ => ⟨rfl, e131, (by decide : 1 + 0 ≤ _), (by decide : 6 + 0 ≤ _)⟩)
      dsimp only [Pt.U, Pt.locs, Pt.cells, Pt.slots] at X180 l180 y180 z180 st180 hQ180
      subst l180 y180 z180
      obtain ⟨rfl, N180q, e180⟩ := hQ180
      have N180 := Fr.app N131 N180q
      obtain ⟨_, _, ⟨T181, L181, k181, n181⟩, -, X181, ⟨Lc181, hQ181, l181, y181, z181⟩, st181⟩ := Jvm.LawKit.callS X180 hx (y := own_m7) hown (mvT hZ (own_w24 hw)) (mvT hZ (own_w25 hw)) (mvT hZ (own_w26 hw)) (mvT hZ (own_w27 hw)) (by decide) (backOf (W := 0) (own_hasNEE l Z a0 hw [] o0 v0 kc0 cs fv h131 n0 Z131 c137 c132 hcs c133 hfv) hZ (own_w27 hw) (own_w26 hw) (by decide) (by decide)) (g := (mkF m 105 #[.val (.int p1), .val (.int p2), .val (.int p3), .val (.ref b101), .val (.ref s0), .val (.int (0 : Int32)), .val (.ref o0), .val (.int (61 : Int32)), .unset, .unset, .unset] [(.int (61 : Int32)), (.ref o0)])) rfl (by rw [hml]; rfl) (argsL := [(.ref o0), (.int (61 : Int32))]) (rest := []) (lenOf own_pd8 rfl) rfl (by show 2 * 0 + _ ≤ _; exact Nat.le_of_eq rfl) (hb hby at_105) (fun _ _ => ⟨rfl, e180, (by decide : 1 + 0 ≤ _), (by decide : 6 + 0 ≤ _)⟩)
      dsimp only [Pt.U, Pt.locs, Pt.cells, Pt.slots] at X181 l181 y181 z181 st181 hQ181
      subst l181 y181 z181
      obtain ⟨rfl, N181q, e181⟩ := hQ181
      have N181 := Fr.app N180 N181q
      obtain ⟨cq182, kq182, q182a, q182b, q182c⟩ := isOf hZ e181 c137.1
      obtain ⟨_, _, ⟨T182, L182, k182, n182⟩, -, X182, ⟨Lc182, hQ182, l182, y182, z182⟩, st182⟩ := X181.virtualBack hx (y := own_m6) (z := own_m6) hown (mvT hZ (own_w28 hw)) (mvT hZ (own_w29 hw)) (notFace_of_selects (args := #[]) (mvT hZ (own_w31 hw))) (mvT hZ (own_w31 hw)) (mvT hZ (own_w30 hw)) (by decide) (backOf (W := 0) (own_lenNE l Z a0 hw [] o0 v0 kc0 cs fv h131 n0 Z131 c137 c132 hcs c133 hfv) hZ (own_w33 hw) (own_w32 hw) (by decide) (by decide)) q182a q182c (g := (mkF m 112 #[.val (.int p1), .val (.int p2), .val (.int p3), .val (.ref b101), .val (.ref s0), .val (.int (0 : Int32)), .val (.ref o0), .val (.int (61 : Int32)), .val (.int (1 : Int32)), .unset, .unset] [(.ref o0)])) rfl (by rw [hml]; rfl) (Steps.refl _) (argsL := []) (rest := []) (lenOf own_pd5 rfl) rfl (by show 2 * 0 + _ ≤ _; exact Nat.le_of_eq rfl) (hb hby at_112) (fun _ _ => ⟨rfl, e181, (by decide : 1 + 0 ≤ _), (by decide : 6 + 0 ≤ _)⟩)
      dsimp only [Pt.U, Pt.locs, Pt.cells, Pt.slots] at X182 l182 y182 z182 st182 hQ182
      subst l182 y182 z182
      obtain ⟨rfl, N182q, e182⟩ := hQ182
      have N182 := Fr.app N181 N182q
      obtain ⟨cq183, kq183, q183a, q183b, q183c⟩ := isOf hZ e182 c137.1
      obtain ⟨_, _, ⟨T183, L183, k183, n183⟩, -, X183, ⟨Lc183, hQ183, l183, y183, z183⟩, st183⟩ := X182.virtualBack hx (y := own_m5) (z := own_m5) hown (mvT hZ (own_w44 hw)) (mvT hZ (own_w45 hw)) (notFace_of_selects (args := #[]) (mvT hZ (own_w47 hw))) (mvT hZ (own_w47 hw)) (mvT hZ (own_w46 hw)) (by decide) (backOf (W := 0) (own_caNE0 l Z a0 hw [] o0 v0 kc0 cs fv h131 n0 Z131 c137 c132 hcs c133 hfv) hZ (own_w48 hw) (own_w32 hw) (by decide) (by decide)) q183a q183c (g := (mkF m 122 #[.val (.int p1), .val (.int p2), .val (.int p3), .val (.ref b101), .val (.ref s0), .val (.int (0 : Int32)), .val (.ref o0), .val (.int (61 : Int32)), .val (.int (1 : Int32)), .unset, .unset] [(.int (0 : Int32)), (.ref o0)])) rfl (by rw [hml]; rfl) (Steps.refl _) (argsL := [(.int (0 : Int32))]) (rest := []) (lenOf own_pd6 rfl) rfl (by show 2 * 0 + _ ≤ _; exact Nat.le_of_eq rfl) (hb hby at_122) (fun _ _ => ⟨rfl, e182, (by decide : 1 + 0 ≤ _), (by decide : 6 + 0 ≤ _)⟩)
      dsimp only [Pt.U, Pt.locs, Pt.cells, Pt.slots] at X183 l183 y183 z183 st183 hQ183
      subst l183 y183 z183
      obtain ⟨rfl, N183q, e183⟩ := hQ183
      have N183 := Fr.app N182 N183q
      obtain ⟨cq184, kq184, q184a, q184b, q184c⟩ := isOf hZ e183 c134
      obtain ⟨_, _, ⟨T184, L184, k184, n184⟩, -, X184, ⟨Lc184, hQ184, l184, y184, z184⟩, st184⟩ := X183.virtualBack hx (y := own_m10) (z := own_m10) hown (mvT hZ (own_w66 hw)) (mvT hZ (own_w67 hw)) (notFace_of_selects (args := #[]) (mvT hZ (own_w69 hw))) (mvT hZ (own_w69 hw)) (mvT hZ (own_w68 hw)) (by decide) (backOf (W := 0) (own_holds0 l Z a0 hw [] s0 (0 : Int32) h131 n0 Z131 c134 c135) hZ (own_w70 hw) (own_w3 hw) (by decide) (by decide)) q184a q184c (g := (mkF m 163 #[.val (.int p1), .val (.int p2), .val (.int p3), .val (.ref b101), .val (.ref s0), .val (.int (0 : Int32)), .val (.ref o0), .val (.int (61 : Int32)), .val (.int (1 : Int32)), .val (.int (1 : Int32)), .val (.int (0 : Int32))] [(.int (0 : Int32)), (.ref s0)])) rfl (by rw [hml]; rfl) (Steps.refl _) (argsL := [(.int (0 : Int32))]) (rest := []) (lenOf own_pd9 rfl) rfl (by show 2 * 0 + _ ≤ _; exact Nat.le_of_eq rfl) (hb hby at_163) (fun _ _ => ⟨rfl, e183, (by decide : 1 + 0 ≤ _), (by decide : 6 + 0 ≤ _)⟩)
      dsimp only [Pt.U, Pt.locs, Pt.cells, Pt.slots] at X184 l184 y184 z184 st184 hQ184
      subst l184 y184 z184
      obtain ⟨rfl, N184q, e184⟩ := hQ184
      have N184 := Fr.app N183 N184q
      obtain ⟨fs, hr, hrun, hended, hW, hsame⟩ := X184.leave (v := some (.int (1 : Int32))) (fun h => by rw [Bd.returns] at h; cases h)
      refine ⟨_, _, pre161 _ ?_, hrun, hended, _, _, rfl, ?_, ⟨_, rfl⟩, hW, hsame.mono (by decide) (by decide)⟩
      · show Steps _ _ _ (T131.setTop (mkF m 56 #[.val (.int p1), .val (.int p2), .val (.int p3), .val (.ref b101), .val (.ref s0), .unset, .unset, .unset, .unset, .unset, .unset] [(.int (p3 &&& (1 : Int32)))])) _
        refine XS.ifNo X131.here hx rfl (hb hby at_56) rfl ((if0 _ _).trans (feq hc56_162).1) ?_
        refine XS.iconst X131.here hx rfl (hb hby at_59) ?_
        refine XS.goto X131.here hx rfl (pc0 := 60) (pc' := 64) rfl (hb hby at_60) (by decide) (by decide) ?_
        refine XS.istore X131.here hx rfl (hb hby at_64) rfl (l' := #[.val (.int p1), .val (.int p2), .val (.int p3), .val (.ref b101), .val (.ref s0), .val (.int (0 : Int32)), .unset, .unset, .unset, .unset, .unset]) rfl ?_
        show Steps _ _ _ (T131.setTop (mkF m 66 #[.val (.int p1), .val (.int p2), .val (.int p3), .val (.ref b101), .val (.ref s0), .val (.int (0 : Int32)), .unset, .unset, .unset, .unset, .unset] [])) _
        refine XS.aload X131.here hx rfl (hb hby at_66) rfl rfl ?_
        refine st180.trans ?_
        refine XS.astore X180.here hx rfl (hb hby at_71) rfl rfl (l' := #[.val (.int p1), .val (.int p2), .val (.int p3), .val (.ref b101), .val (.ref s0), .val (.int (0 : Int32)), .val (.ref o0), .unset, .unset, .unset, .unset]) rfl ?_
        refine XS.iload X180.here hx rfl (hb hby at_73) rfl ?_
        show Steps _ _ _ (T180.setTop (mkF m 75 #[.val (.int p1), .val (.int p2), .val (.int p3), .val (.ref b101), .val (.ref s0), .val (.int (0 : Int32)), .val (.ref o0), .unset, .unset, .unset, .unset] [(.int (0 : Int32))])) _
        refine XS.ifYes X180.here hx rfl (pc0 := 75) (pc' := 85) rfl (hb hby at_75) rfl ((if0 _ _).trans (flt (by decide : ¬ ((0 : Int32) < (0 : Int32)))).2.1) (by decide) (by decide) ?_
        refine XS.iload X180.here hx rfl (hb hby at_85) rfl ?_
        refine XS.ifNo X180.here hx rfl (hb hby at_87) rfl ((if0 _ _).trans (teq (by decide : (0 : Int32) = (0 : Int32))).2) ?_
        refine XS.bipush X180.here hx rfl (hb hby at_90) ?_
        show Steps _ _ _ (T180.setTop (mkF m 92 #[.val (.int p1), .val (.int p2), .val (.int p3), .val (.ref b101), .val (.ref s0), .val (.int (0 : Int32)), .val (.ref o0), .unset, .unset, .unset, .unset] [(.int (61 : Int32))])) _
        refine XS.istore X180.here hx rfl (hb hby at_92) rfl (l' := #[.val (.int p1), .val (.int p2), .val (.int p3), .val (.ref b101), .val (.ref s0), .val (.int (0 : Int32)), .val (.ref o0), .val (.int (61 : Int32)), .unset, .unset, .unset]) rfl ?_
        refine XS.goto X180.here hx rfl (pc0 := 94) (pc' := 101) rfl (hb hby at_94) (by decide) (by decide) ?_
        refine XS.aload X180.here hx rfl (hb hby at_101) rfl rfl ?_
        refine XS.iload X180.here hx rfl (hb hby at_103) rfl ?_
        show Steps _ _ _ (T180.setTop (mkF m 105 #[.val (.int p1), .val (.int p2), .val (.int p3), .val (.ref b101), .val (.ref s0), .val (.int (0 : Int32)), .val (.ref o0), .val (.int (61 : Int32)), .unset, .unset, .unset] [(.int (61 : Int32)), (.ref o0)])) _
        refine st181 _ ?_
        refine XS.istore X181.here hx rfl (hb hby at_108) rfl (l' := #[.val (.int p1), .val (.int p2), .val (.int p3), .val (.ref b101), .val (.ref s0), .val (.int (0 : Int32)), .val (.ref o0), .val (.int (61 : Int32)), .val (.int (1 : Int32)), .unset, .unset]) rfl ?_
        refine XS.aload X181.here hx rfl (hb hby at_110) rfl rfl ?_
        refine st182.trans ?_
        show Steps _ _ _ (T182.setTop (mkF m 115 #[.val (.int p1), .val (.int p2), .val (.int p3), .val (.ref b101), .val (.ref s0), .val (.int (0 : Int32)), .val (.ref o0), .val (.int (61 : Int32)), .val (.int (1 : Int32)), .unset, .unset] [(.int (2 : Int32))])) _
        refine XS.iconst X182.here hx rfl (hb hby at_115) ?_
        refine XS.icmpNo X182.here hx rfl (hb hby at_116) rfl (flt (by decide : ¬ ((2 : Int32) < (1 : Int32)))).1 ?_
        refine XS.aload X182.here hx rfl (hb hby at_119) rfl rfl ?_
        refine XS.iconst X182.here hx rfl (hb hby at_121) ?_
        show Steps _ _ _ (T182.setTop (mkF m 122 #[.val (.int p1), .val (.int p2), .val (.int p3), .val (.ref b101), .val (.ref s0), .val (.int (0 : Int32)), .val (.ref o0), .val (.int (61 : Int32)), .val (.int (1 : Int32)), .unset, .unset] [(.int (0 : Int32)), (.ref o0)])) _
        refine st183.trans ?_
        refine XS.bipush X183.here hx rfl (hb hby at_125) ?_
        refine XS.icmpNo X183.here hx rfl (hb hby at_127) rfl (teq (by decide : (33 : Int32) = (33 : Int32))).2 ?_
        refine XS.iconst X183.here hx rfl (hb hby at_130) ?_
        show Steps _ _ _ (T183.setTop (mkF m 131 #[.val (.int p1), .val (.int p2), .val (.int p3), .val (.ref b101), .val (.ref s0), .val (.int (0 : Int32)), .val (.ref o0), .val (.int (61 : Int32)), .val (.int (1 : Int32)), .unset, .unset] [(.int (1 : Int32))])) _
        refine XS.goto X183.here hx rfl (pc0 := 131) (pc' := 135) rfl (hb hby at_131) (by decide) (by decide) ?_
        refine XS.istore X183.here hx rfl (hb hby at_135) rfl (l' := #[.val (.int p1), .val (.int p2), .val (.int p3), .val (.ref b101), .val (.ref s0), .val (.int (0 : Int32)), .val (.ref o0), .val (.int (61 : Int32)), .val (.int (1 : Int32)), .val (.int (1 : Int32)), .unset]) rfl ?_
        refine XS.iload X183.here hx rfl (hb hby at_137) rfl ?_
        refine XS.ifNo X183.here hx rfl (hb hby at_139) rfl ((if0 _ _).trans (feq (by decide : ¬ ((1 : Int32) = (0 : Int32)))).1) ?_
        show Steps _ _ _ (T183.setTop (mkF m 142 #[.val (.int p1), .val (.int p2), .val (.int p3), .val (.ref b101), .val (.ref s0), .val (.int (0 : Int32)), .val (.ref o0), .val (.int (61 : Int32)), .val (.int (1 : Int32)), .val (.int (1 : Int32)), .unset] [])) _
        refine XS.iload X183.here hx rfl (hb hby at_142) rfl ?_
        refine XS.ifYes X183.here hx rfl (pc0 := 144) (pc' := 151) rfl (hb hby at_144) rfl ((if0 _ _).trans (feq (by decide : ¬ ((1 : Int32) = (0 : Int32)))).2) (by decide) (by decide) ?_
        refine XS.iconst X183.here hx rfl (hb hby at_151) ?_
        refine XS.goto X183.here hx rfl (pc0 := 152) (pc' := 157) rfl (hb hby at_152) (by decide) (by decide) ?_
        show Steps _ _ _ (T183.setTop (mkF m 157 #[.val (.int p1), .val (.int p2), .val (.int p3), .val (.ref b101), .val (.ref s0), .val (.int (0 : Int32)), .val (.ref o0), .val (.int (61 : Int32)), .val (.int (1 : Int32)), .val (.int (1 : Int32)), .unset] [(.int (0 : Int32))])) _
        refine XS.istore X183.here hx rfl (hb hby at_157) rfl (l' := #[.val (.int p1), .val (.int p2), .val (.int p3), .val (.ref b101), .val (.ref s0), .val (.int (0 : Int32)), .val (.ref o0), .val (.int (61 : Int32)), .val (.int (1 : Int32)), .val (.int (1 : Int32)), .val (.int (0 : Int32))]) rfl ?_
        refine XS.aload X183.here hx rfl (hb hby at_159) rfl rfl ?_
        refine XS.iload X183.here hx rfl (hb hby at_161) rfl ?_
        refine st184.trans ?_
        show Steps _ _ _ (T184.setTop (mkF m 166 #[.val (.int p1), .val (.int p2), .val (.int p3), .val (.ref b101), .val (.ref s0), .val (.int (0 : Int32)), .val (.ref o0), .val (.int (61 : Int32)), .val (.int (1 : Int32)), .val (.int (1 : Int32)), .val (.int (0 : Int32))] [(.int (own_h0 (0 : Int32)))])) _
        refine XS.iload X184.here hx rfl (hb hby at_166) rfl ?_
        refine XS.icmpNo X184.here hx rfl (hb hby at_168) rfl (teq (by decide)).2 ?_
        refine XS.iconst X184.here hx rfl (hb hby at_171) ?_
        refine XS.goto X184.here hx rfl (pc0 := 172) (pc' := 176) rfl (hb hby at_172) (by decide) (by decide) ?_
        show Steps _ _ _ (T184.setTop (mkF m 176 #[.val (.int p1), .val (.int p2), .val (.int p3), .val (.ref b101), .val (.ref s0), .val (.int (0 : Int32)), .val (.ref o0), .val (.int (61 : Int32)), .val (.int (1 : Int32)), .val (.int (1 : Int32)), .val (.int (0 : Int32))] [(.int (1 : Int32))])) _
        exact retN X184 hx (t := .boolean) Bd.returns (by simp) (hb hby at_176) hr
      · show Qown_law Z p1 p2 p3 s0 o0 v0 s1 o1 v1 s2 o2 v2 s3 o3 v3 s4 o4 v4 s5 o5 v5 kc0 kc1 kc2 kc3 kc4 kc5 cs fv h0 n0 _ T184.heap _
        rw [e184]
        exact ⟨rfl, N184⟩
  · skip
    rw [hs159] at pre158
    obtain ⟨cl185, Ar185, Aq185, As185, An185, Ah185, Ag185⟩ := id V131
    have hin185 : ¬ ((1 : Int32) < 0 ∨ cl185.slots.size ≤ ((1 : Int32)).toNatClampNeg) := inb_of As185 ⟨by decide, by decide⟩
    have pre186 : ∀ t, Steps p.tables e below (T131.setTop (mkF m 56 #[.val (.int p1), .val (.int p2), .val (.int p3), .val (.ref b101), .val (.ref s1), .unset, .unset, .unset, .unset, .unset, .unset] [(.int (p3 &&& (1 : Int32)))])) t → Steps p.tables e below (s₁.setTop (entryFrame m #[(.int p1), (.int p2), (.int p3)] maxLocals)) t := fun t kt => pre158 t (by
      show Steps _ _ _ (T131.setTop (mkF m 50 #[.val (.int p1), .val (.int p2), .val (.int p3), .val (.ref b101), .unset, .unset, .unset, .unset, .unset, .unset, .unset] [(.int (1 : Int32)), (.ref b101)])) _
      refine X131.aaload hx (j := (1 : Int32)) (v := (.ref s1)) (by rw [e131]; exact Ar185.1) (State.isArrayOf_alike hZ.alike Ar185.2.1) rfl Ar185.2.2 hin185 (Ah185.at hin185 rfl) (g := (mkF m 50 #[.val (.int p1), .val (.int p2), .val (.int p3), .val (.ref b101), .unset, .unset, .unset, .unset, .unset, .unset, .unset] [(.int (1 : Int32)), (.ref b101)])) rfl rfl (hb hby at_50) _ ?_
      refine XS.astore X131.here hx rfl (hb hby at_51) rfl rfl (l' := #[.val (.int p1), .val (.int p2), .val (.int p3), .val (.ref b101), .val (.ref s1), .unset, .unset, .unset, .unset, .unset, .unset]) rfl ?_
      refine XS.iloadN X131.here hx rfl (hb hby at_53) rfl ?_
      refine XS.iconst X131.here hx rfl (hb hby at_54) ?_
      show Steps _ _ _ (T131.setTop (mkF m 55 #[.val (.int p1), .val (.int p2), .val (.int p3), .val (.ref b101), .val (.ref s1), .unset, .unset, .unset, .unset, .unset, .unset] [(.int (1 : Int32)), (.int p3)])) _
      refine XS.iand X131.here hx rfl (hb hby at_55) rfl ?_
      exact kt)
    by_cases hc56_187 : (p3 &&& (1 : Int32)) = (0 : Int32)
    · skip
      have ihc56_187 := (own_eq (b := (0 : Int32)) (k := 0) rfl).mp hc56_187
      obtain ⟨cq188, kq188, q188a, q188b, q188c⟩ := isOf hZ e131 c138
      obtain ⟨_, _, ⟨T188, L188, k188, n188⟩, -, X188, ⟨Lc188, hQ188, l188, y188, z188⟩, st188⟩ := X131.virtualBack hx (y := own_m8) (z := own_m8) hown (mvT hZ (own_w17 hw)) (mvT hZ (own_w18 hw)) (notFace_of_selects (args := #[]) (mvT hZ (own_w20 hw))) (mvT hZ (own_w20 hw)) (mvT hZ (own_w19 hw)) (by decide) (backOf (W := 0) (own_op l Z a0 hw [] s1 o1 h131 n0 Z131 c140) hZ (own_w21 hw) (own_w3 hw) (by decide) (by decide)) q188a q188c (g := (mkF m 68 #[.val (.int p1), .val (.int p2), .val (.int p3), .val (.ref b101), .val (.ref s1), .val (.int p2), .unset, .unset, .unset, .unset, .unset] [(.ref s1)])) rfl (by rw [hml]; rfl) (Steps.refl _) (argsL := []) (rest := []) (lenOf own_pd7 rfl) rfl (by show 2 * 0 + _ ≤ _; exact Nat.le_of_eq rfl) (hb hby at_68) (fun _ _ => ⟨rfl, e131, (by decide : 1 + 0 ≤ _), (by decide : 6 + 0 ≤ _)⟩)
      dsimp only [Pt.U, Pt.locs, Pt.cells, Pt.slots] at X188 l188 y188 z188 st188 hQ188
      subst l188 y188 z188
      obtain ⟨rfl, N188q, e188⟩ := hQ188
      have N188 := Fr.app N131 N188q
      have pre189 : ∀ t, Steps p.tables e below (T188.setTop (mkF m 75 #[.val (.int p1), .val (.int p2), .val (.int p3), .val (.ref b101), .val (.ref s1), .val (.int p2), .val (.ref o1), .unset, .unset, .unset, .unset] [(.int p2)])) t → Steps p.tables e below (s₁.setTop (entryFrame m #[(.int p1), (.int p2), (.int p3)] maxLocals)) t := fun t kt => pre186 t (by
        show Steps _ _ _ (T131.setTop (mkF m 56 #[.val (.int p1), .val (.int p2), .val (.int p3), .val (.ref b101), .val (.ref s1), .unset, .unset, .unset, .unset, .unset, .unset] [(.int (p3 &&& (1 : Int32)))])) _
        refine XS.ifYes X131.here hx rfl (pc0 := 56) (pc' := 63) rfl (hb hby at_56) rfl ((if0 _ _).trans (teq hc56_187).1) (by decide) (by decide) ?_
        refine XS.iloadN X131.here hx rfl (hb hby at_63) rfl ?_
        refine XS.istore X131.here hx rfl (hb hby at_64) rfl (l' := #[.val (.int p1), .val (.int p2), .val (.int p3), .val (.ref b101), .val (.ref s1), .val (.int p2), .unset, .unset, .unset, .unset, .unset]) rfl ?_
        refine XS.aload X131.here hx rfl (hb hby at_66) rfl rfl ?_
        show Steps _ _ _ (T131.setTop (mkF m 68 #[.val (.int p1), .val (.int p2), .val (.int p3), .val (.ref b101), .val (.ref s1), .val (.int p2), .unset, .unset, .unset, .unset, .unset] [(.ref s1)])) _
        refine st188.trans ?_
        refine XS.astore X188.here hx rfl (hb hby at_71) rfl rfl (l' := #[.val (.int p1), .val (.int p2), .val (.int p3), .val (.ref b101), .val (.ref s1), .val (.int p2), .val (.ref o1), .unset, .unset, .unset, .unset]) rfl ?_
        refine XS.iload X188.here hx rfl (hb hby at_73) rfl ?_
        exact kt)
      by_cases hc75_190 : p2 < (0 : Int32)
      · skip
        have ihc75_190 := (own_lt (b := (0 : Int32)) (k := 0) rfl).mp hc75_190
        obtain ⟨_, _, ⟨T191, L191, k191, n191⟩, -, X191, ⟨Lc191, hQ191, l191, y191, z191⟩, st191⟩ := Jvm.LawKit.callS X188 hx (y := own_m7) hown (mvT hZ (own_w24 hw)) (mvT hZ (own_w25 hw)) (mvT hZ (own_w26 hw)) (mvT hZ (own_w27 hw)) (by decide) (backOf (W := 0) (own_hasLEL l Z a0 hw [] o1 v1 kc1 cs fv h131 n0 Z131 c141 c132 hcs c133 hfv) hZ (own_w27 hw) (own_w26 hw) (by decide) (by decide)) (g := (mkF m 105 #[.val (.int p1), .val (.int p2), .val (.int p3), .val (.ref b101), .val (.ref s1), .val (.int p2), .val (.ref o1), .val (.int (60 : Int32)), .unset, .unset, .unset] [(.int (60 : Int32)), (.ref o1)])) rfl (by rw [hml]; rfl) (argsL := [(.ref o1), (.int (60 : Int32))]) (rest := []) (lenOf own_pd8 rfl) rfl (by show 2 * 0 + _ ≤ _; exact Nat.le_of_eq rfl) (hb hby at_105) (fun _ _ => ⟨rfl, e188, (by decide : 1 + 0 ≤ _), (by decide : 6 + 0 ≤ _)⟩)
        dsimp only [Pt.U, Pt.locs, Pt.cells, Pt.slots] at X191 l191 y191 z191 st191 hQ191
        subst l191 y191 z191
        obtain ⟨rfl, N191q, e191⟩ := hQ191
        have N191 := Fr.app N188 N191q
        obtain ⟨cq192, kq192, q192a, q192b, q192c⟩ := isOf hZ e191 c141.1
        obtain ⟨_, _, ⟨T192, L192, k192, n192⟩, -, X192, ⟨Lc192, hQ192, l192, y192, z192⟩, st192⟩ := X191.virtualBack hx (y := own_m6) (z := own_m6) hown (mvT hZ (own_w28 hw)) (mvT hZ (own_w29 hw)) (notFace_of_selects (args := #[]) (mvT hZ (own_w31 hw))) (mvT hZ (own_w31 hw)) (mvT hZ (own_w30 hw)) (by decide) (backOf (W := 0) (own_lenLE l Z a0 hw [] o1 v1 kc1 cs fv h131 n0 Z131 c141 c132 hcs c133 hfv) hZ (own_w33 hw) (own_w32 hw) (by decide) (by decide)) q192a q192c (g := (mkF m 112 #[.val (.int p1), .val (.int p2), .val (.int p3), .val (.ref b101), .val (.ref s1), .val (.int p2), .val (.ref o1), .val (.int (60 : Int32)), .val (.int (1 : Int32)), .unset, .unset] [(.ref o1)])) rfl (by rw [hml]; rfl) (Steps.refl _) (argsL := []) (rest := []) (lenOf own_pd5 rfl) rfl (by show 2 * 0 + _ ≤ _; exact Nat.le_of_eq rfl) (hb hby at_112) (fun _ _ => ⟨rfl, e191, (by decide : 1 + 0 ≤ _), (by decide : 6 + 0 ≤ _)⟩)
        dsimp only [Pt.U, Pt.locs, Pt.cells, Pt.slots] at X192 l192 y192 z192 st192 hQ192
        subst l192 y192 z192
        obtain ⟨rfl, N192q, e192⟩ := hQ192
        have N192 := Fr.app N191 N192q
        obtain ⟨cq193, kq193, q193a, q193b, q193c⟩ := isOf hZ e192 c141.1
        obtain ⟨_, _, ⟨T193, L193, k193, n193⟩, -, X193, ⟨Lc193, hQ193, l193, y193, z193⟩, st193⟩ := X192.virtualBack hx (y := own_m5) (z := own_m5) hown (mvT hZ (own_w44 hw)) (mvT hZ (own_w45 hw)) (notFace_of_selects (args := #[]) (mvT hZ (own_w47 hw))) (mvT hZ (own_w47 hw)) (mvT hZ (own_w46 hw)) (by decide) (backOf (W := 0) (own_caLE0 l Z a0 hw [] o1 v1 kc1 cs fv h131 n0 Z131 c141 c132 hcs c133 hfv) hZ (own_w48 hw) (own_w32 hw) (by decide) (by decide)) q193a q193c (g := (mkF m 122 #[.val (.int p1), .val (.int p2), .val (.int p3), .val (.ref b101), .val (.ref s1), .val (.int p2), .val (.ref o1), .val (.int (60 : Int32)), .val (.int (1 : Int32)), .unset, .unset] [(.int (0 : Int32)), (.ref o1)])) rfl (by rw [hml]; rfl) (Steps.refl _) (argsL := [(.int (0 : Int32))]) (rest := []) (lenOf own_pd6 rfl) rfl (by show 2 * 0 + _ ≤ _; exact Nat.le_of_eq rfl) (hb hby at_122) (fun _ _ => ⟨rfl, e192, (by decide : 1 + 0 ≤ _), (by decide : 6 + 0 ≤ _)⟩)
        dsimp only [Pt.U, Pt.locs, Pt.cells, Pt.slots] at X193 l193 y193 z193 st193 hQ193
        subst l193 y193 z193
        obtain ⟨rfl, N193q, e193⟩ := hQ193
        have N193 := Fr.app N192 N193q
        obtain ⟨cq194, kq194, q194a, q194b, q194c⟩ := isOf hZ e193 c138
        obtain ⟨_, _, ⟨T194, L194, k194, n194⟩, -, X194, ⟨Lc194, hQ194, l194, y194, z194⟩, st194⟩ := X193.virtualBack hx (y := own_m10) (z := own_m10) hown (mvT hZ (own_w66 hw)) (mvT hZ (own_w67 hw)) (notFace_of_selects (args := #[]) (mvT hZ (own_w69 hw))) (mvT hZ (own_w69 hw)) (mvT hZ (own_w68 hw)) (by decide) (backOf (W := 0) (own_holds1 l Z a0 hw [] s1 p2 h131 n0 Z131 c138 c139) hZ (own_w70 hw) (own_w3 hw) (by decide) (by decide)) q194a q194c (g := (mkF m 163 #[.val (.int p1), .val (.int p2), .val (.int p3), .val (.ref b101), .val (.ref s1), .val (.int p2), .val (.ref o1), .val (.int (60 : Int32)), .val (.int (1 : Int32)), .val (.int (0 : Int32)), .val (.int (1 : Int32))] [(.int p2), (.ref s1)])) rfl (by rw [hml]; rfl) (Steps.refl _) (argsL := [(.int p2)]) (rest := []) (lenOf own_pd9 rfl) rfl (by show 2 * 0 + _ ≤ _; exact Nat.le_of_eq rfl) (hb hby at_163) (fun _ _ => ⟨rfl, e193, (by decide : 1 + 0 ≤ _), (by decide : 6 + 0 ≤ _)⟩)
        dsimp only [Pt.U, Pt.locs, Pt.cells, Pt.slots] at X194 l194 y194 z194 st194 hQ194
        subst l194 y194 z194
        obtain ⟨rfl, N194q, e194⟩ := hQ194
        have N194 := Fr.app N193 N194q
        obtain ⟨fs, hr, hrun, hended, hW, hsame⟩ := X194.leave (v := some (.int (1 : Int32))) (fun h => by rw [Bd.returns] at h; cases h)
        refine ⟨_, _, pre189 _ ?_, hrun, hended, _, _, rfl, ?_, ⟨_, rfl⟩, hW, hsame.mono (by decide) (by decide)⟩
        · show Steps _ _ _ (T188.setTop (mkF m 75 #[.val (.int p1), .val (.int p2), .val (.int p3), .val (.ref b101), .val (.ref s1), .val (.int p2), .val (.ref o1), .unset, .unset, .unset, .unset] [(.int p2)])) _
          refine XS.ifNo X188.here hx rfl (hb hby at_75) rfl ((if0 _ _).trans (tlt hc75_190).2.1) ?_
          refine XS.bipush X188.here hx rfl (hb hby at_78) ?_
          refine XS.istore X188.here hx rfl (hb hby at_80) rfl (l' := #[.val (.int p1), .val (.int p2), .val (.int p3), .val (.ref b101), .val (.ref s1), .val (.int p2), .val (.ref o1), .val (.int (60 : Int32)), .unset, .unset, .unset]) rfl ?_
          refine XS.goto X188.here hx rfl (pc0 := 82) (pc' := 101) rfl (hb hby at_82) (by decide) (by decide) ?_
          show Steps _ _ _ (T188.setTop (mkF m 101 #[.val (.int p1), .val (.int p2), .val (.int p3), .val (.ref b101), .val (.ref s1), .val (.int p2), .val (.ref o1), .val (.int (60 : Int32)), .unset, .unset, .unset] [])) _
          refine XS.aload X188.here hx rfl (hb hby at_101) rfl rfl ?_
          refine XS.iload X188.here hx rfl (hb hby at_103) rfl ?_
          refine st191 _ ?_
          refine XS.istore X191.here hx rfl (hb hby at_108) rfl (l' := #[.val (.int p1), .val (.int p2), .val (.int p3), .val (.ref b101), .val (.ref s1), .val (.int p2), .val (.ref o1), .val (.int (60 : Int32)), .val (.int (1 : Int32)), .unset, .unset]) rfl ?_
          show Steps _ _ _ (T191.setTop (mkF m 110 #[.val (.int p1), .val (.int p2), .val (.int p3), .val (.ref b101), .val (.ref s1), .val (.int p2), .val (.ref o1), .val (.int (60 : Int32)), .val (.int (1 : Int32)), .unset, .unset] [])) _
          refine XS.aload X191.here hx rfl (hb hby at_110) rfl rfl ?_
          refine st192.trans ?_
          refine XS.iconst X192.here hx rfl (hb hby at_115) ?_
          refine XS.icmpNo X192.here hx rfl (hb hby at_116) rfl (flt (by decide : ¬ ((2 : Int32) < (1 : Int32)))).1 ?_
          show Steps _ _ _ (T192.setTop (mkF m 119 #[.val (.int p1), .val (.int p2), .val (.int p3), .val (.ref b101), .val (.ref s1), .val (.int p2), .val (.ref o1), .val (.int (60 : Int32)), .val (.int (1 : Int32)), .unset, .unset] [])) _
          refine XS.aload X192.here hx rfl (hb hby at_119) rfl rfl ?_
          refine XS.iconst X192.here hx rfl (hb hby at_121) ?_
          refine st193.trans ?_
          refine XS.bipush X193.here hx rfl (hb hby at_125) ?_
          show Steps _ _ _ (T193.setTop (mkF m 127 #[.val (.int p1), .val (.int p2), .val (.int p3), .val (.ref b101), .val (.ref s1), .val (.int p2), .val (.ref o1), .val (.int (60 : Int32)), .val (.int (1 : Int32)), .unset, .unset] [(.int (33 : Int32)), (.int (60 : Int32))])) _
          refine XS.icmpYes X193.here hx rfl (pc0 := 127) (pc' := 134) rfl (hb hby at_127) rfl (feq (by decide : ¬ ((60 : Int32) = (33 : Int32)))).2 (by decide) (by decide) ?_
          refine XS.iconst X193.here hx rfl (hb hby at_134) ?_
          refine XS.istore X193.here hx rfl (hb hby at_135) rfl (l' := #[.val (.int p1), .val (.int p2), .val (.int p3), .val (.ref b101), .val (.ref s1), .val (.int p2), .val (.ref o1), .val (.int (60 : Int32)), .val (.int (1 : Int32)), .val (.int (0 : Int32)), .unset]) rfl ?_
          refine XS.iload X193.here hx rfl (hb hby at_137) rfl ?_
          show Steps _ _ _ (T193.setTop (mkF m 139 #[.val (.int p1), .val (.int p2), .val (.int p3), .val (.ref b101), .val (.ref s1), .val (.int p2), .val (.ref o1), .val (.int (60 : Int32)), .val (.int (1 : Int32)), .val (.int (0 : Int32)), .unset] [(.int (0 : Int32))])) _
          refine XS.ifYes X193.here hx rfl (pc0 := 139) (pc' := 155) rfl (hb hby at_139) rfl ((if0 _ _).trans (teq (by decide : (0 : Int32) = (0 : Int32))).1) (by decide) (by decide) ?_
          refine XS.iload X193.here hx rfl (hb hby at_155) rfl ?_
          refine XS.istore X193.here hx rfl (hb hby at_157) rfl (l' := #[.val (.int p1), .val (.int p2), .val (.int p3), .val (.ref b101), .val (.ref s1), .val (.int p2), .val (.ref o1), .val (.int (60 : Int32)), .val (.int (1 : Int32)), .val (.int (0 : Int32)), .val (.int (1 : Int32))]) rfl ?_
          refine XS.aload X193.here hx rfl (hb hby at_159) rfl rfl ?_
          show Steps _ _ _ (T193.setTop (mkF m 161 #[.val (.int p1), .val (.int p2), .val (.int p3), .val (.ref b101), .val (.ref s1), .val (.int p2), .val (.ref o1), .val (.int (60 : Int32)), .val (.int (1 : Int32)), .val (.int (0 : Int32)), .val (.int (1 : Int32))] [(.ref s1)])) _
          refine XS.iload X193.here hx rfl (hb hby at_161) rfl ?_
          refine st194.trans ?_
          refine XS.iload X194.here hx rfl (hb hby at_166) rfl ?_
          refine XS.icmpNo X194.here hx rfl (hb hby at_168) rfl (teq (by unfold own_h1; exact if_pos (by omega))).2 ?_
          show Steps _ _ _ (T194.setTop (mkF m 171 #[.val (.int p1), .val (.int p2), .val (.int p3), .val (.ref b101), .val (.ref s1), .val (.int p2), .val (.ref o1), .val (.int (60 : Int32)), .val (.int (1 : Int32)), .val (.int (0 : Int32)), .val (.int (1 : Int32))] [])) _
          refine XS.iconst X194.here hx rfl (hb hby at_171) ?_
          refine XS.goto X194.here hx rfl (pc0 := 172) (pc' := 176) rfl (hb hby at_172) (by decide) (by decide) ?_
          show Steps _ _ _ (T194.setTop (mkF m 176 #[.val (.int p1), .val (.int p2), .val (.int p3), .val (.ref b101), .val (.ref s1), .val (.int p2), .val (.ref o1), .val (.int (60 : Int32)), .val (.int (1 : Int32)), .val (.int (0 : Int32)), .val (.int (1 : Int32))] [(.int (1 : Int32))])) _
          exact retN X194 hx (t := .boolean) Bd.returns (by simp) (hb hby at_176) hr
        · show Qown_law Z p1 p2 p3 s0 o0 v0 s1 o1 v1 s2 o2 v2 s3 o3 v3 s4 o4 v4 s5 o5 v5 kc0 kc1 kc2 kc3 kc4 kc5 cs fv h0 n0 _ T194.heap _
          rw [e194]
          exact ⟨rfl, N194⟩
      · skip
        have ihc75_190 := (mt (own_lt (b := (0 : Int32)) (k := 0) rfl).mpr hc75_190)
        have pre195 : ∀ t, Steps p.tables e below (T188.setTop (mkF m 87 #[.val (.int p1), .val (.int p2), .val (.int p3), .val (.ref b101), .val (.ref s1), .val (.int p2), .val (.ref o1), .unset, .unset, .unset, .unset] [(.int p2)])) t → Steps p.tables e below (s₁.setTop (entryFrame m #[(.int p1), (.int p2), (.int p3)] maxLocals)) t := fun t kt => pre189 t (by
          show Steps _ _ _ (T188.setTop (mkF m 75 #[.val (.int p1), .val (.int p2), .val (.int p3), .val (.ref b101), .val (.ref s1), .val (.int p2), .val (.ref o1), .unset, .unset, .unset, .unset] [(.int p2)])) _
          refine XS.ifYes X188.here hx rfl (pc0 := 75) (pc' := 85) rfl (hb hby at_75) rfl ((if0 _ _).trans (flt hc75_190).2.1) (by decide) (by decide) ?_
          refine XS.iload X188.here hx rfl (hb hby at_85) rfl ?_
          exact kt)
        by_cases hc87_196 : p2 = (0 : Int32)
        · skip
          have ihc87_196 := (own_eq (b := (0 : Int32)) (k := 0) rfl).mp hc87_196
          obtain ⟨_, _, ⟨T197, L197, k197, n197⟩, -, X197, ⟨Lc197, hQ197, l197, y197, z197⟩, st197⟩ := Jvm.LawKit.callS X188 hx (y := own_m7) hown (mvT hZ (own_w24 hw)) (mvT hZ (own_w25 hw)) (mvT hZ (own_w26 hw)) (mvT hZ (own_w27 hw)) (by decide) (backOf (W := 0) (own_hasLEE l Z a0 hw [] o1 v1 kc1 cs fv h131 n0 Z131 c141 c132 hcs c133 hfv) hZ (own_w27 hw) (own_w26 hw) (by decide) (by decide)) (g := (mkF m 105 #[.val (.int p1), .val (.int p2), .val (.int p3), .val (.ref b101), .val (.ref s1), .val (.int p2), .val (.ref o1), .val (.int (61 : Int32)), .unset, .unset, .unset] [(.int (61 : Int32)), (.ref o1)])) rfl (by rw [hml]; rfl) (argsL := [(.ref o1), (.int (61 : Int32))]) (rest := []) (lenOf own_pd8 rfl) rfl (by show 2 * 0 + _ ≤ _; exact Nat.le_of_eq rfl) (hb hby at_105) (fun _ _ => ⟨rfl, e188, (by decide : 1 + 0 ≤ _), (by decide : 6 + 0 ≤ _)⟩)
          dsimp only [Pt.U, Pt.locs, Pt.cells, Pt.slots] at X197 l197 y197 z197 st197 hQ197
          subst l197 y197 z197
          obtain ⟨rfl, N197q, e197⟩ := hQ197
          have N197 := Fr.app N188 N197q
          obtain ⟨cq198, kq198, q198a, q198b, q198c⟩ := isOf hZ e197 c141.1
          obtain ⟨_, _, ⟨T198, L198, k198, n198⟩, -, X198, ⟨Lc198, hQ198, l198, y198, z198⟩, st198⟩ := X197.virtualBack hx (y := own_m6) (z := own_m6) hown (mvT hZ (own_w28 hw)) (mvT hZ (own_w29 hw)) (notFace_of_selects (args := #[]) (mvT hZ (own_w31 hw))) (mvT hZ (own_w31 hw)) (mvT hZ (own_w30 hw)) (by decide) (backOf (W := 0) (own_lenLE l Z a0 hw [] o1 v1 kc1 cs fv h131 n0 Z131 c141 c132 hcs c133 hfv) hZ (own_w33 hw) (own_w32 hw) (by decide) (by decide)) q198a q198c (g := (mkF m 112 #[.val (.int p1), .val (.int p2), .val (.int p3), .val (.ref b101), .val (.ref s1), .val (.int p2), .val (.ref o1), .val (.int (61 : Int32)), .val (.int (1 : Int32)), .unset, .unset] [(.ref o1)])) rfl (by rw [hml]; rfl) (Steps.refl _) (argsL := []) (rest := []) (lenOf own_pd5 rfl) rfl (by show 2 * 0 + _ ≤ _; exact Nat.le_of_eq rfl) (hb hby at_112) (fun _ _ => ⟨rfl, e197, (by decide : 1 + 0 ≤ _), (by decide : 6 + 0 ≤ _)⟩)
          dsimp only [Pt.U, Pt.locs, Pt.cells, Pt.slots] at X198 l198 y198 z198 st198 hQ198
          subst l198 y198 z198
          obtain ⟨rfl, N198q, e198⟩ := hQ198
          have N198 := Fr.app N197 N198q
          obtain ⟨cq199, kq199, q199a, q199b, q199c⟩ := isOf hZ e198 c141.1
          obtain ⟨_, _, ⟨T199, L199, k199, n199⟩, -, X199, ⟨Lc199, hQ199, l199, y199, z199⟩, st199⟩ := X198.virtualBack hx (y := own_m5) (z := own_m5) hown (mvT hZ (own_w44 hw)) (mvT hZ (own_w45 hw)) (notFace_of_selects (args := #[]) (mvT hZ (own_w47 hw))) (mvT hZ (own_w47 hw)) (mvT hZ (own_w46 hw)) (by decide) (backOf (W := 0) (own_caLE0 l Z a0 hw [] o1 v1 kc1 cs fv h131 n0 Z131 c141 c132 hcs c133 hfv) hZ (own_w48 hw) (own_w32 hw) (by decide) (by decide)) q199a q199c (g := (mkF m 122 #[.val (.int p1), .val (.int p2), .val (.int p3), .val (.ref b101), .val (.ref s1), .val (.int p2), .val (.ref o1), .val (.int (61 : Int32)), .val (.int (1 : Int32)), .unset, .unset] [(.int (0 : Int32)), (.ref o1)])) rfl (by rw [hml]; rfl) (Steps.refl _) (argsL := [(.int (0 : Int32))]) (rest := []) (lenOf own_pd6 rfl) rfl (by show 2 * 0 + _ ≤ _; exact Nat.le_of_eq rfl) (hb hby at_122) (fun _ _ => ⟨rfl, e198, (by decide : 1 + 0 ≤ _), (by decide : 6 + 0 ≤ _)⟩)
          dsimp only [Pt.U, Pt.locs, Pt.cells, Pt.slots] at X199 l199 y199 z199 st199 hQ199
          subst l199 y199 z199
          obtain ⟨rfl, N199q, e199⟩ := hQ199
          have N199 := Fr.app N198 N199q
          obtain ⟨cq200, kq200, q200a, q200b, q200c⟩ := isOf hZ e199 c138
          obtain ⟨_, _, ⟨T200, L200, k200, n200⟩, -, X200, ⟨Lc200, hQ200, l200, y200, z200⟩, st200⟩ := X199.virtualBack hx (y := own_m10) (z := own_m10) hown (mvT hZ (own_w66 hw)) (mvT hZ (own_w67 hw)) (notFace_of_selects (args := #[]) (mvT hZ (own_w69 hw))) (mvT hZ (own_w69 hw)) (mvT hZ (own_w68 hw)) (by decide) (backOf (W := 0) (own_holds1 l Z a0 hw [] s1 p2 h131 n0 Z131 c138 c139) hZ (own_w70 hw) (own_w3 hw) (by decide) (by decide)) q200a q200c (g := (mkF m 163 #[.val (.int p1), .val (.int p2), .val (.int p3), .val (.ref b101), .val (.ref s1), .val (.int p2), .val (.ref o1), .val (.int (61 : Int32)), .val (.int (1 : Int32)), .val (.int (0 : Int32)), .val (.int (1 : Int32))] [(.int p2), (.ref s1)])) rfl (by rw [hml]; rfl) (Steps.refl _) (argsL := [(.int p2)]) (rest := []) (lenOf own_pd9 rfl) rfl (by show 2 * 0 + _ ≤ _; exact Nat.le_of_eq rfl) (hb hby at_163) (fun _ _ => ⟨rfl, e199, (by decide : 1 + 0 ≤ _), (by decide : 6 + 0 ≤ _)⟩)
          dsimp only [Pt.U, Pt.locs, Pt.cells, Pt.slots] at X200 l200 y200 z200 st200 hQ200
          subst l200 y200 z200
          obtain ⟨rfl, N200q, e200⟩ := hQ200
          have N200 := Fr.app N199 N200q
          obtain ⟨fs, hr, hrun, hended, hW, hsame⟩ := X200.leave (v := some (.int (1 : Int32))) (fun h => by rw [Bd.returns] at h; cases h)
          refine ⟨_, _, pre195 _ ?_, hrun, hended, _, _, rfl, ?_, ⟨_, rfl⟩, hW, hsame.mono (by decide) (by decide)⟩
          · show Steps _ _ _ (T188.setTop (mkF m 87 #[.val (.int p1), .val (.int p2), .val (.int p3), .val (.ref b101), .val (.ref s1), .val (.int p2), .val (.ref o1), .unset, .unset, .unset, .unset] [(.int p2)])) _
            refine XS.ifNo X188.here hx rfl (hb hby at_87) rfl ((if0 _ _).trans (teq hc87_196).2) ?_
            refine XS.bipush X188.here hx rfl (hb hby at_90) ?_
            refine XS.istore X188.here hx rfl (hb hby at_92) rfl (l' := #[.val (.int p1), .val (.int p2), .val (.int p3), .val (.ref b101), .val (.ref s1), .val (.int p2), .val (.ref o1), .val (.int (61 : Int32)), .unset, .unset, .unset]) rfl ?_
            refine XS.goto X188.here hx rfl (pc0 := 94) (pc' := 101) rfl (hb hby at_94) (by decide) (by decide) ?_
            show Steps _ _ _ (T188.setTop (mkF m 101 #[.val (.int p1), .val (.int p2), .val (.int p3), .val (.ref b101), .val (.ref s1), .val (.int p2), .val (.ref o1), .val (.int (61 : Int32)), .unset, .unset, .unset] [])) _
            refine XS.aload X188.here hx rfl (hb hby at_101) rfl rfl ?_
            refine XS.iload X188.here hx rfl (hb hby at_103) rfl ?_
            refine st197 _ ?_
            refine XS.istore X197.here hx rfl (hb hby at_108) rfl (l' := #[.val (.int p1), .val (.int p2), .val (.int p3), .val (.ref b101), .val (.ref s1), .val (.int p2), .val (.ref o1), .val (.int (61 : Int32)), .val (.int (1 : Int32)), .unset, .unset]) rfl ?_
            show Steps _ _ _ (T197.setTop (mkF m 110 #[.val (.int p1), .val (.int p2), .val (.int p3), .val (.ref b101), .val (.ref s1), .val (.int p2), .val (.ref o1), .val (.int (61 : Int32)), .val (.int (1 : Int32)), .unset, .unset] [])) _
            refine XS.aload X197.here hx rfl (hb hby at_110) rfl rfl ?_
            refine st198.trans ?_
            refine XS.iconst X198.here hx rfl (hb hby at_115) ?_
            refine XS.icmpNo X198.here hx rfl (hb hby at_116) rfl (flt (by decide : ¬ ((2 : Int32) < (1 : Int32)))).1 ?_
            show Steps _ _ _ (T198.setTop (mkF m 119 #[.val (.int p1), .val (.int p2), .val (.int p3), .val (.ref b101), .val (.ref s1), .val (.int p2), .val (.ref o1), .val (.int (61 : Int32)), .val (.int (1 : Int32)), .unset, .unset] [])) _
            refine XS.aload X198.here hx rfl (hb hby at_119) rfl rfl ?_
            refine XS.iconst X198.here hx rfl (hb hby at_121) ?_
            refine st199.trans ?_
            refine XS.bipush X199.here hx rfl (hb hby at_125) ?_
            show Steps _ _ _ (T199.setTop (mkF m 127 #[.val (.int p1), .val (.int p2), .val (.int p3), .val (.ref b101), .val (.ref s1), .val (.int p2), .val (.ref o1), .val (.int (61 : Int32)), .val (.int (1 : Int32)), .unset, .unset] [(.int (33 : Int32)), (.int (60 : Int32))])) _
            refine XS.icmpYes X199.here hx rfl (pc0 := 127) (pc' := 134) rfl (hb hby at_127) rfl (feq (by decide : ¬ ((60 : Int32) = (33 : Int32)))).2 (by decide) (by decide) ?_
            refine XS.iconst X199.here hx rfl (hb hby at_134) ?_
            refine XS.istore X199.here hx rfl (hb hby at_135) rfl (l' := #[.val (.int p1), .val (.int p2), .val (.int p3), .val (.ref b101), .val (.ref s1), .val (.int p2), .val (.ref o1), .val (.int (61 : Int32)), .val (.int (1 : Int32)), .val (.int (0 : Int32)), .unset]) rfl ?_
            refine XS.iload X199.here hx rfl (hb hby at_137) rfl ?_
            show Steps _ _ _ (T199.setTop (mkF m 139 #[.val (.int p1), .val (.int p2), .val (.int p3), .val (.ref b101), .val (.ref s1), .val (.int p2), .val (.ref o1), .val (.int (61 : Int32)), .val (.int (1 : Int32)), .val (.int (0 : Int32)), .unset] [(.int (0 : Int32))])) _
            refine XS.ifYes X199.here hx rfl (pc0 := 139) (pc' := 155) rfl (hb hby at_139) rfl ((if0 _ _).trans (teq (by decide : (0 : Int32) = (0 : Int32))).1) (by decide) (by decide) ?_
            refine XS.iload X199.here hx rfl (hb hby at_155) rfl ?_
            refine XS.istore X199.here hx rfl (hb hby at_157) rfl (l' := #[.val (.int p1), .val (.int p2), .val (.int p3), .val (.ref b101), .val (.ref s1), .val (.int p2), .val (.ref o1), .val (.int (61 : Int32)), .val (.int (1 : Int32)), .val (.int (0 : Int32)), .val (.int (1 : Int32))]) rfl ?_
            refine XS.aload X199.here hx rfl (hb hby at_159) rfl rfl ?_
            show Steps _ _ _ (T199.setTop (mkF m 161 #[.val (.int p1), .val (.int p2), .val (.int p3), .val (.ref b101), .val (.ref s1), .val (.int p2), .val (.ref o1), .val (.int (61 : Int32)), .val (.int (1 : Int32)), .val (.int (0 : Int32)), .val (.int (1 : Int32))] [(.ref s1)])) _
            refine XS.iload X199.here hx rfl (hb hby at_161) rfl ?_
            refine st200.trans ?_
            refine XS.iload X200.here hx rfl (hb hby at_166) rfl ?_
            refine XS.icmpNo X200.here hx rfl (hb hby at_168) rfl (teq (by unfold own_h1; exact if_pos (by omega))).2 ?_
            show Steps _ _ _ (T200.setTop (mkF m 171 #[.val (.int p1), .val (.int p2), .val (.int p3), .val (.ref b101), .val (.ref s1), .val (.int p2), .val (.ref o1), .val (.int (61 : Int32)), .val (.int (1 : Int32)), .val (.int (0 : Int32)), .val (.int (1 : Int32))] [])) _
            refine XS.iconst X200.here hx rfl (hb hby at_171) ?_
            refine XS.goto X200.here hx rfl (pc0 := 172) (pc' := 176) rfl (hb hby at_172) (by decide) (by decide) ?_
            show Steps _ _ _ (T200.setTop (mkF m 176 #[.val (.int p1), .val (.int p2), .val (.int p3), .val (.ref b101), .val (.ref s1), .val (.int p2), .val (.ref o1), .val (.int (61 : Int32)), .val (.int (1 : Int32)), .val (.int (0 : Int32)), .val (.int (1 : Int32))] [(.int (1 : Int32))])) _
            exact retN X200 hx (t := .boolean) Bd.returns (by simp) (hb hby at_176) hr
          · show Qown_law Z p1 p2 p3 s0 o0 v0 s1 o1 v1 s2 o2 v2 s3 o3 v3 s4 o4 v4 s5 o5 v5 kc0 kc1 kc2 kc3 kc4 kc5 cs fv h0 n0 _ T200.heap _
            rw [e200]
            exact ⟨rfl, N200⟩
        · skip
          have ihc87_196 := (mt (own_eq (b := (0 : Int32)) (k := 0) rfl).mpr hc87_196)
          obtain ⟨_, _, ⟨T201, L201, k201, n201⟩, -, X201, ⟨Lc201, hQ201, l201, y201, z201⟩, st201⟩ := Jvm.LawKit.callS X188 hx (y := own_m7) hown (mvT hZ (own_w24 hw)) (mvT hZ (own_w25 hw)) (mvT hZ (own_w26 hw)) (mvT hZ (own_w27 hw)) (by decide) (backOf (W := 0) (own_hasLEG l Z a0 hw [] o1 v1 kc1 cs fv h131 n0 Z131 c141 c132 hcs c133 hfv) hZ (own_w27 hw) (own_w26 hw) (by decide) (by decide)) (g := (mkF m 105 #[.val (.int p1), .val (.int p2), .val (.int p3), .val (.ref b101), .val (.ref s1), .val (.int p2), .val (.ref o1), .val (.int (62 : Int32)), .unset, .unset, .unset] [(.int (62 : Int32)), (.ref o1)])) rfl (by rw [hml]; rfl) (argsL := [(.ref o1), (.int (62 : Int32))]) (rest := []) (lenOf own_pd8 rfl) rfl (by show 2 * 0 + _ ≤ _; exact Nat.le_of_eq rfl) (hb hby at_105) (fun _ _ => ⟨rfl, e188, (by decide : 1 + 0 ≤ _), (by decide : 6 + 0 ≤ _)⟩)
          dsimp only [Pt.U, Pt.locs, Pt.cells, Pt.slots] at X201 l201 y201 z201 st201 hQ201
          subst l201 y201 z201
          obtain ⟨rfl, N201q, e201⟩ := hQ201
          have N201 := Fr.app N188 N201q
          obtain ⟨cq202, kq202, q202a, q202b, q202c⟩ := isOf hZ e201 c141.1
          obtain ⟨_, _, ⟨T202, L202, k202, n202⟩, -, X202, ⟨Lc202, hQ202, l202, y202, z202⟩, st202⟩ := X201.virtualBack hx (y := own_m6) (z := own_m6) hown (mvT hZ (own_w28 hw)) (mvT hZ (own_w29 hw)) (notFace_of_selects (args := #[]) (mvT hZ (own_w31 hw))) (mvT hZ (own_w31 hw)) (mvT hZ (own_w30 hw)) (by decide) (backOf (W := 0) (own_lenLE l Z a0 hw [] o1 v1 kc1 cs fv h131 n0 Z131 c141 c132 hcs c133 hfv) hZ (own_w33 hw) (own_w32 hw) (by decide) (by decide)) q202a q202c (g := (mkF m 112 #[.val (.int p1), .val (.int p2), .val (.int p3), .val (.ref b101), .val (.ref s1), .val (.int p2), .val (.ref o1), .val (.int (62 : Int32)), .val (.int (0 : Int32)), .unset, .unset] [(.ref o1)])) rfl (by rw [hml]; rfl) (Steps.refl _) (argsL := []) (rest := []) (lenOf own_pd5 rfl) rfl (by show 2 * 0 + _ ≤ _; exact Nat.le_of_eq rfl) (hb hby at_112) (fun _ _ => ⟨rfl, e201, (by decide : 1 + 0 ≤ _), (by decide : 6 + 0 ≤ _)⟩)
          dsimp only [Pt.U, Pt.locs, Pt.cells, Pt.slots] at X202 l202 y202 z202 st202 hQ202
          subst l202 y202 z202
          obtain ⟨rfl, N202q, e202⟩ := hQ202
          have N202 := Fr.app N201 N202q
          obtain ⟨cq203, kq203, q203a, q203b, q203c⟩ := isOf hZ e202 c141.1
          obtain ⟨_, _, ⟨T203, L203, k203, n203⟩, -, X203, ⟨Lc203, hQ203, l203, y203, z203⟩, st203⟩ := X202.virtualBack hx (y := own_m5) (z := own_m5) hown (mvT hZ (own_w44 hw)) (mvT hZ (own_w45 hw)) (notFace_of_selects (args := #[]) (mvT hZ (own_w47 hw))) (mvT hZ (own_w47 hw)) (mvT hZ (own_w46 hw)) (by decide) (backOf (W := 0) (own_caLE0 l Z a0 hw [] o1 v1 kc1 cs fv h131 n0 Z131 c141 c132 hcs c133 hfv) hZ (own_w48 hw) (own_w32 hw) (by decide) (by decide)) q203a q203c (g := (mkF m 122 #[.val (.int p1), .val (.int p2), .val (.int p3), .val (.ref b101), .val (.ref s1), .val (.int p2), .val (.ref o1), .val (.int (62 : Int32)), .val (.int (0 : Int32)), .unset, .unset] [(.int (0 : Int32)), (.ref o1)])) rfl (by rw [hml]; rfl) (Steps.refl _) (argsL := [(.int (0 : Int32))]) (rest := []) (lenOf own_pd6 rfl) rfl (by show 2 * 0 + _ ≤ _; exact Nat.le_of_eq rfl) (hb hby at_122) (fun _ _ => ⟨rfl, e202, (by decide : 1 + 0 ≤ _), (by decide : 6 + 0 ≤ _)⟩)
          dsimp only [Pt.U, Pt.locs, Pt.cells, Pt.slots] at X203 l203 y203 z203 st203 hQ203
          subst l203 y203 z203
          obtain ⟨rfl, N203q, e203⟩ := hQ203
          have N203 := Fr.app N202 N203q
          obtain ⟨cq204, kq204, q204a, q204b, q204c⟩ := isOf hZ e203 c138
          obtain ⟨_, _, ⟨T204, L204, k204, n204⟩, -, X204, ⟨Lc204, hQ204, l204, y204, z204⟩, st204⟩ := X203.virtualBack hx (y := own_m10) (z := own_m10) hown (mvT hZ (own_w66 hw)) (mvT hZ (own_w67 hw)) (notFace_of_selects (args := #[]) (mvT hZ (own_w69 hw))) (mvT hZ (own_w69 hw)) (mvT hZ (own_w68 hw)) (by decide) (backOf (W := 0) (own_holds1 l Z a0 hw [] s1 p2 h131 n0 Z131 c138 c139) hZ (own_w70 hw) (own_w3 hw) (by decide) (by decide)) q204a q204c (g := (mkF m 163 #[.val (.int p1), .val (.int p2), .val (.int p3), .val (.ref b101), .val (.ref s1), .val (.int p2), .val (.ref o1), .val (.int (62 : Int32)), .val (.int (0 : Int32)), .val (.int (0 : Int32)), .val (.int (0 : Int32))] [(.int p2), (.ref s1)])) rfl (by rw [hml]; rfl) (Steps.refl _) (argsL := [(.int p2)]) (rest := []) (lenOf own_pd9 rfl) rfl (by show 2 * 0 + _ ≤ _; exact Nat.le_of_eq rfl) (hb hby at_163) (fun _ _ => ⟨rfl, e203, (by decide : 1 + 0 ≤ _), (by decide : 6 + 0 ≤ _)⟩)
          dsimp only [Pt.U, Pt.locs, Pt.cells, Pt.slots] at X204 l204 y204 z204 st204 hQ204
          subst l204 y204 z204
          obtain ⟨rfl, N204q, e204⟩ := hQ204
          have N204 := Fr.app N203 N204q
          obtain ⟨fs, hr, hrun, hended, hW, hsame⟩ := X204.leave (v := some (.int (1 : Int32))) (fun h => by rw [Bd.returns] at h; cases h)
          refine ⟨_, _, pre195 _ ?_, hrun, hended, _, _, rfl, ?_, ⟨_, rfl⟩, hW, hsame.mono (by decide) (by decide)⟩
          · show Steps _ _ _ (T188.setTop (mkF m 87 #[.val (.int p1), .val (.int p2), .val (.int p3), .val (.ref b101), .val (.ref s1), .val (.int p2), .val (.ref o1), .unset, .unset, .unset, .unset] [(.int p2)])) _
            refine XS.ifYes X188.here hx rfl (pc0 := 87) (pc' := 97) rfl (hb hby at_87) rfl ((if0 _ _).trans (feq hc87_196).2) (by decide) (by decide) ?_
            refine XS.bipush X188.here hx rfl (hb hby at_97) ?_
            refine XS.istore X188.here hx rfl (hb hby at_99) rfl (l' := #[.val (.int p1), .val (.int p2), .val (.int p3), .val (.ref b101), .val (.ref s1), .val (.int p2), .val (.ref o1), .val (.int (62 : Int32)), .unset, .unset, .unset]) rfl ?_
            refine XS.aload X188.here hx rfl (hb hby at_101) rfl rfl ?_
            show Steps _ _ _ (T188.setTop (mkF m 103 #[.val (.int p1), .val (.int p2), .val (.int p3), .val (.ref b101), .val (.ref s1), .val (.int p2), .val (.ref o1), .val (.int (62 : Int32)), .unset, .unset, .unset] [(.ref o1)])) _
            refine XS.iload X188.here hx rfl (hb hby at_103) rfl ?_
            refine st201 _ ?_
            refine XS.istore X201.here hx rfl (hb hby at_108) rfl (l' := #[.val (.int p1), .val (.int p2), .val (.int p3), .val (.ref b101), .val (.ref s1), .val (.int p2), .val (.ref o1), .val (.int (62 : Int32)), .val (.int (0 : Int32)), .unset, .unset]) rfl ?_
            refine XS.aload X201.here hx rfl (hb hby at_110) rfl rfl ?_
            show Steps _ _ _ (T201.setTop (mkF m 112 #[.val (.int p1), .val (.int p2), .val (.int p3), .val (.ref b101), .val (.ref s1), .val (.int p2), .val (.ref o1), .val (.int (62 : Int32)), .val (.int (0 : Int32)), .unset, .unset] [(.ref o1)])) _
            refine st202.trans ?_
            refine XS.iconst X202.here hx rfl (hb hby at_115) ?_
            refine XS.icmpNo X202.here hx rfl (hb hby at_116) rfl (flt (by decide : ¬ ((2 : Int32) < (1 : Int32)))).1 ?_
            refine XS.aload X202.here hx rfl (hb hby at_119) rfl rfl ?_
            show Steps _ _ _ (T202.setTop (mkF m 121 #[.val (.int p1), .val (.int p2), .val (.int p3), .val (.ref b101), .val (.ref s1), .val (.int p2), .val (.ref o1), .val (.int (62 : Int32)), .val (.int (0 : Int32)), .unset, .unset] [(.ref o1)])) _
            refine XS.iconst X202.here hx rfl (hb hby at_121) ?_
            refine st203.trans ?_
            refine XS.bipush X203.here hx rfl (hb hby at_125) ?_
            refine XS.icmpYes X203.here hx rfl (pc0 := 127) (pc' := 134) rfl (hb hby at_127) rfl (feq (by decide : ¬ ((60 : Int32) = (33 : Int32)))).2 (by decide) (by decide) ?_
            show Steps _ _ _ (T203.setTop (mkF m 134 #[.val (.int p1), .val (.int p2), .val (.int p3), .val (.ref b101), .val (.ref s1), .val (.int p2), .val (.ref o1), .val (.int (62 : Int32)), .val (.int (0 : Int32)), .unset, .unset] [])) _
            refine XS.iconst X203.here hx rfl (hb hby at_134) ?_
            refine XS.istore X203.here hx rfl (hb hby at_135) rfl (l' := #[.val (.int p1), .val (.int p2), .val (.int p3), .val (.ref b101), .val (.ref s1), .val (.int p2), .val (.ref o1), .val (.int (62 : Int32)), .val (.int (0 : Int32)), .val (.int (0 : Int32)), .unset]) rfl ?_
            refine XS.iload X203.here hx rfl (hb hby at_137) rfl ?_
            refine XS.ifYes X203.here hx rfl (pc0 := 139) (pc' := 155) rfl (hb hby at_139) rfl ((if0 _ _).trans (teq (by decide : (0 : Int32) = (0 : Int32))).1) (by decide) (by decide) ?_
            show Steps _ _ _ (T203.setTop (mkF m 155 #[.val (.int p1), .val (.int p2), .val (.int p3), .val (.ref b101), .val (.ref s1), .val (.int p2), .val (.ref o1), .val (.int (62 : Int32)), .val (.int (0 : Int32)), .val (.int (0 : Int32)), .unset] [])) _
            refine XS.iload X203.here hx rfl (hb hby at_155) rfl ?_
            refine XS.istore X203.here hx rfl (hb hby at_157) rfl (l' := #[.val (.int p1), .val (.int p2), .val (.int p3), .val (.ref b101), .val (.ref s1), .val (.int p2), .val (.ref o1), .val (.int (62 : Int32)), .val (.int (0 : Int32)), .val (.int (0 : Int32)), .val (.int (0 : Int32))]) rfl ?_
            refine XS.aload X203.here hx rfl (hb hby at_159) rfl rfl ?_
            refine XS.iload X203.here hx rfl (hb hby at_161) rfl ?_
            show Steps _ _ _ (T203.setTop (mkF m 163 #[.val (.int p1), .val (.int p2), .val (.int p3), .val (.ref b101), .val (.ref s1), .val (.int p2), .val (.ref o1), .val (.int (62 : Int32)), .val (.int (0 : Int32)), .val (.int (0 : Int32)), .val (.int (0 : Int32))] [(.int p2), (.ref s1)])) _
            refine st204.trans ?_
            refine XS.iload X204.here hx rfl (hb hby at_166) rfl ?_
            refine XS.icmpNo X204.here hx rfl (hb hby at_168) rfl (teq (by unfold own_h1; exact if_neg (by omega))).2 ?_
            refine XS.iconst X204.here hx rfl (hb hby at_171) ?_
            show Steps _ _ _ (T204.setTop (mkF m 172 #[.val (.int p1), .val (.int p2), .val (.int p3), .val (.ref b101), .val (.ref s1), .val (.int p2), .val (.ref o1), .val (.int (62 : Int32)), .val (.int (0 : Int32)), .val (.int (0 : Int32)), .val (.int (0 : Int32))] [(.int (1 : Int32))])) _
            refine XS.goto X204.here hx rfl (pc0 := 172) (pc' := 176) rfl (hb hby at_172) (by decide) (by decide) ?_
            show Steps _ _ _ (T204.setTop (mkF m 176 #[.val (.int p1), .val (.int p2), .val (.int p3), .val (.ref b101), .val (.ref s1), .val (.int p2), .val (.ref o1), .val (.int (62 : Int32)), .val (.int (0 : Int32)), .val (.int (0 : Int32)), .val (.int (0 : Int32))] [(.int (1 : Int32))])) _
            exact retN X204 hx (t := .boolean) Bd.returns (by simp) (hb hby at_176) hr
          · show Qown_law Z p1 p2 p3 s0 o0 v0 s1 o1 v1 s2 o2 v2 s3 o3 v3 s4 o4 v4 s5 o5 v5 kc0 kc1 kc2 kc3 kc4 kc5 cs fv h0 n0 _ T204.heap _
            rw [e204]
            exact ⟨rfl, N204⟩
    · skip
      have ihc56_187 := (mt (own_eq (b := (0 : Int32)) (k := 0) rfl).mpr hc56_187)
      obtain ⟨cq205, kq205, q205a, q205b, q205c⟩ := isOf hZ e131 c138
      obtain ⟨_, _, ⟨T205, L205, k205, n205⟩, -, X205, ⟨Lc205, hQ205, l205, y205, z205⟩, st205⟩ := X131.virtualBack hx (y := own_m8) (z := own_m8) hown (mvT hZ (own_w17 hw)) (mvT hZ (own_w18 hw)) (notFace_of_selects (args := #[]) (mvT hZ (own_w20 hw))) (mvT hZ (own_w20 hw)) (mvT hZ (own_w19 hw)) (by decide) (backOf (W := 0) (own_op l Z a0 hw [] s1 o1 h131 n0 Z131 c140) hZ (own_w21 hw) (own_w3 hw) (by decide) (by decide)) q205a q205c (g := (mkF m 68 #[.val (.int p1), .val (.int p2), .val (.int p3), .val (.ref b101), .val (.ref s1), .val (.int (0 : Int32)), .unset, .unset, .unset, .unset, .unset] [(.ref s1)])) rfl (by rw [hml]; rfl) (Steps.refl _) (argsL := []) (rest := []) (lenOf own_pd7 rfl) rfl (by show 2 * 0 + _ ≤ _; exact Nat.le_of_eq rfl) (hb hby at_68) (fun _ _ => ⟨rfl, e131, (by decide : 1 + 0 ≤ _), (by decide : 6 + 0 ≤ _)⟩)
      dsimp only [Pt.U, Pt.locs, Pt.cells, Pt.slots] at X205 l205 y205 z205 st205 hQ205
      subst l205 y205 z205
      obtain ⟨rfl, N205q, e205⟩ := hQ205
      have N205 := Fr.app N131 N205q
      obtain ⟨_, _, ⟨T206, L206, k206, n206⟩, -, X206, ⟨Lc206, hQ206, l206, y206, z206⟩, st206⟩ := Jvm.LawKit.callS X205 hx (y := own_m7) hown (mvT hZ (own_w24 hw)) (mvT hZ (own_w25 hw)) (mvT hZ (own_w26 hw)) (mvT hZ (own_w27 hw)) (by decide) (backOf (W := 0) (own_hasLEE l Z a0 hw [] o1 v1 kc1 cs fv h131 n0 Z131 c141 c132 hcs c133 hfv) hZ (own_w27 hw) (own_w26 hw) (by decide) (by decide)) (g := (mkF m 105 #[.val (.int p1), .val (.int p2), .val (.int p3), .val (.ref b101), .val (.ref s1), .val (.int (0 : Int32)), .val (.ref o1), .val (.int (61 : Int32)), .unset, .unset, .unset] [(.int (61 : Int32)), (.ref o1)])) rfl (by rw [hml]; rfl) (argsL := [(.ref o1), (.int (61 : Int32))]) (rest := []) (lenOf own_pd8 rfl) rfl (by show 2 * 0 + _ ≤ _; exact Nat.le_of_eq rfl) (hb hby at_105) (fun _ _ => ⟨rfl, e205, (by decide : 1 + 0 ≤ _), (by decide : 6 + 0 ≤ _)⟩)
      dsimp only [Pt.U, Pt.locs, Pt.cells, Pt.slots] at X206 l206 y206 z206 st206 hQ206
      subst l206 y206 z206
      obtain ⟨rfl, N206q, e206⟩ := hQ206
      have N206 := Fr.app N205 N206q
      obtain ⟨cq207, kq207, q207a, q207b, q207c⟩ := isOf hZ e206 c141.1
      obtain ⟨_, _, ⟨T207, L207, k207, n207⟩, -, X207, ⟨Lc207, hQ207, l207, y207, z207⟩, st207⟩ := X206.virtualBack hx (y := own_m6) (z := own_m6) hown (mvT hZ (own_w28 hw)) (mvT hZ (own_w29 hw)) (notFace_of_selects (args := #[]) (mvT hZ (own_w31 hw))) (mvT hZ (own_w31 hw)) (mvT hZ (own_w30 hw)) (by decide) (backOf (W := 0) (own_lenLE l Z a0 hw [] o1 v1 kc1 cs fv h131 n0 Z131 c141 c132 hcs c133 hfv) hZ (own_w33 hw) (own_w32 hw) (by decide) (by decide)) q207a q207c (g := (mkF m 112 #[.val (.int p1), .val (.int p2), .val (.int p3), .val (.ref b101), .val (.ref s1), .val (.int (0 : Int32)), .val (.ref o1), .val (.int (61 : Int32)), .val (.int (1 : Int32)), .unset, .unset] [(.ref o1)])) rfl (by rw [hml]; rfl) (Steps.refl _) (argsL := []) (rest := []) (lenOf own_pd5 rfl) rfl (by show 2 * 0 + _ ≤ _; exact Nat.le_of_eq rfl) (hb hby at_112) (fun _ _ => ⟨rfl, e206, (by decide : 1 + 0 ≤ _), (by decide : 6 + 0 ≤ _)⟩)
      dsimp only [Pt.U, Pt.locs, Pt.cells, Pt.slots] at X207 l207 y207 z207 st207 hQ207
      subst l207 y207 z207
      obtain ⟨rfl, N207q, e207⟩ := hQ207
      have N207 := Fr.app N206 N207q
      obtain ⟨cq208, kq208, q208a, q208b, q208c⟩ := isOf hZ e207 c141.1
      obtain ⟨_, _, ⟨T208, L208, k208, n208⟩, -, X208, ⟨Lc208, hQ208, l208, y208, z208⟩, st208⟩ := X207.virtualBack hx (y := own_m5) (z := own_m5) hown (mvT hZ (own_w44 hw)) (mvT hZ (own_w45 hw)) (notFace_of_selects (args := #[]) (mvT hZ (own_w47 hw))) (mvT hZ (own_w47 hw)) (mvT hZ (own_w46 hw)) (by decide) (backOf (W := 0) (own_caLE0 l Z a0 hw [] o1 v1 kc1 cs fv h131 n0 Z131 c141 c132 hcs c133 hfv) hZ (own_w48 hw) (own_w32 hw) (by decide) (by decide)) q208a q208c (g := (mkF m 122 #[.val (.int p1), .val (.int p2), .val (.int p3), .val (.ref b101), .val (.ref s1), .val (.int (0 : Int32)), .val (.ref o1), .val (.int (61 : Int32)), .val (.int (1 : Int32)), .unset, .unset] [(.int (0 : Int32)), (.ref o1)])) rfl (by rw [hml]; rfl) (Steps.refl _) (argsL := [(.int (0 : Int32))]) (rest := []) (lenOf own_pd6 rfl) rfl (by show 2 * 0 + _ ≤ _; exact Nat.le_of_eq rfl) (hb hby at_122) (fun _ _ => ⟨rfl, e207, (by decide : 1 + 0 ≤ _), (by decide : 6 + 0 ≤ _)⟩)
      dsimp only [Pt.U, Pt.locs, Pt.cells, Pt.slots] at X208 l208 y208 z208 st208 hQ208
      subst l208 y208 z208
      obtain ⟨rfl, N208q, e208⟩ := hQ208
      have N208 := Fr.app N207 N208q
      obtain ⟨cq209, kq209, q209a, q209b, q209c⟩ := isOf hZ e208 c138
      obtain ⟨_, _, ⟨T209, L209, k209, n209⟩, -, X209, ⟨Lc209, hQ209, l209, y209, z209⟩, st209⟩ := X208.virtualBack hx (y := own_m10) (z := own_m10) hown (mvT hZ (own_w66 hw)) (mvT hZ (own_w67 hw)) (notFace_of_selects (args := #[]) (mvT hZ (own_w69 hw))) (mvT hZ (own_w69 hw)) (mvT hZ (own_w68 hw)) (by decide) (backOf (W := 0) (own_holds1 l Z a0 hw [] s1 (0 : Int32) h131 n0 Z131 c138 c139) hZ (own_w70 hw) (own_w3 hw) (by decide) (by decide)) q209a q209c (g := (mkF m 163 #[.val (.int p1), .val (.int p2), .val (.int p3), .val (.ref b101), .val (.ref s1), .val (.int (0 : Int32)), .val (.ref o1), .val (.int (61 : Int32)), .val (.int (1 : Int32)), .val (.int (0 : Int32)), .val (.int (1 : Int32))] [(.int (0 : Int32)), (.ref s1)])) rfl (by rw [hml]; rfl) (Steps.refl _) (argsL := [(.int (0 : Int32))]) (rest := []) (lenOf own_pd9 rfl) rfl (by show 2 * 0 + _ ≤ _; exact Nat.le_of_eq rfl) (hb hby at_163) (fun _ _ => ⟨rfl, e208, (by decide : 1 + 0 ≤ _), (by decide : 6 + 0 ≤ _)⟩)
      dsimp only [Pt.U, Pt.locs, Pt.cells, Pt.slots] at X209 l209 y209 z209 st209 hQ209
      subst l209 y209 z209
      obtain ⟨rfl, N209q, e209⟩ := hQ209
      have N209 := Fr.app N208 N209q
      obtain ⟨fs, hr, hrun, hended, hW, hsame⟩ := X209.leave (v := some (.int (1 : Int32))) (fun h => by rw [Bd.returns] at h; cases h)
      refine ⟨_, _, pre186 _ ?_, hrun, hended, _, _, rfl, ?_, ⟨_, rfl⟩, hW, hsame.mono (by decide) (by decide)⟩
      · show Steps _ _ _ (T131.setTop (mkF m 56 #[.val (.int p1), .val (.int p2), .val (.int p3), .val (.ref b101), .val (.ref s1), .unset, .unset, .unset, .unset, .unset, .unset] [(.int (p3 &&& (1 : Int32)))])) _
        refine XS.ifNo X131.here hx rfl (hb hby at_56) rfl ((if0 _ _).trans (feq hc56_187).1) ?_
        refine XS.iconst X131.here hx rfl (hb hby at_59) ?_
        refine XS.goto X131.here hx rfl (pc0 := 60) (pc' := 64) rfl (hb hby at_60) (by decide) (by decide) ?_
        refine XS.istore X131.here hx rfl (hb hby at_64) rfl (l' := #[.val (.int p1), .val (.int p2), .val (.int p3), .val (.ref b101), .val (.ref s1), .val (.int (0 : Int32)), .unset, .unset, .unset, .unset, .unset]) rfl ?_
        show Steps _ _ _ (T131.setTop (mkF m 66 #[.val (.int p1), .val (.int p2), .val (.int p3), .val (.ref b101), .val (.ref s1), .val (.int (0 : Int32)), .unset, .unset, .unset, .unset, .unset] [])) _
        refine XS.aload X131.here hx rfl (hb hby at_66) rfl rfl ?_
        refine st205.trans ?_
        refine XS.astore X205.here hx rfl (hb hby at_71) rfl rfl (l' := #[.val (.int p1), .val (.int p2), .val (.int p3), .val (.ref b101), .val (.ref s1), .val (.int (0 : Int32)), .val (.ref o1), .unset, .unset, .unset, .unset]) rfl ?_
        refine XS.iload X205.here hx rfl (hb hby at_73) rfl ?_
        show Steps _ _ _ (T205.setTop (mkF m 75 #[.val (.int p1), .val (.int p2), .val (.int p3), .val (.ref b101), .val (.ref s1), .val (.int (0 : Int32)), .val (.ref o1), .unset, .unset, .unset, .unset] [(.int (0 : Int32))])) _
        refine XS.ifYes X205.here hx rfl (pc0 := 75) (pc' := 85) rfl (hb hby at_75) rfl ((if0 _ _).trans (flt (by decide : ¬ ((0 : Int32) < (0 : Int32)))).2.1) (by decide) (by decide) ?_
        refine XS.iload X205.here hx rfl (hb hby at_85) rfl ?_
        refine XS.ifNo X205.here hx rfl (hb hby at_87) rfl ((if0 _ _).trans (teq (by decide : (0 : Int32) = (0 : Int32))).2) ?_
        refine XS.bipush X205.here hx rfl (hb hby at_90) ?_
        show Steps _ _ _ (T205.setTop (mkF m 92 #[.val (.int p1), .val (.int p2), .val (.int p3), .val (.ref b101), .val (.ref s1), .val (.int (0 : Int32)), .val (.ref o1), .unset, .unset, .unset, .unset] [(.int (61 : Int32))])) _
        refine XS.istore X205.here hx rfl (hb hby at_92) rfl (l' := #[.val (.int p1), .val (.int p2), .val (.int p3), .val (.ref b101), .val (.ref s1), .val (.int (0 : Int32)), .val (.ref o1), .val (.int (61 : Int32)), .unset, .unset, .unset]) rfl ?_
        refine XS.goto X205.here hx rfl (pc0 := 94) (pc' := 101) rfl (hb hby at_94) (by decide) (by decide) ?_
        refine XS.aload X205.here hx rfl (hb hby at_101) rfl rfl ?_
        refine XS.iload X205.here hx rfl (hb hby at_103) rfl ?_
        show Steps _ _ _ (T205.setTop (mkF m 105 #[.val (.int p1), .val (.int p2), .val (.int p3), .val (.ref b101), .val (.ref s1), .val (.int (0 : Int32)), .val (.ref o1), .val (.int (61 : Int32)), .unset, .unset, .unset] [(.int (61 : Int32)), (.ref o1)])) _
        refine st206 _ ?_
        refine XS.istore X206.here hx rfl (hb hby at_108) rfl (l' := #[.val (.int p1), .val (.int p2), .val (.int p3), .val (.ref b101), .val (.ref s1), .val (.int (0 : Int32)), .val (.ref o1), .val (.int (61 : Int32)), .val (.int (1 : Int32)), .unset, .unset]) rfl ?_
        refine XS.aload X206.here hx rfl (hb hby at_110) rfl rfl ?_
        refine st207.trans ?_
        show Steps _ _ _ (T207.setTop (mkF m 115 #[.val (.int p1), .val (.int p2), .val (.int p3), .val (.ref b101), .val (.ref s1), .val (.int (0 : Int32)), .val (.ref o1), .val (.int (61 : Int32)), .val (.int (1 : Int32)), .unset, .unset] [(.int (2 : Int32))])) _
        refine XS.iconst X207.here hx rfl (hb hby at_115) ?_
        refine XS.icmpNo X207.here hx rfl (hb hby at_116) rfl (flt (by decide : ¬ ((2 : Int32) < (1 : Int32)))).1 ?_
        refine XS.aload X207.here hx rfl (hb hby at_119) rfl rfl ?_
        refine XS.iconst X207.here hx rfl (hb hby at_121) ?_
        show Steps _ _ _ (T207.setTop (mkF m 122 #[.val (.int p1), .val (.int p2), .val (.int p3), .val (.ref b101), .val (.ref s1), .val (.int (0 : Int32)), .val (.ref o1), .val (.int (61 : Int32)), .val (.int (1 : Int32)), .unset, .unset] [(.int (0 : Int32)), (.ref o1)])) _
        refine st208.trans ?_
        refine XS.bipush X208.here hx rfl (hb hby at_125) ?_
        refine XS.icmpYes X208.here hx rfl (pc0 := 127) (pc' := 134) rfl (hb hby at_127) rfl (feq (by decide : ¬ ((60 : Int32) = (33 : Int32)))).2 (by decide) (by decide) ?_
        refine XS.iconst X208.here hx rfl (hb hby at_134) ?_
        show Steps _ _ _ (T208.setTop (mkF m 135 #[.val (.int p1), .val (.int p2), .val (.int p3), .val (.ref b101), .val (.ref s1), .val (.int (0 : Int32)), .val (.ref o1), .val (.int (61 : Int32)), .val (.int (1 : Int32)), .unset, .unset] [(.int (0 : Int32))])) _
        refine XS.istore X208.here hx rfl (hb hby at_135) rfl (l' := #[.val (.int p1), .val (.int p2), .val (.int p3), .val (.ref b101), .val (.ref s1), .val (.int (0 : Int32)), .val (.ref o1), .val (.int (61 : Int32)), .val (.int (1 : Int32)), .val (.int (0 : Int32)), .unset]) rfl ?_
        refine XS.iload X208.here hx rfl (hb hby at_137) rfl ?_
        refine XS.ifYes X208.here hx rfl (pc0 := 139) (pc' := 155) rfl (hb hby at_139) rfl ((if0 _ _).trans (teq (by decide : (0 : Int32) = (0 : Int32))).1) (by decide) (by decide) ?_
        refine XS.iload X208.here hx rfl (hb hby at_155) rfl ?_
        show Steps _ _ _ (T208.setTop (mkF m 157 #[.val (.int p1), .val (.int p2), .val (.int p3), .val (.ref b101), .val (.ref s1), .val (.int (0 : Int32)), .val (.ref o1), .val (.int (61 : Int32)), .val (.int (1 : Int32)), .val (.int (0 : Int32)), .unset] [(.int (1 : Int32))])) _
        refine XS.istore X208.here hx rfl (hb hby at_157) rfl (l' := #[.val (.int p1), .val (.int p2), .val (.int p3), .val (.ref b101), .val (.ref s1), .val (.int (0 : Int32)), .val (.ref o1), .val (.int (61 : Int32)), .val (.int (1 : Int32)), .val (.int (0 : Int32)), .val (.int (1 : Int32))]) rfl ?_
        refine XS.aload X208.here hx rfl (hb hby at_159) rfl rfl ?_
        refine XS.iload X208.here hx rfl (hb hby at_161) rfl ?_
        refine st209.trans ?_
        show Steps _ _ _ (T209.setTop (mkF m 166 #[.val (.int p1), .val (.int p2), .val (.int p3), .val (.ref b101), .val (.ref s1), .val (.int (0 : Int32)), .val (.ref o1), .val (.int (61 : Int32)), .val (.int (1 : Int32)), .val (.int (0 : Int32)), .val (.int (1 : Int32))] [(.int (own_h1 (0 : Int32)))])) _
        refine XS.iload X209.here hx rfl (hb hby at_166) rfl ?_
        refine XS.icmpNo X209.here hx rfl (hb hby at_168) rfl (teq (by decide)).2 ?_
        refine XS.iconst X209.here hx rfl (hb hby at_171) ?_
        refine XS.goto X209.here hx rfl (pc0 := 172) (pc' := 176) rfl (hb hby at_172) (by decide) (by decide) ?_
        show Steps _ _ _ (T209.setTop (mkF m 176 #[.val (.int p1), .val (.int p2), .val (.int p3), .val (.ref b101), .val (.ref s1), .val (.int (0 : Int32)), .val (.ref o1), .val (.int (61 : Int32)), .val (.int (1 : Int32)), .val (.int (0 : Int32)), .val (.int (1 : Int32))] [(.int (1 : Int32))])) _
        exact retN X209 hx (t := .boolean) Bd.returns (by simp) (hb hby at_176) hr
      · show Qown_law Z p1 p2 p3 s0 o0 v0 s1 o1 v1 s2 o2 v2 s3 o3 v3 s4 o4 v4 s5 o5 v5 kc0 kc1 kc2 kc3 kc4 kc5 cs fv h0 n0 _ T209.heap _
        rw [e209]
        exact ⟨rfl, N209⟩
  · skip
    rw [hs159] at pre158
    obtain ⟨cl210, Ar210, Aq210, As210, An210, Ah210, Ag210⟩ := id V131
    have hin210 : ¬ ((2 : Int32) < 0 ∨ cl210.slots.size ≤ ((2 : Int32)).toNatClampNeg) := inb_of As210 ⟨by decide, by decide⟩
    have pre211 : ∀ t, Steps p.tables e below (T131.setTop (mkF m 56 #[.val (.int p1), .val (.int p2), .val (.int p3), .val (.ref b101), .val (.ref s2), .unset, .unset, .unset, .unset, .unset, .unset] [(.int (p3 &&& (1 : Int32)))])) t → Steps p.tables e below (s₁.setTop (entryFrame m #[(.int p1), (.int p2), (.int p3)] maxLocals)) t := fun t kt => pre158 t (by
      show Steps _ _ _ (T131.setTop (mkF m 50 #[.val (.int p1), .val (.int p2), .val (.int p3), .val (.ref b101), .unset, .unset, .unset, .unset, .unset, .unset, .unset] [(.int (2 : Int32)), (.ref b101)])) _
      refine X131.aaload hx (j := (2 : Int32)) (v := (.ref s2)) (by rw [e131]; exact Ar210.1) (State.isArrayOf_alike hZ.alike Ar210.2.1) rfl Ar210.2.2 hin210 (Ah210.at hin210 rfl) (g := (mkF m 50 #[.val (.int p1), .val (.int p2), .val (.int p3), .val (.ref b101), .unset, .unset, .unset, .unset, .unset, .unset, .unset] [(.int (2 : Int32)), (.ref b101)])) rfl rfl (hb hby at_50) _ ?_
      refine XS.astore X131.here hx rfl (hb hby at_51) rfl rfl (l' := #[.val (.int p1), .val (.int p2), .val (.int p3), .val (.ref b101), .val (.ref s2), .unset, .unset, .unset, .unset, .unset, .unset]) rfl ?_
      refine XS.iloadN X131.here hx rfl (hb hby at_53) rfl ?_
      refine XS.iconst X131.here hx rfl (hb hby at_54) ?_
      show Steps _ _ _ (T131.setTop (mkF m 55 #[.val (.int p1), .val (.int p2), .val (.int p3), .val (.ref b101), .val (.ref s2), .unset, .unset, .unset, .unset, .unset, .unset] [(.int (1 : Int32)), (.int p3)])) _
      refine XS.iand X131.here hx rfl (hb hby at_55) rfl ?_
      exact kt)
    by_cases hc56_212 : (p3 &&& (1 : Int32)) = (0 : Int32)
    · skip
      have ihc56_212 := (own_eq (b := (0 : Int32)) (k := 0) rfl).mp hc56_212
      obtain ⟨cq213, kq213, q213a, q213b, q213c⟩ := isOf hZ e131 c142
      obtain ⟨_, _, ⟨T213, L213, k213, n213⟩, -, X213, ⟨Lc213, hQ213, l213, y213, z213⟩, st213⟩ := X131.virtualBack hx (y := own_m8) (z := own_m8) hown (mvT hZ (own_w17 hw)) (mvT hZ (own_w18 hw)) (notFace_of_selects (args := #[]) (mvT hZ (own_w20 hw))) (mvT hZ (own_w20 hw)) (mvT hZ (own_w19 hw)) (by decide) (backOf (W := 0) (own_op l Z a0 hw [] s2 o2 h131 n0 Z131 c144) hZ (own_w21 hw) (own_w3 hw) (by decide) (by decide)) q213a q213c (g := (mkF m 68 #[.val (.int p1), .val (.int p2), .val (.int p3), .val (.ref b101), .val (.ref s2), .val (.int p2), .unset, .unset, .unset, .unset, .unset] [(.ref s2)])) rfl (by rw [hml]; rfl) (Steps.refl _) (argsL := []) (rest := []) (lenOf own_pd7 rfl) rfl (by show 2 * 0 + _ ≤ _; exact Nat.le_of_eq rfl) (hb hby at_68) (fun _ _ => ⟨rfl, e131, (by decide : 1 + 0 ≤ _), (by decide : 6 + 0 ≤ _)⟩)
      dsimp only [Pt.U, Pt.locs, Pt.cells, Pt.slots] at X213 l213 y213 z213 st213 hQ213
      subst l213 y213 z213
      obtain ⟨rfl, N213q, e213⟩ := hQ213
      have N213 := Fr.app N131 N213q
      have pre214 : ∀ t, Steps p.tables e below (T213.setTop (mkF m 75 #[.val (.int p1), .val (.int p2), .val (.int p3), .val (.ref b101), .val (.ref s2), .val (.int p2), .val (.ref o2), .unset, .unset, .unset, .unset] [(.int p2)])) t → Steps p.tables e below (s₁.setTop (entryFrame m #[(.int p1), (.int p2), (.int p3)] maxLocals)) t := fun t kt => pre211 t (by
        show Steps _ _ _ (T131.setTop (mkF m 56 #[.val (.int p1), .val (.int p2), .val (.int p3), .val (.ref b101), .val (.ref s2), .unset, .unset, .unset, .unset, .unset, .unset] [(.int (p3 &&& (1 : Int32)))])) _
        refine XS.ifYes X131.here hx rfl (pc0 := 56) (pc' := 63) rfl (hb hby at_56) rfl ((if0 _ _).trans (teq hc56_212).1) (by decide) (by decide) ?_
        refine XS.iloadN X131.here hx rfl (hb hby at_63) rfl ?_
        refine XS.istore X131.here hx rfl (hb hby at_64) rfl (l' := #[.val (.int p1), .val (.int p2), .val (.int p3), .val (.ref b101), .val (.ref s2), .val (.int p2), .unset, .unset, .unset, .unset, .unset]) rfl ?_
        refine XS.aload X131.here hx rfl (hb hby at_66) rfl rfl ?_
        show Steps _ _ _ (T131.setTop (mkF m 68 #[.val (.int p1), .val (.int p2), .val (.int p3), .val (.ref b101), .val (.ref s2), .val (.int p2), .unset, .unset, .unset, .unset, .unset] [(.ref s2)])) _
        refine st213.trans ?_
        refine XS.astore X213.here hx rfl (hb hby at_71) rfl rfl (l' := #[.val (.int p1), .val (.int p2), .val (.int p3), .val (.ref b101), .val (.ref s2), .val (.int p2), .val (.ref o2), .unset, .unset, .unset, .unset]) rfl ?_
        refine XS.iload X213.here hx rfl (hb hby at_73) rfl ?_
        exact kt)
      by_cases hc75_215 : p2 < (0 : Int32)
      · skip
        have ihc75_215 := (own_lt (b := (0 : Int32)) (k := 0) rfl).mp hc75_215
        obtain ⟨_, _, ⟨T216, L216, k216, n216⟩, -, X216, ⟨Lc216, hQ216, l216, y216, z216⟩, st216⟩ := Jvm.LawKit.callS X213 hx (y := own_m7) hown (mvT hZ (own_w24 hw)) (mvT hZ (own_w25 hw)) (mvT hZ (own_w26 hw)) (mvT hZ (own_w27 hw)) (by decide) (backOf (W := 0) (own_hasGEL l Z a0 hw [] o2 v2 kc2 cs fv h131 n0 Z131 c145 c132 hcs c133 hfv) hZ (own_w27 hw) (own_w26 hw) (by decide) (by decide)) (g := (mkF m 105 #[.val (.int p1), .val (.int p2), .val (.int p3), .val (.ref b101), .val (.ref s2), .val (.int p2), .val (.ref o2), .val (.int (60 : Int32)), .unset, .unset, .unset] [(.int (60 : Int32)), (.ref o2)])) rfl (by rw [hml]; rfl) (argsL := [(.ref o2), (.int (60 : Int32))]) (rest := []) (lenOf own_pd8 rfl) rfl (by show 2 * 0 + _ ≤ _; exact Nat.le_of_eq rfl) (hb hby at_105) (fun _ _ => ⟨rfl, e213, (by decide : 1 + 0 ≤ _), (by decide : 6 + 0 ≤ _)⟩)
        dsimp only [Pt.U, Pt.locs, Pt.cells, Pt.slots] at X216 l216 y216 z216 st216 hQ216
        subst l216 y216 z216
        obtain ⟨rfl, N216q, e216⟩ := hQ216
        have N216 := Fr.app N213 N216q
        obtain ⟨cq217, kq217, q217a, q217b, q217c⟩ := isOf hZ e216 c145.1
        obtain ⟨_, _, ⟨T217, L217, k217, n217⟩, -, X217, ⟨Lc217, hQ217, l217, y217, z217⟩, st217⟩ := X216.virtualBack hx (y := own_m6) (z := own_m6) hown (mvT hZ (own_w28 hw)) (mvT hZ (own_w29 hw)) (notFace_of_selects (args := #[]) (mvT hZ (own_w31 hw))) (mvT hZ (own_w31 hw)) (mvT hZ (own_w30 hw)) (by decide) (backOf (W := 0) (own_lenGE l Z a0 hw [] o2 v2 kc2 cs fv h131 n0 Z131 c145 c132 hcs c133 hfv) hZ (own_w33 hw) (own_w32 hw) (by decide) (by decide)) q217a q217c (g := (mkF m 112 #[.val (.int p1), .val (.int p2), .val (.int p3), .val (.ref b101), .val (.ref s2), .val (.int p2), .val (.ref o2), .val (.int (60 : Int32)), .val (.int (0 : Int32)), .unset, .unset] [(.ref o2)])) rfl (by rw [hml]; rfl) (Steps.refl _) (argsL := []) (rest := []) (lenOf own_pd5 rfl) rfl (by show 2 * 0 + _ ≤ _; exact Nat.le_of_eq rfl) (hb hby at_112) (fun _ _ => ⟨rfl, e216, (by decide : 1 + 0 ≤ _), (by decide : 6 + 0 ≤ _)⟩)
        dsimp only [Pt.U, Pt.locs, Pt.cells, Pt.slots] at X217 l217 y217 z217 st217 hQ217
        subst l217 y217 z217
        obtain ⟨rfl, N217q, e217⟩ := hQ217
        have N217 := Fr.app N216 N217q
        obtain ⟨cq218, kq218, q218a, q218b, q218c⟩ := isOf hZ e217 c145.1
        obtain ⟨_, _, ⟨T218, L218, k218, n218⟩, -, X218, ⟨Lc218, hQ218, l218, y218, z218⟩, st218⟩ := X217.virtualBack hx (y := own_m5) (z := own_m5) hown (mvT hZ (own_w44 hw)) (mvT hZ (own_w45 hw)) (notFace_of_selects (args := #[]) (mvT hZ (own_w47 hw))) (mvT hZ (own_w47 hw)) (mvT hZ (own_w46 hw)) (by decide) (backOf (W := 0) (own_caGE0 l Z a0 hw [] o2 v2 kc2 cs fv h131 n0 Z131 c145 c132 hcs c133 hfv) hZ (own_w48 hw) (own_w32 hw) (by decide) (by decide)) q218a q218c (g := (mkF m 122 #[.val (.int p1), .val (.int p2), .val (.int p3), .val (.ref b101), .val (.ref s2), .val (.int p2), .val (.ref o2), .val (.int (60 : Int32)), .val (.int (0 : Int32)), .unset, .unset] [(.int (0 : Int32)), (.ref o2)])) rfl (by rw [hml]; rfl) (Steps.refl _) (argsL := [(.int (0 : Int32))]) (rest := []) (lenOf own_pd6 rfl) rfl (by show 2 * 0 + _ ≤ _; exact Nat.le_of_eq rfl) (hb hby at_122) (fun _ _ => ⟨rfl, e217, (by decide : 1 + 0 ≤ _), (by decide : 6 + 0 ≤ _)⟩)
        dsimp only [Pt.U, Pt.locs, Pt.cells, Pt.slots] at X218 l218 y218 z218 st218 hQ218
        subst l218 y218 z218
        obtain ⟨rfl, N218q, e218⟩ := hQ218
        have N218 := Fr.app N217 N218q
        obtain ⟨cq219, kq219, q219a, q219b, q219c⟩ := isOf hZ e218 c142
        obtain ⟨_, _, ⟨T219, L219, k219, n219⟩, -, X219, ⟨Lc219, hQ219, l219, y219, z219⟩, st219⟩ := X218.virtualBack hx (y := own_m10) (z := own_m10) hown (mvT hZ (own_w66 hw)) (mvT hZ (own_w67 hw)) (notFace_of_selects (args := #[]) (mvT hZ (own_w69 hw))) (mvT hZ (own_w69 hw)) (mvT hZ (own_w68 hw)) (by decide) (backOf (W := 0) (own_holds2 l Z a0 hw [] s2 p2 h131 n0 Z131 c142 c143) hZ (own_w70 hw) (own_w3 hw) (by decide) (by decide)) q219a q219c (g := (mkF m 163 #[.val (.int p1), .val (.int p2), .val (.int p3), .val (.ref b101), .val (.ref s2), .val (.int p2), .val (.ref o2), .val (.int (60 : Int32)), .val (.int (0 : Int32)), .val (.int (0 : Int32)), .val (.int (0 : Int32))] [(.int p2), (.ref s2)])) rfl (by rw [hml]; rfl) (Steps.refl _) (argsL := [(.int p2)]) (rest := []) (lenOf own_pd9 rfl) rfl (by show 2 * 0 + _ ≤ _; exact Nat.le_of_eq rfl) (hb hby at_163) (fun _ _ => ⟨rfl, e218, (by decide : 1 + 0 ≤ _), (by decide : 6 + 0 ≤ _)⟩)
        dsimp only [Pt.U, Pt.locs, Pt.cells, Pt.slots] at X219 l219 y219 z219 st219 hQ219
        subst l219 y219 z219
        obtain ⟨rfl, N219q, e219⟩ := hQ219
        have N219 := Fr.app N218 N219q
        obtain ⟨fs, hr, hrun, hended, hW, hsame⟩ := X219.leave (v := some (.int (1 : Int32))) (fun h => by rw [Bd.returns] at h; cases h)
        refine ⟨_, _, pre214 _ ?_, hrun, hended, _, _, rfl, ?_, ⟨_, rfl⟩, hW, hsame.mono (by decide) (by decide)⟩
        · show Steps _ _ _ (T213.setTop (mkF m 75 #[.val (.int p1), .val (.int p2), .val (.int p3), .val (.ref b101), .val (.ref s2), .val (.int p2), .val (.ref o2), .unset, .unset, .unset, .unset] [(.int p2)])) _
          refine XS.ifNo X213.here hx rfl (hb hby at_75) rfl ((if0 _ _).trans (tlt hc75_215).2.1) ?_
          refine XS.bipush X213.here hx rfl (hb hby at_78) ?_
          refine XS.istore X213.here hx rfl (hb hby at_80) rfl (l' := #[.val (.int p1), .val (.int p2), .val (.int p3), .val (.ref b101), .val (.ref s2), .val (.int p2), .val (.ref o2), .val (.int (60 : Int32)), .unset, .unset, .unset]) rfl ?_
          refine XS.goto X213.here hx rfl (pc0 := 82) (pc' := 101) rfl (hb hby at_82) (by decide) (by decide) ?_
          show Steps _ _ _ (T213.setTop (mkF m 101 #[.val (.int p1), .val (.int p2), .val (.int p3), .val (.ref b101), .val (.ref s2), .val (.int p2), .val (.ref o2), .val (.int (60 : Int32)), .unset, .unset, .unset] [])) _
          refine XS.aload X213.here hx rfl (hb hby at_101) rfl rfl ?_
          refine XS.iload X213.here hx rfl (hb hby at_103) rfl ?_
          refine st216 _ ?_
          refine XS.istore X216.here hx rfl (hb hby at_108) rfl (l' := #[.val (.int p1), .val (.int p2), .val (.int p3), .val (.ref b101), .val (.ref s2), .val (.int p2), .val (.ref o2), .val (.int (60 : Int32)), .val (.int (0 : Int32)), .unset, .unset]) rfl ?_
          show Steps _ _ _ (T216.setTop (mkF m 110 #[.val (.int p1), .val (.int p2), .val (.int p3), .val (.ref b101), .val (.ref s2), .val (.int p2), .val (.ref o2), .val (.int (60 : Int32)), .val (.int (0 : Int32)), .unset, .unset] [])) _
          refine XS.aload X216.here hx rfl (hb hby at_110) rfl rfl ?_
          refine st217.trans ?_
          refine XS.iconst X217.here hx rfl (hb hby at_115) ?_
          refine XS.icmpNo X217.here hx rfl (hb hby at_116) rfl (flt (by decide : ¬ ((2 : Int32) < (1 : Int32)))).1 ?_
          show Steps _ _ _ (T217.setTop (mkF m 119 #[.val (.int p1), .val (.int p2), .val (.int p3), .val (.ref b101), .val (.ref s2), .val (.int p2), .val (.ref o2), .val (.int (60 : Int32)), .val (.int (0 : Int32)), .unset, .unset] [])) _
          refine XS.aload X217.here hx rfl (hb hby at_119) rfl rfl ?_
          refine XS.iconst X217.here hx rfl (hb hby at_121) ?_
          refine st218.trans ?_
          refine XS.bipush X218.here hx rfl (hb hby at_125) ?_
          show Steps _ _ _ (T218.setTop (mkF m 127 #[.val (.int p1), .val (.int p2), .val (.int p3), .val (.ref b101), .val (.ref s2), .val (.int p2), .val (.ref o2), .val (.int (60 : Int32)), .val (.int (0 : Int32)), .unset, .unset] [(.int (33 : Int32)), (.int (62 : Int32))])) _
          refine XS.icmpYes X218.here hx rfl (pc0 := 127) (pc' := 134) rfl (hb hby at_127) rfl (feq (by decide : ¬ ((62 : Int32) = (33 : Int32)))).2 (by decide) (by decide) ?_
          refine XS.iconst X218.here hx rfl (hb hby at_134) ?_
          refine XS.istore X218.here hx rfl (hb hby at_135) rfl (l' := #[.val (.int p1), .val (.int p2), .val (.int p3), .val (.ref b101), .val (.ref s2), .val (.int p2), .val (.ref o2), .val (.int (60 : Int32)), .val (.int (0 : Int32)), .val (.int (0 : Int32)), .unset]) rfl ?_
          refine XS.iload X218.here hx rfl (hb hby at_137) rfl ?_
          show Steps _ _ _ (T218.setTop (mkF m 139 #[.val (.int p1), .val (.int p2), .val (.int p3), .val (.ref b101), .val (.ref s2), .val (.int p2), .val (.ref o2), .val (.int (60 : Int32)), .val (.int (0 : Int32)), .val (.int (0 : Int32)), .unset] [(.int (0 : Int32))])) _
          refine XS.ifYes X218.here hx rfl (pc0 := 139) (pc' := 155) rfl (hb hby at_139) rfl ((if0 _ _).trans (teq (by decide : (0 : Int32) = (0 : Int32))).1) (by decide) (by decide) ?_
          refine XS.iload X218.here hx rfl (hb hby at_155) rfl ?_
          refine XS.istore X218.here hx rfl (hb hby at_157) rfl (l' := #[.val (.int p1), .val (.int p2), .val (.int p3), .val (.ref b101), .val (.ref s2), .val (.int p2), .val (.ref o2), .val (.int (60 : Int32)), .val (.int (0 : Int32)), .val (.int (0 : Int32)), .val (.int (0 : Int32))]) rfl ?_
          refine XS.aload X218.here hx rfl (hb hby at_159) rfl rfl ?_
          show Steps _ _ _ (T218.setTop (mkF m 161 #[.val (.int p1), .val (.int p2), .val (.int p3), .val (.ref b101), .val (.ref s2), .val (.int p2), .val (.ref o2), .val (.int (60 : Int32)), .val (.int (0 : Int32)), .val (.int (0 : Int32)), .val (.int (0 : Int32))] [(.ref s2)])) _
          refine XS.iload X218.here hx rfl (hb hby at_161) rfl ?_
          refine st219.trans ?_
          refine XS.iload X219.here hx rfl (hb hby at_166) rfl ?_
          refine XS.icmpNo X219.here hx rfl (hb hby at_168) rfl (teq (by unfold own_h2; exact if_neg (by omega))).2 ?_
          show Steps _ _ _ (T219.setTop (mkF m 171 #[.val (.int p1), .val (.int p2), .val (.int p3), .val (.ref b101), .val (.ref s2), .val (.int p2), .val (.ref o2), .val (.int (60 : Int32)), .val (.int (0 : Int32)), .val (.int (0 : Int32)), .val (.int (0 : Int32))] [])) _
          refine XS.iconst X219.here hx rfl (hb hby at_171) ?_
          refine XS.goto X219.here hx rfl (pc0 := 172) (pc' := 176) rfl (hb hby at_172) (by decide) (by decide) ?_
          show Steps _ _ _ (T219.setTop (mkF m 176 #[.val (.int p1), .val (.int p2), .val (.int p3), .val (.ref b101), .val (.ref s2), .val (.int p2), .val (.ref o2), .val (.int (60 : Int32)), .val (.int (0 : Int32)), .val (.int (0 : Int32)), .val (.int (0 : Int32))] [(.int (1 : Int32))])) _
          exact retN X219 hx (t := .boolean) Bd.returns (by simp) (hb hby at_176) hr
        · show Qown_law Z p1 p2 p3 s0 o0 v0 s1 o1 v1 s2 o2 v2 s3 o3 v3 s4 o4 v4 s5 o5 v5 kc0 kc1 kc2 kc3 kc4 kc5 cs fv h0 n0 _ T219.heap _
          rw [e219]
          exact ⟨rfl, N219⟩
      · skip
        have ihc75_215 := (mt (own_lt (b := (0 : Int32)) (k := 0) rfl).mpr hc75_215)
        have pre220 : ∀ t, Steps p.tables e below (T213.setTop (mkF m 87 #[.val (.int p1), .val (.int p2), .val (.int p3), .val (.ref b101), .val (.ref s2), .val (.int p2), .val (.ref o2), .unset, .unset, .unset, .unset] [(.int p2)])) t → Steps p.tables e below (s₁.setTop (entryFrame m #[(.int p1), (.int p2), (.int p3)] maxLocals)) t := fun t kt => pre214 t (by
          show Steps _ _ _ (T213.setTop (mkF m 75 #[.val (.int p1), .val (.int p2), .val (.int p3), .val (.ref b101), .val (.ref s2), .val (.int p2), .val (.ref o2), .unset, .unset, .unset, .unset] [(.int p2)])) _
          refine XS.ifYes X213.here hx rfl (pc0 := 75) (pc' := 85) rfl (hb hby at_75) rfl ((if0 _ _).trans (flt hc75_215).2.1) (by decide) (by decide) ?_
          refine XS.iload X213.here hx rfl (hb hby at_85) rfl ?_
          exact kt)
        by_cases hc87_221 : p2 = (0 : Int32)
        · skip
          have ihc87_221 := (own_eq (b := (0 : Int32)) (k := 0) rfl).mp hc87_221
          obtain ⟨_, _, ⟨T222, L222, k222, n222⟩, -, X222, ⟨Lc222, hQ222, l222, y222, z222⟩, st222⟩ := Jvm.LawKit.callS X213 hx (y := own_m7) hown (mvT hZ (own_w24 hw)) (mvT hZ (own_w25 hw)) (mvT hZ (own_w26 hw)) (mvT hZ (own_w27 hw)) (by decide) (backOf (W := 0) (own_hasGEE l Z a0 hw [] o2 v2 kc2 cs fv h131 n0 Z131 c145 c132 hcs c133 hfv) hZ (own_w27 hw) (own_w26 hw) (by decide) (by decide)) (g := (mkF m 105 #[.val (.int p1), .val (.int p2), .val (.int p3), .val (.ref b101), .val (.ref s2), .val (.int p2), .val (.ref o2), .val (.int (61 : Int32)), .unset, .unset, .unset] [(.int (61 : Int32)), (.ref o2)])) rfl (by rw [hml]; rfl) (argsL := [(.ref o2), (.int (61 : Int32))]) (rest := []) (lenOf own_pd8 rfl) rfl (by show 2 * 0 + _ ≤ _; exact Nat.le_of_eq rfl) (hb hby at_105) (fun _ _ => ⟨rfl, e213, (by decide : 1 + 0 ≤ _), (by decide : 6 + 0 ≤ _)⟩)
          dsimp only [Pt.U, Pt.locs, Pt.cells, Pt.slots] at X222 l222 y222 z222 st222 hQ222
          subst l222 y222 z222
          obtain ⟨rfl, N222q, e222⟩ := hQ222
          have N222 := Fr.app N213 N222q
          obtain ⟨cq223, kq223, q223a, q223b, q223c⟩ := isOf hZ e222 c145.1
          obtain ⟨_, _, ⟨T223, L223, k223, n223⟩, -, X223, ⟨Lc223, hQ223, l223, y223, z223⟩, st223⟩ := X222.virtualBack hx (y := own_m6) (z := own_m6) hown (mvT hZ (own_w28 hw)) (mvT hZ (own_w29 hw)) (notFace_of_selects (args := #[]) (mvT hZ (own_w31 hw))) (mvT hZ (own_w31 hw)) (mvT hZ (own_w30 hw)) (by decide) (backOf (W := 0) (own_lenGE l Z a0 hw [] o2 v2 kc2 cs fv h131 n0 Z131 c145 c132 hcs c133 hfv) hZ (own_w33 hw) (own_w32 hw) (by decide) (by decide)) q223a q223c (g := (mkF m 112 #[.val (.int p1), .val (.int p2), .val (.int p3), .val (.ref b101), .val (.ref s2), .val (.int p2), .val (.ref o2), .val (.int (61 : Int32)), .val (.int (1 : Int32)), .unset, .unset] [(.ref o2)])) rfl (by rw [hml]; rfl) (Steps.refl _) (argsL := []) (rest := []) (lenOf own_pd5 rfl) rfl (by show 2 * 0 + _ ≤ _; exact Nat.le_of_eq rfl) (hb hby at_112) (fun _ _ => ⟨rfl, e222, (by decide : 1 + 0 ≤ _), (by decide : 6 + 0 ≤ _)⟩)
          dsimp only [Pt.U, Pt.locs, Pt.cells, Pt.slots] at X223 l223 y223 z223 st223 hQ223
          subst l223 y223 z223
          obtain ⟨rfl, N223q, e223⟩ := hQ223
          have N223 := Fr.app N222 N223q
          obtain ⟨cq224, kq224, q224a, q224b, q224c⟩ := isOf hZ e223 c145.1
          obtain ⟨_, _, ⟨T224, L224, k224, n224⟩, -, X224, ⟨Lc224, hQ224, l224, y224, z224⟩, st224⟩ := X223.virtualBack hx (y := own_m5) (z := own_m5) hown (mvT hZ (own_w44 hw)) (mvT hZ (own_w45 hw)) (notFace_of_selects (args := #[]) (mvT hZ (own_w47 hw))) (mvT hZ (own_w47 hw)) (mvT hZ (own_w46 hw)) (by decide) (backOf (W := 0) (own_caGE0 l Z a0 hw [] o2 v2 kc2 cs fv h131 n0 Z131 c145 c132 hcs c133 hfv) hZ (own_w48 hw) (own_w32 hw) (by decide) (by decide)) q224a q224c (g := (mkF m 122 #[.val (.int p1), .val (.int p2), .val (.int p3), .val (.ref b101), .val (.ref s2), .val (.int p2), .val (.ref o2), .val (.int (61 : Int32)), .val (.int (1 : Int32)), .unset, .unset] [(.int (0 : Int32)), (.ref o2)])) rfl (by rw [hml]; rfl) (Steps.refl _) (argsL := [(.int (0 : Int32))]) (rest := []) (lenOf own_pd6 rfl) rfl (by show 2 * 0 + _ ≤ _; exact Nat.le_of_eq rfl) (hb hby at_122) (fun _ _ => ⟨rfl, e223, (by decide : 1 + 0 ≤ _), (by decide : 6 + 0 ≤ _)⟩)
          dsimp only [Pt.U, Pt.locs, Pt.cells, Pt.slots] at X224 l224 y224 z224 st224 hQ224
          subst l224 y224 z224
          obtain ⟨rfl, N224q, e224⟩ := hQ224
          have N224 := Fr.app N223 N224q
          obtain ⟨cq225, kq225, q225a, q225b, q225c⟩ := isOf hZ e224 c142
          obtain ⟨_, _, ⟨T225, L225, k225, n225⟩, -, X225, ⟨Lc225, hQ225, l225, y225, z225⟩, st225⟩ := X224.virtualBack hx (y := own_m10) (z := own_m10) hown (mvT hZ (own_w66 hw)) (mvT hZ (own_w67 hw)) (notFace_of_selects (args := #[]) (mvT hZ (own_w69 hw))) (mvT hZ (own_w69 hw)) (mvT hZ (own_w68 hw)) (by decide) (backOf (W := 0) (own_holds2 l Z a0 hw [] s2 p2 h131 n0 Z131 c142 c143) hZ (own_w70 hw) (own_w3 hw) (by decide) (by decide)) q225a q225c (g := (mkF m 163 #[.val (.int p1), .val (.int p2), .val (.int p3), .val (.ref b101), .val (.ref s2), .val (.int p2), .val (.ref o2), .val (.int (61 : Int32)), .val (.int (1 : Int32)), .val (.int (0 : Int32)), .val (.int (1 : Int32))] [(.int p2), (.ref s2)])) rfl (by rw [hml]; rfl) (Steps.refl _) (argsL := [(.int p2)]) (rest := []) (lenOf own_pd9 rfl) rfl (by show 2 * 0 + _ ≤ _; exact Nat.le_of_eq rfl) (hb hby at_163) (fun _ _ => ⟨rfl, e224, (by decide : 1 + 0 ≤ _), (by decide : 6 + 0 ≤ _)⟩)
          dsimp only [Pt.U, Pt.locs, Pt.cells, Pt.slots] at X225 l225 y225 z225 st225 hQ225
          subst l225 y225 z225
          obtain ⟨rfl, N225q, e225⟩ := hQ225
          have N225 := Fr.app N224 N225q
          obtain ⟨fs, hr, hrun, hended, hW, hsame⟩ := X225.leave (v := some (.int (1 : Int32))) (fun h => by rw [Bd.returns] at h; cases h)
          refine ⟨_, _, pre220 _ ?_, hrun, hended, _, _, rfl, ?_, ⟨_, rfl⟩, hW, hsame.mono (by decide) (by decide)⟩
          · show Steps _ _ _ (T213.setTop (mkF m 87 #[.val (.int p1), .val (.int p2), .val (.int p3), .val (.ref b101), .val (.ref s2), .val (.int p2), .val (.ref o2), .unset, .unset, .unset, .unset] [(.int p2)])) _
            refine XS.ifNo X213.here hx rfl (hb hby at_87) rfl ((if0 _ _).trans (teq hc87_221).2) ?_
            refine XS.bipush X213.here hx rfl (hb hby at_90) ?_
            refine XS.istore X213.here hx rfl (hb hby at_92) rfl (l' := #[.val (.int p1), .val (.int p2), .val (.int p3), .val (.ref b101), .val (.ref s2), .val (.int p2), .val (.ref o2), .val (.int (61 : Int32)), .unset, .unset, .unset]) rfl ?_
            refine XS.goto X213.here hx rfl (pc0 := 94) (pc' := 101) rfl (hb hby at_94) (by decide) (by decide) ?_
            show Steps _ _ _ (T213.setTop (mkF m 101 #[.val (.int p1), .val (.int p2), .val (.int p3), .val (.ref b101), .val (.ref s2), .val (.int p2), .val (.ref o2), .val (.int (61 : Int32)), .unset, .unset, .unset] [])) _
            refine XS.aload X213.here hx rfl (hb hby at_101) rfl rfl ?_
            refine XS.iload X213.here hx rfl (hb hby at_103) rfl ?_
            refine st222 _ ?_
            refine XS.istore X222.here hx rfl (hb hby at_108) rfl (l' := #[.val (.int p1), .val (.int p2), .val (.int p3), .val (.ref b101), .val (.ref s2), .val (.int p2), .val (.ref o2), .val (.int (61 : Int32)), .val (.int (1 : Int32)), .unset, .unset]) rfl ?_
            show Steps _ _ _ (T222.setTop (mkF m 110 #[.val (.int p1), .val (.int p2), .val (.int p3), .val (.ref b101), .val (.ref s2), .val (.int p2), .val (.ref o2), .val (.int (61 : Int32)), .val (.int (1 : Int32)), .unset, .unset] [])) _
            refine XS.aload X222.here hx rfl (hb hby at_110) rfl rfl ?_
            refine st223.trans ?_
            refine XS.iconst X223.here hx rfl (hb hby at_115) ?_
            refine XS.icmpNo X223.here hx rfl (hb hby at_116) rfl (flt (by decide : ¬ ((2 : Int32) < (1 : Int32)))).1 ?_
            show Steps _ _ _ (T223.setTop (mkF m 119 #[.val (.int p1), .val (.int p2), .val (.int p3), .val (.ref b101), .val (.ref s2), .val (.int p2), .val (.ref o2), .val (.int (61 : Int32)), .val (.int (1 : Int32)), .unset, .unset] [])) _
            refine XS.aload X223.here hx rfl (hb hby at_119) rfl rfl ?_
            refine XS.iconst X223.here hx rfl (hb hby at_121) ?_
            refine st224.trans ?_
            refine XS.bipush X224.here hx rfl (hb hby at_125) ?_
            show Steps _ _ _ (T224.setTop (mkF m 127 #[.val (.int p1), .val (.int p2), .val (.int p3), .val (.ref b101), .val (.ref s2), .val (.int p2), .val (.ref o2), .val (.int (61 : Int32)), .val (.int (1 : Int32)), .unset, .unset] [(.int (33 : Int32)), (.int (62 : Int32))])) _
            refine XS.icmpYes X224.here hx rfl (pc0 := 127) (pc' := 134) rfl (hb hby at_127) rfl (feq (by decide : ¬ ((62 : Int32) = (33 : Int32)))).2 (by decide) (by decide) ?_
            refine XS.iconst X224.here hx rfl (hb hby at_134) ?_
            refine XS.istore X224.here hx rfl (hb hby at_135) rfl (l' := #[.val (.int p1), .val (.int p2), .val (.int p3), .val (.ref b101), .val (.ref s2), .val (.int p2), .val (.ref o2), .val (.int (61 : Int32)), .val (.int (1 : Int32)), .val (.int (0 : Int32)), .unset]) rfl ?_
            refine XS.iload X224.here hx rfl (hb hby at_137) rfl ?_
            show Steps _ _ _ (T224.setTop (mkF m 139 #[.val (.int p1), .val (.int p2), .val (.int p3), .val (.ref b101), .val (.ref s2), .val (.int p2), .val (.ref o2), .val (.int (61 : Int32)), .val (.int (1 : Int32)), .val (.int (0 : Int32)), .unset] [(.int (0 : Int32))])) _
            refine XS.ifYes X224.here hx rfl (pc0 := 139) (pc' := 155) rfl (hb hby at_139) rfl ((if0 _ _).trans (teq (by decide : (0 : Int32) = (0 : Int32))).1) (by decide) (by decide) ?_
            refine XS.iload X224.here hx rfl (hb hby at_155) rfl ?_
            refine XS.istore X224.here hx rfl (hb hby at_157) rfl (l' := #[.val (.int p1), .val (.int p2), .val (.int p3), .val (.ref b101), .val (.ref s2), .val (.int p2), .val (.ref o2), .val (.int (61 : Int32)), .val (.int (1 : Int32)), .val (.int (0 : Int32)), .val (.int (1 : Int32))]) rfl ?_
            refine XS.aload X224.here hx rfl (hb hby at_159) rfl rfl ?_
            show Steps _ _ _ (T224.setTop (mkF m 161 #[.val (.int p1), .val (.int p2), .val (.int p3), .val (.ref b101), .val (.ref s2), .val (.int p2), .val (.ref o2), .val (.int (61 : Int32)), .val (.int (1 : Int32)), .val (.int (0 : Int32)), .val (.int (1 : Int32))] [(.ref s2)])) _
            refine XS.iload X224.here hx rfl (hb hby at_161) rfl ?_
            refine st225.trans ?_
            refine XS.iload X225.here hx rfl (hb hby at_166) rfl ?_
            refine XS.icmpNo X225.here hx rfl (hb hby at_168) rfl (teq (by unfold own_h2; exact if_pos (by omega))).2 ?_
            show Steps _ _ _ (T225.setTop (mkF m 171 #[.val (.int p1), .val (.int p2), .val (.int p3), .val (.ref b101), .val (.ref s2), .val (.int p2), .val (.ref o2), .val (.int (61 : Int32)), .val (.int (1 : Int32)), .val (.int (0 : Int32)), .val (.int (1 : Int32))] [])) _
            refine XS.iconst X225.here hx rfl (hb hby at_171) ?_
            refine XS.goto X225.here hx rfl (pc0 := 172) (pc' := 176) rfl (hb hby at_172) (by decide) (by decide) ?_
            show Steps _ _ _ (T225.setTop (mkF m 176 #[.val (.int p1), .val (.int p2), .val (.int p3), .val (.ref b101), .val (.ref s2), .val (.int p2), .val (.ref o2), .val (.int (61 : Int32)), .val (.int (1 : Int32)), .val (.int (0 : Int32)), .val (.int (1 : Int32))] [(.int (1 : Int32))])) _
            exact retN X225 hx (t := .boolean) Bd.returns (by simp) (hb hby at_176) hr
          · show Qown_law Z p1 p2 p3 s0 o0 v0 s1 o1 v1 s2 o2 v2 s3 o3 v3 s4 o4 v4 s5 o5 v5 kc0 kc1 kc2 kc3 kc4 kc5 cs fv h0 n0 _ T225.heap _
            rw [e225]
            exact ⟨rfl, N225⟩
        · skip
          have ihc87_221 := (mt (own_eq (b := (0 : Int32)) (k := 0) rfl).mpr hc87_221)
          obtain ⟨_, _, ⟨T226, L226, k226, n226⟩, -, X226, ⟨Lc226, hQ226, l226, y226, z226⟩, st226⟩ := Jvm.LawKit.callS X213 hx (y := own_m7) hown (mvT hZ (own_w24 hw)) (mvT hZ (own_w25 hw)) (mvT hZ (own_w26 hw)) (mvT hZ (own_w27 hw)) (by decide) (backOf (W := 0) (own_hasGEG l Z a0 hw [] o2 v2 kc2 cs fv h131 n0 Z131 c145 c132 hcs c133 hfv) hZ (own_w27 hw) (own_w26 hw) (by decide) (by decide)) (g := (mkF m 105 #[.val (.int p1), .val (.int p2), .val (.int p3), .val (.ref b101), .val (.ref s2), .val (.int p2), .val (.ref o2), .val (.int (62 : Int32)), .unset, .unset, .unset] [(.int (62 : Int32)), (.ref o2)])) rfl (by rw [hml]; rfl) (argsL := [(.ref o2), (.int (62 : Int32))]) (rest := []) (lenOf own_pd8 rfl) rfl (by show 2 * 0 + _ ≤ _; exact Nat.le_of_eq rfl) (hb hby at_105) (fun _ _ => ⟨rfl, e213, (by decide : 1 + 0 ≤ _), (by decide : 6 + 0 ≤ _)⟩)
          dsimp only [Pt.U, Pt.locs, Pt.cells, Pt.slots] at X226 l226 y226 z226 st226 hQ226
          subst l226 y226 z226
          obtain ⟨rfl, N226q, e226⟩ := hQ226
          have N226 := Fr.app N213 N226q
          obtain ⟨cq227, kq227, q227a, q227b, q227c⟩ := isOf hZ e226 c145.1
          obtain ⟨_, _, ⟨T227, L227, k227, n227⟩, -, X227, ⟨Lc227, hQ227, l227, y227, z227⟩, st227⟩ := X226.virtualBack hx (y := own_m6) (z := own_m6) hown (mvT hZ (own_w28 hw)) (mvT hZ (own_w29 hw)) (notFace_of_selects (args := #[]) (mvT hZ (own_w31 hw))) (mvT hZ (own_w31 hw)) (mvT hZ (own_w30 hw)) (by decide) (backOf (W := 0) (own_lenGE l Z a0 hw [] o2 v2 kc2 cs fv h131 n0 Z131 c145 c132 hcs c133 hfv) hZ (own_w33 hw) (own_w32 hw) (by decide) (by decide)) q227a q227c (g := (mkF m 112 #[.val (.int p1), .val (.int p2), .val (.int p3), .val (.ref b101), .val (.ref s2), .val (.int p2), .val (.ref o2), .val (.int (62 : Int32)), .val (.int (1 : Int32)), .unset, .unset] [(.ref o2)])) rfl (by rw [hml]; rfl) (Steps.refl _) (argsL := []) (rest := []) (lenOf own_pd5 rfl) rfl (by show 2 * 0 + _ ≤ _; exact Nat.le_of_eq rfl) (hb hby at_112) (fun _ _ => ⟨rfl, e226, (by decide : 1 + 0 ≤ _), (by decide : 6 + 0 ≤ _)⟩)
          dsimp only [Pt.U, Pt.locs, Pt.cells, Pt.slots] at X227 l227 y227 z227 st227 hQ227
          subst l227 y227 z227
          obtain ⟨rfl, N227q, e227⟩ := hQ227
          have N227 := Fr.app N226 N227q
          obtain ⟨cq228, kq228, q228a, q228b, q228c⟩ := isOf hZ e227 c145.1
          obtain ⟨_, _, ⟨T228, L228, k228, n228⟩, -, X228, ⟨Lc228, hQ228, l228, y228, z228⟩, st228⟩ := X227.virtualBack hx (y := own_m5) (z := own_m5) hown (mvT hZ (own_w44 hw)) (mvT hZ (own_w45 hw)) (notFace_of_selects (args := #[]) (mvT hZ (own_w47 hw))) (mvT hZ (own_w47 hw)) (mvT hZ (own_w46 hw)) (by decide) (backOf (W := 0) (own_caGE0 l Z a0 hw [] o2 v2 kc2 cs fv h131 n0 Z131 c145 c132 hcs c133 hfv) hZ (own_w48 hw) (own_w32 hw) (by decide) (by decide)) q228a q228c (g := (mkF m 122 #[.val (.int p1), .val (.int p2), .val (.int p3), .val (.ref b101), .val (.ref s2), .val (.int p2), .val (.ref o2), .val (.int (62 : Int32)), .val (.int (1 : Int32)), .unset, .unset] [(.int (0 : Int32)), (.ref o2)])) rfl (by rw [hml]; rfl) (Steps.refl _) (argsL := [(.int (0 : Int32))]) (rest := []) (lenOf own_pd6 rfl) rfl (by show 2 * 0 + _ ≤ _; exact Nat.le_of_eq rfl) (hb hby at_122) (fun _ _ => ⟨rfl, e227, (by decide : 1 + 0 ≤ _), (by decide : 6 + 0 ≤ _)⟩)
          dsimp only [Pt.U, Pt.locs, Pt.cells, Pt.slots] at X228 l228 y228 z228 st228 hQ228
          subst l228 y228 z228
          obtain ⟨rfl, N228q, e228⟩ := hQ228
          have N228 := Fr.app N227 N228q
          obtain ⟨cq229, kq229, q229a, q229b, q229c⟩ := isOf hZ e228 c142
          obtain ⟨_, _, ⟨T229, L229, k229, n229⟩, -, X229, ⟨Lc229, hQ229, l229, y229, z229⟩, st229⟩ := X228.virtualBack hx (y := own_m10) (z := own_m10) hown (mvT hZ (own_w66 hw)) (mvT hZ (own_w67 hw)) (notFace_of_selects (args := #[]) (mvT hZ (own_w69 hw))) (mvT hZ (own_w69 hw)) (mvT hZ (own_w68 hw)) (by decide) (backOf (W := 0) (own_holds2 l Z a0 hw [] s2 p2 h131 n0 Z131 c142 c143) hZ (own_w70 hw) (own_w3 hw) (by decide) (by decide)) q229a q229c (g := (mkF m 163 #[.val (.int p1), .val (.int p2), .val (.int p3), .val (.ref b101), .val (.ref s2), .val (.int p2), .val (.ref o2), .val (.int (62 : Int32)), .val (.int (1 : Int32)), .val (.int (0 : Int32)), .val (.int (1 : Int32))] [(.int p2), (.ref s2)])) rfl (by rw [hml]; rfl) (Steps.refl _) (argsL := [(.int p2)]) (rest := []) (lenOf own_pd9 rfl) rfl (by show 2 * 0 + _ ≤ _; exact Nat.le_of_eq rfl) (hb hby at_163) (fun _ _ => ⟨rfl, e228, (by decide : 1 + 0 ≤ _), (by decide : 6 + 0 ≤ _)⟩)
          dsimp only [Pt.U, Pt.locs, Pt.cells, Pt.slots] at X229 l229 y229 z229 st229 hQ229
          subst l229 y229 z229
          obtain ⟨rfl, N229q, e229⟩ := hQ229
          have N229 := Fr.app N228 N229q
          obtain ⟨fs, hr, hrun, hended, hW, hsame⟩ := X229.leave (v := some (.int (1 : Int32))) (fun h => by rw [Bd.returns] at h; cases h)
          refine ⟨_, _, pre220 _ ?_, hrun, hended, _, _, rfl, ?_, ⟨_, rfl⟩, hW, hsame.mono (by decide) (by decide)⟩
          · show Steps _ _ _ (T213.setTop (mkF m 87 #[.val (.int p1), .val (.int p2), .val (.int p3), .val (.ref b101), .val (.ref s2), .val (.int p2), .val (.ref o2), .unset, .unset, .unset, .unset] [(.int p2)])) _
            refine XS.ifYes X213.here hx rfl (pc0 := 87) (pc' := 97) rfl (hb hby at_87) rfl ((if0 _ _).trans (feq hc87_221).2) (by decide) (by decide) ?_
            refine XS.bipush X213.here hx rfl (hb hby at_97) ?_
            refine XS.istore X213.here hx rfl (hb hby at_99) rfl (l' := #[.val (.int p1), .val (.int p2), .val (.int p3), .val (.ref b101), .val (.ref s2), .val (.int p2), .val (.ref o2), .val (.int (62 : Int32)), .unset, .unset, .unset]) rfl ?_
            refine XS.aload X213.here hx rfl (hb hby at_101) rfl rfl ?_
            show Steps _ _ _ (T213.setTop (mkF m 103 #[.val (.int p1), .val (.int p2), .val (.int p3), .val (.ref b101), .val (.ref s2), .val (.int p2), .val (.ref o2), .val (.int (62 : Int32)), .unset, .unset, .unset] [(.ref o2)])) _
            refine XS.iload X213.here hx rfl (hb hby at_103) rfl ?_
            refine st226 _ ?_
            refine XS.istore X226.here hx rfl (hb hby at_108) rfl (l' := #[.val (.int p1), .val (.int p2), .val (.int p3), .val (.ref b101), .val (.ref s2), .val (.int p2), .val (.ref o2), .val (.int (62 : Int32)), .val (.int (1 : Int32)), .unset, .unset]) rfl ?_
            refine XS.aload X226.here hx rfl (hb hby at_110) rfl rfl ?_
            show Steps _ _ _ (T226.setTop (mkF m 112 #[.val (.int p1), .val (.int p2), .val (.int p3), .val (.ref b101), .val (.ref s2), .val (.int p2), .val (.ref o2), .val (.int (62 : Int32)), .val (.int (1 : Int32)), .unset, .unset] [(.ref o2)])) _
            refine st227.trans ?_
            refine XS.iconst X227.here hx rfl (hb hby at_115) ?_
            refine XS.icmpNo X227.here hx rfl (hb hby at_116) rfl (flt (by decide : ¬ ((2 : Int32) < (1 : Int32)))).1 ?_
            refine XS.aload X227.here hx rfl (hb hby at_119) rfl rfl ?_
            show Steps _ _ _ (T227.setTop (mkF m 121 #[.val (.int p1), .val (.int p2), .val (.int p3), .val (.ref b101), .val (.ref s2), .val (.int p2), .val (.ref o2), .val (.int (62 : Int32)), .val (.int (1 : Int32)), .unset, .unset] [(.ref o2)])) _
            refine XS.iconst X227.here hx rfl (hb hby at_121) ?_
            refine st228.trans ?_
            refine XS.bipush X228.here hx rfl (hb hby at_125) ?_
            refine XS.icmpYes X228.here hx rfl (pc0 := 127) (pc' := 134) rfl (hb hby at_127) rfl (feq (by decide : ¬ ((62 : Int32) = (33 : Int32)))).2 (by decide) (by decide) ?_
            show Steps _ _ _ (T228.setTop (mkF m 134 #[.val (.int p1), .val (.int p2), .val (.int p3), .val (.ref b101), .val (.ref s2), .val (.int p2), .val (.ref o2), .val (.int (62 : Int32)), .val (.int (1 : Int32)), .unset, .unset] [])) _
            refine XS.iconst X228.here hx rfl (hb hby at_134) ?_
            refine XS.istore X228.here hx rfl (hb hby at_135) rfl (l' := #[.val (.int p1), .val (.int p2), .val (.int p3), .val (.ref b101), .val (.ref s2), .val (.int p2), .val (.ref o2), .val (.int (62 : Int32)), .val (.int (1 : Int32)), .val (.int (0 : Int32)), .unset]) rfl ?_
            refine XS.iload X228.here hx rfl (hb hby at_137) rfl ?_
            refine XS.ifYes X228.here hx rfl (pc0 := 139) (pc' := 155) rfl (hb hby at_139) rfl ((if0 _ _).trans (teq (by decide : (0 : Int32) = (0 : Int32))).1) (by decide) (by decide) ?_
            show Steps _ _ _ (T228.setTop (mkF m 155 #[.val (.int p1), .val (.int p2), .val (.int p3), .val (.ref b101), .val (.ref s2), .val (.int p2), .val (.ref o2), .val (.int (62 : Int32)), .val (.int (1 : Int32)), .val (.int (0 : Int32)), .unset] [])) _
            refine XS.iload X228.here hx rfl (hb hby at_155) rfl ?_
            refine XS.istore X228.here hx rfl (hb hby at_157) rfl (l' := #[.val (.int p1), .val (.int p2), .val (.int p3), .val (.ref b101), .val (.ref s2), .val (.int p2), .val (.ref o2), .val (.int (62 : Int32)), .val (.int (1 : Int32)), .val (.int (0 : Int32)), .val (.int (1 : Int32))]) rfl ?_
            refine XS.aload X228.here hx rfl (hb hby at_159) rfl rfl ?_
            refine XS.iload X228.here hx rfl (hb hby at_161) rfl ?_
            show Steps _ _ _ (T228.setTop (mkF m 163 #[.val (.int p1), .val (.int p2), .val (.int p3), .val (.ref b101), .val (.ref s2), .val (.int p2), .val (.ref o2), .val (.int (62 : Int32)), .val (.int (1 : Int32)), .val (.int (0 : Int32)), .val (.int (1 : Int32))] [(.int p2), (.ref s2)])) _
            refine st229.trans ?_
            refine XS.iload X229.here hx rfl (hb hby at_166) rfl ?_
            refine XS.icmpNo X229.here hx rfl (hb hby at_168) rfl (teq (by unfold own_h2; exact if_pos (by omega))).2 ?_
            refine XS.iconst X229.here hx rfl (hb hby at_171) ?_
            show Steps _ _ _ (T229.setTop (mkF m 172 #[.val (.int p1), .val (.int p2), .val (.int p3), .val (.ref b101), .val (.ref s2), .val (.int p2), .val (.ref o2), .val (.int (62 : Int32)), .val (.int (1 : Int32)), .val (.int (0 : Int32)), .val (.int (1 : Int32))] [(.int (1 : Int32))])) _
            refine XS.goto X229.here hx rfl (pc0 := 172) (pc' := 176) rfl (hb hby at_172) (by decide) (by decide) ?_
            show Steps _ _ _ (T229.setTop (mkF m 176 #[.val (.int p1), .val (.int p2), .val (.int p3), .val (.ref b101), .val (.ref s2), .val (.int p2), .val (.ref o2), .val (.int (62 : Int32)), .val (.int (1 : Int32)), .val (.int (0 : Int32)), .val (.int (1 : Int32))] [(.int (1 : Int32))])) _
            exact retN X229 hx (t := .boolean) Bd.returns (by simp) (hb hby at_176) hr
          · show Qown_law Z p1 p2 p3 s0 o0 v0 s1 o1 v1 s2 o2 v2 s3 o3 v3 s4 o4 v4 s5 o5 v5 kc0 kc1 kc2 kc3 kc4 kc5 cs fv h0 n0 _ T229.heap _
            rw [e229]
            exact ⟨rfl, N229⟩
    · skip
      have ihc56_212 := (mt (own_eq (b := (0 : Int32)) (k := 0) rfl).mpr hc56_212)
      obtain ⟨cq230, kq230, q230a, q230b, q230c⟩ := isOf hZ e131 c142
      obtain ⟨_, _, ⟨T230, L230, k230, n230⟩, -, X230, ⟨Lc230, hQ230, l230, y230, z230⟩, st230⟩ := X131.virtualBack hx (y := own_m8) (z := own_m8) hown (mvT hZ (own_w17 hw)) (mvT hZ (own_w18 hw)) (notFace_of_selects (args := #[]) (mvT hZ (own_w20 hw))) (mvT hZ (own_w20 hw)) (mvT hZ (own_w19 hw)) (by decide) (backOf (W := 0) (own_op l Z a0 hw [] s2 o2 h131 n0 Z131 c144) hZ (own_w21 hw) (own_w3 hw) (by decide) (by decide)) q230a q230c (g := (mkF m 68 #[.val (.int p1), .val (.int p2), .val (.int p3), .val (.ref b101), .val (.ref s2), .val (.int (0 : Int32)), .unset, .unset, .unset, .unset, .unset] [(.ref s2)])) rfl (by rw [hml]; rfl) (Steps.refl _) (argsL := []) (rest := []) (lenOf own_pd7 rfl) rfl (by show 2 * 0 + _ ≤ _; exact Nat.le_of_eq rfl) (hb hby at_68) (fun _ _ => ⟨rfl, e131, (by decide : 1 + 0 ≤ _), (by decide : 6 + 0 ≤ _)⟩)
      dsimp only [Pt.U, Pt.locs, Pt.cells, Pt.slots] at X230 l230 y230 z230 st230 hQ230
      subst l230 y230 z230
      obtain ⟨rfl, N230q, e230⟩ := hQ230
      have N230 := Fr.app N131 N230q
      obtain ⟨_, _, ⟨T231, L231, k231, n231⟩, -, X231, ⟨Lc231, hQ231, l231, y231, z231⟩, st231⟩ := Jvm.LawKit.callS X230 hx (y := own_m7) hown (mvT hZ (own_w24 hw)) (mvT hZ (own_w25 hw)) (mvT hZ (own_w26 hw)) (mvT hZ (own_w27 hw)) (by decide) (backOf (W := 0) (own_hasGEE l Z a0 hw [] o2 v2 kc2 cs fv h131 n0 Z131 c145 c132 hcs c133 hfv) hZ (own_w27 hw) (own_w26 hw) (by decide) (by decide)) (g := (mkF m 105 #[.val (.int p1), .val (.int p2), .val (.int p3), .val (.ref b101), .val (.ref s2), .val (.int (0 : Int32)), .val (.ref o2), .val (.int (61 : Int32)), .unset, .unset, .unset] [(.int (61 : Int32)), (.ref o2)])) rfl (by rw [hml]; rfl) (argsL := [(.ref o2), (.int (61 : Int32))]) (rest := []) (lenOf own_pd8 rfl) rfl (by show 2 * 0 + _ ≤ _; exact Nat.le_of_eq rfl) (hb hby at_105) (fun _ _ => ⟨rfl, e230, (by decide : 1 + 0 ≤ _), (by decide : 6 + 0 ≤ _)⟩)
      dsimp only [Pt.U, Pt.locs, Pt.cells, Pt.slots] at X231 l231 y231 z231 st231 hQ231
      subst l231 y231 z231
      obtain ⟨rfl, N231q, e231⟩ := hQ231
      have N231 := Fr.app N230 N231q
      obtain ⟨cq232, kq232, q232a, q232b, q232c⟩ := isOf hZ e231 c145.1
      obtain ⟨_, _, ⟨T232, L232, k232, n232⟩, -, X232, ⟨Lc232, hQ232, l232, y232, z232⟩, st232⟩ := X231.virtualBack hx (y := own_m6) (z := own_m6) hown (mvT hZ (own_w28 hw)) (mvT hZ (own_w29 hw)) (notFace_of_selects (args := #[]) (mvT hZ (own_w31 hw))) (mvT hZ (own_w31 hw)) (mvT hZ (own_w30 hw)) (by decide) (backOf (W := 0) (own_lenGE l Z a0 hw [] o2 v2 kc2 cs fv h131 n0 Z131 c145 c132 hcs c133 hfv) hZ (own_w33 hw) (own_w32 hw) (by decide) (by decide)) q232a q232c (g := (mkF m 112 #[.val (.int p1), .val (.int p2), .val (.int p3), .val (.ref b101), .val (.ref s2), .val (.int (0 : Int32)), .val (.ref o2), .val (.int (61 : Int32)), .val (.int (1 : Int32)), .unset, .unset] [(.ref o2)])) rfl (by rw [hml]; rfl) (Steps.refl _) (argsL := []) (rest := []) (lenOf own_pd5 rfl) rfl (by show 2 * 0 + _ ≤ _; exact Nat.le_of_eq rfl) (hb hby at_112) (fun _ _ => ⟨rfl, e231, (by decide : 1 + 0 ≤ _), (by decide : 6 + 0 ≤ _)⟩)
      dsimp only [Pt.U, Pt.locs, Pt.cells, Pt.slots] at X232 l232 y232 z232 st232 hQ232
      subst l232 y232 z232
      obtain ⟨rfl, N232q, e232⟩ := hQ232
      have N232 := Fr.app N231 N232q
      obtain ⟨cq233, kq233, q233a, q233b, q233c⟩ := isOf hZ e232 c145.1
      obtain ⟨_, _, ⟨T233, L233, k233, n233⟩, -, X233, ⟨Lc233, hQ233, l233, y233, z233⟩, st233⟩ := X232.virtualBack hx (y := own_m5) (z := own_m5) hown (mvT hZ (own_w44 hw)) (mvT hZ (own_w45 hw)) (notFace_of_selects (args := #[]) (mvT hZ (own_w47 hw))) (mvT hZ (own_w47 hw)) (mvT hZ (own_w46 hw)) (by decide) (backOf (W := 0) (own_caGE0 l Z a0 hw [] o2 v2 kc2 cs fv h131 n0 Z131 c145 c132 hcs c133 hfv) hZ (own_w48 hw) (own_w32 hw) (by decide) (by decide)) q233a q233c (g := (mkF m 122 #[.val (.int p1), .val (.int p2), .val (.int p3), .val (.ref b101), .val (.ref s2), .val (.int (0 : Int32)), .val (.ref o2), .val (.int (61 : Int32)), .val (.int (1 : Int32)), .unset, .unset] [(.int (0 : Int32)), (.ref o2)])) rfl (by rw [hml]; rfl) (Steps.refl _) (argsL := [(.int (0 : Int32))]) (rest := []) (lenOf own_pd6 rfl) rfl (by show 2 * 0 + _ ≤ _; exact Nat.le_of_eq rfl) (hb hby at_122) (fun _ _ => ⟨rfl, e232, (by decide : 1 + 0 ≤ _), (by decide : 6 + 0 ≤ _)⟩)
      dsimp only [Pt.U, Pt.locs, Pt.cells, Pt.slots] at X233 l233 y233 z233 st233 hQ233
      subst l233 y233 z233
      obtain ⟨rfl, N233q, e233⟩ := hQ233
      have N233 := Fr.app N232 N233q
      obtain ⟨cq234, kq234, q234a, q234b, q234c⟩ := isOf hZ e233 c142
      obtain ⟨_, _, ⟨T234, L234, k234, n234⟩, -, X234, ⟨Lc234, hQ234, l234, y234, z234⟩, st234⟩ := X233.virtualBack hx (y := own_m10) (z := own_m10) hown (mvT hZ (own_w66 hw)) (mvT hZ (own_w67 hw)) (notFace_of_selects (args := #[]) (mvT hZ (own_w69 hw))) (mvT hZ (own_w69 hw)) (mvT hZ (own_w68 hw)) (by decide) (backOf (W := 0) (own_holds2 l Z a0 hw [] s2 (0 : Int32) h131 n0 Z131 c142 c143) hZ (own_w70 hw) (own_w3 hw) (by decide) (by decide)) q234a q234c (g := (mkF m 163 #[.val (.int p1), .val (.int p2), .val (.int p3), .val (.ref b101), .val (.ref s2), .val (.int (0 : Int32)), .val (.ref o2), .val (.int (61 : Int32)), .val (.int (1 : Int32)), .val (.int (0 : Int32)), .val (.int (1 : Int32))] [(.int (0 : Int32)), (.ref s2)])) rfl (by rw [hml]; rfl) (Steps.refl _) (argsL := [(.int (0 : Int32))]) (rest := []) (lenOf own_pd9 rfl) rfl (by show 2 * 0 + _ ≤ _; exact Nat.le_of_eq rfl) (hb hby at_163) (fun _ _ => ⟨rfl, e233, (by decide : 1 + 0 ≤ _), (by decide : 6 + 0 ≤ _)⟩)
      dsimp only [Pt.U, Pt.locs, Pt.cells, Pt.slots] at X234 l234 y234 z234 st234 hQ234
      subst l234 y234 z234
      obtain ⟨rfl, N234q, e234⟩ := hQ234
      have N234 := Fr.app N233 N234q
      obtain ⟨fs, hr, hrun, hended, hW, hsame⟩ := X234.leave (v := some (.int (1 : Int32))) (fun h => by rw [Bd.returns] at h; cases h)
      refine ⟨_, _, pre211 _ ?_, hrun, hended, _, _, rfl, ?_, ⟨_, rfl⟩, hW, hsame.mono (by decide) (by decide)⟩
      · show Steps _ _ _ (T131.setTop (mkF m 56 #[.val (.int p1), .val (.int p2), .val (.int p3), .val (.ref b101), .val (.ref s2), .unset, .unset, .unset, .unset, .unset, .unset] [(.int (p3 &&& (1 : Int32)))])) _
        refine XS.ifNo X131.here hx rfl (hb hby at_56) rfl ((if0 _ _).trans (feq hc56_212).1) ?_
        refine XS.iconst X131.here hx rfl (hb hby at_59) ?_
        refine XS.goto X131.here hx rfl (pc0 := 60) (pc' := 64) rfl (hb hby at_60) (by decide) (by decide) ?_
        refine XS.istore X131.here hx rfl (hb hby at_64) rfl (l' := #[.val (.int p1), .val (.int p2), .val (.int p3), .val (.ref b101), .val (.ref s2), .val (.int (0 : Int32)), .unset, .unset, .unset, .unset, .unset]) rfl ?_
        show Steps _ _ _ (T131.setTop (mkF m 66 #[.val (.int p1), .val (.int p2), .val (.int p3), .val (.ref b101), .val (.ref s2), .val (.int (0 : Int32)), .unset, .unset, .unset, .unset, .unset] [])) _
        refine XS.aload X131.here hx rfl (hb hby at_66) rfl rfl ?_
        refine st230.trans ?_
        refine XS.astore X230.here hx rfl (hb hby at_71) rfl rfl (l' := #[.val (.int p1), .val (.int p2), .val (.int p3), .val (.ref b101), .val (.ref s2), .val (.int (0 : Int32)), .val (.ref o2), .unset, .unset, .unset, .unset]) rfl ?_
        refine XS.iload X230.here hx rfl (hb hby at_73) rfl ?_
        show Steps _ _ _ (T230.setTop (mkF m 75 #[.val (.int p1), .val (.int p2), .val (.int p3), .val (.ref b101), .val (.ref s2), .val (.int (0 : Int32)), .val (.ref o2), .unset, .unset, .unset, .unset] [(.int (0 : Int32))])) _
        refine XS.ifYes X230.here hx rfl (pc0 := 75) (pc' := 85) rfl (hb hby at_75) rfl ((if0 _ _).trans (flt (by decide : ¬ ((0 : Int32) < (0 : Int32)))).2.1) (by decide) (by decide) ?_
        refine XS.iload X230.here hx rfl (hb hby at_85) rfl ?_
        refine XS.ifNo X230.here hx rfl (hb hby at_87) rfl ((if0 _ _).trans (teq (by decide : (0 : Int32) = (0 : Int32))).2) ?_
        refine XS.bipush X230.here hx rfl (hb hby at_90) ?_
        show Steps _ _ _ (T230.setTop (mkF m 92 #[.val (.int p1), .val (.int p2), .val (.int p3), .val (.ref b101), .val (.ref s2), .val (.int (0 : Int32)), .val (.ref o2), .unset, .unset, .unset, .unset] [(.int (61 : Int32))])) _
        refine XS.istore X230.here hx rfl (hb hby at_92) rfl (l' := #[.val (.int p1), .val (.int p2), .val (.int p3), .val (.ref b101), .val (.ref s2), .val (.int (0 : Int32)), .val (.ref o2), .val (.int (61 : Int32)), .unset, .unset, .unset]) rfl ?_
        refine XS.goto X230.here hx rfl (pc0 := 94) (pc' := 101) rfl (hb hby at_94) (by decide) (by decide) ?_
        refine XS.aload X230.here hx rfl (hb hby at_101) rfl rfl ?_
        refine XS.iload X230.here hx rfl (hb hby at_103) rfl ?_
        show Steps _ _ _ (T230.setTop (mkF m 105 #[.val (.int p1), .val (.int p2), .val (.int p3), .val (.ref b101), .val (.ref s2), .val (.int (0 : Int32)), .val (.ref o2), .val (.int (61 : Int32)), .unset, .unset, .unset] [(.int (61 : Int32)), (.ref o2)])) _
        refine st231 _ ?_
        refine XS.istore X231.here hx rfl (hb hby at_108) rfl (l' := #[.val (.int p1), .val (.int p2), .val (.int p3), .val (.ref b101), .val (.ref s2), .val (.int (0 : Int32)), .val (.ref o2), .val (.int (61 : Int32)), .val (.int (1 : Int32)), .unset, .unset]) rfl ?_
        refine XS.aload X231.here hx rfl (hb hby at_110) rfl rfl ?_
        refine st232.trans ?_
        show Steps _ _ _ (T232.setTop (mkF m 115 #[.val (.int p1), .val (.int p2), .val (.int p3), .val (.ref b101), .val (.ref s2), .val (.int (0 : Int32)), .val (.ref o2), .val (.int (61 : Int32)), .val (.int (1 : Int32)), .unset, .unset] [(.int (2 : Int32))])) _
        refine XS.iconst X232.here hx rfl (hb hby at_115) ?_
        refine XS.icmpNo X232.here hx rfl (hb hby at_116) rfl (flt (by decide : ¬ ((2 : Int32) < (1 : Int32)))).1 ?_
        refine XS.aload X232.here hx rfl (hb hby at_119) rfl rfl ?_
        refine XS.iconst X232.here hx rfl (hb hby at_121) ?_
        show Steps _ _ _ (T232.setTop (mkF m 122 #[.val (.int p1), .val (.int p2), .val (.int p3), .val (.ref b101), .val (.ref s2), .val (.int (0 : Int32)), .val (.ref o2), .val (.int (61 : Int32)), .val (.int (1 : Int32)), .unset, .unset] [(.int (0 : Int32)), (.ref o2)])) _
        refine st233.trans ?_
        refine XS.bipush X233.here hx rfl (hb hby at_125) ?_
        refine XS.icmpYes X233.here hx rfl (pc0 := 127) (pc' := 134) rfl (hb hby at_127) rfl (feq (by decide : ¬ ((62 : Int32) = (33 : Int32)))).2 (by decide) (by decide) ?_
        refine XS.iconst X233.here hx rfl (hb hby at_134) ?_
        show Steps _ _ _ (T233.setTop (mkF m 135 #[.val (.int p1), .val (.int p2), .val (.int p3), .val (.ref b101), .val (.ref s2), .val (.int (0 : Int32)), .val (.ref o2), .val (.int (61 : Int32)), .val (.int (1 : Int32)), .unset, .unset] [(.int (0 : Int32))])) _
        refine XS.istore X233.here hx rfl (hb hby at_135) rfl (l' := #[.val (.int p1), .val (.int p2), .val (.int p3), .val (.ref b101), .val (.ref s2), .val (.int (0 : Int32)), .val (.ref o2), .val (.int (61 : Int32)), .val (.int (1 : Int32)), .val (.int (0 : Int32)), .unset]) rfl ?_
        refine XS.iload X233.here hx rfl (hb hby at_137) rfl ?_
        refine XS.ifYes X233.here hx rfl (pc0 := 139) (pc' := 155) rfl (hb hby at_139) rfl ((if0 _ _).trans (teq (by decide : (0 : Int32) = (0 : Int32))).1) (by decide) (by decide) ?_
        refine XS.iload X233.here hx rfl (hb hby at_155) rfl ?_
        show Steps _ _ _ (T233.setTop (mkF m 157 #[.val (.int p1), .val (.int p2), .val (.int p3), .val (.ref b101), .val (.ref s2), .val (.int (0 : Int32)), .val (.ref o2), .val (.int (61 : Int32)), .val (.int (1 : Int32)), .val (.int (0 : Int32)), .unset] [(.int (1 : Int32))])) _
        refine XS.istore X233.here hx rfl (hb hby at_157) rfl (l' := #[.val (.int p1), .val (.int p2), .val (.int p3), .val (.ref b101), .val (.ref s2), .val (.int (0 : Int32)), .val (.ref o2), .val (.int (61 : Int32)), .val (.int (1 : Int32)), .val (.int (0 : Int32)), .val (.int (1 : Int32))]) rfl ?_
        refine XS.aload X233.here hx rfl (hb hby at_159) rfl rfl ?_
        refine XS.iload X233.here hx rfl (hb hby at_161) rfl ?_
        refine st234.trans ?_
        show Steps _ _ _ (T234.setTop (mkF m 166 #[.val (.int p1), .val (.int p2), .val (.int p3), .val (.ref b101), .val (.ref s2), .val (.int (0 : Int32)), .val (.ref o2), .val (.int (61 : Int32)), .val (.int (1 : Int32)), .val (.int (0 : Int32)), .val (.int (1 : Int32))] [(.int (own_h2 (0 : Int32)))])) _
        refine XS.iload X234.here hx rfl (hb hby at_166) rfl ?_
        refine XS.icmpNo X234.here hx rfl (hb hby at_168) rfl (teq (by decide)).2 ?_
        refine XS.iconst X234.here hx rfl (hb hby at_171) ?_
        refine XS.goto X234.here hx rfl (pc0 := 172) (pc' := 176) rfl (hb hby at_172) (by decide) (by decide) ?_
        show Steps _ _ _ (T234.setTop (mkF m 176 #[.val (.int p1), .val (.int p2), .val (.int p3), .val (.ref b101), .val (.ref s2), .val (.int (0 : Int32)), .val (.ref o2), .val (.int (61 : Int32)), .val (.int (1 : Int32)), .val (.int (0 : Int32)), .val (.int (1 : Int32))] [(.int (1 : Int32))])) _
        exact retN X234 hx (t := .boolean) Bd.returns (by simp) (hb hby at_176) hr
      · show Qown_law Z p1 p2 p3 s0 o0 v0 s1 o1 v1 s2 o2 v2 s3 o3 v3 s4 o4 v4 s5 o5 v5 kc0 kc1 kc2 kc3 kc4 kc5 cs fv h0 n0 _ T234.heap _
        rw [e234]
        exact ⟨rfl, N234⟩
  · skip
    rw [hs159] at pre158
    obtain ⟨cl235, Ar235, Aq235, As235, An235, Ah235, Ag235⟩ := id V131
    have hin235 : ¬ ((3 : Int32) < 0 ∨ cl235.slots.size ≤ ((3 : Int32)).toNatClampNeg) := inb_of As235 ⟨by decide, by decide⟩
    have pre236 : ∀ t, Steps p.tables e below (T131.setTop (mkF m 56 #[.val (.int p1), .val (.int p2), .val (.int p3), .val (.ref b101), .val (.ref s3), .unset, .unset, .unset, .unset, .unset, .unset] [(.int (p3 &&& (1 : Int32)))])) t → Steps p.tables e below (s₁.setTop (entryFrame m #[(.int p1), (.int p2), (.int p3)] maxLocals)) t := fun t kt => pre158 t (by
      show Steps _ _ _ (T131.setTop (mkF m 50 #[.val (.int p1), .val (.int p2), .val (.int p3), .val (.ref b101), .unset, .unset, .unset, .unset, .unset, .unset, .unset] [(.int (3 : Int32)), (.ref b101)])) _
      refine X131.aaload hx (j := (3 : Int32)) (v := (.ref s3)) (by rw [e131]; exact Ar235.1) (State.isArrayOf_alike hZ.alike Ar235.2.1) rfl Ar235.2.2 hin235 (Ah235.at hin235 rfl) (g := (mkF m 50 #[.val (.int p1), .val (.int p2), .val (.int p3), .val (.ref b101), .unset, .unset, .unset, .unset, .unset, .unset, .unset] [(.int (3 : Int32)), (.ref b101)])) rfl rfl (hb hby at_50) _ ?_
      refine XS.astore X131.here hx rfl (hb hby at_51) rfl rfl (l' := #[.val (.int p1), .val (.int p2), .val (.int p3), .val (.ref b101), .val (.ref s3), .unset, .unset, .unset, .unset, .unset, .unset]) rfl ?_
      refine XS.iloadN X131.here hx rfl (hb hby at_53) rfl ?_
      refine XS.iconst X131.here hx rfl (hb hby at_54) ?_
      show Steps _ _ _ (T131.setTop (mkF m 55 #[.val (.int p1), .val (.int p2), .val (.int p3), .val (.ref b101), .val (.ref s3), .unset, .unset, .unset, .unset, .unset, .unset] [(.int (1 : Int32)), (.int p3)])) _
      refine XS.iand X131.here hx rfl (hb hby at_55) rfl ?_
      exact kt)
    by_cases hc56_237 : (p3 &&& (1 : Int32)) = (0 : Int32)
    · skip
      have ihc56_237 := (own_eq (b := (0 : Int32)) (k := 0) rfl).mp hc56_237
      obtain ⟨cq238, kq238, q238a, q238b, q238c⟩ := isOf hZ e131 c146
      obtain ⟨_, _, ⟨T238, L238, k238, n238⟩, -, X238, ⟨Lc238, hQ238, l238, y238, z238⟩, st238⟩ := X131.virtualBack hx (y := own_m8) (z := own_m8) hown (mvT hZ (own_w17 hw)) (mvT hZ (own_w18 hw)) (notFace_of_selects (args := #[]) (mvT hZ (own_w20 hw))) (mvT hZ (own_w20 hw)) (mvT hZ (own_w19 hw)) (by decide) (backOf (W := 0) (own_op l Z a0 hw [] s3 o3 h131 n0 Z131 c148) hZ (own_w21 hw) (own_w3 hw) (by decide) (by decide)) q238a q238c (g := (mkF m 68 #[.val (.int p1), .val (.int p2), .val (.int p3), .val (.ref b101), .val (.ref s3), .val (.int p2), .unset, .unset, .unset, .unset, .unset] [(.ref s3)])) rfl (by rw [hml]; rfl) (Steps.refl _) (argsL := []) (rest := []) (lenOf own_pd7 rfl) rfl (by show 2 * 0 + _ ≤ _; exact Nat.le_of_eq rfl) (hb hby at_68) (fun _ _ => ⟨rfl, e131, (by decide : 1 + 0 ≤ _), (by decide : 6 + 0 ≤ _)⟩)
      dsimp only [Pt.U, Pt.locs, Pt.cells, Pt.slots] at X238 l238 y238 z238 st238 hQ238
      subst l238 y238 z238
      obtain ⟨rfl, N238q, e238⟩ := hQ238
      have N238 := Fr.app N131 N238q
      have pre239 : ∀ t, Steps p.tables e below (T238.setTop (mkF m 75 #[.val (.int p1), .val (.int p2), .val (.int p3), .val (.ref b101), .val (.ref s3), .val (.int p2), .val (.ref o3), .unset, .unset, .unset, .unset] [(.int p2)])) t → Steps p.tables e below (s₁.setTop (entryFrame m #[(.int p1), (.int p2), (.int p3)] maxLocals)) t := fun t kt => pre236 t (by
        show Steps _ _ _ (T131.setTop (mkF m 56 #[.val (.int p1), .val (.int p2), .val (.int p3), .val (.ref b101), .val (.ref s3), .unset, .unset, .unset, .unset, .unset, .unset] [(.int (p3 &&& (1 : Int32)))])) _
        refine XS.ifYes X131.here hx rfl (pc0 := 56) (pc' := 63) rfl (hb hby at_56) rfl ((if0 _ _).trans (teq hc56_237).1) (by decide) (by decide) ?_
        refine XS.iloadN X131.here hx rfl (hb hby at_63) rfl ?_
        refine XS.istore X131.here hx rfl (hb hby at_64) rfl (l' := #[.val (.int p1), .val (.int p2), .val (.int p3), .val (.ref b101), .val (.ref s3), .val (.int p2), .unset, .unset, .unset, .unset, .unset]) rfl ?_
        refine XS.aload X131.here hx rfl (hb hby at_66) rfl rfl ?_
        show Steps _ _ _ (T131.setTop (mkF m 68 #[.val (.int p1), .val (.int p2), .val (.int p3), .val (.ref b101), .val (.ref s3), .val (.int p2), .unset, .unset, .unset, .unset, .unset] [(.ref s3)])) _
        refine st238.trans ?_
        refine XS.astore X238.here hx rfl (hb hby at_71) rfl rfl (l' := #[.val (.int p1), .val (.int p2), .val (.int p3), .val (.ref b101), .val (.ref s3), .val (.int p2), .val (.ref o3), .unset, .unset, .unset, .unset]) rfl ?_
        refine XS.iload X238.here hx rfl (hb hby at_73) rfl ?_
        exact kt)
      by_cases hc75_240 : p2 < (0 : Int32)
      · skip
        have ihc75_240 := (own_lt (b := (0 : Int32)) (k := 0) rfl).mp hc75_240
        obtain ⟨_, _, ⟨T241, L241, k241, n241⟩, -, X241, ⟨Lc241, hQ241, l241, y241, z241⟩, st241⟩ := Jvm.LawKit.callS X238 hx (y := own_m7) hown (mvT hZ (own_w24 hw)) (mvT hZ (own_w25 hw)) (mvT hZ (own_w26 hw)) (mvT hZ (own_w27 hw)) (by decide) (backOf (W := 0) (own_hasEL l Z a0 hw [] o3 v3 kc3 cs fv h131 n0 Z131 c149 c132 hcs c133 hfv) hZ (own_w27 hw) (own_w26 hw) (by decide) (by decide)) (g := (mkF m 105 #[.val (.int p1), .val (.int p2), .val (.int p3), .val (.ref b101), .val (.ref s3), .val (.int p2), .val (.ref o3), .val (.int (60 : Int32)), .unset, .unset, .unset] [(.int (60 : Int32)), (.ref o3)])) rfl (by rw [hml]; rfl) (argsL := [(.ref o3), (.int (60 : Int32))]) (rest := []) (lenOf own_pd8 rfl) rfl (by show 2 * 0 + _ ≤ _; exact Nat.le_of_eq rfl) (hb hby at_105) (fun _ _ => ⟨rfl, e238, (by decide : 1 + 0 ≤ _), (by decide : 6 + 0 ≤ _)⟩)
        dsimp only [Pt.U, Pt.locs, Pt.cells, Pt.slots] at X241 l241 y241 z241 st241 hQ241
        subst l241 y241 z241
        obtain ⟨rfl, N241q, e241⟩ := hQ241
        have N241 := Fr.app N238 N241q
        obtain ⟨cq242, kq242, q242a, q242b, q242c⟩ := isOf hZ e241 c149.1
        obtain ⟨_, _, ⟨T242, L242, k242, n242⟩, -, X242, ⟨Lc242, hQ242, l242, y242, z242⟩, st242⟩ := X241.virtualBack hx (y := own_m6) (z := own_m6) hown (mvT hZ (own_w28 hw)) (mvT hZ (own_w29 hw)) (notFace_of_selects (args := #[]) (mvT hZ (own_w31 hw))) (mvT hZ (own_w31 hw)) (mvT hZ (own_w30 hw)) (by decide) (backOf (W := 0) (own_lenE l Z a0 hw [] o3 v3 kc3 cs fv h131 n0 Z131 c149 c132 hcs c133 hfv) hZ (own_w33 hw) (own_w32 hw) (by decide) (by decide)) q242a q242c (g := (mkF m 112 #[.val (.int p1), .val (.int p2), .val (.int p3), .val (.ref b101), .val (.ref s3), .val (.int p2), .val (.ref o3), .val (.int (60 : Int32)), .val (.int (0 : Int32)), .unset, .unset] [(.ref o3)])) rfl (by rw [hml]; rfl) (Steps.refl _) (argsL := []) (rest := []) (lenOf own_pd5 rfl) rfl (by show 2 * 0 + _ ≤ _; exact Nat.le_of_eq rfl) (hb hby at_112) (fun _ _ => ⟨rfl, e241, (by decide : 1 + 0 ≤ _), (by decide : 6 + 0 ≤ _)⟩)
        dsimp only [Pt.U, Pt.locs, Pt.cells, Pt.slots] at X242 l242 y242 z242 st242 hQ242
        subst l242 y242 z242
        obtain ⟨rfl, N242q, e242⟩ := hQ242
        have N242 := Fr.app N241 N242q
        obtain ⟨cq243, kq243, q243a, q243b, q243c⟩ := isOf hZ e242 c149.1
        obtain ⟨_, _, ⟨T243, L243, k243, n243⟩, -, X243, ⟨Lc243, hQ243, l243, y243, z243⟩, st243⟩ := X242.virtualBack hx (y := own_m5) (z := own_m5) hown (mvT hZ (own_w44 hw)) (mvT hZ (own_w45 hw)) (notFace_of_selects (args := #[]) (mvT hZ (own_w47 hw))) (mvT hZ (own_w47 hw)) (mvT hZ (own_w46 hw)) (by decide) (backOf (W := 0) (own_caE0 l Z a0 hw [] o3 v3 kc3 cs fv h131 n0 Z131 c149 c132 hcs c133 hfv) hZ (own_w48 hw) (own_w32 hw) (by decide) (by decide)) q243a q243c (g := (mkF m 122 #[.val (.int p1), .val (.int p2), .val (.int p3), .val (.ref b101), .val (.ref s3), .val (.int p2), .val (.ref o3), .val (.int (60 : Int32)), .val (.int (0 : Int32)), .unset, .unset] [(.int (0 : Int32)), (.ref o3)])) rfl (by rw [hml]; rfl) (Steps.refl _) (argsL := [(.int (0 : Int32))]) (rest := []) (lenOf own_pd6 rfl) rfl (by show 2 * 0 + _ ≤ _; exact Nat.le_of_eq rfl) (hb hby at_122) (fun _ _ => ⟨rfl, e242, (by decide : 1 + 0 ≤ _), (by decide : 6 + 0 ≤ _)⟩)
        dsimp only [Pt.U, Pt.locs, Pt.cells, Pt.slots] at X243 l243 y243 z243 st243 hQ243
        subst l243 y243 z243
        obtain ⟨rfl, N243q, e243⟩ := hQ243
        have N243 := Fr.app N242 N243q
        obtain ⟨cq244, kq244, q244a, q244b, q244c⟩ := isOf hZ e243 c146
        obtain ⟨_, _, ⟨T244, L244, k244, n244⟩, -, X244, ⟨Lc244, hQ244, l244, y244, z244⟩, st244⟩ := X243.virtualBack hx (y := own_m10) (z := own_m10) hown (mvT hZ (own_w66 hw)) (mvT hZ (own_w67 hw)) (notFace_of_selects (args := #[]) (mvT hZ (own_w69 hw))) (mvT hZ (own_w69 hw)) (mvT hZ (own_w68 hw)) (by decide) (backOf (W := 0) (own_holds3 l Z a0 hw [] s3 p2 h131 n0 Z131 c146 c147) hZ (own_w70 hw) (own_w3 hw) (by decide) (by decide)) q244a q244c (g := (mkF m 163 #[.val (.int p1), .val (.int p2), .val (.int p3), .val (.ref b101), .val (.ref s3), .val (.int p2), .val (.ref o3), .val (.int (60 : Int32)), .val (.int (0 : Int32)), .val (.int (0 : Int32)), .val (.int (0 : Int32))] [(.int p2), (.ref s3)])) rfl (by rw [hml]; rfl) (Steps.refl _) (argsL := [(.int p2)]) (rest := []) (lenOf own_pd9 rfl) rfl (by show 2 * 0 + _ ≤ _; exact Nat.le_of_eq rfl) (hb hby at_163) (fun _ _ => ⟨rfl, e243, (by decide : 1 + 0 ≤ _), (by decide : 6 + 0 ≤ _)⟩)
        dsimp only [Pt.U, Pt.locs, Pt.cells, Pt.slots] at X244 l244 y244 z244 st244 hQ244
        subst l244 y244 z244
        obtain ⟨rfl, N244q, e244⟩ := hQ244
        have N244 := Fr.app N243 N244q
        obtain ⟨fs, hr, hrun, hended, hW, hsame⟩ := X244.leave (v := some (.int (1 : Int32))) (fun h => by rw [Bd.returns] at h; cases h)
        refine ⟨_, _, pre239 _ ?_, hrun, hended, _, _, rfl, ?_, ⟨_, rfl⟩, hW, hsame.mono (by decide) (by decide)⟩
        · show Steps _ _ _ (T238.setTop (mkF m 75 #[.val (.int p1), .val (.int p2), .val (.int p3), .val (.ref b101), .val (.ref s3), .val (.int p2), .val (.ref o3), .unset, .unset, .unset, .unset] [(.int p2)])) _
          refine XS.ifNo X238.here hx rfl (hb hby at_75) rfl ((if0 _ _).trans (tlt hc75_240).2.1) ?_
          refine XS.bipush X238.here hx rfl (hb hby at_78) ?_
          refine XS.istore X238.here hx rfl (hb hby at_80) rfl (l' := #[.val (.int p1), .val (.int p2), .val (.int p3), .val (.ref b101), .val (.ref s3), .val (.int p2), .val (.ref o3), .val (.int (60 : Int32)), .unset, .unset, .unset]) rfl ?_
          refine XS.goto X238.here hx rfl (pc0 := 82) (pc' := 101) rfl (hb hby at_82) (by decide) (by decide) ?_
          show Steps _ _ _ (T238.setTop (mkF m 101 #[.val (.int p1), .val (.int p2), .val (.int p3), .val (.ref b101), .val (.ref s3), .val (.int p2), .val (.ref o3), .val (.int (60 : Int32)), .unset, .unset, .unset] [])) _
          refine XS.aload X238.here hx rfl (hb hby at_101) rfl rfl ?_
          refine XS.iload X238.here hx rfl (hb hby at_103) rfl ?_
          refine st241 _ ?_
          refine XS.istore X241.here hx rfl (hb hby at_108) rfl (l' := #[.val (.int p1), .val (.int p2), .val (.int p3), .val (.ref b101), .val (.ref s3), .val (.int p2), .val (.ref o3), .val (.int (60 : Int32)), .val (.int (0 : Int32)), .unset, .unset]) rfl ?_
          show Steps _ _ _ (T241.setTop (mkF m 110 #[.val (.int p1), .val (.int p2), .val (.int p3), .val (.ref b101), .val (.ref s3), .val (.int p2), .val (.ref o3), .val (.int (60 : Int32)), .val (.int (0 : Int32)), .unset, .unset] [])) _
          refine XS.aload X241.here hx rfl (hb hby at_110) rfl rfl ?_
          refine st242.trans ?_
          refine XS.iconst X242.here hx rfl (hb hby at_115) ?_
          refine XS.icmpNo X242.here hx rfl (hb hby at_116) rfl (flt (by decide : ¬ ((1 : Int32) < (1 : Int32)))).1 ?_
          show Steps _ _ _ (T242.setTop (mkF m 119 #[.val (.int p1), .val (.int p2), .val (.int p3), .val (.ref b101), .val (.ref s3), .val (.int p2), .val (.ref o3), .val (.int (60 : Int32)), .val (.int (0 : Int32)), .unset, .unset] [])) _
          refine XS.aload X242.here hx rfl (hb hby at_119) rfl rfl ?_
          refine XS.iconst X242.here hx rfl (hb hby at_121) ?_
          refine st243.trans ?_
          refine XS.bipush X243.here hx rfl (hb hby at_125) ?_
          show Steps _ _ _ (T243.setTop (mkF m 127 #[.val (.int p1), .val (.int p2), .val (.int p3), .val (.ref b101), .val (.ref s3), .val (.int p2), .val (.ref o3), .val (.int (60 : Int32)), .val (.int (0 : Int32)), .unset, .unset] [(.int (33 : Int32)), (.int (61 : Int32))])) _
          refine XS.icmpYes X243.here hx rfl (pc0 := 127) (pc' := 134) rfl (hb hby at_127) rfl (feq (by decide : ¬ ((61 : Int32) = (33 : Int32)))).2 (by decide) (by decide) ?_
          refine XS.iconst X243.here hx rfl (hb hby at_134) ?_
          refine XS.istore X243.here hx rfl (hb hby at_135) rfl (l' := #[.val (.int p1), .val (.int p2), .val (.int p3), .val (.ref b101), .val (.ref s3), .val (.int p2), .val (.ref o3), .val (.int (60 : Int32)), .val (.int (0 : Int32)), .val (.int (0 : Int32)), .unset]) rfl ?_
          refine XS.iload X243.here hx rfl (hb hby at_137) rfl ?_
          show Steps _ _ _ (T243.setTop (mkF m 139 #[.val (.int p1), .val (.int p2), .val (.int p3), .val (.ref b101), .val (.ref s3), .val (.int p2), .val (.ref o3), .val (.int (60 : Int32)), .val (.int (0 : Int32)), .val (.int (0 : Int32)), .unset] [(.int (0 : Int32))])) _
          refine XS.ifYes X243.here hx rfl (pc0 := 139) (pc' := 155) rfl (hb hby at_139) rfl ((if0 _ _).trans (teq (by decide : (0 : Int32) = (0 : Int32))).1) (by decide) (by decide) ?_
          refine XS.iload X243.here hx rfl (hb hby at_155) rfl ?_
          refine XS.istore X243.here hx rfl (hb hby at_157) rfl (l' := #[.val (.int p1), .val (.int p2), .val (.int p3), .val (.ref b101), .val (.ref s3), .val (.int p2), .val (.ref o3), .val (.int (60 : Int32)), .val (.int (0 : Int32)), .val (.int (0 : Int32)), .val (.int (0 : Int32))]) rfl ?_
          refine XS.aload X243.here hx rfl (hb hby at_159) rfl rfl ?_
          show Steps _ _ _ (T243.setTop (mkF m 161 #[.val (.int p1), .val (.int p2), .val (.int p3), .val (.ref b101), .val (.ref s3), .val (.int p2), .val (.ref o3), .val (.int (60 : Int32)), .val (.int (0 : Int32)), .val (.int (0 : Int32)), .val (.int (0 : Int32))] [(.ref s3)])) _
          refine XS.iload X243.here hx rfl (hb hby at_161) rfl ?_
          refine st244.trans ?_
          refine XS.iload X244.here hx rfl (hb hby at_166) rfl ?_
          refine XS.icmpNo X244.here hx rfl (hb hby at_168) rfl (teq (by unfold own_h3; exact if_neg (by omega))).2 ?_
          show Steps _ _ _ (T244.setTop (mkF m 171 #[.val (.int p1), .val (.int p2), .val (.int p3), .val (.ref b101), .val (.ref s3), .val (.int p2), .val (.ref o3), .val (.int (60 : Int32)), .val (.int (0 : Int32)), .val (.int (0 : Int32)), .val (.int (0 : Int32))] [])) _
          refine XS.iconst X244.here hx rfl (hb hby at_171) ?_
          refine XS.goto X244.here hx rfl (pc0 := 172) (pc' := 176) rfl (hb hby at_172) (by decide) (by decide) ?_
          show Steps _ _ _ (T244.setTop (mkF m 176 #[.val (.int p1), .val (.int p2), .val (.int p3), .val (.ref b101), .val (.ref s3), .val (.int p2), .val (.ref o3), .val (.int (60 : Int32)), .val (.int (0 : Int32)), .val (.int (0 : Int32)), .val (.int (0 : Int32))] [(.int (1 : Int32))])) _
          exact retN X244 hx (t := .boolean) Bd.returns (by simp) (hb hby at_176) hr
        · show Qown_law Z p1 p2 p3 s0 o0 v0 s1 o1 v1 s2 o2 v2 s3 o3 v3 s4 o4 v4 s5 o5 v5 kc0 kc1 kc2 kc3 kc4 kc5 cs fv h0 n0 _ T244.heap _
          rw [e244]
          exact ⟨rfl, N244⟩
      · skip
        have ihc75_240 := (mt (own_lt (b := (0 : Int32)) (k := 0) rfl).mpr hc75_240)
        have pre245 : ∀ t, Steps p.tables e below (T238.setTop (mkF m 87 #[.val (.int p1), .val (.int p2), .val (.int p3), .val (.ref b101), .val (.ref s3), .val (.int p2), .val (.ref o3), .unset, .unset, .unset, .unset] [(.int p2)])) t → Steps p.tables e below (s₁.setTop (entryFrame m #[(.int p1), (.int p2), (.int p3)] maxLocals)) t := fun t kt => pre239 t (by
          show Steps _ _ _ (T238.setTop (mkF m 75 #[.val (.int p1), .val (.int p2), .val (.int p3), .val (.ref b101), .val (.ref s3), .val (.int p2), .val (.ref o3), .unset, .unset, .unset, .unset] [(.int p2)])) _
          refine XS.ifYes X238.here hx rfl (pc0 := 75) (pc' := 85) rfl (hb hby at_75) rfl ((if0 _ _).trans (flt hc75_240).2.1) (by decide) (by decide) ?_
          refine XS.iload X238.here hx rfl (hb hby at_85) rfl ?_
          exact kt)
        by_cases hc87_246 : p2 = (0 : Int32)
        · skip
          have ihc87_246 := (own_eq (b := (0 : Int32)) (k := 0) rfl).mp hc87_246
          obtain ⟨_, _, ⟨T247, L247, k247, n247⟩, -, X247, ⟨Lc247, hQ247, l247, y247, z247⟩, st247⟩ := Jvm.LawKit.callS X238 hx (y := own_m7) hown (mvT hZ (own_w24 hw)) (mvT hZ (own_w25 hw)) (mvT hZ (own_w26 hw)) (mvT hZ (own_w27 hw)) (by decide) (backOf (W := 0) (own_hasEE l Z a0 hw [] o3 v3 kc3 cs fv h131 n0 Z131 c149 c132 hcs c133 hfv) hZ (own_w27 hw) (own_w26 hw) (by decide) (by decide)) (g := (mkF m 105 #[.val (.int p1), .val (.int p2), .val (.int p3), .val (.ref b101), .val (.ref s3), .val (.int p2), .val (.ref o3), .val (.int (61 : Int32)), .unset, .unset, .unset] [(.int (61 : Int32)), (.ref o3)])) rfl (by rw [hml]; rfl) (argsL := [(.ref o3), (.int (61 : Int32))]) (rest := []) (lenOf own_pd8 rfl) rfl (by show 2 * 0 + _ ≤ _; exact Nat.le_of_eq rfl) (hb hby at_105) (fun _ _ => ⟨rfl, e238, (by decide : 1 + 0 ≤ _), (by decide : 6 + 0 ≤ _)⟩)
          dsimp only [Pt.U, Pt.locs, Pt.cells, Pt.slots] at X247 l247 y247 z247 st247 hQ247
          subst l247 y247 z247
          obtain ⟨rfl, N247q, e247⟩ := hQ247
          have N247 := Fr.app N238 N247q
          obtain ⟨cq248, kq248, q248a, q248b, q248c⟩ := isOf hZ e247 c149.1
          obtain ⟨_, _, ⟨T248, L248, k248, n248⟩, -, X248, ⟨Lc248, hQ248, l248, y248, z248⟩, st248⟩ := X247.virtualBack hx (y := own_m6) (z := own_m6) hown (mvT hZ (own_w28 hw)) (mvT hZ (own_w29 hw)) (notFace_of_selects (args := #[]) (mvT hZ (own_w31 hw))) (mvT hZ (own_w31 hw)) (mvT hZ (own_w30 hw)) (by decide) (backOf (W := 0) (own_lenE l Z a0 hw [] o3 v3 kc3 cs fv h131 n0 Z131 c149 c132 hcs c133 hfv) hZ (own_w33 hw) (own_w32 hw) (by decide) (by decide)) q248a q248c (g := (mkF m 112 #[.val (.int p1), .val (.int p2), .val (.int p3), .val (.ref b101), .val (.ref s3), .val (.int p2), .val (.ref o3), .val (.int (61 : Int32)), .val (.int (1 : Int32)), .unset, .unset] [(.ref o3)])) rfl (by rw [hml]; rfl) (Steps.refl _) (argsL := []) (rest := []) (lenOf own_pd5 rfl) rfl (by show 2 * 0 + _ ≤ _; exact Nat.le_of_eq rfl) (hb hby at_112) (fun _ _ => ⟨rfl, e247, (by decide : 1 + 0 ≤ _), (by decide : 6 + 0 ≤ _)⟩)
          dsimp only [Pt.U, Pt.locs, Pt.cells, Pt.slots] at X248 l248 y248 z248 st248 hQ248
          subst l248 y248 z248
          obtain ⟨rfl, N248q, e248⟩ := hQ248
          have N248 := Fr.app N247 N248q
          obtain ⟨cq249, kq249, q249a, q249b, q249c⟩ := isOf hZ e248 c149.1
          obtain ⟨_, _, ⟨T249, L249, k249, n249⟩, -, X249, ⟨Lc249, hQ249, l249, y249, z249⟩, st249⟩ := X248.virtualBack hx (y := own_m5) (z := own_m5) hown (mvT hZ (own_w44 hw)) (mvT hZ (own_w45 hw)) (notFace_of_selects (args := #[]) (mvT hZ (own_w47 hw))) (mvT hZ (own_w47 hw)) (mvT hZ (own_w46 hw)) (by decide) (backOf (W := 0) (own_caE0 l Z a0 hw [] o3 v3 kc3 cs fv h131 n0 Z131 c149 c132 hcs c133 hfv) hZ (own_w48 hw) (own_w32 hw) (by decide) (by decide)) q249a q249c (g := (mkF m 122 #[.val (.int p1), .val (.int p2), .val (.int p3), .val (.ref b101), .val (.ref s3), .val (.int p2), .val (.ref o3), .val (.int (61 : Int32)), .val (.int (1 : Int32)), .unset, .unset] [(.int (0 : Int32)), (.ref o3)])) rfl (by rw [hml]; rfl) (Steps.refl _) (argsL := [(.int (0 : Int32))]) (rest := []) (lenOf own_pd6 rfl) rfl (by show 2 * 0 + _ ≤ _; exact Nat.le_of_eq rfl) (hb hby at_122) (fun _ _ => ⟨rfl, e248, (by decide : 1 + 0 ≤ _), (by decide : 6 + 0 ≤ _)⟩)
          dsimp only [Pt.U, Pt.locs, Pt.cells, Pt.slots] at X249 l249 y249 z249 st249 hQ249
          subst l249 y249 z249
          obtain ⟨rfl, N249q, e249⟩ := hQ249
          have N249 := Fr.app N248 N249q
          obtain ⟨cq250, kq250, q250a, q250b, q250c⟩ := isOf hZ e249 c146
          obtain ⟨_, _, ⟨T250, L250, k250, n250⟩, -, X250, ⟨Lc250, hQ250, l250, y250, z250⟩, st250⟩ := X249.virtualBack hx (y := own_m10) (z := own_m10) hown (mvT hZ (own_w66 hw)) (mvT hZ (own_w67 hw)) (notFace_of_selects (args := #[]) (mvT hZ (own_w69 hw))) (mvT hZ (own_w69 hw)) (mvT hZ (own_w68 hw)) (by decide) (backOf (W := 0) (own_holds3 l Z a0 hw [] s3 p2 h131 n0 Z131 c146 c147) hZ (own_w70 hw) (own_w3 hw) (by decide) (by decide)) q250a q250c (g := (mkF m 163 #[.val (.int p1), .val (.int p2), .val (.int p3), .val (.ref b101), .val (.ref s3), .val (.int p2), .val (.ref o3), .val (.int (61 : Int32)), .val (.int (1 : Int32)), .val (.int (0 : Int32)), .val (.int (1 : Int32))] [(.int p2), (.ref s3)])) rfl (by rw [hml]; rfl) (Steps.refl _) (argsL := [(.int p2)]) (rest := []) (lenOf own_pd9 rfl) rfl (by show 2 * 0 + _ ≤ _; exact Nat.le_of_eq rfl) (hb hby at_163) (fun _ _ => ⟨rfl, e249, (by decide : 1 + 0 ≤ _), (by decide : 6 + 0 ≤ _)⟩)
          dsimp only [Pt.U, Pt.locs, Pt.cells, Pt.slots] at X250 l250 y250 z250 st250 hQ250
          subst l250 y250 z250
          obtain ⟨rfl, N250q, e250⟩ := hQ250
          have N250 := Fr.app N249 N250q
          obtain ⟨fs, hr, hrun, hended, hW, hsame⟩ := X250.leave (v := some (.int (1 : Int32))) (fun h => by rw [Bd.returns] at h; cases h)
          refine ⟨_, _, pre245 _ ?_, hrun, hended, _, _, rfl, ?_, ⟨_, rfl⟩, hW, hsame.mono (by decide) (by decide)⟩
          · show Steps _ _ _ (T238.setTop (mkF m 87 #[.val (.int p1), .val (.int p2), .val (.int p3), .val (.ref b101), .val (.ref s3), .val (.int p2), .val (.ref o3), .unset, .unset, .unset, .unset] [(.int p2)])) _
            refine XS.ifNo X238.here hx rfl (hb hby at_87) rfl ((if0 _ _).trans (teq hc87_246).2) ?_
            refine XS.bipush X238.here hx rfl (hb hby at_90) ?_
            refine XS.istore X238.here hx rfl (hb hby at_92) rfl (l' := #[.val (.int p1), .val (.int p2), .val (.int p3), .val (.ref b101), .val (.ref s3), .val (.int p2), .val (.ref o3), .val (.int (61 : Int32)), .unset, .unset, .unset]) rfl ?_
            refine XS.goto X238.here hx rfl (pc0 := 94) (pc' := 101) rfl (hb hby at_94) (by decide) (by decide) ?_
            show Steps _ _ _ (T238.setTop (mkF m 101 #[.val (.int p1), .val (.int p2), .val (.int p3), .val (.ref b101), .val (.ref s3), .val (.int p2), .val (.ref o3), .val (.int (61 : Int32)), .unset, .unset, .unset] [])) _
            refine XS.aload X238.here hx rfl (hb hby at_101) rfl rfl ?_
            refine XS.iload X238.here hx rfl (hb hby at_103) rfl ?_
            refine st247 _ ?_
            refine XS.istore X247.here hx rfl (hb hby at_108) rfl (l' := #[.val (.int p1), .val (.int p2), .val (.int p3), .val (.ref b101), .val (.ref s3), .val (.int p2), .val (.ref o3), .val (.int (61 : Int32)), .val (.int (1 : Int32)), .unset, .unset]) rfl ?_
            show Steps _ _ _ (T247.setTop (mkF m 110 #[.val (.int p1), .val (.int p2), .val (.int p3), .val (.ref b101), .val (.ref s3), .val (.int p2), .val (.ref o3), .val (.int (61 : Int32)), .val (.int (1 : Int32)), .unset, .unset] [])) _
            refine XS.aload X247.here hx rfl (hb hby at_110) rfl rfl ?_
            refine st248.trans ?_
            refine XS.iconst X248.here hx rfl (hb hby at_115) ?_
            refine XS.icmpNo X248.here hx rfl (hb hby at_116) rfl (flt (by decide : ¬ ((1 : Int32) < (1 : Int32)))).1 ?_
            show Steps _ _ _ (T248.setTop (mkF m 119 #[.val (.int p1), .val (.int p2), .val (.int p3), .val (.ref b101), .val (.ref s3), .val (.int p2), .val (.ref o3), .val (.int (61 : Int32)), .val (.int (1 : Int32)), .unset, .unset] [])) _
            refine XS.aload X248.here hx rfl (hb hby at_119) rfl rfl ?_
            refine XS.iconst X248.here hx rfl (hb hby at_121) ?_
            refine st249.trans ?_
            refine XS.bipush X249.here hx rfl (hb hby at_125) ?_
            show Steps _ _ _ (T249.setTop (mkF m 127 #[.val (.int p1), .val (.int p2), .val (.int p3), .val (.ref b101), .val (.ref s3), .val (.int p2), .val (.ref o3), .val (.int (61 : Int32)), .val (.int (1 : Int32)), .unset, .unset] [(.int (33 : Int32)), (.int (61 : Int32))])) _
            refine XS.icmpYes X249.here hx rfl (pc0 := 127) (pc' := 134) rfl (hb hby at_127) rfl (feq (by decide : ¬ ((61 : Int32) = (33 : Int32)))).2 (by decide) (by decide) ?_
            refine XS.iconst X249.here hx rfl (hb hby at_134) ?_
            refine XS.istore X249.here hx rfl (hb hby at_135) rfl (l' := #[.val (.int p1), .val (.int p2), .val (.int p3), .val (.ref b101), .val (.ref s3), .val (.int p2), .val (.ref o3), .val (.int (61 : Int32)), .val (.int (1 : Int32)), .val (.int (0 : Int32)), .unset]) rfl ?_
            refine XS.iload X249.here hx rfl (hb hby at_137) rfl ?_
            show Steps _ _ _ (T249.setTop (mkF m 139 #[.val (.int p1), .val (.int p2), .val (.int p3), .val (.ref b101), .val (.ref s3), .val (.int p2), .val (.ref o3), .val (.int (61 : Int32)), .val (.int (1 : Int32)), .val (.int (0 : Int32)), .unset] [(.int (0 : Int32))])) _
            refine XS.ifYes X249.here hx rfl (pc0 := 139) (pc' := 155) rfl (hb hby at_139) rfl ((if0 _ _).trans (teq (by decide : (0 : Int32) = (0 : Int32))).1) (by decide) (by decide) ?_
            refine XS.iload X249.here hx rfl (hb hby at_155) rfl ?_
            refine XS.istore X249.here hx rfl (hb hby at_157) rfl (l' := #[.val (.int p1), .val (.int p2), .val (.int p3), .val (.ref b101), .val (.ref s3), .val (.int p2), .val (.ref o3), .val (.int (61 : Int32)), .val (.int (1 : Int32)), .val (.int (0 : Int32)), .val (.int (1 : Int32))]) rfl ?_
            refine XS.aload X249.here hx rfl (hb hby at_159) rfl rfl ?_
            show Steps _ _ _ (T249.setTop (mkF m 161 #[.val (.int p1), .val (.int p2), .val (.int p3), .val (.ref b101), .val (.ref s3), .val (.int p2), .val (.ref o3), .val (.int (61 : Int32)), .val (.int (1 : Int32)), .val (.int (0 : Int32)), .val (.int (1 : Int32))] [(.ref s3)])) _
            refine XS.iload X249.here hx rfl (hb hby at_161) rfl ?_
            refine st250.trans ?_
            refine XS.iload X250.here hx rfl (hb hby at_166) rfl ?_
            refine XS.icmpNo X250.here hx rfl (hb hby at_168) rfl (teq (by unfold own_h3; exact if_pos (by omega))).2 ?_
            show Steps _ _ _ (T250.setTop (mkF m 171 #[.val (.int p1), .val (.int p2), .val (.int p3), .val (.ref b101), .val (.ref s3), .val (.int p2), .val (.ref o3), .val (.int (61 : Int32)), .val (.int (1 : Int32)), .val (.int (0 : Int32)), .val (.int (1 : Int32))] [])) _
            refine XS.iconst X250.here hx rfl (hb hby at_171) ?_
            refine XS.goto X250.here hx rfl (pc0 := 172) (pc' := 176) rfl (hb hby at_172) (by decide) (by decide) ?_
            show Steps _ _ _ (T250.setTop (mkF m 176 #[.val (.int p1), .val (.int p2), .val (.int p3), .val (.ref b101), .val (.ref s3), .val (.int p2), .val (.ref o3), .val (.int (61 : Int32)), .val (.int (1 : Int32)), .val (.int (0 : Int32)), .val (.int (1 : Int32))] [(.int (1 : Int32))])) _
            exact retN X250 hx (t := .boolean) Bd.returns (by simp) (hb hby at_176) hr
          · show Qown_law Z p1 p2 p3 s0 o0 v0 s1 o1 v1 s2 o2 v2 s3 o3 v3 s4 o4 v4 s5 o5 v5 kc0 kc1 kc2 kc3 kc4 kc5 cs fv h0 n0 _ T250.heap _
            rw [e250]
            exact ⟨rfl, N250⟩
        · skip
          have ihc87_246 := (mt (own_eq (b := (0 : Int32)) (k := 0) rfl).mpr hc87_246)
          obtain ⟨_, _, ⟨T251, L251, k251, n251⟩, -, X251, ⟨Lc251, hQ251, l251, y251, z251⟩, st251⟩ := Jvm.LawKit.callS X238 hx (y := own_m7) hown (mvT hZ (own_w24 hw)) (mvT hZ (own_w25 hw)) (mvT hZ (own_w26 hw)) (mvT hZ (own_w27 hw)) (by decide) (backOf (W := 0) (own_hasEG l Z a0 hw [] o3 v3 kc3 cs fv h131 n0 Z131 c149 c132 hcs c133 hfv) hZ (own_w27 hw) (own_w26 hw) (by decide) (by decide)) (g := (mkF m 105 #[.val (.int p1), .val (.int p2), .val (.int p3), .val (.ref b101), .val (.ref s3), .val (.int p2), .val (.ref o3), .val (.int (62 : Int32)), .unset, .unset, .unset] [(.int (62 : Int32)), (.ref o3)])) rfl (by rw [hml]; rfl) (argsL := [(.ref o3), (.int (62 : Int32))]) (rest := []) (lenOf own_pd8 rfl) rfl (by show 2 * 0 + _ ≤ _; exact Nat.le_of_eq rfl) (hb hby at_105) (fun _ _ => ⟨rfl, e238, (by decide : 1 + 0 ≤ _), (by decide : 6 + 0 ≤ _)⟩)
          dsimp only [Pt.U, Pt.locs, Pt.cells, Pt.slots] at X251 l251 y251 z251 st251 hQ251
          subst l251 y251 z251
          obtain ⟨rfl, N251q, e251⟩ := hQ251
          have N251 := Fr.app N238 N251q
          obtain ⟨cq252, kq252, q252a, q252b, q252c⟩ := isOf hZ e251 c149.1
          obtain ⟨_, _, ⟨T252, L252, k252, n252⟩, -, X252, ⟨Lc252, hQ252, l252, y252, z252⟩, st252⟩ := X251.virtualBack hx (y := own_m6) (z := own_m6) hown (mvT hZ (own_w28 hw)) (mvT hZ (own_w29 hw)) (notFace_of_selects (args := #[]) (mvT hZ (own_w31 hw))) (mvT hZ (own_w31 hw)) (mvT hZ (own_w30 hw)) (by decide) (backOf (W := 0) (own_lenE l Z a0 hw [] o3 v3 kc3 cs fv h131 n0 Z131 c149 c132 hcs c133 hfv) hZ (own_w33 hw) (own_w32 hw) (by decide) (by decide)) q252a q252c (g := (mkF m 112 #[.val (.int p1), .val (.int p2), .val (.int p3), .val (.ref b101), .val (.ref s3), .val (.int p2), .val (.ref o3), .val (.int (62 : Int32)), .val (.int (0 : Int32)), .unset, .unset] [(.ref o3)])) rfl (by rw [hml]; rfl) (Steps.refl _) (argsL := []) (rest := []) (lenOf own_pd5 rfl) rfl (by show 2 * 0 + _ ≤ _; exact Nat.le_of_eq rfl) (hb hby at_112) (fun _ _ => ⟨rfl, e251, (by decide : 1 + 0 ≤ _), (by decide : 6 + 0 ≤ _)⟩)
          dsimp only [Pt.U, Pt.locs, Pt.cells, Pt.slots] at X252 l252 y252 z252 st252 hQ252
          subst l252 y252 z252
          obtain ⟨rfl, N252q, e252⟩ := hQ252
          have N252 := Fr.app N251 N252q
          obtain ⟨cq253, kq253, q253a, q253b, q253c⟩ := isOf hZ e252 c149.1
          obtain ⟨_, _, ⟨T253, L253, k253, n253⟩, -, X253, ⟨Lc253, hQ253, l253, y253, z253⟩, st253⟩ := X252.virtualBack hx (y := own_m5) (z := own_m5) hown (mvT hZ (own_w44 hw)) (mvT hZ (own_w45 hw)) (notFace_of_selects (args := #[]) (mvT hZ (own_w47 hw))) (mvT hZ (own_w47 hw)) (mvT hZ (own_w46 hw)) (by decide) (backOf (W := 0) (own_caE0 l Z a0 hw [] o3 v3 kc3 cs fv h131 n0 Z131 c149 c132 hcs c133 hfv) hZ (own_w48 hw) (own_w32 hw) (by decide) (by decide)) q253a q253c (g := (mkF m 122 #[.val (.int p1), .val (.int p2), .val (.int p3), .val (.ref b101), .val (.ref s3), .val (.int p2), .val (.ref o3), .val (.int (62 : Int32)), .val (.int (0 : Int32)), .unset, .unset] [(.int (0 : Int32)), (.ref o3)])) rfl (by rw [hml]; rfl) (Steps.refl _) (argsL := [(.int (0 : Int32))]) (rest := []) (lenOf own_pd6 rfl) rfl (by show 2 * 0 + _ ≤ _; exact Nat.le_of_eq rfl) (hb hby at_122) (fun _ _ => ⟨rfl, e252, (by decide : 1 + 0 ≤ _), (by decide : 6 + 0 ≤ _)⟩)
          dsimp only [Pt.U, Pt.locs, Pt.cells, Pt.slots] at X253 l253 y253 z253 st253 hQ253
          subst l253 y253 z253
          obtain ⟨rfl, N253q, e253⟩ := hQ253
          have N253 := Fr.app N252 N253q
          obtain ⟨cq254, kq254, q254a, q254b, q254c⟩ := isOf hZ e253 c146
          obtain ⟨_, _, ⟨T254, L254, k254, n254⟩, -, X254, ⟨Lc254, hQ254, l254, y254, z254⟩, st254⟩ := X253.virtualBack hx (y := own_m10) (z := own_m10) hown (mvT hZ (own_w66 hw)) (mvT hZ (own_w67 hw)) (notFace_of_selects (args := #[]) (mvT hZ (own_w69 hw))) (mvT hZ (own_w69 hw)) (mvT hZ (own_w68 hw)) (by decide) (backOf (W := 0) (own_holds3 l Z a0 hw [] s3 p2 h131 n0 Z131 c146 c147) hZ (own_w70 hw) (own_w3 hw) (by decide) (by decide)) q254a q254c (g := (mkF m 163 #[.val (.int p1), .val (.int p2), .val (.int p3), .val (.ref b101), .val (.ref s3), .val (.int p2), .val (.ref o3), .val (.int (62 : Int32)), .val (.int (0 : Int32)), .val (.int (0 : Int32)), .val (.int (0 : Int32))] [(.int p2), (.ref s3)])) rfl (by rw [hml]; rfl) (Steps.refl _) (argsL := [(.int p2)]) (rest := []) (lenOf own_pd9 rfl) rfl (by show 2 * 0 + _ ≤ _; exact Nat.le_of_eq rfl) (hb hby at_163) (fun _ _ => ⟨rfl, e253, (by decide : 1 + 0 ≤ _), (by decide : 6 + 0 ≤ _)⟩)
          dsimp only [Pt.U, Pt.locs, Pt.cells, Pt.slots] at X254 l254 y254 z254 st254 hQ254
          subst l254 y254 z254
          obtain ⟨rfl, N254q, e254⟩ := hQ254
          have N254 := Fr.app N253 N254q
          obtain ⟨fs, hr, hrun, hended, hW, hsame⟩ := X254.leave (v := some (.int (1 : Int32))) (fun h => by rw [Bd.returns] at h; cases h)
          refine ⟨_, _, pre245 _ ?_, hrun, hended, _, _, rfl, ?_, ⟨_, rfl⟩, hW, hsame.mono (by decide) (by decide)⟩
          · show Steps _ _ _ (T238.setTop (mkF m 87 #[.val (.int p1), .val (.int p2), .val (.int p3), .val (.ref b101), .val (.ref s3), .val (.int p2), .val (.ref o3), .unset, .unset, .unset, .unset] [(.int p2)])) _
            refine XS.ifYes X238.here hx rfl (pc0 := 87) (pc' := 97) rfl (hb hby at_87) rfl ((if0 _ _).trans (feq hc87_246).2) (by decide) (by decide) ?_
            refine XS.bipush X238.here hx rfl (hb hby at_97) ?_
            refine XS.istore X238.here hx rfl (hb hby at_99) rfl (l' := #[.val (.int p1), .val (.int p2), .val (.int p3), .val (.ref b101), .val (.ref s3), .val (.int p2), .val (.ref o3), .val (.int (62 : Int32)), .unset, .unset, .unset]) rfl ?_
            refine XS.aload X238.here hx rfl (hb hby at_101) rfl rfl ?_
            show Steps _ _ _ (T238.setTop (mkF m 103 #[.val (.int p1), .val (.int p2), .val (.int p3), .val (.ref b101), .val (.ref s3), .val (.int p2), .val (.ref o3), .val (.int (62 : Int32)), .unset, .unset, .unset] [(.ref o3)])) _
            refine XS.iload X238.here hx rfl (hb hby at_103) rfl ?_
            refine st251 _ ?_
            refine XS.istore X251.here hx rfl (hb hby at_108) rfl (l' := #[.val (.int p1), .val (.int p2), .val (.int p3), .val (.ref b101), .val (.ref s3), .val (.int p2), .val (.ref o3), .val (.int (62 : Int32)), .val (.int (0 : Int32)), .unset, .unset]) rfl ?_
            refine XS.aload X251.here hx rfl (hb hby at_110) rfl rfl ?_
            show Steps _ _ _ (T251.setTop (mkF m 112 #[.val (.int p1), .val (.int p2), .val (.int p3), .val (.ref b101), .val (.ref s3), .val (.int p2), .val (.ref o3), .val (.int (62 : Int32)), .val (.int (0 : Int32)), .unset, .unset] [(.ref o3)])) _
            refine st252.trans ?_
            refine XS.iconst X252.here hx rfl (hb hby at_115) ?_
            refine XS.icmpNo X252.here hx rfl (hb hby at_116) rfl (flt (by decide : ¬ ((1 : Int32) < (1 : Int32)))).1 ?_
            refine XS.aload X252.here hx rfl (hb hby at_119) rfl rfl ?_
            show Steps _ _ _ (T252.setTop (mkF m 121 #[.val (.int p1), .val (.int p2), .val (.int p3), .val (.ref b101), .val (.ref s3), .val (.int p2), .val (.ref o3), .val (.int (62 : Int32)), .val (.int (0 : Int32)), .unset, .unset] [(.ref o3)])) _
            refine XS.iconst X252.here hx rfl (hb hby at_121) ?_
            refine st253.trans ?_
            refine XS.bipush X253.here hx rfl (hb hby at_125) ?_
            refine XS.icmpYes X253.here hx rfl (pc0 := 127) (pc' := 134) rfl (hb hby at_127) rfl (feq (by decide : ¬ ((61 : Int32) = (33 : Int32)))).2 (by decide) (by decide) ?_
            show Steps _ _ _ (T253.setTop (mkF m 134 #[.val (.int p1), .val (.int p2), .val (.int p3), .val (.ref b101), .val (.ref s3), .val (.int p2), .val (.ref o3), .val (.int (62 : Int32)), .val (.int (0 : Int32)), .unset, .unset] [])) _
            refine XS.iconst X253.here hx rfl (hb hby at_134) ?_
            refine XS.istore X253.here hx rfl (hb hby at_135) rfl (l' := #[.val (.int p1), .val (.int p2), .val (.int p3), .val (.ref b101), .val (.ref s3), .val (.int p2), .val (.ref o3), .val (.int (62 : Int32)), .val (.int (0 : Int32)), .val (.int (0 : Int32)), .unset]) rfl ?_
            refine XS.iload X253.here hx rfl (hb hby at_137) rfl ?_
            refine XS.ifYes X253.here hx rfl (pc0 := 139) (pc' := 155) rfl (hb hby at_139) rfl ((if0 _ _).trans (teq (by decide : (0 : Int32) = (0 : Int32))).1) (by decide) (by decide) ?_
            show Steps _ _ _ (T253.setTop (mkF m 155 #[.val (.int p1), .val (.int p2), .val (.int p3), .val (.ref b101), .val (.ref s3), .val (.int p2), .val (.ref o3), .val (.int (62 : Int32)), .val (.int (0 : Int32)), .val (.int (0 : Int32)), .unset] [])) _
            refine XS.iload X253.here hx rfl (hb hby at_155) rfl ?_
            refine XS.istore X253.here hx rfl (hb hby at_157) rfl (l' := #[.val (.int p1), .val (.int p2), .val (.int p3), .val (.ref b101), .val (.ref s3), .val (.int p2), .val (.ref o3), .val (.int (62 : Int32)), .val (.int (0 : Int32)), .val (.int (0 : Int32)), .val (.int (0 : Int32))]) rfl ?_
            refine XS.aload X253.here hx rfl (hb hby at_159) rfl rfl ?_
            refine XS.iload X253.here hx rfl (hb hby at_161) rfl ?_
            show Steps _ _ _ (T253.setTop (mkF m 163 #[.val (.int p1), .val (.int p2), .val (.int p3), .val (.ref b101), .val (.ref s3), .val (.int p2), .val (.ref o3), .val (.int (62 : Int32)), .val (.int (0 : Int32)), .val (.int (0 : Int32)), .val (.int (0 : Int32))] [(.int p2), (.ref s3)])) _
            refine st254.trans ?_
            refine XS.iload X254.here hx rfl (hb hby at_166) rfl ?_
            refine XS.icmpNo X254.here hx rfl (hb hby at_168) rfl (teq (by unfold own_h3; exact if_neg (by omega))).2 ?_
            refine XS.iconst X254.here hx rfl (hb hby at_171) ?_
            show Steps _ _ _ (T254.setTop (mkF m 172 #[.val (.int p1), .val (.int p2), .val (.int p3), .val (.ref b101), .val (.ref s3), .val (.int p2), .val (.ref o3), .val (.int (62 : Int32)), .val (.int (0 : Int32)), .val (.int (0 : Int32)), .val (.int (0 : Int32))] [(.int (1 : Int32))])) _
            refine XS.goto X254.here hx rfl (pc0 := 172) (pc' := 176) rfl (hb hby at_172) (by decide) (by decide) ?_
            show Steps _ _ _ (T254.setTop (mkF m 176 #[.val (.int p1), .val (.int p2), .val (.int p3), .val (.ref b101), .val (.ref s3), .val (.int p2), .val (.ref o3), .val (.int (62 : Int32)), .val (.int (0 : Int32)), .val (.int (0 : Int32)), .val (.int (0 : Int32))] [(.int (1 : Int32))])) _
            exact retN X254 hx (t := .boolean) Bd.returns (by simp) (hb hby at_176) hr
          · show Qown_law Z p1 p2 p3 s0 o0 v0 s1 o1 v1 s2 o2 v2 s3 o3 v3 s4 o4 v4 s5 o5 v5 kc0 kc1 kc2 kc3 kc4 kc5 cs fv h0 n0 _ T254.heap _
            rw [e254]
            exact ⟨rfl, N254⟩
    · skip
      have ihc56_237 := (mt (own_eq (b := (0 : Int32)) (k := 0) rfl).mpr hc56_237)
      obtain ⟨cq255, kq255, q255a, q255b, q255c⟩ := isOf hZ e131 c146
      obtain ⟨_, _, ⟨T255, L255, k255, n255⟩, -, X255, ⟨Lc255, hQ255, l255, y255, z255⟩, st255⟩ := X131.virtualBack hx (y := own_m8) (z := own_m8) hown (mvT hZ (own_w17 hw)) (mvT hZ (own_w18 hw)) (notFace_of_selects (args := #[]) (mvT hZ (own_w20 hw))) (mvT hZ (own_w20 hw)) (mvT hZ (own_w19 hw)) (by decide) (backOf (W := 0) (own_op l Z a0 hw [] s3 o3 h131 n0 Z131 c148) hZ (own_w21 hw) (own_w3 hw) (by decide) (by decide)) q255a q255c (g := (mkF m 68 #[.val (.int p1), .val (.int p2), .val (.int p3), .val (.ref b101), .val (.ref s3), .val (.int (0 : Int32)), .unset, .unset, .unset, .unset, .unset] [(.ref s3)])) rfl (by rw [hml]; rfl) (Steps.refl _) (argsL := []) (rest := []) (lenOf own_pd7 rfl) rfl (by show 2 * 0 + _ ≤ _; exact Nat.le_of_eq rfl) (hb hby at_68) (fun _ _ => ⟨rfl, e131, (by decide : 1 + 0 ≤ _), (by decide : 6 + 0 ≤ _)⟩)
      dsimp only [Pt.U, Pt.locs, Pt.cells, Pt.slots] at X255 l255 y255 z255 st255 hQ255
      subst l255 y255 z255
      obtain ⟨rfl, N255q, e255⟩ := hQ255
      have N255 := Fr.app N131 N255q
      obtain ⟨_, _, ⟨T256, L256, k256, n256⟩, -, X256, ⟨Lc256, hQ256, l256, y256, z256⟩, st256⟩ := Jvm.LawKit.callS X255 hx (y := own_m7) hown (mvT hZ (own_w24 hw)) (mvT hZ (own_w25 hw)) (mvT hZ (own_w26 hw)) (mvT hZ (own_w27 hw)) (by decide) (backOf (W := 0) (own_hasEE l Z a0 hw [] o3 v3 kc3 cs fv h131 n0 Z131 c149 c132 hcs c133 hfv) hZ (own_w27 hw) (own_w26 hw) (by decide) (by decide)) (g := (mkF m 105 #[.val (.int p1), .val (.int p2), .val (.int p3), .val (.ref b101), .val (.ref s3), .val (.int (0 : Int32)), .val (.ref o3), .val (.int (61 : Int32)), .unset, .unset, .unset] [(.int (61 : Int32)), (.ref o3)])) rfl (by rw [hml]; rfl) (argsL := [(.ref o3), (.int (61 : Int32))]) (rest := []) (lenOf own_pd8 rfl) rfl (by show 2 * 0 + _ ≤ _; exact Nat.le_of_eq rfl) (hb hby at_105) (fun _ _ => ⟨rfl, e255, (by decide : 1 + 0 ≤ _), (by decide : 6 + 0 ≤ _)⟩)
      dsimp only [Pt.U, Pt.locs, Pt.cells, Pt.slots] at X256 l256 y256 z256 st256 hQ256
      subst l256 y256 z256
      obtain ⟨rfl, N256q, e256⟩ := hQ256
      have N256 := Fr.app N255 N256q
      obtain ⟨cq257, kq257, q257a, q257b, q257c⟩ := isOf hZ e256 c149.1
      obtain ⟨_, _, ⟨T257, L257, k257, n257⟩, -, X257, ⟨Lc257, hQ257, l257, y257, z257⟩, st257⟩ := X256.virtualBack hx (y := own_m6) (z := own_m6) hown (mvT hZ (own_w28 hw)) (mvT hZ (own_w29 hw)) (notFace_of_selects (args := #[]) (mvT hZ (own_w31 hw))) (mvT hZ (own_w31 hw)) (mvT hZ (own_w30 hw)) (by decide) (backOf (W := 0) (own_lenE l Z a0 hw [] o3 v3 kc3 cs fv h131 n0 Z131 c149 c132 hcs c133 hfv) hZ (own_w33 hw) (own_w32 hw) (by decide) (by decide)) q257a q257c (g := (mkF m 112 #[.val (.int p1), .val (.int p2), .val (.int p3), .val (.ref b101), .val (.ref s3), .val (.int (0 : Int32)), .val (.ref o3), .val (.int (61 : Int32)), .val (.int (1 : Int32)), .unset, .unset] [(.ref o3)])) rfl (by rw [hml]; rfl) (Steps.refl _) (argsL := []) (rest := []) (lenOf own_pd5 rfl) rfl (by show 2 * 0 + _ ≤ _; exact Nat.le_of_eq rfl) (hb hby at_112) (fun _ _ => ⟨rfl, e256, (by decide : 1 + 0 ≤ _), (by decide : 6 + 0 ≤ _)⟩)
      dsimp only [Pt.U, Pt.locs, Pt.cells, Pt.slots] at X257 l257 y257 z257 st257 hQ257
      subst l257 y257 z257
      obtain ⟨rfl, N257q, e257⟩ := hQ257
      have N257 := Fr.app N256 N257q
      obtain ⟨cq258, kq258, q258a, q258b, q258c⟩ := isOf hZ e257 c149.1
      obtain ⟨_, _, ⟨T258, L258, k258, n258⟩, -, X258, ⟨Lc258, hQ258, l258, y258, z258⟩, st258⟩ := X257.virtualBack hx (y := own_m5) (z := own_m5) hown (mvT hZ (own_w44 hw)) (mvT hZ (own_w45 hw)) (notFace_of_selects (args := #[]) (mvT hZ (own_w47 hw))) (mvT hZ (own_w47 hw)) (mvT hZ (own_w46 hw)) (by decide) (backOf (W := 0) (own_caE0 l Z a0 hw [] o3 v3 kc3 cs fv h131 n0 Z131 c149 c132 hcs c133 hfv) hZ (own_w48 hw) (own_w32 hw) (by decide) (by decide)) q258a q258c (g := (mkF m 122 #[.val (.int p1), .val (.int p2), .val (.int p3), .val (.ref b101), .val (.ref s3), .val (.int (0 : Int32)), .val (.ref o3), .val (.int (61 : Int32)), .val (.int (1 : Int32)), .unset, .unset] [(.int (0 : Int32)), (.ref o3)])) rfl (by rw [hml]; rfl) (Steps.refl _) (argsL := [(.int (0 : Int32))]) (rest := []) (lenOf own_pd6 rfl) rfl (by show 2 * 0 + _ ≤ _; exact Nat.le_of_eq rfl) (hb hby at_122) (fun _ _ => ⟨rfl, e257, (by decide : 1 + 0 ≤ _), (by decide : 6 + 0 ≤ _)⟩)
      dsimp only [Pt.U, Pt.locs, Pt.cells, Pt.slots] at X258 l258 y258 z258 st258 hQ258
      subst l258 y258 z258
      obtain ⟨rfl, N258q, e258⟩ := hQ258
      have N258 := Fr.app N257 N258q
      obtain ⟨cq259, kq259, q259a, q259b, q259c⟩ := isOf hZ e258 c146
      obtain ⟨_, _, ⟨T259, L259, k259, n259⟩, -, X259, ⟨Lc259, hQ259, l259, y259, z259⟩, st259⟩ := X258.virtualBack hx (y := own_m10) (z := own_m10) hown (mvT hZ (own_w66 hw)) (mvT hZ (own_w67 hw)) (notFace_of_selects (args := #[]) (mvT hZ (own_w69 hw))) (mvT hZ (own_w69 hw)) (mvT hZ (own_w68 hw)) (by decide) (backOf (W := 0) (own_holds3 l Z a0 hw [] s3 (0 : Int32) h131 n0 Z131 c146 c147) hZ (own_w70 hw) (own_w3 hw) (by decide) (by decide)) q259a q259c (g := (mkF m 163 #[.val (.int p1), .val (.int p2), .val (.int p3), .val (.ref b101), .val (.ref s3), .val (.int (0 : Int32)), .val (.ref o3), .val (.int (61 : Int32)), .val (.int (1 : Int32)), .val (.int (0 : Int32)), .val (.int (1 : Int32))] [(.int (0 : Int32)), (.ref s3)])) rfl (by rw [hml]; rfl) (Steps.refl _) (argsL := [(.int (0 : Int32))]) (rest := []) (lenOf own_pd9 rfl) rfl (by show 2 * 0 + _ ≤ _; exact Nat.le_of_eq rfl) (hb hby at_163) (fun _ _ => ⟨rfl, e258, (by decide : 1 + 0 ≤ _), (by decide : 6 + 0 ≤ _)⟩)
      dsimp only [Pt.U, Pt.locs, Pt.cells, Pt.slots] at X259 l259 y259 z259 st259 hQ259
      subst l259 y259 z259
      obtain ⟨rfl, N259q, e259⟩ := hQ259
      have N259 := Fr.app N258 N259q
      obtain ⟨fs, hr, hrun, hended, hW, hsame⟩ := X259.leave (v := some (.int (1 : Int32))) (fun h => by rw [Bd.returns] at h; cases h)
      refine ⟨_, _, pre236 _ ?_, hrun, hended, _, _, rfl, ?_, ⟨_, rfl⟩, hW, hsame.mono (by decide) (by decide)⟩
      · show Steps _ _ _ (T131.setTop (mkF m 56 #[.val (.int p1), .val (.int p2), .val (.int p3), .val (.ref b101), .val (.ref s3), .unset, .unset, .unset, .unset, .unset, .unset] [(.int (p3 &&& (1 : Int32)))])) _
        refine XS.ifNo X131.here hx rfl (hb hby at_56) rfl ((if0 _ _).trans (feq hc56_237).1) ?_
        refine XS.iconst X131.here hx rfl (hb hby at_59) ?_
        refine XS.goto X131.here hx rfl (pc0 := 60) (pc' := 64) rfl (hb hby at_60) (by decide) (by decide) ?_
        refine XS.istore X131.here hx rfl (hb hby at_64) rfl (l' := #[.val (.int p1), .val (.int p2), .val (.int p3), .val (.ref b101), .val (.ref s3), .val (.int (0 : Int32)), .unset, .unset, .unset, .unset, .unset]) rfl ?_
        show Steps _ _ _ (T131.setTop (mkF m 66 #[.val (.int p1), .val (.int p2), .val (.int p3), .val (.ref b101), .val (.ref s3), .val (.int (0 : Int32)), .unset, .unset, .unset, .unset, .unset] [])) _
        refine XS.aload X131.here hx rfl (hb hby at_66) rfl rfl ?_
        refine st255.trans ?_
        refine XS.astore X255.here hx rfl (hb hby at_71) rfl rfl (l' := #[.val (.int p1), .val (.int p2), .val (.int p3), .val (.ref b101), .val (.ref s3), .val (.int (0 : Int32)), .val (.ref o3), .unset, .unset, .unset, .unset]) rfl ?_
        refine XS.iload X255.here hx rfl (hb hby at_73) rfl ?_
        show Steps _ _ _ (T255.setTop (mkF m 75 #[.val (.int p1), .val (.int p2), .val (.int p3), .val (.ref b101), .val (.ref s3), .val (.int (0 : Int32)), .val (.ref o3), .unset, .unset, .unset, .unset] [(.int (0 : Int32))])) _
        refine XS.ifYes X255.here hx rfl (pc0 := 75) (pc' := 85) rfl (hb hby at_75) rfl ((if0 _ _).trans (flt (by decide : ¬ ((0 : Int32) < (0 : Int32)))).2.1) (by decide) (by decide) ?_
        refine XS.iload X255.here hx rfl (hb hby at_85) rfl ?_
        refine XS.ifNo X255.here hx rfl (hb hby at_87) rfl ((if0 _ _).trans (teq (by decide : (0 : Int32) = (0 : Int32))).2) ?_
        refine XS.bipush X255.here hx rfl (hb hby at_90) ?_
        show Steps _ _ _ (T255.setTop (mkF m 92 #[.val (.int p1), .val (.int p2), .val (.int p3), .val (.ref b101), .val (.ref s3), .val (.int (0 : Int32)), .val (.ref o3), .unset, .unset, .unset, .unset] [(.int (61 : Int32))])) _
        refine XS.istore X255.here hx rfl (hb hby at_92) rfl (l' := #[.val (.int p1), .val (.int p2), .val (.int p3), .val (.ref b101), .val (.ref s3), .val (.int (0 : Int32)), .val (.ref o3), .val (.int (61 : Int32)), .unset, .unset, .unset]) rfl ?_
        refine XS.goto X255.here hx rfl (pc0 := 94) (pc' := 101) rfl (hb hby at_94) (by decide) (by decide) ?_
        refine XS.aload X255.here hx rfl (hb hby at_101) rfl rfl ?_
        refine XS.iload X255.here hx rfl (hb hby at_103) rfl ?_
        show Steps _ _ _ (T255.setTop (mkF m 105 #[.val (.int p1), .val (.int p2), .val (.int p3), .val (.ref b101), .val (.ref s3), .val (.int (0 : Int32)), .val (.ref o3), .val (.int (61 : Int32)), .unset, .unset, .unset] [(.int (61 : Int32)), (.ref o3)])) _
        refine st256 _ ?_
        refine XS.istore X256.here hx rfl (hb hby at_108) rfl (l' := #[.val (.int p1), .val (.int p2), .val (.int p3), .val (.ref b101), .val (.ref s3), .val (.int (0 : Int32)), .val (.ref o3), .val (.int (61 : Int32)), .val (.int (1 : Int32)), .unset, .unset]) rfl ?_
        refine XS.aload X256.here hx rfl (hb hby at_110) rfl rfl ?_
        refine st257.trans ?_
        show Steps _ _ _ (T257.setTop (mkF m 115 #[.val (.int p1), .val (.int p2), .val (.int p3), .val (.ref b101), .val (.ref s3), .val (.int (0 : Int32)), .val (.ref o3), .val (.int (61 : Int32)), .val (.int (1 : Int32)), .unset, .unset] [(.int (1 : Int32))])) _
        refine XS.iconst X257.here hx rfl (hb hby at_115) ?_
        refine XS.icmpNo X257.here hx rfl (hb hby at_116) rfl (flt (by decide : ¬ ((1 : Int32) < (1 : Int32)))).1 ?_
        refine XS.aload X257.here hx rfl (hb hby at_119) rfl rfl ?_
        refine XS.iconst X257.here hx rfl (hb hby at_121) ?_
        show Steps _ _ _ (T257.setTop (mkF m 122 #[.val (.int p1), .val (.int p2), .val (.int p3), .val (.ref b101), .val (.ref s3), .val (.int (0 : Int32)), .val (.ref o3), .val (.int (61 : Int32)), .val (.int (1 : Int32)), .unset, .unset] [(.int (0 : Int32)), (.ref o3)])) _
        refine st258.trans ?_
        refine XS.bipush X258.here hx rfl (hb hby at_125) ?_
        refine XS.icmpYes X258.here hx rfl (pc0 := 127) (pc' := 134) rfl (hb hby at_127) rfl (feq (by decide : ¬ ((61 : Int32) = (33 : Int32)))).2 (by decide) (by decide) ?_
        refine XS.iconst X258.here hx rfl (hb hby at_134) ?_
        show Steps _ _ _ (T258.setTop (mkF m 135 #[.val (.int p1), .val (.int p2), .val (.int p3), .val (.ref b101), .val (.ref s3), .val (.int (0 : Int32)), .val (.ref o3), .val (.int (61 : Int32)), .val (.int (1 : Int32)), .unset, .unset] [(.int (0 : Int32))])) _
        refine XS.istore X258.here hx rfl (hb hby at_135) rfl (l' := #[.val (.int p1), .val (.int p2), .val (.int p3), .val (.ref b101), .val (.ref s3), .val (.int (0 : Int32)), .val (.ref o3), .val (.int (61 : Int32)), .val (.int (1 : Int32)), .val (.int (0 : Int32)), .unset]) rfl ?_
        refine XS.iload X258.here hx rfl (hb hby at_137) rfl ?_
        refine XS.ifYes X258.here hx rfl (pc0 := 139) (pc' := 155) rfl (hb hby at_139) rfl ((if0 _ _).trans (teq (by decide : (0 : Int32) = (0 : Int32))).1) (by decide) (by decide) ?_
        refine XS.iload X258.here hx rfl (hb hby at_155) rfl ?_
        show Steps _ _ _ (T258.setTop (mkF m 157 #[.val (.int p1), .val (.int p2), .val (.int p3), .val (.ref b101), .val (.ref s3), .val (.int (0 : Int32)), .val (.ref o3), .val (.int (61 : Int32)), .val (.int (1 : Int32)), .val (.int (0 : Int32)), .unset] [(.int (1 : Int32))])) _
        refine XS.istore X258.here hx rfl (hb hby at_157) rfl (l' := #[.val (.int p1), .val (.int p2), .val (.int p3), .val (.ref b101), .val (.ref s3), .val (.int (0 : Int32)), .val (.ref o3), .val (.int (61 : Int32)), .val (.int (1 : Int32)), .val (.int (0 : Int32)), .val (.int (1 : Int32))]) rfl ?_
        refine XS.aload X258.here hx rfl (hb hby at_159) rfl rfl ?_
        refine XS.iload X258.here hx rfl (hb hby at_161) rfl ?_
        refine st259.trans ?_
        show Steps _ _ _ (T259.setTop (mkF m 166 #[.val (.int p1), .val (.int p2), .val (.int p3), .val (.ref b101), .val (.ref s3), .val (.int (0 : Int32)), .val (.ref o3), .val (.int (61 : Int32)), .val (.int (1 : Int32)), .val (.int (0 : Int32)), .val (.int (1 : Int32))] [(.int (own_h3 (0 : Int32)))])) _
        refine XS.iload X259.here hx rfl (hb hby at_166) rfl ?_
        refine XS.icmpNo X259.here hx rfl (hb hby at_168) rfl (teq (by decide)).2 ?_
        refine XS.iconst X259.here hx rfl (hb hby at_171) ?_
        refine XS.goto X259.here hx rfl (pc0 := 172) (pc' := 176) rfl (hb hby at_172) (by decide) (by decide) ?_
        show Steps _ _ _ (T259.setTop (mkF m 176 #[.val (.int p1), .val (.int p2), .val (.int p3), .val (.ref b101), .val (.ref s3), .val (.int (0 : Int32)), .val (.ref o3), .val (.int (61 : Int32)), .val (.int (1 : Int32)), .val (.int (0 : Int32)), .val (.int (1 : Int32))] [(.int (1 : Int32))])) _
        exact retN X259 hx (t := .boolean) Bd.returns (by simp) (hb hby at_176) hr
      · show Qown_law Z p1 p2 p3 s0 o0 v0 s1 o1 v1 s2 o2 v2 s3 o3 v3 s4 o4 v4 s5 o5 v5 kc0 kc1 kc2 kc3 kc4 kc5 cs fv h0 n0 _ T259.heap _
        rw [e259]
        exact ⟨rfl, N259⟩
  · skip
    rw [hs159] at pre158
    obtain ⟨cl260, Ar260, Aq260, As260, An260, Ah260, Ag260⟩ := id V131
    have hin260 : ¬ ((4 : Int32) < 0 ∨ cl260.slots.size ≤ ((4 : Int32)).toNatClampNeg) := inb_of As260 ⟨by decide, by decide⟩
    have pre261 : ∀ t, Steps p.tables e below (T131.setTop (mkF m 56 #[.val (.int p1), .val (.int p2), .val (.int p3), .val (.ref b101), .val (.ref s4), .unset, .unset, .unset, .unset, .unset, .unset] [(.int (p3 &&& (1 : Int32)))])) t → Steps p.tables e below (s₁.setTop (entryFrame m #[(.int p1), (.int p2), (.int p3)] maxLocals)) t := fun t kt => pre158 t (by
      show Steps _ _ _ (T131.setTop (mkF m 50 #[.val (.int p1), .val (.int p2), .val (.int p3), .val (.ref b101), .unset, .unset, .unset, .unset, .unset, .unset, .unset] [(.int (4 : Int32)), (.ref b101)])) _
      refine X131.aaload hx (j := (4 : Int32)) (v := (.ref s4)) (by rw [e131]; exact Ar260.1) (State.isArrayOf_alike hZ.alike Ar260.2.1) rfl Ar260.2.2 hin260 (Ah260.at hin260 rfl) (g := (mkF m 50 #[.val (.int p1), .val (.int p2), .val (.int p3), .val (.ref b101), .unset, .unset, .unset, .unset, .unset, .unset, .unset] [(.int (4 : Int32)), (.ref b101)])) rfl rfl (hb hby at_50) _ ?_
      refine XS.astore X131.here hx rfl (hb hby at_51) rfl rfl (l' := #[.val (.int p1), .val (.int p2), .val (.int p3), .val (.ref b101), .val (.ref s4), .unset, .unset, .unset, .unset, .unset, .unset]) rfl ?_
      refine XS.iloadN X131.here hx rfl (hb hby at_53) rfl ?_
      refine XS.iconst X131.here hx rfl (hb hby at_54) ?_
      show Steps _ _ _ (T131.setTop (mkF m 55 #[.val (.int p1), .val (.int p2), .val (.int p3), .val (.ref b101), .val (.ref s4), .unset, .unset, .unset, .unset, .unset, .unset] [(.int (1 : Int32)), (.int p3)])) _
      refine XS.iand X131.here hx rfl (hb hby at_55) rfl ?_
      exact kt)
    by_cases hc56_262 : (p3 &&& (1 : Int32)) = (0 : Int32)
    · skip
      have ihc56_262 := (own_eq (b := (0 : Int32)) (k := 0) rfl).mp hc56_262
      obtain ⟨cq263, kq263, q263a, q263b, q263c⟩ := isOf hZ e131 c150
      obtain ⟨_, _, ⟨T263, L263, k263, n263⟩, -, X263, ⟨Lc263, hQ263, l263, y263, z263⟩, st263⟩ := X131.virtualBack hx (y := own_m8) (z := own_m8) hown (mvT hZ (own_w17 hw)) (mvT hZ (own_w18 hw)) (notFace_of_selects (args := #[]) (mvT hZ (own_w20 hw))) (mvT hZ (own_w20 hw)) (mvT hZ (own_w19 hw)) (by decide) (backOf (W := 0) (own_op l Z a0 hw [] s4 o4 h131 n0 Z131 c152) hZ (own_w21 hw) (own_w3 hw) (by decide) (by decide)) q263a q263c (g := (mkF m 68 #[.val (.int p1), .val (.int p2), .val (.int p3), .val (.ref b101), .val (.ref s4), .val (.int p2), .unset, .unset, .unset, .unset, .unset] [(.ref s4)])) rfl (by rw [hml]; rfl) (Steps.refl _) (argsL := []) (rest := []) (lenOf own_pd7 rfl) rfl (by show 2 * 0 + _ ≤ _; exact Nat.le_of_eq rfl) (hb hby at_68) (fun _ _ => ⟨rfl, e131, (by decide : 1 + 0 ≤ _), (by decide : 6 + 0 ≤ _)⟩)
      dsimp only [Pt.U, Pt.locs, Pt.cells, Pt.slots] at X263 l263 y263 z263 st263 hQ263
      subst l263 y263 z263
      obtain ⟨rfl, N263q, e263⟩ := hQ263
      have N263 := Fr.app N131 N263q
      have pre264 : ∀ t, Steps p.tables e below (T263.setTop (mkF m 75 #[.val (.int p1), .val (.int p2), .val (.int p3), .val (.ref b101), .val (.ref s4), .val (.int p2), .val (.ref o4), .unset, .unset, .unset, .unset] [(.int p2)])) t → Steps p.tables e below (s₁.setTop (entryFrame m #[(.int p1), (.int p2), (.int p3)] maxLocals)) t := fun t kt => pre261 t (by
        show Steps _ _ _ (T131.setTop (mkF m 56 #[.val (.int p1), .val (.int p2), .val (.int p3), .val (.ref b101), .val (.ref s4), .unset, .unset, .unset, .unset, .unset, .unset] [(.int (p3 &&& (1 : Int32)))])) _
        refine XS.ifYes X131.here hx rfl (pc0 := 56) (pc' := 63) rfl (hb hby at_56) rfl ((if0 _ _).trans (teq hc56_262).1) (by decide) (by decide) ?_
        refine XS.iloadN X131.here hx rfl (hb hby at_63) rfl ?_
        refine XS.istore X131.here hx rfl (hb hby at_64) rfl (l' := #[.val (.int p1), .val (.int p2), .val (.int p3), .val (.ref b101), .val (.ref s4), .val (.int p2), .unset, .unset, .unset, .unset, .unset]) rfl ?_
        refine XS.aload X131.here hx rfl (hb hby at_66) rfl rfl ?_
        show Steps _ _ _ (T131.setTop (mkF m 68 #[.val (.int p1), .val (.int p2), .val (.int p3), .val (.ref b101), .val (.ref s4), .val (.int p2), .unset, .unset, .unset, .unset, .unset] [(.ref s4)])) _
        refine st263.trans ?_
        refine XS.astore X263.here hx rfl (hb hby at_71) rfl rfl (l' := #[.val (.int p1), .val (.int p2), .val (.int p3), .val (.ref b101), .val (.ref s4), .val (.int p2), .val (.ref o4), .unset, .unset, .unset, .unset]) rfl ?_
        refine XS.iload X263.here hx rfl (hb hby at_73) rfl ?_
        exact kt)
      by_cases hc75_265 : p2 < (0 : Int32)
      · skip
        have ihc75_265 := (own_lt (b := (0 : Int32)) (k := 0) rfl).mp hc75_265
        obtain ⟨_, _, ⟨T266, L266, k266, n266⟩, -, X266, ⟨Lc266, hQ266, l266, y266, z266⟩, st266⟩ := Jvm.LawKit.callS X263 hx (y := own_m7) hown (mvT hZ (own_w24 hw)) (mvT hZ (own_w25 hw)) (mvT hZ (own_w26 hw)) (mvT hZ (own_w27 hw)) (by decide) (backOf (W := 0) (own_hasLL l Z a0 hw [] o4 v4 kc4 cs fv h131 n0 Z131 c153 c132 hcs c133 hfv) hZ (own_w27 hw) (own_w26 hw) (by decide) (by decide)) (g := (mkF m 105 #[.val (.int p1), .val (.int p2), .val (.int p3), .val (.ref b101), .val (.ref s4), .val (.int p2), .val (.ref o4), .val (.int (60 : Int32)), .unset, .unset, .unset] [(.int (60 : Int32)), (.ref o4)])) rfl (by rw [hml]; rfl) (argsL := [(.ref o4), (.int (60 : Int32))]) (rest := []) (lenOf own_pd8 rfl) rfl (by show 2 * 0 + _ ≤ _; exact Nat.le_of_eq rfl) (hb hby at_105) (fun _ _ => ⟨rfl, e263, (by decide : 1 + 0 ≤ _), (by decide : 6 + 0 ≤ _)⟩)
        dsimp only [Pt.U, Pt.locs, Pt.cells, Pt.slots] at X266 l266 y266 z266 st266 hQ266
        subst l266 y266 z266
        obtain ⟨rfl, N266q, e266⟩ := hQ266
        have N266 := Fr.app N263 N266q
        obtain ⟨cq267, kq267, q267a, q267b, q267c⟩ := isOf hZ e266 c153.1
        obtain ⟨_, _, ⟨T267, L267, k267, n267⟩, -, X267, ⟨Lc267, hQ267, l267, y267, z267⟩, st267⟩ := X266.virtualBack hx (y := own_m6) (z := own_m6) hown (mvT hZ (own_w28 hw)) (mvT hZ (own_w29 hw)) (notFace_of_selects (args := #[]) (mvT hZ (own_w31 hw))) (mvT hZ (own_w31 hw)) (mvT hZ (own_w30 hw)) (by decide) (backOf (W := 0) (own_lenL l Z a0 hw [] o4 v4 kc4 cs fv h131 n0 Z131 c153 c132 hcs c133 hfv) hZ (own_w33 hw) (own_w32 hw) (by decide) (by decide)) q267a q267c (g := (mkF m 112 #[.val (.int p1), .val (.int p2), .val (.int p3), .val (.ref b101), .val (.ref s4), .val (.int p2), .val (.ref o4), .val (.int (60 : Int32)), .val (.int (1 : Int32)), .unset, .unset] [(.ref o4)])) rfl (by rw [hml]; rfl) (Steps.refl _) (argsL := []) (rest := []) (lenOf own_pd5 rfl) rfl (by show 2 * 0 + _ ≤ _; exact Nat.le_of_eq rfl) (hb hby at_112) (fun _ _ => ⟨rfl, e266, (by decide : 1 + 0 ≤ _), (by decide : 6 + 0 ≤ _)⟩)
        dsimp only [Pt.U, Pt.locs, Pt.cells, Pt.slots] at X267 l267 y267 z267 st267 hQ267
        subst l267 y267 z267
        obtain ⟨rfl, N267q, e267⟩ := hQ267
        have N267 := Fr.app N266 N267q
        obtain ⟨cq268, kq268, q268a, q268b, q268c⟩ := isOf hZ e267 c153.1
        obtain ⟨_, _, ⟨T268, L268, k268, n268⟩, -, X268, ⟨Lc268, hQ268, l268, y268, z268⟩, st268⟩ := X267.virtualBack hx (y := own_m5) (z := own_m5) hown (mvT hZ (own_w44 hw)) (mvT hZ (own_w45 hw)) (notFace_of_selects (args := #[]) (mvT hZ (own_w47 hw))) (mvT hZ (own_w47 hw)) (mvT hZ (own_w46 hw)) (by decide) (backOf (W := 0) (own_caL0 l Z a0 hw [] o4 v4 kc4 cs fv h131 n0 Z131 c153 c132 hcs c133 hfv) hZ (own_w48 hw) (own_w32 hw) (by decide) (by decide)) q268a q268c (g := (mkF m 122 #[.val (.int p1), .val (.int p2), .val (.int p3), .val (.ref b101), .val (.ref s4), .val (.int p2), .val (.ref o4), .val (.int (60 : Int32)), .val (.int (1 : Int32)), .unset, .unset] [(.int (0 : Int32)), (.ref o4)])) rfl (by rw [hml]; rfl) (Steps.refl _) (argsL := [(.int (0 : Int32))]) (rest := []) (lenOf own_pd6 rfl) rfl (by show 2 * 0 + _ ≤ _; exact Nat.le_of_eq rfl) (hb hby at_122) (fun _ _ => ⟨rfl, e267, (by decide : 1 + 0 ≤ _), (by decide : 6 + 0 ≤ _)⟩)
        dsimp only [Pt.U, Pt.locs, Pt.cells, Pt.slots] at X268 l268 y268 z268 st268 hQ268
        subst l268 y268 z268
        obtain ⟨rfl, N268q, e268⟩ := hQ268
        have N268 := Fr.app N267 N268q
        obtain ⟨cq269, kq269, q269a, q269b, q269c⟩ := isOf hZ e268 c150
        obtain ⟨_, _, ⟨T269, L269, k269, n269⟩, -, X269, ⟨Lc269, hQ269, l269, y269, z269⟩, st269⟩ := X268.virtualBack hx (y := own_m10) (z := own_m10) hown (mvT hZ (own_w66 hw)) (mvT hZ (own_w67 hw)) (notFace_of_selects (args := #[]) (mvT hZ (own_w69 hw))) (mvT hZ (own_w69 hw)) (mvT hZ (own_w68 hw)) (by decide) (backOf (W := 0) (own_holds4 l Z a0 hw [] s4 p2 h131 n0 Z131 c150 c151) hZ (own_w70 hw) (own_w3 hw) (by decide) (by decide)) q269a q269c (g := (mkF m 163 #[.val (.int p1), .val (.int p2), .val (.int p3), .val (.ref b101), .val (.ref s4), .val (.int p2), .val (.ref o4), .val (.int (60 : Int32)), .val (.int (1 : Int32)), .val (.int (0 : Int32)), .val (.int (1 : Int32))] [(.int p2), (.ref s4)])) rfl (by rw [hml]; rfl) (Steps.refl _) (argsL := [(.int p2)]) (rest := []) (lenOf own_pd9 rfl) rfl (by show 2 * 0 + _ ≤ _; exact Nat.le_of_eq rfl) (hb hby at_163) (fun _ _ => ⟨rfl, e268, (by decide : 1 + 0 ≤ _), (by decide : 6 + 0 ≤ _)⟩)
        dsimp only [Pt.U, Pt.locs, Pt.cells, Pt.slots] at X269 l269 y269 z269 st269 hQ269
        subst l269 y269 z269
        obtain ⟨rfl, N269q, e269⟩ := hQ269
        have N269 := Fr.app N268 N269q
        obtain ⟨fs, hr, hrun, hended, hW, hsame⟩ := X269.leave (v := some (.int (1 : Int32))) (fun h => by rw [Bd.returns] at h; cases h)
        refine ⟨_, _, pre264 _ ?_, hrun, hended, _, _, rfl, ?_, ⟨_, rfl⟩, hW, hsame.mono (by decide) (by decide)⟩
        · show Steps _ _ _ (T263.setTop (mkF m 75 #[.val (.int p1), .val (.int p2), .val (.int p3), .val (.ref b101), .val (.ref s4), .val (.int p2), .val (.ref o4), .unset, .unset, .unset, .unset] [(.int p2)])) _
          refine XS.ifNo X263.here hx rfl (hb hby at_75) rfl ((if0 _ _).trans (tlt hc75_265).2.1) ?_
          refine XS.bipush X263.here hx rfl (hb hby at_78) ?_
          refine XS.istore X263.here hx rfl (hb hby at_80) rfl (l' := #[.val (.int p1), .val (.int p2), .val (.int p3), .val (.ref b101), .val (.ref s4), .val (.int p2), .val (.ref o4), .val (.int (60 : Int32)), .unset, .unset, .unset]) rfl ?_
          refine XS.goto X263.here hx rfl (pc0 := 82) (pc' := 101) rfl (hb hby at_82) (by decide) (by decide) ?_
          show Steps _ _ _ (T263.setTop (mkF m 101 #[.val (.int p1), .val (.int p2), .val (.int p3), .val (.ref b101), .val (.ref s4), .val (.int p2), .val (.ref o4), .val (.int (60 : Int32)), .unset, .unset, .unset] [])) _
          refine XS.aload X263.here hx rfl (hb hby at_101) rfl rfl ?_
          refine XS.iload X263.here hx rfl (hb hby at_103) rfl ?_
          refine st266 _ ?_
          refine XS.istore X266.here hx rfl (hb hby at_108) rfl (l' := #[.val (.int p1), .val (.int p2), .val (.int p3), .val (.ref b101), .val (.ref s4), .val (.int p2), .val (.ref o4), .val (.int (60 : Int32)), .val (.int (1 : Int32)), .unset, .unset]) rfl ?_
          show Steps _ _ _ (T266.setTop (mkF m 110 #[.val (.int p1), .val (.int p2), .val (.int p3), .val (.ref b101), .val (.ref s4), .val (.int p2), .val (.ref o4), .val (.int (60 : Int32)), .val (.int (1 : Int32)), .unset, .unset] [])) _
          refine XS.aload X266.here hx rfl (hb hby at_110) rfl rfl ?_
          refine st267.trans ?_
          refine XS.iconst X267.here hx rfl (hb hby at_115) ?_
          refine XS.icmpNo X267.here hx rfl (hb hby at_116) rfl (flt (by decide : ¬ ((1 : Int32) < (1 : Int32)))).1 ?_
          show Steps _ _ _ (T267.setTop (mkF m 119 #[.val (.int p1), .val (.int p2), .val (.int p3), .val (.ref b101), .val (.ref s4), .val (.int p2), .val (.ref o4), .val (.int (60 : Int32)), .val (.int (1 : Int32)), .unset, .unset] [])) _
          refine XS.aload X267.here hx rfl (hb hby at_119) rfl rfl ?_
          refine XS.iconst X267.here hx rfl (hb hby at_121) ?_
          refine st268.trans ?_
          refine XS.bipush X268.here hx rfl (hb hby at_125) ?_
          show Steps _ _ _ (T268.setTop (mkF m 127 #[.val (.int p1), .val (.int p2), .val (.int p3), .val (.ref b101), .val (.ref s4), .val (.int p2), .val (.ref o4), .val (.int (60 : Int32)), .val (.int (1 : Int32)), .unset, .unset] [(.int (33 : Int32)), (.int (60 : Int32))])) _
          refine XS.icmpYes X268.here hx rfl (pc0 := 127) (pc' := 134) rfl (hb hby at_127) rfl (feq (by decide : ¬ ((60 : Int32) = (33 : Int32)))).2 (by decide) (by decide) ?_
          refine XS.iconst X268.here hx rfl (hb hby at_134) ?_
          refine XS.istore X268.here hx rfl (hb hby at_135) rfl (l' := #[.val (.int p1), .val (.int p2), .val (.int p3), .val (.ref b101), .val (.ref s4), .val (.int p2), .val (.ref o4), .val (.int (60 : Int32)), .val (.int (1 : Int32)), .val (.int (0 : Int32)), .unset]) rfl ?_
          refine XS.iload X268.here hx rfl (hb hby at_137) rfl ?_
          show Steps _ _ _ (T268.setTop (mkF m 139 #[.val (.int p1), .val (.int p2), .val (.int p3), .val (.ref b101), .val (.ref s4), .val (.int p2), .val (.ref o4), .val (.int (60 : Int32)), .val (.int (1 : Int32)), .val (.int (0 : Int32)), .unset] [(.int (0 : Int32))])) _
          refine XS.ifYes X268.here hx rfl (pc0 := 139) (pc' := 155) rfl (hb hby at_139) rfl ((if0 _ _).trans (teq (by decide : (0 : Int32) = (0 : Int32))).1) (by decide) (by decide) ?_
          refine XS.iload X268.here hx rfl (hb hby at_155) rfl ?_
          refine XS.istore X268.here hx rfl (hb hby at_157) rfl (l' := #[.val (.int p1), .val (.int p2), .val (.int p3), .val (.ref b101), .val (.ref s4), .val (.int p2), .val (.ref o4), .val (.int (60 : Int32)), .val (.int (1 : Int32)), .val (.int (0 : Int32)), .val (.int (1 : Int32))]) rfl ?_
          refine XS.aload X268.here hx rfl (hb hby at_159) rfl rfl ?_
          show Steps _ _ _ (T268.setTop (mkF m 161 #[.val (.int p1), .val (.int p2), .val (.int p3), .val (.ref b101), .val (.ref s4), .val (.int p2), .val (.ref o4), .val (.int (60 : Int32)), .val (.int (1 : Int32)), .val (.int (0 : Int32)), .val (.int (1 : Int32))] [(.ref s4)])) _
          refine XS.iload X268.here hx rfl (hb hby at_161) rfl ?_
          refine st269.trans ?_
          refine XS.iload X269.here hx rfl (hb hby at_166) rfl ?_
          refine XS.icmpNo X269.here hx rfl (hb hby at_168) rfl (teq (by unfold own_h4; exact if_pos (by omega))).2 ?_
          show Steps _ _ _ (T269.setTop (mkF m 171 #[.val (.int p1), .val (.int p2), .val (.int p3), .val (.ref b101), .val (.ref s4), .val (.int p2), .val (.ref o4), .val (.int (60 : Int32)), .val (.int (1 : Int32)), .val (.int (0 : Int32)), .val (.int (1 : Int32))] [])) _
          refine XS.iconst X269.here hx rfl (hb hby at_171) ?_
          refine XS.goto X269.here hx rfl (pc0 := 172) (pc' := 176) rfl (hb hby at_172) (by decide) (by decide) ?_
          show Steps _ _ _ (T269.setTop (mkF m 176 #[.val (.int p1), .val (.int p2), .val (.int p3), .val (.ref b101), .val (.ref s4), .val (.int p2), .val (.ref o4), .val (.int (60 : Int32)), .val (.int (1 : Int32)), .val (.int (0 : Int32)), .val (.int (1 : Int32))] [(.int (1 : Int32))])) _
          exact retN X269 hx (t := .boolean) Bd.returns (by simp) (hb hby at_176) hr
        · show Qown_law Z p1 p2 p3 s0 o0 v0 s1 o1 v1 s2 o2 v2 s3 o3 v3 s4 o4 v4 s5 o5 v5 kc0 kc1 kc2 kc3 kc4 kc5 cs fv h0 n0 _ T269.heap _
          rw [e269]
          exact ⟨rfl, N269⟩
      · skip
        have ihc75_265 := (mt (own_lt (b := (0 : Int32)) (k := 0) rfl).mpr hc75_265)
        have pre270 : ∀ t, Steps p.tables e below (T263.setTop (mkF m 87 #[.val (.int p1), .val (.int p2), .val (.int p3), .val (.ref b101), .val (.ref s4), .val (.int p2), .val (.ref o4), .unset, .unset, .unset, .unset] [(.int p2)])) t → Steps p.tables e below (s₁.setTop (entryFrame m #[(.int p1), (.int p2), (.int p3)] maxLocals)) t := fun t kt => pre264 t (by
          show Steps _ _ _ (T263.setTop (mkF m 75 #[.val (.int p1), .val (.int p2), .val (.int p3), .val (.ref b101), .val (.ref s4), .val (.int p2), .val (.ref o4), .unset, .unset, .unset, .unset] [(.int p2)])) _
          refine XS.ifYes X263.here hx rfl (pc0 := 75) (pc' := 85) rfl (hb hby at_75) rfl ((if0 _ _).trans (flt hc75_265).2.1) (by decide) (by decide) ?_
          refine XS.iload X263.here hx rfl (hb hby at_85) rfl ?_
          exact kt)
        by_cases hc87_271 : p2 = (0 : Int32)
        · skip
          have ihc87_271 := (own_eq (b := (0 : Int32)) (k := 0) rfl).mp hc87_271
          obtain ⟨_, _, ⟨T272, L272, k272, n272⟩, -, X272, ⟨Lc272, hQ272, l272, y272, z272⟩, st272⟩ := Jvm.LawKit.callS X263 hx (y := own_m7) hown (mvT hZ (own_w24 hw)) (mvT hZ (own_w25 hw)) (mvT hZ (own_w26 hw)) (mvT hZ (own_w27 hw)) (by decide) (backOf (W := 0) (own_hasLE l Z a0 hw [] o4 v4 kc4 cs fv h131 n0 Z131 c153 c132 hcs c133 hfv) hZ (own_w27 hw) (own_w26 hw) (by decide) (by decide)) (g := (mkF m 105 #[.val (.int p1), .val (.int p2), .val (.int p3), .val (.ref b101), .val (.ref s4), .val (.int p2), .val (.ref o4), .val (.int (61 : Int32)), .unset, .unset, .unset] [(.int (61 : Int32)), (.ref o4)])) rfl (by rw [hml]; rfl) (argsL := [(.ref o4), (.int (61 : Int32))]) (rest := []) (lenOf own_pd8 rfl) rfl (by show 2 * 0 + _ ≤ _; exact Nat.le_of_eq rfl) (hb hby at_105) (fun _ _ => ⟨rfl, e263, (by decide : 1 + 0 ≤ _), (by decide : 6 + 0 ≤ _)⟩)
          dsimp only [Pt.U, Pt.locs, Pt.cells, Pt.slots] at X272 l272 y272 z272 st272 hQ272
          subst l272 y272 z272
          obtain ⟨rfl, N272q, e272⟩ := hQ272
          have N272 := Fr.app N263 N272q
          obtain ⟨cq273, kq273, q273a, q273b, q273c⟩ := isOf hZ e272 c153.1
          obtain ⟨_, _, ⟨T273, L273, k273, n273⟩, -, X273, ⟨Lc273, hQ273, l273, y273, z273⟩, st273⟩ := X272.virtualBack hx (y := own_m6) (z := own_m6) hown (mvT hZ (own_w28 hw)) (mvT hZ (own_w29 hw)) (notFace_of_selects (args := #[]) (mvT hZ (own_w31 hw))) (mvT hZ (own_w31 hw)) (mvT hZ (own_w30 hw)) (by decide) (backOf (W := 0) (own_lenL l Z a0 hw [] o4 v4 kc4 cs fv h131 n0 Z131 c153 c132 hcs c133 hfv) hZ (own_w33 hw) (own_w32 hw) (by decide) (by decide)) q273a q273c (g := (mkF m 112 #[.val (.int p1), .val (.int p2), .val (.int p3), .val (.ref b101), .val (.ref s4), .val (.int p2), .val (.ref o4), .val (.int (61 : Int32)), .val (.int (0 : Int32)), .unset, .unset] [(.ref o4)])) rfl (by rw [hml]; rfl) (Steps.refl _) (argsL := []) (rest := []) (lenOf own_pd5 rfl) rfl (by show 2 * 0 + _ ≤ _; exact Nat.le_of_eq rfl) (hb hby at_112) (fun _ _ => ⟨rfl, e272, (by decide : 1 + 0 ≤ _), (by decide : 6 + 0 ≤ _)⟩)
          dsimp only [Pt.U, Pt.locs, Pt.cells, Pt.slots] at X273 l273 y273 z273 st273 hQ273
          subst l273 y273 z273
          obtain ⟨rfl, N273q, e273⟩ := hQ273
          have N273 := Fr.app N272 N273q
          obtain ⟨cq274, kq274, q274a, q274b, q274c⟩ := isOf hZ e273 c153.1
          obtain ⟨_, _, ⟨T274, L274, k274, n274⟩, -, X274, ⟨Lc274, hQ274, l274, y274, z274⟩, st274⟩ := X273.virtualBack hx (y := own_m5) (z := own_m5) hown (mvT hZ (own_w44 hw)) (mvT hZ (own_w45 hw)) (notFace_of_selects (args := #[]) (mvT hZ (own_w47 hw))) (mvT hZ (own_w47 hw)) (mvT hZ (own_w46 hw)) (by decide) (backOf (W := 0) (own_caL0 l Z a0 hw [] o4 v4 kc4 cs fv h131 n0 Z131 c153 c132 hcs c133 hfv) hZ (own_w48 hw) (own_w32 hw) (by decide) (by decide)) q274a q274c (g := (mkF m 122 #[.val (.int p1), .val (.int p2), .val (.int p3), .val (.ref b101), .val (.ref s4), .val (.int p2), .val (.ref o4), .val (.int (61 : Int32)), .val (.int (0 : Int32)), .unset, .unset] [(.int (0 : Int32)), (.ref o4)])) rfl (by rw [hml]; rfl) (Steps.refl _) (argsL := [(.int (0 : Int32))]) (rest := []) (lenOf own_pd6 rfl) rfl (by show 2 * 0 + _ ≤ _; exact Nat.le_of_eq rfl) (hb hby at_122) (fun _ _ => ⟨rfl, e273, (by decide : 1 + 0 ≤ _), (by decide : 6 + 0 ≤ _)⟩)
          dsimp only [Pt.U, Pt.locs, Pt.cells, Pt.slots] at X274 l274 y274 z274 st274 hQ274
          subst l274 y274 z274
          obtain ⟨rfl, N274q, e274⟩ := hQ274
          have N274 := Fr.app N273 N274q
          obtain ⟨cq275, kq275, q275a, q275b, q275c⟩ := isOf hZ e274 c150
          obtain ⟨_, _, ⟨T275, L275, k275, n275⟩, -, X275, ⟨Lc275, hQ275, l275, y275, z275⟩, st275⟩ := X274.virtualBack hx (y := own_m10) (z := own_m10) hown (mvT hZ (own_w66 hw)) (mvT hZ (own_w67 hw)) (notFace_of_selects (args := #[]) (mvT hZ (own_w69 hw))) (mvT hZ (own_w69 hw)) (mvT hZ (own_w68 hw)) (by decide) (backOf (W := 0) (own_holds4 l Z a0 hw [] s4 p2 h131 n0 Z131 c150 c151) hZ (own_w70 hw) (own_w3 hw) (by decide) (by decide)) q275a q275c (g := (mkF m 163 #[.val (.int p1), .val (.int p2), .val (.int p3), .val (.ref b101), .val (.ref s4), .val (.int p2), .val (.ref o4), .val (.int (61 : Int32)), .val (.int (0 : Int32)), .val (.int (0 : Int32)), .val (.int (0 : Int32))] [(.int p2), (.ref s4)])) rfl (by rw [hml]; rfl) (Steps.refl _) (argsL := [(.int p2)]) (rest := []) (lenOf own_pd9 rfl) rfl (by show 2 * 0 + _ ≤ _; exact Nat.le_of_eq rfl) (hb hby at_163) (fun _ _ => ⟨rfl, e274, (by decide : 1 + 0 ≤ _), (by decide : 6 + 0 ≤ _)⟩)
          dsimp only [Pt.U, Pt.locs, Pt.cells, Pt.slots] at X275 l275 y275 z275 st275 hQ275
          subst l275 y275 z275
          obtain ⟨rfl, N275q, e275⟩ := hQ275
          have N275 := Fr.app N274 N275q
          obtain ⟨fs, hr, hrun, hended, hW, hsame⟩ := X275.leave (v := some (.int (1 : Int32))) (fun h => by rw [Bd.returns] at h; cases h)
          refine ⟨_, _, pre270 _ ?_, hrun, hended, _, _, rfl, ?_, ⟨_, rfl⟩, hW, hsame.mono (by decide) (by decide)⟩
          · show Steps _ _ _ (T263.setTop (mkF m 87 #[.val (.int p1), .val (.int p2), .val (.int p3), .val (.ref b101), .val (.ref s4), .val (.int p2), .val (.ref o4), .unset, .unset, .unset, .unset] [(.int p2)])) _
            refine XS.ifNo X263.here hx rfl (hb hby at_87) rfl ((if0 _ _).trans (teq hc87_271).2) ?_
            refine XS.bipush X263.here hx rfl (hb hby at_90) ?_
            refine XS.istore X263.here hx rfl (hb hby at_92) rfl (l' := #[.val (.int p1), .val (.int p2), .val (.int p3), .val (.ref b101), .val (.ref s4), .val (.int p2), .val (.ref o4), .val (.int (61 : Int32)), .unset, .unset, .unset]) rfl ?_
            refine XS.goto X263.here hx rfl (pc0 := 94) (pc' := 101) rfl (hb hby at_94) (by decide) (by decide) ?_
            show Steps _ _ _ (T263.setTop (mkF m 101 #[.val (.int p1), .val (.int p2), .val (.int p3), .val (.ref b101), .val (.ref s4), .val (.int p2), .val (.ref o4), .val (.int (61 : Int32)), .unset, .unset, .unset] [])) _
            refine XS.aload X263.here hx rfl (hb hby at_101) rfl rfl ?_
            refine XS.iload X263.here hx rfl (hb hby at_103) rfl ?_
            refine st272 _ ?_
            refine XS.istore X272.here hx rfl (hb hby at_108) rfl (l' := #[.val (.int p1), .val (.int p2), .val (.int p3), .val (.ref b101), .val (.ref s4), .val (.int p2), .val (.ref o4), .val (.int (61 : Int32)), .val (.int (0 : Int32)), .unset, .unset]) rfl ?_
            show Steps _ _ _ (T272.setTop (mkF m 110 #[.val (.int p1), .val (.int p2), .val (.int p3), .val (.ref b101), .val (.ref s4), .val (.int p2), .val (.ref o4), .val (.int (61 : Int32)), .val (.int (0 : Int32)), .unset, .unset] [])) _
            refine XS.aload X272.here hx rfl (hb hby at_110) rfl rfl ?_
            refine st273.trans ?_
            refine XS.iconst X273.here hx rfl (hb hby at_115) ?_
            refine XS.icmpNo X273.here hx rfl (hb hby at_116) rfl (flt (by decide : ¬ ((1 : Int32) < (1 : Int32)))).1 ?_
            show Steps _ _ _ (T273.setTop (mkF m 119 #[.val (.int p1), .val (.int p2), .val (.int p3), .val (.ref b101), .val (.ref s4), .val (.int p2), .val (.ref o4), .val (.int (61 : Int32)), .val (.int (0 : Int32)), .unset, .unset] [])) _
            refine XS.aload X273.here hx rfl (hb hby at_119) rfl rfl ?_
            refine XS.iconst X273.here hx rfl (hb hby at_121) ?_
            refine st274.trans ?_
            refine XS.bipush X274.here hx rfl (hb hby at_125) ?_
            show Steps _ _ _ (T274.setTop (mkF m 127 #[.val (.int p1), .val (.int p2), .val (.int p3), .val (.ref b101), .val (.ref s4), .val (.int p2), .val (.ref o4), .val (.int (61 : Int32)), .val (.int (0 : Int32)), .unset, .unset] [(.int (33 : Int32)), (.int (60 : Int32))])) _
            refine XS.icmpYes X274.here hx rfl (pc0 := 127) (pc' := 134) rfl (hb hby at_127) rfl (feq (by decide : ¬ ((60 : Int32) = (33 : Int32)))).2 (by decide) (by decide) ?_
            refine XS.iconst X274.here hx rfl (hb hby at_134) ?_
            refine XS.istore X274.here hx rfl (hb hby at_135) rfl (l' := #[.val (.int p1), .val (.int p2), .val (.int p3), .val (.ref b101), .val (.ref s4), .val (.int p2), .val (.ref o4), .val (.int (61 : Int32)), .val (.int (0 : Int32)), .val (.int (0 : Int32)), .unset]) rfl ?_
            refine XS.iload X274.here hx rfl (hb hby at_137) rfl ?_
            show Steps _ _ _ (T274.setTop (mkF m 139 #[.val (.int p1), .val (.int p2), .val (.int p3), .val (.ref b101), .val (.ref s4), .val (.int p2), .val (.ref o4), .val (.int (61 : Int32)), .val (.int (0 : Int32)), .val (.int (0 : Int32)), .unset] [(.int (0 : Int32))])) _
            refine XS.ifYes X274.here hx rfl (pc0 := 139) (pc' := 155) rfl (hb hby at_139) rfl ((if0 _ _).trans (teq (by decide : (0 : Int32) = (0 : Int32))).1) (by decide) (by decide) ?_
            refine XS.iload X274.here hx rfl (hb hby at_155) rfl ?_
            refine XS.istore X274.here hx rfl (hb hby at_157) rfl (l' := #[.val (.int p1), .val (.int p2), .val (.int p3), .val (.ref b101), .val (.ref s4), .val (.int p2), .val (.ref o4), .val (.int (61 : Int32)), .val (.int (0 : Int32)), .val (.int (0 : Int32)), .val (.int (0 : Int32))]) rfl ?_
            refine XS.aload X274.here hx rfl (hb hby at_159) rfl rfl ?_
            show Steps _ _ _ (T274.setTop (mkF m 161 #[.val (.int p1), .val (.int p2), .val (.int p3), .val (.ref b101), .val (.ref s4), .val (.int p2), .val (.ref o4), .val (.int (61 : Int32)), .val (.int (0 : Int32)), .val (.int (0 : Int32)), .val (.int (0 : Int32))] [(.ref s4)])) _
            refine XS.iload X274.here hx rfl (hb hby at_161) rfl ?_
            refine st275.trans ?_
            refine XS.iload X275.here hx rfl (hb hby at_166) rfl ?_
            refine XS.icmpNo X275.here hx rfl (hb hby at_168) rfl (teq (by unfold own_h4; exact if_neg (by omega))).2 ?_
            show Steps _ _ _ (T275.setTop (mkF m 171 #[.val (.int p1), .val (.int p2), .val (.int p3), .val (.ref b101), .val (.ref s4), .val (.int p2), .val (.ref o4), .val (.int (61 : Int32)), .val (.int (0 : Int32)), .val (.int (0 : Int32)), .val (.int (0 : Int32))] [])) _
            refine XS.iconst X275.here hx rfl (hb hby at_171) ?_
            refine XS.goto X275.here hx rfl (pc0 := 172) (pc' := 176) rfl (hb hby at_172) (by decide) (by decide) ?_
            show Steps _ _ _ (T275.setTop (mkF m 176 #[.val (.int p1), .val (.int p2), .val (.int p3), .val (.ref b101), .val (.ref s4), .val (.int p2), .val (.ref o4), .val (.int (61 : Int32)), .val (.int (0 : Int32)), .val (.int (0 : Int32)), .val (.int (0 : Int32))] [(.int (1 : Int32))])) _
            exact retN X275 hx (t := .boolean) Bd.returns (by simp) (hb hby at_176) hr
          · show Qown_law Z p1 p2 p3 s0 o0 v0 s1 o1 v1 s2 o2 v2 s3 o3 v3 s4 o4 v4 s5 o5 v5 kc0 kc1 kc2 kc3 kc4 kc5 cs fv h0 n0 _ T275.heap _
            rw [e275]
            exact ⟨rfl, N275⟩
        · skip
          have ihc87_271 := (mt (own_eq (b := (0 : Int32)) (k := 0) rfl).mpr hc87_271)
          obtain ⟨_, _, ⟨T276, L276, k276, n276⟩, -, X276, ⟨Lc276, hQ276, l276, y276, z276⟩, st276⟩ := Jvm.LawKit.callS X263 hx (y := own_m7) hown (mvT hZ (own_w24 hw)) (mvT hZ (own_w25 hw)) (mvT hZ (own_w26 hw)) (mvT hZ (own_w27 hw)) (by decide) (backOf (W := 0) (own_hasLG l Z a0 hw [] o4 v4 kc4 cs fv h131 n0 Z131 c153 c132 hcs c133 hfv) hZ (own_w27 hw) (own_w26 hw) (by decide) (by decide)) (g := (mkF m 105 #[.val (.int p1), .val (.int p2), .val (.int p3), .val (.ref b101), .val (.ref s4), .val (.int p2), .val (.ref o4), .val (.int (62 : Int32)), .unset, .unset, .unset] [(.int (62 : Int32)), (.ref o4)])) rfl (by rw [hml]; rfl) (argsL := [(.ref o4), (.int (62 : Int32))]) (rest := []) (lenOf own_pd8 rfl) rfl (by show 2 * 0 + _ ≤ _; exact Nat.le_of_eq rfl) (hb hby at_105) (fun _ _ => ⟨rfl, e263, (by decide : 1 + 0 ≤ _), (by decide : 6 + 0 ≤ _)⟩)
          dsimp only [Pt.U, Pt.locs, Pt.cells, Pt.slots] at X276 l276 y276 z276 st276 hQ276
          subst l276 y276 z276
          obtain ⟨rfl, N276q, e276⟩ := hQ276
          have N276 := Fr.app N263 N276q
          obtain ⟨cq277, kq277, q277a, q277b, q277c⟩ := isOf hZ e276 c153.1
          obtain ⟨_, _, ⟨T277, L277, k277, n277⟩, -, X277, ⟨Lc277, hQ277, l277, y277, z277⟩, st277⟩ := X276.virtualBack hx (y := own_m6) (z := own_m6) hown (mvT hZ (own_w28 hw)) (mvT hZ (own_w29 hw)) (notFace_of_selects (args := #[]) (mvT hZ (own_w31 hw))) (mvT hZ (own_w31 hw)) (mvT hZ (own_w30 hw)) (by decide) (backOf (W := 0) (own_lenL l Z a0 hw [] o4 v4 kc4 cs fv h131 n0 Z131 c153 c132 hcs c133 hfv) hZ (own_w33 hw) (own_w32 hw) (by decide) (by decide)) q277a q277c (g := (mkF m 112 #[.val (.int p1), .val (.int p2), .val (.int p3), .val (.ref b101), .val (.ref s4), .val (.int p2), .val (.ref o4), .val (.int (62 : Int32)), .val (.int (0 : Int32)), .unset, .unset] [(.ref o4)])) rfl (by rw [hml]; rfl) (Steps.refl _) (argsL := []) (rest := []) (lenOf own_pd5 rfl) rfl (by show 2 * 0 + _ ≤ _; exact Nat.le_of_eq rfl) (hb hby at_112) (fun _ _ => ⟨rfl, e276, (by decide : 1 + 0 ≤ _), (by decide : 6 + 0 ≤ _)⟩)
          dsimp only [Pt.U, Pt.locs, Pt.cells, Pt.slots] at X277 l277 y277 z277 st277 hQ277
          subst l277 y277 z277
          obtain ⟨rfl, N277q, e277⟩ := hQ277
          have N277 := Fr.app N276 N277q
          obtain ⟨cq278, kq278, q278a, q278b, q278c⟩ := isOf hZ e277 c153.1
          obtain ⟨_, _, ⟨T278, L278, k278, n278⟩, -, X278, ⟨Lc278, hQ278, l278, y278, z278⟩, st278⟩ := X277.virtualBack hx (y := own_m5) (z := own_m5) hown (mvT hZ (own_w44 hw)) (mvT hZ (own_w45 hw)) (notFace_of_selects (args := #[]) (mvT hZ (own_w47 hw))) (mvT hZ (own_w47 hw)) (mvT hZ (own_w46 hw)) (by decide) (backOf (W := 0) (own_caL0 l Z a0 hw [] o4 v4 kc4 cs fv h131 n0 Z131 c153 c132 hcs c133 hfv) hZ (own_w48 hw) (own_w32 hw) (by decide) (by decide)) q278a q278c (g := (mkF m 122 #[.val (.int p1), .val (.int p2), .val (.int p3), .val (.ref b101), .val (.ref s4), .val (.int p2), .val (.ref o4), .val (.int (62 : Int32)), .val (.int (0 : Int32)), .unset, .unset] [(.int (0 : Int32)), (.ref o4)])) rfl (by rw [hml]; rfl) (Steps.refl _) (argsL := [(.int (0 : Int32))]) (rest := []) (lenOf own_pd6 rfl) rfl (by show 2 * 0 + _ ≤ _; exact Nat.le_of_eq rfl) (hb hby at_122) (fun _ _ => ⟨rfl, e277, (by decide : 1 + 0 ≤ _), (by decide : 6 + 0 ≤ _)⟩)
          dsimp only [Pt.U, Pt.locs, Pt.cells, Pt.slots] at X278 l278 y278 z278 st278 hQ278
          subst l278 y278 z278
          obtain ⟨rfl, N278q, e278⟩ := hQ278
          have N278 := Fr.app N277 N278q
          obtain ⟨cq279, kq279, q279a, q279b, q279c⟩ := isOf hZ e278 c150
          obtain ⟨_, _, ⟨T279, L279, k279, n279⟩, -, X279, ⟨Lc279, hQ279, l279, y279, z279⟩, st279⟩ := X278.virtualBack hx (y := own_m10) (z := own_m10) hown (mvT hZ (own_w66 hw)) (mvT hZ (own_w67 hw)) (notFace_of_selects (args := #[]) (mvT hZ (own_w69 hw))) (mvT hZ (own_w69 hw)) (mvT hZ (own_w68 hw)) (by decide) (backOf (W := 0) (own_holds4 l Z a0 hw [] s4 p2 h131 n0 Z131 c150 c151) hZ (own_w70 hw) (own_w3 hw) (by decide) (by decide)) q279a q279c (g := (mkF m 163 #[.val (.int p1), .val (.int p2), .val (.int p3), .val (.ref b101), .val (.ref s4), .val (.int p2), .val (.ref o4), .val (.int (62 : Int32)), .val (.int (0 : Int32)), .val (.int (0 : Int32)), .val (.int (0 : Int32))] [(.int p2), (.ref s4)])) rfl (by rw [hml]; rfl) (Steps.refl _) (argsL := [(.int p2)]) (rest := []) (lenOf own_pd9 rfl) rfl (by show 2 * 0 + _ ≤ _; exact Nat.le_of_eq rfl) (hb hby at_163) (fun _ _ => ⟨rfl, e278, (by decide : 1 + 0 ≤ _), (by decide : 6 + 0 ≤ _)⟩)
          dsimp only [Pt.U, Pt.locs, Pt.cells, Pt.slots] at X279 l279 y279 z279 st279 hQ279
          subst l279 y279 z279
          obtain ⟨rfl, N279q, e279⟩ := hQ279
          have N279 := Fr.app N278 N279q
          obtain ⟨fs, hr, hrun, hended, hW, hsame⟩ := X279.leave (v := some (.int (1 : Int32))) (fun h => by rw [Bd.returns] at h; cases h)
          refine ⟨_, _, pre270 _ ?_, hrun, hended, _, _, rfl, ?_, ⟨_, rfl⟩, hW, hsame.mono (by decide) (by decide)⟩
          · show Steps _ _ _ (T263.setTop (mkF m 87 #[.val (.int p1), .val (.int p2), .val (.int p3), .val (.ref b101), .val (.ref s4), .val (.int p2), .val (.ref o4), .unset, .unset, .unset, .unset] [(.int p2)])) _
            refine XS.ifYes X263.here hx rfl (pc0 := 87) (pc' := 97) rfl (hb hby at_87) rfl ((if0 _ _).trans (feq hc87_271).2) (by decide) (by decide) ?_
            refine XS.bipush X263.here hx rfl (hb hby at_97) ?_
            refine XS.istore X263.here hx rfl (hb hby at_99) rfl (l' := #[.val (.int p1), .val (.int p2), .val (.int p3), .val (.ref b101), .val (.ref s4), .val (.int p2), .val (.ref o4), .val (.int (62 : Int32)), .unset, .unset, .unset]) rfl ?_
            refine XS.aload X263.here hx rfl (hb hby at_101) rfl rfl ?_
            show Steps _ _ _ (T263.setTop (mkF m 103 #[.val (.int p1), .val (.int p2), .val (.int p3), .val (.ref b101), .val (.ref s4), .val (.int p2), .val (.ref o4), .val (.int (62 : Int32)), .unset, .unset, .unset] [(.ref o4)])) _
            refine XS.iload X263.here hx rfl (hb hby at_103) rfl ?_
            refine st276 _ ?_
            refine XS.istore X276.here hx rfl (hb hby at_108) rfl (l' := #[.val (.int p1), .val (.int p2), .val (.int p3), .val (.ref b101), .val (.ref s4), .val (.int p2), .val (.ref o4), .val (.int (62 : Int32)), .val (.int (0 : Int32)), .unset, .unset]) rfl ?_
            refine XS.aload X276.here hx rfl (hb hby at_110) rfl rfl ?_
            show Steps _ _ _ (T276.setTop (mkF m 112 #[.val (.int p1), .val (.int p2), .val (.int p3), .val (.ref b101), .val (.ref s4), .val (.int p2), .val (.ref o4), .val (.int (62 : Int32)), .val (.int (0 : Int32)), .unset, .unset] [(.ref o4)])) _
            refine st277.trans ?_
            refine XS.iconst X277.here hx rfl (hb hby at_115) ?_
            refine XS.icmpNo X277.here hx rfl (hb hby at_116) rfl (flt (by decide : ¬ ((1 : Int32) < (1 : Int32)))).1 ?_
            refine XS.aload X277.here hx rfl (hb hby at_119) rfl rfl ?_
            show Steps _ _ _ (T277.setTop (mkF m 121 #[.val (.int p1), .val (.int p2), .val (.int p3), .val (.ref b101), .val (.ref s4), .val (.int p2), .val (.ref o4), .val (.int (62 : Int32)), .val (.int (0 : Int32)), .unset, .unset] [(.ref o4)])) _
            refine XS.iconst X277.here hx rfl (hb hby at_121) ?_
            refine st278.trans ?_
            refine XS.bipush X278.here hx rfl (hb hby at_125) ?_
            refine XS.icmpYes X278.here hx rfl (pc0 := 127) (pc' := 134) rfl (hb hby at_127) rfl (feq (by decide : ¬ ((60 : Int32) = (33 : Int32)))).2 (by decide) (by decide) ?_
            show Steps _ _ _ (T278.setTop (mkF m 134 #[.val (.int p1), .val (.int p2), .val (.int p3), .val (.ref b101), .val (.ref s4), .val (.int p2), .val (.ref o4), .val (.int (62 : Int32)), .val (.int (0 : Int32)), .unset, .unset] [])) _
            refine XS.iconst X278.here hx rfl (hb hby at_134) ?_
            refine XS.istore X278.here hx rfl (hb hby at_135) rfl (l' := #[.val (.int p1), .val (.int p2), .val (.int p3), .val (.ref b101), .val (.ref s4), .val (.int p2), .val (.ref o4), .val (.int (62 : Int32)), .val (.int (0 : Int32)), .val (.int (0 : Int32)), .unset]) rfl ?_
            refine XS.iload X278.here hx rfl (hb hby at_137) rfl ?_
            refine XS.ifYes X278.here hx rfl (pc0 := 139) (pc' := 155) rfl (hb hby at_139) rfl ((if0 _ _).trans (teq (by decide : (0 : Int32) = (0 : Int32))).1) (by decide) (by decide) ?_
            show Steps _ _ _ (T278.setTop (mkF m 155 #[.val (.int p1), .val (.int p2), .val (.int p3), .val (.ref b101), .val (.ref s4), .val (.int p2), .val (.ref o4), .val (.int (62 : Int32)), .val (.int (0 : Int32)), .val (.int (0 : Int32)), .unset] [])) _
            refine XS.iload X278.here hx rfl (hb hby at_155) rfl ?_
            refine XS.istore X278.here hx rfl (hb hby at_157) rfl (l' := #[.val (.int p1), .val (.int p2), .val (.int p3), .val (.ref b101), .val (.ref s4), .val (.int p2), .val (.ref o4), .val (.int (62 : Int32)), .val (.int (0 : Int32)), .val (.int (0 : Int32)), .val (.int (0 : Int32))]) rfl ?_
            refine XS.aload X278.here hx rfl (hb hby at_159) rfl rfl ?_
            refine XS.iload X278.here hx rfl (hb hby at_161) rfl ?_
            show Steps _ _ _ (T278.setTop (mkF m 163 #[.val (.int p1), .val (.int p2), .val (.int p3), .val (.ref b101), .val (.ref s4), .val (.int p2), .val (.ref o4), .val (.int (62 : Int32)), .val (.int (0 : Int32)), .val (.int (0 : Int32)), .val (.int (0 : Int32))] [(.int p2), (.ref s4)])) _
            refine st279.trans ?_
            refine XS.iload X279.here hx rfl (hb hby at_166) rfl ?_
            refine XS.icmpNo X279.here hx rfl (hb hby at_168) rfl (teq (by unfold own_h4; exact if_neg (by omega))).2 ?_
            refine XS.iconst X279.here hx rfl (hb hby at_171) ?_
            show Steps _ _ _ (T279.setTop (mkF m 172 #[.val (.int p1), .val (.int p2), .val (.int p3), .val (.ref b101), .val (.ref s4), .val (.int p2), .val (.ref o4), .val (.int (62 : Int32)), .val (.int (0 : Int32)), .val (.int (0 : Int32)), .val (.int (0 : Int32))] [(.int (1 : Int32))])) _
            refine XS.goto X279.here hx rfl (pc0 := 172) (pc' := 176) rfl (hb hby at_172) (by decide) (by decide) ?_
            show Steps _ _ _ (T279.setTop (mkF m 176 #[.val (.int p1), .val (.int p2), .val (.int p3), .val (.ref b101), .val (.ref s4), .val (.int p2), .val (.ref o4), .val (.int (62 : Int32)), .val (.int (0 : Int32)), .val (.int (0 : Int32)), .val (.int (0 : Int32))] [(.int (1 : Int32))])) _
            exact retN X279 hx (t := .boolean) Bd.returns (by simp) (hb hby at_176) hr
          · show Qown_law Z p1 p2 p3 s0 o0 v0 s1 o1 v1 s2 o2 v2 s3 o3 v3 s4 o4 v4 s5 o5 v5 kc0 kc1 kc2 kc3 kc4 kc5 cs fv h0 n0 _ T279.heap _
            rw [e279]
            exact ⟨rfl, N279⟩
    · skip
      have ihc56_262 := (mt (own_eq (b := (0 : Int32)) (k := 0) rfl).mpr hc56_262)
      obtain ⟨cq280, kq280, q280a, q280b, q280c⟩ := isOf hZ e131 c150
      obtain ⟨_, _, ⟨T280, L280, k280, n280⟩, -, X280, ⟨Lc280, hQ280, l280, y280, z280⟩, st280⟩ := X131.virtualBack hx (y := own_m8) (z := own_m8) hown (mvT hZ (own_w17 hw)) (mvT hZ (own_w18 hw)) (notFace_of_selects (args := #[]) (mvT hZ (own_w20 hw))) (mvT hZ (own_w20 hw)) (mvT hZ (own_w19 hw)) (by decide) (backOf (W := 0) (own_op l Z a0 hw [] s4 o4 h131 n0 Z131 c152) hZ (own_w21 hw) (own_w3 hw) (by decide) (by decide)) q280a q280c (g := (mkF m 68 #[.val (.int p1), .val (.int p2), .val (.int p3), .val (.ref b101), .val (.ref s4), .val (.int (0 : Int32)), .unset, .unset, .unset, .unset, .unset] [(.ref s4)])) rfl (by rw [hml]; rfl) (Steps.refl _) (argsL := []) (rest := []) (lenOf own_pd7 rfl) rfl (by show 2 * 0 + _ ≤ _; exact Nat.le_of_eq rfl) (hb hby at_68) (fun _ _ => ⟨rfl, e131, (by decide : 1 + 0 ≤ _), (by decide : 6 + 0 ≤ _)⟩)
      dsimp only [Pt.U, Pt.locs, Pt.cells, Pt.slots] at X280 l280 y280 z280 st280 hQ280
      subst l280 y280 z280
      obtain ⟨rfl, N280q, e280⟩ := hQ280
      have N280 := Fr.app N131 N280q
      obtain ⟨_, _, ⟨T281, L281, k281, n281⟩, -, X281, ⟨Lc281, hQ281, l281, y281, z281⟩, st281⟩ := Jvm.LawKit.callS X280 hx (y := own_m7) hown (mvT hZ (own_w24 hw)) (mvT hZ (own_w25 hw)) (mvT hZ (own_w26 hw)) (mvT hZ (own_w27 hw)) (by decide) (backOf (W := 0) (own_hasLE l Z a0 hw [] o4 v4 kc4 cs fv h131 n0 Z131 c153 c132 hcs c133 hfv) hZ (own_w27 hw) (own_w26 hw) (by decide) (by decide)) (g := (mkF m 105 #[.val (.int p1), .val (.int p2), .val (.int p3), .val (.ref b101), .val (.ref s4), .val (.int (0 : Int32)), .val (.ref o4), .val (.int (61 : Int32)), .unset, .unset, .unset] [(.int (61 : Int32)), (.ref o4)])) rfl (by rw [hml]; rfl) (argsL := [(.ref o4), (.int (61 : Int32))]) (rest := []) (lenOf own_pd8 rfl) rfl (by show 2 * 0 + _ ≤ _; exact Nat.le_of_eq rfl) (hb hby at_105) (fun _ _ => ⟨rfl, e280, (by decide : 1 + 0 ≤ _), (by decide : 6 + 0 ≤ _)⟩)
      dsimp only [Pt.U, Pt.locs, Pt.cells, Pt.slots] at X281 l281 y281 z281 st281 hQ281
      subst l281 y281 z281
      obtain ⟨rfl, N281q, e281⟩ := hQ281
      have N281 := Fr.app N280 N281q
      obtain ⟨cq282, kq282, q282a, q282b, q282c⟩ := isOf hZ e281 c153.1
      obtain ⟨_, _, ⟨T282, L282, k282, n282⟩, -, X282, ⟨Lc282, hQ282, l282, y282, z282⟩, st282⟩ := X281.virtualBack hx (y := own_m6) (z := own_m6) hown (mvT hZ (own_w28 hw)) (mvT hZ (own_w29 hw)) (notFace_of_selects (args := #[]) (mvT hZ (own_w31 hw))) (mvT hZ (own_w31 hw)) (mvT hZ (own_w30 hw)) (by decide) (backOf (W := 0) (own_lenL l Z a0 hw [] o4 v4 kc4 cs fv h131 n0 Z131 c153 c132 hcs c133 hfv) hZ (own_w33 hw) (own_w32 hw) (by decide) (by decide)) q282a q282c (g := (mkF m 112 #[.val (.int p1), .val (.int p2), .val (.int p3), .val (.ref b101), .val (.ref s4), .val (.int (0 : Int32)), .val (.ref o4), .val (.int (61 : Int32)), .val (.int (0 : Int32)), .unset, .unset] [(.ref o4)])) rfl (by rw [hml]; rfl) (Steps.refl _) (argsL := []) (rest := []) (lenOf own_pd5 rfl) rfl (by show 2 * 0 + _ ≤ _; exact Nat.le_of_eq rfl) (hb hby at_112) (fun _ _ => ⟨rfl, e281, (by decide : 1 + 0 ≤ _), (by decide : 6 + 0 ≤ _)⟩)
      dsimp only [Pt.U, Pt.locs, Pt.cells, Pt.slots] at X282 l282 y282 z282 st282 hQ282
      subst l282 y282 z282
      obtain ⟨rfl, N282q, e282⟩ := hQ282
      have N282 := Fr.app N281 N282q
      obtain ⟨cq283, kq283, q283a, q283b, q283c⟩ := isOf hZ e282 c153.1
      obtain ⟨_, _, ⟨T283, L283, k283, n283⟩, -, X283, ⟨Lc283, hQ283, l283, y283, z283⟩, st283⟩ := X282.virtualBack hx (y := own_m5) (z := own_m5) hown (mvT hZ (own_w44 hw)) (mvT hZ (own_w45 hw)) (notFace_of_selects (args := #[]) (mvT hZ (own_w47 hw))) (mvT hZ (own_w47 hw)) (mvT hZ (own_w46 hw)) (by decide) (backOf (W := 0) (own_caL0 l Z a0 hw [] o4 v4 kc4 cs fv h131 n0 Z131 c153 c132 hcs c133 hfv) hZ (own_w48 hw) (own_w32 hw) (by decide) (by decide)) q283a q283c (g := (mkF m 122 #[.val (.int p1), .val (.int p2), .val (.int p3), .val (.ref b101), .val (.ref s4), .val (.int (0 : Int32)), .val (.ref o4), .val (.int (61 : Int32)), .val (.int (0 : Int32)), .unset, .unset] [(.int (0 : Int32)), (.ref o4)])) rfl (by rw [hml]; rfl) (Steps.refl _) (argsL := [(.int (0 : Int32))]) (rest := []) (lenOf own_pd6 rfl) rfl (by show 2 * 0 + _ ≤ _; exact Nat.le_of_eq rfl) (hb hby at_122) (fun _ _ => ⟨rfl, e282, (by decide : 1 + 0 ≤ _), (by decide : 6 + 0 ≤ _)⟩)
      dsimp only [Pt.U, Pt.locs, Pt.cells, Pt.slots] at X283 l283 y283 z283 st283 hQ283
      subst l283 y283 z283
      obtain ⟨rfl, N283q, e283⟩ := hQ283
      have N283 := Fr.app N282 N283q
      obtain ⟨cq284, kq284, q284a, q284b, q284c⟩ := isOf hZ e283 c150
      obtain ⟨_, _, ⟨T284, L284, k284, n284⟩, -, X284, ⟨Lc284, hQ284, l284, y284, z284⟩, st284⟩ := X283.virtualBack hx (y := own_m10) (z := own_m10) hown (mvT hZ (own_w66 hw)) (mvT hZ (own_w67 hw)) (notFace_of_selects (args := #[]) (mvT hZ (own_w69 hw))) (mvT hZ (own_w69 hw)) (mvT hZ (own_w68 hw)) (by decide) (backOf (W := 0) (own_holds4 l Z a0 hw [] s4 (0 : Int32) h131 n0 Z131 c150 c151) hZ (own_w70 hw) (own_w3 hw) (by decide) (by decide)) q284a q284c (g := (mkF m 163 #[.val (.int p1), .val (.int p2), .val (.int p3), .val (.ref b101), .val (.ref s4), .val (.int (0 : Int32)), .val (.ref o4), .val (.int (61 : Int32)), .val (.int (0 : Int32)), .val (.int (0 : Int32)), .val (.int (0 : Int32))] [(.int (0 : Int32)), (.ref s4)])) rfl (by rw [hml]; rfl) (Steps.refl _) (argsL := [(.int (0 : Int32))]) (rest := []) (lenOf own_pd9 rfl) rfl (by show 2 * 0 + _ ≤ _; exact Nat.le_of_eq rfl) (hb hby at_163) (fun _ _ => ⟨rfl, e283, (by decide : 1 + 0 ≤ _), (by decide : 6 + 0 ≤ _)⟩)
      dsimp only [Pt.U, Pt.locs, Pt.cells, Pt.slots] at X284 l284 y284 z284 st284 hQ284
      subst l284 y284 z284
      obtain ⟨rfl, N284q, e284⟩ := hQ284
      have N284 := Fr.app N283 N284q
      obtain ⟨fs, hr, hrun, hended, hW, hsame⟩ := X284.leave (v := some (.int (1 : Int32))) (fun h => by rw [Bd.returns] at h; cases h)
      refine ⟨_, _, pre261 _ ?_, hrun, hended, _, _, rfl, ?_, ⟨_, rfl⟩, hW, hsame.mono (by decide) (by decide)⟩
      · show Steps _ _ _ (T131.setTop (mkF m 56 #[.val (.int p1), .val (.int p2), .val (.int p3), .val (.ref b101), .val (.ref s4), .unset, .unset, .unset, .unset, .unset, .unset] [(.int (p3 &&& (1 : Int32)))])) _
        refine XS.ifNo X131.here hx rfl (hb hby at_56) rfl ((if0 _ _).trans (feq hc56_262).1) ?_
        refine XS.iconst X131.here hx rfl (hb hby at_59) ?_
        refine XS.goto X131.here hx rfl (pc0 := 60) (pc' := 64) rfl (hb hby at_60) (by decide) (by decide) ?_
        refine XS.istore X131.here hx rfl (hb hby at_64) rfl (l' := #[.val (.int p1), .val (.int p2), .val (.int p3), .val (.ref b101), .val (.ref s4), .val (.int (0 : Int32)), .unset, .unset, .unset, .unset, .unset]) rfl ?_
        show Steps _ _ _ (T131.setTop (mkF m 66 #[.val (.int p1), .val (.int p2), .val (.int p3), .val (.ref b101), .val (.ref s4), .val (.int (0 : Int32)), .unset, .unset, .unset, .unset, .unset] [])) _
        refine XS.aload X131.here hx rfl (hb hby at_66) rfl rfl ?_
        refine st280.trans ?_
        refine XS.astore X280.here hx rfl (hb hby at_71) rfl rfl (l' := #[.val (.int p1), .val (.int p2), .val (.int p3), .val (.ref b101), .val (.ref s4), .val (.int (0 : Int32)), .val (.ref o4), .unset, .unset, .unset, .unset]) rfl ?_
        refine XS.iload X280.here hx rfl (hb hby at_73) rfl ?_
        show Steps _ _ _ (T280.setTop (mkF m 75 #[.val (.int p1), .val (.int p2), .val (.int p3), .val (.ref b101), .val (.ref s4), .val (.int (0 : Int32)), .val (.ref o4), .unset, .unset, .unset, .unset] [(.int (0 : Int32))])) _
        refine XS.ifYes X280.here hx rfl (pc0 := 75) (pc' := 85) rfl (hb hby at_75) rfl ((if0 _ _).trans (flt (by decide : ¬ ((0 : Int32) < (0 : Int32)))).2.1) (by decide) (by decide) ?_
        refine XS.iload X280.here hx rfl (hb hby at_85) rfl ?_
        refine XS.ifNo X280.here hx rfl (hb hby at_87) rfl ((if0 _ _).trans (teq (by decide : (0 : Int32) = (0 : Int32))).2) ?_
        refine XS.bipush X280.here hx rfl (hb hby at_90) ?_
        show Steps _ _ _ (T280.setTop (mkF m 92 #[.val (.int p1), .val (.int p2), .val (.int p3), .val (.ref b101), .val (.ref s4), .val (.int (0 : Int32)), .val (.ref o4), .unset, .unset, .unset, .unset] [(.int (61 : Int32))])) _
        refine XS.istore X280.here hx rfl (hb hby at_92) rfl (l' := #[.val (.int p1), .val (.int p2), .val (.int p3), .val (.ref b101), .val (.ref s4), .val (.int (0 : Int32)), .val (.ref o4), .val (.int (61 : Int32)), .unset, .unset, .unset]) rfl ?_
        refine XS.goto X280.here hx rfl (pc0 := 94) (pc' := 101) rfl (hb hby at_94) (by decide) (by decide) ?_
        refine XS.aload X280.here hx rfl (hb hby at_101) rfl rfl ?_
        refine XS.iload X280.here hx rfl (hb hby at_103) rfl ?_
        show Steps _ _ _ (T280.setTop (mkF m 105 #[.val (.int p1), .val (.int p2), .val (.int p3), .val (.ref b101), .val (.ref s4), .val (.int (0 : Int32)), .val (.ref o4), .val (.int (61 : Int32)), .unset, .unset, .unset] [(.int (61 : Int32)), (.ref o4)])) _
        refine st281 _ ?_
        refine XS.istore X281.here hx rfl (hb hby at_108) rfl (l' := #[.val (.int p1), .val (.int p2), .val (.int p3), .val (.ref b101), .val (.ref s4), .val (.int (0 : Int32)), .val (.ref o4), .val (.int (61 : Int32)), .val (.int (0 : Int32)), .unset, .unset]) rfl ?_
        refine XS.aload X281.here hx rfl (hb hby at_110) rfl rfl ?_
        refine st282.trans ?_
        show Steps _ _ _ (T282.setTop (mkF m 115 #[.val (.int p1), .val (.int p2), .val (.int p3), .val (.ref b101), .val (.ref s4), .val (.int (0 : Int32)), .val (.ref o4), .val (.int (61 : Int32)), .val (.int (0 : Int32)), .unset, .unset] [(.int (1 : Int32))])) _
        refine XS.iconst X282.here hx rfl (hb hby at_115) ?_
        refine XS.icmpNo X282.here hx rfl (hb hby at_116) rfl (flt (by decide : ¬ ((1 : Int32) < (1 : Int32)))).1 ?_
        refine XS.aload X282.here hx rfl (hb hby at_119) rfl rfl ?_
        refine XS.iconst X282.here hx rfl (hb hby at_121) ?_
        show Steps _ _ _ (T282.setTop (mkF m 122 #[.val (.int p1), .val (.int p2), .val (.int p3), .val (.ref b101), .val (.ref s4), .val (.int (0 : Int32)), .val (.ref o4), .val (.int (61 : Int32)), .val (.int (0 : Int32)), .unset, .unset] [(.int (0 : Int32)), (.ref o4)])) _
        refine st283.trans ?_
        refine XS.bipush X283.here hx rfl (hb hby at_125) ?_
        refine XS.icmpYes X283.here hx rfl (pc0 := 127) (pc' := 134) rfl (hb hby at_127) rfl (feq (by decide : ¬ ((60 : Int32) = (33 : Int32)))).2 (by decide) (by decide) ?_
        refine XS.iconst X283.here hx rfl (hb hby at_134) ?_
        show Steps _ _ _ (T283.setTop (mkF m 135 #[.val (.int p1), .val (.int p2), .val (.int p3), .val (.ref b101), .val (.ref s4), .val (.int (0 : Int32)), .val (.ref o4), .val (.int (61 : Int32)), .val (.int (0 : Int32)), .unset, .unset] [(.int (0 : Int32))])) _
        refine XS.istore X283.here hx rfl (hb hby at_135) rfl (l' := #[.val (.int p1), .val (.int p2), .val (.int p3), .val (.ref b101), .val (.ref s4), .val (.int (0 : Int32)), .val (.ref o4), .val (.int (61 : Int32)), .val (.int (0 : Int32)), .val (.int (0 : Int32)), .unset]) rfl ?_
        refine XS.iload X283.here hx rfl (hb hby at_137) rfl ?_
        refine XS.ifYes X283.here hx rfl (pc0 := 139) (pc' := 155) rfl (hb hby at_139) rfl ((if0 _ _).trans (teq (by decide : (0 : Int32) = (0 : Int32))).1) (by decide) (by decide) ?_
        refine XS.iload X283.here hx rfl (hb hby at_155) rfl ?_
        show Steps _ _ _ (T283.setTop (mkF m 157 #[.val (.int p1), .val (.int p2), .val (.int p3), .val (.ref b101), .val (.ref s4), .val (.int (0 : Int32)), .val (.ref o4), .val (.int (61 : Int32)), .val (.int (0 : Int32)), .val (.int (0 : Int32)), .unset] [(.int (0 : Int32))])) _
        refine XS.istore X283.here hx rfl (hb hby at_157) rfl (l' := #[.val (.int p1), .val (.int p2), .val (.int p3), .val (.ref b101), .val (.ref s4), .val (.int (0 : Int32)), .val (.ref o4), .val (.int (61 : Int32)), .val (.int (0 : Int32)), .val (.int (0 : Int32)), .val (.int (0 : Int32))]) rfl ?_
        refine XS.aload X283.here hx rfl (hb hby at_159) rfl rfl ?_
        refine XS.iload X283.here hx rfl (hb hby at_161) rfl ?_
        refine st284.trans ?_
        show Steps _ _ _ (T284.setTop (mkF m 166 #[.val (.int p1), .val (.int p2), .val (.int p3), .val (.ref b101), .val (.ref s4), .val (.int (0 : Int32)), .val (.ref o4), .val (.int (61 : Int32)), .val (.int (0 : Int32)), .val (.int (0 : Int32)), .val (.int (0 : Int32))] [(.int (own_h4 (0 : Int32)))])) _
        refine XS.iload X284.here hx rfl (hb hby at_166) rfl ?_
        refine XS.icmpNo X284.here hx rfl (hb hby at_168) rfl (teq (by decide)).2 ?_
        refine XS.iconst X284.here hx rfl (hb hby at_171) ?_
        refine XS.goto X284.here hx rfl (pc0 := 172) (pc' := 176) rfl (hb hby at_172) (by decide) (by decide) ?_
        show Steps _ _ _ (T284.setTop (mkF m 176 #[.val (.int p1), .val (.int p2), .val (.int p3), .val (.ref b101), .val (.ref s4), .val (.int (0 : Int32)), .val (.ref o4), .val (.int (61 : Int32)), .val (.int (0 : Int32)), .val (.int (0 : Int32)), .val (.int (0 : Int32))] [(.int (1 : Int32))])) _
        exact retN X284 hx (t := .boolean) Bd.returns (by simp) (hb hby at_176) hr
      · show Qown_law Z p1 p2 p3 s0 o0 v0 s1 o1 v1 s2 o2 v2 s3 o3 v3 s4 o4 v4 s5 o5 v5 kc0 kc1 kc2 kc3 kc4 kc5 cs fv h0 n0 _ T284.heap _
        rw [e284]
        exact ⟨rfl, N284⟩
  · skip
    rw [hs159] at pre158
    obtain ⟨cl285, Ar285, Aq285, As285, An285, Ah285, Ag285⟩ := id V131
    have hin285 : ¬ ((5 : Int32) < 0 ∨ cl285.slots.size ≤ ((5 : Int32)).toNatClampNeg) := inb_of As285 ⟨by decide, by decide⟩
    have pre286 : ∀ t, Steps p.tables e below (T131.setTop (mkF m 56 #[.val (.int p1), .val (.int p2), .val (.int p3), .val (.ref b101), .val (.ref s5), .unset, .unset, .unset, .unset, .unset, .unset] [(.int (p3 &&& (1 : Int32)))])) t → Steps p.tables e below (s₁.setTop (entryFrame m #[(.int p1), (.int p2), (.int p3)] maxLocals)) t := fun t kt => pre158 t (by
      show Steps _ _ _ (T131.setTop (mkF m 50 #[.val (.int p1), .val (.int p2), .val (.int p3), .val (.ref b101), .unset, .unset, .unset, .unset, .unset, .unset, .unset] [(.int (5 : Int32)), (.ref b101)])) _
      refine X131.aaload hx (j := (5 : Int32)) (v := (.ref s5)) (by rw [e131]; exact Ar285.1) (State.isArrayOf_alike hZ.alike Ar285.2.1) rfl Ar285.2.2 hin285 (Ah285.at hin285 rfl) (g := (mkF m 50 #[.val (.int p1), .val (.int p2), .val (.int p3), .val (.ref b101), .unset, .unset, .unset, .unset, .unset, .unset, .unset] [(.int (5 : Int32)), (.ref b101)])) rfl rfl (hb hby at_50) _ ?_
      refine XS.astore X131.here hx rfl (hb hby at_51) rfl rfl (l' := #[.val (.int p1), .val (.int p2), .val (.int p3), .val (.ref b101), .val (.ref s5), .unset, .unset, .unset, .unset, .unset, .unset]) rfl ?_
      refine XS.iloadN X131.here hx rfl (hb hby at_53) rfl ?_
      refine XS.iconst X131.here hx rfl (hb hby at_54) ?_
      show Steps _ _ _ (T131.setTop (mkF m 55 #[.val (.int p1), .val (.int p2), .val (.int p3), .val (.ref b101), .val (.ref s5), .unset, .unset, .unset, .unset, .unset, .unset] [(.int (1 : Int32)), (.int p3)])) _
      refine XS.iand X131.here hx rfl (hb hby at_55) rfl ?_
      exact kt)
    by_cases hc56_287 : (p3 &&& (1 : Int32)) = (0 : Int32)
    · skip
      have ihc56_287 := (own_eq (b := (0 : Int32)) (k := 0) rfl).mp hc56_287
      obtain ⟨cq288, kq288, q288a, q288b, q288c⟩ := isOf hZ e131 c154
      obtain ⟨_, _, ⟨T288, L288, k288, n288⟩, -, X288, ⟨Lc288, hQ288, l288, y288, z288⟩, st288⟩ := X131.virtualBack hx (y := own_m8) (z := own_m8) hown (mvT hZ (own_w17 hw)) (mvT hZ (own_w18 hw)) (notFace_of_selects (args := #[]) (mvT hZ (own_w20 hw))) (mvT hZ (own_w20 hw)) (mvT hZ (own_w19 hw)) (by decide) (backOf (W := 0) (own_op l Z a0 hw [] s5 o5 h131 n0 Z131 c156) hZ (own_w21 hw) (own_w3 hw) (by decide) (by decide)) q288a q288c (g := (mkF m 68 #[.val (.int p1), .val (.int p2), .val (.int p3), .val (.ref b101), .val (.ref s5), .val (.int p2), .unset, .unset, .unset, .unset, .unset] [(.ref s5)])) rfl (by rw [hml]; rfl) (Steps.refl _) (argsL := []) (rest := []) (lenOf own_pd7 rfl) rfl (by show 2 * 0 + _ ≤ _; exact Nat.le_of_eq rfl) (hb hby at_68) (fun _ _ => ⟨rfl, e131, (by decide : 1 + 0 ≤ _), (by decide : 6 + 0 ≤ _)⟩)
      dsimp only [Pt.U, Pt.locs, Pt.cells, Pt.slots] at X288 l288 y288 z288 st288 hQ288
      subst l288 y288 z288
      obtain ⟨rfl, N288q, e288⟩ := hQ288
      have N288 := Fr.app N131 N288q
      have pre289 : ∀ t, Steps p.tables e below (T288.setTop (mkF m 75 #[.val (.int p1), .val (.int p2), .val (.int p3), .val (.ref b101), .val (.ref s5), .val (.int p2), .val (.ref o5), .unset, .unset, .unset, .unset] [(.int p2)])) t → Steps p.tables e below (s₁.setTop (entryFrame m #[(.int p1), (.int p2), (.int p3)] maxLocals)) t := fun t kt => pre286 t (by
        show Steps _ _ _ (T131.setTop (mkF m 56 #[.val (.int p1), .val (.int p2), .val (.int p3), .val (.ref b101), .val (.ref s5), .unset, .unset, .unset, .unset, .unset, .unset] [(.int (p3 &&& (1 : Int32)))])) _
        refine XS.ifYes X131.here hx rfl (pc0 := 56) (pc' := 63) rfl (hb hby at_56) rfl ((if0 _ _).trans (teq hc56_287).1) (by decide) (by decide) ?_
        refine XS.iloadN X131.here hx rfl (hb hby at_63) rfl ?_
        refine XS.istore X131.here hx rfl (hb hby at_64) rfl (l' := #[.val (.int p1), .val (.int p2), .val (.int p3), .val (.ref b101), .val (.ref s5), .val (.int p2), .unset, .unset, .unset, .unset, .unset]) rfl ?_
        refine XS.aload X131.here hx rfl (hb hby at_66) rfl rfl ?_
        show Steps _ _ _ (T131.setTop (mkF m 68 #[.val (.int p1), .val (.int p2), .val (.int p3), .val (.ref b101), .val (.ref s5), .val (.int p2), .unset, .unset, .unset, .unset, .unset] [(.ref s5)])) _
        refine st288.trans ?_
        refine XS.astore X288.here hx rfl (hb hby at_71) rfl rfl (l' := #[.val (.int p1), .val (.int p2), .val (.int p3), .val (.ref b101), .val (.ref s5), .val (.int p2), .val (.ref o5), .unset, .unset, .unset, .unset]) rfl ?_
        refine XS.iload X288.here hx rfl (hb hby at_73) rfl ?_
        exact kt)
      by_cases hc75_290 : p2 < (0 : Int32)
      · skip
        have ihc75_290 := (own_lt (b := (0 : Int32)) (k := 0) rfl).mp hc75_290
        obtain ⟨_, _, ⟨T291, L291, k291, n291⟩, -, X291, ⟨Lc291, hQ291, l291, y291, z291⟩, st291⟩ := Jvm.LawKit.callS X288 hx (y := own_m7) hown (mvT hZ (own_w24 hw)) (mvT hZ (own_w25 hw)) (mvT hZ (own_w26 hw)) (mvT hZ (own_w27 hw)) (by decide) (backOf (W := 0) (own_hasGL l Z a0 hw [] o5 v5 kc5 cs fv h131 n0 Z131 c157 c132 hcs c133 hfv) hZ (own_w27 hw) (own_w26 hw) (by decide) (by decide)) (g := (mkF m 105 #[.val (.int p1), .val (.int p2), .val (.int p3), .val (.ref b101), .val (.ref s5), .val (.int p2), .val (.ref o5), .val (.int (60 : Int32)), .unset, .unset, .unset] [(.int (60 : Int32)), (.ref o5)])) rfl (by rw [hml]; rfl) (argsL := [(.ref o5), (.int (60 : Int32))]) (rest := []) (lenOf own_pd8 rfl) rfl (by show 2 * 0 + _ ≤ _; exact Nat.le_of_eq rfl) (hb hby at_105) (fun _ _ => ⟨rfl, e288, (by decide : 1 + 0 ≤ _), (by decide : 6 + 0 ≤ _)⟩)
        dsimp only [Pt.U, Pt.locs, Pt.cells, Pt.slots] at X291 l291 y291 z291 st291 hQ291
        subst l291 y291 z291
        obtain ⟨rfl, N291q, e291⟩ := hQ291
        have N291 := Fr.app N288 N291q
        obtain ⟨cq292, kq292, q292a, q292b, q292c⟩ := isOf hZ e291 c157.1
        obtain ⟨_, _, ⟨T292, L292, k292, n292⟩, -, X292, ⟨Lc292, hQ292, l292, y292, z292⟩, st292⟩ := X291.virtualBack hx (y := own_m6) (z := own_m6) hown (mvT hZ (own_w28 hw)) (mvT hZ (own_w29 hw)) (notFace_of_selects (args := #[]) (mvT hZ (own_w31 hw))) (mvT hZ (own_w31 hw)) (mvT hZ (own_w30 hw)) (by decide) (backOf (W := 0) (own_lenG l Z a0 hw [] o5 v5 kc5 cs fv h131 n0 Z131 c157 c132 hcs c133 hfv) hZ (own_w33 hw) (own_w32 hw) (by decide) (by decide)) q292a q292c (g := (mkF m 112 #[.val (.int p1), .val (.int p2), .val (.int p3), .val (.ref b101), .val (.ref s5), .val (.int p2), .val (.ref o5), .val (.int (60 : Int32)), .val (.int (0 : Int32)), .unset, .unset] [(.ref o5)])) rfl (by rw [hml]; rfl) (Steps.refl _) (argsL := []) (rest := []) (lenOf own_pd5 rfl) rfl (by show 2 * 0 + _ ≤ _; exact Nat.le_of_eq rfl) (hb hby at_112) (fun _ _ => ⟨rfl, e291, (by decide : 1 + 0 ≤ _), (by decide : 6 + 0 ≤ _)⟩)
        dsimp only [Pt.U, Pt.locs, Pt.cells, Pt.slots] at X292 l292 y292 z292 st292 hQ292
        subst l292 y292 z292
        obtain ⟨rfl, N292q, e292⟩ := hQ292
        have N292 := Fr.app N291 N292q
        obtain ⟨cq293, kq293, q293a, q293b, q293c⟩ := isOf hZ e292 c157.1
        obtain ⟨_, _, ⟨T293, L293, k293, n293⟩, -, X293, ⟨Lc293, hQ293, l293, y293, z293⟩, st293⟩ := X292.virtualBack hx (y := own_m5) (z := own_m5) hown (mvT hZ (own_w44 hw)) (mvT hZ (own_w45 hw)) (notFace_of_selects (args := #[]) (mvT hZ (own_w47 hw))) (mvT hZ (own_w47 hw)) (mvT hZ (own_w46 hw)) (by decide) (backOf (W := 0) (own_caG0 l Z a0 hw [] o5 v5 kc5 cs fv h131 n0 Z131 c157 c132 hcs c133 hfv) hZ (own_w48 hw) (own_w32 hw) (by decide) (by decide)) q293a q293c (g := (mkF m 122 #[.val (.int p1), .val (.int p2), .val (.int p3), .val (.ref b101), .val (.ref s5), .val (.int p2), .val (.ref o5), .val (.int (60 : Int32)), .val (.int (0 : Int32)), .unset, .unset] [(.int (0 : Int32)), (.ref o5)])) rfl (by rw [hml]; rfl) (Steps.refl _) (argsL := [(.int (0 : Int32))]) (rest := []) (lenOf own_pd6 rfl) rfl (by show 2 * 0 + _ ≤ _; exact Nat.le_of_eq rfl) (hb hby at_122) (fun _ _ => ⟨rfl, e292, (by decide : 1 + 0 ≤ _), (by decide : 6 + 0 ≤ _)⟩)
        dsimp only [Pt.U, Pt.locs, Pt.cells, Pt.slots] at X293 l293 y293 z293 st293 hQ293
        subst l293 y293 z293
        obtain ⟨rfl, N293q, e293⟩ := hQ293
        have N293 := Fr.app N292 N293q
        obtain ⟨cq294, kq294, q294a, q294b, q294c⟩ := isOf hZ e293 c154
        obtain ⟨_, _, ⟨T294, L294, k294, n294⟩, -, X294, ⟨Lc294, hQ294, l294, y294, z294⟩, st294⟩ := X293.virtualBack hx (y := own_m10) (z := own_m10) hown (mvT hZ (own_w66 hw)) (mvT hZ (own_w67 hw)) (notFace_of_selects (args := #[]) (mvT hZ (own_w69 hw))) (mvT hZ (own_w69 hw)) (mvT hZ (own_w68 hw)) (by decide) (backOf (W := 0) (own_holds5 l Z a0 hw [] s5 p2 h131 n0 Z131 c154 c155) hZ (own_w70 hw) (own_w3 hw) (by decide) (by decide)) q294a q294c (g := (mkF m 163 #[.val (.int p1), .val (.int p2), .val (.int p3), .val (.ref b101), .val (.ref s5), .val (.int p2), .val (.ref o5), .val (.int (60 : Int32)), .val (.int (0 : Int32)), .val (.int (0 : Int32)), .val (.int (0 : Int32))] [(.int p2), (.ref s5)])) rfl (by rw [hml]; rfl) (Steps.refl _) (argsL := [(.int p2)]) (rest := []) (lenOf own_pd9 rfl) rfl (by show 2 * 0 + _ ≤ _; exact Nat.le_of_eq rfl) (hb hby at_163) (fun _ _ => ⟨rfl, e293, (by decide : 1 + 0 ≤ _), (by decide : 6 + 0 ≤ _)⟩)
        dsimp only [Pt.U, Pt.locs, Pt.cells, Pt.slots] at X294 l294 y294 z294 st294 hQ294
        subst l294 y294 z294
        obtain ⟨rfl, N294q, e294⟩ := hQ294
        have N294 := Fr.app N293 N294q
        obtain ⟨fs, hr, hrun, hended, hW, hsame⟩ := X294.leave (v := some (.int (1 : Int32))) (fun h => by rw [Bd.returns] at h; cases h)
        refine ⟨_, _, pre289 _ ?_, hrun, hended, _, _, rfl, ?_, ⟨_, rfl⟩, hW, hsame.mono (by decide) (by decide)⟩
        · show Steps _ _ _ (T288.setTop (mkF m 75 #[.val (.int p1), .val (.int p2), .val (.int p3), .val (.ref b101), .val (.ref s5), .val (.int p2), .val (.ref o5), .unset, .unset, .unset, .unset] [(.int p2)])) _
          refine XS.ifNo X288.here hx rfl (hb hby at_75) rfl ((if0 _ _).trans (tlt hc75_290).2.1) ?_
          refine XS.bipush X288.here hx rfl (hb hby at_78) ?_
          refine XS.istore X288.here hx rfl (hb hby at_80) rfl (l' := #[.val (.int p1), .val (.int p2), .val (.int p3), .val (.ref b101), .val (.ref s5), .val (.int p2), .val (.ref o5), .val (.int (60 : Int32)), .unset, .unset, .unset]) rfl ?_
          refine XS.goto X288.here hx rfl (pc0 := 82) (pc' := 101) rfl (hb hby at_82) (by decide) (by decide) ?_
          show Steps _ _ _ (T288.setTop (mkF m 101 #[.val (.int p1), .val (.int p2), .val (.int p3), .val (.ref b101), .val (.ref s5), .val (.int p2), .val (.ref o5), .val (.int (60 : Int32)), .unset, .unset, .unset] [])) _
          refine XS.aload X288.here hx rfl (hb hby at_101) rfl rfl ?_
          refine XS.iload X288.here hx rfl (hb hby at_103) rfl ?_
          refine st291 _ ?_
          refine XS.istore X291.here hx rfl (hb hby at_108) rfl (l' := #[.val (.int p1), .val (.int p2), .val (.int p3), .val (.ref b101), .val (.ref s5), .val (.int p2), .val (.ref o5), .val (.int (60 : Int32)), .val (.int (0 : Int32)), .unset, .unset]) rfl ?_
          show Steps _ _ _ (T291.setTop (mkF m 110 #[.val (.int p1), .val (.int p2), .val (.int p3), .val (.ref b101), .val (.ref s5), .val (.int p2), .val (.ref o5), .val (.int (60 : Int32)), .val (.int (0 : Int32)), .unset, .unset] [])) _
          refine XS.aload X291.here hx rfl (hb hby at_110) rfl rfl ?_
          refine st292.trans ?_
          refine XS.iconst X292.here hx rfl (hb hby at_115) ?_
          refine XS.icmpNo X292.here hx rfl (hb hby at_116) rfl (flt (by decide : ¬ ((1 : Int32) < (1 : Int32)))).1 ?_
          show Steps _ _ _ (T292.setTop (mkF m 119 #[.val (.int p1), .val (.int p2), .val (.int p3), .val (.ref b101), .val (.ref s5), .val (.int p2), .val (.ref o5), .val (.int (60 : Int32)), .val (.int (0 : Int32)), .unset, .unset] [])) _
          refine XS.aload X292.here hx rfl (hb hby at_119) rfl rfl ?_
          refine XS.iconst X292.here hx rfl (hb hby at_121) ?_
          refine st293.trans ?_
          refine XS.bipush X293.here hx rfl (hb hby at_125) ?_
          show Steps _ _ _ (T293.setTop (mkF m 127 #[.val (.int p1), .val (.int p2), .val (.int p3), .val (.ref b101), .val (.ref s5), .val (.int p2), .val (.ref o5), .val (.int (60 : Int32)), .val (.int (0 : Int32)), .unset, .unset] [(.int (33 : Int32)), (.int (62 : Int32))])) _
          refine XS.icmpYes X293.here hx rfl (pc0 := 127) (pc' := 134) rfl (hb hby at_127) rfl (feq (by decide : ¬ ((62 : Int32) = (33 : Int32)))).2 (by decide) (by decide) ?_
          refine XS.iconst X293.here hx rfl (hb hby at_134) ?_
          refine XS.istore X293.here hx rfl (hb hby at_135) rfl (l' := #[.val (.int p1), .val (.int p2), .val (.int p3), .val (.ref b101), .val (.ref s5), .val (.int p2), .val (.ref o5), .val (.int (60 : Int32)), .val (.int (0 : Int32)), .val (.int (0 : Int32)), .unset]) rfl ?_
          refine XS.iload X293.here hx rfl (hb hby at_137) rfl ?_
          show Steps _ _ _ (T293.setTop (mkF m 139 #[.val (.int p1), .val (.int p2), .val (.int p3), .val (.ref b101), .val (.ref s5), .val (.int p2), .val (.ref o5), .val (.int (60 : Int32)), .val (.int (0 : Int32)), .val (.int (0 : Int32)), .unset] [(.int (0 : Int32))])) _
          refine XS.ifYes X293.here hx rfl (pc0 := 139) (pc' := 155) rfl (hb hby at_139) rfl ((if0 _ _).trans (teq (by decide : (0 : Int32) = (0 : Int32))).1) (by decide) (by decide) ?_
          refine XS.iload X293.here hx rfl (hb hby at_155) rfl ?_
          refine XS.istore X293.here hx rfl (hb hby at_157) rfl (l' := #[.val (.int p1), .val (.int p2), .val (.int p3), .val (.ref b101), .val (.ref s5), .val (.int p2), .val (.ref o5), .val (.int (60 : Int32)), .val (.int (0 : Int32)), .val (.int (0 : Int32)), .val (.int (0 : Int32))]) rfl ?_
          refine XS.aload X293.here hx rfl (hb hby at_159) rfl rfl ?_
          show Steps _ _ _ (T293.setTop (mkF m 161 #[.val (.int p1), .val (.int p2), .val (.int p3), .val (.ref b101), .val (.ref s5), .val (.int p2), .val (.ref o5), .val (.int (60 : Int32)), .val (.int (0 : Int32)), .val (.int (0 : Int32)), .val (.int (0 : Int32))] [(.ref s5)])) _
          refine XS.iload X293.here hx rfl (hb hby at_161) rfl ?_
          refine st294.trans ?_
          refine XS.iload X294.here hx rfl (hb hby at_166) rfl ?_
          refine XS.icmpNo X294.here hx rfl (hb hby at_168) rfl (teq (by unfold own_h5; exact if_neg (by omega))).2 ?_
          show Steps _ _ _ (T294.setTop (mkF m 171 #[.val (.int p1), .val (.int p2), .val (.int p3), .val (.ref b101), .val (.ref s5), .val (.int p2), .val (.ref o5), .val (.int (60 : Int32)), .val (.int (0 : Int32)), .val (.int (0 : Int32)), .val (.int (0 : Int32))] [])) _
          refine XS.iconst X294.here hx rfl (hb hby at_171) ?_
          refine XS.goto X294.here hx rfl (pc0 := 172) (pc' := 176) rfl (hb hby at_172) (by decide) (by decide) ?_
          show Steps _ _ _ (T294.setTop (mkF m 176 #[.val (.int p1), .val (.int p2), .val (.int p3), .val (.ref b101), .val (.ref s5), .val (.int p2), .val (.ref o5), .val (.int (60 : Int32)), .val (.int (0 : Int32)), .val (.int (0 : Int32)), .val (.int (0 : Int32))] [(.int (1 : Int32))])) _
          exact retN X294 hx (t := .boolean) Bd.returns (by simp) (hb hby at_176) hr
        · show Qown_law Z p1 p2 p3 s0 o0 v0 s1 o1 v1 s2 o2 v2 s3 o3 v3 s4 o4 v4 s5 o5 v5 kc0 kc1 kc2 kc3 kc4 kc5 cs fv h0 n0 _ T294.heap _
          rw [e294]
          exact ⟨rfl, N294⟩
      · skip
        have ihc75_290 := (mt (own_lt (b := (0 : Int32)) (k := 0) rfl).mpr hc75_290)
        have pre295 : ∀ t, Steps p.tables e below (T288.setTop (mkF m 87 #[.val (.int p1), .val (.int p2), .val (.int p3), .val (.ref b101), .val (.ref s5), .val (.int p2), .val (.ref o5), .unset, .unset, .unset, .unset] [(.int p2)])) t → Steps p.tables e below (s₁.setTop (entryFrame m #[(.int p1), (.int p2), (.int p3)] maxLocals)) t := fun t kt => pre289 t (by
          show Steps _ _ _ (T288.setTop (mkF m 75 #[.val (.int p1), .val (.int p2), .val (.int p3), .val (.ref b101), .val (.ref s5), .val (.int p2), .val (.ref o5), .unset, .unset, .unset, .unset] [(.int p2)])) _
          refine XS.ifYes X288.here hx rfl (pc0 := 75) (pc' := 85) rfl (hb hby at_75) rfl ((if0 _ _).trans (flt hc75_290).2.1) (by decide) (by decide) ?_
          refine XS.iload X288.here hx rfl (hb hby at_85) rfl ?_
          exact kt)
        by_cases hc87_296 : p2 = (0 : Int32)
        · skip
          have ihc87_296 := (own_eq (b := (0 : Int32)) (k := 0) rfl).mp hc87_296
          obtain ⟨_, _, ⟨T297, L297, k297, n297⟩, -, X297, ⟨Lc297, hQ297, l297, y297, z297⟩, st297⟩ := Jvm.LawKit.callS X288 hx (y := own_m7) hown (mvT hZ (own_w24 hw)) (mvT hZ (own_w25 hw)) (mvT hZ (own_w26 hw)) (mvT hZ (own_w27 hw)) (by decide) (backOf (W := 0) (own_hasGE l Z a0 hw [] o5 v5 kc5 cs fv h131 n0 Z131 c157 c132 hcs c133 hfv) hZ (own_w27 hw) (own_w26 hw) (by decide) (by decide)) (g := (mkF m 105 #[.val (.int p1), .val (.int p2), .val (.int p3), .val (.ref b101), .val (.ref s5), .val (.int p2), .val (.ref o5), .val (.int (61 : Int32)), .unset, .unset, .unset] [(.int (61 : Int32)), (.ref o5)])) rfl (by rw [hml]; rfl) (argsL := [(.ref o5), (.int (61 : Int32))]) (rest := []) (lenOf own_pd8 rfl) rfl (by show 2 * 0 + _ ≤ _; exact Nat.le_of_eq rfl) (hb hby at_105) (fun _ _ => ⟨rfl, e288, (by decide : 1 + 0 ≤ _), (by decide : 6 + 0 ≤ _)⟩)
          dsimp only [Pt.U, Pt.locs, Pt.cells, Pt.slots] at X297 l297 y297 z297 st297 hQ297
          subst l297 y297 z297
          obtain ⟨rfl, N297q, e297⟩ := hQ297
          have N297 := Fr.app N288 N297q
          obtain ⟨cq298, kq298, q298a, q298b, q298c⟩ := isOf hZ e297 c157.1
          obtain ⟨_, _, ⟨T298, L298, k298, n298⟩, -, X298, ⟨Lc298, hQ298, l298, y298, z298⟩, st298⟩ := X297.virtualBack hx (y := own_m6) (z := own_m6) hown (mvT hZ (own_w28 hw)) (mvT hZ (own_w29 hw)) (notFace_of_selects (args := #[]) (mvT hZ (own_w31 hw))) (mvT hZ (own_w31 hw)) (mvT hZ (own_w30 hw)) (by decide) (backOf (W := 0) (own_lenG l Z a0 hw [] o5 v5 kc5 cs fv h131 n0 Z131 c157 c132 hcs c133 hfv) hZ (own_w33 hw) (own_w32 hw) (by decide) (by decide)) q298a q298c (g := (mkF m 112 #[.val (.int p1), .val (.int p2), .val (.int p3), .val (.ref b101), .val (.ref s5), .val (.int p2), .val (.ref o5), .val (.int (61 : Int32)), .val (.int (0 : Int32)), .unset, .unset] [(.ref o5)])) rfl (by rw [hml]; rfl) (Steps.refl _) (argsL := []) (rest := []) (lenOf own_pd5 rfl) rfl (by show 2 * 0 + _ ≤ _; exact Nat.le_of_eq rfl) (hb hby at_112) (fun _ _ => ⟨rfl, e297, (by decide : 1 + 0 ≤ _), (by decide : 6 + 0 ≤ _)⟩)
          dsimp only [Pt.U, Pt.locs, Pt.cells, Pt.slots] at X298 l298 y298 z298 st298 hQ298
          subst l298 y298 z298
          obtain ⟨rfl, N298q, e298⟩ := hQ298
          have N298 := Fr.app N297 N298q
          obtain ⟨cq299, kq299, q299a, q299b, q299c⟩ := isOf hZ e298 c157.1
          obtain ⟨_, _, ⟨T299, L299, k299, n299⟩, -, X299, ⟨Lc299, hQ299, l299, y299, z299⟩, st299⟩ := X298.virtualBack hx (y := own_m5) (z := own_m5) hown (mvT hZ (own_w44 hw)) (mvT hZ (own_w45 hw)) (notFace_of_selects (args := #[]) (mvT hZ (own_w47 hw))) (mvT hZ (own_w47 hw)) (mvT hZ (own_w46 hw)) (by decide) (backOf (W := 0) (own_caG0 l Z a0 hw [] o5 v5 kc5 cs fv h131 n0 Z131 c157 c132 hcs c133 hfv) hZ (own_w48 hw) (own_w32 hw) (by decide) (by decide)) q299a q299c (g := (mkF m 122 #[.val (.int p1), .val (.int p2), .val (.int p3), .val (.ref b101), .val (.ref s5), .val (.int p2), .val (.ref o5), .val (.int (61 : Int32)), .val (.int (0 : Int32)), .unset, .unset] [(.int (0 : Int32)), (.ref o5)])) rfl (by rw [hml]; rfl) (Steps.refl _) (argsL := [(.int (0 : Int32))]) (rest := []) (lenOf own_pd6 rfl) rfl (by show 2 * 0 + _ ≤ _; exact Nat.le_of_eq rfl) (hb hby at_122) (fun _ _ => ⟨rfl, e298, (by decide : 1 + 0 ≤ _), (by decide : 6 + 0 ≤ _)⟩)
          dsimp only [Pt.U, Pt.locs, Pt.cells, Pt.slots] at X299 l299 y299 z299 st299 hQ299
          subst l299 y299 z299
          obtain ⟨rfl, N299q, e299⟩ := hQ299
          have N299 := Fr.app N298 N299q
          obtain ⟨cq300, kq300, q300a, q300b, q300c⟩ := isOf hZ e299 c154
          obtain ⟨_, _, ⟨T300, L300, k300, n300⟩, -, X300, ⟨Lc300, hQ300, l300, y300, z300⟩, st300⟩ := X299.virtualBack hx (y := own_m10) (z := own_m10) hown (mvT hZ (own_w66 hw)) (mvT hZ (own_w67 hw)) (notFace_of_selects (args := #[]) (mvT hZ (own_w69 hw))) (mvT hZ (own_w69 hw)) (mvT hZ (own_w68 hw)) (by decide) (backOf (W := 0) (own_holds5 l Z a0 hw [] s5 p2 h131 n0 Z131 c154 c155) hZ (own_w70 hw) (own_w3 hw) (by decide) (by decide)) q300a q300c (g := (mkF m 163 #[.val (.int p1), .val (.int p2), .val (.int p3), .val (.ref b101), .val (.ref s5), .val (.int p2), .val (.ref o5), .val (.int (61 : Int32)), .val (.int (0 : Int32)), .val (.int (0 : Int32)), .val (.int (0 : Int32))] [(.int p2), (.ref s5)])) rfl (by rw [hml]; rfl) (Steps.refl _) (argsL := [(.int p2)]) (rest := []) (lenOf own_pd9 rfl) rfl (by show 2 * 0 + _ ≤ _; exact Nat.le_of_eq rfl) (hb hby at_163) (fun _ _ => ⟨rfl, e299, (by decide : 1 + 0 ≤ _), (by decide : 6 + 0 ≤ _)⟩)
          dsimp only [Pt.U, Pt.locs, Pt.cells, Pt.slots] at X300 l300 y300 z300 st300 hQ300
          subst l300 y300 z300
          obtain ⟨rfl, N300q, e300⟩ := hQ300
          have N300 := Fr.app N299 N300q
          obtain ⟨fs, hr, hrun, hended, hW, hsame⟩ := X300.leave (v := some (.int (1 : Int32))) (fun h => by rw [Bd.returns] at h; cases h)
          refine ⟨_, _, pre295 _ ?_, hrun, hended, _, _, rfl, ?_, ⟨_, rfl⟩, hW, hsame.mono (by decide) (by decide)⟩
          · show Steps _ _ _ (T288.setTop (mkF m 87 #[.val (.int p1), .val (.int p2), .val (.int p3), .val (.ref b101), .val (.ref s5), .val (.int p2), .val (.ref o5), .unset, .unset, .unset, .unset] [(.int p2)])) _
            refine XS.ifNo X288.here hx rfl (hb hby at_87) rfl ((if0 _ _).trans (teq hc87_296).2) ?_
            refine XS.bipush X288.here hx rfl (hb hby at_90) ?_
            refine XS.istore X288.here hx rfl (hb hby at_92) rfl (l' := #[.val (.int p1), .val (.int p2), .val (.int p3), .val (.ref b101), .val (.ref s5), .val (.int p2), .val (.ref o5), .val (.int (61 : Int32)), .unset, .unset, .unset]) rfl ?_
            refine XS.goto X288.here hx rfl (pc0 := 94) (pc' := 101) rfl (hb hby at_94) (by decide) (by decide) ?_
            show Steps _ _ _ (T288.setTop (mkF m 101 #[.val (.int p1), .val (.int p2), .val (.int p3), .val (.ref b101), .val (.ref s5), .val (.int p2), .val (.ref o5), .val (.int (61 : Int32)), .unset, .unset, .unset] [])) _
            refine XS.aload X288.here hx rfl (hb hby at_101) rfl rfl ?_
            refine XS.iload X288.here hx rfl (hb hby at_103) rfl ?_
            refine st297 _ ?_
            refine XS.istore X297.here hx rfl (hb hby at_108) rfl (l' := #[.val (.int p1), .val (.int p2), .val (.int p3), .val (.ref b101), .val (.ref s5), .val (.int p2), .val (.ref o5), .val (.int (61 : Int32)), .val (.int (0 : Int32)), .unset, .unset]) rfl ?_
            show Steps _ _ _ (T297.setTop (mkF m 110 #[.val (.int p1), .val (.int p2), .val (.int p3), .val (.ref b101), .val (.ref s5), .val (.int p2), .val (.ref o5), .val (.int (61 : Int32)), .val (.int (0 : Int32)), .unset, .unset] [])) _
            refine XS.aload X297.here hx rfl (hb hby at_110) rfl rfl ?_
            refine st298.trans ?_
            refine XS.iconst X298.here hx rfl (hb hby at_115) ?_
            refine XS.icmpNo X298.here hx rfl (hb hby at_116) rfl (flt (by decide : ¬ ((1 : Int32) < (1 : Int32)))).1 ?_
            show Steps _ _ _ (T298.setTop (mkF m 119 #[.val (.int p1), .val (.int p2), .val (.int p3), .val (.ref b101), .val (.ref s5), .val (.int p2), .val (.ref o5), .val (.int (61 : Int32)), .val (.int (0 : Int32)), .unset, .unset] [])) _
            refine XS.aload X298.here hx rfl (hb hby at_119) rfl rfl ?_
            refine XS.iconst X298.here hx rfl (hb hby at_121) ?_
            refine st299.trans ?_
            refine XS.bipush X299.here hx rfl (hb hby at_125) ?_
            show Steps _ _ _ (T299.setTop (mkF m 127 #[.val (.int p1), .val (.int p2), .val (.int p3), .val (.ref b101), .val (.ref s5), .val (.int p2), .val (.ref o5), .val (.int (61 : Int32)), .val (.int (0 : Int32)), .unset, .unset] [(.int (33 : Int32)), (.int (62 : Int32))])) _
            refine XS.icmpYes X299.here hx rfl (pc0 := 127) (pc' := 134) rfl (hb hby at_127) rfl (feq (by decide : ¬ ((62 : Int32) = (33 : Int32)))).2 (by decide) (by decide) ?_
            refine XS.iconst X299.here hx rfl (hb hby at_134) ?_
            refine XS.istore X299.here hx rfl (hb hby at_135) rfl (l' := #[.val (.int p1), .val (.int p2), .val (.int p3), .val (.ref b101), .val (.ref s5), .val (.int p2), .val (.ref o5), .val (.int (61 : Int32)), .val (.int (0 : Int32)), .val (.int (0 : Int32)), .unset]) rfl ?_
            refine XS.iload X299.here hx rfl (hb hby at_137) rfl ?_
            show Steps _ _ _ (T299.setTop (mkF m 139 #[.val (.int p1), .val (.int p2), .val (.int p3), .val (.ref b101), .val (.ref s5), .val (.int p2), .val (.ref o5), .val (.int (61 : Int32)), .val (.int (0 : Int32)), .val (.int (0 : Int32)), .unset] [(.int (0 : Int32))])) _
            refine XS.ifYes X299.here hx rfl (pc0 := 139) (pc' := 155) rfl (hb hby at_139) rfl ((if0 _ _).trans (teq (by decide : (0 : Int32) = (0 : Int32))).1) (by decide) (by decide) ?_
            refine XS.iload X299.here hx rfl (hb hby at_155) rfl ?_
            refine XS.istore X299.here hx rfl (hb hby at_157) rfl (l' := #[.val (.int p1), .val (.int p2), .val (.int p3), .val (.ref b101), .val (.ref s5), .val (.int p2), .val (.ref o5), .val (.int (61 : Int32)), .val (.int (0 : Int32)), .val (.int (0 : Int32)), .val (.int (0 : Int32))]) rfl ?_
            refine XS.aload X299.here hx rfl (hb hby at_159) rfl rfl ?_
            show Steps _ _ _ (T299.setTop (mkF m 161 #[.val (.int p1), .val (.int p2), .val (.int p3), .val (.ref b101), .val (.ref s5), .val (.int p2), .val (.ref o5), .val (.int (61 : Int32)), .val (.int (0 : Int32)), .val (.int (0 : Int32)), .val (.int (0 : Int32))] [(.ref s5)])) _
            refine XS.iload X299.here hx rfl (hb hby at_161) rfl ?_
            refine st300.trans ?_
            refine XS.iload X300.here hx rfl (hb hby at_166) rfl ?_
            refine XS.icmpNo X300.here hx rfl (hb hby at_168) rfl (teq (by unfold own_h5; exact if_neg (by omega))).2 ?_
            show Steps _ _ _ (T300.setTop (mkF m 171 #[.val (.int p1), .val (.int p2), .val (.int p3), .val (.ref b101), .val (.ref s5), .val (.int p2), .val (.ref o5), .val (.int (61 : Int32)), .val (.int (0 : Int32)), .val (.int (0 : Int32)), .val (.int (0 : Int32))] [])) _
            refine XS.iconst X300.here hx rfl (hb hby at_171) ?_
            refine XS.goto X300.here hx rfl (pc0 := 172) (pc' := 176) rfl (hb hby at_172) (by decide) (by decide) ?_
            show Steps _ _ _ (T300.setTop (mkF m 176 #[.val (.int p1), .val (.int p2), .val (.int p3), .val (.ref b101), .val (.ref s5), .val (.int p2), .val (.ref o5), .val (.int (61 : Int32)), .val (.int (0 : Int32)), .val (.int (0 : Int32)), .val (.int (0 : Int32))] [(.int (1 : Int32))])) _
            exact retN X300 hx (t := .boolean) Bd.returns (by simp) (hb hby at_176) hr
          · show Qown_law Z p1 p2 p3 s0 o0 v0 s1 o1 v1 s2 o2 v2 s3 o3 v3 s4 o4 v4 s5 o5 v5 kc0 kc1 kc2 kc3 kc4 kc5 cs fv h0 n0 _ T300.heap _
            rw [e300]
            exact ⟨rfl, N300⟩
        · skip
          have ihc87_296 := (mt (own_eq (b := (0 : Int32)) (k := 0) rfl).mpr hc87_296)
          obtain ⟨_, _, ⟨T301, L301, k301, n301⟩, -, X301, ⟨Lc301, hQ301, l301, y301, z301⟩, st301⟩ := Jvm.LawKit.callS X288 hx (y := own_m7) hown (mvT hZ (own_w24 hw)) (mvT hZ (own_w25 hw)) (mvT hZ (own_w26 hw)) (mvT hZ (own_w27 hw)) (by decide) (backOf (W := 0) (own_hasGG l Z a0 hw [] o5 v5 kc5 cs fv h131 n0 Z131 c157 c132 hcs c133 hfv) hZ (own_w27 hw) (own_w26 hw) (by decide) (by decide)) (g := (mkF m 105 #[.val (.int p1), .val (.int p2), .val (.int p3), .val (.ref b101), .val (.ref s5), .val (.int p2), .val (.ref o5), .val (.int (62 : Int32)), .unset, .unset, .unset] [(.int (62 : Int32)), (.ref o5)])) rfl (by rw [hml]; rfl) (argsL := [(.ref o5), (.int (62 : Int32))]) (rest := []) (lenOf own_pd8 rfl) rfl (by show 2 * 0 + _ ≤ _; exact Nat.le_of_eq rfl) (hb hby at_105) (fun _ _ => ⟨rfl, e288, (by decide : 1 + 0 ≤ _), (by decide : 6 + 0 ≤ _)⟩)
          dsimp only [Pt.U, Pt.locs, Pt.cells, Pt.slots] at X301 l301 y301 z301 st301 hQ301
          subst l301 y301 z301
          obtain ⟨rfl, N301q, e301⟩ := hQ301
          have N301 := Fr.app N288 N301q
          obtain ⟨cq302, kq302, q302a, q302b, q302c⟩ := isOf hZ e301 c157.1
          obtain ⟨_, _, ⟨T302, L302, k302, n302⟩, -, X302, ⟨Lc302, hQ302, l302, y302, z302⟩, st302⟩ := X301.virtualBack hx (y := own_m6) (z := own_m6) hown (mvT hZ (own_w28 hw)) (mvT hZ (own_w29 hw)) (notFace_of_selects (args := #[]) (mvT hZ (own_w31 hw))) (mvT hZ (own_w31 hw)) (mvT hZ (own_w30 hw)) (by decide) (backOf (W := 0) (own_lenG l Z a0 hw [] o5 v5 kc5 cs fv h131 n0 Z131 c157 c132 hcs c133 hfv) hZ (own_w33 hw) (own_w32 hw) (by decide) (by decide)) q302a q302c (g := (mkF m 112 #[.val (.int p1), .val (.int p2), .val (.int p3), .val (.ref b101), .val (.ref s5), .val (.int p2), .val (.ref o5), .val (.int (62 : Int32)), .val (.int (1 : Int32)), .unset, .unset] [(.ref o5)])) rfl (by rw [hml]; rfl) (Steps.refl _) (argsL := []) (rest := []) (lenOf own_pd5 rfl) rfl (by show 2 * 0 + _ ≤ _; exact Nat.le_of_eq rfl) (hb hby at_112) (fun _ _ => ⟨rfl, e301, (by decide : 1 + 0 ≤ _), (by decide : 6 + 0 ≤ _)⟩)
          dsimp only [Pt.U, Pt.locs, Pt.cells, Pt.slots] at X302 l302 y302 z302 st302 hQ302
          subst l302 y302 z302
          obtain ⟨rfl, N302q, e302⟩ := hQ302
          have N302 := Fr.app N301 N302q
          obtain ⟨cq303, kq303, q303a, q303b, q303c⟩ := isOf hZ e302 c157.1
          obtain ⟨_, _, ⟨T303, L303, k303, n303⟩, -, X303, ⟨Lc303, hQ303, l303, y303, z303⟩, st303⟩ := X302.virtualBack hx (y := own_m5) (z := own_m5) hown (mvT hZ (own_w44 hw)) (mvT hZ (own_w45 hw)) (notFace_of_selects (args := #[]) (mvT hZ (own_w47 hw))) (mvT hZ (own_w47 hw)) (mvT hZ (own_w46 hw)) (by decide) (backOf (W := 0) (own_caG0 l Z a0 hw [] o5 v5 kc5 cs fv h131 n0 Z131 c157 c132 hcs c133 hfv) hZ (own_w48 hw) (own_w32 hw) (by decide) (by decide)) q303a q303c (g := (mkF m 122 #[.val (.int p1), .val (.int p2), .val (.int p3), .val (.ref b101), .val (.ref s5), .val (.int p2), .val (.ref o5), .val (.int (62 : Int32)), .val (.int (1 : Int32)), .unset, .unset] [(.int (0 : Int32)), (.ref o5)])) rfl (by rw [hml]; rfl) (Steps.refl _) (argsL := [(.int (0 : Int32))]) (rest := []) (lenOf own_pd6 rfl) rfl (by show 2 * 0 + _ ≤ _; exact Nat.le_of_eq rfl) (hb hby at_122) (fun _ _ => ⟨rfl, e302, (by decide : 1 + 0 ≤ _), (by decide : 6 + 0 ≤ _)⟩)
          dsimp only [Pt.U, Pt.locs, Pt.cells, Pt.slots] at X303 l303 y303 z303 st303 hQ303
          subst l303 y303 z303
          obtain ⟨rfl, N303q, e303⟩ := hQ303
          have N303 := Fr.app N302 N303q
          obtain ⟨cq304, kq304, q304a, q304b, q304c⟩ := isOf hZ e303 c154
          obtain ⟨_, _, ⟨T304, L304, k304, n304⟩, -, X304, ⟨Lc304, hQ304, l304, y304, z304⟩, st304⟩ := X303.virtualBack hx (y := own_m10) (z := own_m10) hown (mvT hZ (own_w66 hw)) (mvT hZ (own_w67 hw)) (notFace_of_selects (args := #[]) (mvT hZ (own_w69 hw))) (mvT hZ (own_w69 hw)) (mvT hZ (own_w68 hw)) (by decide) (backOf (W := 0) (own_holds5 l Z a0 hw [] s5 p2 h131 n0 Z131 c154 c155) hZ (own_w70 hw) (own_w3 hw) (by decide) (by decide)) q304a q304c (g := (mkF m 163 #[.val (.int p1), .val (.int p2), .val (.int p3), .val (.ref b101), .val (.ref s5), .val (.int p2), .val (.ref o5), .val (.int (62 : Int32)), .val (.int (1 : Int32)), .val (.int (0 : Int32)), .val (.int (1 : Int32))] [(.int p2), (.ref s5)])) rfl (by rw [hml]; rfl) (Steps.refl _) (argsL := [(.int p2)]) (rest := []) (lenOf own_pd9 rfl) rfl (by show 2 * 0 + _ ≤ _; exact Nat.le_of_eq rfl) (hb hby at_163) (fun _ _ => ⟨rfl, e303, (by decide : 1 + 0 ≤ _), (by decide : 6 + 0 ≤ _)⟩)
          dsimp only [Pt.U, Pt.locs, Pt.cells, Pt.slots] at X304 l304 y304 z304 st304 hQ304
          subst l304 y304 z304
          obtain ⟨rfl, N304q, e304⟩ := hQ304
          have N304 := Fr.app N303 N304q
          obtain ⟨fs, hr, hrun, hended, hW, hsame⟩ := X304.leave (v := some (.int (1 : Int32))) (fun h => by rw [Bd.returns] at h; cases h)
          refine ⟨_, _, pre295 _ ?_, hrun, hended, _, _, rfl, ?_, ⟨_, rfl⟩, hW, hsame.mono (by decide) (by decide)⟩
          · show Steps _ _ _ (T288.setTop (mkF m 87 #[.val (.int p1), .val (.int p2), .val (.int p3), .val (.ref b101), .val (.ref s5), .val (.int p2), .val (.ref o5), .unset, .unset, .unset, .unset] [(.int p2)])) _
            refine XS.ifYes X288.here hx rfl (pc0 := 87) (pc' := 97) rfl (hb hby at_87) rfl ((if0 _ _).trans (feq hc87_296).2) (by decide) (by decide) ?_
            refine XS.bipush X288.here hx rfl (hb hby at_97) ?_
            refine XS.istore X288.here hx rfl (hb hby at_99) rfl (l' := #[.val (.int p1), .val (.int p2), .val (.int p3), .val (.ref b101), .val (.ref s5), .val (.int p2), .val (.ref o5), .val (.int (62 : Int32)), .unset, .unset, .unset]) rfl ?_
            refine XS.aload X288.here hx rfl (hb hby at_101) rfl rfl ?_
            show Steps _ _ _ (T288.setTop (mkF m 103 #[.val (.int p1), .val (.int p2), .val (.int p3), .val (.ref b101), .val (.ref s5), .val (.int p2), .val (.ref o5), .val (.int (62 : Int32)), .unset, .unset, .unset] [(.ref o5)])) _
            refine XS.iload X288.here hx rfl (hb hby at_103) rfl ?_
            refine st301 _ ?_
            refine XS.istore X301.here hx rfl (hb hby at_108) rfl (l' := #[.val (.int p1), .val (.int p2), .val (.int p3), .val (.ref b101), .val (.ref s5), .val (.int p2), .val (.ref o5), .val (.int (62 : Int32)), .val (.int (1 : Int32)), .unset, .unset]) rfl ?_
            refine XS.aload X301.here hx rfl (hb hby at_110) rfl rfl ?_
            show Steps _ _ _ (T301.setTop (mkF m 112 #[.val (.int p1), .val (.int p2), .val (.int p3), .val (.ref b101), .val (.ref s5), .val (.int p2), .val (.ref o5), .val (.int (62 : Int32)), .val (.int (1 : Int32)), .unset, .unset] [(.ref o5)])) _
            refine st302.trans ?_
            refine XS.iconst X302.here hx rfl (hb hby at_115) ?_
            refine XS.icmpNo X302.here hx rfl (hb hby at_116) rfl (flt (by decide : ¬ ((1 : Int32) < (1 : Int32)))).1 ?_
            refine XS.aload X302.here hx rfl (hb hby at_119) rfl rfl ?_
            show Steps _ _ _ (T302.setTop (mkF m 121 #[.val (.int p1), .val (.int p2), .val (.int p3), .val (.ref b101), .val (.ref s5), .val (.int p2), .val (.ref o5), .val (.int (62 : Int32)), .val (.int (1 : Int32)), .unset, .unset] [(.ref o5)])) _
            refine XS.iconst X302.here hx rfl (hb hby at_121) ?_
            refine st303.trans ?_
            refine XS.bipush X303.here hx rfl (hb hby at_125) ?_
            refine XS.icmpYes X303.here hx rfl (pc0 := 127) (pc' := 134) rfl (hb hby at_127) rfl (feq (by decide : ¬ ((62 : Int32) = (33 : Int32)))).2 (by decide) (by decide) ?_
            show Steps _ _ _ (T303.setTop (mkF m 134 #[.val (.int p1), .val (.int p2), .val (.int p3), .val (.ref b101), .val (.ref s5), .val (.int p2), .val (.ref o5), .val (.int (62 : Int32)), .val (.int (1 : Int32)), .unset, .unset] [])) _
            refine XS.iconst X303.here hx rfl (hb hby at_134) ?_
            refine XS.istore X303.here hx rfl (hb hby at_135) rfl (l' := #[.val (.int p1), .val (.int p2), .val (.int p3), .val (.ref b101), .val (.ref s5), .val (.int p2), .val (.ref o5), .val (.int (62 : Int32)), .val (.int (1 : Int32)), .val (.int (0 : Int32)), .unset]) rfl ?_
            refine XS.iload X303.here hx rfl (hb hby at_137) rfl ?_
            refine XS.ifYes X303.here hx rfl (pc0 := 139) (pc' := 155) rfl (hb hby at_139) rfl ((if0 _ _).trans (teq (by decide : (0 : Int32) = (0 : Int32))).1) (by decide) (by decide) ?_
            show Steps _ _ _ (T303.setTop (mkF m 155 #[.val (.int p1), .val (.int p2), .val (.int p3), .val (.ref b101), .val (.ref s5), .val (.int p2), .val (.ref o5), .val (.int (62 : Int32)), .val (.int (1 : Int32)), .val (.int (0 : Int32)), .unset] [])) _
            refine XS.iload X303.here hx rfl (hb hby at_155) rfl ?_
            refine XS.istore X303.here hx rfl (hb hby at_157) rfl (l' := #[.val (.int p1), .val (.int p2), .val (.int p3), .val (.ref b101), .val (.ref s5), .val (.int p2), .val (.ref o5), .val (.int (62 : Int32)), .val (.int (1 : Int32)), .val (.int (0 : Int32)), .val (.int (1 : Int32))]) rfl ?_
            refine XS.aload X303.here hx rfl (hb hby at_159) rfl rfl ?_
            refine XS.iload X303.here hx rfl (hb hby at_161) rfl ?_
            show Steps _ _ _ (T303.setTop (mkF m 163 #[.val (.int p1), .val (.int p2), .val (.int p3), .val (.ref b101), .val (.ref s5), .val (.int p2), .val (.ref o5), .val (.int (62 : Int32)), .val (.int (1 : Int32)), .val (.int (0 : Int32)), .val (.int (1 : Int32))] [(.int p2), (.ref s5)])) _
            refine st304.trans ?_
            refine XS.iload X304.here hx rfl (hb hby at_166) rfl ?_
            refine XS.icmpNo X304.here hx rfl (hb hby at_168) rfl (teq (by unfold own_h5; exact if_pos (by omega))).2 ?_
            refine XS.iconst X304.here hx rfl (hb hby at_171) ?_
            show Steps _ _ _ (T304.setTop (mkF m 172 #[.val (.int p1), .val (.int p2), .val (.int p3), .val (.ref b101), .val (.ref s5), .val (.int p2), .val (.ref o5), .val (.int (62 : Int32)), .val (.int (1 : Int32)), .val (.int (0 : Int32)), .val (.int (1 : Int32))] [(.int (1 : Int32))])) _
            refine XS.goto X304.here hx rfl (pc0 := 172) (pc' := 176) rfl (hb hby at_172) (by decide) (by decide) ?_
            show Steps _ _ _ (T304.setTop (mkF m 176 #[.val (.int p1), .val (.int p2), .val (.int p3), .val (.ref b101), .val (.ref s5), .val (.int p2), .val (.ref o5), .val (.int (62 : Int32)), .val (.int (1 : Int32)), .val (.int (0 : Int32)), .val (.int (1 : Int32))] [(.int (1 : Int32))])) _
            exact retN X304 hx (t := .boolean) Bd.returns (by simp) (hb hby at_176) hr
          · show Qown_law Z p1 p2 p3 s0 o0 v0 s1 o1 v1 s2 o2 v2 s3 o3 v3 s4 o4 v4 s5 o5 v5 kc0 kc1 kc2 kc3 kc4 kc5 cs fv h0 n0 _ T304.heap _
            rw [e304]
            exact ⟨rfl, N304⟩
    · skip
      have ihc56_287 := (mt (own_eq (b := (0 : Int32)) (k := 0) rfl).mpr hc56_287)
      obtain ⟨cq305, kq305, q305a, q305b, q305c⟩ := isOf hZ e131 c154
      obtain ⟨_, _, ⟨T305, L305, k305, n305⟩, -, X305, ⟨Lc305, hQ305, l305, y305, z305⟩, st305⟩ := X131.virtualBack hx (y := own_m8) (z := own_m8) hown (mvT hZ (own_w17 hw)) (mvT hZ (own_w18 hw)) (notFace_of_selects (args := #[]) (mvT hZ (own_w20 hw))) (mvT hZ (own_w20 hw)) (mvT hZ (own_w19 hw)) (by decide) (backOf (W := 0) (own_op l Z a0 hw [] s5 o5 h131 n0 Z131 c156) hZ (own_w21 hw) (own_w3 hw) (by decide) (by decide)) q305a q305c (g := (mkF m 68 #[.val (.int p1), .val (.int p2), .val (.int p3), .val (.ref b101), .val (.ref s5), .val (.int (0 : Int32)), .unset, .unset, .unset, .unset, .unset] [(.ref s5)])) rfl (by rw [hml]; rfl) (Steps.refl _) (argsL := []) (rest := []) (lenOf own_pd7 rfl) rfl (by show 2 * 0 + _ ≤ _; exact Nat.le_of_eq rfl) (hb hby at_68) (fun _ _ => ⟨rfl, e131, (by decide : 1 + 0 ≤ _), (by decide : 6 + 0 ≤ _)⟩)
      dsimp only [Pt.U, Pt.locs, Pt.cells, Pt.slots] at X305 l305 y305 z305 st305 hQ305
      subst l305 y305 z305
      obtain ⟨rfl, N305q, e305⟩ := hQ305
      have N305 := Fr.app N131 N305q
      obtain ⟨_, _, ⟨T306, L306, k306, n306⟩, -, X306, ⟨Lc306, hQ306, l306, y306, z306⟩, st306⟩ := Jvm.LawKit.callS X305 hx (y := own_m7) hown (mvT hZ (own_w24 hw)) (mvT hZ (own_w25 hw)) (mvT hZ (own_w26 hw)) (mvT hZ (own_w27 hw)) (by decide) (backOf (W := 0) (own_hasGE l Z a0 hw [] o5 v5 kc5 cs fv h131 n0 Z131 c157 c132 hcs c133 hfv) hZ (own_w27 hw) (own_w26 hw) (by decide) (by decide)) (g := (mkF m 105 #[.val (.int p1), .val (.int p2), .val (.int p3), .val (.ref b101), .val (.ref s5), .val (.int (0 : Int32)), .val (.ref o5), .val (.int (61 : Int32)), .unset, .unset, .unset] [(.int (61 : Int32)), (.ref o5)])) rfl (by rw [hml]; rfl) (argsL := [(.ref o5), (.int (61 : Int32))]) (rest := []) (lenOf own_pd8 rfl) rfl (by show 2 * 0 + _ ≤ _; exact Nat.le_of_eq rfl) (hb hby at_105) (fun _ _ => ⟨rfl, e305, (by decide : 1 + 0 ≤ _), (by decide : 6 + 0 ≤ _)⟩)
      dsimp only [Pt.U, Pt.locs, Pt.cells, Pt.slots] at X306 l306 y306 z306 st306 hQ306
      subst l306 y306 z306
      obtain ⟨rfl, N306q, e306⟩ := hQ306
      have N306 := Fr.app N305 N306q
      obtain ⟨cq307, kq307, q307a, q307b, q307c⟩ := isOf hZ e306 c157.1
      obtain ⟨_, _, ⟨T307, L307, k307, n307⟩, -, X307, ⟨Lc307, hQ307, l307, y307, z307⟩, st307⟩ := X306.virtualBack hx (y := own_m6) (z := own_m6) hown (mvT hZ (own_w28 hw)) (mvT hZ (own_w29 hw)) (notFace_of_selects (args := #[]) (mvT hZ (own_w31 hw))) (mvT hZ (own_w31 hw)) (mvT hZ (own_w30 hw)) (by decide) (backOf (W := 0) (own_lenG l Z a0 hw [] o5 v5 kc5 cs fv h131 n0 Z131 c157 c132 hcs c133 hfv) hZ (own_w33 hw) (own_w32 hw) (by decide) (by decide)) q307a q307c (g := (mkF m 112 #[.val (.int p1), .val (.int p2), .val (.int p3), .val (.ref b101), .val (.ref s5), .val (.int (0 : Int32)), .val (.ref o5), .val (.int (61 : Int32)), .val (.int (0 : Int32)), .unset, .unset] [(.ref o5)])) rfl (by rw [hml]; rfl) (Steps.refl _) (argsL := []) (rest := []) (lenOf own_pd5 rfl) rfl (by show 2 * 0 + _ ≤ _; exact Nat.le_of_eq rfl) (hb hby at_112) (fun _ _ => ⟨rfl, e306, (by decide : 1 + 0 ≤ _), (by decide : 6 + 0 ≤ _)⟩)
      dsimp only [Pt.U, Pt.locs, Pt.cells, Pt.slots] at X307 l307 y307 z307 st307 hQ307
      subst l307 y307 z307
      obtain ⟨rfl, N307q, e307⟩ := hQ307
      have N307 := Fr.app N306 N307q
      obtain ⟨cq308, kq308, q308a, q308b, q308c⟩ := isOf hZ e307 c157.1
      obtain ⟨_, _, ⟨T308, L308, k308, n308⟩, -, X308, ⟨Lc308, hQ308, l308, y308, z308⟩, st308⟩ := X307.virtualBack hx (y := own_m5) (z := own_m5) hown (mvT hZ (own_w44 hw)) (mvT hZ (own_w45 hw)) (notFace_of_selects (args := #[]) (mvT hZ (own_w47 hw))) (mvT hZ (own_w47 hw)) (mvT hZ (own_w46 hw)) (by decide) (backOf (W := 0) (own_caG0 l Z a0 hw [] o5 v5 kc5 cs fv h131 n0 Z131 c157 c132 hcs c133 hfv) hZ (own_w48 hw) (own_w32 hw) (by decide) (by decide)) q308a q308c (g := (mkF m 122 #[.val (.int p1), .val (.int p2), .val (.int p3), .val (.ref b101), .val (.ref s5), .val (.int (0 : Int32)), .val (.ref o5), .val (.int (61 : Int32)), .val (.int (0 : Int32)), .unset, .unset] [(.int (0 : Int32)), (.ref o5)])) rfl (by rw [hml]; rfl) (Steps.refl _) (argsL := [(.int (0 : Int32))]) (rest := []) (lenOf own_pd6 rfl) rfl (by show 2 * 0 + _ ≤ _; exact Nat.le_of_eq rfl) (hb hby at_122) (fun _ _ => ⟨rfl, e307, (by decide : 1 + 0 ≤ _), (by decide : 6 + 0 ≤ _)⟩)
      dsimp only [Pt.U, Pt.locs, Pt.cells, Pt.slots] at X308 l308 y308 z308 st308 hQ308
      subst l308 y308 z308
      obtain ⟨rfl, N308q, e308⟩ := hQ308
      have N308 := Fr.app N307 N308q
      obtain ⟨cq309, kq309, q309a, q309b, q309c⟩ := isOf hZ e308 c154
      obtain ⟨_, _, ⟨T309, L309, k309, n309⟩, -, X309, ⟨Lc309, hQ309, l309, y309, z309⟩, st309⟩ := X308.virtualBack hx (y := own_m10) (z := own_m10) hown (mvT hZ (own_w66 hw)) (mvT hZ (own_w67 hw)) (notFace_of_selects (args := #[]) (mvT hZ (own_w69 hw))) (mvT hZ (own_w69 hw)) (mvT hZ (own_w68 hw)) (by decide) (backOf (W := 0) (own_holds5 l Z a0 hw [] s5 (0 : Int32) h131 n0 Z131 c154 c155) hZ (own_w70 hw) (own_w3 hw) (by decide) (by decide)) q309a q309c (g := (mkF m 163 #[.val (.int p1), .val (.int p2), .val (.int p3), .val (.ref b101), .val (.ref s5), .val (.int (0 : Int32)), .val (.ref o5), .val (.int (61 : Int32)), .val (.int (0 : Int32)), .val (.int (0 : Int32)), .val (.int (0 : Int32))] [(.int (0 : Int32)), (.ref s5)])) rfl (by rw [hml]; rfl) (Steps.refl _) (argsL := [(.int (0 : Int32))]) (rest := []) (lenOf own_pd9 rfl) rfl (by show 2 * 0 + _ ≤ _; exact Nat.le_of_eq rfl) (hb hby at_163) (fun _ _ => ⟨rfl, e308, (by decide : 1 + 0 ≤ _), (by decide : 6 + 0 ≤ _)⟩)
      dsimp only [Pt.U, Pt.locs, Pt.cells, Pt.slots] at X309 l309 y309 z309 st309 hQ309
      subst l309 y309 z309
      obtain ⟨rfl, N309q, e309⟩ := hQ309
      have N309 := Fr.app N308 N309q
      obtain ⟨fs, hr, hrun, hended, hW, hsame⟩ := X309.leave (v := some (.int (1 : Int32))) (fun h => by rw [Bd.returns] at h; cases h)
      refine ⟨_, _, pre286 _ ?_, hrun, hended, _, _, rfl, ?_, ⟨_, rfl⟩, hW, hsame.mono (by decide) (by decide)⟩
      · show Steps _ _ _ (T131.setTop (mkF m 56 #[.val (.int p1), .val (.int p2), .val (.int p3), .val (.ref b101), .val (.ref s5), .unset, .unset, .unset, .unset, .unset, .unset] [(.int (p3 &&& (1 : Int32)))])) _
        refine XS.ifNo X131.here hx rfl (hb hby at_56) rfl ((if0 _ _).trans (feq hc56_287).1) ?_
        refine XS.iconst X131.here hx rfl (hb hby at_59) ?_
        refine XS.goto X131.here hx rfl (pc0 := 60) (pc' := 64) rfl (hb hby at_60) (by decide) (by decide) ?_
        refine XS.istore X131.here hx rfl (hb hby at_64) rfl (l' := #[.val (.int p1), .val (.int p2), .val (.int p3), .val (.ref b101), .val (.ref s5), .val (.int (0 : Int32)), .unset, .unset, .unset, .unset, .unset]) rfl ?_
        show Steps _ _ _ (T131.setTop (mkF m 66 #[.val (.int p1), .val (.int p2), .val (.int p3), .val (.ref b101), .val (.ref s5), .val (.int (0 : Int32)), .unset, .unset, .unset, .unset, .unset] [])) _
        refine XS.aload X131.here hx rfl (hb hby at_66) rfl rfl ?_
        refine st305.trans ?_
        refine XS.astore X305.here hx rfl (hb hby at_71) rfl rfl (l' := #[.val (.int p1), .val (.int p2), .val (.int p3), .val (.ref b101), .val (.ref s5), .val (.int (0 : Int32)), .val (.ref o5), .unset, .unset, .unset, .unset]) rfl ?_
        refine XS.iload X305.here hx rfl (hb hby at_73) rfl ?_
        show Steps _ _ _ (T305.setTop (mkF m 75 #[.val (.int p1), .val (.int p2), .val (.int p3), .val (.ref b101), .val (.ref s5), .val (.int (0 : Int32)), .val (.ref o5), .unset, .unset, .unset, .unset] [(.int (0 : Int32))])) _
        refine XS.ifYes X305.here hx rfl (pc0 := 75) (pc' := 85) rfl (hb hby at_75) rfl ((if0 _ _).trans (flt (by decide : ¬ ((0 : Int32) < (0 : Int32)))).2.1) (by decide) (by decide) ?_
        refine XS.iload X305.here hx rfl (hb hby at_85) rfl ?_
        refine XS.ifNo X305.here hx rfl (hb hby at_87) rfl ((if0 _ _).trans (teq (by decide : (0 : Int32) = (0 : Int32))).2) ?_
        refine XS.bipush X305.here hx rfl (hb hby at_90) ?_
        show Steps _ _ _ (T305.setTop (mkF m 92 #[.val (.int p1), .val (.int p2), .val (.int p3), .val (.ref b101), .val (.ref s5), .val (.int (0 : Int32)), .val (.ref o5), .unset, .unset, .unset, .unset] [(.int (61 : Int32))])) _
        refine XS.istore X305.here hx rfl (hb hby at_92) rfl (l' := #[.val (.int p1), .val (.int p2), .val (.int p3), .val (.ref b101), .val (.ref s5), .val (.int (0 : Int32)), .val (.ref o5), .val (.int (61 : Int32)), .unset, .unset, .unset]) rfl ?_
        refine XS.goto X305.here hx rfl (pc0 := 94) (pc' := 101) rfl (hb hby at_94) (by decide) (by decide) ?_
        refine XS.aload X305.here hx rfl (hb hby at_101) rfl rfl ?_
        refine XS.iload X305.here hx rfl (hb hby at_103) rfl ?_
        show Steps _ _ _ (T305.setTop (mkF m 105 #[.val (.int p1), .val (.int p2), .val (.int p3), .val (.ref b101), .val (.ref s5), .val (.int (0 : Int32)), .val (.ref o5), .val (.int (61 : Int32)), .unset, .unset, .unset] [(.int (61 : Int32)), (.ref o5)])) _
        refine st306 _ ?_
        refine XS.istore X306.here hx rfl (hb hby at_108) rfl (l' := #[.val (.int p1), .val (.int p2), .val (.int p3), .val (.ref b101), .val (.ref s5), .val (.int (0 : Int32)), .val (.ref o5), .val (.int (61 : Int32)), .val (.int (0 : Int32)), .unset, .unset]) rfl ?_
        refine XS.aload X306.here hx rfl (hb hby at_110) rfl rfl ?_
        refine st307.trans ?_
        show Steps _ _ _ (T307.setTop (mkF m 115 #[.val (.int p1), .val (.int p2), .val (.int p3), .val (.ref b101), .val (.ref s5), .val (.int (0 : Int32)), .val (.ref o5), .val (.int (61 : Int32)), .val (.int (0 : Int32)), .unset, .unset] [(.int (1 : Int32))])) _
        refine XS.iconst X307.here hx rfl (hb hby at_115) ?_
        refine XS.icmpNo X307.here hx rfl (hb hby at_116) rfl (flt (by decide : ¬ ((1 : Int32) < (1 : Int32)))).1 ?_
        refine XS.aload X307.here hx rfl (hb hby at_119) rfl rfl ?_
        refine XS.iconst X307.here hx rfl (hb hby at_121) ?_
        show Steps _ _ _ (T307.setTop (mkF m 122 #[.val (.int p1), .val (.int p2), .val (.int p3), .val (.ref b101), .val (.ref s5), .val (.int (0 : Int32)), .val (.ref o5), .val (.int (61 : Int32)), .val (.int (0 : Int32)), .unset, .unset] [(.int (0 : Int32)), (.ref o5)])) _
        refine st308.trans ?_
        refine XS.bipush X308.here hx rfl (hb hby at_125) ?_
        refine XS.icmpYes X308.here hx rfl (pc0 := 127) (pc' := 134) rfl (hb hby at_127) rfl (feq (by decide : ¬ ((62 : Int32) = (33 : Int32)))).2 (by decide) (by decide) ?_
        refine XS.iconst X308.here hx rfl (hb hby at_134) ?_
        show Steps _ _ _ (T308.setTop (mkF m 135 #[.val (.int p1), .val (.int p2), .val (.int p3), .val (.ref b101), .val (.ref s5), .val (.int (0 : Int32)), .val (.ref o5), .val (.int (61 : Int32)), .val (.int (0 : Int32)), .unset, .unset] [(.int (0 : Int32))])) _
        refine XS.istore X308.here hx rfl (hb hby at_135) rfl (l' := #[.val (.int p1), .val (.int p2), .val (.int p3), .val (.ref b101), .val (.ref s5), .val (.int (0 : Int32)), .val (.ref o5), .val (.int (61 : Int32)), .val (.int (0 : Int32)), .val (.int (0 : Int32)), .unset]) rfl ?_
        refine XS.iload X308.here hx rfl (hb hby at_137) rfl ?_
        refine XS.ifYes X308.here hx rfl (pc0 := 139) (pc' := 155) rfl (hb hby at_139) rfl ((if0 _ _).trans (teq (by decide : (0 : Int32) = (0 : Int32))).1) (by decide) (by decide) ?_
        refine XS.iload X308.here hx rfl (hb hby at_155) rfl ?_
        show Steps _ _ _ (T308.setTop (mkF m 157 #[.val (.int p1), .val (.int p2), .val (.int p3), .val (.ref b101), .val (.ref s5), .val (.int (0 : Int32)), .val (.ref o5), .val (.int (61 : Int32)), .val (.int (0 : Int32)), .val (.int (0 : Int32)), .unset] [(.int (0 : Int32))])) _
        refine XS.istore X308.here hx rfl (hb hby at_157) rfl (l' := #[.val (.int p1), .val (.int p2), .val (.int p3), .val (.ref b101), .val (.ref s5), .val (.int (0 : Int32)), .val (.ref o5), .val (.int (61 : Int32)), .val (.int (0 : Int32)), .val (.int (0 : Int32)), .val (.int (0 : Int32))]) rfl ?_
        refine XS.aload X308.here hx rfl (hb hby at_159) rfl rfl ?_
        refine XS.iload X308.here hx rfl (hb hby at_161) rfl ?_
        refine st309.trans ?_
        show Steps _ _ _ (T309.setTop (mkF m 166 #[.val (.int p1), .val (.int p2), .val (.int p3), .val (.ref b101), .val (.ref s5), .val (.int (0 : Int32)), .val (.ref o5), .val (.int (61 : Int32)), .val (.int (0 : Int32)), .val (.int (0 : Int32)), .val (.int (0 : Int32))] [(.int (own_h5 (0 : Int32)))])) _
        refine XS.iload X309.here hx rfl (hb hby at_166) rfl ?_
        refine XS.icmpNo X309.here hx rfl (hb hby at_168) rfl (teq (by decide)).2 ?_
        refine XS.iconst X309.here hx rfl (hb hby at_171) ?_
        refine XS.goto X309.here hx rfl (pc0 := 172) (pc' := 176) rfl (hb hby at_172) (by decide) (by decide) ?_
        show Steps _ _ _ (T309.setTop (mkF m 176 #[.val (.int p1), .val (.int p2), .val (.int p3), .val (.ref b101), .val (.ref s5), .val (.int (0 : Int32)), .val (.ref o5), .val (.int (61 : Int32)), .val (.int (0 : Int32)), .val (.int (0 : Int32)), .val (.int (0 : Int32))] [(.int (1 : Int32))])) _
        exact retN X309 hx (t := .boolean) Bd.returns (by simp) (hb hby at_176) hr
      · show Qown_law Z p1 p2 p3 s0 o0 v0 s1 o1 v1 s2 o2 v2 s3 o3 v3 s4 o4 v4 s5 o5 v5 kc0 kc1 kc2 kc3 kc4 kc5 cs fv h0 n0 _ T309.heap _
        rw [e309]
        exact ⟨rfl, N309⟩
set_option maxRecDepth 65536 in
set_option maxHeartbeats 40000000 in
theorem comes_1 {Post : Tables → Env → Array Value → State → Outcome → State → Prop} (hpost : ∀ tb e args s v u, (limb_1_1.after args s (.returned v) u = true ∧ limb_1_2.after args s (.returned v) u = true ∧ True) → FrameEnd s (.returned v) u (Jvm.fieldLocs frame_1_writes args s ++ Jvm.arrayLocs frame_1_arrays args s ++ Jvm.staticLocs frame_1_statics s) 16 128 → Post tb e args s (.returned v) u) :
    ArmFor flags0 classFile x code maxLocals ret World_1 tables_1 room_1 Calls_1 rest_1 Pre_1 Post := by
  intro l hfl _ _ p e ha hc hk s m args below hf hA hF happ hP
  obtain ⟨hcalls, hrest, hpre⟩ := hP
  obtain ⟨-, -, -, hnamed, -, -, -, hat⟩ := (Spec.applies_iff hf).mp happ
  obtain ⟨hg, hn⟩ := and_e (Cond.before_iff.mp (show (Jvm.Cond.and given_1 narrow_1).before args s = true from hpre))
  obtain ⟨gc, gr0⟩ := and_e hg
  obtain ⟨ga0, gr1⟩ := and_e gr0
  obtain ⟨ga1, gr2⟩ := and_e gr1
  have ga2 := gr2
  obtain ⟨w0, w1, w2, rfl⟩ : ∃ w0 w1 w2 : Value, args = #[w0, w1, w2] := by
    have hs : args.size = 3 := by simpa [Cond.value, given_1] using gc
    obtain ⟨L⟩ := args
    match L, hs with
    | [w0, w1, w2], _ => exact ⟨w0, w1, w2, rfl⟩
  have hw := fun d (hd : d ∈ tables_1) => atoms_spec (ws := Jvm.Cond.code x code maxLocals ret :: tables_1) hat d (List.mem_cons_of_mem _ hd)
  have hfit : Fit s := fun {y c} hc i hi => by
    obtain ⟨ha, rfl⟩ := Array.getElem?_eq_some_iff.mp hc
    have q := List.all_eq_true.mp ((Array.all_eq_true_iff_forall_mem.mp hF) _ (Array.getElem_mem ha)) i (List.mem_range.mpr hi)
    simpa [Array.getElem?_eq_getElem hi] using q
  obtain ⟨i0, ei0⟩ := is_v ga0
  obtain rfl : w0 = (.int i0) := Option.some.inj ei0
  obtain ⟨i1, ei1⟩ := is_v ga1
  obtain rfl : w1 = (.int i1) := Option.some.inj ei1
  obtain ⟨i2, ei2⟩ := is_v ga2
  obtain rfl : w2 = (.int i2) := Option.some.inj ei2
  obtain ⟨hsets, hown0⟩ := atoms_of _ (rest_1_c_eq ▸ (show rest_1_c.before _ s = true from hrest))
  obtain ⟨cs, ecs⟩ := is_v (Cond.before_iff.mp (hsets _ (List.mem_of_getElem? (i := 1) rfl)))
  have hcs := own_nz ecs (Cond.before_iff.mp (hsets _ (List.mem_of_getElem? (i := 2) rfl)))
  have SC := Sta.start ecs (Or.inl (hsets _ (List.mem_of_getElem? (i := 0) rfl)))
  obtain ⟨fv, efv, hfv⟩ := isR_v (Cond.before_iff.mp (hsets _ (List.mem_of_getElem? (i := 8) rfl)))
  have SF := Sta.start efv (Or.inl (hsets _ (List.mem_of_getElem? (i := 7) rfl)))
  obtain ⟨na0, nr0⟩ := and_e hn
  obtain ⟨na1, nr1⟩ := and_e nr0
  obtain ⟨na2, nr2⟩ := and_e nr1
  obtain ⟨na3, nr3⟩ := and_e nr2
  obtain ⟨na4, nr4⟩ := and_e nr3
  obtain ⟨na5, nr5⟩ := and_e nr4
  obtain ⟨na6, nr6⟩ := and_e nr5
  obtain ⟨na7, nr7⟩ := and_e nr6
  obtain ⟨na8, nr8⟩ := and_e nr7
  obtain ⟨na9, nr9⟩ := and_e nr8
  obtain ⟨na10, nr10⟩ := and_e nr9
  obtain ⟨na11, nr11⟩ := and_e nr10
  obtain ⟨na12, nr12⟩ := and_e nr11
  obtain ⟨na13, nr13⟩ := and_e nr12
  obtain ⟨na14, nr14⟩ := and_e nr13
  obtain ⟨na15, nr15⟩ := and_e nr14
  obtain ⟨na16, nr16⟩ := and_e nr15
  obtain ⟨na17, nr17⟩ := and_e nr16
  obtain ⟨na18, nr18⟩ := and_e nr17
  obtain ⟨na19, nr19⟩ := and_e nr18
  obtain ⟨na20, nr20⟩ := and_e nr19
  obtain ⟨na21, nr21⟩ := and_e nr20
  obtain ⟨na22, nr22⟩ := and_e nr21
  obtain ⟨na23, nr23⟩ := and_e nr22
  obtain ⟨na24, nr24⟩ := and_e nr23
  obtain ⟨na25, nr25⟩ := and_e nr24
  obtain ⟨na26, nr26⟩ := and_e nr25
  obtain ⟨na27, nr27⟩ := and_e nr26
  obtain ⟨na28, nr28⟩ := and_e nr27
  obtain ⟨na29, nr29⟩ := and_e nr28
  obtain ⟨na30, nr30⟩ := and_e nr29
  obtain ⟨na31, nr31⟩ := and_e nr30
  obtain ⟨na32, nr32⟩ := and_e nr31
  obtain ⟨na33, nr33⟩ := and_e nr32
  obtain ⟨na34, nr34⟩ := and_e nr33
  obtain ⟨na35, nr35⟩ := and_e nr34
  obtain ⟨na36, nr36⟩ := and_e nr35
  obtain ⟨na37, nr37⟩ := and_e nr36
  obtain ⟨na38, nr38⟩ := and_e nr37
  obtain ⟨na39, nr39⟩ := and_e nr38
  obtain ⟨na40, nr40⟩ := and_e nr39
  obtain ⟨na41, nr41⟩ := and_e nr40
  obtain ⟨na42, nr42⟩ := and_e nr41
  obtain ⟨na43, nr43⟩ := and_e nr42
  have na44 := nr43
  obtain ⟨s0, e0, E0⟩ := own_exa na0
  have S0 := Sta.start e0 (Or.inr ⟨hw _ (List.mem_of_getElem? (i := 3) rfl), hw _ (List.mem_of_getElem? (i := 4) rfl)⟩)
  have F0 := own_fldint e0 na12
  obtain ⟨o0, eo0, X0⟩ := own_exa na6
  have O0 := Fld.start ((fld_at e0).symm.trans eo0)
  obtain ⟨v0, vc0, ev0, A0, z0, l0⟩ := own_arr na7 na8
  have Fv0 := Fld.start ((fld_at eo0).symm.trans ev0)
  have Fc0 := own_fldint eo0 na9
  have V0 : Arv s s.heap v0 vc0.cls .byte (2 : Int32) [(.int (33 : Int32)), (.int (61 : Int32))] (.int (0 : Int32)) := Arv.start hfit A0 z0 l0 (by decide) rfl ⟨own_elem ev0 A0 na10, own_elem ev0 A0 na11, trivial⟩
  have H0 : own_Str s s.heap o0 v0 vc0.cls (2 : Int32) [(.int (33 : Int32)), (.int (61 : Int32))] := ⟨X0, Fv0, Fc0, V0⟩
  obtain ⟨s1, e1, E1⟩ := own_exa na1
  have S1 := Sta.start e1 (Or.inr ⟨hw _ (List.mem_of_getElem? (i := 3) rfl), hw _ (List.mem_of_getElem? (i := 7) rfl)⟩)
  have F1 := own_fldint e1 na19
  obtain ⟨o1, eo1, X1⟩ := own_exa na13
  have O1 := Fld.start ((fld_at e1).symm.trans eo1)
  obtain ⟨v1, vc1, ev1, A1, z1, l1⟩ := own_arr na14 na15
  have Fv1 := Fld.start ((fld_at eo1).symm.trans ev1)
  have Fc1 := own_fldint eo1 na16
  have V1 : Arv s s.heap v1 vc1.cls .byte (2 : Int32) [(.int (60 : Int32)), (.int (61 : Int32))] (.int (0 : Int32)) := Arv.start hfit A1 z1 l1 (by decide) rfl ⟨own_elem ev1 A1 na17, own_elem ev1 A1 na18, trivial⟩
  have H1 : own_Str s s.heap o1 v1 vc1.cls (2 : Int32) [(.int (60 : Int32)), (.int (61 : Int32))] := ⟨X1, Fv1, Fc1, V1⟩
  obtain ⟨s2, e2, E2⟩ := own_exa na2
  have S2 := Sta.start e2 (Or.inr ⟨hw _ (List.mem_of_getElem? (i := 3) rfl), hw _ (List.mem_of_getElem? (i := 9) rfl)⟩)
  have F2 := own_fldint e2 na26
  obtain ⟨o2, eo2, X2⟩ := own_exa na20
  have O2 := Fld.start ((fld_at e2).symm.trans eo2)
  obtain ⟨v2, vc2, ev2, A2, z2, l2⟩ := own_arr na21 na22
  have Fv2 := Fld.start ((fld_at eo2).symm.trans ev2)
  have Fc2 := own_fldint eo2 na23
  have V2 : Arv s s.heap v2 vc2.cls .byte (2 : Int32) [(.int (62 : Int32)), (.int (61 : Int32))] (.int (0 : Int32)) := Arv.start hfit A2 z2 l2 (by decide) rfl ⟨own_elem ev2 A2 na24, own_elem ev2 A2 na25, trivial⟩
  have H2 : own_Str s s.heap o2 v2 vc2.cls (2 : Int32) [(.int (62 : Int32)), (.int (61 : Int32))] := ⟨X2, Fv2, Fc2, V2⟩
  obtain ⟨s3, e3, E3⟩ := own_exa na3
  have S3 := Sta.start e3 (Or.inr ⟨hw _ (List.mem_of_getElem? (i := 3) rfl), hw _ (List.mem_of_getElem? (i := 11) rfl)⟩)
  have F3 := own_fldint e3 na38
  obtain ⟨o3, eo3, X3⟩ := own_exa na33
  have O3 := Fld.start ((fld_at e3).symm.trans eo3)
  obtain ⟨v3, vc3, ev3, A3, z3, l3⟩ := own_arr na34 na35
  have Fv3 := Fld.start ((fld_at eo3).symm.trans ev3)
  have Fc3 := own_fldint eo3 na36
  have V3 : Arv s s.heap v3 vc3.cls .byte (1 : Int32) [(.int (61 : Int32))] (.int (0 : Int32)) := Arv.start hfit A3 z3 l3 (by decide) rfl ⟨own_elem ev3 A3 na37, trivial⟩
  have H3 : own_Str s s.heap o3 v3 vc3.cls (1 : Int32) [(.int (61 : Int32))] := ⟨X3, Fv3, Fc3, V3⟩
  obtain ⟨s4, e4, E4⟩ := own_exa na4
  have S4 := Sta.start e4 (Or.inr ⟨hw _ (List.mem_of_getElem? (i := 3) rfl), hw _ (List.mem_of_getElem? (i := 13) rfl)⟩)
  have F4 := own_fldint e4 na44
  obtain ⟨o4, eo4, X4⟩ := own_exa na39
  have O4 := Fld.start ((fld_at e4).symm.trans eo4)
  obtain ⟨v4, vc4, ev4, A4, z4, l4⟩ := own_arr na40 na41
  have Fv4 := Fld.start ((fld_at eo4).symm.trans ev4)
  have Fc4 := own_fldint eo4 na42
  have V4 : Arv s s.heap v4 vc4.cls .byte (1 : Int32) [(.int (60 : Int32))] (.int (0 : Int32)) := Arv.start hfit A4 z4 l4 (by decide) rfl ⟨own_elem ev4 A4 na43, trivial⟩
  have H4 : own_Str s s.heap o4 v4 vc4.cls (1 : Int32) [(.int (60 : Int32))] := ⟨X4, Fv4, Fc4, V4⟩
  obtain ⟨s5, e5, E5⟩ := own_exa na5
  have S5 := Sta.start e5 (Or.inr ⟨hw _ (List.mem_of_getElem? (i := 3) rfl), hw _ (List.mem_of_getElem? (i := 15) rfl)⟩)
  have F5 := own_fldint e5 na32
  obtain ⟨o5, eo5, X5⟩ := own_exa na27
  have O5 := Fld.start ((fld_at e5).symm.trans eo5)
  obtain ⟨v5, vc5, ev5, A5, z5, l5⟩ := own_arr na28 na29
  have Fv5 := Fld.start ((fld_at eo5).symm.trans ev5)
  have Fc5 := own_fldint eo5 na30
  have V5 : Arv s s.heap v5 vc5.cls .byte (1 : Int32) [(.int (62 : Int32))] (.int (0 : Int32)) := Arv.start hfit A5 z5 l5 (by decide) rfl ⟨own_elem ev5 A5 na31, trivial⟩
  have H5 : own_Str s s.heap o5 v5 vc5.cls (1 : Int32) [(.int (62 : Int32))] := ⟨X5, Fv5, Fc5, V5⟩
  obtain ⟨n, o, h1, h2, h3, _, L, rfl, ⟨rfl, N⟩, hq⟩ := own_law l s _ hw tables_1 i0 i1 i2 s0 o0 v0 s1 o1 v1 s2 o2 v2 s3 o3 v3 s4 o4 v4 s5 o5 v5 vc0.cls vc1.cls vc2.cls vc3.cls vc4.cls vc5.cls cs fv s.heap s.heap.size (Nat.le_refl _) S0 E0 F0 O0 H0 S1 E1 F1 O1 H1 S2 E2 F2 O2 H2 S3 E3 F3 O3 H3 S4 E4 F4 O4 H4 S5 E5 F5 O5 H5 SC hcs SF hfv p e ha hc hk s m _ below hf ((Spec.applies_iff_loose hf).mp happ).1 ⟨rfl, State.Warmed39.refl s, rfl⟩ trivial
  refine ⟨n, _, h1, h2, h3, hpost _ _ _ _ _ _ ⟨Cond.after_iff.mpr rfl, Cond.after_iff.mpr (eq_i res_at (Term.int_eval (1)) rfl), trivial⟩ ⟨hq.1, hq.2.1, (hq.2.2.sift fun y hy => Or.inr (N y hy)).mono (by decide) (by decide)⟩⟩
theorem main_1_1 : Claimed_1_1 := comes_1 fun _ _ _ _ _ _ h hF => ⟨h.1, hF⟩
theorem main_1_2 : Claimed_1_2 := comes_1 fun _ _ _ _ _ _ h hF => ⟨h.2.1, hF⟩
end Jvm.Pilot.@@N@@
namespace Jvm.Pilot.@@N@@
open Jvm Jvm.ClassFile Sem Op Lib Jvm.Free Jvm.Stand Jvm.Pilot.@@N@@.Jvm.D
/-! MADE BY PROGRAM (witnessworld.py) out of the Statement's table words and the real class files: 19 classes; the members and pool entries that the words name. The judged class is class 1, her method 2. -/
namespace start1
open Jvm.ClassFile
def u (s : String) : CpInfo := .utf8 (stringToUtf16 s)
/-- a pool by its gaps: so many unusable entries, then the entry; so many at the end -/
def gap : Nat → List CpInfo → List CpInfo
  | 0, r => r
  | n + 1, r => .unusable :: gap n r
def poolList (es : List (Nat × CpInfo)) (last : Nat) : List CpInfo := es.foldr (fun e r => gap e.1 (e.2 :: r)) (gap last [])
def pool (es : List (Nat × CpInfo)) (last : Nat) : Array CpInfo := ⟨poolList es last⟩
def fileOf (pool : Array CpInfo) (this : Nat) (attrs : Array Attribute := #[]) (ms : Array MethodInfo := #[]) (fl : Nat := 33) (sup : Nat := 0) (ifs : Array Nat := #[]) (fds : Array FieldInfo := #[]) : ClassFile where
  minorVersion := 0
  majorVersion := 65
  constantPool := pool
  accessFlags := fl
  thisClass := this
  superClass := sup
  interfaces := ifs
  fields := fds
  methods := ms
  attributes := attrs
def plain (name : String) (sup : Option ClassId) : Class where
  name := name
  kind := .ordinary
  loader := none
  accessFlags := 33
  super := sup
  interfaces := #[]
  cf := none
  fields := #[]
  methods := #[]
  instanceTypes := #[]
  staticTypes := #[]
  resolved := #[]
  callSites := []
  init := .initialized
  statics := none
  mirror := none

def pool0 : Array CpInfo := pool [(5, u "<init>"), (0, u "()V"), (1, .class_ 10), (1, u "java/lang/Object")] 113

def k0m0 : Method := { name := "<init>", desc := "()V", sig := { parameters := [], returnType := none }, accessFlags := 1, code := none }
/-- java/lang/Object -/
def k0 : Class := { plain "java/lang/Object" none with
  accessFlags := 33
  interfaces := #[]
  cf := some (fileOf pool0 8 #[] #[{ accessFlags := 1, nameIndex := 5, descriptorIndex := 6, attributes := #[] }] 33 0 #[] #[])
  fields := #[]
  methods := #[k0m0]
  instanceTypes := #[]
  staticTypes := #[]
  resolved := Array.replicate 124 none
  statics := none }

def pool1 : Array CpInfo := pool [(2, .class_ 4), (1, u "java/lang/Object"), (0, u "<init>"), (0, u "()V"), (0, .methodref 8 9), (0, .class_ 10), (0, .nameAndType 11 12), (0, u "java/lang/String"), (0, u "length"), (0, u "()I"), (0, .methodref 8 14), (0, .nameAndType 15 16), (0, u "charAt"), (0, u "(I)C"), (0, .class_ 18), (0, u "com/example/dirwarden/dirwarden/aci/Comparison"), (0, .fieldref 17 20), (0, .nameAndType 21 22), (0, u "NOT_EQUAL"), (0, u "Lcom/example/dirwarden/dirwarden/aci/Comparison;"), (0, .fieldref 17 24), (0, .nameAndType 25 22), (0, u "AT_MOST"), (0, .fieldref 17 27), (0, .nameAndType 28 22), (0, u "AT_LEAST"), (0, .fieldref 17 30), (0, .nameAndType 31 22), (0, u "EQUAL"), (0, .fieldref 17 33), (0, .nameAndType 34 22), (0, u "LESS"), (0, .fieldref 17 36), (0, .nameAndType 37 22), (0, u "GREATER"), (0, .integer 2147483647), (0, .methodref 17 40), (0, .nameAndType 41 42), (0, u "operator"), (0, u "()Ljava/lang/String;"), (0, .methodref 44 45), (0, .class_ 46), (0, .nameAndType 47 48), (0, u "com/example/dirwarden/dirwarden/aci/ComparisonHoldsPinLaw"), (0, u "has"), (0, u "(Ljava/lang/String;C)Z"), (0, .methodref 17 50), (0, .nameAndType 51 52), (0, u "holds"), (0, u "(I)Z"), (3, u "law"), (0, u "(III)Z")] 4

def k1m0 : Method := { name := "<init>", desc := "()V", sig := { parameters := [], returnType := none }, accessFlags := 1, code := none }
def k1c1 : Code := { maxStack := 2, maxLocals := 4, code := method_2_code, exceptionTable := #[], attributes := #[] }
def k1m1 : Method := { name := "has", desc := "(Ljava/lang/String;C)Z", sig := { parameters := [(.object "java/lang/String"), .char], returnType := some .boolean }, accessFlags := 10, code := some k1c1 }
def k1c2 : Code := { maxStack := 4, maxLocals := 11, code := code, exceptionTable := #[], attributes := #[] }
def k1m2 : Method := { name := "law", desc := "(III)Z", sig := { parameters := [.int, .int, .int], returnType := some .boolean }, accessFlags := 9, code := some k1c2 }
/-- com/example/dirwarden/dirwarden/aci/ComparisonHoldsPinLaw -/
def k1 : Class := { plain "com/example/dirwarden/dirwarden/aci/ComparisonHoldsPinLaw" (some 0) with
  accessFlags := 49
  interfaces := #[]
  cf := some (fileOf pool1 44 #[] #[{ accessFlags := 1, nameIndex := 5, descriptorIndex := 6, attributes := #[] }, { accessFlags := 10, nameIndex := 47, descriptorIndex := 48, attributes := #[] }, { accessFlags := 9, nameIndex := 56, descriptorIndex := 57, attributes := #[] }] 49 2 #[] #[])
  fields := #[]
  methods := #[k1m0, k1m1, k1m2]
  instanceTypes := #[]
  staticTypes := #[]
  resolved := Array.replicate 62 none
  statics := none }

def pool2 : Array CpInfo := pool [(1, .class_ 2), (0, u "java/lang/constant/Constable"), (0, .class_ 4), (0, u "java/lang/Object")] 6

/-- java/lang/constant/Constable -/
def k2 : Class := { plain "java/lang/constant/Constable" (some 0) with
  accessFlags := 1537
  interfaces := #[]
  cf := some (fileOf pool2 1 #[] #[] 1537 3 #[] #[])
  fields := #[]
  methods := #[]
  instanceTypes := #[]
  staticTypes := #[]
  resolved := Array.replicate 11 none
  statics := none }

def pool3 : Array CpInfo := pool [(1, .class_ 2), (0, u "java/lang/Comparable"), (0, .class_ 4), (0, u "java/lang/Object")] 7

/-- java/lang/Comparable -/
def k3 : Class := { plain "java/lang/Comparable" (some 0) with
  accessFlags := 1537
  interfaces := #[]
  cf := some (fileOf pool3 1 #[] #[] 1537 3 #[] #[])
  fields := #[]
  methods := #[]
  instanceTypes := #[]
  staticTypes := #[]
  resolved := Array.replicate 12 none
  statics := none }

def pool4 : Array CpInfo := pool [(1, .class_ 2), (0, u "java/io/Serializable"), (0, .class_ 4), (0, u "java/lang/Object")] 2

/-- java/io/Serializable -/
def k4 : Class := { plain "java/io/Serializable" (some 0) with
  accessFlags := 1537
  interfaces := #[]
  cf := some (fileOf pool4 1 #[] #[] 1537 3 #[] #[])
  fields := #[]
  methods := #[]
  instanceTypes := #[]
  staticTypes := #[]
  resolved := Array.replicate 7 none
  statics := none }

def pool5 : Array CpInfo := pool [(2, .class_ 4), (1, u "java/lang/Enum"), (0, u "name"), (0, u "Ljava/lang/String;"), (0, .fieldref 2 8), (0, .nameAndType 9 10), (0, u "ordinal"), (0, u "I"), (1, .class_ 14), (1, u "java/lang/Object"), (4, u "hash"), (86, .class_ 108), (1, u "java/lang/Enum$EnumDesc"), (2, .class_ 112), (0, u "java/lang/constant/Constable"), (0, .class_ 114), (0, u "java/lang/Comparable"), (0, .class_ 116), (0, u "java/io/Serializable"), (9, u "()I")] 77

def k5c0 : Code := { maxStack := 1, maxLocals := 1, code := jdk_37_method_2_code, exceptionTable := #[], attributes := #[] }
def k5m0 : Method := { name := "ordinal", desc := "()I", sig := { parameters := [], returnType := some .int }, accessFlags := 17, code := some k5c0 }
/-- java/lang/Enum -/
def k5 : Class := { plain "java/lang/Enum" (some 0) with
  accessFlags := 1057
  interfaces := #[2, 3, 4]
  cf := some (fileOf pool5 2 #[.nestMembers #[106]] #[{ accessFlags := 17, nameIndex := 9, descriptorIndex := 126, attributes := #[] }] 1057 12 #[111, 113, 115] #[{ accessFlags := 18, nameIndex := 5, descriptorIndex := 6, attributes := #[] }, { accessFlags := 18, nameIndex := 9, descriptorIndex := 10, attributes := #[] }, { accessFlags := 2, nameIndex := 19, descriptorIndex := 10, attributes := #[] }])
  fields := #[{ name := "name", type := (.object "java/lang/String"), accessFlags := 18, slot := 0, constantValue := 0 }, { name := "ordinal", type := .int, accessFlags := 18, slot := 1, constantValue := 0 }, { name := "hash", type := .int, accessFlags := 2, slot := 2, constantValue := 0 }]
  methods := #[k5m0]
  instanceTypes := #[(.object "java/lang/String"), .int, .int]
  staticTypes := #[]
  resolved := Array.replicate 204 none
  statics := none }

def pool6 : Array CpInfo := pool [(1, .class_ 2), (0, u "com/example/dirwarden/dirwarden/aci/Comparison"), (2, u "NOT_EQUAL"), (0, u "Lcom/example/dirwarden/dirwarden/aci/Comparison;"), (2, u "AT_MOST"), (2, u "AT_LEAST"), (2, u "EQUAL"), (2, u "LESS"), (2, u "GREATER"), (2, u "$VALUES"), (0, u "[Lcom/example/dirwarden/dirwarden/aci/Comparison;"), (6, .class_ 34), (1, u "java/lang/Enum"), (6, .fieldref 1 42), (0, .nameAndType 43 44), (0, u "operator"), (0, u "Ljava/lang/String;"), (0, .methodref 1 46), (0, .nameAndType 47 48), (0, u "ordinal"), (0, u "()I"), (37, u "()Ljava/lang/String;"), (3, u "holds"), (0, u "(I)Z")] 5

def k6c0 : Code := { maxStack := 1, maxLocals := 1, code := prog_2_method_4_code, exceptionTable := #[], attributes := #[] }
def k6m0 : Method := { name := "operator", desc := "()Ljava/lang/String;", sig := { parameters := [], returnType := some (.object "java/lang/String") }, accessFlags := 0, code := some k6c0 }
def k6c1 : Code := { maxStack := 4, maxLocals := 2, code := prog_2_method_6_code, exceptionTable := #[], attributes := #[] }
def k6m1 : Method := { name := "holds", desc := "(I)Z", sig := { parameters := [.int], returnType := some .boolean }, accessFlags := 0, code := some k6c1 }
/-- com/example/dirwarden/dirwarden/aci/Comparison -/
def k6 : Class := { plain "com/example/dirwarden/dirwarden/aci/Comparison" (some 5) with
  accessFlags := 16432
  interfaces := #[]
  cf := some (fileOf pool6 1 #[] #[{ accessFlags := 0, nameIndex := 43, descriptorIndex := 86, attributes := #[] }, { accessFlags := 0, nameIndex := 90, descriptorIndex := 91, attributes := #[] }] 16432 32 #[] #[{ accessFlags := 16409, nameIndex := 5, descriptorIndex := 6, attributes := #[] }, { accessFlags := 16409, nameIndex := 9, descriptorIndex := 6, attributes := #[] }, { accessFlags := 16409, nameIndex := 12, descriptorIndex := 6, attributes := #[] }, { accessFlags := 16409, nameIndex := 15, descriptorIndex := 6, attributes := #[] }, { accessFlags := 16409, nameIndex := 18, descriptorIndex := 6, attributes := #[] }, { accessFlags := 16409, nameIndex := 21, descriptorIndex := 6, attributes := #[] }, { accessFlags := 18, nameIndex := 43, descriptorIndex := 44, attributes := #[] }, { accessFlags := 4122, nameIndex := 24, descriptorIndex := 25, attributes := #[] }])
  fields := #[{ name := "NOT_EQUAL", type := (.object "com/example/dirwarden/dirwarden/aci/Comparison"), accessFlags := 16409, slot := 0, constantValue := 0 }, { name := "AT_MOST", type := (.object "com/example/dirwarden/dirwarden/aci/Comparison"), accessFlags := 16409, slot := 1, constantValue := 0 }, { name := "AT_LEAST", type := (.object "com/example/dirwarden/dirwarden/aci/Comparison"), accessFlags := 16409, slot := 2, constantValue := 0 }, { name := "EQUAL", type := (.object "com/example/dirwarden/dirwarden/aci/Comparison"), accessFlags := 16409, slot := 3, constantValue := 0 }, { name := "LESS", type := (.object "com/example/dirwarden/dirwarden/aci/Comparison"), accessFlags := 16409, slot := 4, constantValue := 0 }, { name := "GREATER", type := (.object "com/example/dirwarden/dirwarden/aci/Comparison"), accessFlags := 16409, slot := 5, constantValue := 0 }, { name := "operator", type := (.object "java/lang/String"), accessFlags := 18, slot := 3, constantValue := 0 }, { name := "$VALUES", type := (.array (.object "com/example/dirwarden/dirwarden/aci/Comparison")), accessFlags := 4122, slot := 6, constantValue := 0 }]
  methods := #[k6m0, k6m1]
  instanceTypes := #[(.object "java/lang/String"), .int, .int, (.object "java/lang/String")]
  staticTypes := #[(.object "com/example/dirwarden/dirwarden/aci/Comparison"), (.object "com/example/dirwarden/dirwarden/aci/Comparison"), (.object "com/example/dirwarden/dirwarden/aci/Comparison"), (.object "com/example/dirwarden/dirwarden/aci/Comparison"), (.object "com/example/dirwarden/dirwarden/aci/Comparison"), (.object "com/example/dirwarden/dirwarden/aci/Comparison"), (.array (.object "com/example/dirwarden/dirwarden/aci/Comparison"))]
  resolved := Array.replicate 97 none
  statics := some 0 }

def pool7 : Array CpInfo := pool [(2, .class_ 4), (1, u "java/lang/CharSequence"), (42, .class_ 48), (0, u "java/lang/CharSequence$1CodePointIterator"), (10, .class_ 60), (0, u "java/lang/CharSequence$1CharIterator"), (5, .class_ 67), (0, u "java/lang/Object")] 63

/-- java/lang/CharSequence -/
def k7 : Class := { plain "java/lang/CharSequence" (some 0) with
  accessFlags := 1537
  interfaces := #[]
  cf := some (fileOf pool7 2 #[.nestMembers #[47, 59]] #[] 1537 66 #[] #[])
  fields := #[]
  methods := #[]
  instanceTypes := #[]
  staticTypes := #[]
  resolved := Array.replicate 131 none
  statics := none }

def pool8 : Array CpInfo := pool [(1, .class_ 2), (0, u "java/lang/constant/ConstantDesc"), (0, .class_ 4), (0, u "java/lang/Object")] 32

/-- java/lang/constant/ConstantDesc -/
def k8 : Class := { plain "java/lang/constant/ConstantDesc" (some 0) with
  accessFlags := 1537
  interfaces := #[]
  cf := some (fileOf pool8 1 #[] #[] 1537 3 #[] #[])
  fields := #[]
  methods := #[]
  instanceTypes := #[]
  staticTypes := #[]
  resolved := Array.replicate 37 none
  statics := none }

def pool9 : Array CpInfo := pool [(2, .class_ 4), (1, u "java/lang/Object"), (0, u "<init>"), (0, u "()V"), (2, .fieldref 10 11), (0, .class_ 12), (0, .nameAndType 13 14), (0, u "java/lang/String"), (0, u "value"), (0, u "[B"), (0, .fieldref 10 16), (0, .nameAndType 17 18), (0, u "coder"), (0, u "B"), (2, u "hash"), (0, u "I"), (2, u "hashIsZero"), (0, u "Z"), (11, .fieldref 10 39), (0, .nameAndType 40 26), (0, u "COMPACT_STRINGS"), (66, .class_ 109), (1, u "java/lang/StringLatin1"), (32, u "()Z"), (191, u "()I"), (0, .methodref 10 336), (0, .nameAndType 17 337), (0, u "()B"), (25, u "([BI)C"), (27, u "(II)V"), (35, u "(I)C"), (64, .methodref 10 493), (0, .nameAndType 494 142), (0, u "isLatin1"), (0, .methodref 107 496), (0, .nameAndType 497 363), (0, u "charAt"), (3, u "checkIndex"), (5, u "length"), (67, .class_ 576), (0, u "java/lang/CharSequence"), (22, u "CASE_INSENSITIVE_ORDER"), (0, u "Ljava/util/Comparator;"), (452, .fieldref 1054 1055), (0, .class_ 1056), (0, .nameAndType 1057 1058), (0, u "jdk/internal/util/Preconditions"), (0, u "SIOOBE_FORMATTER"), (0, u "Ljava/util/function/BiFunction;"), (0, .methodref 1054 1060), (0, .nameAndType 501 1061), (0, u "(IILjava/util/function/BiFunction;)I"), (39, u "serialPersistentFields"), (0, u "[Ljava/io/ObjectStreamField;"), (0, .class_ 1104), (0, u "java/lang/String$CaseInsensitiveComparator"), (1, .class_ 1107), (0, u "java/io/Serializable"), (0, .class_ 1109), (0, u "java/lang/Comparable"), (0, .class_ 1111), (0, u "java/lang/constant/Constable"), (0, .class_ 1113), (0, u "java/lang/constant/ConstantDesc"), (2, u "serialVersionUID"), (0, u "J"), (3, u "REPL"), (0, u "C"), (2, u "LATIN1"), (1, u "UTF16")] 323

def k9m0 : Method := { name := "<init>", desc := "()V", sig := { parameters := [], returnType := none }, accessFlags := 1, code := none }
def k9c1 : Code := { maxStack := 2, maxLocals := 1, code := jdk_42_method_54_code, exceptionTable := #[], attributes := #[] }
def k9m1 : Method := { name := "length", desc := "()I", sig := { parameters := [], returnType := some .int }, accessFlags := 1, code := some k9c1 }
def k9c2 : Code := { maxStack := 2, maxLocals := 2, code := jdk_42_method_56_code, exceptionTable := #[], attributes := #[] }
def k9m2 : Method := { name := "charAt", desc := "(I)C", sig := { parameters := [.int], returnType := some .char }, accessFlags := 1, code := some k9c2 }
def k9c3 : Code := { maxStack := 1, maxLocals := 1, code := jdk_42_method_152_code, exceptionTable := #[], attributes := #[] }
def k9m3 : Method := { name := "coder", desc := "()B", sig := { parameters := [], returnType := some .byte }, accessFlags := 0, code := some k9c3 }
def k9c4 : Code := { maxStack := 1, maxLocals := 1, code := jdk_42_method_154_code, exceptionTable := #[], attributes := #[] }
def k9m4 : Method := { name := "isLatin1", desc := "()Z", sig := { parameters := [], returnType := some .boolean }, accessFlags := 0, code := some k9c4 }
def k9c5 : Code := { maxStack := 3, maxLocals := 2, code := jdk_42_method_155_code, exceptionTable := #[], attributes := #[] }
def k9m5 : Method := { name := "checkIndex", desc := "(II)V", sig := { parameters := [.int, .int], returnType := none }, accessFlags := 8, code := some k9c5 }
/-- java/lang/String -/
def k9 : Class := { plain "java/lang/String" (some 0) with
  accessFlags := 49
  interfaces := #[4, 3, 7, 2, 8]
  cf := some (fileOf pool9 10 #[.nestMembers #[1103]] #[{ accessFlags := 1, nameIndex := 5, descriptorIndex := 6, attributes := #[] }, { accessFlags := 1, nameIndex := 507, descriptorIndex := 334, attributes := #[] }, { accessFlags := 1, nameIndex := 497, descriptorIndex := 427, attributes := #[] }, { accessFlags := 0, nameIndex := 17, descriptorIndex := 337, attributes := #[] }, { accessFlags := 0, nameIndex := 494, descriptorIndex := 142, attributes := #[] }, { accessFlags := 8, nameIndex := 501, descriptorIndex := 391, attributes := #[] }] 49 2 #[1106, 1108, 575, 1110, 1112] #[{ accessFlags := 18, nameIndex := 13, descriptorIndex := 14, attributes := #[] }, { accessFlags := 18, nameIndex := 17, descriptorIndex := 18, attributes := #[] }, { accessFlags := 2, nameIndex := 21, descriptorIndex := 22, attributes := #[] }, { accessFlags := 2, nameIndex := 25, descriptorIndex := 26, attributes := #[] }, { accessFlags := 26, nameIndex := 1116, descriptorIndex := 1117, attributes := #[] }, { accessFlags := 24, nameIndex := 40, descriptorIndex := 26, attributes := #[] }, { accessFlags := 26, nameIndex := 1101, descriptorIndex := 1102, attributes := #[] }, { accessFlags := 26, nameIndex := 1121, descriptorIndex := 1122, attributes := #[] }, { accessFlags := 25, nameIndex := 599, descriptorIndex := 600, attributes := #[] }, { accessFlags := 24, nameIndex := 1125, descriptorIndex := 18, attributes := #[] }, { accessFlags := 24, nameIndex := 1127, descriptorIndex := 18, attributes := #[] }])
  fields := #[{ name := "value", type := (.array .byte), accessFlags := 18, slot := 0, constantValue := 0 }, { name := "coder", type := .byte, accessFlags := 18, slot := 1, constantValue := 0 }, { name := "hash", type := .int, accessFlags := 2, slot := 2, constantValue := 0 }, { name := "hashIsZero", type := .boolean, accessFlags := 2, slot := 3, constantValue := 0 }, { name := "serialVersionUID", type := .long, accessFlags := 26, slot := 0, constantValue := 0 }, { name := "COMPACT_STRINGS", type := .boolean, accessFlags := 24, slot := 1, constantValue := 0 }, { name := "serialPersistentFields", type := (.array (.object "java/io/ObjectStreamField")), accessFlags := 26, slot := 2, constantValue := 0 }, { name := "REPL", type := .char, accessFlags := 26, slot := 3, constantValue := 0 }, { name := "CASE_INSENSITIVE_ORDER", type := (.object "java/util/Comparator"), accessFlags := 25, slot := 4, constantValue := 0 }, { name := "LATIN1", type := .byte, accessFlags := 24, slot := 5, constantValue := 0 }, { name := "UTF16", type := .byte, accessFlags := 24, slot := 6, constantValue := 0 }]
  methods := #[k9m0, k9m1, k9m2, k9m3, k9m4, k9m5]
  instanceTypes := #[(.array .byte), .byte, .int, .boolean]
  staticTypes := #[.long, .boolean, (.array (.object "java/io/ObjectStreamField")), .char, (.object "java/util/Comparator"), .byte, .byte]
  resolved := Array.replicate 1451 none
  statics := some 1 }

def pool10 : Array CpInfo := pool [(1, .class_ 2), (0, u "java/lang/String"), (1, .class_ 6), (1, u "java/lang/Object"), (0, u "<init>"), (0, u "()V"), (0, .methodref 1 10), (0, .nameAndType 11 12), (0, u "checkIndex"), (0, u "(II)V"), (1, .class_ 16), (1, u "java/lang/StringLatin1"), (36, u "([BI)C"), (67, u "$assertionsDisabled"), (0, u "Z"), (98, .class_ 223), (1, u "java/lang/StringLatin1$LinesSpliterator"), (28, u "charAt"), (137, .class_ 391), (0, u "java/lang/StringLatin1$CharsSpliterator")] 3

def k10m0 : Method := { name := "<init>", desc := "()V", sig := { parameters := [], returnType := none }, accessFlags := 0, code := none }
def k10c1 : Code := { maxStack := 2, maxLocals := 2, code := jdk_43_method_2_code, exceptionTable := #[], attributes := #[] }
def k10m1 : Method := { name := "charAt", desc := "([BI)C", sig := { parameters := [(.array .byte), .int], returnType := some .char }, accessFlags := 9, code := some k10c1 }
/-- java/lang/StringLatin1 -/
def k10 : Class := { plain "java/lang/StringLatin1" (some 0) with
  accessFlags := 48
  interfaces := #[]
  cf := some (fileOf pool10 14 #[.nestMembers #[390, 221]] #[{ accessFlags := 0, nameIndex := 7, descriptorIndex := 8, attributes := #[] }, { accessFlags := 9, nameIndex := 252, descriptorIndex := 53, attributes := #[] }] 48 4 #[] #[{ accessFlags := 4120, nameIndex := 121, descriptorIndex := 122, attributes := #[] }])
  fields := #[{ name := "$assertionsDisabled", type := .boolean, accessFlags := 4120, slot := 0, constantValue := 0 }]
  methods := #[k10m0, k10m1]
  instanceTypes := #[]
  staticTypes := #[.boolean]
  resolved := Array.replicate 395 none
  statics := none }

def pool11 : Array CpInfo := pool [(2, .class_ 4), (1, u "java/lang/Object"), (0, u "<init>"), (0, u "()V"), (17, .class_ 26), (1, u "jdk/internal/util/Preconditions"), (6, u "checkIndex"), (21, .class_ 56), (0, u "jdk/internal/util/Preconditions$4"), (57, .class_ 115), (0, u "jdk/internal/util/Preconditions$1"), (7, u "SIOOBE_FORMATTER"), (0, u "Ljava/util/function/BiFunction;"), (0, .class_ 126), (0, u "jdk/internal/util/Preconditions$2"), (3, u "AIOOBE_FORMATTER"), (0, .class_ 132), (0, u "jdk/internal/util/Preconditions$3"), (3, u "IOOBE_FORMATTER"), (41, u "(IILjava/util/function/BiFunction;)I")] 15

def k11m0 : Method := { name := "<init>", desc := "()V", sig := { parameters := [], returnType := none }, accessFlags := 1, code := none }
def k11c1 : Code := { maxStack := 3, maxLocals := 3, code := jdk_41_method_11_code, exceptionTable := #[], attributes := #[] }
def k11m1 : Method := { name := "checkIndex", desc := "(IILjava/util/function/BiFunction;)I", sig := { parameters := [.int, .int, (.object "java/util/function/BiFunction")], returnType := some .int }, accessFlags := 9, code := some k11c1 }
/-- jdk/internal/util/Preconditions -/
def k11 : Class := { plain "jdk/internal/util/Preconditions" (some 0) with
  accessFlags := 33
  interfaces := #[]
  cf := some (fileOf pool11 24 #[.nestMembers #[55, 131, 125, 114]] #[{ accessFlags := 1, nameIndex := 5, descriptorIndex := 6, attributes := #[] }, { accessFlags := 9, nameIndex := 33, descriptorIndex := 178, attributes := #[] }] 33 2 #[] #[{ accessFlags := 25, nameIndex := 123, descriptorIndex := 124, attributes := #[] }, { accessFlags := 25, nameIndex := 130, descriptorIndex := 124, attributes := #[] }, { accessFlags := 25, nameIndex := 136, descriptorIndex := 124, attributes := #[] }])
  fields := #[{ name := "SIOOBE_FORMATTER", type := (.object "java/util/function/BiFunction"), accessFlags := 25, slot := 0, constantValue := 0 }, { name := "AIOOBE_FORMATTER", type := (.object "java/util/function/BiFunction"), accessFlags := 25, slot := 1, constantValue := 0 }, { name := "IOOBE_FORMATTER", type := (.object "java/util/function/BiFunction"), accessFlags := 25, slot := 2, constantValue := 0 }]
  methods := #[k11m0, k11m1]
  instanceTypes := #[]
  staticTypes := #[(.object "java/util/function/BiFunction"), (.object "java/util/function/BiFunction"), (.object "java/util/function/BiFunction")]
  resolved := Array.replicate 194 none
  statics := some 2 }

def pool12 : Array CpInfo := pool [(9, u "<init>"), (6, .class_ 18), (1, u "java/lang/Object"), (0, u "()V"), (1, .class_ 23), (1, u "jdk/internal/util/ArraysSupport"), (0, u "LOG2_ARRAY_LONG_INDEX_SCALE"), (0, u "I"), (2, u "U"), (0, u "Ljdk/internal/misc/Unsafe;"), (8, u "BIG_ENDIAN"), (0, u "Z"), (8, u "LOG2_BYTE_BIT_SIZE"), (4, u "LOG2_ARRAY_INT_INDEX_SCALE"), (54, u "JLA"), (0, u "Ljdk/internal/access/JavaLangAccess;"), (11, u "LOG2_ARRAY_BOOLEAN_INDEX_SCALE"), (9, u "LOG2_ARRAY_BYTE_INDEX_SCALE"), (5, u "LOG2_ARRAY_CHAR_INDEX_SCALE"), (5, u "LOG2_ARRAY_SHORT_INDEX_SCALE"), (18, u "LOG2_ARRAY_FLOAT_INDEX_SCALE"), (24, u "LOG2_ARRAY_DOUBLE_INDEX_SCALE"), (89, u "T_BOOLEAN"), (2, u "T_CHAR"), (1, u "T_FLOAT"), (1, u "T_DOUBLE"), (1, u "T_BYTE"), (1, u "T_SHORT"), (1, u "T_INT"), (1, u "T_LONG"), (1, u "SOFT_MAX_ARRAY_LENGTH")] 83

def k12m0 : Method := { name := "<init>", desc := "()V", sig := { parameters := [], returnType := none }, accessFlags := 2, code := none }
/-- jdk/internal/util/ArraysSupport -/
def k12 : Class := { plain "jdk/internal/util/ArraysSupport" (some 0) with
  accessFlags := 33
  interfaces := #[]
  cf := some (fileOf pool12 21 #[] #[{ accessFlags := 2, nameIndex := 9, descriptorIndex := 19, attributes := #[] }] 33 16 #[] #[{ accessFlags := 24, nameIndex := 28, descriptorIndex := 29, attributes := #[] }, { accessFlags := 26, nameIndex := 38, descriptorIndex := 39, attributes := #[] }, { accessFlags := 25, nameIndex := 121, descriptorIndex := 25, attributes := #[] }, { accessFlags := 25, nameIndex := 131, descriptorIndex := 25, attributes := #[] }, { accessFlags := 25, nameIndex := 137, descriptorIndex := 25, attributes := #[] }, { accessFlags := 25, nameIndex := 143, descriptorIndex := 25, attributes := #[] }, { accessFlags := 25, nameIndex := 53, descriptorIndex := 25, attributes := #[] }, { accessFlags := 25, nameIndex := 24, descriptorIndex := 25, attributes := #[] }, { accessFlags := 25, nameIndex := 162, descriptorIndex := 25, attributes := #[] }, { accessFlags := 25, nameIndex := 187, descriptorIndex := 25, attributes := #[] }, { accessFlags := 26, nameIndex := 48, descriptorIndex := 25, attributes := #[] }, { accessFlags := 25, nameIndex := 277, descriptorIndex := 25, attributes := #[] }, { accessFlags := 25, nameIndex := 280, descriptorIndex := 25, attributes := #[] }, { accessFlags := 25, nameIndex := 282, descriptorIndex := 25, attributes := #[] }, { accessFlags := 25, nameIndex := 284, descriptorIndex := 25, attributes := #[] }, { accessFlags := 25, nameIndex := 286, descriptorIndex := 25, attributes := #[] }, { accessFlags := 25, nameIndex := 288, descriptorIndex := 25, attributes := #[] }, { accessFlags := 25, nameIndex := 290, descriptorIndex := 25, attributes := #[] }, { accessFlags := 25, nameIndex := 292, descriptorIndex := 25, attributes := #[] }, { accessFlags := 26, nameIndex := 108, descriptorIndex := 109, attributes := #[] }, { accessFlags := 25, nameIndex := 294, descriptorIndex := 25, attributes := #[] }])
  fields := #[{ name := "U", type := (.object "jdk/internal/misc/Unsafe"), accessFlags := 24, slot := 0, constantValue := 0 }, { name := "BIG_ENDIAN", type := .boolean, accessFlags := 26, slot := 1, constantValue := 0 }, { name := "LOG2_ARRAY_BOOLEAN_INDEX_SCALE", type := .int, accessFlags := 25, slot := 2, constantValue := 0 }, { name := "LOG2_ARRAY_BYTE_INDEX_SCALE", type := .int, accessFlags := 25, slot := 3, constantValue := 0 }, { name := "LOG2_ARRAY_CHAR_INDEX_SCALE", type := .int, accessFlags := 25, slot := 4, constantValue := 0 }, { name := "LOG2_ARRAY_SHORT_INDEX_SCALE", type := .int, accessFlags := 25, slot := 5, constantValue := 0 }, { name := "LOG2_ARRAY_INT_INDEX_SCALE", type := .int, accessFlags := 25, slot := 6, constantValue := 0 }, { name := "LOG2_ARRAY_LONG_INDEX_SCALE", type := .int, accessFlags := 25, slot := 7, constantValue := 0 }, { name := "LOG2_ARRAY_FLOAT_INDEX_SCALE", type := .int, accessFlags := 25, slot := 8, constantValue := 0 }, { name := "LOG2_ARRAY_DOUBLE_INDEX_SCALE", type := .int, accessFlags := 25, slot := 9, constantValue := 0 }, { name := "LOG2_BYTE_BIT_SIZE", type := .int, accessFlags := 26, slot := 10, constantValue := 0 }, { name := "T_BOOLEAN", type := .int, accessFlags := 25, slot := 11, constantValue := 0 }, { name := "T_CHAR", type := .int, accessFlags := 25, slot := 12, constantValue := 0 }, { name := "T_FLOAT", type := .int, accessFlags := 25, slot := 13, constantValue := 0 }, { name := "T_DOUBLE", type := .int, accessFlags := 25, slot := 14, constantValue := 0 }, { name := "T_BYTE", type := .int, accessFlags := 25, slot := 15, constantValue := 0 }, { name := "T_SHORT", type := .int, accessFlags := 25, slot := 16, constantValue := 0 }, { name := "T_INT", type := .int, accessFlags := 25, slot := 17, constantValue := 0 }, { name := "T_LONG", type := .int, accessFlags := 25, slot := 18, constantValue := 0 }, { name := "JLA", type := (.object "jdk/internal/access/JavaLangAccess"), accessFlags := 26, slot := 19, constantValue := 0 }, { name := "SOFT_MAX_ARRAY_LENGTH", type := .int, accessFlags := 25, slot := 20, constantValue := 0 }]
  methods := #[k12m0]
  instanceTypes := #[]
  staticTypes := #[(.object "jdk/internal/misc/Unsafe"), .boolean, .int, .int, .int, .int, .int, .int, .int, .int, .int, .int, .int, .int, .int, .int, .int, .int, .int, (.object "jdk/internal/access/JavaLangAccess"), .int]
  resolved := Array.replicate 378 none
  statics := none }

def pool13 : Array CpInfo := pool [(1, u "java/lang/Cloneable"), (0, .class_ 1), (0, u "java/lang/Object"), (0, .class_ 3)] 3

/-- java/lang/Cloneable -/
def k13 : Class := { plain "java/lang/Cloneable" (some 0) with
  accessFlags := 1537
  interfaces := #[]
  cf := some (fileOf pool13 2 #[] #[] 1537 4 #[] #[])
  fields := #[]
  methods := #[]
  instanceTypes := #[]
  staticTypes := #[]
  resolved := Array.replicate 8 none
  statics := none }

/-- the primitive byte -/
def k14 : Class := { plain "byte" none with kind := .primitive 'B', accessFlags := 0x411 }
/-- [B -/
def k15 : Class := { plain "[B" (some 0) with kind := .array 14 .byte, interfaces := #[13, 4], accessFlags := 1041 }

/-- the primitive int -/
def k16 : Class := { plain "int" none with kind := .primitive 'I', accessFlags := 0x411 }
/-- [I -/
def k17 : Class := { plain "[I" (some 0) with kind := .array 16 .int, interfaces := #[13, 4], accessFlags := 1041 }

/-- [Lcom/example/dirwarden/dirwarden/aci/Comparison; -/
def k18 : Class := { plain "[Lcom/example/dirwarden/dirwarden/aci/Comparison;" (some 0) with kind := .array 6 (.object "com/example/dirwarden/dirwarden/aci/Comparison"), interfaces := #[13, 4], accessFlags := 1041 }

def heap : Heap := #[{ cls := 6, slots := #[.ref 15, .ref 16, .ref 17, .ref 18, .ref 19, .ref 20, .null], vm := .statics 6 },
  { cls := 9, slots := #[.long 0, .int 1, .null, .int 0, .null, .int 0, .int 0], vm := .statics 9 },
  { cls := 11, slots := #[.null, .null, .null], vm := .statics 11 },
  { cls := 15, slots := #[.int 33, .int 61], vm := .none },
  { cls := 15, slots := #[.int 60, .int 61], vm := .none },
  { cls := 15, slots := #[.int 62, .int 61], vm := .none },
  { cls := 15, slots := #[.int 61], vm := .none },
  { cls := 15, slots := #[.int 60], vm := .none },
  { cls := 15, slots := #[.int 62], vm := .none },
  { cls := 9, slots := #[.ref 3, .int 0, .int 0, .int 0], vm := .none },
  { cls := 9, slots := #[.ref 4, .int 0, .int 0, .int 0], vm := .none },
  { cls := 9, slots := #[.ref 5, .int 0, .int 0, .int 0], vm := .none },
  { cls := 9, slots := #[.ref 6, .int 0, .int 0, .int 0], vm := .none },
  { cls := 9, slots := #[.ref 7, .int 0, .int 0, .int 0], vm := .none },
  { cls := 9, slots := #[.ref 8, .int 0, .int 0, .int 0], vm := .none },
  { cls := 6, slots := #[.null, .int 0, .int 0, .ref 9], vm := .none },
  { cls := 6, slots := #[.null, .int 1, .int 0, .ref 10], vm := .none },
  { cls := 6, slots := #[.null, .int 2, .int 0, .ref 11], vm := .none },
  { cls := 6, slots := #[.null, .int 3, .int 0, .ref 12], vm := .none },
  { cls := 6, slots := #[.null, .int 4, .int 0, .ref 13], vm := .none },
  { cls := 6, slots := #[.null, .int 5, .int 0, .ref 14], vm := .none }]
def classes : Array Class := #[k0, k1, k2, k3, k4, k5, k6, k7, k8, k9, k10, k11, k12, k13, k14, k15, k16, k17, k18]
def interned : List (Array UInt16 × Addr) := []
def slotsUsed : Nat := 74
def theMethod : MethodId := ⟨1, 2⟩
def args0 : Array Value := #[.int 5, .int 7, .int 0]
def aboutOver (below : List Frame) : State where
  vm := { classes := classes, interned := interned.toArray }
  heap := heap
  slotsUsed := slotsUsed
  threads := #[{ frames := .invoking theMethod args0 :: below }]
def below0 : List Frame := [.native { method := ⟨0, 0⟩, args := #[] }]
def about1 : State := aboutOver below0
def p0 : Program := .bare "" "" ""
def e0 : Env := launch0.env 0 0 0
theorem w_frames : about1.frames = Frame.invoking theMethod args0 :: below0 := rfl
set_option maxRecDepth 65536 in
theorem w_args : argsFit about1.vm theMethod args0 = true := by decide +kernel
set_option maxRecDepth 65536 in
theorem w_heap : heapFits about1 = true := by decide +kernel
set_option maxRecDepth 65536 in
theorem w_runnable : about1.curStatus? = some .runnable := by decide +kernel
set_option maxRecDepth 65536 in
theorem w_alone : about1.alone = true := by decide +kernel
set_option maxRecDepth 65536 in
theorem w_named : about1.methodNamed? x = some theMethod := by decide +kernel
set_option maxRecDepth 65536 in
theorem w_hears : about1.hears theMethod below0 = true := by decide +kernel
set_option maxRecDepth 65536 in
theorem w_ripe : about1.ripe theMethod args0 below0 = true := by decide +kernel
theorem w_running : about1.status = .running := rfl
set_option maxRecDepth 65536 in
theorem w_room : about1.hasRoom e0.platform room_1 = true :=
  launch0.hasRoom_least _ room_1 (by decide +kernel) (by decide +kernel) (by decide +kernel) (by decide +kernel) (by decide +kernel) (by decide +kernel)
theorem allAtoms_all (ts : List Jvm.Cond) (a : Array Jvm.Value) (st : Jvm.State) : (allAtoms ts).before a st = ts.all (fun c => c.before a st) := by
  induction ts with
  | nil => rfl
  | cons c t ih =>
    show (Jvm.Cond.and c (allAtoms t)).before a st = _
    rw [Jvm.Cond.before_and, ih, List.all_cons]
def words1 : List Jvm.Cond := Jvm.Cond.code x code maxLocals ret :: tables_1
/-- a 'code' word, met by the world's own term for the bytes: nothing is compared byte by byte -/
theorem code_word {y : MethodName} {bytes : ByteArray} {mx : Nat} {rt : Option FieldType} {a : Array Value} {s : State} {m : MethodId} {meth : Method} {c : Code} (h1 : s.methodNamed? y = some m) (h2 : s.vm.method? m = some meth) (h3 : meth.code = some c) (h4 : c.code = bytes)
    (h5 : (c.maxLocals == mx && c.exceptionTable.isEmpty && decide (c.maxStack ≤ mostOperands) && decide (meth.sig.returnType = rt) && !meth.locks && decide (parseMethodDescriptor y.desc = some meth.sig)) = true) : (Jvm.Cond.code y bytes mx rt).before a s = true := by
  simp only [Bool.and_eq_true, beq_iff_eq, Bool.not_eq_true', decide_eq_true_eq] at h5
  obtain ⟨⟨⟨⟨⟨g1, g2⟩, g3⟩, g4⟩, g5⟩, g6⟩ := h5
  simp [Cond.before, Cond.holds, Cond.value, h1, h2, h3, h4, g1, g2, g3, g4, g5, g6]
def isCode : Jvm.Cond → Bool
  | .code _ _ _ _ => true
  | _ => false
theorem all_split {L : List Jvm.Cond} {P : Jvm.Cond → Bool} (h1 : L.all (fun c => isCode c || P c) = true) (h2 : ∀ c ∈ L.filter isCode, P c = true) : L.all P = true := by
  refine List.all_eq_true.mpr fun c hc => ?_
  have h := List.all_eq_true.mp h1 c hc
  rcases Bool.eq_false_or_eq_true (isCode c) with hi | hi
  · exact h2 c (List.mem_filter.mpr ⟨hc, hi⟩)
  · simpa [hi] using h
set_option maxRecDepth 65536 in
theorem w_c0 : (Jvm.Cond.code x code maxLocals ret).before args0 about1 = true := code_word (m := ⟨1, 2⟩) (meth := k1m2) (c := k1c2) (by decide +kernel) rfl rfl rfl (by decide +kernel)
set_option maxRecDepth 65536 in
theorem w_c1 : (Jvm.Cond.code ({ cls := "com/example/dirwarden/dirwarden/aci/Comparison", name := "operator", desc := "()Ljava/lang/String;" } : Jvm.MethodName) prog_2_method_4_code (1 : Nat) (Option.some (Jvm.ClassFile.FieldType.object "java/lang/String"))).before args0 about1 = true := code_word (m := ⟨6, 0⟩) (meth := k6m0) (c := k6c0) (by decide +kernel) rfl rfl rfl (by decide +kernel)
set_option maxRecDepth 65536 in
theorem w_c2 : (Jvm.Cond.code ({ cls := "com/example/dirwarden/dirwarden/aci/ComparisonHoldsPinLaw", name := "has", desc := "(Ljava/lang/String;C)Z" } : Jvm.MethodName) method_2_code (4 : Nat) (Option.some Jvm.ClassFile.FieldType.boolean)).before args0 about1 = true := code_word (m := ⟨1, 1⟩) (meth := k1m1) (c := k1c1) (by decide +kernel) rfl rfl rfl (by decide +kernel)
set_option maxRecDepth 65536 in
theorem w_c3 : (Jvm.Cond.code ({ cls := "java/lang/String", name := "length", desc := "()I" } : Jvm.MethodName) jdk_42_method_54_code (1 : Nat) (Option.some Jvm.ClassFile.FieldType.int)).before args0 about1 = true := code_word (m := ⟨9, 1⟩) (meth := k9m1) (c := k9c1) (by decide +kernel) rfl rfl rfl (by decide +kernel)
set_option maxRecDepth 65536 in
theorem w_c4 : (Jvm.Cond.code ({ cls := "java/lang/String", name := "coder", desc := "()B" } : Jvm.MethodName) jdk_42_method_152_code (1 : Nat) (Option.some Jvm.ClassFile.FieldType.byte)).before args0 about1 = true := code_word (m := ⟨9, 3⟩) (meth := k9m3) (c := k9c3) (by decide +kernel) rfl rfl rfl (by decide +kernel)
set_option maxRecDepth 65536 in
theorem w_c5 : (Jvm.Cond.code ({ cls := "java/lang/String", name := "charAt", desc := "(I)C" } : Jvm.MethodName) jdk_42_method_56_code (2 : Nat) (Option.some Jvm.ClassFile.FieldType.char)).before args0 about1 = true := code_word (m := ⟨9, 2⟩) (meth := k9m2) (c := k9c2) (by decide +kernel) rfl rfl rfl (by decide +kernel)
set_option maxRecDepth 65536 in
theorem w_c6 : (Jvm.Cond.code ({ cls := "java/lang/String", name := "isLatin1", desc := "()Z" } : Jvm.MethodName) jdk_42_method_154_code (1 : Nat) (Option.some Jvm.ClassFile.FieldType.boolean)).before args0 about1 = true := code_word (m := ⟨9, 4⟩) (meth := k9m4) (c := k9c4) (by decide +kernel) rfl rfl rfl (by decide +kernel)
set_option maxRecDepth 65536 in
theorem w_c7 : (Jvm.Cond.code ({ cls := "java/lang/StringLatin1", name := "charAt", desc := "([BI)C" } : Jvm.MethodName) jdk_43_method_2_code (2 : Nat) (Option.some Jvm.ClassFile.FieldType.char)).before args0 about1 = true := code_word (m := ⟨10, 1⟩) (meth := k10m1) (c := k10c1) (by decide +kernel) rfl rfl rfl (by decide +kernel)
set_option maxRecDepth 65536 in
theorem w_c8 : (Jvm.Cond.code ({ cls := "java/lang/String", name := "checkIndex", desc := "(II)V" } : Jvm.MethodName) jdk_42_method_155_code (2 : Nat) (Option.none : Option Jvm.ClassFile.FieldType)).before args0 about1 = true := code_word (m := ⟨9, 5⟩) (meth := k9m5) (c := k9c5) (by decide +kernel) rfl rfl rfl (by decide +kernel)
set_option maxRecDepth 65536 in
theorem w_c9 : (Jvm.Cond.code ({ cls := "jdk/internal/util/Preconditions", name := "checkIndex", desc := "(IILjava/util/function/BiFunction;)I" } : Jvm.MethodName) jdk_41_method_11_code (3 : Nat) (Option.some Jvm.ClassFile.FieldType.int)).before args0 about1 = true := code_word (m := ⟨11, 1⟩) (meth := k11m1) (c := k11c1) (by decide +kernel) rfl rfl rfl (by decide +kernel)
set_option maxRecDepth 65536 in
theorem w_c10 : (Jvm.Cond.code ({ cls := "com/example/dirwarden/dirwarden/aci/Comparison", name := "holds", desc := "(I)Z" } : Jvm.MethodName) prog_2_method_6_code (2 : Nat) (Option.some Jvm.ClassFile.FieldType.boolean)).before args0 about1 = true := code_word (m := ⟨6, 1⟩) (meth := k6m1) (c := k6c1) (by decide +kernel) rfl rfl rfl (by decide +kernel)
set_option maxRecDepth 65536 in
theorem w_c11 : (Jvm.Cond.code ({ cls := "java/lang/Enum", name := "ordinal", desc := "()I" } : Jvm.MethodName) jdk_37_method_2_code (1 : Nat) (Option.some Jvm.ClassFile.FieldType.int)).before args0 about1 = true := code_word (m := ⟨5, 0⟩) (meth := k5m0) (c := k5c0) (by decide +kernel) rfl rfl rfl (by decide +kernel)
def codes1 : List Jvm.Cond := [Jvm.Cond.code x code maxLocals ret, Jvm.Cond.code ({ cls := "com/example/dirwarden/dirwarden/aci/Comparison", name := "operator", desc := "()Ljava/lang/String;" } : Jvm.MethodName) prog_2_method_4_code (1 : Nat) (Option.some (Jvm.ClassFile.FieldType.object "java/lang/String")), Jvm.Cond.code ({ cls := "com/example/dirwarden/dirwarden/aci/ComparisonHoldsPinLaw", name := "has", desc := "(Ljava/lang/String;C)Z" } : Jvm.MethodName) method_2_code (4 : Nat) (Option.some Jvm.ClassFile.FieldType.boolean), Jvm.Cond.code ({ cls := "java/lang/String", name := "length", desc := "()I" } : Jvm.MethodName) jdk_42_method_54_code (1 : Nat) (Option.some Jvm.ClassFile.FieldType.int), Jvm.Cond.code ({ cls := "java/lang/String", name := "coder", desc := "()B" } : Jvm.MethodName) jdk_42_method_152_code (1 : Nat) (Option.some Jvm.ClassFile.FieldType.byte), Jvm.Cond.code ({ cls := "java/lang/String", name := "charAt", desc := "(I)C" } : Jvm.MethodName) jdk_42_method_56_code (2 : Nat) (Option.some Jvm.ClassFile.FieldType.char), Jvm.Cond.code ({ cls := "java/lang/String", name := "isLatin1", desc := "()Z" } : Jvm.MethodName) jdk_42_method_154_code (1 : Nat) (Option.some Jvm.ClassFile.FieldType.boolean), Jvm.Cond.code ({ cls := "java/lang/StringLatin1", name := "charAt", desc := "([BI)C" } : Jvm.MethodName) jdk_43_method_2_code (2 : Nat) (Option.some Jvm.ClassFile.FieldType.char), Jvm.Cond.code ({ cls := "java/lang/String", name := "checkIndex", desc := "(II)V" } : Jvm.MethodName) jdk_42_method_155_code (2 : Nat) (Option.none : Option Jvm.ClassFile.FieldType), Jvm.Cond.code ({ cls := "jdk/internal/util/Preconditions", name := "checkIndex", desc := "(IILjava/util/function/BiFunction;)I" } : Jvm.MethodName) jdk_41_method_11_code (3 : Nat) (Option.some Jvm.ClassFile.FieldType.int), Jvm.Cond.code ({ cls := "com/example/dirwarden/dirwarden/aci/Comparison", name := "holds", desc := "(I)Z" } : Jvm.MethodName) prog_2_method_6_code (2 : Nat) (Option.some Jvm.ClassFile.FieldType.boolean), Jvm.Cond.code ({ cls := "java/lang/Enum", name := "ordinal", desc := "()I" } : Jvm.MethodName) jdk_37_method_2_code (1 : Nat) (Option.some Jvm.ClassFile.FieldType.int)]
set_option maxRecDepth 65536 in
theorem codes_eq : words1.filter isCode = codes1 := rfl
theorem w_codes : ∀ c ∈ words1.filter isCode, c.before args0 about1 = true := by
  rw [codes_eq]
  intro c hc
  simp only [codes1, List.mem_cons, List.not_mem_nil, or_false] at hc
  rcases hc with rfl | rfl | rfl | rfl | rfl | rfl | rfl | rfl | rfl | rfl | rfl | rfl
  · exact w_c0
  · exact w_c1
  · exact w_c2
  · exact w_c3
  · exact w_c4
  · exact w_c5
  · exact w_c6
  · exact w_c7
  · exact w_c8
  · exact w_c9
  · exact w_c10
  · exact w_c11
set_option maxRecDepth 65536 in
theorem w_t1 : (words1.take 24).all (fun c => isCode c || c.before args0 about1) = true := by decide +kernel
set_option maxRecDepth 65536 in
theorem w_t2 : ((words1.drop 24).take 24).all (fun c => isCode c || c.before args0 about1) = true := by decide +kernel
set_option maxRecDepth 65536 in
theorem w_t3 : (((words1.drop 24).drop 24).take 24).all (fun c => isCode c || c.before args0 about1) = true := by decide +kernel
set_option maxRecDepth 65536 in
theorem w_t4 : (((words1.drop 24).drop 24).drop 24).all (fun c => isCode c || c.before args0 about1) = true := by decide +kernel
theorem w_tables : (allAtoms (Jvm.Cond.code x code maxLocals ret :: tables_1)).before args0 about1 = true := by
  rw [allAtoms_all]
  show words1.all (fun c => c.before args0 about1) = true
  refine all_split ?_ w_codes
  rw [← List.take_append_drop 24 words1, List.all_append, w_t1, ← List.take_append_drop 24 (words1.drop 24), List.all_append, w_t2, ← List.take_append_drop 24 ((words1.drop 24).drop 24), List.all_append, w_t3, w_t4]
  rfl
set_option maxRecDepth 65536 in
theorem w_rest : rest_1_c.before args0 about1 = true := by decide +kernel
set_option maxRecDepth 65536 in
theorem w_case : (Jvm.Cond.and given_1 narrow_1).before args0 about1 = true := by decide +kernel
theorem w_applies : (headSpec (Jvm.Cond.code x code maxLocals ret :: tables_1) room_1).applies x e0.platform about1 = true :=
  (Spec.applies_iff w_frames).mpr ⟨w_running, w_runnable, w_alone, w_named, w_hears, w_ripe, w_room, w_tables⟩
theorem atStart : AtStart classFile x code maxLocals ret World_1 tables_1 room_1 Calls_1 rest_1 Pre_1 launch0 p0 e0 about1 theMethod args0 below0 :=
  ⟨lists_1, trivial, launch0.admits_env _ _ _, launch0.least_env, fairChoices_fair.cas, fairChoices_fair.clock, w_frames, w_args, w_heap, w_applies, trivial, w_rest, w_case⟩
end start1
theorem witness_1 : WitnessClaimed_1 := ⟨start1.p0, start1.e0, start1.about1, start1.theMethod, start1.args0, start1.below0, start1.atStart⟩
end Jvm.Pilot.@@N@@
