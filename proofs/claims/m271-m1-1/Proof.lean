import JvmDerived
import JvmDerived.Pilot.@@N@@Statement
import JvmDerived.Pilot.@@N@@Code
set_option linter.unusedVariables false
set_option linter.unusedSimpArgs false
namespace Jvm.RoadKit
open Sem ClassFile Op Lib Jvm.Stand Jvm.Free Jvm.LawKit
section New
variable {p : Program} {l : Launch} {e : Env} {R : Room} {s : State} {m : MethodId} {args : Array Value} {below : List Frame} {meth : Method} {c : Code} {T : State} {locs : List Loc} {cells slots : Nat}
theorem retI (X : Stand p l e R s m args below meth c T locs cells slots) (hx : p.tables.exec = Jvm.exec) {pc : Nat} {Ls : Array Slot} {z : Int32} {rest : List Value} (hret : meth.sig.returnType = some .int) (hd : decode c.code pc = .ok (.ireturn, 1)) {fs : List Frame}
    (hl : ∀ (f : JFrame) (acts : List Action), f.method = m → f.locked = none → f.entered = [] → (doReturn e (T.setTop f) acts (some (.int z))).1 = T.setFrames fs) : Steps p.tables e below (T.setTop (mkF m pc Ls (.int z :: rest))) (T.setFrames fs) := by
  have hm' : T.vm.method? m = some meth := X.method'
  have hn : narrow .int (.int z) = .int z := rfl
  show Steps p.tables e below (T.setTop { method := m, pc := pc, locals := Ls, stack := _ :: rest, locked := none }) _
  jvm_step X.here [X.here.top, hx, hd, hm', hret, hn]
  first | (intro acts; rw [hl _ acts rfl rfl rfl]) | rw [hl _ _ rfl rfl rfl]
  exact Steps.refl _
end New
end Jvm.RoadKit
namespace Jvm.Pilot.@@N@@
open Jvm Jvm.ClassFile Sem Op Lib Jvm.Free Jvm.Stand Jvm.LawKit Jvm.RoadKit Bundle Jvm.Pilot.@@N@@.Jvm.D
abbrev own_m0 : MethodName := ⟨"com/example/fascicle/fascicle/io/XmlNames", "isNameStart", "(I)Z"⟩
abbrev own_m1 : MethodName := ⟨"com/example/fascicle/fascicle/io/XmlNamesIsNameStartPinLaw", "ref", "(I)Z"⟩
theorem own_w0 {Z : State} {a0 : Array Value} (hw : ∀ d ∈ tables_1, d.before a0 Z = true) : (Jvm.Cond.arrayClass Jvm.ClassFile.FieldType.int).before a0 Z = true := hw _ (List.mem_of_getElem? (i := 0) rfl)
theorem own_w1 {Z : State} {a0 : Array Value} (hw : ∀ d ∈ tables_1, d.before a0 Z = true) : (Jvm.Cond.constant "com/example/fascicle/fascicle/io/XmlNamesIsNameStartPinLaw" (7 : Nat) (55295 : Int32)).before a0 Z = true := hw _ (List.mem_of_getElem? (i := 1) rfl)
theorem own_w2 {Z : State} {a0 : Array Value} (hw : ∀ d ∈ tables_1, d.before a0 Z = true) : (Jvm.Cond.constant "com/example/fascicle/fascicle/io/XmlNamesIsNameStartPinLaw" (8 : Nat) (57344 : Int32)).before a0 Z = true := hw _ (List.mem_of_getElem? (i := 2) rfl)
theorem own_w3 {Z : State} {a0 : Array Value} (hw : ∀ d ∈ tables_1, d.before a0 Z = true) : (Jvm.Cond.constant "com/example/fascicle/fascicle/io/XmlNamesIsNameStartPinLaw" (9 : Nat) (63744 : Int32)).before a0 Z = true := hw _ (List.mem_of_getElem? (i := 3) rfl)
theorem own_w4 {Z : State} {a0 : Array Value} (hw : ∀ d ∈ tables_1, d.before a0 Z = true) : (Jvm.Cond.constant "com/example/fascicle/fascicle/io/XmlNamesIsNameStartPinLaw" (10 : Nat) (64975 : Int32)).before a0 Z = true := hw _ (List.mem_of_getElem? (i := 4) rfl)
theorem own_w5 {Z : State} {a0 : Array Value} (hw : ∀ d ∈ tables_1, d.before a0 Z = true) : (Jvm.Cond.constant "com/example/fascicle/fascicle/io/XmlNamesIsNameStartPinLaw" (11 : Nat) (65008 : Int32)).before a0 Z = true := hw _ (List.mem_of_getElem? (i := 5) rfl)
theorem own_w6 {Z : State} {a0 : Array Value} (hw : ∀ d ∈ tables_1, d.before a0 Z = true) : (Jvm.Cond.constant "com/example/fascicle/fascicle/io/XmlNamesIsNameStartPinLaw" (12 : Nat) (65533 : Int32)).before a0 Z = true := hw _ (List.mem_of_getElem? (i := 6) rfl)
theorem own_w7 {Z : State} {a0 : Array Value} (hw : ∀ d ∈ tables_1, d.before a0 Z = true) : (Jvm.Cond.constant "com/example/fascicle/fascicle/io/XmlNamesIsNameStartPinLaw" (13 : Nat) (65536 : Int32)).before a0 Z = true := hw _ (List.mem_of_getElem? (i := 7) rfl)
theorem own_w8 {Z : State} {a0 : Array Value} (hw : ∀ d ∈ tables_1, d.before a0 Z = true) : (Jvm.Cond.constant "com/example/fascicle/fascicle/io/XmlNamesIsNameStartPinLaw" (14 : Nat) (983039 : Int32)).before a0 Z = true := hw _ (List.mem_of_getElem? (i := 8) rfl)
theorem own_w9 {Z : State} {a0 : Array Value} (hw : ∀ d ∈ tables_1, d.before a0 Z = true) : (Jvm.Cond.constant "com/example/fascicle/fascicle/io/XmlNamesIsNameStartPinLaw" (15 : Nat) (1114111 : Int32)).before a0 Z = true := hw _ (List.mem_of_getElem? (i := 9) rfl)
theorem own_w10 {Z : State} {a0 : Array Value} (hw : ∀ d ∈ tables_1, d.before a0 Z = true) : (Jvm.Cond.constant "com/example/fascicle/fascicle/io/XmlNamesIsNameStartPinLaw" (18 : Nat) (-2147483648 : Int32)).before a0 Z = true := hw _ (List.mem_of_getElem? (i := 10) rfl)
theorem own_w11 {Z : State} {a0 : Array Value} (hw : ∀ d ∈ tables_1, d.before a0 Z = true) : (Jvm.Cond.constant "com/example/fascicle/fascicle/io/XmlNamesIsNameStartPinLaw" (19 : Nat) (2147483647 : Int32)).before a0 Z = true := hw _ (List.mem_of_getElem? (i := 11) rfl)
theorem own_w12 {Z : State} {a0 : Array Value} (hw : ∀ d ∈ tables_1, d.before a0 Z = true) : (Jvm.Cond.methodLink "com/example/fascicle/fascicle/io/XmlNamesIsNameStartPinLaw" (21 : Nat) ({ cls := "com/example/fascicle/fascicle/io/XmlNames", name := "isNameStart", desc := "(I)Z" } : Jvm.MethodName)).before a0 Z = true := hw _ (List.mem_of_getElem? (i := 12) rfl)
theorem own_w13 {Z : State} {a0 : Array Value} (hw : ∀ d ∈ tables_1, d.before a0 Z = true) : (Jvm.Cond.static ({ cls := "com/example/fascicle/fascicle/io/XmlNames", name := "isNameStart", desc := "(I)Z" } : Jvm.MethodName)).before a0 Z = true := hw _ (List.mem_of_getElem? (i := 13) rfl)
theorem own_w14 {Z : State} {a0 : Array Value} (hw : ∀ d ∈ tables_1, d.before a0 Z = true) : (Jvm.Cond.initialized "com/example/fascicle/fascicle/io/XmlNames").before a0 Z = true := hw _ (List.mem_of_getElem? (i := 14) rfl)
theorem own_w15 {Z : State} {a0 : Array Value} (hw : ∀ d ∈ tables_1, d.before a0 Z = true) : (Jvm.Cond.code ({ cls := "com/example/fascicle/fascicle/io/XmlNames", name := "isNameStart", desc := "(I)Z" } : Jvm.MethodName) prog_55_method_5_code (1 : Nat) (Option.some Jvm.ClassFile.FieldType.boolean)).before a0 Z = true := hw _ (List.mem_of_getElem? (i := 15) rfl)
theorem own_w16 {Z : State} {a0 : Array Value} (hw : ∀ d ∈ tables_1, d.before a0 Z = true) : (Jvm.Cond.fieldLink "com/example/fascicle/fascicle/io/XmlNames" (24 : Nat) "com/example/fascicle/fascicle/io/XmlNames" "ASCII_NAME_START" "[Z").before a0 Z = true := hw _ (List.mem_of_getElem? (i := 16) rfl)
theorem own_w18 {Z : State} {a0 : Array Value} (hw : ∀ d ∈ tables_1, d.before a0 Z = true) : (Jvm.Cond.methodLink "com/example/fascicle/fascicle/io/XmlNamesIsNameStartPinLaw" (27 : Nat) ({ cls := "com/example/fascicle/fascicle/io/XmlNamesIsNameStartPinLaw", name := "ref", desc := "(I)Z" } : Jvm.MethodName)).before a0 Z = true := hw _ (List.mem_of_getElem? (i := 18) rfl)
theorem own_w19 {Z : State} {a0 : Array Value} (hw : ∀ d ∈ tables_1, d.before a0 Z = true) : (Jvm.Cond.static ({ cls := "com/example/fascicle/fascicle/io/XmlNamesIsNameStartPinLaw", name := "ref", desc := "(I)Z" } : Jvm.MethodName)).before a0 Z = true := hw _ (List.mem_of_getElem? (i := 19) rfl)
theorem own_w20 {Z : State} {a0 : Array Value} (hw : ∀ d ∈ tables_1, d.before a0 Z = true) : (Jvm.Cond.initialized "com/example/fascicle/fascicle/io/XmlNamesIsNameStartPinLaw").before a0 Z = true := hw _ (List.mem_of_getElem? (i := 20) rfl)
theorem own_w21 {Z : State} {a0 : Array Value} (hw : ∀ d ∈ tables_1, d.before a0 Z = true) : (Jvm.Cond.code ({ cls := "com/example/fascicle/fascicle/io/XmlNamesIsNameStartPinLaw", name := "ref", desc := "(I)Z" } : Jvm.MethodName) method_3_code (1 : Nat) (Option.some Jvm.ClassFile.FieldType.boolean)).before a0 Z = true := hw _ (List.mem_of_getElem? (i := 21) rfl)
theorem own_w22 {Z : State} {a0 : Array Value} (hw : ∀ d ∈ tables_1, d.before a0 Z = true) : (Jvm.Cond.constant "com/example/fascicle/fascicle/io/XmlNamesIsNameStartPinLaw" (20 : Nat) (65535 : Int32)).before a0 Z = true := hw _ (List.mem_of_getElem? (i := 22) rfl)
theorem own_w23 {Z : State} {a0 : Array Value} (hw : ∀ d ∈ tables_1, d.before a0 Z = true) : (Jvm.Cond.constant "com/example/fascicle/fascicle/io/XmlNames" (19 : Nat) (55295 : Int32)).before a0 Z = true := hw _ (List.mem_of_getElem? (i := 23) rfl)
theorem own_w24 {Z : State} {a0 : Array Value} (hw : ∀ d ∈ tables_1, d.before a0 Z = true) : (Jvm.Cond.constant "com/example/fascicle/fascicle/io/XmlNames" (30 : Nat) (63744 : Int32)).before a0 Z = true := hw _ (List.mem_of_getElem? (i := 24) rfl)
theorem own_w25 {Z : State} {a0 : Array Value} (hw : ∀ d ∈ tables_1, d.before a0 Z = true) : (Jvm.Cond.constant "com/example/fascicle/fascicle/io/XmlNames" (31 : Nat) (64975 : Int32)).before a0 Z = true := hw _ (List.mem_of_getElem? (i := 25) rfl)
theorem own_w26 {Z : State} {a0 : Array Value} (hw : ∀ d ∈ tables_1, d.before a0 Z = true) : (Jvm.Cond.constant "com/example/fascicle/fascicle/io/XmlNames" (32 : Nat) (65008 : Int32)).before a0 Z = true := hw _ (List.mem_of_getElem? (i := 26) rfl)
theorem own_w27 {Z : State} {a0 : Array Value} (hw : ∀ d ∈ tables_1, d.before a0 Z = true) : (Jvm.Cond.constant "com/example/fascicle/fascicle/io/XmlNames" (21 : Nat) (65533 : Int32)).before a0 Z = true := hw _ (List.mem_of_getElem? (i := 27) rfl)
theorem own_w28 {Z : State} {a0 : Array Value} (hw : ∀ d ∈ tables_1, d.before a0 Z = true) : (Jvm.Cond.constant "com/example/fascicle/fascicle/io/XmlNames" (22 : Nat) (65536 : Int32)).before a0 Z = true := hw _ (List.mem_of_getElem? (i := 28) rfl)
theorem own_w29 {Z : State} {a0 : Array Value} (hw : ∀ d ∈ tables_1, d.before a0 Z = true) : (Jvm.Cond.constant "com/example/fascicle/fascicle/io/XmlNames" (33 : Nat) (983039 : Int32)).before a0 Z = true := hw _ (List.mem_of_getElem? (i := 29) rfl)
theorem own_d1_0 : decode prog_55_method_5_code 0 = .ok (.iload_n 0, 1) := by decide +kernel
theorem own_d1_1 : decode prog_55_method_5_code 1 = .ok (.sipush 128, 3) := by decide +kernel
theorem own_d1_4 : decode prog_55_method_5_code 4 = .ok (.if_icmp .ge 21, 3) := by decide +kernel
theorem own_d1_7 : decode prog_55_method_5_code 7 = .ok (.iload_n 0, 1) := by decide +kernel
theorem own_d1_8 : decode prog_55_method_5_code 8 = .ok (.ifCond .lt 15, 3) := by decide +kernel
theorem own_d1_11 : decode prog_55_method_5_code 11 = .ok (.getstatic 24, 3) := by decide +kernel
theorem own_d1_14 : decode prog_55_method_5_code 14 = .ok (.iload_n 0, 1) := by decide +kernel
theorem own_d1_15 : decode prog_55_method_5_code 15 = .ok (.baload, 1) := by decide +kernel
theorem own_d1_16 : decode prog_55_method_5_code 16 = .ok (.ifCond .eq 7, 3) := by decide +kernel
theorem own_d1_19 : decode prog_55_method_5_code 19 = .ok (.iconst 1, 1) := by decide +kernel
theorem own_d1_20 : decode prog_55_method_5_code 20 = .ok (.goto 4, 3) := by decide +kernel
theorem own_d1_23 : decode prog_55_method_5_code 23 = .ok (.iconst 0, 1) := by decide +kernel
theorem own_d1_24 : decode prog_55_method_5_code 24 = .ok (.ireturn, 1) := by decide +kernel
theorem own_d1_25 : decode prog_55_method_5_code 25 = .ok (.iload_n 0, 1) := by decide +kernel
theorem own_d1_26 : decode prog_55_method_5_code 26 = .ok (.sipush 192, 3) := by decide +kernel
theorem own_d1_29 : decode prog_55_method_5_code 29 = .ok (.if_icmp .lt 10, 3) := by decide +kernel
theorem own_d1_32 : decode prog_55_method_5_code 32 = .ok (.iload_n 0, 1) := by decide +kernel
theorem own_d1_33 : decode prog_55_method_5_code 33 = .ok (.sipush 214, 3) := by decide +kernel
theorem own_d1_36 : decode prog_55_method_5_code 36 = .ok (.if_icmp .le 150, 3) := by decide +kernel
theorem own_d1_39 : decode prog_55_method_5_code 39 = .ok (.iload_n 0, 1) := by decide +kernel
theorem own_d1_40 : decode prog_55_method_5_code 40 = .ok (.sipush 216, 3) := by decide +kernel
theorem own_d1_43 : decode prog_55_method_5_code 43 = .ok (.if_icmp .lt 10, 3) := by decide +kernel
theorem own_d1_46 : decode prog_55_method_5_code 46 = .ok (.iload_n 0, 1) := by decide +kernel
theorem own_d1_47 : decode prog_55_method_5_code 47 = .ok (.sipush 246, 3) := by decide +kernel
theorem own_d1_50 : decode prog_55_method_5_code 50 = .ok (.if_icmp .le 136, 3) := by decide +kernel
theorem own_d1_53 : decode prog_55_method_5_code 53 = .ok (.iload_n 0, 1) := by decide +kernel
theorem own_d1_54 : decode prog_55_method_5_code 54 = .ok (.sipush 248, 3) := by decide +kernel
theorem own_d1_57 : decode prog_55_method_5_code 57 = .ok (.if_icmp .lt 10, 3) := by decide +kernel
theorem own_d1_60 : decode prog_55_method_5_code 60 = .ok (.iload_n 0, 1) := by decide +kernel
theorem own_d1_61 : decode prog_55_method_5_code 61 = .ok (.sipush 767, 3) := by decide +kernel
theorem own_d1_64 : decode prog_55_method_5_code 64 = .ok (.if_icmp .le 122, 3) := by decide +kernel
theorem own_d1_67 : decode prog_55_method_5_code 67 = .ok (.iload_n 0, 1) := by decide +kernel
theorem own_d1_68 : decode prog_55_method_5_code 68 = .ok (.sipush 880, 3) := by decide +kernel
theorem own_d1_71 : decode prog_55_method_5_code 71 = .ok (.if_icmp .lt 10, 3) := by decide +kernel
theorem own_d1_74 : decode prog_55_method_5_code 74 = .ok (.iload_n 0, 1) := by decide +kernel
theorem own_d1_75 : decode prog_55_method_5_code 75 = .ok (.sipush 893, 3) := by decide +kernel
theorem own_d1_78 : decode prog_55_method_5_code 78 = .ok (.if_icmp .le 108, 3) := by decide +kernel
theorem own_d1_81 : decode prog_55_method_5_code 81 = .ok (.iload_n 0, 1) := by decide +kernel
theorem own_d1_82 : decode prog_55_method_5_code 82 = .ok (.sipush 895, 3) := by decide +kernel
theorem own_d1_85 : decode prog_55_method_5_code 85 = .ok (.if_icmp .lt 10, 3) := by decide +kernel
theorem own_d1_88 : decode prog_55_method_5_code 88 = .ok (.iload_n 0, 1) := by decide +kernel
theorem own_d1_89 : decode prog_55_method_5_code 89 = .ok (.sipush 8191, 3) := by decide +kernel
theorem own_d1_92 : decode prog_55_method_5_code 92 = .ok (.if_icmp .le 94, 3) := by decide +kernel
theorem own_d1_95 : decode prog_55_method_5_code 95 = .ok (.iload_n 0, 1) := by decide +kernel
theorem own_d1_96 : decode prog_55_method_5_code 96 = .ok (.sipush 8204, 3) := by decide +kernel
theorem own_d1_99 : decode prog_55_method_5_code 99 = .ok (.if_icmp .lt 10, 3) := by decide +kernel
theorem own_d1_102 : decode prog_55_method_5_code 102 = .ok (.iload_n 0, 1) := by decide +kernel
theorem own_d1_103 : decode prog_55_method_5_code 103 = .ok (.sipush 8205, 3) := by decide +kernel
theorem own_d1_106 : decode prog_55_method_5_code 106 = .ok (.if_icmp .le 80, 3) := by decide +kernel
theorem own_d1_109 : decode prog_55_method_5_code 109 = .ok (.iload_n 0, 1) := by decide +kernel
theorem own_d1_110 : decode prog_55_method_5_code 110 = .ok (.sipush 8304, 3) := by decide +kernel
theorem own_d1_113 : decode prog_55_method_5_code 113 = .ok (.if_icmp .lt 10, 3) := by decide +kernel
theorem own_d1_116 : decode prog_55_method_5_code 116 = .ok (.iload_n 0, 1) := by decide +kernel
theorem own_d1_117 : decode prog_55_method_5_code 117 = .ok (.sipush 8591, 3) := by decide +kernel
theorem own_d1_120 : decode prog_55_method_5_code 120 = .ok (.if_icmp .le 66, 3) := by decide +kernel
theorem own_d1_123 : decode prog_55_method_5_code 123 = .ok (.iload_n 0, 1) := by decide +kernel
theorem own_d1_124 : decode prog_55_method_5_code 124 = .ok (.sipush 11264, 3) := by decide +kernel
theorem own_d1_127 : decode prog_55_method_5_code 127 = .ok (.if_icmp .lt 10, 3) := by decide +kernel
theorem own_d1_130 : decode prog_55_method_5_code 130 = .ok (.iload_n 0, 1) := by decide +kernel
theorem own_d1_131 : decode prog_55_method_5_code 131 = .ok (.sipush 12271, 3) := by decide +kernel
theorem own_d1_134 : decode prog_55_method_5_code 134 = .ok (.if_icmp .le 52, 3) := by decide +kernel
theorem own_d1_137 : decode prog_55_method_5_code 137 = .ok (.iload_n 0, 1) := by decide +kernel
theorem own_d1_138 : decode prog_55_method_5_code 138 = .ok (.sipush 12289, 3) := by decide +kernel
theorem own_d1_141 : decode prog_55_method_5_code 141 = .ok (.if_icmp .lt 9, 3) := by decide +kernel
theorem own_d1_144 : decode prog_55_method_5_code 144 = .ok (.iload_n 0, 1) := by decide +kernel
theorem own_d1_145 : decode prog_55_method_5_code 145 = .ok (.ldc 19, 2) := by decide +kernel
theorem own_d1_147 : decode prog_55_method_5_code 147 = .ok (.if_icmp .le 39, 3) := by decide +kernel
theorem own_d1_150 : decode prog_55_method_5_code 150 = .ok (.iload_n 0, 1) := by decide +kernel
theorem own_d1_151 : decode prog_55_method_5_code 151 = .ok (.ldc 30, 2) := by decide +kernel
theorem own_d1_153 : decode prog_55_method_5_code 153 = .ok (.if_icmp .lt 9, 3) := by decide +kernel
theorem own_d1_156 : decode prog_55_method_5_code 156 = .ok (.iload_n 0, 1) := by decide +kernel
theorem own_d1_157 : decode prog_55_method_5_code 157 = .ok (.ldc 31, 2) := by decide +kernel
theorem own_d1_159 : decode prog_55_method_5_code 159 = .ok (.if_icmp .le 27, 3) := by decide +kernel
theorem own_d1_162 : decode prog_55_method_5_code 162 = .ok (.iload_n 0, 1) := by decide +kernel
theorem own_d1_163 : decode prog_55_method_5_code 163 = .ok (.ldc 32, 2) := by decide +kernel
theorem own_d1_165 : decode prog_55_method_5_code 165 = .ok (.if_icmp .lt 9, 3) := by decide +kernel
theorem own_d1_168 : decode prog_55_method_5_code 168 = .ok (.iload_n 0, 1) := by decide +kernel
theorem own_d1_169 : decode prog_55_method_5_code 169 = .ok (.ldc 21, 2) := by decide +kernel
theorem own_d1_171 : decode prog_55_method_5_code 171 = .ok (.if_icmp .le 15, 3) := by decide +kernel
theorem own_d1_174 : decode prog_55_method_5_code 174 = .ok (.iload_n 0, 1) := by decide +kernel
theorem own_d1_175 : decode prog_55_method_5_code 175 = .ok (.ldc 22, 2) := by decide +kernel
theorem own_d1_177 : decode prog_55_method_5_code 177 = .ok (.if_icmp .lt 13, 3) := by decide +kernel
theorem own_d1_180 : decode prog_55_method_5_code 180 = .ok (.iload_n 0, 1) := by decide +kernel
theorem own_d1_181 : decode prog_55_method_5_code 181 = .ok (.ldc 33, 2) := by decide +kernel
theorem own_d1_183 : decode prog_55_method_5_code 183 = .ok (.if_icmp .gt 7, 3) := by decide +kernel
theorem own_d1_186 : decode prog_55_method_5_code 186 = .ok (.iconst 1, 1) := by decide +kernel
theorem own_d1_187 : decode prog_55_method_5_code 187 = .ok (.goto 4, 3) := by decide +kernel
theorem own_d1_190 : decode prog_55_method_5_code 190 = .ok (.iconst 0, 1) := by decide +kernel
theorem own_d1_191 : decode prog_55_method_5_code 191 = .ok (.ireturn, 1) := by decide +kernel
theorem own_d2_0 : decode method_3_code 0 = .ok (.iload_n 0, 1) := by decide +kernel
theorem own_d2_1 : decode method_3_code 1 = .ok (.ifCond .ge 5, 3) := by decide +kernel
theorem own_d2_4 : decode method_3_code 4 = .ok (.iconst 0, 1) := by decide +kernel
theorem own_d2_5 : decode method_3_code 5 = .ok (.ireturn, 1) := by decide +kernel
theorem own_d2_6 : decode method_3_code 6 = .ok (.iload_n 0, 1) := by decide +kernel
theorem own_d2_7 : decode method_3_code 7 = .ok (.bipush 127, 2) := by decide +kernel
theorem own_d2_9 : decode method_3_code 9 = .ok (.if_icmp .gt 39, 3) := by decide +kernel
theorem own_d2_12 : decode method_3_code 12 = .ok (.iload_n 0, 1) := by decide +kernel
theorem own_d2_13 : decode method_3_code 13 = .ok (.bipush 65, 2) := by decide +kernel
theorem own_d2_15 : decode method_3_code 15 = .ok (.if_icmp .lt 9, 3) := by decide +kernel
theorem own_d2_18 : decode method_3_code 18 = .ok (.iload_n 0, 1) := by decide +kernel
theorem own_d2_19 : decode method_3_code 19 = .ok (.bipush 90, 2) := by decide +kernel
theorem own_d2_21 : decode method_3_code 21 = .ok (.if_icmp .le 21, 3) := by decide +kernel
theorem own_d2_24 : decode method_3_code 24 = .ok (.iload_n 0, 1) := by decide +kernel
theorem own_d2_25 : decode method_3_code 25 = .ok (.bipush 97, 2) := by decide +kernel
theorem own_d2_27 : decode method_3_code 27 = .ok (.if_icmp .lt 9, 3) := by decide +kernel
theorem own_d2_30 : decode method_3_code 30 = .ok (.iload_n 0, 1) := by decide +kernel
theorem own_d2_31 : decode method_3_code 31 = .ok (.bipush 122, 2) := by decide +kernel
theorem own_d2_33 : decode method_3_code 33 = .ok (.if_icmp .le 9, 3) := by decide +kernel
theorem own_d2_36 : decode method_3_code 36 = .ok (.iload_n 0, 1) := by decide +kernel
theorem own_d2_37 : decode method_3_code 37 = .ok (.bipush 95, 2) := by decide +kernel
theorem own_d2_39 : decode method_3_code 39 = .ok (.if_icmp .ne 7, 3) := by decide +kernel
theorem own_d2_42 : decode method_3_code 42 = .ok (.iconst 1, 1) := by decide +kernel
theorem own_d2_43 : decode method_3_code 43 = .ok (.goto 4, 3) := by decide +kernel
theorem own_d2_46 : decode method_3_code 46 = .ok (.iconst 0, 1) := by decide +kernel
theorem own_d2_47 : decode method_3_code 47 = .ok (.ireturn, 1) := by decide +kernel
theorem own_d2_48 : decode method_3_code 48 = .ok (.iload_n 0, 1) := by decide +kernel
theorem own_d2_49 : decode method_3_code 49 = .ok (.ldc 14, 2) := by decide +kernel
theorem own_d2_51 : decode method_3_code 51 = .ok (.if_icmp .le 5, 3) := by decide +kernel
theorem own_d2_54 : decode method_3_code 54 = .ok (.iconst 0, 1) := by decide +kernel
theorem own_d2_55 : decode method_3_code 55 = .ok (.ireturn, 1) := by decide +kernel
theorem own_d2_56 : decode method_3_code 56 = .ok (.iload_n 0, 1) := by decide +kernel
theorem own_d2_57 : decode method_3_code 57 = .ok (.ldc 13, 2) := by decide +kernel
theorem own_d2_59 : decode method_3_code 59 = .ok (.if_icmp .lt 5, 3) := by decide +kernel
theorem own_d2_62 : decode method_3_code 62 = .ok (.iconst 1, 1) := by decide +kernel
theorem own_d2_63 : decode method_3_code 63 = .ok (.ireturn, 1) := by decide +kernel
theorem own_d2_64 : decode method_3_code 64 = .ok (.iload_n 0, 1) := by decide +kernel
theorem own_d2_65 : decode method_3_code 65 = .ok (.sipush 768, 3) := by decide +kernel
theorem own_d2_68 : decode method_3_code 68 = .ok (.if_icmp .ge 30, 3) := by decide +kernel
theorem own_d2_71 : decode method_3_code 71 = .ok (.iload_n 0, 1) := by decide +kernel
theorem own_d2_72 : decode method_3_code 72 = .ok (.sipush 192, 3) := by decide +kernel
theorem own_d2_75 : decode method_3_code 75 = .ok (.if_icmp .lt 21, 3) := by decide +kernel
theorem own_d2_78 : decode method_3_code 78 = .ok (.iload_n 0, 1) := by decide +kernel
theorem own_d2_79 : decode method_3_code 79 = .ok (.sipush 215, 3) := by decide +kernel
theorem own_d2_82 : decode method_3_code 82 = .ok (.if_icmp .eq 14, 3) := by decide +kernel
theorem own_d2_85 : decode method_3_code 85 = .ok (.iload_n 0, 1) := by decide +kernel
theorem own_d2_86 : decode method_3_code 86 = .ok (.sipush 247, 3) := by decide +kernel
theorem own_d2_89 : decode method_3_code 89 = .ok (.if_icmp .eq 7, 3) := by decide +kernel
theorem own_d2_92 : decode method_3_code 92 = .ok (.iconst 1, 1) := by decide +kernel
theorem own_d2_93 : decode method_3_code 93 = .ok (.goto 4, 3) := by decide +kernel
theorem own_d2_96 : decode method_3_code 96 = .ok (.iconst 0, 1) := by decide +kernel
theorem own_d2_97 : decode method_3_code 97 = .ok (.ireturn, 1) := by decide +kernel
theorem own_d2_98 : decode method_3_code 98 = .ok (.iload_n 0, 1) := by decide +kernel
theorem own_d2_99 : decode method_3_code 99 = .ok (.sipush 8192, 3) := by decide +kernel
theorem own_d2_102 : decode method_3_code 102 = .ok (.if_icmp .ge 23, 3) := by decide +kernel
theorem own_d2_105 : decode method_3_code 105 = .ok (.iload_n 0, 1) := by decide +kernel
theorem own_d2_106 : decode method_3_code 106 = .ok (.sipush 880, 3) := by decide +kernel
theorem own_d2_109 : decode method_3_code 109 = .ok (.if_icmp .lt 14, 3) := by decide +kernel
theorem own_d2_112 : decode method_3_code 112 = .ok (.iload_n 0, 1) := by decide +kernel
theorem own_d2_113 : decode method_3_code 113 = .ok (.sipush 894, 3) := by decide +kernel
theorem own_d2_116 : decode method_3_code 116 = .ok (.if_icmp .eq 7, 3) := by decide +kernel
theorem own_d2_119 : decode method_3_code 119 = .ok (.iconst 1, 1) := by decide +kernel
theorem own_d2_120 : decode method_3_code 120 = .ok (.goto 4, 3) := by decide +kernel
theorem own_d2_123 : decode method_3_code 123 = .ok (.iconst 0, 1) := by decide +kernel
theorem own_d2_124 : decode method_3_code 124 = .ok (.ireturn, 1) := by decide +kernel
theorem own_d2_125 : decode method_3_code 125 = .ok (.iload_n 0, 1) := by decide +kernel
theorem own_d2_126 : decode method_3_code 126 = .ok (.sipush 12288, 3) := by decide +kernel
theorem own_d2_129 : decode method_3_code 129 = .ok (.if_icmp .ge 51, 3) := by decide +kernel
theorem own_d2_132 : decode method_3_code 132 = .ok (.iload_n 0, 1) := by decide +kernel
theorem own_d2_133 : decode method_3_code 133 = .ok (.sipush 8204, 3) := by decide +kernel
theorem own_d2_136 : decode method_3_code 136 = .ok (.if_icmp .eq 38, 3) := by decide +kernel
theorem own_d2_139 : decode method_3_code 139 = .ok (.iload_n 0, 1) := by decide +kernel
theorem own_d2_140 : decode method_3_code 140 = .ok (.sipush 8205, 3) := by decide +kernel
theorem own_d2_143 : decode method_3_code 143 = .ok (.if_icmp .eq 31, 3) := by decide +kernel
theorem own_d2_146 : decode method_3_code 146 = .ok (.iload_n 0, 1) := by decide +kernel
theorem own_d2_147 : decode method_3_code 147 = .ok (.sipush 8304, 3) := by decide +kernel
theorem own_d2_150 : decode method_3_code 150 = .ok (.if_icmp .lt 10, 3) := by decide +kernel
theorem own_d2_153 : decode method_3_code 153 = .ok (.iload_n 0, 1) := by decide +kernel
theorem own_d2_154 : decode method_3_code 154 = .ok (.sipush 8591, 3) := by decide +kernel
theorem own_d2_157 : decode method_3_code 157 = .ok (.if_icmp .le 17, 3) := by decide +kernel
theorem own_d2_160 : decode method_3_code 160 = .ok (.iload_n 0, 1) := by decide +kernel
theorem own_d2_161 : decode method_3_code 161 = .ok (.sipush 11264, 3) := by decide +kernel
theorem own_d2_164 : decode method_3_code 164 = .ok (.if_icmp .lt 14, 3) := by decide +kernel
theorem own_d2_167 : decode method_3_code 167 = .ok (.iload_n 0, 1) := by decide +kernel
theorem own_d2_168 : decode method_3_code 168 = .ok (.sipush 12271, 3) := by decide +kernel
theorem own_d2_171 : decode method_3_code 171 = .ok (.if_icmp .gt 7, 3) := by decide +kernel
theorem own_d2_174 : decode method_3_code 174 = .ok (.iconst 1, 1) := by decide +kernel
theorem own_d2_175 : decode method_3_code 175 = .ok (.goto 4, 3) := by decide +kernel
theorem own_d2_178 : decode method_3_code 178 = .ok (.iconst 0, 1) := by decide +kernel
theorem own_d2_179 : decode method_3_code 179 = .ok (.ireturn, 1) := by decide +kernel
theorem own_d2_180 : decode method_3_code 180 = .ok (.iload_n 0, 1) := by decide +kernel
theorem own_d2_181 : decode method_3_code 181 = .ok (.ldc 8, 2) := by decide +kernel
theorem own_d2_183 : decode method_3_code 183 = .ok (.if_icmp .ge 22, 3) := by decide +kernel
theorem own_d2_186 : decode method_3_code 186 = .ok (.iload_n 0, 1) := by decide +kernel
theorem own_d2_187 : decode method_3_code 187 = .ok (.sipush 12289, 3) := by decide +kernel
theorem own_d2_190 : decode method_3_code 190 = .ok (.if_icmp .lt 13, 3) := by decide +kernel
theorem own_d2_193 : decode method_3_code 193 = .ok (.iload_n 0, 1) := by decide +kernel
theorem own_d2_194 : decode method_3_code 194 = .ok (.ldc 7, 2) := by decide +kernel
theorem own_d2_196 : decode method_3_code 196 = .ok (.if_icmp .gt 7, 3) := by decide +kernel
theorem own_d2_199 : decode method_3_code 199 = .ok (.iconst 1, 1) := by decide +kernel
theorem own_d2_200 : decode method_3_code 200 = .ok (.goto 4, 3) := by decide +kernel
theorem own_d2_203 : decode method_3_code 203 = .ok (.iconst 0, 1) := by decide +kernel
theorem own_d2_204 : decode method_3_code 204 = .ok (.ireturn, 1) := by decide +kernel
theorem own_d2_205 : decode method_3_code 205 = .ok (.iload_n 0, 1) := by decide +kernel
theorem own_d2_206 : decode method_3_code 206 = .ok (.ldc 9, 2) := by decide +kernel
theorem own_d2_208 : decode method_3_code 208 = .ok (.if_icmp .lt 9, 3) := by decide +kernel
theorem own_d2_211 : decode method_3_code 211 = .ok (.iload_n 0, 1) := by decide +kernel
theorem own_d2_212 : decode method_3_code 212 = .ok (.ldc 10, 2) := by decide +kernel
theorem own_d2_214 : decode method_3_code 214 = .ok (.if_icmp .le 15, 3) := by decide +kernel
theorem own_d2_217 : decode method_3_code 217 = .ok (.iload_n 0, 1) := by decide +kernel
theorem own_d2_218 : decode method_3_code 218 = .ok (.ldc 11, 2) := by decide +kernel
theorem own_d2_220 : decode method_3_code 220 = .ok (.if_icmp .lt 13, 3) := by decide +kernel
theorem own_d2_223 : decode method_3_code 223 = .ok (.iload_n 0, 1) := by decide +kernel
theorem own_d2_224 : decode method_3_code 224 = .ok (.ldc 12, 2) := by decide +kernel
theorem own_d2_226 : decode method_3_code 226 = .ok (.if_icmp .gt 7, 3) := by decide +kernel
theorem own_d2_229 : decode method_3_code 229 = .ok (.iconst 1, 1) := by decide +kernel
theorem own_d2_230 : decode method_3_code 230 = .ok (.goto 4, 3) := by decide +kernel
theorem own_d2_233 : decode method_3_code 233 = .ok (.iconst 0, 1) := by decide +kernel
theorem own_d2_234 : decode method_3_code 234 = .ok (.ireturn, 1) := by decide +kernel
theorem own_pn0 : plainName "com/example/fascicle/fascicle/io/XmlNames" = true := by first | (simp [plainName, overriddenIn]; done) | decide +kernel
theorem own_pn1 : plainName "com/example/fascicle/fascicle/io/XmlNamesIsNameStartPinLaw" = true := by first | (simp [plainName, overriddenIn]; done) | decide +kernel
theorem own_pd0 : parseMethodDescriptor "(I)Z" = some ⟨[.int], some .boolean⟩ := by decide +kernel
theorem own_lt {a b : Int32} {k : Int} (hb : b.toInt = k) : a < b ↔ a.toInt < k := by rw [Int32.lt_iff_toInt_lt, hb]
theorem own_gt {a b : Int32} {k : Int} (ha : a.toInt = k) : a < b ↔ k < b.toInt := by rw [Int32.lt_iff_toInt_lt, ha]
theorem own_eq {a b : Int32} {k : Int} (hb : b.toInt = k) : a = b ↔ a.toInt = k := by rw [← Int32.toInt_inj, hb]
theorem own_lt_of {a b : Int32} {k : Int} (hb : b.toInt = k) (h : a.toInt < k) : a < b := (own_lt hb).mpr h
theorem own_nlt_of {a b : Int32} {k : Int} (hb : b.toInt = k) (h : k ≤ a.toInt) : ¬ a < b := fun q => by have := (own_lt hb).mp q; omega
theorem own_gt_of {a b : Int32} {k : Int} (ha : a.toInt = k) (h : k < b.toInt) : a < b := (own_gt ha).mpr h
theorem own_ngt_of {a b : Int32} {k : Int} (ha : a.toInt = k) (h : b.toInt ≤ k) : ¬ a < b := fun q => by have := (own_gt ha).mp q; omega
theorem own_eq_of {a b : Int32} {k : Int} (hb : b.toInt = k) (h : a.toInt = k) : a = b := (own_eq hb).mpr h
theorem own_ne_of {a b : Int32} {k : Int} (hb : b.toInt = k) (h : a.toInt ≠ k) : ¬ a = b := fun q => h ((own_eq hb).mp q)
theorem own_arr_keep {Z : State} {h h' : Heap} {a : Addr} {c : Cell} {ty : FieldType} (A : Arr Z h a c ty) (K : Keep h h' []) : Arr Z h' a c ty := ⟨K.2.1 a c A.1 nin0, A.2⟩
theorem own_sta0 {Z : State} {h h' : Heap} {C n d : String} {v : Value} (F : Sta Z h C n d v) (K : Keep h h' []) : Sta Z h' C n d v := by
  obtain ⟨cf, i, k, f, st, cell, h1, h2, h3, h4, h5, h6, h7⟩ := F
  exact ⟨cf, i, k, f, st, cell, h1, h2, h3, h4, K.2.1 st cell h5 nin0, h6, h7⟩
theorem own_eqint {t : Term} {n : Int32} {args : Array Value} {s : State} (h : (Jvm.Cond.eq t (.int n)).value args s none s [] = some true) : t.eval args s none [] s = some (.int n) := by
  obtain ⟨a, b, ha, hb, k1, k2⟩ := cmp_v (Or.inl h)
  have hb' : (Term.int n).eval args s none [] s = some (.int n) := rfl
  cases hb.symm.trans hb'
  obtain ⟨z, rfl⟩ := k2
  have : z = n := by simpa [Cond.value, ha, hb'] using h
  rw [ha, this]
theorem own_exa {args : Array Value} {s : State} {t : Term} {C : String} (h1 : (Jvm.Cond.exactly t C).value args s none s [] = some true) : ∃ x, t.eval args s none [] s = some (.ref x) ∧ Exa s s.heap x C := by
  obtain ⟨x, hx⟩ := exa_v h1
  exact ⟨x, hx, Exa.start hx h1⟩
theorem own_fldint {args : Array Value} {s : State} {t : Term} {C n d : String} {x : Addr} {k : Int32} (hx : t.eval args s none [] s = some (.ref x)) (h2 : (Jvm.Cond.eq (.field t C n d) (.int k)).value args s none s [] = some true) : Fld s s.heap x C n d (.int k) :=
  Fld.start ((fld_at hx).symm.trans (own_eqint h2))
theorem own_arr {args : Array Value} {s : State} {t : Term} {ty : FieldType} {n : Int32} (h1 : (Jvm.Cond.arrayOf t ty).value args s none s [] = some true) (h2 : (Jvm.Cond.eq (.length t) (.int n)).value args s none s [] = some true) :
    ∃ a cl, t.eval args s none [] s = some (.ref a) ∧ Arr s s.heap a cl ty ∧ cl.slots.size < 2 ^ 31 ∧ cl.slots.size.toInt32 = n := by
  obtain ⟨a, ha⟩ := arr_v h1
  obtain ⟨cl, A⟩ := Arr.start ha h1
  have e := own_eqint h2
  have hA : s.arrayAt? a = some cl := A.fin (Vm.Alike.refl _)
  simp only [Term.eval, ha, hA, Option.bind_eq_bind, Option.bind_some] at e
  split at e
  · rename_i q
    refine ⟨a, cl, ha, A, q, ?_⟩
    simpa using e
  · cases e
theorem own_elem {args : Array Value} {s : State} {t : Term} {ty : FieldType} {a : Addr} {cl : Cell} {j v : Int32} (ht : t.eval args s none [] s = some (.ref a)) (A : Arr s s.heap a cl ty) (h : (Jvm.Cond.eq (.elem t (.int j)) (.int v)).value args s none s [] = some true) : cl.slots[j.toNatClampNeg]? = some (.int v) :=
  (elem_in (own_eqint h) ht rfl A.1).2
theorem own_eqref {args : Array Value} {s : State} {t u : Term} {x : Addr} (hu : u.eval args s none [] s = some (.ref x)) (h : (Jvm.Cond.eq t u).value args s none s [] = some true) : t.eval args s none [] s = some (.ref x) := by
  obtain ⟨a, b, ha, hb, k1, k2⟩ := cmp_v (Or.inl h)
  cases hb.symm.trans hu
  have q : a.isRef = true := by cases a <;> simp [Kin, Value.isRef] at k1 k2 ⊢
  rcases ref_cases q with rfl | ⟨y, rfl⟩
  · simp [Cond.value, ha, hu] at h
  · have : y = x := by simpa [Cond.value, ha, hu] using h
    rw [ha, this]
theorem own_elemR {args : Array Value} {s : State} {t u : Term} {ty : FieldType} {a x : Addr} {cl : Cell} {j : Int32} (ht : t.eval args s none [] s = some (.ref a)) (A : Arr s s.heap a cl ty) (hu : u.eval args s none [] s = some (.ref x)) (h : (Jvm.Cond.eq (.elem t (.int j)) u).value args s none s [] = some true) : cl.slots[j.toNatClampNeg]? = some (.ref x) :=
  (elem_in (own_eqref hu h) ht rfl A.1).2
def own_a (c : Int32) : Int32 := if ((65 ≤ c.toInt ∧ c.toInt ≤ 90) ∨ (97 ≤ c.toInt ∧ c.toInt ≤ 122) ∨ c.toInt = 95) then 1 else 0
def own_f (c : Int32) : Int32 := if ((65 ≤ c.toInt ∧ c.toInt ≤ 90) ∨ (97 ≤ c.toInt ∧ c.toInt ≤ 122) ∨ c.toInt = 95) ∨ (192 ≤ c.toInt ∧ c.toInt ≤ 214) ∨ (216 ≤ c.toInt ∧ c.toInt ≤ 246) ∨ (248 ≤ c.toInt ∧ c.toInt ≤ 767) ∨ (880 ≤ c.toInt ∧ c.toInt ≤ 893) ∨ (895 ≤ c.toInt ∧ c.toInt ≤ 8191) ∨ (8204 ≤ c.toInt ∧ c.toInt ≤ 8205) ∨ (8304 ≤ c.toInt ∧ c.toInt ≤ 8591) ∨ (11264 ≤ c.toInt ∧ c.toInt ≤ 12271) ∨ (12289 ≤ c.toInt ∧ c.toInt ≤ 55295) ∨ (63744 ≤ c.toInt ∧ c.toInt ≤ 64975) ∨ (65008 ≤ c.toInt ∧ c.toInt ≤ 65533) ∨ (65536 ≤ c.toInt ∧ c.toInt ≤ 983039) then 1 else 0
theorem own_a0 {c : Int32} (h : own_a c = (0 : Int32)) : ¬ ((65 ≤ c.toInt ∧ c.toInt ≤ 90) ∨ (97 ≤ c.toInt ∧ c.toInt ≤ 122) ∨ c.toInt = 95) := fun q => by
  unfold own_a at h; rw [if_pos q] at h; cases h
theorem own_a1 {c : Int32} (h : ¬ own_a c = (0 : Int32)) : ((65 ≤ c.toInt ∧ c.toInt ≤ 90) ∨ (97 ≤ c.toInt ∧ c.toInt ≤ 122) ∨ c.toInt = 95) := Decidable.byContradiction fun q => h (by unfold own_a; exact if_neg q)
theorem own_ix (p : Int32) : ¬ ((p &&& (2147483647 : Int32)) % (46 : Int32)) < 0 ∧ ((p &&& (2147483647 : Int32)) % (46 : Int32)) < (46 : Int32) := by
  have h1 := c_and p 2147483647 (by decide)
  have h2 := (c_irem (p &&& 2147483647) 46 46 rfl).1 h1.1
  exact ⟨own_nlt_of (k := 0) rfl (by rw [h2]; omega), own_lt_of (k := 46) rfl (by rw [h2]; omega)⟩
theorem own_fold {Q : Nat → Option Bool} : ∀ n : Nat, (List.range n).foldl (init := some true) (fun acc i => match acc with | some true => Q i | x => x) = some true → ∀ k, k < n → Q k = some true := by
  intro n
  induction n with
  | zero => intro _ k hk; omega
  | succ n ih =>
    intro h k hk
    rw [List.range_succ, List.foldl_append] at h
    simp only [List.foldl_cons, List.foldl_nil] at h
    generalize hg : (List.range n).foldl (init := some true) (fun acc i => match acc with | some true => Q i | x => x) = g at h ih
    match g, h, ih with
    | some true, h, ih =>
      rcases Nat.lt_or_ge k n with q | q
      · exact ih rfl k q
      · obtain rfl : k = n := by omega
        exact h
    | some false, h, _ => cases h
    | none, h, _ => cases h
theorem own_all {args : Array Value} {s : State} {t : Term} {c : Jvm.Cond} {a : Addr} {cell : Cell} (ht : t.eval args s none [] s = some (.ref a)) (ha : s.arrayAt? a = some cell) (h : (Jvm.Cond.all t c).value args s none s [] = some true) : ∀ k, k < cell.slots.size → c.value args s none s [k] = some true := by
  simp only [Cond.value, ht, ha] at h
  exact own_fold _ h
theorem own_or {args : Array Value} {s : State} {idx : List Nat} {c d : Jvm.Cond} (h : (Jvm.Cond.or c d).value args s none s idx = some true) : c.value args s none s idx = some true ∨ d.value args s none s idx = some true := by
  cases hc : c.value args s none s idx with
  | none => simp [Cond.value, hc] at h
  | some b => cases b <;> simp [Cond.value, hc] at h ⊢; exact h
theorem own_k32 {k : Nat} (hk : k < 128) : (k.toInt32).toInt = (k : Int) := len_toInt (Nat.lt_trans hk (by decide))
theorem own_le {args : Array Value} {s : State} {k : Nat} (hk : k < 128) {n : Int32} {z : Int} (hn : n.toInt = z) (h : (Jvm.Cond.le (.int n) (.index 0)).value args s none s [k] = some true) : z ≤ (k : Int) := by
  have e1 : (Term.int n).eval args s none [k] s = some (.int n) := rfl
  have e2 : (Term.index 0).eval args s none [k] s = some (.int k.toInt32) := rfl
  have q : n ≤ k.toInt32 := by simpa [Cond.value, e1, e2] using h
  rw [Int32.le_iff_toInt_le, own_k32 hk, hn] at q
  exact q
theorem own_lti {args : Array Value} {s : State} {k : Nat} (hk : k < 128) {n : Int32} {z : Int} (hn : n.toInt = z) (h : (Jvm.Cond.lt (.index 0) (.int n)).value args s none s [k] = some true) : (k : Int) < z := by
  have e1 : (Term.int n).eval args s none [k] s = some (.int n) := rfl
  have e2 : (Term.index 0).eval args s none [k] s = some (.int k.toInt32) := rfl
  have q : k.toInt32 < n := by simpa [Cond.value, e1, e2] using h
  rw [Int32.lt_iff_toInt_lt, own_k32 hk, hn] at q
  exact q
theorem own_el {args : Array Value} {s : State} {t : Term} {ty : FieldType} {a : Addr} {cl : Cell} {k : Nat} {v : Int32} (hk : k < 128) (ht : t.eval args s none [k] s = some (.ref a)) (A : Arr s s.heap a cl ty) (h : (Jvm.Cond.eq (.elem t (.index 0)) (.int v)).value args s none s [k] = some true) : cl.slots[k]? = some (.int v) := by
  obtain ⟨x, y, hx, hy, k1, k2⟩ := cmp_v (Or.inl h)
  have hy' : (Term.int v).eval args s none [k] s = some (.int v) := rfl
  cases hy.symm.trans hy'
  obtain ⟨z, rfl⟩ := k2
  have e : z = v := by simpa [Cond.value, hx, hy'] using h
  subst e
  have q := (elem_in hx ht (show (Term.index 0).eval args s none [k] s = some (.int k.toInt32) from rfl) A.1).2
  have e1 : (Nat.toInt32 k).toNatClampNeg = k := by simp only [Int32.toNatClampNeg, own_k32 hk]; rfl
  rw [e1] at q
  exact q
def Qown_ns (Z : State) (p1 : Int32) (ar : Addr) (ac : Cell) (h0 : Heap) (n0 : Nat) (v : Option Value) (h : Heap) (L : List Loc) : Prop := v = some (.int (own_f p1)) ∧ Fr n0 L ∧ h = h0
set_option maxRecDepth 65536 in
set_option maxHeartbeats 40000000 in
theorem own_ns (l : Launch) (Z : State) (a0 : Array Value) (hw : ∀ d ∈ tables_1, d.before a0 Z = true) (ws : List Jvm.Cond) (p1 : Int32) (ar : Addr) (ac : Cell) (h0 : Heap) (n0 : Nat) (Z0 : n0 ≤ h0.size) (SA : Sta Z h0 "com/example/fascicle/fascicle/io/XmlNames" "ASCII_NAME_START" "[Z" (.ref ar)) (AA : Arr Z h0 ar ac .boolean) (hsz : ac.slots.size = (128 : Int32).toNatClampNeg) (hel : ∀ j : Int32, 0 ≤ j.toInt → j.toInt < 128 → ac.slots[j.toNatClampNeg]? = some (.int (own_a j))) :
    MetFree l own_m0 (head1 (Jvm.Cond.code own_m0 prog_55_method_5_code 1 (some .boolean) :: ws) ({ frames := 0, cells := 0, slots := 0, locals := 0 } : Room)) (fun a U => a = #[(.int p1)] ∧ Z.Warmed39 U.vm ∧ U.heap = h0) (fun _ _ _ _ _ => True) (fun _ U o U' => ∃ v L, o = .returned v ∧ Qown_ns Z p1 ar ac h0 n0 v U'.heap L ∧ FrameEnd U o U' L ({ frames := 0, cells := 0, slots := 0, locals := 0 } : Room).cells ({ frames := 0, cells := 0, slots := 0, locals := 0 } : Room).slots) := by
  refine MetFree.of_bodySF (plainFor_of_name own_pn0) hisR ?_
  intro p e s m args below meth c s₁ Bd hml0 hP hK
  obtain ⟨rfl, hZ, hh⟩ := hP
  have hx := Bd.exec
  have hby := Bd.bytes
  have hml : c.maxLocals = 1 := hml0
  have hown : s.vm.findClass "com/example/fascicle/fascicle/io/XmlNames" = some m.cls := by have q := findClass_of_methodNamed Bd.named; exact q
  have hnm := (name_of_methodNamed Bd.named Bd.method).1
  have X0 : Stand p l e ({ frames := 0, cells := 0, slots := 0, locals := 0 } : Room) s m #[(.int p1)] below meth c s₁ [] 0 0 := Stand.of_body Bd
  have e0 : s₁.heap = h0 := by rw [← hh, Bd.state]; rfl
  have N0 := Fr.nil n0
  have pre0 : ∀ t, Steps p.tables e below (s₁.setTop (mkF m 0 #[.val (.int p1)] [])) t → Steps p.tables e below (s₁.setTop (entryFrame m #[(.int p1)] 1)) t := fun t k => castTop (by first | (simp [entryFrame, mkF, argsToLocals, Value.category, maxLocals]; done) | rfl) k
  have pre101 : ∀ t, Steps p.tables e below (s₁.setTop (mkF m 4 #[.val (.int p1)] [(.int (128 : Int32)), (.int p1)])) t → Steps p.tables e below (s₁.setTop (entryFrame m #[(.int p1)] 1)) t := fun t kt => pre0 t (by
    show Steps _ _ _ (s₁.setTop (mkF m 0 #[.val (.int p1)] [])) _
    refine XS.iloadN X0.here hx rfl (hb hby own_d1_0) rfl ?_
    refine XS.sipush X0.here hx rfl (hb hby own_d1_1) ?_
    exact kt)
  by_cases hc4_102 : p1 < (128 : Int32)
  · skip
    have ihc4_102 := (own_lt (b := (128 : Int32)) (k := 128) rfl).mp hc4_102
    have pre103 : ∀ t, Steps p.tables e below (s₁.setTop (mkF m 8 #[.val (.int p1)] [(.int p1)])) t → Steps p.tables e below (s₁.setTop (entryFrame m #[(.int p1)] 1)) t := fun t kt => pre101 t (by
      show Steps _ _ _ (s₁.setTop (mkF m 4 #[.val (.int p1)] [(.int (128 : Int32)), (.int p1)])) _
      refine XS.icmpNo X0.here hx rfl (hb hby own_d1_4) rfl (tlt hc4_102).2.1 ?_
      refine XS.iloadN X0.here hx rfl (hb hby own_d1_7) rfl ?_
      exact kt)
    by_cases hc8_104 : p1 < (0 : Int32)
    · skip
      have ihc8_104 := (own_lt (b := (0 : Int32)) (k := 0) rfl).mp hc8_104
      obtain ⟨fs, hr, hrun, hended, hW, hsame⟩ := X0.leave (v := some (.int (0 : Int32))) (fun h => by rw [Bd.returns] at h; cases h)
      refine ⟨_, _, pre103 _ ?_, hrun, hended, _, _, rfl, ?_, ⟨_, rfl⟩, hW, hsame.mono (by decide) (by decide)⟩
      · show Steps _ _ _ (s₁.setTop (mkF m 8 #[.val (.int p1)] [(.int p1)])) _
        refine XS.ifYes X0.here hx rfl (pc0 := 8) (pc' := 23) rfl (hb hby own_d1_8) rfl ((if0 _ _).trans (tlt hc8_104).1) (by decide) (by decide) ?_
        refine XS.iconst X0.here hx rfl (hb hby own_d1_23) ?_
        show Steps _ _ _ (s₁.setTop (mkF m 24 #[.val (.int p1)] [(.int (0 : Int32))])) _
        exact retN X0 hx (t := .boolean) Bd.returns (by simp) (hb hby own_d1_24) hr
      · show Qown_ns Z p1 ar ac h0 n0 _ s₁.heap _
        rw [e0]
        exact ⟨congrArg (fun z => some (Value.int z)) (by unfold own_f; exact (if_neg (by omega)).symm), N0, rfl⟩
    · skip
      have ihc8_104 := (mt (own_lt (b := (0 : Int32)) (k := 0) rfl).mpr hc8_104)
      obtain ⟨T105, X105, e105, st105⟩ := getS2 X0 hx hZ hown (host := "") (Or.inl (own_w16 hw)) Via.refl e0 SA (g := (mkF m 11 #[.val (.int p1)] [])) rfl (hb hby own_d1_11)
      have pre106 : ∀ t, Steps p.tables e below (T105.setTop (mkF m 16 #[.val (.int p1)] [(.int (own_a p1))])) t → Steps p.tables e below (s₁.setTop (entryFrame m #[(.int p1)] 1)) t := fun t kt => pre103 t (by
        show Steps _ _ _ (s₁.setTop (mkF m 8 #[.val (.int p1)] [(.int p1)])) _
        refine XS.ifNo X0.here hx rfl (hb hby own_d1_8) rfl ((if0 _ _).trans (flt hc8_104).1) ?_
        refine st105 _ ?_
        refine XS.iloadN X105.here hx rfl (hb hby own_d1_14) rfl ?_
        refine X105.baloadBooleans hx (j := p1) (v := (.int (own_a p1))) (by rw [e105]; exact AA.1) (State.isArrayOf_alike hZ.alike AA.2.1) AA.2.2 (inb_of hsz ⟨own_nlt_of (k := 0) rfl (by omega), own_lt_of (k := 128) rfl (by omega)⟩) (hel p1 (by omega) (by omega)) (g := (mkF m 15 #[.val (.int p1)] [(.int p1), (.ref ar)])) rfl rfl (hb hby own_d1_15) _ ?_
        exact kt)
      by_cases hc16_107 : (own_a p1) = (0 : Int32)
      · skip
        have ihc16_107 := (own_eq (b := (0 : Int32)) (k := 0) rfl).mp hc16_107
        obtain ⟨fs, hr, hrun, hended, hW, hsame⟩ := X105.leave (v := some (.int (0 : Int32))) (fun h => by rw [Bd.returns] at h; cases h)
        refine ⟨_, _, pre106 _ ?_, hrun, hended, _, _, rfl, ?_, ⟨_, rfl⟩, hW, hsame.mono (by decide) (by decide)⟩
        · show Steps _ _ _ (T105.setTop (mkF m 16 #[.val (.int p1)] [(.int (own_a p1))])) _
          refine XS.ifYes X105.here hx rfl (pc0 := 16) (pc' := 23) rfl (hb hby own_d1_16) rfl ((if0 _ _).trans (teq hc16_107).1) (by decide) (by decide) ?_
          refine XS.iconst X105.here hx rfl (hb hby own_d1_23) ?_
          show Steps _ _ _ (T105.setTop (mkF m 24 #[.val (.int p1)] [(.int (0 : Int32))])) _
          exact retN X105 hx (t := .boolean) Bd.returns (by simp) (hb hby own_d1_24) hr
        · show Qown_ns Z p1 ar ac h0 n0 _ T105.heap _
          rw [e105]
          exact ⟨congrArg (fun z => some (Value.int z)) (by have q := own_a0 hc16_107; unfold own_f; exact (if_neg (by omega)).symm), N0, rfl⟩
      · skip
        have ihc16_107 := (mt (own_eq (b := (0 : Int32)) (k := 0) rfl).mpr hc16_107)
        obtain ⟨fs, hr, hrun, hended, hW, hsame⟩ := X105.leave (v := some (.int (1 : Int32))) (fun h => by rw [Bd.returns] at h; cases h)
        refine ⟨_, _, pre106 _ ?_, hrun, hended, _, _, rfl, ?_, ⟨_, rfl⟩, hW, hsame.mono (by decide) (by decide)⟩
        · show Steps _ _ _ (T105.setTop (mkF m 16 #[.val (.int p1)] [(.int (own_a p1))])) _
          refine XS.ifNo X105.here hx rfl (hb hby own_d1_16) rfl ((if0 _ _).trans (feq hc16_107).1) ?_
          refine XS.iconst X105.here hx rfl (hb hby own_d1_19) ?_
          refine XS.goto X105.here hx rfl (pc0 := 20) (pc' := 24) rfl (hb hby own_d1_20) (by decide) (by decide) ?_
          show Steps _ _ _ (T105.setTop (mkF m 24 #[.val (.int p1)] [(.int (1 : Int32))])) _
          exact retN X105 hx (t := .boolean) Bd.returns (by simp) (hb hby own_d1_24) hr
        · show Qown_ns Z p1 ar ac h0 n0 _ T105.heap _
          rw [e105]
          exact ⟨congrArg (fun z => some (Value.int z)) (by have q := own_a1 hc16_107; unfold own_f; exact (if_pos (by omega)).symm), N0, rfl⟩
  · skip
    have ihc4_102 := (mt (own_lt (b := (128 : Int32)) (k := 128) rfl).mpr hc4_102)
    have pre108 : ∀ t, Steps p.tables e below (s₁.setTop (mkF m 29 #[.val (.int p1)] [(.int (192 : Int32)), (.int p1)])) t → Steps p.tables e below (s₁.setTop (entryFrame m #[(.int p1)] 1)) t := fun t kt => pre101 t (by
      show Steps _ _ _ (s₁.setTop (mkF m 4 #[.val (.int p1)] [(.int (128 : Int32)), (.int p1)])) _
      refine XS.icmpYes X0.here hx rfl (pc0 := 4) (pc' := 25) rfl (hb hby own_d1_4) rfl (flt hc4_102).2.1 (by decide) (by decide) ?_
      refine XS.iloadN X0.here hx rfl (hb hby own_d1_25) rfl ?_
      refine XS.sipush X0.here hx rfl (hb hby own_d1_26) ?_
      exact kt)
    by_cases hc29_109 : p1 < (192 : Int32)
    · skip
      have ihc29_109 := (own_lt (b := (192 : Int32)) (k := 192) rfl).mp hc29_109
      obtain ⟨fs, hr, hrun, hended, hW, hsame⟩ := X0.leave (v := some (.int (0 : Int32))) (fun h => by rw [Bd.returns] at h; cases h)
      refine ⟨_, _, pre108 _ ?_, hrun, hended, _, _, rfl, ?_, ⟨_, rfl⟩, hW, hsame.mono (by decide) (by decide)⟩
      · show Steps _ _ _ (s₁.setTop (mkF m 29 #[.val (.int p1)] [(.int (192 : Int32)), (.int p1)])) _
        refine XS.icmpYes X0.here hx rfl (pc0 := 29) (pc' := 39) rfl (hb hby own_d1_29) rfl (tlt hc29_109).1 (by decide) (by decide) ?_
        refine XS.iloadN X0.here hx rfl (hb hby own_d1_39) rfl ?_
        refine XS.sipush X0.here hx rfl (hb hby own_d1_40) ?_
        refine XS.icmpYes X0.here hx rfl (pc0 := 43) (pc' := 53) rfl (hb hby own_d1_43) rfl (tlt (own_lt_of (b := (216 : Int32)) (k := 216) rfl (by have := rng32 p1; omega))).1 (by decide) (by decide) ?_
        show Steps _ _ _ (s₁.setTop (mkF m 53 #[.val (.int p1)] [])) _
        refine XS.iloadN X0.here hx rfl (hb hby own_d1_53) rfl ?_
        refine XS.sipush X0.here hx rfl (hb hby own_d1_54) ?_
        refine XS.icmpYes X0.here hx rfl (pc0 := 57) (pc' := 67) rfl (hb hby own_d1_57) rfl (tlt (own_lt_of (b := (248 : Int32)) (k := 248) rfl (by have := rng32 p1; omega))).1 (by decide) (by decide) ?_
        refine XS.iloadN X0.here hx rfl (hb hby own_d1_67) rfl ?_
        show Steps _ _ _ (s₁.setTop (mkF m 68 #[.val (.int p1)] [(.int p1)])) _
        refine XS.sipush X0.here hx rfl (hb hby own_d1_68) ?_
        refine XS.icmpYes X0.here hx rfl (pc0 := 71) (pc' := 81) rfl (hb hby own_d1_71) rfl (tlt (own_lt_of (b := (880 : Int32)) (k := 880) rfl (by have := rng32 p1; omega))).1 (by decide) (by decide) ?_
        refine XS.iloadN X0.here hx rfl (hb hby own_d1_81) rfl ?_
        refine XS.sipush X0.here hx rfl (hb hby own_d1_82) ?_
        show Steps _ _ _ (s₁.setTop (mkF m 85 #[.val (.int p1)] [(.int (895 : Int32)), (.int p1)])) _
        refine XS.icmpYes X0.here hx rfl (pc0 := 85) (pc' := 95) rfl (hb hby own_d1_85) rfl (tlt (own_lt_of (b := (895 : Int32)) (k := 895) rfl (by have := rng32 p1; omega))).1 (by decide) (by decide) ?_
        refine XS.iloadN X0.here hx rfl (hb hby own_d1_95) rfl ?_
        refine XS.sipush X0.here hx rfl (hb hby own_d1_96) ?_
        refine XS.icmpYes X0.here hx rfl (pc0 := 99) (pc' := 109) rfl (hb hby own_d1_99) rfl (tlt (own_lt_of (b := (8204 : Int32)) (k := 8204) rfl (by have := rng32 p1; omega))).1 (by decide) (by decide) ?_
        show Steps _ _ _ (s₁.setTop (mkF m 109 #[.val (.int p1)] [])) _
        refine XS.iloadN X0.here hx rfl (hb hby own_d1_109) rfl ?_
        refine XS.sipush X0.here hx rfl (hb hby own_d1_110) ?_
        refine XS.icmpYes X0.here hx rfl (pc0 := 113) (pc' := 123) rfl (hb hby own_d1_113) rfl (tlt (own_lt_of (b := (8304 : Int32)) (k := 8304) rfl (by have := rng32 p1; omega))).1 (by decide) (by decide) ?_
        refine XS.iloadN X0.here hx rfl (hb hby own_d1_123) rfl ?_
        show Steps _ _ _ (s₁.setTop (mkF m 124 #[.val (.int p1)] [(.int p1)])) _
        refine XS.sipush X0.here hx rfl (hb hby own_d1_124) ?_
        refine XS.icmpYes X0.here hx rfl (pc0 := 127) (pc' := 137) rfl (hb hby own_d1_127) rfl (tlt (own_lt_of (b := (11264 : Int32)) (k := 11264) rfl (by have := rng32 p1; omega))).1 (by decide) (by decide) ?_
        refine XS.iloadN X0.here hx rfl (hb hby own_d1_137) rfl ?_
        refine XS.sipush X0.here hx rfl (hb hby own_d1_138) ?_
        show Steps _ _ _ (s₁.setTop (mkF m 141 #[.val (.int p1)] [(.int (12289 : Int32)), (.int p1)])) _
        refine XS.icmpYes X0.here hx rfl (pc0 := 141) (pc' := 150) rfl (hb hby own_d1_141) rfl (tlt (own_lt_of (b := (12289 : Int32)) (k := 12289) rfl (by have := rng32 p1; omega))).1 (by decide) (by decide) ?_
        refine XS.iloadN X0.here hx rfl (hb hby own_d1_150) rfl ?_
        refine X0.ldcInt hx hown (mvT hZ (own_w24 hw)) (g := (mkF m 151 #[.val (.int p1)] [(.int p1)])) rfl (hb hby own_d1_151) _ ?_
        refine XS.icmpYes X0.here hx rfl (pc0 := 153) (pc' := 162) rfl (hb hby own_d1_153) rfl (tlt (own_lt_of (b := (63744 : Int32)) (k := 63744) rfl (by have := rng32 p1; omega))).1 (by decide) (by decide) ?_
        show Steps _ _ _ (s₁.setTop (mkF m 162 #[.val (.int p1)] [])) _
        refine XS.iloadN X0.here hx rfl (hb hby own_d1_162) rfl ?_
        refine X0.ldcInt hx hown (mvT hZ (own_w26 hw)) (g := (mkF m 163 #[.val (.int p1)] [(.int p1)])) rfl (hb hby own_d1_163) _ ?_
        refine XS.icmpYes X0.here hx rfl (pc0 := 165) (pc' := 174) rfl (hb hby own_d1_165) rfl (tlt (own_lt_of (b := (65008 : Int32)) (k := 65008) rfl (by have := rng32 p1; omega))).1 (by decide) (by decide) ?_
        refine XS.iloadN X0.here hx rfl (hb hby own_d1_174) rfl ?_
        show Steps _ _ _ (s₁.setTop (mkF m 175 #[.val (.int p1)] [(.int p1)])) _
        refine X0.ldcInt hx hown (mvT hZ (own_w28 hw)) (g := (mkF m 175 #[.val (.int p1)] [(.int p1)])) rfl (hb hby own_d1_175) _ ?_
        refine XS.icmpYes X0.here hx rfl (pc0 := 177) (pc' := 190) rfl (hb hby own_d1_177) rfl (tlt (own_lt_of (b := (65536 : Int32)) (k := 65536) rfl (by have := rng32 p1; omega))).1 (by decide) (by decide) ?_
        refine XS.iconst X0.here hx rfl (hb hby own_d1_190) ?_
        show Steps _ _ _ (s₁.setTop (mkF m 191 #[.val (.int p1)] [(.int (0 : Int32))])) _
        exact retN X0 hx (t := .boolean) Bd.returns (by simp) (hb hby own_d1_191) hr
      · show Qown_ns Z p1 ar ac h0 n0 _ s₁.heap _
        rw [e0]
        exact ⟨congrArg (fun z => some (Value.int z)) (by unfold own_f; exact (if_neg (by omega)).symm), N0, rfl⟩
    · skip
      have ihc29_109 := (mt (own_lt (b := (192 : Int32)) (k := 192) rfl).mpr hc29_109)
      have pre110 : ∀ t, Steps p.tables e below (s₁.setTop (mkF m 36 #[.val (.int p1)] [(.int (214 : Int32)), (.int p1)])) t → Steps p.tables e below (s₁.setTop (entryFrame m #[(.int p1)] 1)) t := fun t kt => pre108 t (by
        show Steps _ _ _ (s₁.setTop (mkF m 29 #[.val (.int p1)] [(.int (192 : Int32)), (.int p1)])) _
        refine XS.icmpNo X0.here hx rfl (hb hby own_d1_29) rfl (flt hc29_109).1 ?_
        refine XS.iloadN X0.here hx rfl (hb hby own_d1_32) rfl ?_
        refine XS.sipush X0.here hx rfl (hb hby own_d1_33) ?_
        exact kt)
      by_cases hc36_111 : (214 : Int32) < p1
      · skip
        have ihc36_111 := (own_gt (a := (214 : Int32)) (k := 214) rfl).mp hc36_111
        have pre112 : ∀ t, Steps p.tables e below (s₁.setTop (mkF m 43 #[.val (.int p1)] [(.int (216 : Int32)), (.int p1)])) t → Steps p.tables e below (s₁.setTop (entryFrame m #[(.int p1)] 1)) t := fun t kt => pre110 t (by
          show Steps _ _ _ (s₁.setTop (mkF m 36 #[.val (.int p1)] [(.int (214 : Int32)), (.int p1)])) _
          refine XS.icmpNo X0.here hx rfl (hb hby own_d1_36) rfl (tlt hc36_111).2.2.2 ?_
          refine XS.iloadN X0.here hx rfl (hb hby own_d1_39) rfl ?_
          refine XS.sipush X0.here hx rfl (hb hby own_d1_40) ?_
          exact kt)
        by_cases hc43_113 : p1 < (216 : Int32)
        · skip
          have ihc43_113 := (own_lt (b := (216 : Int32)) (k := 216) rfl).mp hc43_113
          obtain ⟨fs, hr, hrun, hended, hW, hsame⟩ := X0.leave (v := some (.int (0 : Int32))) (fun h => by rw [Bd.returns] at h; cases h)
          refine ⟨_, _, pre112 _ ?_, hrun, hended, _, _, rfl, ?_, ⟨_, rfl⟩, hW, hsame.mono (by decide) (by decide)⟩
          · show Steps _ _ _ (s₁.setTop (mkF m 43 #[.val (.int p1)] [(.int (216 : Int32)), (.int p1)])) _
            refine XS.icmpYes X0.here hx rfl (pc0 := 43) (pc' := 53) rfl (hb hby own_d1_43) rfl (tlt hc43_113).1 (by decide) (by decide) ?_
            refine XS.iloadN X0.here hx rfl (hb hby own_d1_53) rfl ?_
            refine XS.sipush X0.here hx rfl (hb hby own_d1_54) ?_
            refine XS.icmpYes X0.here hx rfl (pc0 := 57) (pc' := 67) rfl (hb hby own_d1_57) rfl (tlt (own_lt_of (b := (248 : Int32)) (k := 248) rfl (by have := rng32 p1; omega))).1 (by decide) (by decide) ?_
            show Steps _ _ _ (s₁.setTop (mkF m 67 #[.val (.int p1)] [])) _
            refine XS.iloadN X0.here hx rfl (hb hby own_d1_67) rfl ?_
            refine XS.sipush X0.here hx rfl (hb hby own_d1_68) ?_
            refine XS.icmpYes X0.here hx rfl (pc0 := 71) (pc' := 81) rfl (hb hby own_d1_71) rfl (tlt (own_lt_of (b := (880 : Int32)) (k := 880) rfl (by have := rng32 p1; omega))).1 (by decide) (by decide) ?_
            refine XS.iloadN X0.here hx rfl (hb hby own_d1_81) rfl ?_
            show Steps _ _ _ (s₁.setTop (mkF m 82 #[.val (.int p1)] [(.int p1)])) _
            refine XS.sipush X0.here hx rfl (hb hby own_d1_82) ?_
            refine XS.icmpYes X0.here hx rfl (pc0 := 85) (pc' := 95) rfl (hb hby own_d1_85) rfl (tlt (own_lt_of (b := (895 : Int32)) (k := 895) rfl (by have := rng32 p1; omega))).1 (by decide) (by decide) ?_
            refine XS.iloadN X0.here hx rfl (hb hby own_d1_95) rfl ?_
            refine XS.sipush X0.here hx rfl (hb hby own_d1_96) ?_
            show Steps _ _ _ (s₁.setTop (mkF m 99 #[.val (.int p1)] [(.int (8204 : Int32)), (.int p1)])) _
            refine XS.icmpYes X0.here hx rfl (pc0 := 99) (pc' := 109) rfl (hb hby own_d1_99) rfl (tlt (own_lt_of (b := (8204 : Int32)) (k := 8204) rfl (by have := rng32 p1; omega))).1 (by decide) (by decide) ?_
            refine XS.iloadN X0.here hx rfl (hb hby own_d1_109) rfl ?_
            refine XS.sipush X0.here hx rfl (hb hby own_d1_110) ?_
            refine XS.icmpYes X0.here hx rfl (pc0 := 113) (pc' := 123) rfl (hb hby own_d1_113) rfl (tlt (own_lt_of (b := (8304 : Int32)) (k := 8304) rfl (by have := rng32 p1; omega))).1 (by decide) (by decide) ?_
            show Steps _ _ _ (s₁.setTop (mkF m 123 #[.val (.int p1)] [])) _
            refine XS.iloadN X0.here hx rfl (hb hby own_d1_123) rfl ?_
            refine XS.sipush X0.here hx rfl (hb hby own_d1_124) ?_
            refine XS.icmpYes X0.here hx rfl (pc0 := 127) (pc' := 137) rfl (hb hby own_d1_127) rfl (tlt (own_lt_of (b := (11264 : Int32)) (k := 11264) rfl (by have := rng32 p1; omega))).1 (by decide) (by decide) ?_
            refine XS.iloadN X0.here hx rfl (hb hby own_d1_137) rfl ?_
            show Steps _ _ _ (s₁.setTop (mkF m 138 #[.val (.int p1)] [(.int p1)])) _
            refine XS.sipush X0.here hx rfl (hb hby own_d1_138) ?_
            refine XS.icmpYes X0.here hx rfl (pc0 := 141) (pc' := 150) rfl (hb hby own_d1_141) rfl (tlt (own_lt_of (b := (12289 : Int32)) (k := 12289) rfl (by have := rng32 p1; omega))).1 (by decide) (by decide) ?_
            refine XS.iloadN X0.here hx rfl (hb hby own_d1_150) rfl ?_
            refine X0.ldcInt hx hown (mvT hZ (own_w24 hw)) (g := (mkF m 151 #[.val (.int p1)] [(.int p1)])) rfl (hb hby own_d1_151) _ ?_
            show Steps _ _ _ (s₁.setTop (mkF m 153 #[.val (.int p1)] [(.int (63744 : Int32)), (.int p1)])) _
            refine XS.icmpYes X0.here hx rfl (pc0 := 153) (pc' := 162) rfl (hb hby own_d1_153) rfl (tlt (own_lt_of (b := (63744 : Int32)) (k := 63744) rfl (by have := rng32 p1; omega))).1 (by decide) (by decide) ?_
            refine XS.iloadN X0.here hx rfl (hb hby own_d1_162) rfl ?_
            refine X0.ldcInt hx hown (mvT hZ (own_w26 hw)) (g := (mkF m 163 #[.val (.int p1)] [(.int p1)])) rfl (hb hby own_d1_163) _ ?_
            refine XS.icmpYes X0.here hx rfl (pc0 := 165) (pc' := 174) rfl (hb hby own_d1_165) rfl (tlt (own_lt_of (b := (65008 : Int32)) (k := 65008) rfl (by have := rng32 p1; omega))).1 (by decide) (by decide) ?_
            show Steps _ _ _ (s₁.setTop (mkF m 174 #[.val (.int p1)] [])) _
            refine XS.iloadN X0.here hx rfl (hb hby own_d1_174) rfl ?_
            refine X0.ldcInt hx hown (mvT hZ (own_w28 hw)) (g := (mkF m 175 #[.val (.int p1)] [(.int p1)])) rfl (hb hby own_d1_175) _ ?_
            refine XS.icmpYes X0.here hx rfl (pc0 := 177) (pc' := 190) rfl (hb hby own_d1_177) rfl (tlt (own_lt_of (b := (65536 : Int32)) (k := 65536) rfl (by have := rng32 p1; omega))).1 (by decide) (by decide) ?_
            refine XS.iconst X0.here hx rfl (hb hby own_d1_190) ?_
            show Steps _ _ _ (s₁.setTop (mkF m 191 #[.val (.int p1)] [(.int (0 : Int32))])) _
            exact retN X0 hx (t := .boolean) Bd.returns (by simp) (hb hby own_d1_191) hr
          · show Qown_ns Z p1 ar ac h0 n0 _ s₁.heap _
            rw [e0]
            exact ⟨congrArg (fun z => some (Value.int z)) (by unfold own_f; exact (if_neg (by omega)).symm), N0, rfl⟩
        · skip
          have ihc43_113 := (mt (own_lt (b := (216 : Int32)) (k := 216) rfl).mpr hc43_113)
          have pre114 : ∀ t, Steps p.tables e below (s₁.setTop (mkF m 50 #[.val (.int p1)] [(.int (246 : Int32)), (.int p1)])) t → Steps p.tables e below (s₁.setTop (entryFrame m #[(.int p1)] 1)) t := fun t kt => pre112 t (by
            show Steps _ _ _ (s₁.setTop (mkF m 43 #[.val (.int p1)] [(.int (216 : Int32)), (.int p1)])) _
            refine XS.icmpNo X0.here hx rfl (hb hby own_d1_43) rfl (flt hc43_113).1 ?_
            refine XS.iloadN X0.here hx rfl (hb hby own_d1_46) rfl ?_
            refine XS.sipush X0.here hx rfl (hb hby own_d1_47) ?_
            exact kt)
          by_cases hc50_115 : (246 : Int32) < p1
          · skip
            have ihc50_115 := (own_gt (a := (246 : Int32)) (k := 246) rfl).mp hc50_115
            have pre116 : ∀ t, Steps p.tables e below (s₁.setTop (mkF m 57 #[.val (.int p1)] [(.int (248 : Int32)), (.int p1)])) t → Steps p.tables e below (s₁.setTop (entryFrame m #[(.int p1)] 1)) t := fun t kt => pre114 t (by
              show Steps _ _ _ (s₁.setTop (mkF m 50 #[.val (.int p1)] [(.int (246 : Int32)), (.int p1)])) _
              refine XS.icmpNo X0.here hx rfl (hb hby own_d1_50) rfl (tlt hc50_115).2.2.2 ?_
              refine XS.iloadN X0.here hx rfl (hb hby own_d1_53) rfl ?_
              refine XS.sipush X0.here hx rfl (hb hby own_d1_54) ?_
              exact kt)
            by_cases hc57_117 : p1 < (248 : Int32)
            · skip
              have ihc57_117 := (own_lt (b := (248 : Int32)) (k := 248) rfl).mp hc57_117
              obtain ⟨fs, hr, hrun, hended, hW, hsame⟩ := X0.leave (v := some (.int (0 : Int32))) (fun h => by rw [Bd.returns] at h; cases h)
              refine ⟨_, _, pre116 _ ?_, hrun, hended, _, _, rfl, ?_, ⟨_, rfl⟩, hW, hsame.mono (by decide) (by decide)⟩
              · show Steps _ _ _ (s₁.setTop (mkF m 57 #[.val (.int p1)] [(.int (248 : Int32)), (.int p1)])) _
                refine XS.icmpYes X0.here hx rfl (pc0 := 57) (pc' := 67) rfl (hb hby own_d1_57) rfl (tlt hc57_117).1 (by decide) (by decide) ?_
                refine XS.iloadN X0.here hx rfl (hb hby own_d1_67) rfl ?_
                refine XS.sipush X0.here hx rfl (hb hby own_d1_68) ?_
                refine XS.icmpYes X0.here hx rfl (pc0 := 71) (pc' := 81) rfl (hb hby own_d1_71) rfl (tlt (own_lt_of (b := (880 : Int32)) (k := 880) rfl (by have := rng32 p1; omega))).1 (by decide) (by decide) ?_
                show Steps _ _ _ (s₁.setTop (mkF m 81 #[.val (.int p1)] [])) _
                refine XS.iloadN X0.here hx rfl (hb hby own_d1_81) rfl ?_
                refine XS.sipush X0.here hx rfl (hb hby own_d1_82) ?_
                refine XS.icmpYes X0.here hx rfl (pc0 := 85) (pc' := 95) rfl (hb hby own_d1_85) rfl (tlt (own_lt_of (b := (895 : Int32)) (k := 895) rfl (by have := rng32 p1; omega))).1 (by decide) (by decide) ?_
                refine XS.iloadN X0.here hx rfl (hb hby own_d1_95) rfl ?_
                show Steps _ _ _ (s₁.setTop (mkF m 96 #[.val (.int p1)] [(.int p1)])) _
                refine XS.sipush X0.here hx rfl (hb hby own_d1_96) ?_
                refine XS.icmpYes X0.here hx rfl (pc0 := 99) (pc' := 109) rfl (hb hby own_d1_99) rfl (tlt (own_lt_of (b := (8204 : Int32)) (k := 8204) rfl (by have := rng32 p1; omega))).1 (by decide) (by decide) ?_
                refine XS.iloadN X0.here hx rfl (hb hby own_d1_109) rfl ?_
                refine XS.sipush X0.here hx rfl (hb hby own_d1_110) ?_
                show Steps _ _ _ (s₁.setTop (mkF m 113 #[.val (.int p1)] [(.int (8304 : Int32)), (.int p1)])) _
                refine XS.icmpYes X0.here hx rfl (pc0 := 113) (pc' := 123) rfl (hb hby own_d1_113) rfl (tlt (own_lt_of (b := (8304 : Int32)) (k := 8304) rfl (by have := rng32 p1; omega))).1 (by decide) (by decide) ?_
                refine XS.iloadN X0.here hx rfl (hb hby own_d1_123) rfl ?_
                refine XS.sipush X0.here hx rfl (hb hby own_d1_124) ?_
                refine XS.icmpYes X0.here hx rfl (pc0 := 127) (pc' := 137) rfl (hb hby own_d1_127) rfl (tlt (own_lt_of (b := (11264 : Int32)) (k := 11264) rfl (by have := rng32 p1; omega))).1 (by decide) (by decide) ?_
                show Steps _ _ _ (s₁.setTop (mkF m 137 #[.val (.int p1)] [])) _
                refine XS.iloadN X0.here hx rfl (hb hby own_d1_137) rfl ?_
                refine XS.sipush X0.here hx rfl (hb hby own_d1_138) ?_
                refine XS.icmpYes X0.here hx rfl (pc0 := 141) (pc' := 150) rfl (hb hby own_d1_141) rfl (tlt (own_lt_of (b := (12289 : Int32)) (k := 12289) rfl (by have := rng32 p1; omega))).1 (by decide) (by decide) ?_
                refine XS.iloadN X0.here hx rfl (hb hby own_d1_150) rfl ?_
                show Steps _ _ _ (s₁.setTop (mkF m 151 #[.val (.int p1)] [(.int p1)])) _
                refine X0.ldcInt hx hown (mvT hZ (own_w24 hw)) (g := (mkF m 151 #[.val (.int p1)] [(.int p1)])) rfl (hb hby own_d1_151) _ ?_
                refine XS.icmpYes X0.here hx rfl (pc0 := 153) (pc' := 162) rfl (hb hby own_d1_153) rfl (tlt (own_lt_of (b := (63744 : Int32)) (k := 63744) rfl (by have := rng32 p1; omega))).1 (by decide) (by decide) ?_
                refine XS.iloadN X0.here hx rfl (hb hby own_d1_162) rfl ?_
                refine X0.ldcInt hx hown (mvT hZ (own_w26 hw)) (g := (mkF m 163 #[.val (.int p1)] [(.int p1)])) rfl (hb hby own_d1_163) _ ?_
                show Steps _ _ _ (s₁.setTop (mkF m 165 #[.val (.int p1)] [(.int (65008 : Int32)), (.int p1)])) _
                refine XS.icmpYes X0.here hx rfl (pc0 := 165) (pc' := 174) rfl (hb hby own_d1_165) rfl (tlt (own_lt_of (b := (65008 : Int32)) (k := 65008) rfl (by have := rng32 p1; omega))).1 (by decide) (by decide) ?_
                refine XS.iloadN X0.here hx rfl (hb hby own_d1_174) rfl ?_
                refine X0.ldcInt hx hown (mvT hZ (own_w28 hw)) (g := (mkF m 175 #[.val (.int p1)] [(.int p1)])) rfl (hb hby own_d1_175) _ ?_
                refine XS.icmpYes X0.here hx rfl (pc0 := 177) (pc' := 190) rfl (hb hby own_d1_177) rfl (tlt (own_lt_of (b := (65536 : Int32)) (k := 65536) rfl (by have := rng32 p1; omega))).1 (by decide) (by decide) ?_
                show Steps _ _ _ (s₁.setTop (mkF m 190 #[.val (.int p1)] [])) _
                refine XS.iconst X0.here hx rfl (hb hby own_d1_190) ?_
                show Steps _ _ _ (s₁.setTop (mkF m 191 #[.val (.int p1)] [(.int (0 : Int32))])) _
                exact retN X0 hx (t := .boolean) Bd.returns (by simp) (hb hby own_d1_191) hr
              · show Qown_ns Z p1 ar ac h0 n0 _ s₁.heap _
                rw [e0]
                exact ⟨congrArg (fun z => some (Value.int z)) (by unfold own_f; exact (if_neg (by omega)).symm), N0, rfl⟩
            · skip
              have ihc57_117 := (mt (own_lt (b := (248 : Int32)) (k := 248) rfl).mpr hc57_117)
              have pre118 : ∀ t, Steps p.tables e below (s₁.setTop (mkF m 64 #[.val (.int p1)] [(.int (767 : Int32)), (.int p1)])) t → Steps p.tables e below (s₁.setTop (entryFrame m #[(.int p1)] 1)) t := fun t kt => pre116 t (by
                show Steps _ _ _ (s₁.setTop (mkF m 57 #[.val (.int p1)] [(.int (248 : Int32)), (.int p1)])) _
                refine XS.icmpNo X0.here hx rfl (hb hby own_d1_57) rfl (flt hc57_117).1 ?_
                refine XS.iloadN X0.here hx rfl (hb hby own_d1_60) rfl ?_
                refine XS.sipush X0.here hx rfl (hb hby own_d1_61) ?_
                exact kt)
              by_cases hc64_119 : (767 : Int32) < p1
              · skip
                have ihc64_119 := (own_gt (a := (767 : Int32)) (k := 767) rfl).mp hc64_119
                have pre120 : ∀ t, Steps p.tables e below (s₁.setTop (mkF m 71 #[.val (.int p1)] [(.int (880 : Int32)), (.int p1)])) t → Steps p.tables e below (s₁.setTop (entryFrame m #[(.int p1)] 1)) t := fun t kt => pre118 t (by
                  show Steps _ _ _ (s₁.setTop (mkF m 64 #[.val (.int p1)] [(.int (767 : Int32)), (.int p1)])) _
                  refine XS.icmpNo X0.here hx rfl (hb hby own_d1_64) rfl (tlt hc64_119).2.2.2 ?_
                  refine XS.iloadN X0.here hx rfl (hb hby own_d1_67) rfl ?_
                  refine XS.sipush X0.here hx rfl (hb hby own_d1_68) ?_
                  exact kt)
                by_cases hc71_121 : p1 < (880 : Int32)
                · skip
                  have ihc71_121 := (own_lt (b := (880 : Int32)) (k := 880) rfl).mp hc71_121
                  obtain ⟨fs, hr, hrun, hended, hW, hsame⟩ := X0.leave (v := some (.int (0 : Int32))) (fun h => by rw [Bd.returns] at h; cases h)
                  refine ⟨_, _, pre120 _ ?_, hrun, hended, _, _, rfl, ?_, ⟨_, rfl⟩, hW, hsame.mono (by decide) (by decide)⟩
                  · show Steps _ _ _ (s₁.setTop (mkF m 71 #[.val (.int p1)] [(.int (880 : Int32)), (.int p1)])) _
                    refine XS.icmpYes X0.here hx rfl (pc0 := 71) (pc' := 81) rfl (hb hby own_d1_71) rfl (tlt hc71_121).1 (by decide) (by decide) ?_
                    refine XS.iloadN X0.here hx rfl (hb hby own_d1_81) rfl ?_
                    refine XS.sipush X0.here hx rfl (hb hby own_d1_82) ?_
                    refine XS.icmpYes X0.here hx rfl (pc0 := 85) (pc' := 95) rfl (hb hby own_d1_85) rfl (tlt (own_lt_of (b := (895 : Int32)) (k := 895) rfl (by have := rng32 p1; omega))).1 (by decide) (by decide) ?_
                    show Steps _ _ _ (s₁.setTop (mkF m 95 #[.val (.int p1)] [])) _
                    refine XS.iloadN X0.here hx rfl (hb hby own_d1_95) rfl ?_
                    refine XS.sipush X0.here hx rfl (hb hby own_d1_96) ?_
                    refine XS.icmpYes X0.here hx rfl (pc0 := 99) (pc' := 109) rfl (hb hby own_d1_99) rfl (tlt (own_lt_of (b := (8204 : Int32)) (k := 8204) rfl (by have := rng32 p1; omega))).1 (by decide) (by decide) ?_
                    refine XS.iloadN X0.here hx rfl (hb hby own_d1_109) rfl ?_
                    show Steps _ _ _ (s₁.setTop (mkF m 110 #[.val (.int p1)] [(.int p1)])) _
                    refine XS.sipush X0.here hx rfl (hb hby own_d1_110) ?_
                    refine XS.icmpYes X0.here hx rfl (pc0 := 113) (pc' := 123) rfl (hb hby own_d1_113) rfl (tlt (own_lt_of (b := (8304 : Int32)) (k := 8304) rfl (by have := rng32 p1; omega))).1 (by decide) (by decide) ?_
                    refine XS.iloadN X0.here hx rfl (hb hby own_d1_123) rfl ?_
                    refine XS.sipush X0.here hx rfl (hb hby own_d1_124) ?_
                    show Steps _ _ _ (s₁.setTop (mkF m 127 #[.val (.int p1)] [(.int (11264 : Int32)), (.int p1)])) _
                    refine XS.icmpYes X0.here hx rfl (pc0 := 127) (pc' := 137) rfl (hb hby own_d1_127) rfl (tlt (own_lt_of (b := (11264 : Int32)) (k := 11264) rfl (by have := rng32 p1; omega))).1 (by decide) (by decide) ?_
                    refine XS.iloadN X0.here hx rfl (hb hby own_d1_137) rfl ?_
                    refine XS.sipush X0.here hx rfl (hb hby own_d1_138) ?_
                    refine XS.icmpYes X0.here hx rfl (pc0 := 141) (pc' := 150) rfl (hb hby own_d1_141) rfl (tlt (own_lt_of (b := (12289 : Int32)) (k := 12289) rfl (by have := rng32 p1; omega))).1 (by decide) (by decide) ?_
                    show Steps _ _ _ (s₁.setTop (mkF m 150 #[.val (.int p1)] [])) _
                    refine XS.iloadN X0.here hx rfl (hb hby own_d1_150) rfl ?_
                    refine X0.ldcInt hx hown (mvT hZ (own_w24 hw)) (g := (mkF m 151 #[.val (.int p1)] [(.int p1)])) rfl (hb hby own_d1_151) _ ?_
                    refine XS.icmpYes X0.here hx rfl (pc0 := 153) (pc' := 162) rfl (hb hby own_d1_153) rfl (tlt (own_lt_of (b := (63744 : Int32)) (k := 63744) rfl (by have := rng32 p1; omega))).1 (by decide) (by decide) ?_
                    refine XS.iloadN X0.here hx rfl (hb hby own_d1_162) rfl ?_
                    show Steps _ _ _ (s₁.setTop (mkF m 163 #[.val (.int p1)] [(.int p1)])) _
                    refine X0.ldcInt hx hown (mvT hZ (own_w26 hw)) (g := (mkF m 163 #[.val (.int p1)] [(.int p1)])) rfl (hb hby own_d1_163) _ ?_
                    refine XS.icmpYes X0.here hx rfl (pc0 := 165) (pc' := 174) rfl (hb hby own_d1_165) rfl (tlt (own_lt_of (b := (65008 : Int32)) (k := 65008) rfl (by have := rng32 p1; omega))).1 (by decide) (by decide) ?_
                    refine XS.iloadN X0.here hx rfl (hb hby own_d1_174) rfl ?_
                    refine X0.ldcInt hx hown (mvT hZ (own_w28 hw)) (g := (mkF m 175 #[.val (.int p1)] [(.int p1)])) rfl (hb hby own_d1_175) _ ?_
                    show Steps _ _ _ (s₁.setTop (mkF m 177 #[.val (.int p1)] [(.int (65536 : Int32)), (.int p1)])) _
                    refine XS.icmpYes X0.here hx rfl (pc0 := 177) (pc' := 190) rfl (hb hby own_d1_177) rfl (tlt (own_lt_of (b := (65536 : Int32)) (k := 65536) rfl (by have := rng32 p1; omega))).1 (by decide) (by decide) ?_
                    refine XS.iconst X0.here hx rfl (hb hby own_d1_190) ?_
                    show Steps _ _ _ (s₁.setTop (mkF m 191 #[.val (.int p1)] [(.int (0 : Int32))])) _
                    exact retN X0 hx (t := .boolean) Bd.returns (by simp) (hb hby own_d1_191) hr
                  · show Qown_ns Z p1 ar ac h0 n0 _ s₁.heap _
                    rw [e0]
                    exact ⟨congrArg (fun z => some (Value.int z)) (by unfold own_f; exact (if_neg (by omega)).symm), N0, rfl⟩
                · skip
                  have ihc71_121 := (mt (own_lt (b := (880 : Int32)) (k := 880) rfl).mpr hc71_121)
                  have pre122 : ∀ t, Steps p.tables e below (s₁.setTop (mkF m 78 #[.val (.int p1)] [(.int (893 : Int32)), (.int p1)])) t → Steps p.tables e below (s₁.setTop (entryFrame m #[(.int p1)] 1)) t := fun t kt => pre120 t (by
                    show Steps _ _ _ (s₁.setTop (mkF m 71 #[.val (.int p1)] [(.int (880 : Int32)), (.int p1)])) _
                    refine XS.icmpNo X0.here hx rfl (hb hby own_d1_71) rfl (flt hc71_121).1 ?_
                    refine XS.iloadN X0.here hx rfl (hb hby own_d1_74) rfl ?_
                    refine XS.sipush X0.here hx rfl (hb hby own_d1_75) ?_
                    exact kt)
                  by_cases hc78_123 : (893 : Int32) < p1
                  · skip
                    have ihc78_123 := (own_gt (a := (893 : Int32)) (k := 893) rfl).mp hc78_123
                    have pre124 : ∀ t, Steps p.tables e below (s₁.setTop (mkF m 85 #[.val (.int p1)] [(.int (895 : Int32)), (.int p1)])) t → Steps p.tables e below (s₁.setTop (entryFrame m #[(.int p1)] 1)) t := fun t kt => pre122 t (by
                      show Steps _ _ _ (s₁.setTop (mkF m 78 #[.val (.int p1)] [(.int (893 : Int32)), (.int p1)])) _
                      refine XS.icmpNo X0.here hx rfl (hb hby own_d1_78) rfl (tlt hc78_123).2.2.2 ?_
                      refine XS.iloadN X0.here hx rfl (hb hby own_d1_81) rfl ?_
                      refine XS.sipush X0.here hx rfl (hb hby own_d1_82) ?_
                      exact kt)
                    by_cases hc85_125 : p1 < (895 : Int32)
                    · skip
                      have ihc85_125 := (own_lt (b := (895 : Int32)) (k := 895) rfl).mp hc85_125
                      obtain ⟨fs, hr, hrun, hended, hW, hsame⟩ := X0.leave (v := some (.int (0 : Int32))) (fun h => by rw [Bd.returns] at h; cases h)
                      refine ⟨_, _, pre124 _ ?_, hrun, hended, _, _, rfl, ?_, ⟨_, rfl⟩, hW, hsame.mono (by decide) (by decide)⟩
                      · show Steps _ _ _ (s₁.setTop (mkF m 85 #[.val (.int p1)] [(.int (895 : Int32)), (.int p1)])) _
                        refine XS.icmpYes X0.here hx rfl (pc0 := 85) (pc' := 95) rfl (hb hby own_d1_85) rfl (tlt hc85_125).1 (by decide) (by decide) ?_
                        refine XS.iloadN X0.here hx rfl (hb hby own_d1_95) rfl ?_
                        refine XS.sipush X0.here hx rfl (hb hby own_d1_96) ?_
                        refine XS.icmpYes X0.here hx rfl (pc0 := 99) (pc' := 109) rfl (hb hby own_d1_99) rfl (tlt (own_lt_of (b := (8204 : Int32)) (k := 8204) rfl (by have := rng32 p1; omega))).1 (by decide) (by decide) ?_
                        show Steps _ _ _ (s₁.setTop (mkF m 109 #[.val (.int p1)] [])) _
                        refine XS.iloadN X0.here hx rfl (hb hby own_d1_109) rfl ?_
                        refine XS.sipush X0.here hx rfl (hb hby own_d1_110) ?_
                        refine XS.icmpYes X0.here hx rfl (pc0 := 113) (pc' := 123) rfl (hb hby own_d1_113) rfl (tlt (own_lt_of (b := (8304 : Int32)) (k := 8304) rfl (by have := rng32 p1; omega))).1 (by decide) (by decide) ?_
                        refine XS.iloadN X0.here hx rfl (hb hby own_d1_123) rfl ?_
                        show Steps _ _ _ (s₁.setTop (mkF m 124 #[.val (.int p1)] [(.int p1)])) _
                        refine XS.sipush X0.here hx rfl (hb hby own_d1_124) ?_
                        refine XS.icmpYes X0.here hx rfl (pc0 := 127) (pc' := 137) rfl (hb hby own_d1_127) rfl (tlt (own_lt_of (b := (11264 : Int32)) (k := 11264) rfl (by have := rng32 p1; omega))).1 (by decide) (by decide) ?_
                        refine XS.iloadN X0.here hx rfl (hb hby own_d1_137) rfl ?_
                        refine XS.sipush X0.here hx rfl (hb hby own_d1_138) ?_
                        show Steps _ _ _ (s₁.setTop (mkF m 141 #[.val (.int p1)] [(.int (12289 : Int32)), (.int p1)])) _
                        refine XS.icmpYes X0.here hx rfl (pc0 := 141) (pc' := 150) rfl (hb hby own_d1_141) rfl (tlt (own_lt_of (b := (12289 : Int32)) (k := 12289) rfl (by have := rng32 p1; omega))).1 (by decide) (by decide) ?_
                        refine XS.iloadN X0.here hx rfl (hb hby own_d1_150) rfl ?_
                        refine X0.ldcInt hx hown (mvT hZ (own_w24 hw)) (g := (mkF m 151 #[.val (.int p1)] [(.int p1)])) rfl (hb hby own_d1_151) _ ?_
                        refine XS.icmpYes X0.here hx rfl (pc0 := 153) (pc' := 162) rfl (hb hby own_d1_153) rfl (tlt (own_lt_of (b := (63744 : Int32)) (k := 63744) rfl (by have := rng32 p1; omega))).1 (by decide) (by decide) ?_
                        show Steps _ _ _ (s₁.setTop (mkF m 162 #[.val (.int p1)] [])) _
                        refine XS.iloadN X0.here hx rfl (hb hby own_d1_162) rfl ?_
                        refine X0.ldcInt hx hown (mvT hZ (own_w26 hw)) (g := (mkF m 163 #[.val (.int p1)] [(.int p1)])) rfl (hb hby own_d1_163) _ ?_
                        refine XS.icmpYes X0.here hx rfl (pc0 := 165) (pc' := 174) rfl (hb hby own_d1_165) rfl (tlt (own_lt_of (b := (65008 : Int32)) (k := 65008) rfl (by have := rng32 p1; omega))).1 (by decide) (by decide) ?_
                        refine XS.iloadN X0.here hx rfl (hb hby own_d1_174) rfl ?_
                        show Steps _ _ _ (s₁.setTop (mkF m 175 #[.val (.int p1)] [(.int p1)])) _
                        refine X0.ldcInt hx hown (mvT hZ (own_w28 hw)) (g := (mkF m 175 #[.val (.int p1)] [(.int p1)])) rfl (hb hby own_d1_175) _ ?_
                        refine XS.icmpYes X0.here hx rfl (pc0 := 177) (pc' := 190) rfl (hb hby own_d1_177) rfl (tlt (own_lt_of (b := (65536 : Int32)) (k := 65536) rfl (by have := rng32 p1; omega))).1 (by decide) (by decide) ?_
                        refine XS.iconst X0.here hx rfl (hb hby own_d1_190) ?_
                        show Steps _ _ _ (s₁.setTop (mkF m 191 #[.val (.int p1)] [(.int (0 : Int32))])) _
                        exact retN X0 hx (t := .boolean) Bd.returns (by simp) (hb hby own_d1_191) hr
                      · show Qown_ns Z p1 ar ac h0 n0 _ s₁.heap _
                        rw [e0]
                        exact ⟨congrArg (fun z => some (Value.int z)) (by unfold own_f; exact (if_neg (by omega)).symm), N0, rfl⟩
                    · skip
                      have ihc85_125 := (mt (own_lt (b := (895 : Int32)) (k := 895) rfl).mpr hc85_125)
                      have pre126 : ∀ t, Steps p.tables e below (s₁.setTop (mkF m 92 #[.val (.int p1)] [(.int (8191 : Int32)), (.int p1)])) t → Steps p.tables e below (s₁.setTop (entryFrame m #[(.int p1)] 1)) t := fun t kt => pre124 t (by
                        show Steps _ _ _ (s₁.setTop (mkF m 85 #[.val (.int p1)] [(.int (895 : Int32)), (.int p1)])) _
                        refine XS.icmpNo X0.here hx rfl (hb hby own_d1_85) rfl (flt hc85_125).1 ?_
                        refine XS.iloadN X0.here hx rfl (hb hby own_d1_88) rfl ?_
                        refine XS.sipush X0.here hx rfl (hb hby own_d1_89) ?_
                        exact kt)
                      by_cases hc92_127 : (8191 : Int32) < p1
                      · skip
                        have ihc92_127 := (own_gt (a := (8191 : Int32)) (k := 8191) rfl).mp hc92_127
                        have pre128 : ∀ t, Steps p.tables e below (s₁.setTop (mkF m 99 #[.val (.int p1)] [(.int (8204 : Int32)), (.int p1)])) t → Steps p.tables e below (s₁.setTop (entryFrame m #[(.int p1)] 1)) t := fun t kt => pre126 t (by
                          show Steps _ _ _ (s₁.setTop (mkF m 92 #[.val (.int p1)] [(.int (8191 : Int32)), (.int p1)])) _
                          refine XS.icmpNo X0.here hx rfl (hb hby own_d1_92) rfl (tlt hc92_127).2.2.2 ?_
                          refine XS.iloadN X0.here hx rfl (hb hby own_d1_95) rfl ?_
                          refine XS.sipush X0.here hx rfl (hb hby own_d1_96) ?_
                          exact kt)
                        by_cases hc99_129 : p1 < (8204 : Int32)
                        · skip
                          have ihc99_129 := (own_lt (b := (8204 : Int32)) (k := 8204) rfl).mp hc99_129
                          obtain ⟨fs, hr, hrun, hended, hW, hsame⟩ := X0.leave (v := some (.int (0 : Int32))) (fun h => by rw [Bd.returns] at h; cases h)
                          refine ⟨_, _, pre128 _ ?_, hrun, hended, _, _, rfl, ?_, ⟨_, rfl⟩, hW, hsame.mono (by decide) (by decide)⟩
                          · show Steps _ _ _ (s₁.setTop (mkF m 99 #[.val (.int p1)] [(.int (8204 : Int32)), (.int p1)])) _
                            refine XS.icmpYes X0.here hx rfl (pc0 := 99) (pc' := 109) rfl (hb hby own_d1_99) rfl (tlt hc99_129).1 (by decide) (by decide) ?_
                            refine XS.iloadN X0.here hx rfl (hb hby own_d1_109) rfl ?_
                            refine XS.sipush X0.here hx rfl (hb hby own_d1_110) ?_
                            refine XS.icmpYes X0.here hx rfl (pc0 := 113) (pc' := 123) rfl (hb hby own_d1_113) rfl (tlt (own_lt_of (b := (8304 : Int32)) (k := 8304) rfl (by have := rng32 p1; omega))).1 (by decide) (by decide) ?_
                            show Steps _ _ _ (s₁.setTop (mkF m 123 #[.val (.int p1)] [])) _
                            refine XS.iloadN X0.here hx rfl (hb hby own_d1_123) rfl ?_
                            refine XS.sipush X0.here hx rfl (hb hby own_d1_124) ?_
                            refine XS.icmpYes X0.here hx rfl (pc0 := 127) (pc' := 137) rfl (hb hby own_d1_127) rfl (tlt (own_lt_of (b := (11264 : Int32)) (k := 11264) rfl (by have := rng32 p1; omega))).1 (by decide) (by decide) ?_
                            refine XS.iloadN X0.here hx rfl (hb hby own_d1_137) rfl ?_
                            show Steps _ _ _ (s₁.setTop (mkF m 138 #[.val (.int p1)] [(.int p1)])) _
                            refine XS.sipush X0.here hx rfl (hb hby own_d1_138) ?_
                            refine XS.icmpYes X0.here hx rfl (pc0 := 141) (pc' := 150) rfl (hb hby own_d1_141) rfl (tlt (own_lt_of (b := (12289 : Int32)) (k := 12289) rfl (by have := rng32 p1; omega))).1 (by decide) (by decide) ?_
                            refine XS.iloadN X0.here hx rfl (hb hby own_d1_150) rfl ?_
                            refine X0.ldcInt hx hown (mvT hZ (own_w24 hw)) (g := (mkF m 151 #[.val (.int p1)] [(.int p1)])) rfl (hb hby own_d1_151) _ ?_
                            show Steps _ _ _ (s₁.setTop (mkF m 153 #[.val (.int p1)] [(.int (63744 : Int32)), (.int p1)])) _
                            refine XS.icmpYes X0.here hx rfl (pc0 := 153) (pc' := 162) rfl (hb hby own_d1_153) rfl (tlt (own_lt_of (b := (63744 : Int32)) (k := 63744) rfl (by have := rng32 p1; omega))).1 (by decide) (by decide) ?_
                            refine XS.iloadN X0.here hx rfl (hb hby own_d1_162) rfl ?_
                            refine X0.ldcInt hx hown (mvT hZ (own_w26 hw)) (g := (mkF m 163 #[.val (.int p1)] [(.int p1)])) rfl (hb hby own_d1_163) _ ?_
                            refine XS.icmpYes X0.here hx rfl (pc0 := 165) (pc' := 174) rfl (hb hby own_d1_165) rfl (tlt (own_lt_of (b := (65008 : Int32)) (k := 65008) rfl (by have := rng32 p1; omega))).1 (by decide) (by decide) ?_
                            show Steps _ _ _ (s₁.setTop (mkF m 174 #[.val (.int p1)] [])) _
                            refine XS.iloadN X0.here hx rfl (hb hby own_d1_174) rfl ?_
                            refine X0.ldcInt hx hown (mvT hZ (own_w28 hw)) (g := (mkF m 175 #[.val (.int p1)] [(.int p1)])) rfl (hb hby own_d1_175) _ ?_
                            refine XS.icmpYes X0.here hx rfl (pc0 := 177) (pc' := 190) rfl (hb hby own_d1_177) rfl (tlt (own_lt_of (b := (65536 : Int32)) (k := 65536) rfl (by have := rng32 p1; omega))).1 (by decide) (by decide) ?_
                            refine XS.iconst X0.here hx rfl (hb hby own_d1_190) ?_
                            show Steps _ _ _ (s₁.setTop (mkF m 191 #[.val (.int p1)] [(.int (0 : Int32))])) _
                            exact retN X0 hx (t := .boolean) Bd.returns (by simp) (hb hby own_d1_191) hr
                          · show Qown_ns Z p1 ar ac h0 n0 _ s₁.heap _
                            rw [e0]
                            exact ⟨congrArg (fun z => some (Value.int z)) (by unfold own_f; exact (if_neg (by omega)).symm), N0, rfl⟩
                        · skip
                          have ihc99_129 := (mt (own_lt (b := (8204 : Int32)) (k := 8204) rfl).mpr hc99_129)
                          have pre130 : ∀ t, Steps p.tables e below (s₁.setTop (mkF m 106 #[.val (.int p1)] [(.int (8205 : Int32)), (.int p1)])) t → Steps p.tables e below (s₁.setTop (entryFrame m #[(.int p1)] 1)) t := fun t kt => pre128 t (by
                            show Steps _ _ _ (s₁.setTop (mkF m 99 #[.val (.int p1)] [(.int (8204 : Int32)), (.int p1)])) _
                            refine XS.icmpNo X0.here hx rfl (hb hby own_d1_99) rfl (flt hc99_129).1 ?_
                            refine XS.iloadN X0.here hx rfl (hb hby own_d1_102) rfl ?_
                            refine XS.sipush X0.here hx rfl (hb hby own_d1_103) ?_
                            exact kt)
                          by_cases hc106_131 : (8205 : Int32) < p1
                          · skip
                            have ihc106_131 := (own_gt (a := (8205 : Int32)) (k := 8205) rfl).mp hc106_131
                            have pre132 : ∀ t, Steps p.tables e below (s₁.setTop (mkF m 113 #[.val (.int p1)] [(.int (8304 : Int32)), (.int p1)])) t → Steps p.tables e below (s₁.setTop (entryFrame m #[(.int p1)] 1)) t := fun t kt => pre130 t (by
                              show Steps _ _ _ (s₁.setTop (mkF m 106 #[.val (.int p1)] [(.int (8205 : Int32)), (.int p1)])) _
                              refine XS.icmpNo X0.here hx rfl (hb hby own_d1_106) rfl (tlt hc106_131).2.2.2 ?_
                              refine XS.iloadN X0.here hx rfl (hb hby own_d1_109) rfl ?_
                              refine XS.sipush X0.here hx rfl (hb hby own_d1_110) ?_
                              exact kt)
                            by_cases hc113_133 : p1 < (8304 : Int32)
                            · skip
                              have ihc113_133 := (own_lt (b := (8304 : Int32)) (k := 8304) rfl).mp hc113_133
                              obtain ⟨fs, hr, hrun, hended, hW, hsame⟩ := X0.leave (v := some (.int (0 : Int32))) (fun h => by rw [Bd.returns] at h; cases h)
                              refine ⟨_, _, pre132 _ ?_, hrun, hended, _, _, rfl, ?_, ⟨_, rfl⟩, hW, hsame.mono (by decide) (by decide)⟩
                              · show Steps _ _ _ (s₁.setTop (mkF m 113 #[.val (.int p1)] [(.int (8304 : Int32)), (.int p1)])) _
                                refine XS.icmpYes X0.here hx rfl (pc0 := 113) (pc' := 123) rfl (hb hby own_d1_113) rfl (tlt hc113_133).1 (by decide) (by decide) ?_
                                refine XS.iloadN X0.here hx rfl (hb hby own_d1_123) rfl ?_
                                refine XS.sipush X0.here hx rfl (hb hby own_d1_124) ?_
                                refine XS.icmpYes X0.here hx rfl (pc0 := 127) (pc' := 137) rfl (hb hby own_d1_127) rfl (tlt (own_lt_of (b := (11264 : Int32)) (k := 11264) rfl (by have := rng32 p1; omega))).1 (by decide) (by decide) ?_
                                show Steps _ _ _ (s₁.setTop (mkF m 137 #[.val (.int p1)] [])) _
                                refine XS.iloadN X0.here hx rfl (hb hby own_d1_137) rfl ?_
                                refine XS.sipush X0.here hx rfl (hb hby own_d1_138) ?_
                                refine XS.icmpYes X0.here hx rfl (pc0 := 141) (pc' := 150) rfl (hb hby own_d1_141) rfl (tlt (own_lt_of (b := (12289 : Int32)) (k := 12289) rfl (by have := rng32 p1; omega))).1 (by decide) (by decide) ?_
                                refine XS.iloadN X0.here hx rfl (hb hby own_d1_150) rfl ?_
                                show Steps _ _ _ (s₁.setTop (mkF m 151 #[.val (.int p1)] [(.int p1)])) _
                                refine X0.ldcInt hx hown (mvT hZ (own_w24 hw)) (g := (mkF m 151 #[.val (.int p1)] [(.int p1)])) rfl (hb hby own_d1_151) _ ?_
                                refine XS.icmpYes X0.here hx rfl (pc0 := 153) (pc' := 162) rfl (hb hby own_d1_153) rfl (tlt (own_lt_of (b := (63744 : Int32)) (k := 63744) rfl (by have := rng32 p1; omega))).1 (by decide) (by decide) ?_
                                refine XS.iloadN X0.here hx rfl (hb hby own_d1_162) rfl ?_
                                refine X0.ldcInt hx hown (mvT hZ (own_w26 hw)) (g := (mkF m 163 #[.val (.int p1)] [(.int p1)])) rfl (hb hby own_d1_163) _ ?_
                                show Steps _ _ _ (s₁.setTop (mkF m 165 #[.val (.int p1)] [(.int (65008 : Int32)), (.int p1)])) _
                                refine XS.icmpYes X0.here hx rfl (pc0 := 165) (pc' := 174) rfl (hb hby own_d1_165) rfl (tlt (own_lt_of (b := (65008 : Int32)) (k := 65008) rfl (by have := rng32 p1; omega))).1 (by decide) (by decide) ?_
                                refine XS.iloadN X0.here hx rfl (hb hby own_d1_174) rfl ?_
                                refine X0.ldcInt hx hown (mvT hZ (own_w28 hw)) (g := (mkF m 175 #[.val (.int p1)] [(.int p1)])) rfl (hb hby own_d1_175) _ ?_
                                refine XS.icmpYes X0.here hx rfl (pc0 := 177) (pc' := 190) rfl (hb hby own_d1_177) rfl (tlt (own_lt_of (b := (65536 : Int32)) (k := 65536) rfl (by have := rng32 p1; omega))).1 (by decide) (by decide) ?_
                                show Steps _ _ _ (s₁.setTop (mkF m 190 #[.val (.int p1)] [])) _
                                refine XS.iconst X0.here hx rfl (hb hby own_d1_190) ?_
                                show Steps _ _ _ (s₁.setTop (mkF m 191 #[.val (.int p1)] [(.int (0 : Int32))])) _
                                exact retN X0 hx (t := .boolean) Bd.returns (by simp) (hb hby own_d1_191) hr
                              · show Qown_ns Z p1 ar ac h0 n0 _ s₁.heap _
                                rw [e0]
                                exact ⟨congrArg (fun z => some (Value.int z)) (by unfold own_f; exact (if_neg (by omega)).symm), N0, rfl⟩
                            · skip
                              have ihc113_133 := (mt (own_lt (b := (8304 : Int32)) (k := 8304) rfl).mpr hc113_133)
                              have pre134 : ∀ t, Steps p.tables e below (s₁.setTop (mkF m 120 #[.val (.int p1)] [(.int (8591 : Int32)), (.int p1)])) t → Steps p.tables e below (s₁.setTop (entryFrame m #[(.int p1)] 1)) t := fun t kt => pre132 t (by
                                show Steps _ _ _ (s₁.setTop (mkF m 113 #[.val (.int p1)] [(.int (8304 : Int32)), (.int p1)])) _
                                refine XS.icmpNo X0.here hx rfl (hb hby own_d1_113) rfl (flt hc113_133).1 ?_
                                refine XS.iloadN X0.here hx rfl (hb hby own_d1_116) rfl ?_
                                refine XS.sipush X0.here hx rfl (hb hby own_d1_117) ?_
                                exact kt)
                              by_cases hc120_135 : (8591 : Int32) < p1
                              · skip
                                have ihc120_135 := (own_gt (a := (8591 : Int32)) (k := 8591) rfl).mp hc120_135
                                have pre136 : ∀ t, Steps p.tables e below (s₁.setTop (mkF m 127 #[.val (.int p1)] [(.int (11264 : Int32)), (.int p1)])) t → Steps p.tables e below (s₁.setTop (entryFrame m #[(.int p1)] 1)) t := fun t kt => pre134 t (by
                                  show Steps _ _ _ (s₁.setTop (mkF m 120 #[.val (.int p1)] [(.int (8591 : Int32)), (.int p1)])) _
                                  refine XS.icmpNo X0.here hx rfl (hb hby own_d1_120) rfl (tlt hc120_135).2.2.2 ?_
                                  refine XS.iloadN X0.here hx rfl (hb hby own_d1_123) rfl ?_
                                  refine XS.sipush X0.here hx rfl (hb hby own_d1_124) ?_
                                  exact kt)
                                by_cases hc127_137 : p1 < (11264 : Int32)
                                · skip
                                  have ihc127_137 := (own_lt (b := (11264 : Int32)) (k := 11264) rfl).mp hc127_137
                                  obtain ⟨fs, hr, hrun, hended, hW, hsame⟩ := X0.leave (v := some (.int (0 : Int32))) (fun h => by rw [Bd.returns] at h; cases h)
                                  refine ⟨_, _, pre136 _ ?_, hrun, hended, _, _, rfl, ?_, ⟨_, rfl⟩, hW, hsame.mono (by decide) (by decide)⟩
                                  · show Steps _ _ _ (s₁.setTop (mkF m 127 #[.val (.int p1)] [(.int (11264 : Int32)), (.int p1)])) _
                                    refine XS.icmpYes X0.here hx rfl (pc0 := 127) (pc' := 137) rfl (hb hby own_d1_127) rfl (tlt hc127_137).1 (by decide) (by decide) ?_
                                    refine XS.iloadN X0.here hx rfl (hb hby own_d1_137) rfl ?_
                                    refine XS.sipush X0.here hx rfl (hb hby own_d1_138) ?_
                                    refine XS.icmpYes X0.here hx rfl (pc0 := 141) (pc' := 150) rfl (hb hby own_d1_141) rfl (tlt (own_lt_of (b := (12289 : Int32)) (k := 12289) rfl (by have := rng32 p1; omega))).1 (by decide) (by decide) ?_
                                    show Steps _ _ _ (s₁.setTop (mkF m 150 #[.val (.int p1)] [])) _
                                    refine XS.iloadN X0.here hx rfl (hb hby own_d1_150) rfl ?_
                                    refine X0.ldcInt hx hown (mvT hZ (own_w24 hw)) (g := (mkF m 151 #[.val (.int p1)] [(.int p1)])) rfl (hb hby own_d1_151) _ ?_
                                    refine XS.icmpYes X0.here hx rfl (pc0 := 153) (pc' := 162) rfl (hb hby own_d1_153) rfl (tlt (own_lt_of (b := (63744 : Int32)) (k := 63744) rfl (by have := rng32 p1; omega))).1 (by decide) (by decide) ?_
                                    refine XS.iloadN X0.here hx rfl (hb hby own_d1_162) rfl ?_
                                    show Steps _ _ _ (s₁.setTop (mkF m 163 #[.val (.int p1)] [(.int p1)])) _
                                    refine X0.ldcInt hx hown (mvT hZ (own_w26 hw)) (g := (mkF m 163 #[.val (.int p1)] [(.int p1)])) rfl (hb hby own_d1_163) _ ?_
                                    refine XS.icmpYes X0.here hx rfl (pc0 := 165) (pc' := 174) rfl (hb hby own_d1_165) rfl (tlt (own_lt_of (b := (65008 : Int32)) (k := 65008) rfl (by have := rng32 p1; omega))).1 (by decide) (by decide) ?_
                                    refine XS.iloadN X0.here hx rfl (hb hby own_d1_174) rfl ?_
                                    refine X0.ldcInt hx hown (mvT hZ (own_w28 hw)) (g := (mkF m 175 #[.val (.int p1)] [(.int p1)])) rfl (hb hby own_d1_175) _ ?_
                                    show Steps _ _ _ (s₁.setTop (mkF m 177 #[.val (.int p1)] [(.int (65536 : Int32)), (.int p1)])) _
                                    refine XS.icmpYes X0.here hx rfl (pc0 := 177) (pc' := 190) rfl (hb hby own_d1_177) rfl (tlt (own_lt_of (b := (65536 : Int32)) (k := 65536) rfl (by have := rng32 p1; omega))).1 (by decide) (by decide) ?_
                                    refine XS.iconst X0.here hx rfl (hb hby own_d1_190) ?_
                                    show Steps _ _ _ (s₁.setTop (mkF m 191 #[.val (.int p1)] [(.int (0 : Int32))])) _
                                    exact retN X0 hx (t := .boolean) Bd.returns (by simp) (hb hby own_d1_191) hr
                                  · show Qown_ns Z p1 ar ac h0 n0 _ s₁.heap _
                                    rw [e0]
                                    exact ⟨congrArg (fun z => some (Value.int z)) (by unfold own_f; exact (if_neg (by omega)).symm), N0, rfl⟩
                                · skip
                                  have ihc127_137 := (mt (own_lt (b := (11264 : Int32)) (k := 11264) rfl).mpr hc127_137)
                                  have pre138 : ∀ t, Steps p.tables e below (s₁.setTop (mkF m 134 #[.val (.int p1)] [(.int (12271 : Int32)), (.int p1)])) t → Steps p.tables e below (s₁.setTop (entryFrame m #[(.int p1)] 1)) t := fun t kt => pre136 t (by
                                    show Steps _ _ _ (s₁.setTop (mkF m 127 #[.val (.int p1)] [(.int (11264 : Int32)), (.int p1)])) _
                                    refine XS.icmpNo X0.here hx rfl (hb hby own_d1_127) rfl (flt hc127_137).1 ?_
                                    refine XS.iloadN X0.here hx rfl (hb hby own_d1_130) rfl ?_
                                    refine XS.sipush X0.here hx rfl (hb hby own_d1_131) ?_
                                    exact kt)
                                  by_cases hc134_139 : (12271 : Int32) < p1
                                  · skip
                                    have ihc134_139 := (own_gt (a := (12271 : Int32)) (k := 12271) rfl).mp hc134_139
                                    have pre140 : ∀ t, Steps p.tables e below (s₁.setTop (mkF m 141 #[.val (.int p1)] [(.int (12289 : Int32)), (.int p1)])) t → Steps p.tables e below (s₁.setTop (entryFrame m #[(.int p1)] 1)) t := fun t kt => pre138 t (by
                                      show Steps _ _ _ (s₁.setTop (mkF m 134 #[.val (.int p1)] [(.int (12271 : Int32)), (.int p1)])) _
                                      refine XS.icmpNo X0.here hx rfl (hb hby own_d1_134) rfl (tlt hc134_139).2.2.2 ?_
                                      refine XS.iloadN X0.here hx rfl (hb hby own_d1_137) rfl ?_
                                      refine XS.sipush X0.here hx rfl (hb hby own_d1_138) ?_
                                      exact kt)
                                    by_cases hc141_141 : p1 < (12289 : Int32)
                                    · skip
                                      have ihc141_141 := (own_lt (b := (12289 : Int32)) (k := 12289) rfl).mp hc141_141
                                      obtain ⟨fs, hr, hrun, hended, hW, hsame⟩ := X0.leave (v := some (.int (0 : Int32))) (fun h => by rw [Bd.returns] at h; cases h)
                                      refine ⟨_, _, pre140 _ ?_, hrun, hended, _, _, rfl, ?_, ⟨_, rfl⟩, hW, hsame.mono (by decide) (by decide)⟩
                                      · show Steps _ _ _ (s₁.setTop (mkF m 141 #[.val (.int p1)] [(.int (12289 : Int32)), (.int p1)])) _
                                        refine XS.icmpYes X0.here hx rfl (pc0 := 141) (pc' := 150) rfl (hb hby own_d1_141) rfl (tlt hc141_141).1 (by decide) (by decide) ?_
                                        refine XS.iloadN X0.here hx rfl (hb hby own_d1_150) rfl ?_
                                        refine X0.ldcInt hx hown (mvT hZ (own_w24 hw)) (g := (mkF m 151 #[.val (.int p1)] [(.int p1)])) rfl (hb hby own_d1_151) _ ?_
                                        refine XS.icmpYes X0.here hx rfl (pc0 := 153) (pc' := 162) rfl (hb hby own_d1_153) rfl (tlt (own_lt_of (b := (63744 : Int32)) (k := 63744) rfl (by have := rng32 p1; omega))).1 (by decide) (by decide) ?_
                                        show Steps _ _ _ (s₁.setTop (mkF m 162 #[.val (.int p1)] [])) _
                                        refine XS.iloadN X0.here hx rfl (hb hby own_d1_162) rfl ?_
                                        refine X0.ldcInt hx hown (mvT hZ (own_w26 hw)) (g := (mkF m 163 #[.val (.int p1)] [(.int p1)])) rfl (hb hby own_d1_163) _ ?_
                                        refine XS.icmpYes X0.here hx rfl (pc0 := 165) (pc' := 174) rfl (hb hby own_d1_165) rfl (tlt (own_lt_of (b := (65008 : Int32)) (k := 65008) rfl (by have := rng32 p1; omega))).1 (by decide) (by decide) ?_
                                        refine XS.iloadN X0.here hx rfl (hb hby own_d1_174) rfl ?_
                                        show Steps _ _ _ (s₁.setTop (mkF m 175 #[.val (.int p1)] [(.int p1)])) _
                                        refine X0.ldcInt hx hown (mvT hZ (own_w28 hw)) (g := (mkF m 175 #[.val (.int p1)] [(.int p1)])) rfl (hb hby own_d1_175) _ ?_
                                        refine XS.icmpYes X0.here hx rfl (pc0 := 177) (pc' := 190) rfl (hb hby own_d1_177) rfl (tlt (own_lt_of (b := (65536 : Int32)) (k := 65536) rfl (by have := rng32 p1; omega))).1 (by decide) (by decide) ?_
                                        refine XS.iconst X0.here hx rfl (hb hby own_d1_190) ?_
                                        show Steps _ _ _ (s₁.setTop (mkF m 191 #[.val (.int p1)] [(.int (0 : Int32))])) _
                                        exact retN X0 hx (t := .boolean) Bd.returns (by simp) (hb hby own_d1_191) hr
                                      · show Qown_ns Z p1 ar ac h0 n0 _ s₁.heap _
                                        rw [e0]
                                        exact ⟨congrArg (fun z => some (Value.int z)) (by unfold own_f; exact (if_neg (by omega)).symm), N0, rfl⟩
                                    · skip
                                      have ihc141_141 := (mt (own_lt (b := (12289 : Int32)) (k := 12289) rfl).mpr hc141_141)
                                      have pre142 : ∀ t, Steps p.tables e below (s₁.setTop (mkF m 147 #[.val (.int p1)] [(.int (55295 : Int32)), (.int p1)])) t → Steps p.tables e below (s₁.setTop (entryFrame m #[(.int p1)] 1)) t := fun t kt => pre140 t (by
                                        show Steps _ _ _ (s₁.setTop (mkF m 141 #[.val (.int p1)] [(.int (12289 : Int32)), (.int p1)])) _
                                        refine XS.icmpNo X0.here hx rfl (hb hby own_d1_141) rfl (flt hc141_141).1 ?_
                                        refine XS.iloadN X0.here hx rfl (hb hby own_d1_144) rfl ?_
                                        refine X0.ldcInt hx hown (mvT hZ (own_w23 hw)) (g := (mkF m 145 #[.val (.int p1)] [(.int p1)])) rfl (hb hby own_d1_145) _ ?_
                                        exact kt)
                                      by_cases hc147_143 : (55295 : Int32) < p1
                                      · skip
                                        have ihc147_143 := (own_gt (a := (55295 : Int32)) (k := 55295) rfl).mp hc147_143
                                        have pre144 : ∀ t, Steps p.tables e below (s₁.setTop (mkF m 153 #[.val (.int p1)] [(.int (63744 : Int32)), (.int p1)])) t → Steps p.tables e below (s₁.setTop (entryFrame m #[(.int p1)] 1)) t := fun t kt => pre142 t (by
                                          show Steps _ _ _ (s₁.setTop (mkF m 147 #[.val (.int p1)] [(.int (55295 : Int32)), (.int p1)])) _
                                          refine XS.icmpNo X0.here hx rfl (hb hby own_d1_147) rfl (tlt hc147_143).2.2.2 ?_
                                          refine XS.iloadN X0.here hx rfl (hb hby own_d1_150) rfl ?_
                                          refine X0.ldcInt hx hown (mvT hZ (own_w24 hw)) (g := (mkF m 151 #[.val (.int p1)] [(.int p1)])) rfl (hb hby own_d1_151) _ ?_
                                          exact kt)
                                        by_cases hc153_145 : p1 < (63744 : Int32)
                                        · skip
                                          have ihc153_145 := (own_lt (b := (63744 : Int32)) (k := 63744) rfl).mp hc153_145
                                          obtain ⟨fs, hr, hrun, hended, hW, hsame⟩ := X0.leave (v := some (.int (0 : Int32))) (fun h => by rw [Bd.returns] at h; cases h)
                                          refine ⟨_, _, pre144 _ ?_, hrun, hended, _, _, rfl, ?_, ⟨_, rfl⟩, hW, hsame.mono (by decide) (by decide)⟩
                                          · show Steps _ _ _ (s₁.setTop (mkF m 153 #[.val (.int p1)] [(.int (63744 : Int32)), (.int p1)])) _
                                            refine XS.icmpYes X0.here hx rfl (pc0 := 153) (pc' := 162) rfl (hb hby own_d1_153) rfl (tlt hc153_145).1 (by decide) (by decide) ?_
                                            refine XS.iloadN X0.here hx rfl (hb hby own_d1_162) rfl ?_
                                            refine X0.ldcInt hx hown (mvT hZ (own_w26 hw)) (g := (mkF m 163 #[.val (.int p1)] [(.int p1)])) rfl (hb hby own_d1_163) _ ?_
                                            refine XS.icmpYes X0.here hx rfl (pc0 := 165) (pc' := 174) rfl (hb hby own_d1_165) rfl (tlt (own_lt_of (b := (65008 : Int32)) (k := 65008) rfl (by have := rng32 p1; omega))).1 (by decide) (by decide) ?_
                                            show Steps _ _ _ (s₁.setTop (mkF m 174 #[.val (.int p1)] [])) _
                                            refine XS.iloadN X0.here hx rfl (hb hby own_d1_174) rfl ?_
                                            refine X0.ldcInt hx hown (mvT hZ (own_w28 hw)) (g := (mkF m 175 #[.val (.int p1)] [(.int p1)])) rfl (hb hby own_d1_175) _ ?_
                                            refine XS.icmpYes X0.here hx rfl (pc0 := 177) (pc' := 190) rfl (hb hby own_d1_177) rfl (tlt (own_lt_of (b := (65536 : Int32)) (k := 65536) rfl (by have := rng32 p1; omega))).1 (by decide) (by decide) ?_
                                            refine XS.iconst X0.here hx rfl (hb hby own_d1_190) ?_
                                            show Steps _ _ _ (s₁.setTop (mkF m 191 #[.val (.int p1)] [(.int (0 : Int32))])) _
                                            exact retN X0 hx (t := .boolean) Bd.returns (by simp) (hb hby own_d1_191) hr
                                          · show Qown_ns Z p1 ar ac h0 n0 _ s₁.heap _
                                            rw [e0]
                                            exact ⟨congrArg (fun z => some (Value.int z)) (by unfold own_f; exact (if_neg (by omega)).symm), N0, rfl⟩
                                        · skip
                                          have ihc153_145 := (mt (own_lt (b := (63744 : Int32)) (k := 63744) rfl).mpr hc153_145)
                                          have pre146 : ∀ t, Steps p.tables e below (s₁.setTop (mkF m 159 #[.val (.int p1)] [(.int (64975 : Int32)), (.int p1)])) t → Steps p.tables e below (s₁.setTop (entryFrame m #[(.int p1)] 1)) t := fun t kt => pre144 t (by
                                            show Steps _ _ _ (s₁.setTop (mkF m 153 #[.val (.int p1)] [(.int (63744 : Int32)), (.int p1)])) _
                                            refine XS.icmpNo X0.here hx rfl (hb hby own_d1_153) rfl (flt hc153_145).1 ?_
                                            refine XS.iloadN X0.here hx rfl (hb hby own_d1_156) rfl ?_
                                            refine X0.ldcInt hx hown (mvT hZ (own_w25 hw)) (g := (mkF m 157 #[.val (.int p1)] [(.int p1)])) rfl (hb hby own_d1_157) _ ?_
                                            exact kt)
                                          by_cases hc159_147 : (64975 : Int32) < p1
                                          · skip
                                            have ihc159_147 := (own_gt (a := (64975 : Int32)) (k := 64975) rfl).mp hc159_147
                                            have pre148 : ∀ t, Steps p.tables e below (s₁.setTop (mkF m 165 #[.val (.int p1)] [(.int (65008 : Int32)), (.int p1)])) t → Steps p.tables e below (s₁.setTop (entryFrame m #[(.int p1)] 1)) t := fun t kt => pre146 t (by
                                              show Steps _ _ _ (s₁.setTop (mkF m 159 #[.val (.int p1)] [(.int (64975 : Int32)), (.int p1)])) _
                                              refine XS.icmpNo X0.here hx rfl (hb hby own_d1_159) rfl (tlt hc159_147).2.2.2 ?_
                                              refine XS.iloadN X0.here hx rfl (hb hby own_d1_162) rfl ?_
                                              refine X0.ldcInt hx hown (mvT hZ (own_w26 hw)) (g := (mkF m 163 #[.val (.int p1)] [(.int p1)])) rfl (hb hby own_d1_163) _ ?_
                                              exact kt)
                                            by_cases hc165_149 : p1 < (65008 : Int32)
                                            · skip
                                              have ihc165_149 := (own_lt (b := (65008 : Int32)) (k := 65008) rfl).mp hc165_149
                                              obtain ⟨fs, hr, hrun, hended, hW, hsame⟩ := X0.leave (v := some (.int (0 : Int32))) (fun h => by rw [Bd.returns] at h; cases h)
                                              refine ⟨_, _, pre148 _ ?_, hrun, hended, _, _, rfl, ?_, ⟨_, rfl⟩, hW, hsame.mono (by decide) (by decide)⟩
                                              · show Steps _ _ _ (s₁.setTop (mkF m 165 #[.val (.int p1)] [(.int (65008 : Int32)), (.int p1)])) _
                                                refine XS.icmpYes X0.here hx rfl (pc0 := 165) (pc' := 174) rfl (hb hby own_d1_165) rfl (tlt hc165_149).1 (by decide) (by decide) ?_
                                                refine XS.iloadN X0.here hx rfl (hb hby own_d1_174) rfl ?_
                                                refine X0.ldcInt hx hown (mvT hZ (own_w28 hw)) (g := (mkF m 175 #[.val (.int p1)] [(.int p1)])) rfl (hb hby own_d1_175) _ ?_
                                                refine XS.icmpYes X0.here hx rfl (pc0 := 177) (pc' := 190) rfl (hb hby own_d1_177) rfl (tlt (own_lt_of (b := (65536 : Int32)) (k := 65536) rfl (by have := rng32 p1; omega))).1 (by decide) (by decide) ?_
                                                show Steps _ _ _ (s₁.setTop (mkF m 190 #[.val (.int p1)] [])) _
                                                refine XS.iconst X0.here hx rfl (hb hby own_d1_190) ?_
                                                show Steps _ _ _ (s₁.setTop (mkF m 191 #[.val (.int p1)] [(.int (0 : Int32))])) _
                                                exact retN X0 hx (t := .boolean) Bd.returns (by simp) (hb hby own_d1_191) hr
                                              · show Qown_ns Z p1 ar ac h0 n0 _ s₁.heap _
                                                rw [e0]
                                                exact ⟨congrArg (fun z => some (Value.int z)) (by unfold own_f; exact (if_neg (by omega)).symm), N0, rfl⟩
                                            · skip
                                              have ihc165_149 := (mt (own_lt (b := (65008 : Int32)) (k := 65008) rfl).mpr hc165_149)
                                              have pre150 : ∀ t, Steps p.tables e below (s₁.setTop (mkF m 171 #[.val (.int p1)] [(.int (65533 : Int32)), (.int p1)])) t → Steps p.tables e below (s₁.setTop (entryFrame m #[(.int p1)] 1)) t := fun t kt => pre148 t (by
                                                show Steps _ _ _ (s₁.setTop (mkF m 165 #[.val (.int p1)] [(.int (65008 : Int32)), (.int p1)])) _
                                                refine XS.icmpNo X0.here hx rfl (hb hby own_d1_165) rfl (flt hc165_149).1 ?_
                                                refine XS.iloadN X0.here hx rfl (hb hby own_d1_168) rfl ?_
                                                refine X0.ldcInt hx hown (mvT hZ (own_w27 hw)) (g := (mkF m 169 #[.val (.int p1)] [(.int p1)])) rfl (hb hby own_d1_169) _ ?_
                                                exact kt)
                                              by_cases hc171_151 : (65533 : Int32) < p1
                                              · skip
                                                have ihc171_151 := (own_gt (a := (65533 : Int32)) (k := 65533) rfl).mp hc171_151
                                                have pre152 : ∀ t, Steps p.tables e below (s₁.setTop (mkF m 177 #[.val (.int p1)] [(.int (65536 : Int32)), (.int p1)])) t → Steps p.tables e below (s₁.setTop (entryFrame m #[(.int p1)] 1)) t := fun t kt => pre150 t (by
                                                  show Steps _ _ _ (s₁.setTop (mkF m 171 #[.val (.int p1)] [(.int (65533 : Int32)), (.int p1)])) _
                                                  refine XS.icmpNo X0.here hx rfl (hb hby own_d1_171) rfl (tlt hc171_151).2.2.2 ?_
                                                  refine XS.iloadN X0.here hx rfl (hb hby own_d1_174) rfl ?_
                                                  refine X0.ldcInt hx hown (mvT hZ (own_w28 hw)) (g := (mkF m 175 #[.val (.int p1)] [(.int p1)])) rfl (hb hby own_d1_175) _ ?_
                                                  exact kt)
                                                by_cases hc177_153 : p1 < (65536 : Int32)
                                                · skip
                                                  have ihc177_153 := (own_lt (b := (65536 : Int32)) (k := 65536) rfl).mp hc177_153
                                                  obtain ⟨fs, hr, hrun, hended, hW, hsame⟩ := X0.leave (v := some (.int (0 : Int32))) (fun h => by rw [Bd.returns] at h; cases h)
                                                  refine ⟨_, _, pre152 _ ?_, hrun, hended, _, _, rfl, ?_, ⟨_, rfl⟩, hW, hsame.mono (by decide) (by decide)⟩
                                                  · show Steps _ _ _ (s₁.setTop (mkF m 177 #[.val (.int p1)] [(.int (65536 : Int32)), (.int p1)])) _
                                                    refine XS.icmpYes X0.here hx rfl (pc0 := 177) (pc' := 190) rfl (hb hby own_d1_177) rfl (tlt hc177_153).1 (by decide) (by decide) ?_
                                                    refine XS.iconst X0.here hx rfl (hb hby own_d1_190) ?_
                                                    show Steps _ _ _ (s₁.setTop (mkF m 191 #[.val (.int p1)] [(.int (0 : Int32))])) _
                                                    exact retN X0 hx (t := .boolean) Bd.returns (by simp) (hb hby own_d1_191) hr
                                                  · show Qown_ns Z p1 ar ac h0 n0 _ s₁.heap _
                                                    rw [e0]
                                                    exact ⟨congrArg (fun z => some (Value.int z)) (by unfold own_f; exact (if_neg (by omega)).symm), N0, rfl⟩
                                                · skip
                                                  have ihc177_153 := (mt (own_lt (b := (65536 : Int32)) (k := 65536) rfl).mpr hc177_153)
                                                  have pre154 : ∀ t, Steps p.tables e below (s₁.setTop (mkF m 183 #[.val (.int p1)] [(.int (983039 : Int32)), (.int p1)])) t → Steps p.tables e below (s₁.setTop (entryFrame m #[(.int p1)] 1)) t := fun t kt => pre152 t (by
                                                    show Steps _ _ _ (s₁.setTop (mkF m 177 #[.val (.int p1)] [(.int (65536 : Int32)), (.int p1)])) _
                                                    refine XS.icmpNo X0.here hx rfl (hb hby own_d1_177) rfl (flt hc177_153).1 ?_
                                                    refine XS.iloadN X0.here hx rfl (hb hby own_d1_180) rfl ?_
                                                    refine X0.ldcInt hx hown (mvT hZ (own_w29 hw)) (g := (mkF m 181 #[.val (.int p1)] [(.int p1)])) rfl (hb hby own_d1_181) _ ?_
                                                    exact kt)
                                                  by_cases hc183_155 : (983039 : Int32) < p1
                                                  · skip
                                                    have ihc183_155 := (own_gt (a := (983039 : Int32)) (k := 983039) rfl).mp hc183_155
                                                    obtain ⟨fs, hr, hrun, hended, hW, hsame⟩ := X0.leave (v := some (.int (0 : Int32))) (fun h => by rw [Bd.returns] at h; cases h)
                                                    refine ⟨_, _, pre154 _ ?_, hrun, hended, _, _, rfl, ?_, ⟨_, rfl⟩, hW, hsame.mono (by decide) (by decide)⟩
                                                    · show Steps _ _ _ (s₁.setTop (mkF m 183 #[.val (.int p1)] [(.int (983039 : Int32)), (.int p1)])) _
                                                      refine XS.icmpYes X0.here hx rfl (pc0 := 183) (pc' := 190) rfl (hb hby own_d1_183) rfl (tlt hc183_155).2.2.1 (by decide) (by decide) ?_
                                                      refine XS.iconst X0.here hx rfl (hb hby own_d1_190) ?_
                                                      show Steps _ _ _ (s₁.setTop (mkF m 191 #[.val (.int p1)] [(.int (0 : Int32))])) _
                                                      exact retN X0 hx (t := .boolean) Bd.returns (by simp) (hb hby own_d1_191) hr
                                                    · show Qown_ns Z p1 ar ac h0 n0 _ s₁.heap _
                                                      rw [e0]
                                                      exact ⟨congrArg (fun z => some (Value.int z)) (by unfold own_f; exact (if_neg (by omega)).symm), N0, rfl⟩
                                                  · skip
                                                    have ihc183_155 := (mt (own_gt (a := (983039 : Int32)) (k := 983039) rfl).mpr hc183_155)
                                                    obtain ⟨fs, hr, hrun, hended, hW, hsame⟩ := X0.leave (v := some (.int (1 : Int32))) (fun h => by rw [Bd.returns] at h; cases h)
                                                    refine ⟨_, _, pre154 _ ?_, hrun, hended, _, _, rfl, ?_, ⟨_, rfl⟩, hW, hsame.mono (by decide) (by decide)⟩
                                                    · show Steps _ _ _ (s₁.setTop (mkF m 183 #[.val (.int p1)] [(.int (983039 : Int32)), (.int p1)])) _
                                                      refine XS.icmpNo X0.here hx rfl (hb hby own_d1_183) rfl (flt hc183_155).2.2.1 ?_
                                                      refine XS.iconst X0.here hx rfl (hb hby own_d1_186) ?_
                                                      refine XS.goto X0.here hx rfl (pc0 := 187) (pc' := 191) rfl (hb hby own_d1_187) (by decide) (by decide) ?_
                                                      show Steps _ _ _ (s₁.setTop (mkF m 191 #[.val (.int p1)] [(.int (1 : Int32))])) _
                                                      exact retN X0 hx (t := .boolean) Bd.returns (by simp) (hb hby own_d1_191) hr
                                                    · show Qown_ns Z p1 ar ac h0 n0 _ s₁.heap _
                                                      rw [e0]
                                                      exact ⟨congrArg (fun z => some (Value.int z)) (by unfold own_f; exact (if_pos (by omega)).symm), N0, rfl⟩
                                              · skip
                                                have ihc171_151 := (mt (own_gt (a := (65533 : Int32)) (k := 65533) rfl).mpr hc171_151)
                                                obtain ⟨fs, hr, hrun, hended, hW, hsame⟩ := X0.leave (v := some (.int (1 : Int32))) (fun h => by rw [Bd.returns] at h; cases h)
                                                refine ⟨_, _, pre150 _ ?_, hrun, hended, _, _, rfl, ?_, ⟨_, rfl⟩, hW, hsame.mono (by decide) (by decide)⟩
                                                · show Steps _ _ _ (s₁.setTop (mkF m 171 #[.val (.int p1)] [(.int (65533 : Int32)), (.int p1)])) _
                                                  refine XS.icmpYes X0.here hx rfl (pc0 := 171) (pc' := 186) rfl (hb hby own_d1_171) rfl (flt hc171_151).2.2.2 (by decide) (by decide) ?_
                                                  refine XS.iconst X0.here hx rfl (hb hby own_d1_186) ?_
                                                  refine XS.goto X0.here hx rfl (pc0 := 187) (pc' := 191) rfl (hb hby own_d1_187) (by decide) (by decide) ?_
                                                  show Steps _ _ _ (s₁.setTop (mkF m 191 #[.val (.int p1)] [(.int (1 : Int32))])) _
                                                  exact retN X0 hx (t := .boolean) Bd.returns (by simp) (hb hby own_d1_191) hr
                                                · show Qown_ns Z p1 ar ac h0 n0 _ s₁.heap _
                                                  rw [e0]
                                                  exact ⟨congrArg (fun z => some (Value.int z)) (by unfold own_f; exact (if_pos (by omega)).symm), N0, rfl⟩
                                          · skip
                                            have ihc159_147 := (mt (own_gt (a := (64975 : Int32)) (k := 64975) rfl).mpr hc159_147)
                                            obtain ⟨fs, hr, hrun, hended, hW, hsame⟩ := X0.leave (v := some (.int (1 : Int32))) (fun h => by rw [Bd.returns] at h; cases h)
                                            refine ⟨_, _, pre146 _ ?_, hrun, hended, _, _, rfl, ?_, ⟨_, rfl⟩, hW, hsame.mono (by decide) (by decide)⟩
                                            · show Steps _ _ _ (s₁.setTop (mkF m 159 #[.val (.int p1)] [(.int (64975 : Int32)), (.int p1)])) _
                                              refine XS.icmpYes X0.here hx rfl (pc0 := 159) (pc' := 186) rfl (hb hby own_d1_159) rfl (flt hc159_147).2.2.2 (by decide) (by decide) ?_
                                              refine XS.iconst X0.here hx rfl (hb hby own_d1_186) ?_
                                              refine XS.goto X0.here hx rfl (pc0 := 187) (pc' := 191) rfl (hb hby own_d1_187) (by decide) (by decide) ?_
                                              show Steps _ _ _ (s₁.setTop (mkF m 191 #[.val (.int p1)] [(.int (1 : Int32))])) _
                                              exact retN X0 hx (t := .boolean) Bd.returns (by simp) (hb hby own_d1_191) hr
                                            · show Qown_ns Z p1 ar ac h0 n0 _ s₁.heap _
                                              rw [e0]
                                              exact ⟨congrArg (fun z => some (Value.int z)) (by unfold own_f; exact (if_pos (by omega)).symm), N0, rfl⟩
                                      · skip
                                        have ihc147_143 := (mt (own_gt (a := (55295 : Int32)) (k := 55295) rfl).mpr hc147_143)
                                        obtain ⟨fs, hr, hrun, hended, hW, hsame⟩ := X0.leave (v := some (.int (1 : Int32))) (fun h => by rw [Bd.returns] at h; cases h)
                                        refine ⟨_, _, pre142 _ ?_, hrun, hended, _, _, rfl, ?_, ⟨_, rfl⟩, hW, hsame.mono (by decide) (by decide)⟩
                                        · show Steps _ _ _ (s₁.setTop (mkF m 147 #[.val (.int p1)] [(.int (55295 : Int32)), (.int p1)])) _
                                          refine XS.icmpYes X0.here hx rfl (pc0 := 147) (pc' := 186) rfl (hb hby own_d1_147) rfl (flt hc147_143).2.2.2 (by decide) (by decide) ?_
                                          refine XS.iconst X0.here hx rfl (hb hby own_d1_186) ?_
                                          refine XS.goto X0.here hx rfl (pc0 := 187) (pc' := 191) rfl (hb hby own_d1_187) (by decide) (by decide) ?_
                                          show Steps _ _ _ (s₁.setTop (mkF m 191 #[.val (.int p1)] [(.int (1 : Int32))])) _
                                          exact retN X0 hx (t := .boolean) Bd.returns (by simp) (hb hby own_d1_191) hr
                                        · show Qown_ns Z p1 ar ac h0 n0 _ s₁.heap _
                                          rw [e0]
                                          exact ⟨congrArg (fun z => some (Value.int z)) (by unfold own_f; exact (if_pos (by omega)).symm), N0, rfl⟩
                                  · skip
                                    have ihc134_139 := (mt (own_gt (a := (12271 : Int32)) (k := 12271) rfl).mpr hc134_139)
                                    obtain ⟨fs, hr, hrun, hended, hW, hsame⟩ := X0.leave (v := some (.int (1 : Int32))) (fun h => by rw [Bd.returns] at h; cases h)
                                    refine ⟨_, _, pre138 _ ?_, hrun, hended, _, _, rfl, ?_, ⟨_, rfl⟩, hW, hsame.mono (by decide) (by decide)⟩
                                    · show Steps _ _ _ (s₁.setTop (mkF m 134 #[.val (.int p1)] [(.int (12271 : Int32)), (.int p1)])) _
                                      refine XS.icmpYes X0.here hx rfl (pc0 := 134) (pc' := 186) rfl (hb hby own_d1_134) rfl (flt hc134_139).2.2.2 (by decide) (by decide) ?_
                                      refine XS.iconst X0.here hx rfl (hb hby own_d1_186) ?_
                                      refine XS.goto X0.here hx rfl (pc0 := 187) (pc' := 191) rfl (hb hby own_d1_187) (by decide) (by decide) ?_
                                      show Steps _ _ _ (s₁.setTop (mkF m 191 #[.val (.int p1)] [(.int (1 : Int32))])) _
                                      exact retN X0 hx (t := .boolean) Bd.returns (by simp) (hb hby own_d1_191) hr
                                    · show Qown_ns Z p1 ar ac h0 n0 _ s₁.heap _
                                      rw [e0]
                                      exact ⟨congrArg (fun z => some (Value.int z)) (by unfold own_f; exact (if_pos (by omega)).symm), N0, rfl⟩
                              · skip
                                have ihc120_135 := (mt (own_gt (a := (8591 : Int32)) (k := 8591) rfl).mpr hc120_135)
                                obtain ⟨fs, hr, hrun, hended, hW, hsame⟩ := X0.leave (v := some (.int (1 : Int32))) (fun h => by rw [Bd.returns] at h; cases h)
                                refine ⟨_, _, pre134 _ ?_, hrun, hended, _, _, rfl, ?_, ⟨_, rfl⟩, hW, hsame.mono (by decide) (by decide)⟩
                                · show Steps _ _ _ (s₁.setTop (mkF m 120 #[.val (.int p1)] [(.int (8591 : Int32)), (.int p1)])) _
                                  refine XS.icmpYes X0.here hx rfl (pc0 := 120) (pc' := 186) rfl (hb hby own_d1_120) rfl (flt hc120_135).2.2.2 (by decide) (by decide) ?_
                                  refine XS.iconst X0.here hx rfl (hb hby own_d1_186) ?_
                                  refine XS.goto X0.here hx rfl (pc0 := 187) (pc' := 191) rfl (hb hby own_d1_187) (by decide) (by decide) ?_
                                  show Steps _ _ _ (s₁.setTop (mkF m 191 #[.val (.int p1)] [(.int (1 : Int32))])) _
                                  exact retN X0 hx (t := .boolean) Bd.returns (by simp) (hb hby own_d1_191) hr
                                · show Qown_ns Z p1 ar ac h0 n0 _ s₁.heap _
                                  rw [e0]
                                  exact ⟨congrArg (fun z => some (Value.int z)) (by unfold own_f; exact (if_pos (by omega)).symm), N0, rfl⟩
                          · skip
                            have ihc106_131 := (mt (own_gt (a := (8205 : Int32)) (k := 8205) rfl).mpr hc106_131)
                            obtain ⟨fs, hr, hrun, hended, hW, hsame⟩ := X0.leave (v := some (.int (1 : Int32))) (fun h => by rw [Bd.returns] at h; cases h)
                            refine ⟨_, _, pre130 _ ?_, hrun, hended, _, _, rfl, ?_, ⟨_, rfl⟩, hW, hsame.mono (by decide) (by decide)⟩
                            · show Steps _ _ _ (s₁.setTop (mkF m 106 #[.val (.int p1)] [(.int (8205 : Int32)), (.int p1)])) _
                              refine XS.icmpYes X0.here hx rfl (pc0 := 106) (pc' := 186) rfl (hb hby own_d1_106) rfl (flt hc106_131).2.2.2 (by decide) (by decide) ?_
                              refine XS.iconst X0.here hx rfl (hb hby own_d1_186) ?_
                              refine XS.goto X0.here hx rfl (pc0 := 187) (pc' := 191) rfl (hb hby own_d1_187) (by decide) (by decide) ?_
                              show Steps _ _ _ (s₁.setTop (mkF m 191 #[.val (.int p1)] [(.int (1 : Int32))])) _
                              exact retN X0 hx (t := .boolean) Bd.returns (by simp) (hb hby own_d1_191) hr
                            · show Qown_ns Z p1 ar ac h0 n0 _ s₁.heap _
                              rw [e0]
                              exact ⟨congrArg (fun z => some (Value.int z)) (by unfold own_f; exact (if_pos (by omega)).symm), N0, rfl⟩
                      · skip
                        have ihc92_127 := (mt (own_gt (a := (8191 : Int32)) (k := 8191) rfl).mpr hc92_127)
                        obtain ⟨fs, hr, hrun, hended, hW, hsame⟩ := X0.leave (v := some (.int (1 : Int32))) (fun h => by rw [Bd.returns] at h; cases h)
                        refine ⟨_, _, pre126 _ ?_, hrun, hended, _, _, rfl, ?_, ⟨_, rfl⟩, hW, hsame.mono (by decide) (by decide)⟩
                        · show Steps _ _ _ (s₁.setTop (mkF m 92 #[.val (.int p1)] [(.int (8191 : Int32)), (.int p1)])) _
                          refine XS.icmpYes X0.here hx rfl (pc0 := 92) (pc' := 186) rfl (hb hby own_d1_92) rfl (flt hc92_127).2.2.2 (by decide) (by decide) ?_
                          refine XS.iconst X0.here hx rfl (hb hby own_d1_186) ?_
                          refine XS.goto X0.here hx rfl (pc0 := 187) (pc' := 191) rfl (hb hby own_d1_187) (by decide) (by decide) ?_
                          show Steps _ _ _ (s₁.setTop (mkF m 191 #[.val (.int p1)] [(.int (1 : Int32))])) _
                          exact retN X0 hx (t := .boolean) Bd.returns (by simp) (hb hby own_d1_191) hr
                        · show Qown_ns Z p1 ar ac h0 n0 _ s₁.heap _
                          rw [e0]
                          exact ⟨congrArg (fun z => some (Value.int z)) (by unfold own_f; exact (if_pos (by omega)).symm), N0, rfl⟩
                  · skip
                    have ihc78_123 := (mt (own_gt (a := (893 : Int32)) (k := 893) rfl).mpr hc78_123)
                    obtain ⟨fs, hr, hrun, hended, hW, hsame⟩ := X0.leave (v := some (.int (1 : Int32))) (fun h => by rw [Bd.returns] at h; cases h)
                    refine ⟨_, _, pre122 _ ?_, hrun, hended, _, _, rfl, ?_, ⟨_, rfl⟩, hW, hsame.mono (by decide) (by decide)⟩
                    · show Steps _ _ _ (s₁.setTop (mkF m 78 #[.val (.int p1)] [(.int (893 : Int32)), (.int p1)])) _
                      refine XS.icmpYes X0.here hx rfl (pc0 := 78) (pc' := 186) rfl (hb hby own_d1_78) rfl (flt hc78_123).2.2.2 (by decide) (by decide) ?_
                      refine XS.iconst X0.here hx rfl (hb hby own_d1_186) ?_
                      refine XS.goto X0.here hx rfl (pc0 := 187) (pc' := 191) rfl (hb hby own_d1_187) (by decide) (by decide) ?_
                      show Steps _ _ _ (s₁.setTop (mkF m 191 #[.val (.int p1)] [(.int (1 : Int32))])) _
                      exact retN X0 hx (t := .boolean) Bd.returns (by simp) (hb hby own_d1_191) hr
                    · show Qown_ns Z p1 ar ac h0 n0 _ s₁.heap _
                      rw [e0]
                      exact ⟨congrArg (fun z => some (Value.int z)) (by unfold own_f; exact (if_pos (by omega)).symm), N0, rfl⟩
              · skip
                have ihc64_119 := (mt (own_gt (a := (767 : Int32)) (k := 767) rfl).mpr hc64_119)
                obtain ⟨fs, hr, hrun, hended, hW, hsame⟩ := X0.leave (v := some (.int (1 : Int32))) (fun h => by rw [Bd.returns] at h; cases h)
                refine ⟨_, _, pre118 _ ?_, hrun, hended, _, _, rfl, ?_, ⟨_, rfl⟩, hW, hsame.mono (by decide) (by decide)⟩
                · show Steps _ _ _ (s₁.setTop (mkF m 64 #[.val (.int p1)] [(.int (767 : Int32)), (.int p1)])) _
                  refine XS.icmpYes X0.here hx rfl (pc0 := 64) (pc' := 186) rfl (hb hby own_d1_64) rfl (flt hc64_119).2.2.2 (by decide) (by decide) ?_
                  refine XS.iconst X0.here hx rfl (hb hby own_d1_186) ?_
                  refine XS.goto X0.here hx rfl (pc0 := 187) (pc' := 191) rfl (hb hby own_d1_187) (by decide) (by decide) ?_
                  show Steps _ _ _ (s₁.setTop (mkF m 191 #[.val (.int p1)] [(.int (1 : Int32))])) _
                  exact retN X0 hx (t := .boolean) Bd.returns (by simp) (hb hby own_d1_191) hr
                · show Qown_ns Z p1 ar ac h0 n0 _ s₁.heap _
                  rw [e0]
                  exact ⟨congrArg (fun z => some (Value.int z)) (by unfold own_f; exact (if_pos (by omega)).symm), N0, rfl⟩
          · skip
            have ihc50_115 := (mt (own_gt (a := (246 : Int32)) (k := 246) rfl).mpr hc50_115)
            obtain ⟨fs, hr, hrun, hended, hW, hsame⟩ := X0.leave (v := some (.int (1 : Int32))) (fun h => by rw [Bd.returns] at h; cases h)
            refine ⟨_, _, pre114 _ ?_, hrun, hended, _, _, rfl, ?_, ⟨_, rfl⟩, hW, hsame.mono (by decide) (by decide)⟩
            · show Steps _ _ _ (s₁.setTop (mkF m 50 #[.val (.int p1)] [(.int (246 : Int32)), (.int p1)])) _
              refine XS.icmpYes X0.here hx rfl (pc0 := 50) (pc' := 186) rfl (hb hby own_d1_50) rfl (flt hc50_115).2.2.2 (by decide) (by decide) ?_
              refine XS.iconst X0.here hx rfl (hb hby own_d1_186) ?_
              refine XS.goto X0.here hx rfl (pc0 := 187) (pc' := 191) rfl (hb hby own_d1_187) (by decide) (by decide) ?_
              show Steps _ _ _ (s₁.setTop (mkF m 191 #[.val (.int p1)] [(.int (1 : Int32))])) _
              exact retN X0 hx (t := .boolean) Bd.returns (by simp) (hb hby own_d1_191) hr
            · show Qown_ns Z p1 ar ac h0 n0 _ s₁.heap _
              rw [e0]
              exact ⟨congrArg (fun z => some (Value.int z)) (by unfold own_f; exact (if_pos (by omega)).symm), N0, rfl⟩
      · skip
        have ihc36_111 := (mt (own_gt (a := (214 : Int32)) (k := 214) rfl).mpr hc36_111)
        obtain ⟨fs, hr, hrun, hended, hW, hsame⟩ := X0.leave (v := some (.int (1 : Int32))) (fun h => by rw [Bd.returns] at h; cases h)
        refine ⟨_, _, pre110 _ ?_, hrun, hended, _, _, rfl, ?_, ⟨_, rfl⟩, hW, hsame.mono (by decide) (by decide)⟩
        · show Steps _ _ _ (s₁.setTop (mkF m 36 #[.val (.int p1)] [(.int (214 : Int32)), (.int p1)])) _
          refine XS.icmpYes X0.here hx rfl (pc0 := 36) (pc' := 186) rfl (hb hby own_d1_36) rfl (flt hc36_111).2.2.2 (by decide) (by decide) ?_
          refine XS.iconst X0.here hx rfl (hb hby own_d1_186) ?_
          refine XS.goto X0.here hx rfl (pc0 := 187) (pc' := 191) rfl (hb hby own_d1_187) (by decide) (by decide) ?_
          show Steps _ _ _ (s₁.setTop (mkF m 191 #[.val (.int p1)] [(.int (1 : Int32))])) _
          exact retN X0 hx (t := .boolean) Bd.returns (by simp) (hb hby own_d1_191) hr
        · show Qown_ns Z p1 ar ac h0 n0 _ s₁.heap _
          rw [e0]
          exact ⟨congrArg (fun z => some (Value.int z)) (by unfold own_f; exact (if_pos (by omega)).symm), N0, rfl⟩
def Qown_ref (Z : State) (p1 : Int32) (h0 : Heap) (n0 : Nat) (v : Option Value) (h : Heap) (L : List Loc) : Prop := v = some (.int (own_f p1)) ∧ Fr n0 L ∧ h = h0
set_option maxRecDepth 65536 in
set_option maxHeartbeats 40000000 in
theorem own_ref (l : Launch) (Z : State) (a0 : Array Value) (hw : ∀ d ∈ tables_1, d.before a0 Z = true) (ws : List Jvm.Cond) (p1 : Int32) (h0 : Heap) (n0 : Nat) (Z0 : n0 ≤ h0.size)  :
    MetFree l own_m1 (head1 (Jvm.Cond.code own_m1 method_3_code 1 (some .boolean) :: ws) ({ frames := 0, cells := 0, slots := 0, locals := 0 } : Room)) (fun a U => a = #[(.int p1)] ∧ Z.Warmed39 U.vm ∧ U.heap = h0) (fun _ _ _ _ _ => True) (fun _ U o U' => ∃ v L, o = .returned v ∧ Qown_ref Z p1 h0 n0 v U'.heap L ∧ FrameEnd U o U' L ({ frames := 0, cells := 0, slots := 0, locals := 0 } : Room).cells ({ frames := 0, cells := 0, slots := 0, locals := 0 } : Room).slots) := by
  refine MetFree.of_bodySF (plainFor_of_name own_pn1) hisR ?_
  intro p e s m args below meth c s₁ Bd hml0 hP hK
  obtain ⟨rfl, hZ, hh⟩ := hP
  have hx := Bd.exec
  have hby := Bd.bytes
  have hml : c.maxLocals = 1 := hml0
  have hown : s.vm.findClass "com/example/fascicle/fascicle/io/XmlNamesIsNameStartPinLaw" = some m.cls := by have q := findClass_of_methodNamed Bd.named; exact q
  have hnm := (name_of_methodNamed Bd.named Bd.method).1
  have X0 : Stand p l e ({ frames := 0, cells := 0, slots := 0, locals := 0 } : Room) s m #[(.int p1)] below meth c s₁ [] 0 0 := Stand.of_body Bd
  have e0 : s₁.heap = h0 := by rw [← hh, Bd.state]; rfl
  have N0 := Fr.nil n0
  have pre0 : ∀ t, Steps p.tables e below (s₁.setTop (mkF m 0 #[.val (.int p1)] [])) t → Steps p.tables e below (s₁.setTop (entryFrame m #[(.int p1)] 1)) t := fun t k => castTop (by first | (simp [entryFrame, mkF, argsToLocals, Value.category, maxLocals]; done) | rfl) k
  have pre101 : ∀ t, Steps p.tables e below (s₁.setTop (mkF m 1 #[.val (.int p1)] [(.int p1)])) t → Steps p.tables e below (s₁.setTop (entryFrame m #[(.int p1)] 1)) t := fun t kt => pre0 t (by
    show Steps _ _ _ (s₁.setTop (mkF m 0 #[.val (.int p1)] [])) _
    refine XS.iloadN X0.here hx rfl (hb hby own_d2_0) rfl ?_
    exact kt)
  by_cases hc1_102 : p1 < (0 : Int32)
  · skip
    have ihc1_102 := (own_lt (b := (0 : Int32)) (k := 0) rfl).mp hc1_102
    obtain ⟨fs, hr, hrun, hended, hW, hsame⟩ := X0.leave (v := some (.int (0 : Int32))) (fun h => by rw [Bd.returns] at h; cases h)
    refine ⟨_, _, pre101 _ ?_, hrun, hended, _, _, rfl, ?_, ⟨_, rfl⟩, hW, hsame.mono (by decide) (by decide)⟩
    · show Steps _ _ _ (s₁.setTop (mkF m 1 #[.val (.int p1)] [(.int p1)])) _
      refine XS.ifNo X0.here hx rfl (hb hby own_d2_1) rfl ((if0 _ _).trans (tlt hc1_102).2.1) ?_
      refine XS.iconst X0.here hx rfl (hb hby own_d2_4) ?_
      show Steps _ _ _ (s₁.setTop (mkF m 5 #[.val (.int p1)] [(.int (0 : Int32))])) _
      exact retN X0 hx (t := .boolean) Bd.returns (by simp) (hb hby own_d2_5) hr
    · show Qown_ref Z p1 h0 n0 _ s₁.heap _
      rw [e0]
      exact ⟨congrArg (fun z => some (Value.int z)) (by unfold own_f; exact (if_neg (by omega)).symm), N0, rfl⟩
  · skip
    have ihc1_102 := (mt (own_lt (b := (0 : Int32)) (k := 0) rfl).mpr hc1_102)
    have pre103 : ∀ t, Steps p.tables e below (s₁.setTop (mkF m 9 #[.val (.int p1)] [(.int (127 : Int32)), (.int p1)])) t → Steps p.tables e below (s₁.setTop (entryFrame m #[(.int p1)] 1)) t := fun t kt => pre101 t (by
      show Steps _ _ _ (s₁.setTop (mkF m 1 #[.val (.int p1)] [(.int p1)])) _
      refine XS.ifYes X0.here hx rfl (pc0 := 1) (pc' := 6) rfl (hb hby own_d2_1) rfl ((if0 _ _).trans (flt hc1_102).2.1) (by decide) (by decide) ?_
      refine XS.iloadN X0.here hx rfl (hb hby own_d2_6) rfl ?_
      refine XS.bipush X0.here hx rfl (hb hby own_d2_7) ?_
      exact kt)
    by_cases hc9_104 : (127 : Int32) < p1
    · skip
      have ihc9_104 := (own_gt (a := (127 : Int32)) (k := 127) rfl).mp hc9_104
      have pre105 : ∀ t, Steps p.tables e below (s₁.setTop (mkF m 51 #[.val (.int p1)] [(.int (983039 : Int32)), (.int p1)])) t → Steps p.tables e below (s₁.setTop (entryFrame m #[(.int p1)] 1)) t := fun t kt => pre103 t (by
        show Steps _ _ _ (s₁.setTop (mkF m 9 #[.val (.int p1)] [(.int (127 : Int32)), (.int p1)])) _
        refine XS.icmpYes X0.here hx rfl (pc0 := 9) (pc' := 48) rfl (hb hby own_d2_9) rfl (tlt hc9_104).2.2.1 (by decide) (by decide) ?_
        refine XS.iloadN X0.here hx rfl (hb hby own_d2_48) rfl ?_
        refine X0.ldcInt hx hown (mvT hZ (own_w8 hw)) (g := (mkF m 49 #[.val (.int p1)] [(.int p1)])) rfl (hb hby own_d2_49) _ ?_
        exact kt)
      by_cases hc51_106 : (983039 : Int32) < p1
      · skip
        have ihc51_106 := (own_gt (a := (983039 : Int32)) (k := 983039) rfl).mp hc51_106
        obtain ⟨fs, hr, hrun, hended, hW, hsame⟩ := X0.leave (v := some (.int (0 : Int32))) (fun h => by rw [Bd.returns] at h; cases h)
        refine ⟨_, _, pre105 _ ?_, hrun, hended, _, _, rfl, ?_, ⟨_, rfl⟩, hW, hsame.mono (by decide) (by decide)⟩
        · show Steps _ _ _ (s₁.setTop (mkF m 51 #[.val (.int p1)] [(.int (983039 : Int32)), (.int p1)])) _
          refine XS.icmpNo X0.here hx rfl (hb hby own_d2_51) rfl (tlt hc51_106).2.2.2 ?_
          refine XS.iconst X0.here hx rfl (hb hby own_d2_54) ?_
          show Steps _ _ _ (s₁.setTop (mkF m 55 #[.val (.int p1)] [(.int (0 : Int32))])) _
          exact retN X0 hx (t := .boolean) Bd.returns (by simp) (hb hby own_d2_55) hr
        · show Qown_ref Z p1 h0 n0 _ s₁.heap _
          rw [e0]
          exact ⟨congrArg (fun z => some (Value.int z)) (by unfold own_f; exact (if_neg (by omega)).symm), N0, rfl⟩
      · skip
        have ihc51_106 := (mt (own_gt (a := (983039 : Int32)) (k := 983039) rfl).mpr hc51_106)
        have pre107 : ∀ t, Steps p.tables e below (s₁.setTop (mkF m 59 #[.val (.int p1)] [(.int (65536 : Int32)), (.int p1)])) t → Steps p.tables e below (s₁.setTop (entryFrame m #[(.int p1)] 1)) t := fun t kt => pre105 t (by
          show Steps _ _ _ (s₁.setTop (mkF m 51 #[.val (.int p1)] [(.int (983039 : Int32)), (.int p1)])) _
          refine XS.icmpYes X0.here hx rfl (pc0 := 51) (pc' := 56) rfl (hb hby own_d2_51) rfl (flt hc51_106).2.2.2 (by decide) (by decide) ?_
          refine XS.iloadN X0.here hx rfl (hb hby own_d2_56) rfl ?_
          refine X0.ldcInt hx hown (mvT hZ (own_w7 hw)) (g := (mkF m 57 #[.val (.int p1)] [(.int p1)])) rfl (hb hby own_d2_57) _ ?_
          exact kt)
        by_cases hc59_108 : p1 < (65536 : Int32)
        · skip
          have ihc59_108 := (own_lt (b := (65536 : Int32)) (k := 65536) rfl).mp hc59_108
          have pre109 : ∀ t, Steps p.tables e below (s₁.setTop (mkF m 68 #[.val (.int p1)] [(.int (768 : Int32)), (.int p1)])) t → Steps p.tables e below (s₁.setTop (entryFrame m #[(.int p1)] 1)) t := fun t kt => pre107 t (by
            show Steps _ _ _ (s₁.setTop (mkF m 59 #[.val (.int p1)] [(.int (65536 : Int32)), (.int p1)])) _
            refine XS.icmpYes X0.here hx rfl (pc0 := 59) (pc' := 64) rfl (hb hby own_d2_59) rfl (tlt hc59_108).1 (by decide) (by decide) ?_
            refine XS.iloadN X0.here hx rfl (hb hby own_d2_64) rfl ?_
            refine XS.sipush X0.here hx rfl (hb hby own_d2_65) ?_
            exact kt)
          by_cases hc68_110 : p1 < (768 : Int32)
          · skip
            have ihc68_110 := (own_lt (b := (768 : Int32)) (k := 768) rfl).mp hc68_110
            have pre111 : ∀ t, Steps p.tables e below (s₁.setTop (mkF m 75 #[.val (.int p1)] [(.int (192 : Int32)), (.int p1)])) t → Steps p.tables e below (s₁.setTop (entryFrame m #[(.int p1)] 1)) t := fun t kt => pre109 t (by
              show Steps _ _ _ (s₁.setTop (mkF m 68 #[.val (.int p1)] [(.int (768 : Int32)), (.int p1)])) _
              refine XS.icmpNo X0.here hx rfl (hb hby own_d2_68) rfl (tlt hc68_110).2.1 ?_
              refine XS.iloadN X0.here hx rfl (hb hby own_d2_71) rfl ?_
              refine XS.sipush X0.here hx rfl (hb hby own_d2_72) ?_
              exact kt)
            by_cases hc75_112 : p1 < (192 : Int32)
            · skip
              have ihc75_112 := (own_lt (b := (192 : Int32)) (k := 192) rfl).mp hc75_112
              obtain ⟨fs, hr, hrun, hended, hW, hsame⟩ := X0.leave (v := some (.int (0 : Int32))) (fun h => by rw [Bd.returns] at h; cases h)
              refine ⟨_, _, pre111 _ ?_, hrun, hended, _, _, rfl, ?_, ⟨_, rfl⟩, hW, hsame.mono (by decide) (by decide)⟩
              · show Steps _ _ _ (s₁.setTop (mkF m 75 #[.val (.int p1)] [(.int (192 : Int32)), (.int p1)])) _
                refine XS.icmpYes X0.here hx rfl (pc0 := 75) (pc' := 96) rfl (hb hby own_d2_75) rfl (tlt hc75_112).1 (by decide) (by decide) ?_
                refine XS.iconst X0.here hx rfl (hb hby own_d2_96) ?_
                show Steps _ _ _ (s₁.setTop (mkF m 97 #[.val (.int p1)] [(.int (0 : Int32))])) _
                exact retN X0 hx (t := .boolean) Bd.returns (by simp) (hb hby own_d2_97) hr
              · show Qown_ref Z p1 h0 n0 _ s₁.heap _
                rw [e0]
                exact ⟨congrArg (fun z => some (Value.int z)) (by unfold own_f; exact (if_neg (by omega)).symm), N0, rfl⟩
            · skip
              have ihc75_112 := (mt (own_lt (b := (192 : Int32)) (k := 192) rfl).mpr hc75_112)
              have pre113 : ∀ t, Steps p.tables e below (s₁.setTop (mkF m 82 #[.val (.int p1)] [(.int (215 : Int32)), (.int p1)])) t → Steps p.tables e below (s₁.setTop (entryFrame m #[(.int p1)] 1)) t := fun t kt => pre111 t (by
                show Steps _ _ _ (s₁.setTop (mkF m 75 #[.val (.int p1)] [(.int (192 : Int32)), (.int p1)])) _
                refine XS.icmpNo X0.here hx rfl (hb hby own_d2_75) rfl (flt hc75_112).1 ?_
                refine XS.iloadN X0.here hx rfl (hb hby own_d2_78) rfl ?_
                refine XS.sipush X0.here hx rfl (hb hby own_d2_79) ?_
                exact kt)
              by_cases hc82_114 : p1 = (215 : Int32)
              · skip
                have ihc82_114 := (own_eq (b := (215 : Int32)) (k := 215) rfl).mp hc82_114
                obtain ⟨fs, hr, hrun, hended, hW, hsame⟩ := X0.leave (v := some (.int (0 : Int32))) (fun h => by rw [Bd.returns] at h; cases h)
                refine ⟨_, _, pre113 _ ?_, hrun, hended, _, _, rfl, ?_, ⟨_, rfl⟩, hW, hsame.mono (by decide) (by decide)⟩
                · show Steps _ _ _ (s₁.setTop (mkF m 82 #[.val (.int p1)] [(.int (215 : Int32)), (.int p1)])) _
                  refine XS.icmpYes X0.here hx rfl (pc0 := 82) (pc' := 96) rfl (hb hby own_d2_82) rfl (teq hc82_114).1 (by decide) (by decide) ?_
                  refine XS.iconst X0.here hx rfl (hb hby own_d2_96) ?_
                  show Steps _ _ _ (s₁.setTop (mkF m 97 #[.val (.int p1)] [(.int (0 : Int32))])) _
                  exact retN X0 hx (t := .boolean) Bd.returns (by simp) (hb hby own_d2_97) hr
                · show Qown_ref Z p1 h0 n0 _ s₁.heap _
                  rw [e0]
                  exact ⟨congrArg (fun z => some (Value.int z)) (by unfold own_f; exact (if_neg (by omega)).symm), N0, rfl⟩
              · skip
                have ihc82_114 := (mt (own_eq (b := (215 : Int32)) (k := 215) rfl).mpr hc82_114)
                have pre115 : ∀ t, Steps p.tables e below (s₁.setTop (mkF m 89 #[.val (.int p1)] [(.int (247 : Int32)), (.int p1)])) t → Steps p.tables e below (s₁.setTop (entryFrame m #[(.int p1)] 1)) t := fun t kt => pre113 t (by
                  show Steps _ _ _ (s₁.setTop (mkF m 82 #[.val (.int p1)] [(.int (215 : Int32)), (.int p1)])) _
                  refine XS.icmpNo X0.here hx rfl (hb hby own_d2_82) rfl (feq hc82_114).1 ?_
                  refine XS.iloadN X0.here hx rfl (hb hby own_d2_85) rfl ?_
                  refine XS.sipush X0.here hx rfl (hb hby own_d2_86) ?_
                  exact kt)
                by_cases hc89_116 : p1 = (247 : Int32)
                · skip
                  have ihc89_116 := (own_eq (b := (247 : Int32)) (k := 247) rfl).mp hc89_116
                  obtain ⟨fs, hr, hrun, hended, hW, hsame⟩ := X0.leave (v := some (.int (0 : Int32))) (fun h => by rw [Bd.returns] at h; cases h)
                  refine ⟨_, _, pre115 _ ?_, hrun, hended, _, _, rfl, ?_, ⟨_, rfl⟩, hW, hsame.mono (by decide) (by decide)⟩
                  · show Steps _ _ _ (s₁.setTop (mkF m 89 #[.val (.int p1)] [(.int (247 : Int32)), (.int p1)])) _
                    refine XS.icmpYes X0.here hx rfl (pc0 := 89) (pc' := 96) rfl (hb hby own_d2_89) rfl (teq hc89_116).1 (by decide) (by decide) ?_
                    refine XS.iconst X0.here hx rfl (hb hby own_d2_96) ?_
                    show Steps _ _ _ (s₁.setTop (mkF m 97 #[.val (.int p1)] [(.int (0 : Int32))])) _
                    exact retN X0 hx (t := .boolean) Bd.returns (by simp) (hb hby own_d2_97) hr
                  · show Qown_ref Z p1 h0 n0 _ s₁.heap _
                    rw [e0]
                    exact ⟨congrArg (fun z => some (Value.int z)) (by unfold own_f; exact (if_neg (by omega)).symm), N0, rfl⟩
                · skip
                  have ihc89_116 := (mt (own_eq (b := (247 : Int32)) (k := 247) rfl).mpr hc89_116)
                  obtain ⟨fs, hr, hrun, hended, hW, hsame⟩ := X0.leave (v := some (.int (1 : Int32))) (fun h => by rw [Bd.returns] at h; cases h)
                  refine ⟨_, _, pre115 _ ?_, hrun, hended, _, _, rfl, ?_, ⟨_, rfl⟩, hW, hsame.mono (by decide) (by decide)⟩
                  · show Steps _ _ _ (s₁.setTop (mkF m 89 #[.val (.int p1)] [(.int (247 : Int32)), (.int p1)])) _
                    refine XS.icmpNo X0.here hx rfl (hb hby own_d2_89) rfl (feq hc89_116).1 ?_
                    refine XS.iconst X0.here hx rfl (hb hby own_d2_92) ?_
                    refine XS.goto X0.here hx rfl (pc0 := 93) (pc' := 97) rfl (hb hby own_d2_93) (by decide) (by decide) ?_
                    show Steps _ _ _ (s₁.setTop (mkF m 97 #[.val (.int p1)] [(.int (1 : Int32))])) _
                    exact retN X0 hx (t := .boolean) Bd.returns (by simp) (hb hby own_d2_97) hr
                  · show Qown_ref Z p1 h0 n0 _ s₁.heap _
                    rw [e0]
                    exact ⟨congrArg (fun z => some (Value.int z)) (by unfold own_f; exact (if_pos (by omega)).symm), N0, rfl⟩
          · skip
            have ihc68_110 := (mt (own_lt (b := (768 : Int32)) (k := 768) rfl).mpr hc68_110)
            have pre117 : ∀ t, Steps p.tables e below (s₁.setTop (mkF m 102 #[.val (.int p1)] [(.int (8192 : Int32)), (.int p1)])) t → Steps p.tables e below (s₁.setTop (entryFrame m #[(.int p1)] 1)) t := fun t kt => pre109 t (by
              show Steps _ _ _ (s₁.setTop (mkF m 68 #[.val (.int p1)] [(.int (768 : Int32)), (.int p1)])) _
              refine XS.icmpYes X0.here hx rfl (pc0 := 68) (pc' := 98) rfl (hb hby own_d2_68) rfl (flt hc68_110).2.1 (by decide) (by decide) ?_
              refine XS.iloadN X0.here hx rfl (hb hby own_d2_98) rfl ?_
              refine XS.sipush X0.here hx rfl (hb hby own_d2_99) ?_
              exact kt)
            by_cases hc102_118 : p1 < (8192 : Int32)
            · skip
              have ihc102_118 := (own_lt (b := (8192 : Int32)) (k := 8192) rfl).mp hc102_118
              have pre119 : ∀ t, Steps p.tables e below (s₁.setTop (mkF m 109 #[.val (.int p1)] [(.int (880 : Int32)), (.int p1)])) t → Steps p.tables e below (s₁.setTop (entryFrame m #[(.int p1)] 1)) t := fun t kt => pre117 t (by
                show Steps _ _ _ (s₁.setTop (mkF m 102 #[.val (.int p1)] [(.int (8192 : Int32)), (.int p1)])) _
                refine XS.icmpNo X0.here hx rfl (hb hby own_d2_102) rfl (tlt hc102_118).2.1 ?_
                refine XS.iloadN X0.here hx rfl (hb hby own_d2_105) rfl ?_
                refine XS.sipush X0.here hx rfl (hb hby own_d2_106) ?_
                exact kt)
              by_cases hc109_120 : p1 < (880 : Int32)
              · skip
                have ihc109_120 := (own_lt (b := (880 : Int32)) (k := 880) rfl).mp hc109_120
                obtain ⟨fs, hr, hrun, hended, hW, hsame⟩ := X0.leave (v := some (.int (0 : Int32))) (fun h => by rw [Bd.returns] at h; cases h)
                refine ⟨_, _, pre119 _ ?_, hrun, hended, _, _, rfl, ?_, ⟨_, rfl⟩, hW, hsame.mono (by decide) (by decide)⟩
                · show Steps _ _ _ (s₁.setTop (mkF m 109 #[.val (.int p1)] [(.int (880 : Int32)), (.int p1)])) _
                  refine XS.icmpYes X0.here hx rfl (pc0 := 109) (pc' := 123) rfl (hb hby own_d2_109) rfl (tlt hc109_120).1 (by decide) (by decide) ?_
                  refine XS.iconst X0.here hx rfl (hb hby own_d2_123) ?_
                  show Steps _ _ _ (s₁.setTop (mkF m 124 #[.val (.int p1)] [(.int (0 : Int32))])) _
                  exact retN X0 hx (t := .boolean) Bd.returns (by simp) (hb hby own_d2_124) hr
                · show Qown_ref Z p1 h0 n0 _ s₁.heap _
                  rw [e0]
                  exact ⟨congrArg (fun z => some (Value.int z)) (by unfold own_f; exact (if_neg (by omega)).symm), N0, rfl⟩
              · skip
                have ihc109_120 := (mt (own_lt (b := (880 : Int32)) (k := 880) rfl).mpr hc109_120)
                have pre121 : ∀ t, Steps p.tables e below (s₁.setTop (mkF m 116 #[.val (.int p1)] [(.int (894 : Int32)), (.int p1)])) t → Steps p.tables e below (s₁.setTop (entryFrame m #[(.int p1)] 1)) t := fun t kt => pre119 t (by
                  show Steps _ _ _ (s₁.setTop (mkF m 109 #[.val (.int p1)] [(.int (880 : Int32)), (.int p1)])) _
                  refine XS.icmpNo X0.here hx rfl (hb hby own_d2_109) rfl (flt hc109_120).1 ?_
                  refine XS.iloadN X0.here hx rfl (hb hby own_d2_112) rfl ?_
                  refine XS.sipush X0.here hx rfl (hb hby own_d2_113) ?_
                  exact kt)
                by_cases hc116_122 : p1 = (894 : Int32)
                · skip
                  have ihc116_122 := (own_eq (b := (894 : Int32)) (k := 894) rfl).mp hc116_122
                  obtain ⟨fs, hr, hrun, hended, hW, hsame⟩ := X0.leave (v := some (.int (0 : Int32))) (fun h => by rw [Bd.returns] at h; cases h)
                  refine ⟨_, _, pre121 _ ?_, hrun, hended, _, _, rfl, ?_, ⟨_, rfl⟩, hW, hsame.mono (by decide) (by decide)⟩
                  · show Steps _ _ _ (s₁.setTop (mkF m 116 #[.val (.int p1)] [(.int (894 : Int32)), (.int p1)])) _
                    refine XS.icmpYes X0.here hx rfl (pc0 := 116) (pc' := 123) rfl (hb hby own_d2_116) rfl (teq hc116_122).1 (by decide) (by decide) ?_
                    refine XS.iconst X0.here hx rfl (hb hby own_d2_123) ?_
                    show Steps _ _ _ (s₁.setTop (mkF m 124 #[.val (.int p1)] [(.int (0 : Int32))])) _
                    exact retN X0 hx (t := .boolean) Bd.returns (by simp) (hb hby own_d2_124) hr
                  · show Qown_ref Z p1 h0 n0 _ s₁.heap _
                    rw [e0]
                    exact ⟨congrArg (fun z => some (Value.int z)) (by unfold own_f; exact (if_neg (by omega)).symm), N0, rfl⟩
                · skip
                  have ihc116_122 := (mt (own_eq (b := (894 : Int32)) (k := 894) rfl).mpr hc116_122)
                  obtain ⟨fs, hr, hrun, hended, hW, hsame⟩ := X0.leave (v := some (.int (1 : Int32))) (fun h => by rw [Bd.returns] at h; cases h)
                  refine ⟨_, _, pre121 _ ?_, hrun, hended, _, _, rfl, ?_, ⟨_, rfl⟩, hW, hsame.mono (by decide) (by decide)⟩
                  · show Steps _ _ _ (s₁.setTop (mkF m 116 #[.val (.int p1)] [(.int (894 : Int32)), (.int p1)])) _
                    refine XS.icmpNo X0.here hx rfl (hb hby own_d2_116) rfl (feq hc116_122).1 ?_
                    refine XS.iconst X0.here hx rfl (hb hby own_d2_119) ?_
                    refine XS.goto X0.here hx rfl (pc0 := 120) (pc' := 124) rfl (hb hby own_d2_120) (by decide) (by decide) ?_
                    show Steps _ _ _ (s₁.setTop (mkF m 124 #[.val (.int p1)] [(.int (1 : Int32))])) _
                    exact retN X0 hx (t := .boolean) Bd.returns (by simp) (hb hby own_d2_124) hr
                  · show Qown_ref Z p1 h0 n0 _ s₁.heap _
                    rw [e0]
                    exact ⟨congrArg (fun z => some (Value.int z)) (by unfold own_f; exact (if_pos (by omega)).symm), N0, rfl⟩
            · skip
              have ihc102_118 := (mt (own_lt (b := (8192 : Int32)) (k := 8192) rfl).mpr hc102_118)
              have pre123 : ∀ t, Steps p.tables e below (s₁.setTop (mkF m 129 #[.val (.int p1)] [(.int (12288 : Int32)), (.int p1)])) t → Steps p.tables e below (s₁.setTop (entryFrame m #[(.int p1)] 1)) t := fun t kt => pre117 t (by
                show Steps _ _ _ (s₁.setTop (mkF m 102 #[.val (.int p1)] [(.int (8192 : Int32)), (.int p1)])) _
                refine XS.icmpYes X0.here hx rfl (pc0 := 102) (pc' := 125) rfl (hb hby own_d2_102) rfl (flt hc102_118).2.1 (by decide) (by decide) ?_
                refine XS.iloadN X0.here hx rfl (hb hby own_d2_125) rfl ?_
                refine XS.sipush X0.here hx rfl (hb hby own_d2_126) ?_
                exact kt)
              by_cases hc129_124 : p1 < (12288 : Int32)
              · skip
                have ihc129_124 := (own_lt (b := (12288 : Int32)) (k := 12288) rfl).mp hc129_124
                have pre125 : ∀ t, Steps p.tables e below (s₁.setTop (mkF m 136 #[.val (.int p1)] [(.int (8204 : Int32)), (.int p1)])) t → Steps p.tables e below (s₁.setTop (entryFrame m #[(.int p1)] 1)) t := fun t kt => pre123 t (by
                  show Steps _ _ _ (s₁.setTop (mkF m 129 #[.val (.int p1)] [(.int (12288 : Int32)), (.int p1)])) _
                  refine XS.icmpNo X0.here hx rfl (hb hby own_d2_129) rfl (tlt hc129_124).2.1 ?_
                  refine XS.iloadN X0.here hx rfl (hb hby own_d2_132) rfl ?_
                  refine XS.sipush X0.here hx rfl (hb hby own_d2_133) ?_
                  exact kt)
                by_cases hc136_126 : p1 = (8204 : Int32)
                · skip
                  have ihc136_126 := (own_eq (b := (8204 : Int32)) (k := 8204) rfl).mp hc136_126
                  obtain ⟨fs, hr, hrun, hended, hW, hsame⟩ := X0.leave (v := some (.int (1 : Int32))) (fun h => by rw [Bd.returns] at h; cases h)
                  refine ⟨_, _, pre125 _ ?_, hrun, hended, _, _, rfl, ?_, ⟨_, rfl⟩, hW, hsame.mono (by decide) (by decide)⟩
                  · show Steps _ _ _ (s₁.setTop (mkF m 136 #[.val (.int p1)] [(.int (8204 : Int32)), (.int p1)])) _
                    refine XS.icmpYes X0.here hx rfl (pc0 := 136) (pc' := 174) rfl (hb hby own_d2_136) rfl (teq hc136_126).1 (by decide) (by decide) ?_
                    refine XS.iconst X0.here hx rfl (hb hby own_d2_174) ?_
                    refine XS.goto X0.here hx rfl (pc0 := 175) (pc' := 179) rfl (hb hby own_d2_175) (by decide) (by decide) ?_
                    show Steps _ _ _ (s₁.setTop (mkF m 179 #[.val (.int p1)] [(.int (1 : Int32))])) _
                    exact retN X0 hx (t := .boolean) Bd.returns (by simp) (hb hby own_d2_179) hr
                  · show Qown_ref Z p1 h0 n0 _ s₁.heap _
                    rw [e0]
                    exact ⟨congrArg (fun z => some (Value.int z)) (by unfold own_f; exact (if_pos (by omega)).symm), N0, rfl⟩
                · skip
                  have ihc136_126 := (mt (own_eq (b := (8204 : Int32)) (k := 8204) rfl).mpr hc136_126)
                  have pre127 : ∀ t, Steps p.tables e below (s₁.setTop (mkF m 143 #[.val (.int p1)] [(.int (8205 : Int32)), (.int p1)])) t → Steps p.tables e below (s₁.setTop (entryFrame m #[(.int p1)] 1)) t := fun t kt => pre125 t (by
                    show Steps _ _ _ (s₁.setTop (mkF m 136 #[.val (.int p1)] [(.int (8204 : Int32)), (.int p1)])) _
                    refine XS.icmpNo X0.here hx rfl (hb hby own_d2_136) rfl (feq hc136_126).1 ?_
                    refine XS.iloadN X0.here hx rfl (hb hby own_d2_139) rfl ?_
                    refine XS.sipush X0.here hx rfl (hb hby own_d2_140) ?_
                    exact kt)
                  by_cases hc143_128 : p1 = (8205 : Int32)
                  · skip
                    have ihc143_128 := (own_eq (b := (8205 : Int32)) (k := 8205) rfl).mp hc143_128
                    obtain ⟨fs, hr, hrun, hended, hW, hsame⟩ := X0.leave (v := some (.int (1 : Int32))) (fun h => by rw [Bd.returns] at h; cases h)
                    refine ⟨_, _, pre127 _ ?_, hrun, hended, _, _, rfl, ?_, ⟨_, rfl⟩, hW, hsame.mono (by decide) (by decide)⟩
                    · show Steps _ _ _ (s₁.setTop (mkF m 143 #[.val (.int p1)] [(.int (8205 : Int32)), (.int p1)])) _
                      refine XS.icmpYes X0.here hx rfl (pc0 := 143) (pc' := 174) rfl (hb hby own_d2_143) rfl (teq hc143_128).1 (by decide) (by decide) ?_
                      refine XS.iconst X0.here hx rfl (hb hby own_d2_174) ?_
                      refine XS.goto X0.here hx rfl (pc0 := 175) (pc' := 179) rfl (hb hby own_d2_175) (by decide) (by decide) ?_
                      show Steps _ _ _ (s₁.setTop (mkF m 179 #[.val (.int p1)] [(.int (1 : Int32))])) _
                      exact retN X0 hx (t := .boolean) Bd.returns (by simp) (hb hby own_d2_179) hr
                    · show Qown_ref Z p1 h0 n0 _ s₁.heap _
                      rw [e0]
                      exact ⟨congrArg (fun z => some (Value.int z)) (by unfold own_f; exact (if_pos (by omega)).symm), N0, rfl⟩
                  · skip
                    have ihc143_128 := (mt (own_eq (b := (8205 : Int32)) (k := 8205) rfl).mpr hc143_128)
                    have pre129 : ∀ t, Steps p.tables e below (s₁.setTop (mkF m 150 #[.val (.int p1)] [(.int (8304 : Int32)), (.int p1)])) t → Steps p.tables e below (s₁.setTop (entryFrame m #[(.int p1)] 1)) t := fun t kt => pre127 t (by
                      show Steps _ _ _ (s₁.setTop (mkF m 143 #[.val (.int p1)] [(.int (8205 : Int32)), (.int p1)])) _
                      refine XS.icmpNo X0.here hx rfl (hb hby own_d2_143) rfl (feq hc143_128).1 ?_
                      refine XS.iloadN X0.here hx rfl (hb hby own_d2_146) rfl ?_
                      refine XS.sipush X0.here hx rfl (hb hby own_d2_147) ?_
                      exact kt)
                    by_cases hc150_130 : p1 < (8304 : Int32)
                    · skip
                      have ihc150_130 := (own_lt (b := (8304 : Int32)) (k := 8304) rfl).mp hc150_130
                      obtain ⟨fs, hr, hrun, hended, hW, hsame⟩ := X0.leave (v := some (.int (0 : Int32))) (fun h => by rw [Bd.returns] at h; cases h)
                      refine ⟨_, _, pre129 _ ?_, hrun, hended, _, _, rfl, ?_, ⟨_, rfl⟩, hW, hsame.mono (by decide) (by decide)⟩
                      · show Steps _ _ _ (s₁.setTop (mkF m 150 #[.val (.int p1)] [(.int (8304 : Int32)), (.int p1)])) _
                        refine XS.icmpYes X0.here hx rfl (pc0 := 150) (pc' := 160) rfl (hb hby own_d2_150) rfl (tlt hc150_130).1 (by decide) (by decide) ?_
                        refine XS.iloadN X0.here hx rfl (hb hby own_d2_160) rfl ?_
                        refine XS.sipush X0.here hx rfl (hb hby own_d2_161) ?_
                        refine XS.icmpYes X0.here hx rfl (pc0 := 164) (pc' := 178) rfl (hb hby own_d2_164) rfl (tlt (own_lt_of (b := (11264 : Int32)) (k := 11264) rfl (by have := rng32 p1; omega))).1 (by decide) (by decide) ?_
                        show Steps _ _ _ (s₁.setTop (mkF m 178 #[.val (.int p1)] [])) _
                        refine XS.iconst X0.here hx rfl (hb hby own_d2_178) ?_
                        show Steps _ _ _ (s₁.setTop (mkF m 179 #[.val (.int p1)] [(.int (0 : Int32))])) _
                        exact retN X0 hx (t := .boolean) Bd.returns (by simp) (hb hby own_d2_179) hr
                      · show Qown_ref Z p1 h0 n0 _ s₁.heap _
                        rw [e0]
                        exact ⟨congrArg (fun z => some (Value.int z)) (by unfold own_f; exact (if_neg (by omega)).symm), N0, rfl⟩
                    · skip
                      have ihc150_130 := (mt (own_lt (b := (8304 : Int32)) (k := 8304) rfl).mpr hc150_130)
                      have pre131 : ∀ t, Steps p.tables e below (s₁.setTop (mkF m 157 #[.val (.int p1)] [(.int (8591 : Int32)), (.int p1)])) t → Steps p.tables e below (s₁.setTop (entryFrame m #[(.int p1)] 1)) t := fun t kt => pre129 t (by
                        show Steps _ _ _ (s₁.setTop (mkF m 150 #[.val (.int p1)] [(.int (8304 : Int32)), (.int p1)])) _
                        refine XS.icmpNo X0.here hx rfl (hb hby own_d2_150) rfl (flt hc150_130).1 ?_
                        refine XS.iloadN X0.here hx rfl (hb hby own_d2_153) rfl ?_
                        refine XS.sipush X0.here hx rfl (hb hby own_d2_154) ?_
                        exact kt)
                      by_cases hc157_132 : (8591 : Int32) < p1
                      · skip
                        have ihc157_132 := (own_gt (a := (8591 : Int32)) (k := 8591) rfl).mp hc157_132
                        have pre133 : ∀ t, Steps p.tables e below (s₁.setTop (mkF m 164 #[.val (.int p1)] [(.int (11264 : Int32)), (.int p1)])) t → Steps p.tables e below (s₁.setTop (entryFrame m #[(.int p1)] 1)) t := fun t kt => pre131 t (by
                          show Steps _ _ _ (s₁.setTop (mkF m 157 #[.val (.int p1)] [(.int (8591 : Int32)), (.int p1)])) _
                          refine XS.icmpNo X0.here hx rfl (hb hby own_d2_157) rfl (tlt hc157_132).2.2.2 ?_
                          refine XS.iloadN X0.here hx rfl (hb hby own_d2_160) rfl ?_
                          refine XS.sipush X0.here hx rfl (hb hby own_d2_161) ?_
                          exact kt)
                        by_cases hc164_134 : p1 < (11264 : Int32)
                        · skip
                          have ihc164_134 := (own_lt (b := (11264 : Int32)) (k := 11264) rfl).mp hc164_134
                          obtain ⟨fs, hr, hrun, hended, hW, hsame⟩ := X0.leave (v := some (.int (0 : Int32))) (fun h => by rw [Bd.returns] at h; cases h)
                          refine ⟨_, _, pre133 _ ?_, hrun, hended, _, _, rfl, ?_, ⟨_, rfl⟩, hW, hsame.mono (by decide) (by decide)⟩
                          · show Steps _ _ _ (s₁.setTop (mkF m 164 #[.val (.int p1)] [(.int (11264 : Int32)), (.int p1)])) _
                            refine XS.icmpYes X0.here hx rfl (pc0 := 164) (pc' := 178) rfl (hb hby own_d2_164) rfl (tlt hc164_134).1 (by decide) (by decide) ?_
                            refine XS.iconst X0.here hx rfl (hb hby own_d2_178) ?_
                            show Steps _ _ _ (s₁.setTop (mkF m 179 #[.val (.int p1)] [(.int (0 : Int32))])) _
                            exact retN X0 hx (t := .boolean) Bd.returns (by simp) (hb hby own_d2_179) hr
                          · show Qown_ref Z p1 h0 n0 _ s₁.heap _
                            rw [e0]
                            exact ⟨congrArg (fun z => some (Value.int z)) (by unfold own_f; exact (if_neg (by omega)).symm), N0, rfl⟩
                        · skip
                          have ihc164_134 := (mt (own_lt (b := (11264 : Int32)) (k := 11264) rfl).mpr hc164_134)
                          have pre135 : ∀ t, Steps p.tables e below (s₁.setTop (mkF m 171 #[.val (.int p1)] [(.int (12271 : Int32)), (.int p1)])) t → Steps p.tables e below (s₁.setTop (entryFrame m #[(.int p1)] 1)) t := fun t kt => pre133 t (by
                            show Steps _ _ _ (s₁.setTop (mkF m 164 #[.val (.int p1)] [(.int (11264 : Int32)), (.int p1)])) _
                            refine XS.icmpNo X0.here hx rfl (hb hby own_d2_164) rfl (flt hc164_134).1 ?_
                            refine XS.iloadN X0.here hx rfl (hb hby own_d2_167) rfl ?_
                            refine XS.sipush X0.here hx rfl (hb hby own_d2_168) ?_
                            exact kt)
                          by_cases hc171_136 : (12271 : Int32) < p1
                          · skip
                            have ihc171_136 := (own_gt (a := (12271 : Int32)) (k := 12271) rfl).mp hc171_136
                            obtain ⟨fs, hr, hrun, hended, hW, hsame⟩ := X0.leave (v := some (.int (0 : Int32))) (fun h => by rw [Bd.returns] at h; cases h)
                            refine ⟨_, _, pre135 _ ?_, hrun, hended, _, _, rfl, ?_, ⟨_, rfl⟩, hW, hsame.mono (by decide) (by decide)⟩
                            · show Steps _ _ _ (s₁.setTop (mkF m 171 #[.val (.int p1)] [(.int (12271 : Int32)), (.int p1)])) _
                              refine XS.icmpYes X0.here hx rfl (pc0 := 171) (pc' := 178) rfl (hb hby own_d2_171) rfl (tlt hc171_136).2.2.1 (by decide) (by decide) ?_
                              refine XS.iconst X0.here hx rfl (hb hby own_d2_178) ?_
                              show Steps _ _ _ (s₁.setTop (mkF m 179 #[.val (.int p1)] [(.int (0 : Int32))])) _
                              exact retN X0 hx (t := .boolean) Bd.returns (by simp) (hb hby own_d2_179) hr
                            · show Qown_ref Z p1 h0 n0 _ s₁.heap _
                              rw [e0]
                              exact ⟨congrArg (fun z => some (Value.int z)) (by unfold own_f; exact (if_neg (by omega)).symm), N0, rfl⟩
                          · skip
                            have ihc171_136 := (mt (own_gt (a := (12271 : Int32)) (k := 12271) rfl).mpr hc171_136)
                            obtain ⟨fs, hr, hrun, hended, hW, hsame⟩ := X0.leave (v := some (.int (1 : Int32))) (fun h => by rw [Bd.returns] at h; cases h)
                            refine ⟨_, _, pre135 _ ?_, hrun, hended, _, _, rfl, ?_, ⟨_, rfl⟩, hW, hsame.mono (by decide) (by decide)⟩
                            · show Steps _ _ _ (s₁.setTop (mkF m 171 #[.val (.int p1)] [(.int (12271 : Int32)), (.int p1)])) _
                              refine XS.icmpNo X0.here hx rfl (hb hby own_d2_171) rfl (flt hc171_136).2.2.1 ?_
                              refine XS.iconst X0.here hx rfl (hb hby own_d2_174) ?_
                              refine XS.goto X0.here hx rfl (pc0 := 175) (pc' := 179) rfl (hb hby own_d2_175) (by decide) (by decide) ?_
                              show Steps _ _ _ (s₁.setTop (mkF m 179 #[.val (.int p1)] [(.int (1 : Int32))])) _
                              exact retN X0 hx (t := .boolean) Bd.returns (by simp) (hb hby own_d2_179) hr
                            · show Qown_ref Z p1 h0 n0 _ s₁.heap _
                              rw [e0]
                              exact ⟨congrArg (fun z => some (Value.int z)) (by unfold own_f; exact (if_pos (by omega)).symm), N0, rfl⟩
                      · skip
                        have ihc157_132 := (mt (own_gt (a := (8591 : Int32)) (k := 8591) rfl).mpr hc157_132)
                        obtain ⟨fs, hr, hrun, hended, hW, hsame⟩ := X0.leave (v := some (.int (1 : Int32))) (fun h => by rw [Bd.returns] at h; cases h)
                        refine ⟨_, _, pre131 _ ?_, hrun, hended, _, _, rfl, ?_, ⟨_, rfl⟩, hW, hsame.mono (by decide) (by decide)⟩
                        · show Steps _ _ _ (s₁.setTop (mkF m 157 #[.val (.int p1)] [(.int (8591 : Int32)), (.int p1)])) _
                          refine XS.icmpYes X0.here hx rfl (pc0 := 157) (pc' := 174) rfl (hb hby own_d2_157) rfl (flt hc157_132).2.2.2 (by decide) (by decide) ?_
                          refine XS.iconst X0.here hx rfl (hb hby own_d2_174) ?_
                          refine XS.goto X0.here hx rfl (pc0 := 175) (pc' := 179) rfl (hb hby own_d2_175) (by decide) (by decide) ?_
                          show Steps _ _ _ (s₁.setTop (mkF m 179 #[.val (.int p1)] [(.int (1 : Int32))])) _
                          exact retN X0 hx (t := .boolean) Bd.returns (by simp) (hb hby own_d2_179) hr
                        · show Qown_ref Z p1 h0 n0 _ s₁.heap _
                          rw [e0]
                          exact ⟨congrArg (fun z => some (Value.int z)) (by unfold own_f; exact (if_pos (by omega)).symm), N0, rfl⟩
              · skip
                have ihc129_124 := (mt (own_lt (b := (12288 : Int32)) (k := 12288) rfl).mpr hc129_124)
                have pre137 : ∀ t, Steps p.tables e below (s₁.setTop (mkF m 183 #[.val (.int p1)] [(.int (57344 : Int32)), (.int p1)])) t → Steps p.tables e below (s₁.setTop (entryFrame m #[(.int p1)] 1)) t := fun t kt => pre123 t (by
                  show Steps _ _ _ (s₁.setTop (mkF m 129 #[.val (.int p1)] [(.int (12288 : Int32)), (.int p1)])) _
                  refine XS.icmpYes X0.here hx rfl (pc0 := 129) (pc' := 180) rfl (hb hby own_d2_129) rfl (flt hc129_124).2.1 (by decide) (by decide) ?_
                  refine XS.iloadN X0.here hx rfl (hb hby own_d2_180) rfl ?_
                  refine X0.ldcInt hx hown (mvT hZ (own_w2 hw)) (g := (mkF m 181 #[.val (.int p1)] [(.int p1)])) rfl (hb hby own_d2_181) _ ?_
                  exact kt)
                by_cases hc183_138 : p1 < (57344 : Int32)
                · skip
                  have ihc183_138 := (own_lt (b := (57344 : Int32)) (k := 57344) rfl).mp hc183_138
                  have pre139 : ∀ t, Steps p.tables e below (s₁.setTop (mkF m 190 #[.val (.int p1)] [(.int (12289 : Int32)), (.int p1)])) t → Steps p.tables e below (s₁.setTop (entryFrame m #[(.int p1)] 1)) t := fun t kt => pre137 t (by
                    show Steps _ _ _ (s₁.setTop (mkF m 183 #[.val (.int p1)] [(.int (57344 : Int32)), (.int p1)])) _
                    refine XS.icmpNo X0.here hx rfl (hb hby own_d2_183) rfl (tlt hc183_138).2.1 ?_
                    refine XS.iloadN X0.here hx rfl (hb hby own_d2_186) rfl ?_
                    refine XS.sipush X0.here hx rfl (hb hby own_d2_187) ?_
                    exact kt)
                  by_cases hc190_140 : p1 < (12289 : Int32)
                  · skip
                    have ihc190_140 := (own_lt (b := (12289 : Int32)) (k := 12289) rfl).mp hc190_140
                    obtain ⟨fs, hr, hrun, hended, hW, hsame⟩ := X0.leave (v := some (.int (0 : Int32))) (fun h => by rw [Bd.returns] at h; cases h)
                    refine ⟨_, _, pre139 _ ?_, hrun, hended, _, _, rfl, ?_, ⟨_, rfl⟩, hW, hsame.mono (by decide) (by decide)⟩
                    · show Steps _ _ _ (s₁.setTop (mkF m 190 #[.val (.int p1)] [(.int (12289 : Int32)), (.int p1)])) _
                      refine XS.icmpYes X0.here hx rfl (pc0 := 190) (pc' := 203) rfl (hb hby own_d2_190) rfl (tlt hc190_140).1 (by decide) (by decide) ?_
                      refine XS.iconst X0.here hx rfl (hb hby own_d2_203) ?_
                      show Steps _ _ _ (s₁.setTop (mkF m 204 #[.val (.int p1)] [(.int (0 : Int32))])) _
                      exact retN X0 hx (t := .boolean) Bd.returns (by simp) (hb hby own_d2_204) hr
                    · show Qown_ref Z p1 h0 n0 _ s₁.heap _
                      rw [e0]
                      exact ⟨congrArg (fun z => some (Value.int z)) (by unfold own_f; exact (if_neg (by omega)).symm), N0, rfl⟩
                  · skip
                    have ihc190_140 := (mt (own_lt (b := (12289 : Int32)) (k := 12289) rfl).mpr hc190_140)
                    have pre141 : ∀ t, Steps p.tables e below (s₁.setTop (mkF m 196 #[.val (.int p1)] [(.int (55295 : Int32)), (.int p1)])) t → Steps p.tables e below (s₁.setTop (entryFrame m #[(.int p1)] 1)) t := fun t kt => pre139 t (by
                      show Steps _ _ _ (s₁.setTop (mkF m 190 #[.val (.int p1)] [(.int (12289 : Int32)), (.int p1)])) _
                      refine XS.icmpNo X0.here hx rfl (hb hby own_d2_190) rfl (flt hc190_140).1 ?_
                      refine XS.iloadN X0.here hx rfl (hb hby own_d2_193) rfl ?_
                      refine X0.ldcInt hx hown (mvT hZ (own_w1 hw)) (g := (mkF m 194 #[.val (.int p1)] [(.int p1)])) rfl (hb hby own_d2_194) _ ?_
                      exact kt)
                    by_cases hc196_142 : (55295 : Int32) < p1
                    · skip
                      have ihc196_142 := (own_gt (a := (55295 : Int32)) (k := 55295) rfl).mp hc196_142
                      obtain ⟨fs, hr, hrun, hended, hW, hsame⟩ := X0.leave (v := some (.int (0 : Int32))) (fun h => by rw [Bd.returns] at h; cases h)
                      refine ⟨_, _, pre141 _ ?_, hrun, hended, _, _, rfl, ?_, ⟨_, rfl⟩, hW, hsame.mono (by decide) (by decide)⟩
                      · show Steps _ _ _ (s₁.setTop (mkF m 196 #[.val (.int p1)] [(.int (55295 : Int32)), (.int p1)])) _
                        refine XS.icmpYes X0.here hx rfl (pc0 := 196) (pc' := 203) rfl (hb hby own_d2_196) rfl (tlt hc196_142).2.2.1 (by decide) (by decide) ?_
                        refine XS.iconst X0.here hx rfl (hb hby own_d2_203) ?_
                        show Steps _ _ _ (s₁.setTop (mkF m 204 #[.val (.int p1)] [(.int (0 : Int32))])) _
                        exact retN X0 hx (t := .boolean) Bd.returns (by simp) (hb hby own_d2_204) hr
                      · show Qown_ref Z p1 h0 n0 _ s₁.heap _
                        rw [e0]
                        exact ⟨congrArg (fun z => some (Value.int z)) (by unfold own_f; exact (if_neg (by omega)).symm), N0, rfl⟩
                    · skip
                      have ihc196_142 := (mt (own_gt (a := (55295 : Int32)) (k := 55295) rfl).mpr hc196_142)
                      obtain ⟨fs, hr, hrun, hended, hW, hsame⟩ := X0.leave (v := some (.int (1 : Int32))) (fun h => by rw [Bd.returns] at h; cases h)
                      refine ⟨_, _, pre141 _ ?_, hrun, hended, _, _, rfl, ?_, ⟨_, rfl⟩, hW, hsame.mono (by decide) (by decide)⟩
                      · show Steps _ _ _ (s₁.setTop (mkF m 196 #[.val (.int p1)] [(.int (55295 : Int32)), (.int p1)])) _
                        refine XS.icmpNo X0.here hx rfl (hb hby own_d2_196) rfl (flt hc196_142).2.2.1 ?_
                        refine XS.iconst X0.here hx rfl (hb hby own_d2_199) ?_
                        refine XS.goto X0.here hx rfl (pc0 := 200) (pc' := 204) rfl (hb hby own_d2_200) (by decide) (by decide) ?_
                        show Steps _ _ _ (s₁.setTop (mkF m 204 #[.val (.int p1)] [(.int (1 : Int32))])) _
                        exact retN X0 hx (t := .boolean) Bd.returns (by simp) (hb hby own_d2_204) hr
                      · show Qown_ref Z p1 h0 n0 _ s₁.heap _
                        rw [e0]
                        exact ⟨congrArg (fun z => some (Value.int z)) (by unfold own_f; exact (if_pos (by omega)).symm), N0, rfl⟩
                · skip
                  have ihc183_138 := (mt (own_lt (b := (57344 : Int32)) (k := 57344) rfl).mpr hc183_138)
                  have pre143 : ∀ t, Steps p.tables e below (s₁.setTop (mkF m 208 #[.val (.int p1)] [(.int (63744 : Int32)), (.int p1)])) t → Steps p.tables e below (s₁.setTop (entryFrame m #[(.int p1)] 1)) t := fun t kt => pre137 t (by
                    show Steps _ _ _ (s₁.setTop (mkF m 183 #[.val (.int p1)] [(.int (57344 : Int32)), (.int p1)])) _
                    refine XS.icmpYes X0.here hx rfl (pc0 := 183) (pc' := 205) rfl (hb hby own_d2_183) rfl (flt hc183_138).2.1 (by decide) (by decide) ?_
                    refine XS.iloadN X0.here hx rfl (hb hby own_d2_205) rfl ?_
                    refine X0.ldcInt hx hown (mvT hZ (own_w3 hw)) (g := (mkF m 206 #[.val (.int p1)] [(.int p1)])) rfl (hb hby own_d2_206) _ ?_
                    exact kt)
                  by_cases hc208_144 : p1 < (63744 : Int32)
                  · skip
                    have ihc208_144 := (own_lt (b := (63744 : Int32)) (k := 63744) rfl).mp hc208_144
                    obtain ⟨fs, hr, hrun, hended, hW, hsame⟩ := X0.leave (v := some (.int (0 : Int32))) (fun h => by rw [Bd.returns] at h; cases h)
                    refine ⟨_, _, pre143 _ ?_, hrun, hended, _, _, rfl, ?_, ⟨_, rfl⟩, hW, hsame.mono (by decide) (by decide)⟩
                    · show Steps _ _ _ (s₁.setTop (mkF m 208 #[.val (.int p1)] [(.int (63744 : Int32)), (.int p1)])) _
                      refine XS.icmpYes X0.here hx rfl (pc0 := 208) (pc' := 217) rfl (hb hby own_d2_208) rfl (tlt hc208_144).1 (by decide) (by decide) ?_
                      refine XS.iloadN X0.here hx rfl (hb hby own_d2_217) rfl ?_
                      refine X0.ldcInt hx hown (mvT hZ (own_w5 hw)) (g := (mkF m 218 #[.val (.int p1)] [(.int p1)])) rfl (hb hby own_d2_218) _ ?_
                      refine XS.icmpYes X0.here hx rfl (pc0 := 220) (pc' := 233) rfl (hb hby own_d2_220) rfl (tlt (own_lt_of (b := (65008 : Int32)) (k := 65008) rfl (by have := rng32 p1; omega))).1 (by decide) (by decide) ?_
                      show Steps _ _ _ (s₁.setTop (mkF m 233 #[.val (.int p1)] [])) _
                      refine XS.iconst X0.here hx rfl (hb hby own_d2_233) ?_
                      show Steps _ _ _ (s₁.setTop (mkF m 234 #[.val (.int p1)] [(.int (0 : Int32))])) _
                      exact retN X0 hx (t := .boolean) Bd.returns (by simp) (hb hby own_d2_234) hr
                    · show Qown_ref Z p1 h0 n0 _ s₁.heap _
                      rw [e0]
                      exact ⟨congrArg (fun z => some (Value.int z)) (by unfold own_f; exact (if_neg (by omega)).symm), N0, rfl⟩
                  · skip
                    have ihc208_144 := (mt (own_lt (b := (63744 : Int32)) (k := 63744) rfl).mpr hc208_144)
                    have pre145 : ∀ t, Steps p.tables e below (s₁.setTop (mkF m 214 #[.val (.int p1)] [(.int (64975 : Int32)), (.int p1)])) t → Steps p.tables e below (s₁.setTop (entryFrame m #[(.int p1)] 1)) t := fun t kt => pre143 t (by
                      show Steps _ _ _ (s₁.setTop (mkF m 208 #[.val (.int p1)] [(.int (63744 : Int32)), (.int p1)])) _
                      refine XS.icmpNo X0.here hx rfl (hb hby own_d2_208) rfl (flt hc208_144).1 ?_
                      refine XS.iloadN X0.here hx rfl (hb hby own_d2_211) rfl ?_
                      refine X0.ldcInt hx hown (mvT hZ (own_w4 hw)) (g := (mkF m 212 #[.val (.int p1)] [(.int p1)])) rfl (hb hby own_d2_212) _ ?_
                      exact kt)
                    by_cases hc214_146 : (64975 : Int32) < p1
                    · skip
                      have ihc214_146 := (own_gt (a := (64975 : Int32)) (k := 64975) rfl).mp hc214_146
                      have pre147 : ∀ t, Steps p.tables e below (s₁.setTop (mkF m 220 #[.val (.int p1)] [(.int (65008 : Int32)), (.int p1)])) t → Steps p.tables e below (s₁.setTop (entryFrame m #[(.int p1)] 1)) t := fun t kt => pre145 t (by
                        show Steps _ _ _ (s₁.setTop (mkF m 214 #[.val (.int p1)] [(.int (64975 : Int32)), (.int p1)])) _
                        refine XS.icmpNo X0.here hx rfl (hb hby own_d2_214) rfl (tlt hc214_146).2.2.2 ?_
                        refine XS.iloadN X0.here hx rfl (hb hby own_d2_217) rfl ?_
                        refine X0.ldcInt hx hown (mvT hZ (own_w5 hw)) (g := (mkF m 218 #[.val (.int p1)] [(.int p1)])) rfl (hb hby own_d2_218) _ ?_
                        exact kt)
                      by_cases hc220_148 : p1 < (65008 : Int32)
                      · skip
                        have ihc220_148 := (own_lt (b := (65008 : Int32)) (k := 65008) rfl).mp hc220_148
                        obtain ⟨fs, hr, hrun, hended, hW, hsame⟩ := X0.leave (v := some (.int (0 : Int32))) (fun h => by rw [Bd.returns] at h; cases h)
                        refine ⟨_, _, pre147 _ ?_, hrun, hended, _, _, rfl, ?_, ⟨_, rfl⟩, hW, hsame.mono (by decide) (by decide)⟩
                        · show Steps _ _ _ (s₁.setTop (mkF m 220 #[.val (.int p1)] [(.int (65008 : Int32)), (.int p1)])) _
                          refine XS.icmpYes X0.here hx rfl (pc0 := 220) (pc' := 233) rfl (hb hby own_d2_220) rfl (tlt hc220_148).1 (by decide) (by decide) ?_
                          refine XS.iconst X0.here hx rfl (hb hby own_d2_233) ?_
                          show Steps _ _ _ (s₁.setTop (mkF m 234 #[.val (.int p1)] [(.int (0 : Int32))])) _
                          exact retN X0 hx (t := .boolean) Bd.returns (by simp) (hb hby own_d2_234) hr
                        · show Qown_ref Z p1 h0 n0 _ s₁.heap _
                          rw [e0]
                          exact ⟨congrArg (fun z => some (Value.int z)) (by unfold own_f; exact (if_neg (by omega)).symm), N0, rfl⟩
                      · skip
                        have ihc220_148 := (mt (own_lt (b := (65008 : Int32)) (k := 65008) rfl).mpr hc220_148)
                        have pre149 : ∀ t, Steps p.tables e below (s₁.setTop (mkF m 226 #[.val (.int p1)] [(.int (65533 : Int32)), (.int p1)])) t → Steps p.tables e below (s₁.setTop (entryFrame m #[(.int p1)] 1)) t := fun t kt => pre147 t (by
                          show Steps _ _ _ (s₁.setTop (mkF m 220 #[.val (.int p1)] [(.int (65008 : Int32)), (.int p1)])) _
                          refine XS.icmpNo X0.here hx rfl (hb hby own_d2_220) rfl (flt hc220_148).1 ?_
                          refine XS.iloadN X0.here hx rfl (hb hby own_d2_223) rfl ?_
                          refine X0.ldcInt hx hown (mvT hZ (own_w6 hw)) (g := (mkF m 224 #[.val (.int p1)] [(.int p1)])) rfl (hb hby own_d2_224) _ ?_
                          exact kt)
                        by_cases hc226_150 : (65533 : Int32) < p1
                        · skip
                          have ihc226_150 := (own_gt (a := (65533 : Int32)) (k := 65533) rfl).mp hc226_150
                          obtain ⟨fs, hr, hrun, hended, hW, hsame⟩ := X0.leave (v := some (.int (0 : Int32))) (fun h => by rw [Bd.returns] at h; cases h)
                          refine ⟨_, _, pre149 _ ?_, hrun, hended, _, _, rfl, ?_, ⟨_, rfl⟩, hW, hsame.mono (by decide) (by decide)⟩
                          · show Steps _ _ _ (s₁.setTop (mkF m 226 #[.val (.int p1)] [(.int (65533 : Int32)), (.int p1)])) _
                            refine XS.icmpYes X0.here hx rfl (pc0 := 226) (pc' := 233) rfl (hb hby own_d2_226) rfl (tlt hc226_150).2.2.1 (by decide) (by decide) ?_
                            refine XS.iconst X0.here hx rfl (hb hby own_d2_233) ?_
                            show Steps _ _ _ (s₁.setTop (mkF m 234 #[.val (.int p1)] [(.int (0 : Int32))])) _
                            exact retN X0 hx (t := .boolean) Bd.returns (by simp) (hb hby own_d2_234) hr
                          · show Qown_ref Z p1 h0 n0 _ s₁.heap _
                            rw [e0]
                            exact ⟨congrArg (fun z => some (Value.int z)) (by unfold own_f; exact (if_neg (by omega)).symm), N0, rfl⟩
                        · skip
                          have ihc226_150 := (mt (own_gt (a := (65533 : Int32)) (k := 65533) rfl).mpr hc226_150)
                          obtain ⟨fs, hr, hrun, hended, hW, hsame⟩ := X0.leave (v := some (.int (1 : Int32))) (fun h => by rw [Bd.returns] at h; cases h)
                          refine ⟨_, _, pre149 _ ?_, hrun, hended, _, _, rfl, ?_, ⟨_, rfl⟩, hW, hsame.mono (by decide) (by decide)⟩
                          · show Steps _ _ _ (s₁.setTop (mkF m 226 #[.val (.int p1)] [(.int (65533 : Int32)), (.int p1)])) _
                            refine XS.icmpNo X0.here hx rfl (hb hby own_d2_226) rfl (flt hc226_150).2.2.1 ?_
                            refine XS.iconst X0.here hx rfl (hb hby own_d2_229) ?_
                            refine XS.goto X0.here hx rfl (pc0 := 230) (pc' := 234) rfl (hb hby own_d2_230) (by decide) (by decide) ?_
                            show Steps _ _ _ (s₁.setTop (mkF m 234 #[.val (.int p1)] [(.int (1 : Int32))])) _
                            exact retN X0 hx (t := .boolean) Bd.returns (by simp) (hb hby own_d2_234) hr
                          · show Qown_ref Z p1 h0 n0 _ s₁.heap _
                            rw [e0]
                            exact ⟨congrArg (fun z => some (Value.int z)) (by unfold own_f; exact (if_pos (by omega)).symm), N0, rfl⟩
                    · skip
                      have ihc214_146 := (mt (own_gt (a := (64975 : Int32)) (k := 64975) rfl).mpr hc214_146)
                      obtain ⟨fs, hr, hrun, hended, hW, hsame⟩ := X0.leave (v := some (.int (1 : Int32))) (fun h => by rw [Bd.returns] at h; cases h)
                      refine ⟨_, _, pre145 _ ?_, hrun, hended, _, _, rfl, ?_, ⟨_, rfl⟩, hW, hsame.mono (by decide) (by decide)⟩
                      · show Steps _ _ _ (s₁.setTop (mkF m 214 #[.val (.int p1)] [(.int (64975 : Int32)), (.int p1)])) _
                        refine XS.icmpYes X0.here hx rfl (pc0 := 214) (pc' := 229) rfl (hb hby own_d2_214) rfl (flt hc214_146).2.2.2 (by decide) (by decide) ?_
                        refine XS.iconst X0.here hx rfl (hb hby own_d2_229) ?_
                        refine XS.goto X0.here hx rfl (pc0 := 230) (pc' := 234) rfl (hb hby own_d2_230) (by decide) (by decide) ?_
                        show Steps _ _ _ (s₁.setTop (mkF m 234 #[.val (.int p1)] [(.int (1 : Int32))])) _
                        exact retN X0 hx (t := .boolean) Bd.returns (by simp) (hb hby own_d2_234) hr
                      · show Qown_ref Z p1 h0 n0 _ s₁.heap _
                        rw [e0]
                        exact ⟨congrArg (fun z => some (Value.int z)) (by unfold own_f; exact (if_pos (by omega)).symm), N0, rfl⟩
        · skip
          have ihc59_108 := (mt (own_lt (b := (65536 : Int32)) (k := 65536) rfl).mpr hc59_108)
          obtain ⟨fs, hr, hrun, hended, hW, hsame⟩ := X0.leave (v := some (.int (1 : Int32))) (fun h => by rw [Bd.returns] at h; cases h)
          refine ⟨_, _, pre107 _ ?_, hrun, hended, _, _, rfl, ?_, ⟨_, rfl⟩, hW, hsame.mono (by decide) (by decide)⟩
          · show Steps _ _ _ (s₁.setTop (mkF m 59 #[.val (.int p1)] [(.int (65536 : Int32)), (.int p1)])) _
            refine XS.icmpNo X0.here hx rfl (hb hby own_d2_59) rfl (flt hc59_108).1 ?_
            refine XS.iconst X0.here hx rfl (hb hby own_d2_62) ?_
            show Steps _ _ _ (s₁.setTop (mkF m 63 #[.val (.int p1)] [(.int (1 : Int32))])) _
            exact retN X0 hx (t := .boolean) Bd.returns (by simp) (hb hby own_d2_63) hr
          · show Qown_ref Z p1 h0 n0 _ s₁.heap _
            rw [e0]
            exact ⟨congrArg (fun z => some (Value.int z)) (by unfold own_f; exact (if_pos (by omega)).symm), N0, rfl⟩
    · skip
      have ihc9_104 := (mt (own_gt (a := (127 : Int32)) (k := 127) rfl).mpr hc9_104)
      have pre151 : ∀ t, Steps p.tables e below (s₁.setTop (mkF m 15 #[.val (.int p1)] [(.int (65 : Int32)), (.int p1)])) t → Steps p.tables e below (s₁.setTop (entryFrame m #[(.int p1)] 1)) t := fun t kt => pre103 t (by
        show Steps _ _ _ (s₁.setTop (mkF m 9 #[.val (.int p1)] [(.int (127 : Int32)), (.int p1)])) _
        refine XS.icmpNo X0.here hx rfl (hb hby own_d2_9) rfl (flt hc9_104).2.2.1 ?_
        refine XS.iloadN X0.here hx rfl (hb hby own_d2_12) rfl ?_
        refine XS.bipush X0.here hx rfl (hb hby own_d2_13) ?_
        exact kt)
      by_cases hc15_152 : p1 < (65 : Int32)
      · skip
        have ihc15_152 := (own_lt (b := (65 : Int32)) (k := 65) rfl).mp hc15_152
        obtain ⟨fs, hr, hrun, hended, hW, hsame⟩ := X0.leave (v := some (.int (0 : Int32))) (fun h => by rw [Bd.returns] at h; cases h)
        refine ⟨_, _, pre151 _ ?_, hrun, hended, _, _, rfl, ?_, ⟨_, rfl⟩, hW, hsame.mono (by decide) (by decide)⟩
        · show Steps _ _ _ (s₁.setTop (mkF m 15 #[.val (.int p1)] [(.int (65 : Int32)), (.int p1)])) _
          refine XS.icmpYes X0.here hx rfl (pc0 := 15) (pc' := 24) rfl (hb hby own_d2_15) rfl (tlt hc15_152).1 (by decide) (by decide) ?_
          refine XS.iloadN X0.here hx rfl (hb hby own_d2_24) rfl ?_
          refine XS.bipush X0.here hx rfl (hb hby own_d2_25) ?_
          refine XS.icmpYes X0.here hx rfl (pc0 := 27) (pc' := 36) rfl (hb hby own_d2_27) rfl (tlt (own_lt_of (b := (97 : Int32)) (k := 97) rfl (by have := rng32 p1; omega))).1 (by decide) (by decide) ?_
          show Steps _ _ _ (s₁.setTop (mkF m 36 #[.val (.int p1)] [])) _
          refine XS.iloadN X0.here hx rfl (hb hby own_d2_36) rfl ?_
          refine XS.bipush X0.here hx rfl (hb hby own_d2_37) ?_
          refine XS.icmpYes X0.here hx rfl (pc0 := 39) (pc' := 46) rfl (hb hby own_d2_39) rfl (feq (own_ne_of (b := (95 : Int32)) (k := 95) rfl (by have := rng32 p1; omega))).2 (by decide) (by decide) ?_
          refine XS.iconst X0.here hx rfl (hb hby own_d2_46) ?_
          show Steps _ _ _ (s₁.setTop (mkF m 47 #[.val (.int p1)] [(.int (0 : Int32))])) _
          exact retN X0 hx (t := .boolean) Bd.returns (by simp) (hb hby own_d2_47) hr
        · show Qown_ref Z p1 h0 n0 _ s₁.heap _
          rw [e0]
          exact ⟨congrArg (fun z => some (Value.int z)) (by unfold own_f; exact (if_neg (by omega)).symm), N0, rfl⟩
      · skip
        have ihc15_152 := (mt (own_lt (b := (65 : Int32)) (k := 65) rfl).mpr hc15_152)
        have pre153 : ∀ t, Steps p.tables e below (s₁.setTop (mkF m 21 #[.val (.int p1)] [(.int (90 : Int32)), (.int p1)])) t → Steps p.tables e below (s₁.setTop (entryFrame m #[(.int p1)] 1)) t := fun t kt => pre151 t (by
          show Steps _ _ _ (s₁.setTop (mkF m 15 #[.val (.int p1)] [(.int (65 : Int32)), (.int p1)])) _
          refine XS.icmpNo X0.here hx rfl (hb hby own_d2_15) rfl (flt hc15_152).1 ?_
          refine XS.iloadN X0.here hx rfl (hb hby own_d2_18) rfl ?_
          refine XS.bipush X0.here hx rfl (hb hby own_d2_19) ?_
          exact kt)
        by_cases hc21_154 : (90 : Int32) < p1
        · skip
          have ihc21_154 := (own_gt (a := (90 : Int32)) (k := 90) rfl).mp hc21_154
          have pre155 : ∀ t, Steps p.tables e below (s₁.setTop (mkF m 27 #[.val (.int p1)] [(.int (97 : Int32)), (.int p1)])) t → Steps p.tables e below (s₁.setTop (entryFrame m #[(.int p1)] 1)) t := fun t kt => pre153 t (by
            show Steps _ _ _ (s₁.setTop (mkF m 21 #[.val (.int p1)] [(.int (90 : Int32)), (.int p1)])) _
            refine XS.icmpNo X0.here hx rfl (hb hby own_d2_21) rfl (tlt hc21_154).2.2.2 ?_
            refine XS.iloadN X0.here hx rfl (hb hby own_d2_24) rfl ?_
            refine XS.bipush X0.here hx rfl (hb hby own_d2_25) ?_
            exact kt)
          by_cases hc27_156 : p1 < (97 : Int32)
          · skip
            have ihc27_156 := (own_lt (b := (97 : Int32)) (k := 97) rfl).mp hc27_156
            have pre157 : ∀ t, Steps p.tables e below (s₁.setTop (mkF m 39 #[.val (.int p1)] [(.int (95 : Int32)), (.int p1)])) t → Steps p.tables e below (s₁.setTop (entryFrame m #[(.int p1)] 1)) t := fun t kt => pre155 t (by
              show Steps _ _ _ (s₁.setTop (mkF m 27 #[.val (.int p1)] [(.int (97 : Int32)), (.int p1)])) _
              refine XS.icmpYes X0.here hx rfl (pc0 := 27) (pc' := 36) rfl (hb hby own_d2_27) rfl (tlt hc27_156).1 (by decide) (by decide) ?_
              refine XS.iloadN X0.here hx rfl (hb hby own_d2_36) rfl ?_
              refine XS.bipush X0.here hx rfl (hb hby own_d2_37) ?_
              exact kt)
            by_cases hc39_158 : p1 = (95 : Int32)
            · skip
              have ihc39_158 := (own_eq (b := (95 : Int32)) (k := 95) rfl).mp hc39_158
              obtain ⟨fs, hr, hrun, hended, hW, hsame⟩ := X0.leave (v := some (.int (1 : Int32))) (fun h => by rw [Bd.returns] at h; cases h)
              refine ⟨_, _, pre157 _ ?_, hrun, hended, _, _, rfl, ?_, ⟨_, rfl⟩, hW, hsame.mono (by decide) (by decide)⟩
              · show Steps _ _ _ (s₁.setTop (mkF m 39 #[.val (.int p1)] [(.int (95 : Int32)), (.int p1)])) _
                refine XS.icmpNo X0.here hx rfl (hb hby own_d2_39) rfl (teq hc39_158).2 ?_
                refine XS.iconst X0.here hx rfl (hb hby own_d2_42) ?_
                refine XS.goto X0.here hx rfl (pc0 := 43) (pc' := 47) rfl (hb hby own_d2_43) (by decide) (by decide) ?_
                show Steps _ _ _ (s₁.setTop (mkF m 47 #[.val (.int p1)] [(.int (1 : Int32))])) _
                exact retN X0 hx (t := .boolean) Bd.returns (by simp) (hb hby own_d2_47) hr
              · show Qown_ref Z p1 h0 n0 _ s₁.heap _
                rw [e0]
                exact ⟨congrArg (fun z => some (Value.int z)) (by unfold own_f; exact (if_pos (by omega)).symm), N0, rfl⟩
            · skip
              have ihc39_158 := (mt (own_eq (b := (95 : Int32)) (k := 95) rfl).mpr hc39_158)
              obtain ⟨fs, hr, hrun, hended, hW, hsame⟩ := X0.leave (v := some (.int (0 : Int32))) (fun h => by rw [Bd.returns] at h; cases h)
              refine ⟨_, _, pre157 _ ?_, hrun, hended, _, _, rfl, ?_, ⟨_, rfl⟩, hW, hsame.mono (by decide) (by decide)⟩
              · show Steps _ _ _ (s₁.setTop (mkF m 39 #[.val (.int p1)] [(.int (95 : Int32)), (.int p1)])) _
                refine XS.icmpYes X0.here hx rfl (pc0 := 39) (pc' := 46) rfl (hb hby own_d2_39) rfl (feq hc39_158).2 (by decide) (by decide) ?_
                refine XS.iconst X0.here hx rfl (hb hby own_d2_46) ?_
                show Steps _ _ _ (s₁.setTop (mkF m 47 #[.val (.int p1)] [(.int (0 : Int32))])) _
                exact retN X0 hx (t := .boolean) Bd.returns (by simp) (hb hby own_d2_47) hr
              · show Qown_ref Z p1 h0 n0 _ s₁.heap _
                rw [e0]
                exact ⟨congrArg (fun z => some (Value.int z)) (by unfold own_f; exact (if_neg (by omega)).symm), N0, rfl⟩
          · skip
            have ihc27_156 := (mt (own_lt (b := (97 : Int32)) (k := 97) rfl).mpr hc27_156)
            have pre159 : ∀ t, Steps p.tables e below (s₁.setTop (mkF m 33 #[.val (.int p1)] [(.int (122 : Int32)), (.int p1)])) t → Steps p.tables e below (s₁.setTop (entryFrame m #[(.int p1)] 1)) t := fun t kt => pre155 t (by
              show Steps _ _ _ (s₁.setTop (mkF m 27 #[.val (.int p1)] [(.int (97 : Int32)), (.int p1)])) _
              refine XS.icmpNo X0.here hx rfl (hb hby own_d2_27) rfl (flt hc27_156).1 ?_
              refine XS.iloadN X0.here hx rfl (hb hby own_d2_30) rfl ?_
              refine XS.bipush X0.here hx rfl (hb hby own_d2_31) ?_
              exact kt)
            by_cases hc33_160 : (122 : Int32) < p1
            · skip
              have ihc33_160 := (own_gt (a := (122 : Int32)) (k := 122) rfl).mp hc33_160
              obtain ⟨fs, hr, hrun, hended, hW, hsame⟩ := X0.leave (v := some (.int (0 : Int32))) (fun h => by rw [Bd.returns] at h; cases h)
              refine ⟨_, _, pre159 _ ?_, hrun, hended, _, _, rfl, ?_, ⟨_, rfl⟩, hW, hsame.mono (by decide) (by decide)⟩
              · show Steps _ _ _ (s₁.setTop (mkF m 33 #[.val (.int p1)] [(.int (122 : Int32)), (.int p1)])) _
                refine XS.icmpNo X0.here hx rfl (hb hby own_d2_33) rfl (tlt hc33_160).2.2.2 ?_
                refine XS.iloadN X0.here hx rfl (hb hby own_d2_36) rfl ?_
                refine XS.bipush X0.here hx rfl (hb hby own_d2_37) ?_
                refine XS.icmpYes X0.here hx rfl (pc0 := 39) (pc' := 46) rfl (hb hby own_d2_39) rfl (feq (own_ne_of (b := (95 : Int32)) (k := 95) rfl (by have := rng32 p1; omega))).2 (by decide) (by decide) ?_
                show Steps _ _ _ (s₁.setTop (mkF m 46 #[.val (.int p1)] [])) _
                refine XS.iconst X0.here hx rfl (hb hby own_d2_46) ?_
                show Steps _ _ _ (s₁.setTop (mkF m 47 #[.val (.int p1)] [(.int (0 : Int32))])) _
                exact retN X0 hx (t := .boolean) Bd.returns (by simp) (hb hby own_d2_47) hr
              · show Qown_ref Z p1 h0 n0 _ s₁.heap _
                rw [e0]
                exact ⟨congrArg (fun z => some (Value.int z)) (by unfold own_f; exact (if_neg (by omega)).symm), N0, rfl⟩
            · skip
              have ihc33_160 := (mt (own_gt (a := (122 : Int32)) (k := 122) rfl).mpr hc33_160)
              obtain ⟨fs, hr, hrun, hended, hW, hsame⟩ := X0.leave (v := some (.int (1 : Int32))) (fun h => by rw [Bd.returns] at h; cases h)
              refine ⟨_, _, pre159 _ ?_, hrun, hended, _, _, rfl, ?_, ⟨_, rfl⟩, hW, hsame.mono (by decide) (by decide)⟩
              · show Steps _ _ _ (s₁.setTop (mkF m 33 #[.val (.int p1)] [(.int (122 : Int32)), (.int p1)])) _
                refine XS.icmpYes X0.here hx rfl (pc0 := 33) (pc' := 42) rfl (hb hby own_d2_33) rfl (flt hc33_160).2.2.2 (by decide) (by decide) ?_
                refine XS.iconst X0.here hx rfl (hb hby own_d2_42) ?_
                refine XS.goto X0.here hx rfl (pc0 := 43) (pc' := 47) rfl (hb hby own_d2_43) (by decide) (by decide) ?_
                show Steps _ _ _ (s₁.setTop (mkF m 47 #[.val (.int p1)] [(.int (1 : Int32))])) _
                exact retN X0 hx (t := .boolean) Bd.returns (by simp) (hb hby own_d2_47) hr
              · show Qown_ref Z p1 h0 n0 _ s₁.heap _
                rw [e0]
                exact ⟨congrArg (fun z => some (Value.int z)) (by unfold own_f; exact (if_pos (by omega)).symm), N0, rfl⟩
        · skip
          have ihc21_154 := (mt (own_gt (a := (90 : Int32)) (k := 90) rfl).mpr hc21_154)
          obtain ⟨fs, hr, hrun, hended, hW, hsame⟩ := X0.leave (v := some (.int (1 : Int32))) (fun h => by rw [Bd.returns] at h; cases h)
          refine ⟨_, _, pre153 _ ?_, hrun, hended, _, _, rfl, ?_, ⟨_, rfl⟩, hW, hsame.mono (by decide) (by decide)⟩
          · show Steps _ _ _ (s₁.setTop (mkF m 21 #[.val (.int p1)] [(.int (90 : Int32)), (.int p1)])) _
            refine XS.icmpYes X0.here hx rfl (pc0 := 21) (pc' := 42) rfl (hb hby own_d2_21) rfl (flt hc21_154).2.2.2 (by decide) (by decide) ?_
            refine XS.iconst X0.here hx rfl (hb hby own_d2_42) ?_
            refine XS.goto X0.here hx rfl (pc0 := 43) (pc' := 47) rfl (hb hby own_d2_43) (by decide) (by decide) ?_
            show Steps _ _ _ (s₁.setTop (mkF m 47 #[.val (.int p1)] [(.int (1 : Int32))])) _
            exact retN X0 hx (t := .boolean) Bd.returns (by simp) (hb hby own_d2_47) hr
          · show Qown_ref Z p1 h0 n0 _ s₁.heap _
            rw [e0]
            exact ⟨congrArg (fun z => some (Value.int z)) (by unfold own_f; exact (if_pos (by omega)).symm), N0, rfl⟩
def Qown_law (Z : State) (p1 p2 p3 p4 : Int32) (ar : Addr) (ac : Cell) (h0 : Heap) (n0 : Nat) (v : Option Value) (h : Heap) (L : List Loc) : Prop := v = some (.int (1 : Int32)) ∧ Fr n0 L
set_option maxRecDepth 65536 in
set_option maxHeartbeats 40000000 in
theorem own_law (l : Launch) (Z : State) (a0 : Array Value) (hw : ∀ d ∈ tables_1, d.before a0 Z = true) (ws : List Jvm.Cond) (p1 p2 p3 p4 : Int32) (ar : Addr) (ac : Cell) (h0 : Heap) (n0 : Nat) (Z0 : n0 ≤ h0.size) (SA : Sta Z h0 "com/example/fascicle/fascicle/io/XmlNames" "ASCII_NAME_START" "[Z" (.ref ar)) (AA : Arr Z h0 ar ac .boolean) (hsz : ac.slots.size = (128 : Int32).toNatClampNeg) (hel : ∀ j : Int32, 0 ≤ j.toInt → j.toInt < 128 → ac.slots[j.toNatClampNeg]? = some (.int (own_a j))) :
    MetFree l x (head1 (Jvm.Cond.code x code maxLocals ret :: ws) room_1) (fun a U => a = #[(.int p1), (.int p2), (.int p3), (.int p4)] ∧ Z.Warmed39 U.vm ∧ U.heap = h0) (fun _ _ _ _ _ => True) (fun _ U o U' => ∃ v L, o = .returned v ∧ Qown_law Z p1 p2 p3 p4 ar ac h0 n0 v U'.heap L ∧ FrameEnd U o U' L room_1.cells room_1.slots) := by
  refine MetFree.of_bodySF (plainFor_of_name own_pn1) hisR ?_
  intro p e s m args below meth c s₁ Bd hml0 hP hK
  obtain ⟨rfl, hZ, hh⟩ := hP
  have hx := Bd.exec
  have hby := Bd.bytes
  have hml : c.maxLocals = 8 := hml0
  have hown : s.vm.findClass "com/example/fascicle/fascicle/io/XmlNamesIsNameStartPinLaw" = some m.cls := by have q := findClass_of_methodNamed Bd.named; exact q
  have hnm := (name_of_methodNamed Bd.named Bd.method).1
  have X0 : Stand p l e room_1 s m #[(.int p1), (.int p2), (.int p3), (.int p4)] below meth c s₁ [] 0 0 := Stand.of_body Bd
  have e0 : s₁.heap = h0 := by rw [← hh, Bd.state]; rfl
  have N0 := Fr.nil n0
  have pre0 : ∀ t, Steps p.tables e below (s₁.setTop (mkF m 0 #[.val (.int p1), .val (.int p2), .val (.int p3), .val (.int p4), .unset, .unset, .unset, .unset] [])) t → Steps p.tables e below (s₁.setTop (entryFrame m #[(.int p1), (.int p2), (.int p3), (.int p4)] maxLocals)) t := fun t k => castTop (by first | (simp [entryFrame, mkF, argsToLocals, Value.category, maxLocals]; done) | rfl) k
  obtain ⟨T101, h101, k101, X101, e101, E101, A101, st101⟩ := newP (aty := .int) X0 hx hZ (own_w0 hw) e0 (g := (mkF m 2 #[.val (.int p1), .val (.int p2), .val (.int p3), .val (.int p4), .unset, .unset, .unset, .unset] [(.int (46 : Int32))])) rfl (hb hby at_2) rfl (by decide) (cap := 46) (by decide) (by decide) (by decide) (by decide)
  obtain ⟨b101, g101⟩ : ∃ z, z = h0.size := ⟨_, rfl⟩
  rw [← g101] at A101 st101
  have g_b101 : n0 ≤ b101 := Nat.le_trans Z0 (Nat.le_of_eq g101.symm)
  have sz_b101 : h0.size ≤ b101 := Nat.le_trans (Keep.refl h0 []).1 (Nat.le_of_eq g101.symm)
  have Z101 : n0 ≤ h101.size := Nat.le_trans Z0 E101.1
  have K101 := (Keep.refl h0 []).ext E101
  have V101 : Arv Z h101 b101 k101 .int (46 : Int32) [(.int (0 : Int32)), (.int (0 : Int32)), (.int (0 : Int32)), (.int (0 : Int32)), (.int (0 : Int32)), (.int (0 : Int32)), (.int (0 : Int32)), (.int (0 : Int32)), (.int (0 : Int32)), (.int (0 : Int32)), (.int (0 : Int32)), (.int (0 : Int32)), (.int (0 : Int32)), (.int (0 : Int32)), (.int (0 : Int32)), (.int (0 : Int32)), (.int (0 : Int32)), (.int (0 : Int32)), (.int (0 : Int32)), (.int (0 : Int32)), (.int (0 : Int32)), (.int (0 : Int32)), (.int (0 : Int32)), (.int (0 : Int32)), (.int (0 : Int32)), (.int (0 : Int32)), (.int (0 : Int32)), (.int (0 : Int32)), (.int (0 : Int32)), (.int (0 : Int32)), (.int (0 : Int32)), (.int (0 : Int32)), (.int (0 : Int32)), (.int (0 : Int32)), (.int (0 : Int32)), (.int (0 : Int32)), (.int (0 : Int32)), (.int (0 : Int32)), (.int (0 : Int32)), (.int (0 : Int32)), (.int (0 : Int32)), (.int (0 : Int32)), (.int (0 : Int32)), (.int (0 : Int32)), (.int (0 : Int32)), (.int (0 : Int32))] (.int (0 : Int32)) := (Arv.new A101 (by decide)).pad (pad_rep [] (.int (0 : Int32)) 46)
  obtain ⟨cl102, Ar102, Aq102, As102, An102, Ah102, Ag102⟩ := id V101
  have hin102 : ¬ ((0 : Int32) < 0 ∨ cl102.slots.size ≤ ((0 : Int32)).toNatClampNeg) := inb_of As102 ⟨by decide, by decide⟩
  obtain ⟨T103, h103, X103, e103, W103, st103⟩ := stI X101 hx hZ e101 Ar102 (j := (0 : Int32)) hin102 (g := (mkF m 7 #[.val (.int p1), .val (.int p2), .val (.int p3), .val (.int p4), .unset, .unset, .unset, .unset] [(.int (0 : Int32)), (.int (0 : Int32)), (.ref b101), (.ref b101)])) rfl rfl (hb hby at_7)
  have Z103 : n0 ≤ h103.size := Nat.le_trans Z101 (Nat.le_of_eq W103.size.symm)
  have K103 := K101.wr W103 (Or.inr sz_b101)
  have N103 := Fr.snoc X103 N0 g_b101
  have V103 : Arv Z h103 b101 k101 .int (46 : Int32) [(.int (0 : Int32)), (.int (0 : Int32)), (.int (0 : Int32)), (.int (0 : Int32)), (.int (0 : Int32)), (.int (0 : Int32)), (.int (0 : Int32)), (.int (0 : Int32)), (.int (0 : Int32)), (.int (0 : Int32)), (.int (0 : Int32)), (.int (0 : Int32)), (.int (0 : Int32)), (.int (0 : Int32)), (.int (0 : Int32)), (.int (0 : Int32)), (.int (0 : Int32)), (.int (0 : Int32)), (.int (0 : Int32)), (.int (0 : Int32)), (.int (0 : Int32)), (.int (0 : Int32)), (.int (0 : Int32)), (.int (0 : Int32)), (.int (0 : Int32)), (.int (0 : Int32)), (.int (0 : Int32)), (.int (0 : Int32)), (.int (0 : Int32)), (.int (0 : Int32)), (.int (0 : Int32)), (.int (0 : Int32)), (.int (0 : Int32)), (.int (0 : Int32)), (.int (0 : Int32)), (.int (0 : Int32)), (.int (0 : Int32)), (.int (0 : Int32)), (.int (0 : Int32)), (.int (0 : Int32)), (.int (0 : Int32)), (.int (0 : Int32)), (.int (0 : Int32)), (.int (0 : Int32)), (.int (0 : Int32)), (.int (0 : Int32))] (.int (0 : Int32)) := Arv.set Ar102 Aq102 As102 An102 Ah102 Ag102 rfl W103 0 rfl (Nat.le_of_ble_eq_true rfl)
  obtain ⟨cl104, Ar104, Aq104, As104, An104, Ah104, Ag104⟩ := id V103
  have hin104 : ¬ ((1 : Int32) < 0 ∨ cl104.slots.size ≤ ((1 : Int32)).toNatClampNeg) := inb_of As104 ⟨by decide, by decide⟩
  obtain ⟨T105, h105, X105, e105, W105, st105⟩ := stI X103 hx hZ e103 Ar104 (j := (1 : Int32)) hin104 (g := (mkF m 12 #[.val (.int p1), .val (.int p2), .val (.int p3), .val (.int p4), .unset, .unset, .unset, .unset] [(.int (45 : Int32)), (.int (1 : Int32)), (.ref b101), (.ref b101)])) rfl rfl (hb hby at_12)
  have Z105 : n0 ≤ h105.size := Nat.le_trans Z103 (Nat.le_of_eq W105.size.symm)
  have K105 := K103.wr W105 (Or.inr sz_b101)
  have N105 := Fr.snoc X105 N103 g_b101
  have V105 : Arv Z h105 b101 k101 .int (46 : Int32) [(.int (0 : Int32)), (.int (45 : Int32)), (.int (0 : Int32)), (.int (0 : Int32)), (.int (0 : Int32)), (.int (0 : Int32)), (.int (0 : Int32)), (.int (0 : Int32)), (.int (0 : Int32)), (.int (0 : Int32)), (.int (0 : Int32)), (.int (0 : Int32)), (.int (0 : Int32)), (.int (0 : Int32)), (.int (0 : Int32)), (.int (0 : Int32)), (.int (0 : Int32)), (.int (0 : Int32)), (.int (0 : Int32)), (.int (0 : Int32)), (.int (0 : Int32)), (.int (0 : Int32)), (.int (0 : Int32)), (.int (0 : Int32)), (.int (0 : Int32)), (.int (0 : Int32)), (.int (0 : Int32)), (.int (0 : Int32)), (.int (0 : Int32)), (.int (0 : Int32)), (.int (0 : Int32)), (.int (0 : Int32)), (.int (0 : Int32)), (.int (0 : Int32)), (.int (0 : Int32)), (.int (0 : Int32)), (.int (0 : Int32)), (.int (0 : Int32)), (.int (0 : Int32)), (.int (0 : Int32)), (.int (0 : Int32)), (.int (0 : Int32)), (.int (0 : Int32)), (.int (0 : Int32)), (.int (0 : Int32)), (.int (0 : Int32))] (.int (0 : Int32)) := Arv.set Ar104 Aq104 As104 An104 Ah104 Ag104 rfl W105 1 rfl (Nat.le_of_ble_eq_true rfl)
  obtain ⟨cl106, Ar106, Aq106, As106, An106, Ah106, Ag106⟩ := id V105
  have hin106 : ¬ ((2 : Int32) < 0 ∨ cl106.slots.size ≤ ((2 : Int32)).toNatClampNeg) := inb_of As106 ⟨by decide, by decide⟩
  obtain ⟨T107, h107, X107, e107, W107, st107⟩ := stI X105 hx hZ e105 Ar106 (j := (2 : Int32)) hin106 (g := (mkF m 17 #[.val (.int p1), .val (.int p2), .val (.int p3), .val (.int p4), .unset, .unset, .unset, .unset] [(.int (46 : Int32)), (.int (2 : Int32)), (.ref b101), (.ref b101)])) rfl rfl (hb hby at_17)
  have Z107 : n0 ≤ h107.size := Nat.le_trans Z105 (Nat.le_of_eq W107.size.symm)
  have K107 := K105.wr W107 (Or.inr sz_b101)
  have N107 := Fr.snoc X107 N105 g_b101
  have V107 : Arv Z h107 b101 k101 .int (46 : Int32) [(.int (0 : Int32)), (.int (45 : Int32)), (.int (46 : Int32)), (.int (0 : Int32)), (.int (0 : Int32)), (.int (0 : Int32)), (.int (0 : Int32)), (.int (0 : Int32)), (.int (0 : Int32)), (.int (0 : Int32)), (.int (0 : Int32)), (.int (0 : Int32)), (.int (0 : Int32)), (.int (0 : Int32)), (.int (0 : Int32)), (.int (0 : Int32)), (.int (0 : Int32)), (.int (0 : Int32)), (.int (0 : Int32)), (.int (0 : Int32)), (.int (0 : Int32)), (.int (0 : Int32)), (.int (0 : Int32)), (.int (0 : Int32)), (.int (0 : Int32)), (.int (0 : Int32)), (.int (0 : Int32)), (.int (0 : Int32)), (.int (0 : Int32)), (.int (0 : Int32)), (.int (0 : Int32)), (.int (0 : Int32)), (.int (0 : Int32)), (.int (0 : Int32)), (.int (0 : Int32)), (.int (0 : Int32)), (.int (0 : Int32)), (.int (0 : Int32)), (.int (0 : Int32)), (.int (0 : Int32)), (.int (0 : Int32)), (.int (0 : Int32)), (.int (0 : Int32)), (.int (0 : Int32)), (.int (0 : Int32)), (.int (0 : Int32))] (.int (0 : Int32)) := Arv.set Ar106 Aq106 As106 An106 Ah106 Ag106 rfl W107 2 rfl (Nat.le_of_ble_eq_true rfl)
  obtain ⟨cl108, Ar108, Aq108, As108, An108, Ah108, Ag108⟩ := id V107
  have hin108 : ¬ ((3 : Int32) < 0 ∨ cl108.slots.size ≤ ((3 : Int32)).toNatClampNeg) := inb_of As108 ⟨by decide, by decide⟩
  obtain ⟨T109, h109, X109, e109, W109, st109⟩ := stI X107 hx hZ e107 Ar108 (j := (3 : Int32)) hin108 (g := (mkF m 22 #[.val (.int p1), .val (.int p2), .val (.int p3), .val (.int p4), .unset, .unset, .unset, .unset] [(.int (48 : Int32)), (.int (3 : Int32)), (.ref b101), (.ref b101)])) rfl rfl (hb hby at_22)
  have Z109 : n0 ≤ h109.size := Nat.le_trans Z107 (Nat.le_of_eq W109.size.symm)
  have K109 := K107.wr W109 (Or.inr sz_b101)
  have N109 := Fr.snoc X109 N107 g_b101
  have V109 : Arv Z h109 b101 k101 .int (46 : Int32) [(.int (0 : Int32)), (.int (45 : Int32)), (.int (46 : Int32)), (.int (48 : Int32)), (.int (0 : Int32)), (.int (0 : Int32)), (.int (0 : Int32)), (.int (0 : Int32)), (.int (0 : Int32)), (.int (0 : Int32)), (.int (0 : Int32)), (.int (0 : Int32)), (.int (0 : Int32)), (.int (0 : Int32)), (.int (0 : Int32)), (.int (0 : Int32)), (.int (0 : Int32)), (.int (0 : Int32)), (.int (0 : Int32)), (.int (0 : Int32)), (.int (0 : Int32)), (.int (0 : Int32)), (.int (0 : Int32)), (.int (0 : Int32)), (.int (0 : Int32)), (.int (0 : Int32)), (.int (0 : Int32)), (.int (0 : Int32)), (.int (0 : Int32)), (.int (0 : Int32)), (.int (0 : Int32)), (.int (0 : Int32)), (.int (0 : Int32)), (.int (0 : Int32)), (.int (0 : Int32)), (.int (0 : Int32)), (.int (0 : Int32)), (.int (0 : Int32)), (.int (0 : Int32)), (.int (0 : Int32)), (.int (0 : Int32)), (.int (0 : Int32)), (.int (0 : Int32)), (.int (0 : Int32)), (.int (0 : Int32)), (.int (0 : Int32))] (.int (0 : Int32)) := Arv.set Ar108 Aq108 As108 An108 Ah108 Ag108 rfl W109 3 rfl (Nat.le_of_ble_eq_true rfl)
  obtain ⟨cl110, Ar110, Aq110, As110, An110, Ah110, Ag110⟩ := id V109
  have hin110 : ¬ ((4 : Int32) < 0 ∨ cl110.slots.size ≤ ((4 : Int32)).toNatClampNeg) := inb_of As110 ⟨by decide, by decide⟩
  obtain ⟨T111, h111, X111, e111, W111, st111⟩ := stI X109 hx hZ e109 Ar110 (j := (4 : Int32)) hin110 (g := (mkF m 27 #[.val (.int p1), .val (.int p2), .val (.int p3), .val (.int p4), .unset, .unset, .unset, .unset] [(.int (57 : Int32)), (.int (4 : Int32)), (.ref b101), (.ref b101)])) rfl rfl (hb hby at_27)
  have Z111 : n0 ≤ h111.size := Nat.le_trans Z109 (Nat.le_of_eq W111.size.symm)
  have K111 := K109.wr W111 (Or.inr sz_b101)
  have N111 := Fr.snoc X111 N109 g_b101
  have V111 : Arv Z h111 b101 k101 .int (46 : Int32) [(.int (0 : Int32)), (.int (45 : Int32)), (.int (46 : Int32)), (.int (48 : Int32)), (.int (57 : Int32)), (.int (0 : Int32)), (.int (0 : Int32)), (.int (0 : Int32)), (.int (0 : Int32)), (.int (0 : Int32)), (.int (0 : Int32)), (.int (0 : Int32)), (.int (0 : Int32)), (.int (0 : Int32)), (.int (0 : Int32)), (.int (0 : Int32)), (.int (0 : Int32)), (.int (0 : Int32)), (.int (0 : Int32)), (.int (0 : Int32)), (.int (0 : Int32)), (.int (0 : Int32)), (.int (0 : Int32)), (.int (0 : Int32)), (.int (0 : Int32)), (.int (0 : Int32)), (.int (0 : Int32)), (.int (0 : Int32)), (.int (0 : Int32)), (.int (0 : Int32)), (.int (0 : Int32)), (.int (0 : Int32)), (.int (0 : Int32)), (.int (0 : Int32)), (.int (0 : Int32)), (.int (0 : Int32)), (.int (0 : Int32)), (.int (0 : Int32)), (.int (0 : Int32)), (.int (0 : Int32)), (.int (0 : Int32)), (.int (0 : Int32)), (.int (0 : Int32)), (.int (0 : Int32)), (.int (0 : Int32)), (.int (0 : Int32))] (.int (0 : Int32)) := Arv.set Ar110 Aq110 As110 An110 Ah110 Ag110 rfl W111 4 rfl (Nat.le_of_ble_eq_true rfl)
  obtain ⟨cl112, Ar112, Aq112, As112, An112, Ah112, Ag112⟩ := id V111
  have hin112 : ¬ ((5 : Int32) < 0 ∨ cl112.slots.size ≤ ((5 : Int32)).toNatClampNeg) := inb_of As112 ⟨by decide, by decide⟩
  obtain ⟨T113, h113, X113, e113, W113, st113⟩ := stI X111 hx hZ e111 Ar112 (j := (5 : Int32)) hin112 (g := (mkF m 32 #[.val (.int p1), .val (.int p2), .val (.int p3), .val (.int p4), .unset, .unset, .unset, .unset] [(.int (58 : Int32)), (.int (5 : Int32)), (.ref b101), (.ref b101)])) rfl rfl (hb hby at_32)
  have Z113 : n0 ≤ h113.size := Nat.le_trans Z111 (Nat.le_of_eq W113.size.symm)
  have K113 := K111.wr W113 (Or.inr sz_b101)
  have N113 := Fr.snoc X113 N111 g_b101
  have V113 : Arv Z h113 b101 k101 .int (46 : Int32) [(.int (0 : Int32)), (.int (45 : Int32)), (.int (46 : Int32)), (.int (48 : Int32)), (.int (57 : Int32)), (.int (58 : Int32)), (.int (0 : Int32)), (.int (0 : Int32)), (.int (0 : Int32)), (.int (0 : Int32)), (.int (0 : Int32)), (.int (0 : Int32)), (.int (0 : Int32)), (.int (0 : Int32)), (.int (0 : Int32)), (.int (0 : Int32)), (.int (0 : Int32)), (.int (0 : Int32)), (.int (0 : Int32)), (.int (0 : Int32)), (.int (0 : Int32)), (.int (0 : Int32)), (.int (0 : Int32)), (.int (0 : Int32)), (.int (0 : Int32)), (.int (0 : Int32)), (.int (0 : Int32)), (.int (0 : Int32)), (.int (0 : Int32)), (.int (0 : Int32)), (.int (0 : Int32)), (.int (0 : Int32)), (.int (0 : Int32)), (.int (0 : Int32)), (.int (0 : Int32)), (.int (0 : Int32)), (.int (0 : Int32)), (.int (0 : Int32)), (.int (0 : Int32)), (.int (0 : Int32)), (.int (0 : Int32)), (.int (0 : Int32)), (.int (0 : Int32)), (.int (0 : Int32)), (.int (0 : Int32)), (.int (0 : Int32))] (.int (0 : Int32)) := Arv.set Ar112 Aq112 As112 An112 Ah112 Ag112 rfl W113 5 rfl (Nat.le_of_ble_eq_true rfl)
  obtain ⟨cl114, Ar114, Aq114, As114, An114, Ah114, Ag114⟩ := id V113
  have hin114 : ¬ ((6 : Int32) < 0 ∨ cl114.slots.size ≤ ((6 : Int32)).toNatClampNeg) := inb_of As114 ⟨by decide, by decide⟩
  obtain ⟨T115, h115, X115, e115, W115, st115⟩ := stI X113 hx hZ e113 Ar114 (j := (6 : Int32)) hin114 (g := (mkF m 38 #[.val (.int p1), .val (.int p2), .val (.int p3), .val (.int p4), .unset, .unset, .unset, .unset] [(.int (65 : Int32)), (.int (6 : Int32)), (.ref b101), (.ref b101)])) rfl rfl (hb hby at_38)
  have Z115 : n0 ≤ h115.size := Nat.le_trans Z113 (Nat.le_of_eq W115.size.symm)
  have K115 := K113.wr W115 (Or.inr sz_b101)
  have N115 := Fr.snoc X115 N113 g_b101
  have V115 : Arv Z h115 b101 k101 .int (46 : Int32) [(.int (0 : Int32)), (.int (45 : Int32)), (.int (46 : Int32)), (.int (48 : Int32)), (.int (57 : Int32)), (.int (58 : Int32)), (.int (65 : Int32)), (.int (0 : Int32)), (.int (0 : Int32)), (.int (0 : Int32)), (.int (0 : Int32)), (.int (0 : Int32)), (.int (0 : Int32)), (.int (0 : Int32)), (.int (0 : Int32)), (.int (0 : Int32)), (.int (0 : Int32)), (.int (0 : Int32)), (.int (0 : Int32)), (.int (0 : Int32)), (.int (0 : Int32)), (.int (0 : Int32)), (.int (0 : Int32)), (.int (0 : Int32)), (.int (0 : Int32)), (.int (0 : Int32)), (.int (0 : Int32)), (.int (0 : Int32)), (.int (0 : Int32)), (.int (0 : Int32)), (.int (0 : Int32)), (.int (0 : Int32)), (.int (0 : Int32)), (.int (0 : Int32)), (.int (0 : Int32)), (.int (0 : Int32)), (.int (0 : Int32)), (.int (0 : Int32)), (.int (0 : Int32)), (.int (0 : Int32)), (.int (0 : Int32)), (.int (0 : Int32)), (.int (0 : Int32)), (.int (0 : Int32)), (.int (0 : Int32)), (.int (0 : Int32))] (.int (0 : Int32)) := Arv.set Ar114 Aq114 As114 An114 Ah114 Ag114 rfl W115 6 rfl (Nat.le_of_ble_eq_true rfl)
  obtain ⟨cl116, Ar116, Aq116, As116, An116, Ah116, Ag116⟩ := id V115
  have hin116 : ¬ ((7 : Int32) < 0 ∨ cl116.slots.size ≤ ((7 : Int32)).toNatClampNeg) := inb_of As116 ⟨by decide, by decide⟩
  obtain ⟨T117, h117, X117, e117, W117, st117⟩ := stI X115 hx hZ e115 Ar116 (j := (7 : Int32)) hin116 (g := (mkF m 44 #[.val (.int p1), .val (.int p2), .val (.int p3), .val (.int p4), .unset, .unset, .unset, .unset] [(.int (90 : Int32)), (.int (7 : Int32)), (.ref b101), (.ref b101)])) rfl rfl (hb hby at_44)
  have Z117 : n0 ≤ h117.size := Nat.le_trans Z115 (Nat.le_of_eq W117.size.symm)
  have K117 := K115.wr W117 (Or.inr sz_b101)
  have N117 := Fr.snoc X117 N115 g_b101
  have V117 : Arv Z h117 b101 k101 .int (46 : Int32) [(.int (0 : Int32)), (.int (45 : Int32)), (.int (46 : Int32)), (.int (48 : Int32)), (.int (57 : Int32)), (.int (58 : Int32)), (.int (65 : Int32)), (.int (90 : Int32)), (.int (0 : Int32)), (.int (0 : Int32)), (.int (0 : Int32)), (.int (0 : Int32)), (.int (0 : Int32)), (.int (0 : Int32)), (.int (0 : Int32)), (.int (0 : Int32)), (.int (0 : Int32)), (.int (0 : Int32)), (.int (0 : Int32)), (.int (0 : Int32)), (.int (0 : Int32)), (.int (0 : Int32)), (.int (0 : Int32)), (.int (0 : Int32)), (.int (0 : Int32)), (.int (0 : Int32)), (.int (0 : Int32)), (.int (0 : Int32)), (.int (0 : Int32)), (.int (0 : Int32)), (.int (0 : Int32)), (.int (0 : Int32)), (.int (0 : Int32)), (.int (0 : Int32)), (.int (0 : Int32)), (.int (0 : Int32)), (.int (0 : Int32)), (.int (0 : Int32)), (.int (0 : Int32)), (.int (0 : Int32)), (.int (0 : Int32)), (.int (0 : Int32)), (.int (0 : Int32)), (.int (0 : Int32)), (.int (0 : Int32)), (.int (0 : Int32))] (.int (0 : Int32)) := Arv.set Ar116 Aq116 As116 An116 Ah116 Ag116 rfl W117 7 rfl (Nat.le_of_ble_eq_true rfl)
  obtain ⟨cl118, Ar118, Aq118, As118, An118, Ah118, Ag118⟩ := id V117
  have hin118 : ¬ ((8 : Int32) < 0 ∨ cl118.slots.size ≤ ((8 : Int32)).toNatClampNeg) := inb_of As118 ⟨by decide, by decide⟩
  obtain ⟨T119, h119, X119, e119, W119, st119⟩ := stI X117 hx hZ e117 Ar118 (j := (8 : Int32)) hin118 (g := (mkF m 50 #[.val (.int p1), .val (.int p2), .val (.int p3), .val (.int p4), .unset, .unset, .unset, .unset] [(.int (95 : Int32)), (.int (8 : Int32)), (.ref b101), (.ref b101)])) rfl rfl (hb hby at_50)
  have Z119 : n0 ≤ h119.size := Nat.le_trans Z117 (Nat.le_of_eq W119.size.symm)
  have K119 := K117.wr W119 (Or.inr sz_b101)
  have N119 := Fr.snoc X119 N117 g_b101
  have V119 : Arv Z h119 b101 k101 .int (46 : Int32) [(.int (0 : Int32)), (.int (45 : Int32)), (.int (46 : Int32)), (.int (48 : Int32)), (.int (57 : Int32)), (.int (58 : Int32)), (.int (65 : Int32)), (.int (90 : Int32)), (.int (95 : Int32)), (.int (0 : Int32)), (.int (0 : Int32)), (.int (0 : Int32)), (.int (0 : Int32)), (.int (0 : Int32)), (.int (0 : Int32)), (.int (0 : Int32)), (.int (0 : Int32)), (.int (0 : Int32)), (.int (0 : Int32)), (.int (0 : Int32)), (.int (0 : Int32)), (.int (0 : Int32)), (.int (0 : Int32)), (.int (0 : Int32)), (.int (0 : Int32)), (.int (0 : Int32)), (.int (0 : Int32)), (.int (0 : Int32)), (.int (0 : Int32)), (.int (0 : Int32)), (.int (0 : Int32)), (.int (0 : Int32)), (.int (0 : Int32)), (.int (0 : Int32)), (.int (0 : Int32)), (.int (0 : Int32)), (.int (0 : Int32)), (.int (0 : Int32)), (.int (0 : Int32)), (.int (0 : Int32)), (.int (0 : Int32)), (.int (0 : Int32)), (.int (0 : Int32)), (.int (0 : Int32)), (.int (0 : Int32)), (.int (0 : Int32))] (.int (0 : Int32)) := Arv.set Ar118 Aq118 As118 An118 Ah118 Ag118 rfl W119 8 rfl (Nat.le_of_ble_eq_true rfl)
  obtain ⟨cl120, Ar120, Aq120, As120, An120, Ah120, Ag120⟩ := id V119
  have hin120 : ¬ ((9 : Int32) < 0 ∨ cl120.slots.size ≤ ((9 : Int32)).toNatClampNeg) := inb_of As120 ⟨by decide, by decide⟩
  obtain ⟨T121, h121, X121, e121, W121, st121⟩ := stI X119 hx hZ e119 Ar120 (j := (9 : Int32)) hin120 (g := (mkF m 56 #[.val (.int p1), .val (.int p2), .val (.int p3), .val (.int p4), .unset, .unset, .unset, .unset] [(.int (97 : Int32)), (.int (9 : Int32)), (.ref b101), (.ref b101)])) rfl rfl (hb hby at_56)
  have Z121 : n0 ≤ h121.size := Nat.le_trans Z119 (Nat.le_of_eq W121.size.symm)
  have K121 := K119.wr W121 (Or.inr sz_b101)
  have N121 := Fr.snoc X121 N119 g_b101
  have V121 : Arv Z h121 b101 k101 .int (46 : Int32) [(.int (0 : Int32)), (.int (45 : Int32)), (.int (46 : Int32)), (.int (48 : Int32)), (.int (57 : Int32)), (.int (58 : Int32)), (.int (65 : Int32)), (.int (90 : Int32)), (.int (95 : Int32)), (.int (97 : Int32)), (.int (0 : Int32)), (.int (0 : Int32)), (.int (0 : Int32)), (.int (0 : Int32)), (.int (0 : Int32)), (.int (0 : Int32)), (.int (0 : Int32)), (.int (0 : Int32)), (.int (0 : Int32)), (.int (0 : Int32)), (.int (0 : Int32)), (.int (0 : Int32)), (.int (0 : Int32)), (.int (0 : Int32)), (.int (0 : Int32)), (.int (0 : Int32)), (.int (0 : Int32)), (.int (0 : Int32)), (.int (0 : Int32)), (.int (0 : Int32)), (.int (0 : Int32)), (.int (0 : Int32)), (.int (0 : Int32)), (.int (0 : Int32)), (.int (0 : Int32)), (.int (0 : Int32)), (.int (0 : Int32)), (.int (0 : Int32)), (.int (0 : Int32)), (.int (0 : Int32)), (.int (0 : Int32)), (.int (0 : Int32)), (.int (0 : Int32)), (.int (0 : Int32)), (.int (0 : Int32)), (.int (0 : Int32))] (.int (0 : Int32)) := Arv.set Ar120 Aq120 As120 An120 Ah120 Ag120 rfl W121 9 rfl (Nat.le_of_ble_eq_true rfl)
  obtain ⟨cl122, Ar122, Aq122, As122, An122, Ah122, Ag122⟩ := id V121
  have hin122 : ¬ ((10 : Int32) < 0 ∨ cl122.slots.size ≤ ((10 : Int32)).toNatClampNeg) := inb_of As122 ⟨by decide, by decide⟩
  obtain ⟨T123, h123, X123, e123, W123, st123⟩ := stI X121 hx hZ e121 Ar122 (j := (10 : Int32)) hin122 (g := (mkF m 62 #[.val (.int p1), .val (.int p2), .val (.int p3), .val (.int p4), .unset, .unset, .unset, .unset] [(.int (122 : Int32)), (.int (10 : Int32)), (.ref b101), (.ref b101)])) rfl rfl (hb hby at_62)
  have Z123 : n0 ≤ h123.size := Nat.le_trans Z121 (Nat.le_of_eq W123.size.symm)
  have K123 := K121.wr W123 (Or.inr sz_b101)
  have N123 := Fr.snoc X123 N121 g_b101
  have V123 : Arv Z h123 b101 k101 .int (46 : Int32) [(.int (0 : Int32)), (.int (45 : Int32)), (.int (46 : Int32)), (.int (48 : Int32)), (.int (57 : Int32)), (.int (58 : Int32)), (.int (65 : Int32)), (.int (90 : Int32)), (.int (95 : Int32)), (.int (97 : Int32)), (.int (122 : Int32)), (.int (0 : Int32)), (.int (0 : Int32)), (.int (0 : Int32)), (.int (0 : Int32)), (.int (0 : Int32)), (.int (0 : Int32)), (.int (0 : Int32)), (.int (0 : Int32)), (.int (0 : Int32)), (.int (0 : Int32)), (.int (0 : Int32)), (.int (0 : Int32)), (.int (0 : Int32)), (.int (0 : Int32)), (.int (0 : Int32)), (.int (0 : Int32)), (.int (0 : Int32)), (.int (0 : Int32)), (.int (0 : Int32)), (.int (0 : Int32)), (.int (0 : Int32)), (.int (0 : Int32)), (.int (0 : Int32)), (.int (0 : Int32)), (.int (0 : Int32)), (.int (0 : Int32)), (.int (0 : Int32)), (.int (0 : Int32)), (.int (0 : Int32)), (.int (0 : Int32)), (.int (0 : Int32)), (.int (0 : Int32)), (.int (0 : Int32)), (.int (0 : Int32)), (.int (0 : Int32))] (.int (0 : Int32)) := Arv.set Ar122 Aq122 As122 An122 Ah122 Ag122 rfl W123 10 rfl (Nat.le_of_ble_eq_true rfl)
  obtain ⟨cl124, Ar124, Aq124, As124, An124, Ah124, Ag124⟩ := id V123
  have hin124 : ¬ ((11 : Int32) < 0 ∨ cl124.slots.size ≤ ((11 : Int32)).toNatClampNeg) := inb_of As124 ⟨by decide, by decide⟩
  obtain ⟨T125, h125, X125, e125, W125, st125⟩ := stI X123 hx hZ e123 Ar124 (j := (11 : Int32)) hin124 (g := (mkF m 68 #[.val (.int p1), .val (.int p2), .val (.int p3), .val (.int p4), .unset, .unset, .unset, .unset] [(.int (127 : Int32)), (.int (11 : Int32)), (.ref b101), (.ref b101)])) rfl rfl (hb hby at_68)
  have Z125 : n0 ≤ h125.size := Nat.le_trans Z123 (Nat.le_of_eq W125.size.symm)
  have K125 := K123.wr W125 (Or.inr sz_b101)
  have N125 := Fr.snoc X125 N123 g_b101
  have V125 : Arv Z h125 b101 k101 .int (46 : Int32) [(.int (0 : Int32)), (.int (45 : Int32)), (.int (46 : Int32)), (.int (48 : Int32)), (.int (57 : Int32)), (.int (58 : Int32)), (.int (65 : Int32)), (.int (90 : Int32)), (.int (95 : Int32)), (.int (97 : Int32)), (.int (122 : Int32)), (.int (127 : Int32)), (.int (0 : Int32)), (.int (0 : Int32)), (.int (0 : Int32)), (.int (0 : Int32)), (.int (0 : Int32)), (.int (0 : Int32)), (.int (0 : Int32)), (.int (0 : Int32)), (.int (0 : Int32)), (.int (0 : Int32)), (.int (0 : Int32)), (.int (0 : Int32)), (.int (0 : Int32)), (.int (0 : Int32)), (.int (0 : Int32)), (.int (0 : Int32)), (.int (0 : Int32)), (.int (0 : Int32)), (.int (0 : Int32)), (.int (0 : Int32)), (.int (0 : Int32)), (.int (0 : Int32)), (.int (0 : Int32)), (.int (0 : Int32)), (.int (0 : Int32)), (.int (0 : Int32)), (.int (0 : Int32)), (.int (0 : Int32)), (.int (0 : Int32)), (.int (0 : Int32)), (.int (0 : Int32)), (.int (0 : Int32)), (.int (0 : Int32)), (.int (0 : Int32))] (.int (0 : Int32)) := Arv.set Ar124 Aq124 As124 An124 Ah124 Ag124 rfl W125 11 rfl (Nat.le_of_ble_eq_true rfl)
  obtain ⟨cl126, Ar126, Aq126, As126, An126, Ah126, Ag126⟩ := id V125
  have hin126 : ¬ ((12 : Int32) < 0 ∨ cl126.slots.size ≤ ((12 : Int32)).toNatClampNeg) := inb_of As126 ⟨by decide, by decide⟩
  obtain ⟨T127, h127, X127, e127, W127, st127⟩ := stI X125 hx hZ e125 Ar126 (j := (12 : Int32)) hin126 (g := (mkF m 75 #[.val (.int p1), .val (.int p2), .val (.int p3), .val (.int p4), .unset, .unset, .unset, .unset] [(.int (128 : Int32)), (.int (12 : Int32)), (.ref b101), (.ref b101)])) rfl rfl (hb hby at_75)
  have Z127 : n0 ≤ h127.size := Nat.le_trans Z125 (Nat.le_of_eq W127.size.symm)
  have K127 := K125.wr W127 (Or.inr sz_b101)
  have N127 := Fr.snoc X127 N125 g_b101
  have V127 : Arv Z h127 b101 k101 .int (46 : Int32) [(.int (0 : Int32)), (.int (45 : Int32)), (.int (46 : Int32)), (.int (48 : Int32)), (.int (57 : Int32)), (.int (58 : Int32)), (.int (65 : Int32)), (.int (90 : Int32)), (.int (95 : Int32)), (.int (97 : Int32)), (.int (122 : Int32)), (.int (127 : Int32)), (.int (128 : Int32)), (.int (0 : Int32)), (.int (0 : Int32)), (.int (0 : Int32)), (.int (0 : Int32)), (.int (0 : Int32)), (.int (0 : Int32)), (.int (0 : Int32)), (.int (0 : Int32)), (.int (0 : Int32)), (.int (0 : Int32)), (.int (0 : Int32)), (.int (0 : Int32)), (.int (0 : Int32)), (.int (0 : Int32)), (.int (0 : Int32)), (.int (0 : Int32)), (.int (0 : Int32)), (.int (0 : Int32)), (.int (0 : Int32)), (.int (0 : Int32)), (.int (0 : Int32)), (.int (0 : Int32)), (.int (0 : Int32)), (.int (0 : Int32)), (.int (0 : Int32)), (.int (0 : Int32)), (.int (0 : Int32)), (.int (0 : Int32)), (.int (0 : Int32)), (.int (0 : Int32)), (.int (0 : Int32)), (.int (0 : Int32)), (.int (0 : Int32))] (.int (0 : Int32)) := Arv.set Ar126 Aq126 As126 An126 Ah126 Ag126 rfl W127 12 rfl (Nat.le_of_ble_eq_true rfl)
  obtain ⟨cl128, Ar128, Aq128, As128, An128, Ah128, Ag128⟩ := id V127
  have hin128 : ¬ ((13 : Int32) < 0 ∨ cl128.slots.size ≤ ((13 : Int32)).toNatClampNeg) := inb_of As128 ⟨by decide, by decide⟩
  obtain ⟨T129, h129, X129, e129, W129, st129⟩ := stI X127 hx hZ e127 Ar128 (j := (13 : Int32)) hin128 (g := (mkF m 82 #[.val (.int p1), .val (.int p2), .val (.int p3), .val (.int p4), .unset, .unset, .unset, .unset] [(.int (183 : Int32)), (.int (13 : Int32)), (.ref b101), (.ref b101)])) rfl rfl (hb hby at_82)
  have Z129 : n0 ≤ h129.size := Nat.le_trans Z127 (Nat.le_of_eq W129.size.symm)
  have K129 := K127.wr W129 (Or.inr sz_b101)
  have N129 := Fr.snoc X129 N127 g_b101
  have V129 : Arv Z h129 b101 k101 .int (46 : Int32) [(.int (0 : Int32)), (.int (45 : Int32)), (.int (46 : Int32)), (.int (48 : Int32)), (.int (57 : Int32)), (.int (58 : Int32)), (.int (65 : Int32)), (.int (90 : Int32)), (.int (95 : Int32)), (.int (97 : Int32)), (.int (122 : Int32)), (.int (127 : Int32)), (.int (128 : Int32)), (.int (183 : Int32)), (.int (0 : Int32)), (.int (0 : Int32)), (.int (0 : Int32)), (.int (0 : Int32)), (.int (0 : Int32)), (.int (0 : Int32)), (.int (0 : Int32)), (.int (0 : Int32)), (.int (0 : Int32)), (.int (0 : Int32)), (.int (0 : Int32)), (.int (0 : Int32)), (.int (0 : Int32)), (.int (0 : Int32)), (.int (0 : Int32)), (.int (0 : Int32)), (.int (0 : Int32)), (.int (0 : Int32)), (.int (0 : Int32)), (.int (0 : Int32)), (.int (0 : Int32)), (.int (0 : Int32)), (.int (0 : Int32)), (.int (0 : Int32)), (.int (0 : Int32)), (.int (0 : Int32)), (.int (0 : Int32)), (.int (0 : Int32)), (.int (0 : Int32)), (.int (0 : Int32)), (.int (0 : Int32)), (.int (0 : Int32))] (.int (0 : Int32)) := Arv.set Ar128 Aq128 As128 An128 Ah128 Ag128 rfl W129 13 rfl (Nat.le_of_ble_eq_true rfl)
  obtain ⟨cl130, Ar130, Aq130, As130, An130, Ah130, Ag130⟩ := id V129
  have hin130 : ¬ ((14 : Int32) < 0 ∨ cl130.slots.size ≤ ((14 : Int32)).toNatClampNeg) := inb_of As130 ⟨by decide, by decide⟩
  obtain ⟨T131, h131, X131, e131, W131, st131⟩ := stI X129 hx hZ e129 Ar130 (j := (14 : Int32)) hin130 (g := (mkF m 89 #[.val (.int p1), .val (.int p2), .val (.int p3), .val (.int p4), .unset, .unset, .unset, .unset] [(.int (192 : Int32)), (.int (14 : Int32)), (.ref b101), (.ref b101)])) rfl rfl (hb hby at_89)
  have Z131 : n0 ≤ h131.size := Nat.le_trans Z129 (Nat.le_of_eq W131.size.symm)
  have K131 := K129.wr W131 (Or.inr sz_b101)
  have N131 := Fr.snoc X131 N129 g_b101
  have V131 : Arv Z h131 b101 k101 .int (46 : Int32) [(.int (0 : Int32)), (.int (45 : Int32)), (.int (46 : Int32)), (.int (48 : Int32)), (.int (57 : Int32)), (.int (58 : Int32)), (.int (65 : Int32)), (.int (90 : Int32)), (.int (95 : Int32)), (.int (97 : Int32)), (.int (122 : Int32)), (.int (127 : Int32)), (.int (128 : Int32)), (.int (183 : Int32)), (.int (192 : Int32)), (.int (0 : Int32)), (.int (0 : Int32)), (.int (0 : Int32)), (.int (0 : Int32)), (.int (0 : Int32)), (.int (0 : Int32)), (.int (0 : Int32)), (.int (0 : Int32)), (.int (0 : Int32)), (.int (0 : Int32)), (.int (0 : Int32)), (.int (0 : Int32)), (.int (0 : Int32)), (.int (0 : Int32)), (.int (0 : Int32)), (.int (0 : Int32)), (.int (0 : Int32)), (.int (0 : Int32)), (.int (0 : Int32)), (.int (0 : Int32)), (.int (0 : Int32)), (.int (0 : Int32)), (.int (0 : Int32)), (.int (0 : Int32)), (.int (0 : Int32)), (.int (0 : Int32)), (.int (0 : Int32)), (.int (0 : Int32)), (.int (0 : Int32)), (.int (0 : Int32)), (.int (0 : Int32))] (.int (0 : Int32)) := Arv.set Ar130 Aq130 As130 An130 Ah130 Ag130 rfl W131 14 rfl (Nat.le_of_ble_eq_true rfl)
  obtain ⟨cl132, Ar132, Aq132, As132, An132, Ah132, Ag132⟩ := id V131
  have hin132 : ¬ ((15 : Int32) < 0 ∨ cl132.slots.size ≤ ((15 : Int32)).toNatClampNeg) := inb_of As132 ⟨by decide, by decide⟩
  obtain ⟨T133, h133, X133, e133, W133, st133⟩ := stI X131 hx hZ e131 Ar132 (j := (15 : Int32)) hin132 (g := (mkF m 96 #[.val (.int p1), .val (.int p2), .val (.int p3), .val (.int p4), .unset, .unset, .unset, .unset] [(.int (214 : Int32)), (.int (15 : Int32)), (.ref b101), (.ref b101)])) rfl rfl (hb hby at_96)
  have Z133 : n0 ≤ h133.size := Nat.le_trans Z131 (Nat.le_of_eq W133.size.symm)
  have K133 := K131.wr W133 (Or.inr sz_b101)
  have N133 := Fr.snoc X133 N131 g_b101
  have V133 : Arv Z h133 b101 k101 .int (46 : Int32) [(.int (0 : Int32)), (.int (45 : Int32)), (.int (46 : Int32)), (.int (48 : Int32)), (.int (57 : Int32)), (.int (58 : Int32)), (.int (65 : Int32)), (.int (90 : Int32)), (.int (95 : Int32)), (.int (97 : Int32)), (.int (122 : Int32)), (.int (127 : Int32)), (.int (128 : Int32)), (.int (183 : Int32)), (.int (192 : Int32)), (.int (214 : Int32)), (.int (0 : Int32)), (.int (0 : Int32)), (.int (0 : Int32)), (.int (0 : Int32)), (.int (0 : Int32)), (.int (0 : Int32)), (.int (0 : Int32)), (.int (0 : Int32)), (.int (0 : Int32)), (.int (0 : Int32)), (.int (0 : Int32)), (.int (0 : Int32)), (.int (0 : Int32)), (.int (0 : Int32)), (.int (0 : Int32)), (.int (0 : Int32)), (.int (0 : Int32)), (.int (0 : Int32)), (.int (0 : Int32)), (.int (0 : Int32)), (.int (0 : Int32)), (.int (0 : Int32)), (.int (0 : Int32)), (.int (0 : Int32)), (.int (0 : Int32)), (.int (0 : Int32)), (.int (0 : Int32)), (.int (0 : Int32)), (.int (0 : Int32)), (.int (0 : Int32))] (.int (0 : Int32)) := Arv.set Ar132 Aq132 As132 An132 Ah132 Ag132 rfl W133 15 rfl (Nat.le_of_ble_eq_true rfl)
  obtain ⟨cl134, Ar134, Aq134, As134, An134, Ah134, Ag134⟩ := id V133
  have hin134 : ¬ ((16 : Int32) < 0 ∨ cl134.slots.size ≤ ((16 : Int32)).toNatClampNeg) := inb_of As134 ⟨by decide, by decide⟩
  obtain ⟨T135, h135, X135, e135, W135, st135⟩ := stI X133 hx hZ e133 Ar134 (j := (16 : Int32)) hin134 (g := (mkF m 103 #[.val (.int p1), .val (.int p2), .val (.int p3), .val (.int p4), .unset, .unset, .unset, .unset] [(.int (216 : Int32)), (.int (16 : Int32)), (.ref b101), (.ref b101)])) rfl rfl (hb hby at_103)
  have Z135 : n0 ≤ h135.size := Nat.le_trans Z133 (Nat.le_of_eq W135.size.symm)
  have K135 := K133.wr W135 (Or.inr sz_b101)
  have N135 := Fr.snoc X135 N133 g_b101
  have V135 : Arv Z h135 b101 k101 .int (46 : Int32) [(.int (0 : Int32)), (.int (45 : Int32)), (.int (46 : Int32)), (.int (48 : Int32)), (.int (57 : Int32)), (.int (58 : Int32)), (.int (65 : Int32)), (.int (90 : Int32)), (.int (95 : Int32)), (.int (97 : Int32)), (.int (122 : Int32)), (.int (127 : Int32)), (.int (128 : Int32)), (.int (183 : Int32)), (.int (192 : Int32)), (.int (214 : Int32)), (.int (216 : Int32)), (.int (0 : Int32)), (.int (0 : Int32)), (.int (0 : Int32)), (.int (0 : Int32)), (.int (0 : Int32)), (.int (0 : Int32)), (.int (0 : Int32)), (.int (0 : Int32)), (.int (0 : Int32)), (.int (0 : Int32)), (.int (0 : Int32)), (.int (0 : Int32)), (.int (0 : Int32)), (.int (0 : Int32)), (.int (0 : Int32)), (.int (0 : Int32)), (.int (0 : Int32)), (.int (0 : Int32)), (.int (0 : Int32)), (.int (0 : Int32)), (.int (0 : Int32)), (.int (0 : Int32)), (.int (0 : Int32)), (.int (0 : Int32)), (.int (0 : Int32)), (.int (0 : Int32)), (.int (0 : Int32)), (.int (0 : Int32)), (.int (0 : Int32))] (.int (0 : Int32)) := Arv.set Ar134 Aq134 As134 An134 Ah134 Ag134 rfl W135 16 rfl (Nat.le_of_ble_eq_true rfl)
  obtain ⟨cl136, Ar136, Aq136, As136, An136, Ah136, Ag136⟩ := id V135
  have hin136 : ¬ ((17 : Int32) < 0 ∨ cl136.slots.size ≤ ((17 : Int32)).toNatClampNeg) := inb_of As136 ⟨by decide, by decide⟩
  obtain ⟨T137, h137, X137, e137, W137, st137⟩ := stI X135 hx hZ e135 Ar136 (j := (17 : Int32)) hin136 (g := (mkF m 110 #[.val (.int p1), .val (.int p2), .val (.int p3), .val (.int p4), .unset, .unset, .unset, .unset] [(.int (246 : Int32)), (.int (17 : Int32)), (.ref b101), (.ref b101)])) rfl rfl (hb hby at_110)
  have Z137 : n0 ≤ h137.size := Nat.le_trans Z135 (Nat.le_of_eq W137.size.symm)
  have K137 := K135.wr W137 (Or.inr sz_b101)
  have N137 := Fr.snoc X137 N135 g_b101
  have V137 : Arv Z h137 b101 k101 .int (46 : Int32) [(.int (0 : Int32)), (.int (45 : Int32)), (.int (46 : Int32)), (.int (48 : Int32)), (.int (57 : Int32)), (.int (58 : Int32)), (.int (65 : Int32)), (.int (90 : Int32)), (.int (95 : Int32)), (.int (97 : Int32)), (.int (122 : Int32)), (.int (127 : Int32)), (.int (128 : Int32)), (.int (183 : Int32)), (.int (192 : Int32)), (.int (214 : Int32)), (.int (216 : Int32)), (.int (246 : Int32)), (.int (0 : Int32)), (.int (0 : Int32)), (.int (0 : Int32)), (.int (0 : Int32)), (.int (0 : Int32)), (.int (0 : Int32)), (.int (0 : Int32)), (.int (0 : Int32)), (.int (0 : Int32)), (.int (0 : Int32)), (.int (0 : Int32)), (.int (0 : Int32)), (.int (0 : Int32)), (.int (0 : Int32)), (.int (0 : Int32)), (.int (0 : Int32)), (.int (0 : Int32)), (.int (0 : Int32)), (.int (0 : Int32)), (.int (0 : Int32)), (.int (0 : Int32)), (.int (0 : Int32)), (.int (0 : Int32)), (.int (0 : Int32)), (.int (0 : Int32)), (.int (0 : Int32)), (.int (0 : Int32)), (.int (0 : Int32))] (.int (0 : Int32)) := Arv.set Ar136 Aq136 As136 An136 Ah136 Ag136 rfl W137 17 rfl (Nat.le_of_ble_eq_true rfl)
  obtain ⟨cl138, Ar138, Aq138, As138, An138, Ah138, Ag138⟩ := id V137
  have hin138 : ¬ ((18 : Int32) < 0 ∨ cl138.slots.size ≤ ((18 : Int32)).toNatClampNeg) := inb_of As138 ⟨by decide, by decide⟩
  obtain ⟨T139, h139, X139, e139, W139, st139⟩ := stI X137 hx hZ e137 Ar138 (j := (18 : Int32)) hin138 (g := (mkF m 117 #[.val (.int p1), .val (.int p2), .val (.int p3), .val (.int p4), .unset, .unset, .unset, .unset] [(.int (248 : Int32)), (.int (18 : Int32)), (.ref b101), (.ref b101)])) rfl rfl (hb hby at_117)
  have Z139 : n0 ≤ h139.size := Nat.le_trans Z137 (Nat.le_of_eq W139.size.symm)
  have K139 := K137.wr W139 (Or.inr sz_b101)
  have N139 := Fr.snoc X139 N137 g_b101
  have V139 : Arv Z h139 b101 k101 .int (46 : Int32) [(.int (0 : Int32)), (.int (45 : Int32)), (.int (46 : Int32)), (.int (48 : Int32)), (.int (57 : Int32)), (.int (58 : Int32)), (.int (65 : Int32)), (.int (90 : Int32)), (.int (95 : Int32)), (.int (97 : Int32)), (.int (122 : Int32)), (.int (127 : Int32)), (.int (128 : Int32)), (.int (183 : Int32)), (.int (192 : Int32)), (.int (214 : Int32)), (.int (216 : Int32)), (.int (246 : Int32)), (.int (248 : Int32)), (.int (0 : Int32)), (.int (0 : Int32)), (.int (0 : Int32)), (.int (0 : Int32)), (.int (0 : Int32)), (.int (0 : Int32)), (.int (0 : Int32)), (.int (0 : Int32)), (.int (0 : Int32)), (.int (0 : Int32)), (.int (0 : Int32)), (.int (0 : Int32)), (.int (0 : Int32)), (.int (0 : Int32)), (.int (0 : Int32)), (.int (0 : Int32)), (.int (0 : Int32)), (.int (0 : Int32)), (.int (0 : Int32)), (.int (0 : Int32)), (.int (0 : Int32)), (.int (0 : Int32)), (.int (0 : Int32)), (.int (0 : Int32)), (.int (0 : Int32)), (.int (0 : Int32)), (.int (0 : Int32))] (.int (0 : Int32)) := Arv.set Ar138 Aq138 As138 An138 Ah138 Ag138 rfl W139 18 rfl (Nat.le_of_ble_eq_true rfl)
  obtain ⟨cl140, Ar140, Aq140, As140, An140, Ah140, Ag140⟩ := id V139
  have hin140 : ¬ ((19 : Int32) < 0 ∨ cl140.slots.size ≤ ((19 : Int32)).toNatClampNeg) := inb_of As140 ⟨by decide, by decide⟩
  obtain ⟨T141, h141, X141, e141, W141, st141⟩ := stI X139 hx hZ e139 Ar140 (j := (19 : Int32)) hin140 (g := (mkF m 124 #[.val (.int p1), .val (.int p2), .val (.int p3), .val (.int p4), .unset, .unset, .unset, .unset] [(.int (767 : Int32)), (.int (19 : Int32)), (.ref b101), (.ref b101)])) rfl rfl (hb hby at_124)
  have Z141 : n0 ≤ h141.size := Nat.le_trans Z139 (Nat.le_of_eq W141.size.symm)
  have K141 := K139.wr W141 (Or.inr sz_b101)
  have N141 := Fr.snoc X141 N139 g_b101
  have V141 : Arv Z h141 b101 k101 .int (46 : Int32) [(.int (0 : Int32)), (.int (45 : Int32)), (.int (46 : Int32)), (.int (48 : Int32)), (.int (57 : Int32)), (.int (58 : Int32)), (.int (65 : Int32)), (.int (90 : Int32)), (.int (95 : Int32)), (.int (97 : Int32)), (.int (122 : Int32)), (.int (127 : Int32)), (.int (128 : Int32)), (.int (183 : Int32)), (.int (192 : Int32)), (.int (214 : Int32)), (.int (216 : Int32)), (.int (246 : Int32)), (.int (248 : Int32)), (.int (767 : Int32)), (.int (0 : Int32)), (.int (0 : Int32)), (.int (0 : Int32)), (.int (0 : Int32)), (.int (0 : Int32)), (.int (0 : Int32)), (.int (0 : Int32)), (.int (0 : Int32)), (.int (0 : Int32)), (.int (0 : Int32)), (.int (0 : Int32)), (.int (0 : Int32)), (.int (0 : Int32)), (.int (0 : Int32)), (.int (0 : Int32)), (.int (0 : Int32)), (.int (0 : Int32)), (.int (0 : Int32)), (.int (0 : Int32)), (.int (0 : Int32)), (.int (0 : Int32)), (.int (0 : Int32)), (.int (0 : Int32)), (.int (0 : Int32)), (.int (0 : Int32)), (.int (0 : Int32))] (.int (0 : Int32)) := Arv.set Ar140 Aq140 As140 An140 Ah140 Ag140 rfl W141 19 rfl (Nat.le_of_ble_eq_true rfl)
  obtain ⟨cl142, Ar142, Aq142, As142, An142, Ah142, Ag142⟩ := id V141
  have hin142 : ¬ ((20 : Int32) < 0 ∨ cl142.slots.size ≤ ((20 : Int32)).toNatClampNeg) := inb_of As142 ⟨by decide, by decide⟩
  obtain ⟨T143, h143, X143, e143, W143, st143⟩ := stI X141 hx hZ e141 Ar142 (j := (20 : Int32)) hin142 (g := (mkF m 131 #[.val (.int p1), .val (.int p2), .val (.int p3), .val (.int p4), .unset, .unset, .unset, .unset] [(.int (768 : Int32)), (.int (20 : Int32)), (.ref b101), (.ref b101)])) rfl rfl (hb hby at_131)
  have Z143 : n0 ≤ h143.size := Nat.le_trans Z141 (Nat.le_of_eq W143.size.symm)
  have K143 := K141.wr W143 (Or.inr sz_b101)
  have N143 := Fr.snoc X143 N141 g_b101
  have V143 : Arv Z h143 b101 k101 .int (46 : Int32) [(.int (0 : Int32)), (.int (45 : Int32)), (.int (46 : Int32)), (.int (48 : Int32)), (.int (57 : Int32)), (.int (58 : Int32)), (.int (65 : Int32)), (.int (90 : Int32)), (.int (95 : Int32)), (.int (97 : Int32)), (.int (122 : Int32)), (.int (127 : Int32)), (.int (128 : Int32)), (.int (183 : Int32)), (.int (192 : Int32)), (.int (214 : Int32)), (.int (216 : Int32)), (.int (246 : Int32)), (.int (248 : Int32)), (.int (767 : Int32)), (.int (768 : Int32)), (.int (0 : Int32)), (.int (0 : Int32)), (.int (0 : Int32)), (.int (0 : Int32)), (.int (0 : Int32)), (.int (0 : Int32)), (.int (0 : Int32)), (.int (0 : Int32)), (.int (0 : Int32)), (.int (0 : Int32)), (.int (0 : Int32)), (.int (0 : Int32)), (.int (0 : Int32)), (.int (0 : Int32)), (.int (0 : Int32)), (.int (0 : Int32)), (.int (0 : Int32)), (.int (0 : Int32)), (.int (0 : Int32)), (.int (0 : Int32)), (.int (0 : Int32)), (.int (0 : Int32)), (.int (0 : Int32)), (.int (0 : Int32)), (.int (0 : Int32))] (.int (0 : Int32)) := Arv.set Ar142 Aq142 As142 An142 Ah142 Ag142 rfl W143 20 rfl (Nat.le_of_ble_eq_true rfl)
  obtain ⟨cl144, Ar144, Aq144, As144, An144, Ah144, Ag144⟩ := id V143
  have hin144 : ¬ ((21 : Int32) < 0 ∨ cl144.slots.size ≤ ((21 : Int32)).toNatClampNeg) := inb_of As144 ⟨by decide, by decide⟩
  obtain ⟨T145, h145, X145, e145, W145, st145⟩ := stI X143 hx hZ e143 Ar144 (j := (21 : Int32)) hin144 (g := (mkF m 138 #[.val (.int p1), .val (.int p2), .val (.int p3), .val (.int p4), .unset, .unset, .unset, .unset] [(.int (879 : Int32)), (.int (21 : Int32)), (.ref b101), (.ref b101)])) rfl rfl (hb hby at_138)
  have Z145 : n0 ≤ h145.size := Nat.le_trans Z143 (Nat.le_of_eq W145.size.symm)
  have K145 := K143.wr W145 (Or.inr sz_b101)
  have N145 := Fr.snoc X145 N143 g_b101
  have V145 : Arv Z h145 b101 k101 .int (46 : Int32) [(.int (0 : Int32)), (.int (45 : Int32)), (.int (46 : Int32)), (.int (48 : Int32)), (.int (57 : Int32)), (.int (58 : Int32)), (.int (65 : Int32)), (.int (90 : Int32)), (.int (95 : Int32)), (.int (97 : Int32)), (.int (122 : Int32)), (.int (127 : Int32)), (.int (128 : Int32)), (.int (183 : Int32)), (.int (192 : Int32)), (.int (214 : Int32)), (.int (216 : Int32)), (.int (246 : Int32)), (.int (248 : Int32)), (.int (767 : Int32)), (.int (768 : Int32)), (.int (879 : Int32)), (.int (0 : Int32)), (.int (0 : Int32)), (.int (0 : Int32)), (.int (0 : Int32)), (.int (0 : Int32)), (.int (0 : Int32)), (.int (0 : Int32)), (.int (0 : Int32)), (.int (0 : Int32)), (.int (0 : Int32)), (.int (0 : Int32)), (.int (0 : Int32)), (.int (0 : Int32)), (.int (0 : Int32)), (.int (0 : Int32)), (.int (0 : Int32)), (.int (0 : Int32)), (.int (0 : Int32)), (.int (0 : Int32)), (.int (0 : Int32)), (.int (0 : Int32)), (.int (0 : Int32)), (.int (0 : Int32)), (.int (0 : Int32))] (.int (0 : Int32)) := Arv.set Ar144 Aq144 As144 An144 Ah144 Ag144 rfl W145 21 rfl (Nat.le_of_ble_eq_true rfl)
  obtain ⟨cl146, Ar146, Aq146, As146, An146, Ah146, Ag146⟩ := id V145
  have hin146 : ¬ ((22 : Int32) < 0 ∨ cl146.slots.size ≤ ((22 : Int32)).toNatClampNeg) := inb_of As146 ⟨by decide, by decide⟩
  obtain ⟨T147, h147, X147, e147, W147, st147⟩ := stI X145 hx hZ e145 Ar146 (j := (22 : Int32)) hin146 (g := (mkF m 145 #[.val (.int p1), .val (.int p2), .val (.int p3), .val (.int p4), .unset, .unset, .unset, .unset] [(.int (880 : Int32)), (.int (22 : Int32)), (.ref b101), (.ref b101)])) rfl rfl (hb hby at_145)
  have Z147 : n0 ≤ h147.size := Nat.le_trans Z145 (Nat.le_of_eq W147.size.symm)
  have K147 := K145.wr W147 (Or.inr sz_b101)
  have N147 := Fr.snoc X147 N145 g_b101
  have V147 : Arv Z h147 b101 k101 .int (46 : Int32) [(.int (0 : Int32)), (.int (45 : Int32)), (.int (46 : Int32)), (.int (48 : Int32)), (.int (57 : Int32)), (.int (58 : Int32)), (.int (65 : Int32)), (.int (90 : Int32)), (.int (95 : Int32)), (.int (97 : Int32)), (.int (122 : Int32)), (.int (127 : Int32)), (.int (128 : Int32)), (.int (183 : Int32)), (.int (192 : Int32)), (.int (214 : Int32)), (.int (216 : Int32)), (.int (246 : Int32)), (.int (248 : Int32)), (.int (767 : Int32)), (.int (768 : Int32)), (.int (879 : Int32)), (.int (880 : Int32)), (.int (0 : Int32)), (.int (0 : Int32)), (.int (0 : Int32)), (.int (0 : Int32)), (.int (0 : Int32)), (.int (0 : Int32)), (.int (0 : Int32)), (.int (0 : Int32)), (.int (0 : Int32)), (.int (0 : Int32)), (.int (0 : Int32)), (.int (0 : Int32)), (.int (0 : Int32)), (.int (0 : Int32)), (.int (0 : Int32)), (.int (0 : Int32)), (.int (0 : Int32)), (.int (0 : Int32)), (.int (0 : Int32)), (.int (0 : Int32)), (.int (0 : Int32)), (.int (0 : Int32)), (.int (0 : Int32))] (.int (0 : Int32)) := Arv.set Ar146 Aq146 As146 An146 Ah146 Ag146 rfl W147 22 rfl (Nat.le_of_ble_eq_true rfl)
  obtain ⟨cl148, Ar148, Aq148, As148, An148, Ah148, Ag148⟩ := id V147
  have hin148 : ¬ ((23 : Int32) < 0 ∨ cl148.slots.size ≤ ((23 : Int32)).toNatClampNeg) := inb_of As148 ⟨by decide, by decide⟩
  obtain ⟨T149, h149, X149, e149, W149, st149⟩ := stI X147 hx hZ e147 Ar148 (j := (23 : Int32)) hin148 (g := (mkF m 152 #[.val (.int p1), .val (.int p2), .val (.int p3), .val (.int p4), .unset, .unset, .unset, .unset] [(.int (893 : Int32)), (.int (23 : Int32)), (.ref b101), (.ref b101)])) rfl rfl (hb hby at_152)
  have Z149 : n0 ≤ h149.size := Nat.le_trans Z147 (Nat.le_of_eq W149.size.symm)
  have K149 := K147.wr W149 (Or.inr sz_b101)
  have N149 := Fr.snoc X149 N147 g_b101
  have V149 : Arv Z h149 b101 k101 .int (46 : Int32) [(.int (0 : Int32)), (.int (45 : Int32)), (.int (46 : Int32)), (.int (48 : Int32)), (.int (57 : Int32)), (.int (58 : Int32)), (.int (65 : Int32)), (.int (90 : Int32)), (.int (95 : Int32)), (.int (97 : Int32)), (.int (122 : Int32)), (.int (127 : Int32)), (.int (128 : Int32)), (.int (183 : Int32)), (.int (192 : Int32)), (.int (214 : Int32)), (.int (216 : Int32)), (.int (246 : Int32)), (.int (248 : Int32)), (.int (767 : Int32)), (.int (768 : Int32)), (.int (879 : Int32)), (.int (880 : Int32)), (.int (893 : Int32)), (.int (0 : Int32)), (.int (0 : Int32)), (.int (0 : Int32)), (.int (0 : Int32)), (.int (0 : Int32)), (.int (0 : Int32)), (.int (0 : Int32)), (.int (0 : Int32)), (.int (0 : Int32)), (.int (0 : Int32)), (.int (0 : Int32)), (.int (0 : Int32)), (.int (0 : Int32)), (.int (0 : Int32)), (.int (0 : Int32)), (.int (0 : Int32)), (.int (0 : Int32)), (.int (0 : Int32)), (.int (0 : Int32)), (.int (0 : Int32)), (.int (0 : Int32)), (.int (0 : Int32))] (.int (0 : Int32)) := Arv.set Ar148 Aq148 As148 An148 Ah148 Ag148 rfl W149 23 rfl (Nat.le_of_ble_eq_true rfl)
  obtain ⟨cl150, Ar150, Aq150, As150, An150, Ah150, Ag150⟩ := id V149
  have hin150 : ¬ ((24 : Int32) < 0 ∨ cl150.slots.size ≤ ((24 : Int32)).toNatClampNeg) := inb_of As150 ⟨by decide, by decide⟩
  obtain ⟨T151, h151, X151, e151, W151, st151⟩ := stI X149 hx hZ e149 Ar150 (j := (24 : Int32)) hin150 (g := (mkF m 159 #[.val (.int p1), .val (.int p2), .val (.int p3), .val (.int p4), .unset, .unset, .unset, .unset] [(.int (895 : Int32)), (.int (24 : Int32)), (.ref b101), (.ref b101)])) rfl rfl (hb hby at_159)
  have Z151 : n0 ≤ h151.size := Nat.le_trans Z149 (Nat.le_of_eq W151.size.symm)
  have K151 := K149.wr W151 (Or.inr sz_b101)
  have N151 := Fr.snoc X151 N149 g_b101
  have V151 : Arv Z h151 b101 k101 .int (46 : Int32) [(.int (0 : Int32)), (.int (45 : Int32)), (.int (46 : Int32)), (.int (48 : Int32)), (.int (57 : Int32)), (.int (58 : Int32)), (.int (65 : Int32)), (.int (90 : Int32)), (.int (95 : Int32)), (.int (97 : Int32)), (.int (122 : Int32)), (.int (127 : Int32)), (.int (128 : Int32)), (.int (183 : Int32)), (.int (192 : Int32)), (.int (214 : Int32)), (.int (216 : Int32)), (.int (246 : Int32)), (.int (248 : Int32)), (.int (767 : Int32)), (.int (768 : Int32)), (.int (879 : Int32)), (.int (880 : Int32)), (.int (893 : Int32)), (.int (895 : Int32)), (.int (0 : Int32)), (.int (0 : Int32)), (.int (0 : Int32)), (.int (0 : Int32)), (.int (0 : Int32)), (.int (0 : Int32)), (.int (0 : Int32)), (.int (0 : Int32)), (.int (0 : Int32)), (.int (0 : Int32)), (.int (0 : Int32)), (.int (0 : Int32)), (.int (0 : Int32)), (.int (0 : Int32)), (.int (0 : Int32)), (.int (0 : Int32)), (.int (0 : Int32)), (.int (0 : Int32)), (.int (0 : Int32)), (.int (0 : Int32)), (.int (0 : Int32))] (.int (0 : Int32)) := Arv.set Ar150 Aq150 As150 An150 Ah150 Ag150 rfl W151 24 rfl (Nat.le_of_ble_eq_true rfl)
  obtain ⟨cl152, Ar152, Aq152, As152, An152, Ah152, Ag152⟩ := id V151
  have hin152 : ¬ ((25 : Int32) < 0 ∨ cl152.slots.size ≤ ((25 : Int32)).toNatClampNeg) := inb_of As152 ⟨by decide, by decide⟩
  obtain ⟨T153, h153, X153, e153, W153, st153⟩ := stI X151 hx hZ e151 Ar152 (j := (25 : Int32)) hin152 (g := (mkF m 166 #[.val (.int p1), .val (.int p2), .val (.int p3), .val (.int p4), .unset, .unset, .unset, .unset] [(.int (8191 : Int32)), (.int (25 : Int32)), (.ref b101), (.ref b101)])) rfl rfl (hb hby at_166)
  have Z153 : n0 ≤ h153.size := Nat.le_trans Z151 (Nat.le_of_eq W153.size.symm)
  have K153 := K151.wr W153 (Or.inr sz_b101)
  have N153 := Fr.snoc X153 N151 g_b101
  have V153 : Arv Z h153 b101 k101 .int (46 : Int32) [(.int (0 : Int32)), (.int (45 : Int32)), (.int (46 : Int32)), (.int (48 : Int32)), (.int (57 : Int32)), (.int (58 : Int32)), (.int (65 : Int32)), (.int (90 : Int32)), (.int (95 : Int32)), (.int (97 : Int32)), (.int (122 : Int32)), (.int (127 : Int32)), (.int (128 : Int32)), (.int (183 : Int32)), (.int (192 : Int32)), (.int (214 : Int32)), (.int (216 : Int32)), (.int (246 : Int32)), (.int (248 : Int32)), (.int (767 : Int32)), (.int (768 : Int32)), (.int (879 : Int32)), (.int (880 : Int32)), (.int (893 : Int32)), (.int (895 : Int32)), (.int (8191 : Int32)), (.int (0 : Int32)), (.int (0 : Int32)), (.int (0 : Int32)), (.int (0 : Int32)), (.int (0 : Int32)), (.int (0 : Int32)), (.int (0 : Int32)), (.int (0 : Int32)), (.int (0 : Int32)), (.int (0 : Int32)), (.int (0 : Int32)), (.int (0 : Int32)), (.int (0 : Int32)), (.int (0 : Int32)), (.int (0 : Int32)), (.int (0 : Int32)), (.int (0 : Int32)), (.int (0 : Int32)), (.int (0 : Int32)), (.int (0 : Int32))] (.int (0 : Int32)) := Arv.set Ar152 Aq152 As152 An152 Ah152 Ag152 rfl W153 25 rfl (Nat.le_of_ble_eq_true rfl)
  obtain ⟨cl154, Ar154, Aq154, As154, An154, Ah154, Ag154⟩ := id V153
  have hin154 : ¬ ((26 : Int32) < 0 ∨ cl154.slots.size ≤ ((26 : Int32)).toNatClampNeg) := inb_of As154 ⟨by decide, by decide⟩
  obtain ⟨T155, h155, X155, e155, W155, st155⟩ := stI X153 hx hZ e153 Ar154 (j := (26 : Int32)) hin154 (g := (mkF m 173 #[.val (.int p1), .val (.int p2), .val (.int p3), .val (.int p4), .unset, .unset, .unset, .unset] [(.int (8204 : Int32)), (.int (26 : Int32)), (.ref b101), (.ref b101)])) rfl rfl (hb hby at_173)
  have Z155 : n0 ≤ h155.size := Nat.le_trans Z153 (Nat.le_of_eq W155.size.symm)
  have K155 := K153.wr W155 (Or.inr sz_b101)
  have N155 := Fr.snoc X155 N153 g_b101
  have V155 : Arv Z h155 b101 k101 .int (46 : Int32) [(.int (0 : Int32)), (.int (45 : Int32)), (.int (46 : Int32)), (.int (48 : Int32)), (.int (57 : Int32)), (.int (58 : Int32)), (.int (65 : Int32)), (.int (90 : Int32)), (.int (95 : Int32)), (.int (97 : Int32)), (.int (122 : Int32)), (.int (127 : Int32)), (.int (128 : Int32)), (.int (183 : Int32)), (.int (192 : Int32)), (.int (214 : Int32)), (.int (216 : Int32)), (.int (246 : Int32)), (.int (248 : Int32)), (.int (767 : Int32)), (.int (768 : Int32)), (.int (879 : Int32)), (.int (880 : Int32)), (.int (893 : Int32)), (.int (895 : Int32)), (.int (8191 : Int32)), (.int (8204 : Int32)), (.int (0 : Int32)), (.int (0 : Int32)), (.int (0 : Int32)), (.int (0 : Int32)), (.int (0 : Int32)), (.int (0 : Int32)), (.int (0 : Int32)), (.int (0 : Int32)), (.int (0 : Int32)), (.int (0 : Int32)), (.int (0 : Int32)), (.int (0 : Int32)), (.int (0 : Int32)), (.int (0 : Int32)), (.int (0 : Int32)), (.int (0 : Int32)), (.int (0 : Int32)), (.int (0 : Int32)), (.int (0 : Int32))] (.int (0 : Int32)) := Arv.set Ar154 Aq154 As154 An154 Ah154 Ag154 rfl W155 26 rfl (Nat.le_of_ble_eq_true rfl)
  obtain ⟨cl156, Ar156, Aq156, As156, An156, Ah156, Ag156⟩ := id V155
  have hin156 : ¬ ((27 : Int32) < 0 ∨ cl156.slots.size ≤ ((27 : Int32)).toNatClampNeg) := inb_of As156 ⟨by decide, by decide⟩
  obtain ⟨T157, h157, X157, e157, W157, st157⟩ := stI X155 hx hZ e155 Ar156 (j := (27 : Int32)) hin156 (g := (mkF m 180 #[.val (.int p1), .val (.int p2), .val (.int p3), .val (.int p4), .unset, .unset, .unset, .unset] [(.int (8205 : Int32)), (.int (27 : Int32)), (.ref b101), (.ref b101)])) rfl rfl (hb hby at_180)
  have Z157 : n0 ≤ h157.size := Nat.le_trans Z155 (Nat.le_of_eq W157.size.symm)
  have K157 := K155.wr W157 (Or.inr sz_b101)
  have N157 := Fr.snoc X157 N155 g_b101
  have V157 : Arv Z h157 b101 k101 .int (46 : Int32) [(.int (0 : Int32)), (.int (45 : Int32)), (.int (46 : Int32)), (.int (48 : Int32)), (.int (57 : Int32)), (.int (58 : Int32)), (.int (65 : Int32)), (.int (90 : Int32)), (.int (95 : Int32)), (.int (97 : Int32)), (.int (122 : Int32)), (.int (127 : Int32)), (.int (128 : Int32)), (.int (183 : Int32)), (.int (192 : Int32)), (.int (214 : Int32)), (.int (216 : Int32)), (.int (246 : Int32)), (.int (248 : Int32)), (.int (767 : Int32)), (.int (768 : Int32)), (.int (879 : Int32)), (.int (880 : Int32)), (.int (893 : Int32)), (.int (895 : Int32)), (.int (8191 : Int32)), (.int (8204 : Int32)), (.int (8205 : Int32)), (.int (0 : Int32)), (.int (0 : Int32)), (.int (0 : Int32)), (.int (0 : Int32)), (.int (0 : Int32)), (.int (0 : Int32)), (.int (0 : Int32)), (.int (0 : Int32)), (.int (0 : Int32)), (.int (0 : Int32)), (.int (0 : Int32)), (.int (0 : Int32)), (.int (0 : Int32)), (.int (0 : Int32)), (.int (0 : Int32)), (.int (0 : Int32)), (.int (0 : Int32)), (.int (0 : Int32))] (.int (0 : Int32)) := Arv.set Ar156 Aq156 As156 An156 Ah156 Ag156 rfl W157 27 rfl (Nat.le_of_ble_eq_true rfl)
  obtain ⟨cl158, Ar158, Aq158, As158, An158, Ah158, Ag158⟩ := id V157
  have hin158 : ¬ ((28 : Int32) < 0 ∨ cl158.slots.size ≤ ((28 : Int32)).toNatClampNeg) := inb_of As158 ⟨by decide, by decide⟩
  obtain ⟨T159, h159, X159, e159, W159, st159⟩ := stI X157 hx hZ e157 Ar158 (j := (28 : Int32)) hin158 (g := (mkF m 187 #[.val (.int p1), .val (.int p2), .val (.int p3), .val (.int p4), .unset, .unset, .unset, .unset] [(.int (8255 : Int32)), (.int (28 : Int32)), (.ref b101), (.ref b101)])) rfl rfl (hb hby at_187)
  have Z159 : n0 ≤ h159.size := Nat.le_trans Z157 (Nat.le_of_eq W159.size.symm)
  have K159 := K157.wr W159 (Or.inr sz_b101)
  have N159 := Fr.snoc X159 N157 g_b101
  have V159 : Arv Z h159 b101 k101 .int (46 : Int32) [(.int (0 : Int32)), (.int (45 : Int32)), (.int (46 : Int32)), (.int (48 : Int32)), (.int (57 : Int32)), (.int (58 : Int32)), (.int (65 : Int32)), (.int (90 : Int32)), (.int (95 : Int32)), (.int (97 : Int32)), (.int (122 : Int32)), (.int (127 : Int32)), (.int (128 : Int32)), (.int (183 : Int32)), (.int (192 : Int32)), (.int (214 : Int32)), (.int (216 : Int32)), (.int (246 : Int32)), (.int (248 : Int32)), (.int (767 : Int32)), (.int (768 : Int32)), (.int (879 : Int32)), (.int (880 : Int32)), (.int (893 : Int32)), (.int (895 : Int32)), (.int (8191 : Int32)), (.int (8204 : Int32)), (.int (8205 : Int32)), (.int (8255 : Int32)), (.int (0 : Int32)), (.int (0 : Int32)), (.int (0 : Int32)), (.int (0 : Int32)), (.int (0 : Int32)), (.int (0 : Int32)), (.int (0 : Int32)), (.int (0 : Int32)), (.int (0 : Int32)), (.int (0 : Int32)), (.int (0 : Int32)), (.int (0 : Int32)), (.int (0 : Int32)), (.int (0 : Int32)), (.int (0 : Int32)), (.int (0 : Int32)), (.int (0 : Int32))] (.int (0 : Int32)) := Arv.set Ar158 Aq158 As158 An158 Ah158 Ag158 rfl W159 28 rfl (Nat.le_of_ble_eq_true rfl)
  obtain ⟨cl160, Ar160, Aq160, As160, An160, Ah160, Ag160⟩ := id V159
  have hin160 : ¬ ((29 : Int32) < 0 ∨ cl160.slots.size ≤ ((29 : Int32)).toNatClampNeg) := inb_of As160 ⟨by decide, by decide⟩
  obtain ⟨T161, h161, X161, e161, W161, st161⟩ := stI X159 hx hZ e159 Ar160 (j := (29 : Int32)) hin160 (g := (mkF m 194 #[.val (.int p1), .val (.int p2), .val (.int p3), .val (.int p4), .unset, .unset, .unset, .unset] [(.int (8304 : Int32)), (.int (29 : Int32)), (.ref b101), (.ref b101)])) rfl rfl (hb hby at_194)
  have Z161 : n0 ≤ h161.size := Nat.le_trans Z159 (Nat.le_of_eq W161.size.symm)
  have K161 := K159.wr W161 (Or.inr sz_b101)
  have N161 := Fr.snoc X161 N159 g_b101
  have V161 : Arv Z h161 b101 k101 .int (46 : Int32) [(.int (0 : Int32)), (.int (45 : Int32)), (.int (46 : Int32)), (.int (48 : Int32)), (.int (57 : Int32)), (.int (58 : Int32)), (.int (65 : Int32)), (.int (90 : Int32)), (.int (95 : Int32)), (.int (97 : Int32)), (.int (122 : Int32)), (.int (127 : Int32)), (.int (128 : Int32)), (.int (183 : Int32)), (.int (192 : Int32)), (.int (214 : Int32)), (.int (216 : Int32)), (.int (246 : Int32)), (.int (248 : Int32)), (.int (767 : Int32)), (.int (768 : Int32)), (.int (879 : Int32)), (.int (880 : Int32)), (.int (893 : Int32)), (.int (895 : Int32)), (.int (8191 : Int32)), (.int (8204 : Int32)), (.int (8205 : Int32)), (.int (8255 : Int32)), (.int (8304 : Int32)), (.int (0 : Int32)), (.int (0 : Int32)), (.int (0 : Int32)), (.int (0 : Int32)), (.int (0 : Int32)), (.int (0 : Int32)), (.int (0 : Int32)), (.int (0 : Int32)), (.int (0 : Int32)), (.int (0 : Int32)), (.int (0 : Int32)), (.int (0 : Int32)), (.int (0 : Int32)), (.int (0 : Int32)), (.int (0 : Int32)), (.int (0 : Int32))] (.int (0 : Int32)) := Arv.set Ar160 Aq160 As160 An160 Ah160 Ag160 rfl W161 29 rfl (Nat.le_of_ble_eq_true rfl)
  obtain ⟨cl162, Ar162, Aq162, As162, An162, Ah162, Ag162⟩ := id V161
  have hin162 : ¬ ((30 : Int32) < 0 ∨ cl162.slots.size ≤ ((30 : Int32)).toNatClampNeg) := inb_of As162 ⟨by decide, by decide⟩
  obtain ⟨T163, h163, X163, e163, W163, st163⟩ := stI X161 hx hZ e161 Ar162 (j := (30 : Int32)) hin162 (g := (mkF m 201 #[.val (.int p1), .val (.int p2), .val (.int p3), .val (.int p4), .unset, .unset, .unset, .unset] [(.int (8591 : Int32)), (.int (30 : Int32)), (.ref b101), (.ref b101)])) rfl rfl (hb hby at_201)
  have Z163 : n0 ≤ h163.size := Nat.le_trans Z161 (Nat.le_of_eq W163.size.symm)
  have K163 := K161.wr W163 (Or.inr sz_b101)
  have N163 := Fr.snoc X163 N161 g_b101
  have V163 : Arv Z h163 b101 k101 .int (46 : Int32) [(.int (0 : Int32)), (.int (45 : Int32)), (.int (46 : Int32)), (.int (48 : Int32)), (.int (57 : Int32)), (.int (58 : Int32)), (.int (65 : Int32)), (.int (90 : Int32)), (.int (95 : Int32)), (.int (97 : Int32)), (.int (122 : Int32)), (.int (127 : Int32)), (.int (128 : Int32)), (.int (183 : Int32)), (.int (192 : Int32)), (.int (214 : Int32)), (.int (216 : Int32)), (.int (246 : Int32)), (.int (248 : Int32)), (.int (767 : Int32)), (.int (768 : Int32)), (.int (879 : Int32)), (.int (880 : Int32)), (.int (893 : Int32)), (.int (895 : Int32)), (.int (8191 : Int32)), (.int (8204 : Int32)), (.int (8205 : Int32)), (.int (8255 : Int32)), (.int (8304 : Int32)), (.int (8591 : Int32)), (.int (0 : Int32)), (.int (0 : Int32)), (.int (0 : Int32)), (.int (0 : Int32)), (.int (0 : Int32)), (.int (0 : Int32)), (.int (0 : Int32)), (.int (0 : Int32)), (.int (0 : Int32)), (.int (0 : Int32)), (.int (0 : Int32)), (.int (0 : Int32)), (.int (0 : Int32)), (.int (0 : Int32)), (.int (0 : Int32))] (.int (0 : Int32)) := Arv.set Ar162 Aq162 As162 An162 Ah162 Ag162 rfl W163 30 rfl (Nat.le_of_ble_eq_true rfl)
  obtain ⟨cl164, Ar164, Aq164, As164, An164, Ah164, Ag164⟩ := id V163
  have hin164 : ¬ ((31 : Int32) < 0 ∨ cl164.slots.size ≤ ((31 : Int32)).toNatClampNeg) := inb_of As164 ⟨by decide, by decide⟩
  obtain ⟨T165, h165, X165, e165, W165, st165⟩ := stI X163 hx hZ e163 Ar164 (j := (31 : Int32)) hin164 (g := (mkF m 208 #[.val (.int p1), .val (.int p2), .val (.int p3), .val (.int p4), .unset, .unset, .unset, .unset] [(.int (11264 : Int32)), (.int (31 : Int32)), (.ref b101), (.ref b101)])) rfl rfl (hb hby at_208)
  have Z165 : n0 ≤ h165.size := Nat.le_trans Z163 (Nat.le_of_eq W165.size.symm)
  have K165 := K163.wr W165 (Or.inr sz_b101)
  have N165 := Fr.snoc X165 N163 g_b101
  have V165 : Arv Z h165 b101 k101 .int (46 : Int32) [(.int (0 : Int32)), (.int (45 : Int32)), (.int (46 : Int32)), (.int (48 : Int32)), (.int (57 : Int32)), (.int (58 : Int32)), (.int (65 : Int32)), (.int (90 : Int32)), (.int (95 : Int32)), (.int (97 : Int32)), (.int (122 : Int32)), (.int (127 : Int32)), (.int (128 : Int32)), (.int (183 : Int32)), (.int (192 : Int32)), (.int (214 : Int32)), (.int (216 : Int32)), (.int (246 : Int32)), (.int (248 : Int32)), (.int (767 : Int32)), (.int (768 : Int32)), (.int (879 : Int32)), (.int (880 : Int32)), (.int (893 : Int32)), (.int (895 : Int32)), (.int (8191 : Int32)), (.int (8204 : Int32)), (.int (8205 : Int32)), (.int (8255 : Int32)), (.int (8304 : Int32)), (.int (8591 : Int32)), (.int (11264 : Int32)), (.int (0 : Int32)), (.int (0 : Int32)), (.int (0 : Int32)), (.int (0 : Int32)), (.int (0 : Int32)), (.int (0 : Int32)), (.int (0 : Int32)), (.int (0 : Int32)), (.int (0 : Int32)), (.int (0 : Int32)), (.int (0 : Int32)), (.int (0 : Int32)), (.int (0 : Int32)), (.int (0 : Int32))] (.int (0 : Int32)) := Arv.set Ar164 Aq164 As164 An164 Ah164 Ag164 rfl W165 31 rfl (Nat.le_of_ble_eq_true rfl)
  obtain ⟨cl166, Ar166, Aq166, As166, An166, Ah166, Ag166⟩ := id V165
  have hin166 : ¬ ((32 : Int32) < 0 ∨ cl166.slots.size ≤ ((32 : Int32)).toNatClampNeg) := inb_of As166 ⟨by decide, by decide⟩
  obtain ⟨T167, h167, X167, e167, W167, st167⟩ := stI X165 hx hZ e165 Ar166 (j := (32 : Int32)) hin166 (g := (mkF m 215 #[.val (.int p1), .val (.int p2), .val (.int p3), .val (.int p4), .unset, .unset, .unset, .unset] [(.int (12271 : Int32)), (.int (32 : Int32)), (.ref b101), (.ref b101)])) rfl rfl (hb hby at_215)
  have Z167 : n0 ≤ h167.size := Nat.le_trans Z165 (Nat.le_of_eq W167.size.symm)
  have K167 := K165.wr W167 (Or.inr sz_b101)
  have N167 := Fr.snoc X167 N165 g_b101
  have V167 : Arv Z h167 b101 k101 .int (46 : Int32) [(.int (0 : Int32)), (.int (45 : Int32)), (.int (46 : Int32)), (.int (48 : Int32)), (.int (57 : Int32)), (.int (58 : Int32)), (.int (65 : Int32)), (.int (90 : Int32)), (.int (95 : Int32)), (.int (97 : Int32)), (.int (122 : Int32)), (.int (127 : Int32)), (.int (128 : Int32)), (.int (183 : Int32)), (.int (192 : Int32)), (.int (214 : Int32)), (.int (216 : Int32)), (.int (246 : Int32)), (.int (248 : Int32)), (.int (767 : Int32)), (.int (768 : Int32)), (.int (879 : Int32)), (.int (880 : Int32)), (.int (893 : Int32)), (.int (895 : Int32)), (.int (8191 : Int32)), (.int (8204 : Int32)), (.int (8205 : Int32)), (.int (8255 : Int32)), (.int (8304 : Int32)), (.int (8591 : Int32)), (.int (11264 : Int32)), (.int (12271 : Int32)), (.int (0 : Int32)), (.int (0 : Int32)), (.int (0 : Int32)), (.int (0 : Int32)), (.int (0 : Int32)), (.int (0 : Int32)), (.int (0 : Int32)), (.int (0 : Int32)), (.int (0 : Int32)), (.int (0 : Int32)), (.int (0 : Int32)), (.int (0 : Int32)), (.int (0 : Int32))] (.int (0 : Int32)) := Arv.set Ar166 Aq166 As166 An166 Ah166 Ag166 rfl W167 32 rfl (Nat.le_of_ble_eq_true rfl)
  obtain ⟨cl168, Ar168, Aq168, As168, An168, Ah168, Ag168⟩ := id V167
  have hin168 : ¬ ((33 : Int32) < 0 ∨ cl168.slots.size ≤ ((33 : Int32)).toNatClampNeg) := inb_of As168 ⟨by decide, by decide⟩
  obtain ⟨T169, h169, X169, e169, W169, st169⟩ := stI X167 hx hZ e167 Ar168 (j := (33 : Int32)) hin168 (g := (mkF m 222 #[.val (.int p1), .val (.int p2), .val (.int p3), .val (.int p4), .unset, .unset, .unset, .unset] [(.int (12288 : Int32)), (.int (33 : Int32)), (.ref b101), (.ref b101)])) rfl rfl (hb hby at_222)
  have Z169 : n0 ≤ h169.size := Nat.le_trans Z167 (Nat.le_of_eq W169.size.symm)
  have K169 := K167.wr W169 (Or.inr sz_b101)
  have N169 := Fr.snoc X169 N167 g_b101
  have V169 : Arv Z h169 b101 k101 .int (46 : Int32) [(.int (0 : Int32)), (.int (45 : Int32)), (.int (46 : Int32)), (.int (48 : Int32)), (.int (57 : Int32)), (.int (58 : Int32)), (.int (65 : Int32)), (.int (90 : Int32)), (.int (95 : Int32)), (.int (97 : Int32)), (.int (122 : Int32)), (.int (127 : Int32)), (.int (128 : Int32)), (.int (183 : Int32)), (.int (192 : Int32)), (.int (214 : Int32)), (.int (216 : Int32)), (.int (246 : Int32)), (.int (248 : Int32)), (.int (767 : Int32)), (.int (768 : Int32)), (.int (879 : Int32)), (.int (880 : Int32)), (.int (893 : Int32)), (.int (895 : Int32)), (.int (8191 : Int32)), (.int (8204 : Int32)), (.int (8205 : Int32)), (.int (8255 : Int32)), (.int (8304 : Int32)), (.int (8591 : Int32)), (.int (11264 : Int32)), (.int (12271 : Int32)), (.int (12288 : Int32)), (.int (0 : Int32)), (.int (0 : Int32)), (.int (0 : Int32)), (.int (0 : Int32)), (.int (0 : Int32)), (.int (0 : Int32)), (.int (0 : Int32)), (.int (0 : Int32)), (.int (0 : Int32)), (.int (0 : Int32)), (.int (0 : Int32)), (.int (0 : Int32))] (.int (0 : Int32)) := Arv.set Ar168 Aq168 As168 An168 Ah168 Ag168 rfl W169 33 rfl (Nat.le_of_ble_eq_true rfl)
  obtain ⟨cl170, Ar170, Aq170, As170, An170, Ah170, Ag170⟩ := id V169
  have hin170 : ¬ ((34 : Int32) < 0 ∨ cl170.slots.size ≤ ((34 : Int32)).toNatClampNeg) := inb_of As170 ⟨by decide, by decide⟩
  obtain ⟨T171, h171, X171, e171, W171, st171⟩ := stI X169 hx hZ e169 Ar170 (j := (34 : Int32)) hin170 (g := (mkF m 229 #[.val (.int p1), .val (.int p2), .val (.int p3), .val (.int p4), .unset, .unset, .unset, .unset] [(.int (12289 : Int32)), (.int (34 : Int32)), (.ref b101), (.ref b101)])) rfl rfl (hb hby at_229)
  have Z171 : n0 ≤ h171.size := Nat.le_trans Z169 (Nat.le_of_eq W171.size.symm)
  have K171 := K169.wr W171 (Or.inr sz_b101)
  have N171 := Fr.snoc X171 N169 g_b101
  have V171 : Arv Z h171 b101 k101 .int (46 : Int32) [(.int (0 : Int32)), (.int (45 : Int32)), (.int (46 : Int32)), (.int (48 : Int32)), (.int (57 : Int32)), (.int (58 : Int32)), (.int (65 : Int32)), (.int (90 : Int32)), (.int (95 : Int32)), (.int (97 : Int32)), (.int (122 : Int32)), (.int (127 : Int32)), (.int (128 : Int32)), (.int (183 : Int32)), (.int (192 : Int32)), (.int (214 : Int32)), (.int (216 : Int32)), (.int (246 : Int32)), (.int (248 : Int32)), (.int (767 : Int32)), (.int (768 : Int32)), (.int (879 : Int32)), (.int (880 : Int32)), (.int (893 : Int32)), (.int (895 : Int32)), (.int (8191 : Int32)), (.int (8204 : Int32)), (.int (8205 : Int32)), (.int (8255 : Int32)), (.int (8304 : Int32)), (.int (8591 : Int32)), (.int (11264 : Int32)), (.int (12271 : Int32)), (.int (12288 : Int32)), (.int (12289 : Int32)), (.int (0 : Int32)), (.int (0 : Int32)), (.int (0 : Int32)), (.int (0 : Int32)), (.int (0 : Int32)), (.int (0 : Int32)), (.int (0 : Int32)), (.int (0 : Int32)), (.int (0 : Int32)), (.int (0 : Int32)), (.int (0 : Int32))] (.int (0 : Int32)) := Arv.set Ar170 Aq170 As170 An170 Ah170 Ag170 rfl W171 34 rfl (Nat.le_of_ble_eq_true rfl)
  obtain ⟨cl172, Ar172, Aq172, As172, An172, Ah172, Ag172⟩ := id V171
  have hin172 : ¬ ((35 : Int32) < 0 ∨ cl172.slots.size ≤ ((35 : Int32)).toNatClampNeg) := inb_of As172 ⟨by decide, by decide⟩
  obtain ⟨T173, h173, X173, e173, W173, st173⟩ := stI X171 hx hZ e171 Ar172 (j := (35 : Int32)) hin172 (g := (mkF m 235 #[.val (.int p1), .val (.int p2), .val (.int p3), .val (.int p4), .unset, .unset, .unset, .unset] [(.int (55295 : Int32)), (.int (35 : Int32)), (.ref b101), (.ref b101)])) rfl rfl (hb hby at_235)
  have Z173 : n0 ≤ h173.size := Nat.le_trans Z171 (Nat.le_of_eq W173.size.symm)
  have K173 := K171.wr W173 (Or.inr sz_b101)
  have N173 := Fr.snoc X173 N171 g_b101
  have V173 : Arv Z h173 b101 k101 .int (46 : Int32) [(.int (0 : Int32)), (.int (45 : Int32)), (.int (46 : Int32)), (.int (48 : Int32)), (.int (57 : Int32)), (.int (58 : Int32)), (.int (65 : Int32)), (.int (90 : Int32)), (.int (95 : Int32)), (.int (97 : Int32)), (.int (122 : Int32)), (.int (127 : Int32)), (.int (128 : Int32)), (.int (183 : Int32)), (.int (192 : Int32)), (.int (214 : Int32)), (.int (216 : Int32)), (.int (246 : Int32)), (.int (248 : Int32)), (.int (767 : Int32)), (.int (768 : Int32)), (.int (879 : Int32)), (.int (880 : Int32)), (.int (893 : Int32)), (.int (895 : Int32)), (.int (8191 : Int32)), (.int (8204 : Int32)), (.int (8205 : Int32)), (.int (8255 : Int32)), (.int (8304 : Int32)), (.int (8591 : Int32)), (.int (11264 : Int32)), (.int (12271 : Int32)), (.int (12288 : Int32)), (.int (12289 : Int32)), (.int (55295 : Int32)), (.int (0 : Int32)), (.int (0 : Int32)), (.int (0 : Int32)), (.int (0 : Int32)), (.int (0 : Int32)), (.int (0 : Int32)), (.int (0 : Int32)), (.int (0 : Int32)), (.int (0 : Int32)), (.int (0 : Int32))] (.int (0 : Int32)) := Arv.set Ar172 Aq172 As172 An172 Ah172 Ag172 rfl W173 35 rfl (Nat.le_of_ble_eq_true rfl)
  obtain ⟨cl174, Ar174, Aq174, As174, An174, Ah174, Ag174⟩ := id V173
  have hin174 : ¬ ((36 : Int32) < 0 ∨ cl174.slots.size ≤ ((36 : Int32)).toNatClampNeg) := inb_of As174 ⟨by decide, by decide⟩
  obtain ⟨T175, h175, X175, e175, W175, st175⟩ := stI X173 hx hZ e173 Ar174 (j := (36 : Int32)) hin174 (g := (mkF m 241 #[.val (.int p1), .val (.int p2), .val (.int p3), .val (.int p4), .unset, .unset, .unset, .unset] [(.int (57344 : Int32)), (.int (36 : Int32)), (.ref b101), (.ref b101)])) rfl rfl (hb hby at_241)
  have Z175 : n0 ≤ h175.size := Nat.le_trans Z173 (Nat.le_of_eq W175.size.symm)
  have K175 := K173.wr W175 (Or.inr sz_b101)
  have N175 := Fr.snoc X175 N173 g_b101
  have V175 : Arv Z h175 b101 k101 .int (46 : Int32) [(.int (0 : Int32)), (.int (45 : Int32)), (.int (46 : Int32)), (.int (48 : Int32)), (.int (57 : Int32)), (.int (58 : Int32)), (.int (65 : Int32)), (.int (90 : Int32)), (.int (95 : Int32)), (.int (97 : Int32)), (.int (122 : Int32)), (.int (127 : Int32)), (.int (128 : Int32)), (.int (183 : Int32)), (.int (192 : Int32)), (.int (214 : Int32)), (.int (216 : Int32)), (.int (246 : Int32)), (.int (248 : Int32)), (.int (767 : Int32)), (.int (768 : Int32)), (.int (879 : Int32)), (.int (880 : Int32)), (.int (893 : Int32)), (.int (895 : Int32)), (.int (8191 : Int32)), (.int (8204 : Int32)), (.int (8205 : Int32)), (.int (8255 : Int32)), (.int (8304 : Int32)), (.int (8591 : Int32)), (.int (11264 : Int32)), (.int (12271 : Int32)), (.int (12288 : Int32)), (.int (12289 : Int32)), (.int (55295 : Int32)), (.int (57344 : Int32)), (.int (0 : Int32)), (.int (0 : Int32)), (.int (0 : Int32)), (.int (0 : Int32)), (.int (0 : Int32)), (.int (0 : Int32)), (.int (0 : Int32)), (.int (0 : Int32)), (.int (0 : Int32))] (.int (0 : Int32)) := Arv.set Ar174 Aq174 As174 An174 Ah174 Ag174 rfl W175 36 rfl (Nat.le_of_ble_eq_true rfl)
  obtain ⟨cl176, Ar176, Aq176, As176, An176, Ah176, Ag176⟩ := id V175
  have hin176 : ¬ ((37 : Int32) < 0 ∨ cl176.slots.size ≤ ((37 : Int32)).toNatClampNeg) := inb_of As176 ⟨by decide, by decide⟩
  obtain ⟨T177, h177, X177, e177, W177, st177⟩ := stI X175 hx hZ e175 Ar176 (j := (37 : Int32)) hin176 (g := (mkF m 247 #[.val (.int p1), .val (.int p2), .val (.int p3), .val (.int p4), .unset, .unset, .unset, .unset] [(.int (63744 : Int32)), (.int (37 : Int32)), (.ref b101), (.ref b101)])) rfl rfl (hb hby at_247)
  have Z177 : n0 ≤ h177.size := Nat.le_trans Z175 (Nat.le_of_eq W177.size.symm)
  have K177 := K175.wr W177 (Or.inr sz_b101)
  have N177 := Fr.snoc X177 N175 g_b101
  have V177 : Arv Z h177 b101 k101 .int (46 : Int32) [(.int (0 : Int32)), (.int (45 : Int32)), (.int (46 : Int32)), (.int (48 : Int32)), (.int (57 : Int32)), (.int (58 : Int32)), (.int (65 : Int32)), (.int (90 : Int32)), (.int (95 : Int32)), (.int (97 : Int32)), (.int (122 : Int32)), (.int (127 : Int32)), (.int (128 : Int32)), (.int (183 : Int32)), (.int (192 : Int32)), (.int (214 : Int32)), (.int (216 : Int32)), (.int (246 : Int32)), (.int (248 : Int32)), (.int (767 : Int32)), (.int (768 : Int32)), (.int (879 : Int32)), (.int (880 : Int32)), (.int (893 : Int32)), (.int (895 : Int32)), (.int (8191 : Int32)), (.int (8204 : Int32)), (.int (8205 : Int32)), (.int (8255 : Int32)), (.int (8304 : Int32)), (.int (8591 : Int32)), (.int (11264 : Int32)), (.int (12271 : Int32)), (.int (12288 : Int32)), (.int (12289 : Int32)), (.int (55295 : Int32)), (.int (57344 : Int32)), (.int (63744 : Int32)), (.int (0 : Int32)), (.int (0 : Int32)), (.int (0 : Int32)), (.int (0 : Int32)), (.int (0 : Int32)), (.int (0 : Int32)), (.int (0 : Int32)), (.int (0 : Int32))] (.int (0 : Int32)) := Arv.set Ar176 Aq176 As176 An176 Ah176 Ag176 rfl W177 37 rfl (Nat.le_of_ble_eq_true rfl)
  obtain ⟨cl178, Ar178, Aq178, As178, An178, Ah178, Ag178⟩ := id V177
  have hin178 : ¬ ((38 : Int32) < 0 ∨ cl178.slots.size ≤ ((38 : Int32)).toNatClampNeg) := inb_of As178 ⟨by decide, by decide⟩
  obtain ⟨T179, h179, X179, e179, W179, st179⟩ := stI X177 hx hZ e177 Ar178 (j := (38 : Int32)) hin178 (g := (mkF m 253 #[.val (.int p1), .val (.int p2), .val (.int p3), .val (.int p4), .unset, .unset, .unset, .unset] [(.int (64975 : Int32)), (.int (38 : Int32)), (.ref b101), (.ref b101)])) rfl rfl (hb hby at_253)
  have Z179 : n0 ≤ h179.size := Nat.le_trans Z177 (Nat.le_of_eq W179.size.symm)
  have K179 := K177.wr W179 (Or.inr sz_b101)
  have N179 := Fr.snoc X179 N177 g_b101
  have V179 : Arv Z h179 b101 k101 .int (46 : Int32) [(.int (0 : Int32)), (.int (45 : Int32)), (.int (46 : Int32)), (.int (48 : Int32)), (.int (57 : Int32)), (.int (58 : Int32)), (.int (65 : Int32)), (.int (90 : Int32)), (.int (95 : Int32)), (.int (97 : Int32)), (.int (122 : Int32)), (.int (127 : Int32)), (.int (128 : Int32)), (.int (183 : Int32)), (.int (192 : Int32)), (.int (214 : Int32)), (.int (216 : Int32)), (.int (246 : Int32)), (.int (248 : Int32)), (.int (767 : Int32)), (.int (768 : Int32)), (.int (879 : Int32)), (.int (880 : Int32)), (.int (893 : Int32)), (.int (895 : Int32)), (.int (8191 : Int32)), (.int (8204 : Int32)), (.int (8205 : Int32)), (.int (8255 : Int32)), (.int (8304 : Int32)), (.int (8591 : Int32)), (.int (11264 : Int32)), (.int (12271 : Int32)), (.int (12288 : Int32)), (.int (12289 : Int32)), (.int (55295 : Int32)), (.int (57344 : Int32)), (.int (63744 : Int32)), (.int (64975 : Int32)), (.int (0 : Int32)), (.int (0 : Int32)), (.int (0 : Int32)), (.int (0 : Int32)), (.int (0 : Int32)), (.int (0 : Int32)), (.int (0 : Int32))] (.int (0 : Int32)) := Arv.set Ar178 Aq178 As178 An178 Ah178 Ag178 rfl W179 38 rfl (Nat.le_of_ble_eq_true rfl)
  obtain ⟨cl180, Ar180, Aq180, As180, An180, Ah180, Ag180⟩ := id V179
  have hin180 : ¬ ((39 : Int32) < 0 ∨ cl180.slots.size ≤ ((39 : Int32)).toNatClampNeg) := inb_of As180 ⟨by decide, by decide⟩
  obtain ⟨T181, h181, X181, e181, W181, st181⟩ := stI X179 hx hZ e179 Ar180 (j := (39 : Int32)) hin180 (g := (mkF m 259 #[.val (.int p1), .val (.int p2), .val (.int p3), .val (.int p4), .unset, .unset, .unset, .unset] [(.int (65008 : Int32)), (.int (39 : Int32)), (.ref b101), (.ref b101)])) rfl rfl (hb hby at_259)
  have Z181 : n0 ≤ h181.size := Nat.le_trans Z179 (Nat.le_of_eq W181.size.symm)
  have K181 := K179.wr W181 (Or.inr sz_b101)
  have N181 := Fr.snoc X181 N179 g_b101
  have V181 : Arv Z h181 b101 k101 .int (46 : Int32) [(.int (0 : Int32)), (.int (45 : Int32)), (.int (46 : Int32)), (.int (48 : Int32)), (.int (57 : Int32)), (.int (58 : Int32)), (.int (65 : Int32)), (.int (90 : Int32)), (.int (95 : Int32)), (.int (97 : Int32)), (.int (122 : Int32)), (.int (127 : Int32)), (.int (128 : Int32)), (.int (183 : Int32)), (.int (192 : Int32)), (.int (214 : Int32)), (.int (216 : Int32)), (.int (246 : Int32)), (.int (248 : Int32)), (.int (767 : Int32)), (.int (768 : Int32)), (.int (879 : Int32)), (.int (880 : Int32)), (.int (893 : Int32)), (.int (895 : Int32)), (.int (8191 : Int32)), (.int (8204 : Int32)), (.int (8205 : Int32)), (.int (8255 : Int32)), (.int (8304 : Int32)), (.int (8591 : Int32)), (.int (11264 : Int32)), (.int (12271 : Int32)), (.int (12288 : Int32)), (.int (12289 : Int32)), (.int (55295 : Int32)), (.int (57344 : Int32)), (.int (63744 : Int32)), (.int (64975 : Int32)), (.int (65008 : Int32)), (.int (0 : Int32)), (.int (0 : Int32)), (.int (0 : Int32)), (.int (0 : Int32)), (.int (0 : Int32)), (.int (0 : Int32))] (.int (0 : Int32)) := Arv.set Ar180 Aq180 As180 An180 Ah180 Ag180 rfl W181 39 rfl (Nat.le_of_ble_eq_true rfl)
  obtain ⟨cl182, Ar182, Aq182, As182, An182, Ah182, Ag182⟩ := id V181
  have hin182 : ¬ ((40 : Int32) < 0 ∨ cl182.slots.size ≤ ((40 : Int32)).toNatClampNeg) := inb_of As182 ⟨by decide, by decide⟩
  obtain ⟨T183, h183, X183, e183, W183, st183⟩ := stI X181 hx hZ e181 Ar182 (j := (40 : Int32)) hin182 (g := (mkF m 265 #[.val (.int p1), .val (.int p2), .val (.int p3), .val (.int p4), .unset, .unset, .unset, .unset] [(.int (65533 : Int32)), (.int (40 : Int32)), (.ref b101), (.ref b101)])) rfl rfl (hb hby at_265)
  have Z183 : n0 ≤ h183.size := Nat.le_trans Z181 (Nat.le_of_eq W183.size.symm)
  have K183 := K181.wr W183 (Or.inr sz_b101)
  have N183 := Fr.snoc X183 N181 g_b101
  have V183 : Arv Z h183 b101 k101 .int (46 : Int32) [(.int (0 : Int32)), (.int (45 : Int32)), (.int (46 : Int32)), (.int (48 : Int32)), (.int (57 : Int32)), (.int (58 : Int32)), (.int (65 : Int32)), (.int (90 : Int32)), (.int (95 : Int32)), (.int (97 : Int32)), (.int (122 : Int32)), (.int (127 : Int32)), (.int (128 : Int32)), (.int (183 : Int32)), (.int (192 : Int32)), (.int (214 : Int32)), (.int (216 : Int32)), (.int (246 : Int32)), (.int (248 : Int32)), (.int (767 : Int32)), (.int (768 : Int32)), (.int (879 : Int32)), (.int (880 : Int32)), (.int (893 : Int32)), (.int (895 : Int32)), (.int (8191 : Int32)), (.int (8204 : Int32)), (.int (8205 : Int32)), (.int (8255 : Int32)), (.int (8304 : Int32)), (.int (8591 : Int32)), (.int (11264 : Int32)), (.int (12271 : Int32)), (.int (12288 : Int32)), (.int (12289 : Int32)), (.int (55295 : Int32)), (.int (57344 : Int32)), (.int (63744 : Int32)), (.int (64975 : Int32)), (.int (65008 : Int32)), (.int (65533 : Int32)), (.int (0 : Int32)), (.int (0 : Int32)), (.int (0 : Int32)), (.int (0 : Int32)), (.int (0 : Int32))] (.int (0 : Int32)) := Arv.set Ar182 Aq182 As182 An182 Ah182 Ag182 rfl W183 40 rfl (Nat.le_of_ble_eq_true rfl)
  obtain ⟨cl184, Ar184, Aq184, As184, An184, Ah184, Ag184⟩ := id V183
  have hin184 : ¬ ((41 : Int32) < 0 ∨ cl184.slots.size ≤ ((41 : Int32)).toNatClampNeg) := inb_of As184 ⟨by decide, by decide⟩
  obtain ⟨T185, h185, X185, e185, W185, st185⟩ := stI X183 hx hZ e183 Ar184 (j := (41 : Int32)) hin184 (g := (mkF m 271 #[.val (.int p1), .val (.int p2), .val (.int p3), .val (.int p4), .unset, .unset, .unset, .unset] [(.int (65536 : Int32)), (.int (41 : Int32)), (.ref b101), (.ref b101)])) rfl rfl (hb hby at_271)
  have Z185 : n0 ≤ h185.size := Nat.le_trans Z183 (Nat.le_of_eq W185.size.symm)
  have K185 := K183.wr W185 (Or.inr sz_b101)
  have N185 := Fr.snoc X185 N183 g_b101
  have V185 : Arv Z h185 b101 k101 .int (46 : Int32) [(.int (0 : Int32)), (.int (45 : Int32)), (.int (46 : Int32)), (.int (48 : Int32)), (.int (57 : Int32)), (.int (58 : Int32)), (.int (65 : Int32)), (.int (90 : Int32)), (.int (95 : Int32)), (.int (97 : Int32)), (.int (122 : Int32)), (.int (127 : Int32)), (.int (128 : Int32)), (.int (183 : Int32)), (.int (192 : Int32)), (.int (214 : Int32)), (.int (216 : Int32)), (.int (246 : Int32)), (.int (248 : Int32)), (.int (767 : Int32)), (.int (768 : Int32)), (.int (879 : Int32)), (.int (880 : Int32)), (.int (893 : Int32)), (.int (895 : Int32)), (.int (8191 : Int32)), (.int (8204 : Int32)), (.int (8205 : Int32)), (.int (8255 : Int32)), (.int (8304 : Int32)), (.int (8591 : Int32)), (.int (11264 : Int32)), (.int (12271 : Int32)), (.int (12288 : Int32)), (.int (12289 : Int32)), (.int (55295 : Int32)), (.int (57344 : Int32)), (.int (63744 : Int32)), (.int (64975 : Int32)), (.int (65008 : Int32)), (.int (65533 : Int32)), (.int (65536 : Int32)), (.int (0 : Int32)), (.int (0 : Int32)), (.int (0 : Int32)), (.int (0 : Int32))] (.int (0 : Int32)) := Arv.set Ar184 Aq184 As184 An184 Ah184 Ag184 rfl W185 41 rfl (Nat.le_of_ble_eq_true rfl)
  obtain ⟨cl186, Ar186, Aq186, As186, An186, Ah186, Ag186⟩ := id V185
  have hin186 : ¬ ((42 : Int32) < 0 ∨ cl186.slots.size ≤ ((42 : Int32)).toNatClampNeg) := inb_of As186 ⟨by decide, by decide⟩
  obtain ⟨T187, h187, X187, e187, W187, st187⟩ := stI X185 hx hZ e185 Ar186 (j := (42 : Int32)) hin186 (g := (mkF m 277 #[.val (.int p1), .val (.int p2), .val (.int p3), .val (.int p4), .unset, .unset, .unset, .unset] [(.int (983039 : Int32)), (.int (42 : Int32)), (.ref b101), (.ref b101)])) rfl rfl (hb hby at_277)
  have Z187 : n0 ≤ h187.size := Nat.le_trans Z185 (Nat.le_of_eq W187.size.symm)
  have K187 := K185.wr W187 (Or.inr sz_b101)
  have N187 := Fr.snoc X187 N185 g_b101
  have V187 : Arv Z h187 b101 k101 .int (46 : Int32) [(.int (0 : Int32)), (.int (45 : Int32)), (.int (46 : Int32)), (.int (48 : Int32)), (.int (57 : Int32)), (.int (58 : Int32)), (.int (65 : Int32)), (.int (90 : Int32)), (.int (95 : Int32)), (.int (97 : Int32)), (.int (122 : Int32)), (.int (127 : Int32)), (.int (128 : Int32)), (.int (183 : Int32)), (.int (192 : Int32)), (.int (214 : Int32)), (.int (216 : Int32)), (.int (246 : Int32)), (.int (248 : Int32)), (.int (767 : Int32)), (.int (768 : Int32)), (.int (879 : Int32)), (.int (880 : Int32)), (.int (893 : Int32)), (.int (895 : Int32)), (.int (8191 : Int32)), (.int (8204 : Int32)), (.int (8205 : Int32)), (.int (8255 : Int32)), (.int (8304 : Int32)), (.int (8591 : Int32)), (.int (11264 : Int32)), (.int (12271 : Int32)), (.int (12288 : Int32)), (.int (12289 : Int32)), (.int (55295 : Int32)), (.int (57344 : Int32)), (.int (63744 : Int32)), (.int (64975 : Int32)), (.int (65008 : Int32)), (.int (65533 : Int32)), (.int (65536 : Int32)), (.int (983039 : Int32)), (.int (0 : Int32)), (.int (0 : Int32)), (.int (0 : Int32))] (.int (0 : Int32)) := Arv.set Ar186 Aq186 As186 An186 Ah186 Ag186 rfl W187 42 rfl (Nat.le_of_ble_eq_true rfl)
  obtain ⟨cl188, Ar188, Aq188, As188, An188, Ah188, Ag188⟩ := id V187
  have hin188 : ¬ ((43 : Int32) < 0 ∨ cl188.slots.size ≤ ((43 : Int32)).toNatClampNeg) := inb_of As188 ⟨by decide, by decide⟩
  obtain ⟨T189, h189, X189, e189, W189, st189⟩ := stI X187 hx hZ e187 Ar188 (j := (43 : Int32)) hin188 (g := (mkF m 283 #[.val (.int p1), .val (.int p2), .val (.int p3), .val (.int p4), .unset, .unset, .unset, .unset] [(.int (1114111 : Int32)), (.int (43 : Int32)), (.ref b101), (.ref b101)])) rfl rfl (hb hby at_283)
  have Z189 : n0 ≤ h189.size := Nat.le_trans Z187 (Nat.le_of_eq W189.size.symm)
  have K189 := K187.wr W189 (Or.inr sz_b101)
  have N189 := Fr.snoc X189 N187 g_b101
  have V189 : Arv Z h189 b101 k101 .int (46 : Int32) [(.int (0 : Int32)), (.int (45 : Int32)), (.int (46 : Int32)), (.int (48 : Int32)), (.int (57 : Int32)), (.int (58 : Int32)), (.int (65 : Int32)), (.int (90 : Int32)), (.int (95 : Int32)), (.int (97 : Int32)), (.int (122 : Int32)), (.int (127 : Int32)), (.int (128 : Int32)), (.int (183 : Int32)), (.int (192 : Int32)), (.int (214 : Int32)), (.int (216 : Int32)), (.int (246 : Int32)), (.int (248 : Int32)), (.int (767 : Int32)), (.int (768 : Int32)), (.int (879 : Int32)), (.int (880 : Int32)), (.int (893 : Int32)), (.int (895 : Int32)), (.int (8191 : Int32)), (.int (8204 : Int32)), (.int (8205 : Int32)), (.int (8255 : Int32)), (.int (8304 : Int32)), (.int (8591 : Int32)), (.int (11264 : Int32)), (.int (12271 : Int32)), (.int (12288 : Int32)), (.int (12289 : Int32)), (.int (55295 : Int32)), (.int (57344 : Int32)), (.int (63744 : Int32)), (.int (64975 : Int32)), (.int (65008 : Int32)), (.int (65533 : Int32)), (.int (65536 : Int32)), (.int (983039 : Int32)), (.int (1114111 : Int32)), (.int (0 : Int32)), (.int (0 : Int32))] (.int (0 : Int32)) := Arv.set Ar188 Aq188 As188 An188 Ah188 Ag188 rfl W189 43 rfl (Nat.le_of_ble_eq_true rfl)
  obtain ⟨cl190, Ar190, Aq190, As190, An190, Ah190, Ag190⟩ := id V189
  have hin190 : ¬ ((44 : Int32) < 0 ∨ cl190.slots.size ≤ ((44 : Int32)).toNatClampNeg) := inb_of As190 ⟨by decide, by decide⟩
  obtain ⟨T191, h191, X191, e191, W191, st191⟩ := stI X189 hx hZ e189 Ar190 (j := (44 : Int32)) hin190 (g := (mkF m 289 #[.val (.int p1), .val (.int p2), .val (.int p3), .val (.int p4), .unset, .unset, .unset, .unset] [(.int (-2147483648 : Int32)), (.int (44 : Int32)), (.ref b101), (.ref b101)])) rfl rfl (hb hby at_289)
  have Z191 : n0 ≤ h191.size := Nat.le_trans Z189 (Nat.le_of_eq W191.size.symm)
  have K191 := K189.wr W191 (Or.inr sz_b101)
  have N191 := Fr.snoc X191 N189 g_b101
  have V191 : Arv Z h191 b101 k101 .int (46 : Int32) [(.int (0 : Int32)), (.int (45 : Int32)), (.int (46 : Int32)), (.int (48 : Int32)), (.int (57 : Int32)), (.int (58 : Int32)), (.int (65 : Int32)), (.int (90 : Int32)), (.int (95 : Int32)), (.int (97 : Int32)), (.int (122 : Int32)), (.int (127 : Int32)), (.int (128 : Int32)), (.int (183 : Int32)), (.int (192 : Int32)), (.int (214 : Int32)), (.int (216 : Int32)), (.int (246 : Int32)), (.int (248 : Int32)), (.int (767 : Int32)), (.int (768 : Int32)), (.int (879 : Int32)), (.int (880 : Int32)), (.int (893 : Int32)), (.int (895 : Int32)), (.int (8191 : Int32)), (.int (8204 : Int32)), (.int (8205 : Int32)), (.int (8255 : Int32)), (.int (8304 : Int32)), (.int (8591 : Int32)), (.int (11264 : Int32)), (.int (12271 : Int32)), (.int (12288 : Int32)), (.int (12289 : Int32)), (.int (55295 : Int32)), (.int (57344 : Int32)), (.int (63744 : Int32)), (.int (64975 : Int32)), (.int (65008 : Int32)), (.int (65533 : Int32)), (.int (65536 : Int32)), (.int (983039 : Int32)), (.int (1114111 : Int32)), (.int (-2147483648 : Int32)), (.int (0 : Int32))] (.int (0 : Int32)) := Arv.set Ar190 Aq190 As190 An190 Ah190 Ag190 rfl W191 44 rfl (Nat.le_of_ble_eq_true rfl)
  obtain ⟨cl192, Ar192, Aq192, As192, An192, Ah192, Ag192⟩ := id V191
  have hin192 : ¬ ((45 : Int32) < 0 ∨ cl192.slots.size ≤ ((45 : Int32)).toNatClampNeg) := inb_of As192 ⟨by decide, by decide⟩
  obtain ⟨T193, h193, X193, e193, W193, st193⟩ := stI X191 hx hZ e191 Ar192 (j := (45 : Int32)) hin192 (g := (mkF m 295 #[.val (.int p1), .val (.int p2), .val (.int p3), .val (.int p4), .unset, .unset, .unset, .unset] [(.int (2147483647 : Int32)), (.int (45 : Int32)), (.ref b101), (.ref b101)])) rfl rfl (hb hby at_295)
  have Z193 : n0 ≤ h193.size := Nat.le_trans Z191 (Nat.le_of_eq W193.size.symm)
  have K193 := K191.wr W193 (Or.inr sz_b101)
  have N193 := Fr.snoc X193 N191 g_b101
  have V193 : Arv Z h193 b101 k101 .int (46 : Int32) [(.int (0 : Int32)), (.int (45 : Int32)), (.int (46 : Int32)), (.int (48 : Int32)), (.int (57 : Int32)), (.int (58 : Int32)), (.int (65 : Int32)), (.int (90 : Int32)), (.int (95 : Int32)), (.int (97 : Int32)), (.int (122 : Int32)), (.int (127 : Int32)), (.int (128 : Int32)), (.int (183 : Int32)), (.int (192 : Int32)), (.int (214 : Int32)), (.int (216 : Int32)), (.int (246 : Int32)), (.int (248 : Int32)), (.int (767 : Int32)), (.int (768 : Int32)), (.int (879 : Int32)), (.int (880 : Int32)), (.int (893 : Int32)), (.int (895 : Int32)), (.int (8191 : Int32)), (.int (8204 : Int32)), (.int (8205 : Int32)), (.int (8255 : Int32)), (.int (8304 : Int32)), (.int (8591 : Int32)), (.int (11264 : Int32)), (.int (12271 : Int32)), (.int (12288 : Int32)), (.int (12289 : Int32)), (.int (55295 : Int32)), (.int (57344 : Int32)), (.int (63744 : Int32)), (.int (64975 : Int32)), (.int (65008 : Int32)), (.int (65533 : Int32)), (.int (65536 : Int32)), (.int (983039 : Int32)), (.int (1114111 : Int32)), (.int (-2147483648 : Int32)), (.int (2147483647 : Int32))] (.int (0 : Int32)) := Arv.set Ar192 Aq192 As192 An192 Ah192 Ag192 rfl W193 45 rfl (Nat.le_of_ble_eq_true rfl)
  have pre194 : ∀ t, Steps p.tables e below (T193.setTop (mkF m 305 #[.val (.int p1), .val (.int p2), .val (.int p3), .val (.int p4), .val (.ref b101), .val (.int (p4 &&& (3 : Int32))), .unset, .unset] [(.int (p4 &&& (3 : Int32)))])) t → Steps p.tables e below (s₁.setTop (entryFrame m #[(.int p1), (.int p2), (.int p3), (.int p4)] maxLocals)) t := fun t kt => pre0 t (by
    show Steps _ _ _ (s₁.setTop (mkF m 0 #[.val (.int p1), .val (.int p2), .val (.int p3), .val (.int p4), .unset, .unset, .unset, .unset] [])) _
    refine XS.bipush X0.here hx rfl (hb hby at_0) ?_
    refine st101 _ ?_
    refine XS.dup X101.here hx rfl (hb hby at_4) rfl rfl ?_
    refine XS.iconst X101.here hx rfl (hb hby at_5) ?_
    show Steps _ _ _ (T101.setTop (mkF m 6 #[.val (.int p1), .val (.int p2), .val (.int p3), .val (.int p4), .unset, .unset, .unset, .unset] [(.int (0 : Int32)), (.ref b101), (.ref b101)])) _
    refine XS.iconst X101.here hx rfl (hb hby at_6) ?_
    refine st103 _ ?_
    refine XS.dup X103.here hx rfl (hb hby at_8) rfl rfl ?_
    refine XS.iconst X103.here hx rfl (hb hby at_9) ?_
    show Steps _ _ _ (T103.setTop (mkF m 10 #[.val (.int p1), .val (.int p2), .val (.int p3), .val (.int p4), .unset, .unset, .unset, .unset] [(.int (1 : Int32)), (.ref b101), (.ref b101)])) _
    refine XS.bipush X103.here hx rfl (hb hby at_10) ?_
    refine st105 _ ?_
    refine XS.dup X105.here hx rfl (hb hby at_13) rfl rfl ?_
    refine XS.iconst X105.here hx rfl (hb hby at_14) ?_
    show Steps _ _ _ (T105.setTop (mkF m 15 #[.val (.int p1), .val (.int p2), .val (.int p3), .val (.int p4), .unset, .unset, .unset, .unset] [(.int (2 : Int32)), (.ref b101), (.ref b101)])) _
    refine XS.bipush X105.here hx rfl (hb hby at_15) ?_
    refine st107 _ ?_
    refine XS.dup X107.here hx rfl (hb hby at_18) rfl rfl ?_
    refine XS.iconst X107.here hx rfl (hb hby at_19) ?_
    show Steps _ _ _ (T107.setTop (mkF m 20 #[.val (.int p1), .val (.int p2), .val (.int p3), .val (.int p4), .unset, .unset, .unset, .unset] [(.int (3 : Int32)), (.ref b101), (.ref b101)])) _
    refine XS.bipush X107.here hx rfl (hb hby at_20) ?_
    refine st109 _ ?_
    refine XS.dup X109.here hx rfl (hb hby at_23) rfl rfl ?_
    refine XS.iconst X109.here hx rfl (hb hby at_24) ?_
    show Steps _ _ _ (T109.setTop (mkF m 25 #[.val (.int p1), .val (.int p2), .val (.int p3), .val (.int p4), .unset, .unset, .unset, .unset] [(.int (4 : Int32)), (.ref b101), (.ref b101)])) _
    refine XS.bipush X109.here hx rfl (hb hby at_25) ?_
    refine st111 _ ?_
    refine XS.dup X111.here hx rfl (hb hby at_28) rfl rfl ?_
    refine XS.iconst X111.here hx rfl (hb hby at_29) ?_
    show Steps _ _ _ (T111.setTop (mkF m 30 #[.val (.int p1), .val (.int p2), .val (.int p3), .val (.int p4), .unset, .unset, .unset, .unset] [(.int (5 : Int32)), (.ref b101), (.ref b101)])) _
    refine XS.bipush X111.here hx rfl (hb hby at_30) ?_
    refine st113 _ ?_
    refine XS.dup X113.here hx rfl (hb hby at_33) rfl rfl ?_
    refine XS.bipush X113.here hx rfl (hb hby at_34) ?_
    show Steps _ _ _ (T113.setTop (mkF m 36 #[.val (.int p1), .val (.int p2), .val (.int p3), .val (.int p4), .unset, .unset, .unset, .unset] [(.int (6 : Int32)), (.ref b101), (.ref b101)])) _
    refine XS.bipush X113.here hx rfl (hb hby at_36) ?_
    refine st115 _ ?_
    refine XS.dup X115.here hx rfl (hb hby at_39) rfl rfl ?_
    refine XS.bipush X115.here hx rfl (hb hby at_40) ?_
    show Steps _ _ _ (T115.setTop (mkF m 42 #[.val (.int p1), .val (.int p2), .val (.int p3), .val (.int p4), .unset, .unset, .unset, .unset] [(.int (7 : Int32)), (.ref b101), (.ref b101)])) _
    refine XS.bipush X115.here hx rfl (hb hby at_42) ?_
    refine st117 _ ?_
    refine XS.dup X117.here hx rfl (hb hby at_45) rfl rfl ?_
    refine XS.bipush X117.here hx rfl (hb hby at_46) ?_
    show Steps _ _ _ (T117.setTop (mkF m 48 #[.val (.int p1), .val (.int p2), .val (.int p3), .val (.int p4), .unset, .unset, .unset, .unset] [(.int (8 : Int32)), (.ref b101), (.ref b101)])) _
    refine XS.bipush X117.here hx rfl (hb hby at_48) ?_
    refine st119 _ ?_
    refine XS.dup X119.here hx rfl (hb hby at_51) rfl rfl ?_
    refine XS.bipush X119.here hx rfl (hb hby at_52) ?_
    show Steps _ _ _ (T119.setTop (mkF m 54 #[.val (.int p1), .val (.int p2), .val (.int p3), .val (.int p4), .unset, .unset, .unset, .unset] [(.int (9 : Int32)), (.ref b101), (.ref b101)])) _
    refine XS.bipush X119.here hx rfl (hb hby at_54) ?_
    refine st121 _ ?_
    refine XS.dup X121.here hx rfl (hb hby at_57) rfl rfl ?_
    refine XS.bipush X121.here hx rfl (hb hby at_58) ?_
    show Steps _ _ _ (T121.setTop (mkF m 60 #[.val (.int p1), .val (.int p2), .val (.int p3), .val (.int p4), .unset, .unset, .unset, .unset] [(.int (10 : Int32)), (.ref b101), (.ref b101)])) _
    refine XS.bipush X121.here hx rfl (hb hby at_60) ?_
    refine st123 _ ?_
    refine XS.dup X123.here hx rfl (hb hby at_63) rfl rfl ?_
    refine XS.bipush X123.here hx rfl (hb hby at_64) ?_
    show Steps _ _ _ (T123.setTop (mkF m 66 #[.val (.int p1), .val (.int p2), .val (.int p3), .val (.int p4), .unset, .unset, .unset, .unset] [(.int (11 : Int32)), (.ref b101), (.ref b101)])) _
    refine XS.bipush X123.here hx rfl (hb hby at_66) ?_
    refine st125 _ ?_
    refine XS.dup X125.here hx rfl (hb hby at_69) rfl rfl ?_
    refine XS.bipush X125.here hx rfl (hb hby at_70) ?_
    show Steps _ _ _ (T125.setTop (mkF m 72 #[.val (.int p1), .val (.int p2), .val (.int p3), .val (.int p4), .unset, .unset, .unset, .unset] [(.int (12 : Int32)), (.ref b101), (.ref b101)])) _
    refine XS.sipush X125.here hx rfl (hb hby at_72) ?_
    refine st127 _ ?_
    refine XS.dup X127.here hx rfl (hb hby at_76) rfl rfl ?_
    refine XS.bipush X127.here hx rfl (hb hby at_77) ?_
    show Steps _ _ _ (T127.setTop (mkF m 79 #[.val (.int p1), .val (.int p2), .val (.int p3), .val (.int p4), .unset, .unset, .unset, .unset] [(.int (13 : Int32)), (.ref b101), (.ref b101)])) _
    refine XS.sipush X127.here hx rfl (hb hby at_79) ?_
    refine st129 _ ?_
    refine XS.dup X129.here hx rfl (hb hby at_83) rfl rfl ?_
    refine XS.bipush X129.here hx rfl (hb hby at_84) ?_
    show Steps _ _ _ (T129.setTop (mkF m 86 #[.val (.int p1), .val (.int p2), .val (.int p3), .val (.int p4), .unset, .unset, .unset, .unset] [(.int (14 : Int32)), (.ref b101), (.ref b101)])) _
    refine XS.sipush X129.here hx rfl (hb hby at_86) ?_
    refine st131 _ ?_
    refine XS.dup X131.here hx rfl (hb hby at_90) rfl rfl ?_
    refine XS.bipush X131.here hx rfl (hb hby at_91) ?_
    show Steps _ _ _ (T131.setTop (mkF m 93 #[.val (.int p1), .val (.int p2), .val (.int p3), .val (.int p4), .unset, .unset, .unset, .unset] [(.int (15 : Int32)), (.ref b101), (.ref b101)])) _
    refine XS.sipush X131.here hx rfl (hb hby at_93) ?_
    refine st133 _ ?_
    refine XS.dup X133.here hx rfl (hb hby at_97) rfl rfl ?_
    refine XS.bipush X133.here hx rfl (hb hby at_98) ?_
    show Steps _ _ _ (T133.setTop (mkF m 100 #[.val (.int p1), .val (.int p2), .val (.int p3), .val (.int p4), .unset, .unset, .unset, .unset] [(.int (16 : Int32)), (.ref b101), (.ref b101)])) _
    refine XS.sipush X133.here hx rfl (hb hby at_100) ?_
    refine st135 _ ?_
    refine XS.dup X135.here hx rfl (hb hby at_104) rfl rfl ?_
    refine XS.bipush X135.here hx rfl (hb hby at_105) ?_
    show Steps _ _ _ (T135.setTop (mkF m 107 #[.val (.int p1), .val (.int p2), .val (.int p3), .val (.int p4), .unset, .unset, .unset, .unset] [(.int (17 : Int32)), (.ref b101), (.ref b101)])) _
    refine XS.sipush X135.here hx rfl (hb hby at_107) ?_
    refine st137 _ ?_
    refine XS.dup X137.here hx rfl (hb hby at_111) rfl rfl ?_
    refine XS.bipush X137.here hx rfl (hb hby at_112) ?_
    show Steps _ _ _ (T137.setTop (mkF m 114 #[.val (.int p1), .val (.int p2), .val (.int p3), .val (.int p4), .unset, .unset, .unset, .unset] [(.int (18 : Int32)), (.ref b101), (.ref b101)])) _
    refine XS.sipush X137.here hx rfl (hb hby at_114) ?_
    refine st139 _ ?_
    refine XS.dup X139.here hx rfl (hb hby at_118) rfl rfl ?_
    refine XS.bipush X139.here hx rfl (hb hby at_119) ?_
    show Steps _ _ _ (T139.setTop (mkF m 121 #[.val (.int p1), .val (.int p2), .val (.int p3), .val (.int p4), .unset, .unset, .unset, .unset] [(.int (19 : Int32)), (.ref b101), (.ref b101)])) _
    refine XS.sipush X139.here hx rfl (hb hby at_121) ?_
    refine st141 _ ?_
    refine XS.dup X141.here hx rfl (hb hby at_125) rfl rfl ?_
    refine XS.bipush X141.here hx rfl (hb hby at_126) ?_
    show Steps _ _ _ (T141.setTop (mkF m 128 #[.val (.int p1), .val (.int p2), .val (.int p3), .val (.int p4), .unset, .unset, .unset, .unset] [(.int (20 : Int32)), (.ref b101), (.ref b101)])) _
    refine XS.sipush X141.here hx rfl (hb hby at_128) ?_
    refine st143 _ ?_
    refine XS.dup X143.here hx rfl (hb hby at_132) rfl rfl ?_
    refine XS.bipush X143.here hx rfl (hb hby at_133) ?_
    show Steps _ _ _ (T143.setTop (mkF m 135 #[.val (.int p1), .val (.int p2), .val (.int p3), .val (.int p4), .unset, .unset, .unset, .unset] [(.int (21 : Int32)), (.ref b101), (.ref b101)])) _
    refine XS.sipush X143.here hx rfl (hb hby at_135) ?_
    refine st145 _ ?_
    refine XS.dup X145.here hx rfl (hb hby at_139) rfl rfl ?_
    refine XS.bipush X145.here hx rfl (hb hby at_140) ?_
    show Steps _ _ _ (T145.setTop (mkF m 142 #[.val (.int p1), .val (.int p2), .val (.int p3), .val (.int p4), .unset, .unset, .unset, .unset] [(.int (22 : Int32)), (.ref b101), (.ref b101)])) _
    refine XS.sipush X145.here hx rfl (hb hby at_142) ?_
    refine st147 _ ?_
    refine XS.dup X147.here hx rfl (hb hby at_146) rfl rfl ?_
    refine XS.bipush X147.here hx rfl (hb hby at_147) ?_
    show Steps _ _ _ (T147.setTop (mkF m 149 #[.val (.int p1), .val (.int p2), .val (.int p3), .val (.int p4), .unset, .unset, .unset, .unset] [(.int (23 : Int32)), (.ref b101), (.ref b101)])) _
    refine XS.sipush X147.here hx rfl (hb hby at_149) ?_
    refine st149 _ ?_
    refine XS.dup X149.here hx rfl (hb hby at_153) rfl rfl ?_
    refine XS.bipush X149.here hx rfl (hb hby at_154) ?_
    show Steps _ _ _ (T149.setTop (mkF m 156 #[.val (.int p1), .val (.int p2), .val (.int p3), .val (.int p4), .unset, .unset, .unset, .unset] [(.int (24 : Int32)), (.ref b101), (.ref b101)])) _
    refine XS.sipush X149.here hx rfl (hb hby at_156) ?_
    refine st151 _ ?_
    refine XS.dup X151.here hx rfl (hb hby at_160) rfl rfl ?_
    refine XS.bipush X151.here hx rfl (hb hby at_161) ?_
    show Steps _ _ _ (T151.setTop (mkF m 163 #[.val (.int p1), .val (.int p2), .val (.int p3), .val (.int p4), .unset, .unset, .unset, .unset] [(.int (25 : Int32)), (.ref b101), (.ref b101)])) _
    refine XS.sipush X151.here hx rfl (hb hby at_163) ?_
    refine st153 _ ?_
    refine XS.dup X153.here hx rfl (hb hby at_167) rfl rfl ?_
    refine XS.bipush X153.here hx rfl (hb hby at_168) ?_
    show Steps _ _ _ (T153.setTop (mkF m 170 #[.val (.int p1), .val (.int p2), .val (.int p3), .val (.int p4), .unset, .unset, .unset, .unset] [(.int (26 : Int32)), (.ref b101), (.ref b101)])) _
    refine XS.sipush X153.here hx rfl (hb hby at_170) ?_
    refine st155 _ ?_
    refine XS.dup X155.here hx rfl (hb hby at_174) rfl rfl ?_
    refine XS.bipush X155.here hx rfl (hb hby at_175) ?_
    show Steps _ _ _ (T155.setTop (mkF m 177 #[.val (.int p1), .val (.int p2), .val (.int p3), .val (.int p4), .unset, .unset, .unset, .unset] [(.int (27 : Int32)), (.ref b101), (.ref b101)])) _
    refine XS.sipush X155.here hx rfl (hb hby at_177) ?_
    refine st157 _ ?_
    refine XS.dup X157.here hx rfl (hb hby at_181) rfl rfl ?_
    refine XS.bipush X157.here hx rfl (hb hby at_182) ?_
    show Steps _ _ _ (T157.setTop (mkF m 184 #[.val (.int p1), .val (.int p2), .val (.int p3), .val (.int p4), .unset, .unset, .unset, .unset] [(.int (28 : Int32)), (.ref b101), (.ref b101)])) _
    refine XS.sipush X157.here hx rfl (hb hby at_184) ?_
    refine st159 _ ?_
    refine XS.dup X159.here hx rfl (hb hby at_188) rfl rfl ?_
    refine XS.bipush X159.here hx rfl (hb hby at_189) ?_
    show Steps _ _ _ (T159.setTop (mkF m 191 #[.val (.int p1), .val (.int p2), .val (.int p3), .val (.int p4), .unset, .unset, .unset, .unset] [(.int (29 : Int32)), (.ref b101), (.ref b101)])) _
    refine XS.sipush X159.here hx rfl (hb hby at_191) ?_
    refine st161 _ ?_
    refine XS.dup X161.here hx rfl (hb hby at_195) rfl rfl ?_
    refine XS.bipush X161.here hx rfl (hb hby at_196) ?_
    show Steps _ _ _ (T161.setTop (mkF m 198 #[.val (.int p1), .val (.int p2), .val (.int p3), .val (.int p4), .unset, .unset, .unset, .unset] [(.int (30 : Int32)), (.ref b101), (.ref b101)])) _
    refine XS.sipush X161.here hx rfl (hb hby at_198) ?_
    refine st163 _ ?_
    refine XS.dup X163.here hx rfl (hb hby at_202) rfl rfl ?_
    refine XS.bipush X163.here hx rfl (hb hby at_203) ?_
    show Steps _ _ _ (T163.setTop (mkF m 205 #[.val (.int p1), .val (.int p2), .val (.int p3), .val (.int p4), .unset, .unset, .unset, .unset] [(.int (31 : Int32)), (.ref b101), (.ref b101)])) _
    refine XS.sipush X163.here hx rfl (hb hby at_205) ?_
    refine st165 _ ?_
    refine XS.dup X165.here hx rfl (hb hby at_209) rfl rfl ?_
    refine XS.bipush X165.here hx rfl (hb hby at_210) ?_
    show Steps _ _ _ (T165.setTop (mkF m 212 #[.val (.int p1), .val (.int p2), .val (.int p3), .val (.int p4), .unset, .unset, .unset, .unset] [(.int (32 : Int32)), (.ref b101), (.ref b101)])) _
    refine XS.sipush X165.here hx rfl (hb hby at_212) ?_
    refine st167 _ ?_
    refine XS.dup X167.here hx rfl (hb hby at_216) rfl rfl ?_
    refine XS.bipush X167.here hx rfl (hb hby at_217) ?_
    show Steps _ _ _ (T167.setTop (mkF m 219 #[.val (.int p1), .val (.int p2), .val (.int p3), .val (.int p4), .unset, .unset, .unset, .unset] [(.int (33 : Int32)), (.ref b101), (.ref b101)])) _
    refine XS.sipush X167.here hx rfl (hb hby at_219) ?_
    refine st169 _ ?_
    refine XS.dup X169.here hx rfl (hb hby at_223) rfl rfl ?_
    refine XS.bipush X169.here hx rfl (hb hby at_224) ?_
    show Steps _ _ _ (T169.setTop (mkF m 226 #[.val (.int p1), .val (.int p2), .val (.int p3), .val (.int p4), .unset, .unset, .unset, .unset] [(.int (34 : Int32)), (.ref b101), (.ref b101)])) _
    refine XS.sipush X169.here hx rfl (hb hby at_226) ?_
    refine st171 _ ?_
    refine XS.dup X171.here hx rfl (hb hby at_230) rfl rfl ?_
    refine XS.bipush X171.here hx rfl (hb hby at_231) ?_
    show Steps _ _ _ (T171.setTop (mkF m 233 #[.val (.int p1), .val (.int p2), .val (.int p3), .val (.int p4), .unset, .unset, .unset, .unset] [(.int (35 : Int32)), (.ref b101), (.ref b101)])) _
    refine X171.ldcInt hx hown (mvT hZ (own_w1 hw)) (g := (mkF m 233 #[.val (.int p1), .val (.int p2), .val (.int p3), .val (.int p4), .unset, .unset, .unset, .unset] [(.int (35 : Int32)), (.ref b101), (.ref b101)])) rfl (hb hby at_233) _ ?_
    refine st173 _ ?_
    refine XS.dup X173.here hx rfl (hb hby at_236) rfl rfl ?_
    refine XS.bipush X173.here hx rfl (hb hby at_237) ?_
    show Steps _ _ _ (T173.setTop (mkF m 239 #[.val (.int p1), .val (.int p2), .val (.int p3), .val (.int p4), .unset, .unset, .unset, .unset] [(.int (36 : Int32)), (.ref b101), (.ref b101)])) _
    refine X173.ldcInt hx hown (mvT hZ (own_w2 hw)) (g := (mkF m 239 #[.val (.int p1), .val (.int p2), .val (.int p3), .val (.int p4), .unset, .unset, .unset, .unset] [(.int (36 : Int32)), (.ref b101), (.ref b101)])) rfl (hb hby at_239) _ ?_
    refine st175 _ ?_
    refine XS.dup X175.here hx rfl (hb hby at_242) rfl rfl ?_
    refine XS.bipush X175.here hx rfl (hb hby at_243) ?_
    show Steps _ _ _ (T175.setTop (mkF m 245 #[.val (.int p1), .val (.int p2), .val (.int p3), .val (.int p4), .unset, .unset, .unset, .unset] [(.int (37 : Int32)), (.ref b101), (.ref b101)])) _
    refine X175.ldcInt hx hown (mvT hZ (own_w3 hw)) (g := (mkF m 245 #[.val (.int p1), .val (.int p2), .val (.int p3), .val (.int p4), .unset, .unset, .unset, .unset] [(.int (37 : Int32)), (.ref b101), (.ref b101)])) rfl (hb hby at_245) _ ?_
    refine st177 _ ?_
    refine XS.dup X177.here hx rfl (hb hby at_248) rfl rfl ?_
    refine XS.bipush X177.here hx rfl (hb hby at_249) ?_
    show Steps _ _ _ (T177.setTop (mkF m 251 #[.val (.int p1), .val (.int p2), .val (.int p3), .val (.int p4), .unset, .unset, .unset, .unset] [(.int (38 : Int32)), (.ref b101), (.ref b101)])) _
    refine X177.ldcInt hx hown (mvT hZ (own_w4 hw)) (g := (mkF m 251 #[.val (.int p1), .val (.int p2), .val (.int p3), .val (.int p4), .unset, .unset, .unset, .unset] [(.int (38 : Int32)), (.ref b101), (.ref b101)])) rfl (hb hby at_251) _ ?_
    refine st179 _ ?_
    refine XS.dup X179.here hx rfl (hb hby at_254) rfl rfl ?_
    refine XS.bipush X179.here hx rfl (hb hby at_255) ?_
    show Steps _ _ _ (T179.setTop (mkF m 257 #[.val (.int p1), .val (.int p2), .val (.int p3), .val (.int p4), .unset, .unset, .unset, .unset] [(.int (39 : Int32)), (.ref b101), (.ref b101)])) _
    refine X179.ldcInt hx hown (mvT hZ (own_w5 hw)) (g := (mkF m 257 #[.val (.int p1), .val (.int p2), .val (.int p3), .val (.int p4), .unset, .unset, .unset, .unset] [(.int (39 : Int32)), (.ref b101), (.ref b101)])) rfl (hb hby at_257) _ ?_
    refine st181 _ ?_
    refine XS.dup X181.here hx rfl (hb hby at_260) rfl rfl ?_
    refine XS.bipush X181.here hx rfl (hb hby at_261) ?_
    show Steps _ _ _ (T181.setTop (mkF m 263 #[.val (.int p1), .val (.int p2), .val (.int p3), .val (.int p4), .unset, .unset, .unset, .unset] [(.int (40 : Int32)), (.ref b101), (.ref b101)])) _
    refine X181.ldcInt hx hown (mvT hZ (own_w6 hw)) (g := (mkF m 263 #[.val (.int p1), .val (.int p2), .val (.int p3), .val (.int p4), .unset, .unset, .unset, .unset] [(.int (40 : Int32)), (.ref b101), (.ref b101)])) rfl (hb hby at_263) _ ?_
    refine st183 _ ?_
    refine XS.dup X183.here hx rfl (hb hby at_266) rfl rfl ?_
    refine XS.bipush X183.here hx rfl (hb hby at_267) ?_
    show Steps _ _ _ (T183.setTop (mkF m 269 #[.val (.int p1), .val (.int p2), .val (.int p3), .val (.int p4), .unset, .unset, .unset, .unset] [(.int (41 : Int32)), (.ref b101), (.ref b101)])) _
    refine X183.ldcInt hx hown (mvT hZ (own_w7 hw)) (g := (mkF m 269 #[.val (.int p1), .val (.int p2), .val (.int p3), .val (.int p4), .unset, .unset, .unset, .unset] [(.int (41 : Int32)), (.ref b101), (.ref b101)])) rfl (hb hby at_269) _ ?_
    refine st185 _ ?_
    refine XS.dup X185.here hx rfl (hb hby at_272) rfl rfl ?_
    refine XS.bipush X185.here hx rfl (hb hby at_273) ?_
    show Steps _ _ _ (T185.setTop (mkF m 275 #[.val (.int p1), .val (.int p2), .val (.int p3), .val (.int p4), .unset, .unset, .unset, .unset] [(.int (42 : Int32)), (.ref b101), (.ref b101)])) _
    refine X185.ldcInt hx hown (mvT hZ (own_w8 hw)) (g := (mkF m 275 #[.val (.int p1), .val (.int p2), .val (.int p3), .val (.int p4), .unset, .unset, .unset, .unset] [(.int (42 : Int32)), (.ref b101), (.ref b101)])) rfl (hb hby at_275) _ ?_
    refine st187 _ ?_
    refine XS.dup X187.here hx rfl (hb hby at_278) rfl rfl ?_
    refine XS.bipush X187.here hx rfl (hb hby at_279) ?_
    show Steps _ _ _ (T187.setTop (mkF m 281 #[.val (.int p1), .val (.int p2), .val (.int p3), .val (.int p4), .unset, .unset, .unset, .unset] [(.int (43 : Int32)), (.ref b101), (.ref b101)])) _
    refine X187.ldcInt hx hown (mvT hZ (own_w9 hw)) (g := (mkF m 281 #[.val (.int p1), .val (.int p2), .val (.int p3), .val (.int p4), .unset, .unset, .unset, .unset] [(.int (43 : Int32)), (.ref b101), (.ref b101)])) rfl (hb hby at_281) _ ?_
    refine st189 _ ?_
    refine XS.dup X189.here hx rfl (hb hby at_284) rfl rfl ?_
    refine XS.bipush X189.here hx rfl (hb hby at_285) ?_
    show Steps _ _ _ (T189.setTop (mkF m 287 #[.val (.int p1), .val (.int p2), .val (.int p3), .val (.int p4), .unset, .unset, .unset, .unset] [(.int (44 : Int32)), (.ref b101), (.ref b101)])) _
    refine X189.ldcInt hx hown (mvT hZ (own_w10 hw)) (g := (mkF m 287 #[.val (.int p1), .val (.int p2), .val (.int p3), .val (.int p4), .unset, .unset, .unset, .unset] [(.int (44 : Int32)), (.ref b101), (.ref b101)])) rfl (hb hby at_287) _ ?_
    refine st191 _ ?_
    refine XS.dup X191.here hx rfl (hb hby at_290) rfl rfl ?_
    refine XS.bipush X191.here hx rfl (hb hby at_291) ?_
    show Steps _ _ _ (T191.setTop (mkF m 293 #[.val (.int p1), .val (.int p2), .val (.int p3), .val (.int p4), .unset, .unset, .unset, .unset] [(.int (45 : Int32)), (.ref b101), (.ref b101)])) _
    refine X191.ldcInt hx hown (mvT hZ (own_w11 hw)) (g := (mkF m 293 #[.val (.int p1), .val (.int p2), .val (.int p3), .val (.int p4), .unset, .unset, .unset, .unset] [(.int (45 : Int32)), (.ref b101), (.ref b101)])) rfl (hb hby at_293) _ ?_
    refine st193 _ ?_
    refine XS.astore X193.here hx rfl (hb hby at_296) rfl rfl (l' := #[.val (.int p1), .val (.int p2), .val (.int p3), .val (.int p4), .val (.ref b101), .unset, .unset, .unset]) rfl ?_
    refine XS.iloadN X193.here hx rfl (hb hby at_298) rfl ?_
    show Steps _ _ _ (T193.setTop (mkF m 299 #[.val (.int p1), .val (.int p2), .val (.int p3), .val (.int p4), .val (.ref b101), .unset, .unset, .unset] [(.int p4)])) _
    refine XS.iconst X193.here hx rfl (hb hby at_299) ?_
    refine XS.iand X193.here hx rfl (hb hby at_300) rfl ?_
    refine XS.istore X193.here hx rfl (hb hby at_301) rfl (l' := #[.val (.int p1), .val (.int p2), .val (.int p3), .val (.int p4), .val (.ref b101), .val (.int (p4 &&& (3 : Int32))), .unset, .unset]) rfl ?_
    refine XS.iload X193.here hx rfl (hb hby at_303) rfl ?_
    exact kt)
  by_cases hc305_195 : (p4 &&& (3 : Int32)) = (0 : Int32)
  · skip
    have ihc305_195 := (own_eq (b := (0 : Int32)) (k := 0) rfl).mp hc305_195
    have c196 := own_sta0 SA K193
    have c197 := own_arr_keep AA K193
    obtain ⟨_, _, ⟨T198, L198, k198, n198⟩, -, X198, ⟨Lc198, hQ198, l198, y198, z198⟩, st198⟩ := Jvm.LawKit.callS X193 hx (y := own_m0) hown (mvT hZ (own_w12 hw)) (mvT hZ (own_w13 hw)) (mvT hZ (own_w14 hw)) (mvT hZ (own_w15 hw)) (by decide) (backOf (W := 0) (own_ns l Z a0 hw [] p1 ar ac h193 n0 Z193 c196 c197 hsz hel) hZ (own_w15 hw) (own_w14 hw) (by decide) (by decide)) (g := (mkF m 367 #[.val (.int p1), .val (.int p2), .val (.int p3), .val (.int p4), .val (.ref b101), .val (.int (p4 &&& (3 : Int32))), .val (.int p1), .unset] [(.int p1)])) rfl (by rw [hml]; rfl) (argsL := [(.int p1)]) (rest := []) (lenOf own_pd0 rfl) rfl (by show 2 * 0 + _ ≤ _; exact Nat.le_of_eq rfl) (hb hby at_367) (fun _ _ => ⟨rfl, e193, (by decide : 1 + 0 ≤ _), (by decide : 46 + 0 ≤ _)⟩)
    dsimp only [Pt.U, Pt.locs, Pt.cells, Pt.slots] at X198 l198 y198 z198 st198 hQ198
    rw [l198, y198, z198] at X198
    obtain ⟨rfl, N198q, e198⟩ := hQ198
    have N198 := Fr.app N193 N198q
    obtain ⟨_, _, ⟨T199, L199, k199, n199⟩, -, X199, ⟨Lc199, hQ199, l199, y199, z199⟩, st199⟩ := Jvm.LawKit.callS X198 hx (y := own_m1) hown (mvT hZ (own_w18 hw)) (mvT hZ (own_w19 hw)) (mvT hZ (own_w20 hw)) (mvT hZ (own_w21 hw)) (by decide) (backOf (W := 1) (own_ref l Z a0 hw [] p1 h193 n0 Z193) hZ (own_w21 hw) (own_w20 hw) (by decide) (by decide)) (g := (mkF m 372 #[.val (.int p1), .val (.int p2), .val (.int p3), .val (.int p4), .val (.ref b101), .val (.int (p4 &&& (3 : Int32))), .val (.int p1), .unset] [(.int p1), (.int (own_f p1))])) rfl (by rw [hml]; rfl) (argsL := [(.int p1)]) (rest := [(.int (own_f p1))]) (lenOf own_pd0 rfl) rfl (by show 2 * 0 + _ ≤ _; exact Nat.le_of_eq rfl) (hb hby at_372) (fun _ _ => ⟨rfl, e198, (by decide : 1 + 0 ≤ _), (by decide : 46 + 0 ≤ _)⟩)
    dsimp only [Pt.U, Pt.locs, Pt.cells, Pt.slots] at X199 l199 y199 z199 st199 hQ199
    rw [l199, y199, z199] at X199
    obtain ⟨rfl, N199q, e199⟩ := hQ199
    have N199 := Fr.app N198 N199q
    obtain ⟨fs, hr, hrun, hended, hW, hsame⟩ := X199.leave (v := some (.int (1 : Int32))) (fun h => by rw [Bd.returns] at h; cases h)
    refine ⟨_, _, pre194 _ ?_, hrun, hended, _, _, rfl, ?_, ⟨_, rfl⟩, hW, hsame.mono (by decide) (by decide)⟩
    · show Steps _ _ _ (T193.setTop (mkF m 305 #[.val (.int p1), .val (.int p2), .val (.int p3), .val (.int p4), .val (.ref b101), .val (.int (p4 &&& (3 : Int32))), .unset, .unset] [(.int (p4 &&& (3 : Int32)))])) _
      refine XS.ifNo X193.here hx rfl (hb hby at_305) rfl ((if0 _ _).trans (teq hc305_195).2) ?_
      refine XS.iloadN X193.here hx rfl (hb hby at_308) rfl ?_
      refine XS.istore X193.here hx rfl (hb hby at_309) rfl (l' := #[.val (.int p1), .val (.int p2), .val (.int p3), .val (.int p4), .val (.ref b101), .val (.int (p4 &&& (3 : Int32))), .val (.int p1), .unset]) rfl ?_
      refine XS.goto X193.here hx rfl (pc0 := 311) (pc' := 365) rfl (hb hby at_311) (by decide) (by decide) ?_
      show Steps _ _ _ (T193.setTop (mkF m 365 #[.val (.int p1), .val (.int p2), .val (.int p3), .val (.int p4), .val (.ref b101), .val (.int (p4 &&& (3 : Int32))), .val (.int p1), .unset] [])) _
      refine XS.iload X193.here hx rfl (hb hby at_365) rfl ?_
      refine st198 _ ?_
      refine XS.iload X198.here hx rfl (hb hby at_370) rfl ?_
      refine st199 _ ?_
      show Steps _ _ _ (T199.setTop (mkF m 375 #[.val (.int p1), .val (.int p2), .val (.int p3), .val (.int p4), .val (.ref b101), .val (.int (p4 &&& (3 : Int32))), .val (.int p1), .unset] [(.int (own_f p1)), (.int (own_f p1))])) _
      refine XS.icmpNo X199.here hx rfl (hb hby at_375) rfl (teq (rfl : (own_f p1) = (own_f p1))).2 ?_
      refine XS.iconst X199.here hx rfl (hb hby at_378) ?_
      refine XS.goto X199.here hx rfl (pc0 := 379) (pc' := 383) rfl (hb hby at_379) (by decide) (by decide) ?_
      show Steps _ _ _ (T199.setTop (mkF m 383 #[.val (.int p1), .val (.int p2), .val (.int p3), .val (.int p4), .val (.ref b101), .val (.int (p4 &&& (3 : Int32))), .val (.int p1), .unset] [(.int (1 : Int32))])) _
      exact retN X199 hx (t := .boolean) Bd.returns (by simp) (hb hby at_383) hr
    · show Qown_law Z p1 p2 p3 p4 ar ac h0 n0 _ T199.heap _
      rw [e199]
      exact ⟨rfl, N199⟩
  · skip
    have ihc305_195 := (mt (own_eq (b := (0 : Int32)) (k := 0) rfl).mpr hc305_195)
    have pre200 : ∀ t, Steps p.tables e below (T193.setTop (mkF m 317 #[.val (.int p1), .val (.int p2), .val (.int p3), .val (.int p4), .val (.ref b101), .val (.int (p4 &&& (3 : Int32))), .unset, .unset] [(.int (1 : Int32)), (.int (p4 &&& (3 : Int32)))])) t → Steps p.tables e below (s₁.setTop (entryFrame m #[(.int p1), (.int p2), (.int p3), (.int p4)] maxLocals)) t := fun t kt => pre194 t (by
      show Steps _ _ _ (T193.setTop (mkF m 305 #[.val (.int p1), .val (.int p2), .val (.int p3), .val (.int p4), .val (.ref b101), .val (.int (p4 &&& (3 : Int32))), .unset, .unset] [(.int (p4 &&& (3 : Int32)))])) _
      refine XS.ifYes X193.here hx rfl (pc0 := 305) (pc' := 314) rfl (hb hby at_305) rfl ((if0 _ _).trans (feq hc305_195).2) (by decide) (by decide) ?_
      refine XS.iload X193.here hx rfl (hb hby at_314) rfl ?_
      refine XS.iconst X193.here hx rfl (hb hby at_316) ?_
      exact kt)
    by_cases hc317_201 : (p4 &&& (3 : Int32)) = (1 : Int32)
    · skip
      have ihc317_201 := (own_eq (b := (1 : Int32)) (k := 1) rfl).mp hc317_201
      have c202 := own_sta0 SA K193
      have c203 := own_arr_keep AA K193
      obtain ⟨_, _, ⟨T204, L204, k204, n204⟩, -, X204, ⟨Lc204, hQ204, l204, y204, z204⟩, st204⟩ := Jvm.LawKit.callS X193 hx (y := own_m0) hown (mvT hZ (own_w12 hw)) (mvT hZ (own_w13 hw)) (mvT hZ (own_w14 hw)) (mvT hZ (own_w15 hw)) (by decide) (backOf (W := 0) (own_ns l Z a0 hw [] (p1 &&& (127 : Int32)) ar ac h193 n0 Z193 c202 c203 hsz hel) hZ (own_w15 hw) (own_w14 hw) (by decide) (by decide)) (g := (mkF m 367 #[.val (.int p1), .val (.int p2), .val (.int p3), .val (.int p4), .val (.ref b101), .val (.int (p4 &&& (3 : Int32))), .val (.int (p1 &&& (127 : Int32))), .unset] [(.int (p1 &&& (127 : Int32)))])) rfl (by rw [hml]; rfl) (argsL := [(.int (p1 &&& (127 : Int32)))]) (rest := []) (lenOf own_pd0 rfl) rfl (by show 2 * 0 + _ ≤ _; exact Nat.le_of_eq rfl) (hb hby at_367) (fun _ _ => ⟨rfl, e193, (by decide : 1 + 0 ≤ _), (by decide : 46 + 0 ≤ _)⟩)
      dsimp only [Pt.U, Pt.locs, Pt.cells, Pt.slots] at X204 l204 y204 z204 st204 hQ204
      rw [l204, y204, z204] at X204
      obtain ⟨rfl, N204q, e204⟩ := hQ204
      have N204 := Fr.app N193 N204q
      obtain ⟨_, _, ⟨T205, L205, k205, n205⟩, -, X205, ⟨Lc205, hQ205, l205, y205, z205⟩, st205⟩ := Jvm.LawKit.callS X204 hx (y := own_m1) hown (mvT hZ (own_w18 hw)) (mvT hZ (own_w19 hw)) (mvT hZ (own_w20 hw)) (mvT hZ (own_w21 hw)) (by decide) (backOf (W := 1) (own_ref l Z a0 hw [] (p1 &&& (127 : Int32)) h193 n0 Z193) hZ (own_w21 hw) (own_w20 hw) (by decide) (by decide)) (g := (mkF m 372 #[.val (.int p1), .val (.int p2), .val (.int p3), .val (.int p4), .val (.ref b101), .val (.int (p4 &&& (3 : Int32))), .val (.int (p1 &&& (127 : Int32))), .unset] [(.int (p1 &&& (127 : Int32))), (.int (own_f (p1 &&& (127 : Int32))))])) rfl (by rw [hml]; rfl) (argsL := [(.int (p1 &&& (127 : Int32)))]) (rest := [(.int (own_f (p1 &&& (127 : Int32))))]) (lenOf own_pd0 rfl) rfl (by show 2 * 0 + _ ≤ _; exact Nat.le_of_eq rfl) (hb hby at_372) (fun _ _ => ⟨rfl, e204, (by decide : 1 + 0 ≤ _), (by decide : 46 + 0 ≤ _)⟩)
      dsimp only [Pt.U, Pt.locs, Pt.cells, Pt.slots] at X205 l205 y205 z205 st205 hQ205
      rw [l205, y205, z205] at X205
      obtain ⟨rfl, N205q, e205⟩ := hQ205
      have N205 := Fr.app N204 N205q
      obtain ⟨fs, hr, hrun, hended, hW, hsame⟩ := X205.leave (v := some (.int (1 : Int32))) (fun h => by rw [Bd.returns] at h; cases h)
      refine ⟨_, _, pre200 _ ?_, hrun, hended, _, _, rfl, ?_, ⟨_, rfl⟩, hW, hsame.mono (by decide) (by decide)⟩
      · show Steps _ _ _ (T193.setTop (mkF m 317 #[.val (.int p1), .val (.int p2), .val (.int p3), .val (.int p4), .val (.ref b101), .val (.int (p4 &&& (3 : Int32))), .unset, .unset] [(.int (1 : Int32)), (.int (p4 &&& (3 : Int32)))])) _
        refine XS.icmpNo X193.here hx rfl (hb hby at_317) rfl (teq hc317_201).2 ?_
        refine XS.iloadN X193.here hx rfl (hb hby at_320) rfl ?_
        refine XS.bipush X193.here hx rfl (hb hby at_321) ?_
        refine XS.iand X193.here hx rfl (hb hby at_323) rfl ?_
        show Steps _ _ _ (T193.setTop (mkF m 324 #[.val (.int p1), .val (.int p2), .val (.int p3), .val (.int p4), .val (.ref b101), .val (.int (p4 &&& (3 : Int32))), .unset, .unset] [(.int (p1 &&& (127 : Int32)))])) _
        refine XS.istore X193.here hx rfl (hb hby at_324) rfl (l' := #[.val (.int p1), .val (.int p2), .val (.int p3), .val (.int p4), .val (.ref b101), .val (.int (p4 &&& (3 : Int32))), .val (.int (p1 &&& (127 : Int32))), .unset]) rfl ?_
        refine XS.goto X193.here hx rfl (pc0 := 326) (pc' := 365) rfl (hb hby at_326) (by decide) (by decide) ?_
        refine XS.iload X193.here hx rfl (hb hby at_365) rfl ?_
        refine st204 _ ?_
        show Steps _ _ _ (T204.setTop (mkF m 370 #[.val (.int p1), .val (.int p2), .val (.int p3), .val (.int p4), .val (.ref b101), .val (.int (p4 &&& (3 : Int32))), .val (.int (p1 &&& (127 : Int32))), .unset] [(.int (own_f (p1 &&& (127 : Int32))))])) _
        refine XS.iload X204.here hx rfl (hb hby at_370) rfl ?_
        refine st205 _ ?_
        refine XS.icmpNo X205.here hx rfl (hb hby at_375) rfl (teq (rfl : (own_f (p1 &&& (127 : Int32))) = (own_f (p1 &&& (127 : Int32))))).2 ?_
        refine XS.iconst X205.here hx rfl (hb hby at_378) ?_
        show Steps _ _ _ (T205.setTop (mkF m 379 #[.val (.int p1), .val (.int p2), .val (.int p3), .val (.int p4), .val (.ref b101), .val (.int (p4 &&& (3 : Int32))), .val (.int (p1 &&& (127 : Int32))), .unset] [(.int (1 : Int32))])) _
        refine XS.goto X205.here hx rfl (pc0 := 379) (pc' := 383) rfl (hb hby at_379) (by decide) (by decide) ?_
        show Steps _ _ _ (T205.setTop (mkF m 383 #[.val (.int p1), .val (.int p2), .val (.int p3), .val (.int p4), .val (.ref b101), .val (.int (p4 &&& (3 : Int32))), .val (.int (p1 &&& (127 : Int32))), .unset] [(.int (1 : Int32))])) _
        exact retN X205 hx (t := .boolean) Bd.returns (by simp) (hb hby at_383) hr
      · show Qown_law Z p1 p2 p3 p4 ar ac h0 n0 _ T205.heap _
        rw [e205]
        exact ⟨rfl, N205⟩
    · skip
      have ihc317_201 := (mt (own_eq (b := (1 : Int32)) (k := 1) rfl).mpr hc317_201)
      have pre206 : ∀ t, Steps p.tables e below (T193.setTop (mkF m 332 #[.val (.int p1), .val (.int p2), .val (.int p3), .val (.int p4), .val (.ref b101), .val (.int (p4 &&& (3 : Int32))), .unset, .unset] [(.int (2 : Int32)), (.int (p4 &&& (3 : Int32)))])) t → Steps p.tables e below (s₁.setTop (entryFrame m #[(.int p1), (.int p2), (.int p3), (.int p4)] maxLocals)) t := fun t kt => pre200 t (by
        show Steps _ _ _ (T193.setTop (mkF m 317 #[.val (.int p1), .val (.int p2), .val (.int p3), .val (.int p4), .val (.ref b101), .val (.int (p4 &&& (3 : Int32))), .unset, .unset] [(.int (1 : Int32)), (.int (p4 &&& (3 : Int32)))])) _
        refine XS.icmpYes X193.here hx rfl (pc0 := 317) (pc' := 329) rfl (hb hby at_317) rfl (feq hc317_201).2 (by decide) (by decide) ?_
        refine XS.iload X193.here hx rfl (hb hby at_329) rfl ?_
        refine XS.iconst X193.here hx rfl (hb hby at_331) ?_
        exact kt)
      by_cases hc332_207 : (p4 &&& (3 : Int32)) = (2 : Int32)
      · skip
        have ihc332_207 := (own_eq (b := (2 : Int32)) (k := 2) rfl).mp hc332_207
        have c208 := own_sta0 SA K193
        have c209 := own_arr_keep AA K193
        obtain ⟨_, _, ⟨T210, L210, k210, n210⟩, -, X210, ⟨Lc210, hQ210, l210, y210, z210⟩, st210⟩ := Jvm.LawKit.callS X193 hx (y := own_m0) hown (mvT hZ (own_w12 hw)) (mvT hZ (own_w13 hw)) (mvT hZ (own_w14 hw)) (mvT hZ (own_w15 hw)) (by decide) (backOf (W := 0) (own_ns l Z a0 hw [] (p1 &&& (65535 : Int32)) ar ac h193 n0 Z193 c208 c209 hsz hel) hZ (own_w15 hw) (own_w14 hw) (by decide) (by decide)) (g := (mkF m 367 #[.val (.int p1), .val (.int p2), .val (.int p3), .val (.int p4), .val (.ref b101), .val (.int (p4 &&& (3 : Int32))), .val (.int (p1 &&& (65535 : Int32))), .unset] [(.int (p1 &&& (65535 : Int32)))])) rfl (by rw [hml]; rfl) (argsL := [(.int (p1 &&& (65535 : Int32)))]) (rest := []) (lenOf own_pd0 rfl) rfl (by show 2 * 0 + _ ≤ _; exact Nat.le_of_eq rfl) (hb hby at_367) (fun _ _ => ⟨rfl, e193, (by decide : 1 + 0 ≤ _), (by decide : 46 + 0 ≤ _)⟩)
        dsimp only [Pt.U, Pt.locs, Pt.cells, Pt.slots] at X210 l210 y210 z210 st210 hQ210
        rw [l210, y210, z210] at X210
        obtain ⟨rfl, N210q, e210⟩ := hQ210
        have N210 := Fr.app N193 N210q
        obtain ⟨_, _, ⟨T211, L211, k211, n211⟩, -, X211, ⟨Lc211, hQ211, l211, y211, z211⟩, st211⟩ := Jvm.LawKit.callS X210 hx (y := own_m1) hown (mvT hZ (own_w18 hw)) (mvT hZ (own_w19 hw)) (mvT hZ (own_w20 hw)) (mvT hZ (own_w21 hw)) (by decide) (backOf (W := 1) (own_ref l Z a0 hw [] (p1 &&& (65535 : Int32)) h193 n0 Z193) hZ (own_w21 hw) (own_w20 hw) (by decide) (by decide)) (g := (mkF m 372 #[.val (.int p1), .val (.int p2), .val (.int p3), .val (.int p4), .val (.ref b101), .val (.int (p4 &&& (3 : Int32))), .val (.int (p1 &&& (65535 : Int32))), .unset] [(.int (p1 &&& (65535 : Int32))), (.int (own_f (p1 &&& (65535 : Int32))))])) rfl (by rw [hml]; rfl) (argsL := [(.int (p1 &&& (65535 : Int32)))]) (rest := [(.int (own_f (p1 &&& (65535 : Int32))))]) (lenOf own_pd0 rfl) rfl (by show 2 * 0 + _ ≤ _; exact Nat.le_of_eq rfl) (hb hby at_372) (fun _ _ => ⟨rfl, e210, (by decide : 1 + 0 ≤ _), (by decide : 46 + 0 ≤ _)⟩)
        dsimp only [Pt.U, Pt.locs, Pt.cells, Pt.slots] at X211 l211 y211 z211 st211 hQ211
        rw [l211, y211, z211] at X211
        obtain ⟨rfl, N211q, e211⟩ := hQ211
        have N211 := Fr.app N210 N211q
        obtain ⟨fs, hr, hrun, hended, hW, hsame⟩ := X211.leave (v := some (.int (1 : Int32))) (fun h => by rw [Bd.returns] at h; cases h)
        refine ⟨_, _, pre206 _ ?_, hrun, hended, _, _, rfl, ?_, ⟨_, rfl⟩, hW, hsame.mono (by decide) (by decide)⟩
        · show Steps _ _ _ (T193.setTop (mkF m 332 #[.val (.int p1), .val (.int p2), .val (.int p3), .val (.int p4), .val (.ref b101), .val (.int (p4 &&& (3 : Int32))), .unset, .unset] [(.int (2 : Int32)), (.int (p4 &&& (3 : Int32)))])) _
          refine XS.icmpNo X193.here hx rfl (hb hby at_332) rfl (teq hc332_207).2 ?_
          refine XS.iloadN X193.here hx rfl (hb hby at_335) rfl ?_
          refine X193.ldcInt hx hown (mvT hZ (own_w22 hw)) (g := (mkF m 336 #[.val (.int p1), .val (.int p2), .val (.int p3), .val (.int p4), .val (.ref b101), .val (.int (p4 &&& (3 : Int32))), .unset, .unset] [(.int p1)])) rfl (hb hby at_336) _ ?_
          refine XS.iand X193.here hx rfl (hb hby at_338) rfl ?_
          show Steps _ _ _ (T193.setTop (mkF m 339 #[.val (.int p1), .val (.int p2), .val (.int p3), .val (.int p4), .val (.ref b101), .val (.int (p4 &&& (3 : Int32))), .unset, .unset] [(.int (p1 &&& (65535 : Int32)))])) _
          refine XS.istore X193.here hx rfl (hb hby at_339) rfl (l' := #[.val (.int p1), .val (.int p2), .val (.int p3), .val (.int p4), .val (.ref b101), .val (.int (p4 &&& (3 : Int32))), .val (.int (p1 &&& (65535 : Int32))), .unset]) rfl ?_
          refine XS.goto X193.here hx rfl (pc0 := 341) (pc' := 365) rfl (hb hby at_341) (by decide) (by decide) ?_
          refine XS.iload X193.here hx rfl (hb hby at_365) rfl ?_
          refine st210 _ ?_
          show Steps _ _ _ (T210.setTop (mkF m 370 #[.val (.int p1), .val (.int p2), .val (.int p3), .val (.int p4), .val (.ref b101), .val (.int (p4 &&& (3 : Int32))), .val (.int (p1 &&& (65535 : Int32))), .unset] [(.int (own_f (p1 &&& (65535 : Int32))))])) _
          refine XS.iload X210.here hx rfl (hb hby at_370) rfl ?_
          refine st211 _ ?_
          refine XS.icmpNo X211.here hx rfl (hb hby at_375) rfl (teq (rfl : (own_f (p1 &&& (65535 : Int32))) = (own_f (p1 &&& (65535 : Int32))))).2 ?_
          refine XS.iconst X211.here hx rfl (hb hby at_378) ?_
          show Steps _ _ _ (T211.setTop (mkF m 379 #[.val (.int p1), .val (.int p2), .val (.int p3), .val (.int p4), .val (.ref b101), .val (.int (p4 &&& (3 : Int32))), .val (.int (p1 &&& (65535 : Int32))), .unset] [(.int (1 : Int32))])) _
          refine XS.goto X211.here hx rfl (pc0 := 379) (pc' := 383) rfl (hb hby at_379) (by decide) (by decide) ?_
          show Steps _ _ _ (T211.setTop (mkF m 383 #[.val (.int p1), .val (.int p2), .val (.int p3), .val (.int p4), .val (.ref b101), .val (.int (p4 &&& (3 : Int32))), .val (.int (p1 &&& (65535 : Int32))), .unset] [(.int (1 : Int32))])) _
          exact retN X211 hx (t := .boolean) Bd.returns (by simp) (hb hby at_383) hr
        · show Qown_law Z p1 p2 p3 p4 ar ac h0 n0 _ T211.heap _
          rw [e211]
          exact ⟨rfl, N211⟩
      · skip
        have ihc332_207 := (mt (own_eq (b := (2 : Int32)) (k := 2) rfl).mpr hc332_207)
        obtain ⟨cl212, Ar212, Aq212, As212, An212, Ah212, Ag212⟩ := id V193
        obtain ⟨cl213, Ar213, Aq213, As213, An213, Ah213, Ag213⟩ := id V193
        have hin213 : ¬ (((p2 &&& (2147483647 : Int32)) % (46 : Int32)) < 0 ∨ cl213.slots.size ≤ (((p2 &&& (2147483647 : Int32)) % (46 : Int32))).toNatClampNeg) := inb_of As213 ⟨(own_ix p2).1, (own_ix p2).2⟩
        obtain ⟨w213, hw213⟩ := fit_I (Ag213 _ (Nat.lt_of_not_le fun y => hin213 (Or.inr y))) (Or.inl rfl)
        have c214 := own_sta0 SA K193
        have c215 := own_arr_keep AA K193
        obtain ⟨_, _, ⟨T216, L216, k216, n216⟩, -, X216, ⟨Lc216, hQ216, l216, y216, z216⟩, st216⟩ := Jvm.LawKit.callS X193 hx (y := own_m0) hown (mvT hZ (own_w12 hw)) (mvT hZ (own_w13 hw)) (mvT hZ (own_w14 hw)) (mvT hZ (own_w15 hw)) (by decide) (backOf (W := 0) (own_ns l Z a0 hw [] (w213 + (p3 % (3 : Int32))) ar ac h193 n0 Z193 c214 c215 hsz hel) hZ (own_w15 hw) (own_w14 hw) (by decide) (by decide)) (g := (mkF m 367 #[.val (.int p1), .val (.int p2), .val (.int p3), .val (.int p4), .val (.ref b101), .val (.int (p4 &&& (3 : Int32))), .val (.int (w213 + (p3 % (3 : Int32)))), .val (.int ((p2 &&& (2147483647 : Int32)) % (46 : Int32)))] [(.int (w213 + (p3 % (3 : Int32))))])) rfl (by rw [hml]; rfl) (argsL := [(.int (w213 + (p3 % (3 : Int32))))]) (rest := []) (lenOf own_pd0 rfl) rfl (by show 2 * 0 + _ ≤ _; exact Nat.le_of_eq rfl) (hb hby at_367) (fun _ _ => ⟨rfl, e193, (by decide : 1 + 0 ≤ _), (by decide : 46 + 0 ≤ _)⟩)
        dsimp only [Pt.U, Pt.locs, Pt.cells, Pt.slots] at X216 l216 y216 z216 st216 hQ216
        rw [l216, y216, z216] at X216
        obtain ⟨rfl, N216q, e216⟩ := hQ216
        have N216 := Fr.app N193 N216q
        obtain ⟨_, _, ⟨T217, L217, k217, n217⟩, -, X217, ⟨Lc217, hQ217, l217, y217, z217⟩, st217⟩ := Jvm.LawKit.callS X216 hx (y := own_m1) hown (mvT hZ (own_w18 hw)) (mvT hZ (own_w19 hw)) (mvT hZ (own_w20 hw)) (mvT hZ (own_w21 hw)) (by decide) (backOf (W := 1) (own_ref l Z a0 hw [] (w213 + (p3 % (3 : Int32))) h193 n0 Z193) hZ (own_w21 hw) (own_w20 hw) (by decide) (by decide)) (g := (mkF m 372 #[.val (.int p1), .val (.int p2), .val (.int p3), .val (.int p4), .val (.ref b101), .val (.int (p4 &&& (3 : Int32))), .val (.int (w213 + (p3 % (3 : Int32)))), .val (.int ((p2 &&& (2147483647 : Int32)) % (46 : Int32)))] [(.int (w213 + (p3 % (3 : Int32)))), (.int (own_f (w213 + (p3 % (3 : Int32)))))])) rfl (by rw [hml]; rfl) (argsL := [(.int (w213 + (p3 % (3 : Int32))))]) (rest := [(.int (own_f (w213 + (p3 % (3 : Int32)))))]) (lenOf own_pd0 rfl) rfl (by show 2 * 0 + _ ≤ _; exact Nat.le_of_eq rfl) (hb hby at_372) (fun _ _ => ⟨rfl, e216, (by decide : 1 + 0 ≤ _), (by decide : 46 + 0 ≤ _)⟩)
        dsimp only [Pt.U, Pt.locs, Pt.cells, Pt.slots] at X217 l217 y217 z217 st217 hQ217
        rw [l217, y217, z217] at X217
        obtain ⟨rfl, N217q, e217⟩ := hQ217
        have N217 := Fr.app N216 N217q
        obtain ⟨fs, hr, hrun, hended, hW, hsame⟩ := X217.leave (v := some (.int (1 : Int32))) (fun h => by rw [Bd.returns] at h; cases h)
        refine ⟨_, _, pre206 _ ?_, hrun, hended, _, _, rfl, ?_, ⟨_, rfl⟩, hW, hsame.mono (by decide) (by decide)⟩
        · show Steps _ _ _ (T193.setTop (mkF m 332 #[.val (.int p1), .val (.int p2), .val (.int p3), .val (.int p4), .val (.ref b101), .val (.int (p4 &&& (3 : Int32))), .unset, .unset] [(.int (2 : Int32)), (.int (p4 &&& (3 : Int32)))])) _
          refine XS.icmpYes X193.here hx rfl (pc0 := 332) (pc' := 344) rfl (hb hby at_332) rfl (feq hc332_207).2 (by decide) (by decide) ?_
          refine XS.iloadN X193.here hx rfl (hb hby at_344) rfl ?_
          refine X193.ldcInt hx hown (mvT hZ (own_w11 hw)) (g := (mkF m 345 #[.val (.int p1), .val (.int p2), .val (.int p3), .val (.int p4), .val (.ref b101), .val (.int (p4 &&& (3 : Int32))), .unset, .unset] [(.int p2)])) rfl (hb hby at_345) _ ?_
          refine XS.iand X193.here hx rfl (hb hby at_347) rfl ?_
          show Steps _ _ _ (T193.setTop (mkF m 348 #[.val (.int p1), .val (.int p2), .val (.int p3), .val (.int p4), .val (.ref b101), .val (.int (p4 &&& (3 : Int32))), .unset, .unset] [(.int (p2 &&& (2147483647 : Int32)))])) _
          refine XS.aload X193.here hx rfl (hb hby at_348) rfl rfl ?_
          refine X193.arraylength hx (by rw [e193]; exact Ar212.1) (State.isArrayOf_alike hZ.alike Ar212.2.1) (g := (mkF m 350 #[.val (.int p1), .val (.int p2), .val (.int p3), .val (.int p4), .val (.ref b101), .val (.int (p4 &&& (3 : Int32))), .unset, .unset] [(.ref b101), (.int (p2 &&& (2147483647 : Int32)))])) rfl rfl (hb hby at_350) _ ?_
          rw [len_of As212 An212]
          refine iremM X193 hx rfl (hb hby at_351) rfl (by decide) ?_
          refine XS.istore X193.here hx rfl (hb hby at_352) rfl (l' := #[.val (.int p1), .val (.int p2), .val (.int p3), .val (.int p4), .val (.ref b101), .val (.int (p4 &&& (3 : Int32))), .unset, .val (.int ((p2 &&& (2147483647 : Int32)) % (46 : Int32)))]) rfl ?_
          show Steps _ _ _ (T193.setTop (mkF m 354 #[.val (.int p1), .val (.int p2), .val (.int p3), .val (.int p4), .val (.ref b101), .val (.int (p4 &&& (3 : Int32))), .unset, .val (.int ((p2 &&& (2147483647 : Int32)) % (46 : Int32)))] [])) _
          refine XS.aload X193.here hx rfl (hb hby at_354) rfl rfl ?_
          refine XS.iload X193.here hx rfl (hb hby at_356) rfl ?_
          refine X193.iaload hx (j := ((p2 &&& (2147483647 : Int32)) % (46 : Int32))) (v := (.int w213)) (by rw [e193]; exact Ar213.1) (State.isArrayOf_alike hZ.alike Ar213.2.1) Ar213.2.2 hin213 (Ah213.at hin213 hw213) (g := (mkF m 358 #[.val (.int p1), .val (.int p2), .val (.int p3), .val (.int p4), .val (.ref b101), .val (.int (p4 &&& (3 : Int32))), .unset, .val (.int ((p2 &&& (2147483647 : Int32)) % (46 : Int32)))] [(.int ((p2 &&& (2147483647 : Int32)) % (46 : Int32))), (.ref b101)])) rfl rfl (hb hby at_358) _ ?_
          refine XS.iloadN X193.here hx rfl (hb hby at_359) rfl ?_
          show Steps _ _ _ (T193.setTop (mkF m 360 #[.val (.int p1), .val (.int p2), .val (.int p3), .val (.int p4), .val (.ref b101), .val (.int (p4 &&& (3 : Int32))), .unset, .val (.int ((p2 &&& (2147483647 : Int32)) % (46 : Int32)))] [(.int p3), (.int w213)])) _
          refine XS.iconst X193.here hx rfl (hb hby at_360) ?_
          refine iremM X193 hx rfl (hb hby at_361) rfl (by decide) ?_
          refine XS.iadd X193.here hx rfl (hb hby at_362) rfl ?_
          refine XS.istore X193.here hx rfl (hb hby at_363) rfl (l' := #[.val (.int p1), .val (.int p2), .val (.int p3), .val (.int p4), .val (.ref b101), .val (.int (p4 &&& (3 : Int32))), .val (.int (w213 + (p3 % (3 : Int32)))), .val (.int ((p2 &&& (2147483647 : Int32)) % (46 : Int32)))]) rfl ?_
          show Steps _ _ _ (T193.setTop (mkF m 365 #[.val (.int p1), .val (.int p2), .val (.int p3), .val (.int p4), .val (.ref b101), .val (.int (p4 &&& (3 : Int32))), .val (.int (w213 + (p3 % (3 : Int32)))), .val (.int ((p2 &&& (2147483647 : Int32)) % (46 : Int32)))] [])) _
          refine XS.iload X193.here hx rfl (hb hby at_365) rfl ?_
          refine st216 _ ?_
          refine XS.iload X216.here hx rfl (hb hby at_370) rfl ?_
          refine st217 _ ?_
          show Steps _ _ _ (T217.setTop (mkF m 375 #[.val (.int p1), .val (.int p2), .val (.int p3), .val (.int p4), .val (.ref b101), .val (.int (p4 &&& (3 : Int32))), .val (.int (w213 + (p3 % (3 : Int32)))), .val (.int ((p2 &&& (2147483647 : Int32)) % (46 : Int32)))] [(.int (own_f (w213 + (p3 % (3 : Int32))))), (.int (own_f (w213 + (p3 % (3 : Int32)))))])) _
          refine XS.icmpNo X217.here hx rfl (hb hby at_375) rfl (teq (rfl : (own_f (w213 + (p3 % (3 : Int32)))) = (own_f (w213 + (p3 % (3 : Int32)))))).2 ?_
          refine XS.iconst X217.here hx rfl (hb hby at_378) ?_
          refine XS.goto X217.here hx rfl (pc0 := 379) (pc' := 383) rfl (hb hby at_379) (by decide) (by decide) ?_
          show Steps _ _ _ (T217.setTop (mkF m 383 #[.val (.int p1), .val (.int p2), .val (.int p3), .val (.int p4), .val (.ref b101), .val (.int (p4 &&& (3 : Int32))), .val (.int (w213 + (p3 % (3 : Int32)))), .val (.int ((p2 &&& (2147483647 : Int32)) % (46 : Int32)))] [(.int (1 : Int32))])) _
          exact retN X217 hx (t := .boolean) Bd.returns (by simp) (hb hby at_383) hr
        · show Qown_law Z p1 p2 p3 p4 ar ac h0 n0 _ T217.heap _
          rw [e217]
          exact ⟨rfl, N217⟩
set_option maxRecDepth 65536 in
set_option maxHeartbeats 40000000 in
theorem comes_1 {Post : Tables → Env → Array Value → State → Outcome → State → Prop} (hpost : ∀ tb e args s v u, (limb_1_1.after args s (.returned v) u = true ∧ limb_1_2.after args s (.returned v) u = true ∧ True) → FrameEnd s (.returned v) u (Jvm.fieldLocs frame_1_writes args s ++ Jvm.arrayLocs frame_1_arrays args s ++ Jvm.staticLocs frame_1_statics s) 16 192 → Post tb e args s (.returned v) u) :
    ArmFor flags0 classFile x code maxLocals ret World_1 tables_1 room_1 Calls_1 rest_1 Pre_1 Post := by
  intro l hfl _ _ p e ha hc hk s m args below hf hA hF happ hP
  obtain ⟨hcalls, hrest, hpre⟩ := hP
  obtain ⟨-, -, -, hnamed, -, -, -, hat⟩ := (Spec.applies_iff hf).mp happ
  obtain ⟨hg, hn⟩ := and_e (Cond.before_iff.mp (show (Jvm.Cond.and given_1 narrow_1).before args s = true from hpre))
  obtain ⟨gc, gr0⟩ := and_e hg
  obtain ⟨ga0, gr1⟩ := and_e gr0
  obtain ⟨ga1, gr2⟩ := and_e gr1
  obtain ⟨ga2, gr3⟩ := and_e gr2
  have ga3 := gr3
  obtain ⟨w0, w1, w2, w3, rfl⟩ : ∃ w0 w1 w2 w3 : Value, args = #[w0, w1, w2, w3] := by
    have hs : args.size = 4 := by simpa [Cond.value, given_1] using gc
    obtain ⟨L⟩ := args
    match L, hs with
    | [w0, w1, w2, w3], _ => exact ⟨w0, w1, w2, w3, rfl⟩
  have hw := fun d (hd : d ∈ tables_1) => atoms_spec (ws := Jvm.Cond.code x code maxLocals ret :: tables_1) hat d (List.mem_cons_of_mem _ hd)
  have hfit : Fit s := fun {y c} hc i hi => by
    obtain ⟨ha, rfl⟩ := Array.getElem?_eq_some_iff.mp hc
    have q := List.all_eq_true.mp ((Array.all_eq_true_iff_forall_mem.mp hF) _ (Array.getElem_mem ha)) i (List.mem_range.mpr hi)
    simpa [Array.getElem?_eq_getElem hi] using q
  obtain ⟨i0, ei0⟩ := is_v ga0
  obtain rfl : w0 = (.int i0) := Option.some.inj ei0
  obtain ⟨i1, ei1⟩ := is_v ga1
  obtain rfl : w1 = (.int i1) := Option.some.inj ei1
  obtain ⟨i2, ei2⟩ := is_v ga2
  obtain rfl : w2 = (.int i2) := Option.some.inj ei2
  obtain ⟨i3, ei3⟩ := is_v ga3
  obtain rfl : w3 = (.int i3) := Option.some.inj ei3
  obtain ⟨na0, nr0⟩ := and_e hn
  obtain ⟨na1, nr1⟩ := and_e nr0
  obtain ⟨na2, nr2⟩ := and_e nr1
  obtain ⟨na3, nr3⟩ := and_e nr2
  obtain ⟨na4, nr4⟩ := and_e nr3
  obtain ⟨na5, nr5⟩ := and_e nr4
  obtain ⟨na6, nr6⟩ := and_e nr5
  obtain ⟨na7, nr7⟩ := and_e nr6
  have na8 := nr7
  obtain ⟨ar, ac, va, AA, za, la⟩ := own_arr na0 na1
  have SA := Sta.start va (Or.inr ⟨hw _ (List.mem_of_getElem? (i := 14) rfl), hw _ (List.mem_of_getElem? (i := 17) rfl)⟩)
  have haa : s.arrayAt? ar = some ac := AA.fin (Vm.Alike.refl _)
  have hsz : ac.slots.size = (128 : Int32).toNatClampNeg := by rw [← la]; simp only [Int32.toNatClampNeg, len_toInt za]; rfl
  have hsz' : ac.slots.size = 128 := hsz
  have hel : ∀ j : Int32, 0 ≤ j.toInt → j.toInt < 128 → ac.slots[j.toNatClampNeg]? = some (.int (own_a j)) := by
    intro j j0 j1
    have hj := nat_of (j := j) (own_nlt_of (k := 0) rfl j0)
    have hk : j.toNatClampNeg < 128 := by omega
    have hk' : j.toNatClampNeg < ac.slots.size := by omega
    have ht : ∀ k, (Jvm.Term.static "com/example/fascicle/fascicle/io/XmlNames" "ASCII_NAME_START" "[Z").eval (#[.int i0, .int i1, .int i2, .int i3] : Array Value) s none [k] s = some (.ref ar) := fun k => va
    have fin : ∀ v : Int32, ac.slots[j.toNatClampNeg]? = some (.int v) → own_a j = v → ac.slots[j.toNatClampNeg]? = some (.int (own_a j)) := fun v h e => e ▸ h
    rcases (show j.toInt < 65 ∨ (65 ≤ j.toInt ∧ j.toInt ≤ 90) ∨ (91 ≤ j.toInt ∧ j.toInt ≤ 94) ∨ j.toInt = 95 ∨ j.toInt = 96 ∨ (97 ≤ j.toInt ∧ j.toInt ≤ 122) ∨ 123 ≤ j.toInt by omega) with b | b | b | b | b | b | b
    · rcases own_or (own_all va haa na2 _ hk') with h1 | h1
      · have := own_le hk (z := 65) rfl h1; omega
      · exact fin 0 (own_el hk (ht _) AA h1) (by unfold own_a; exact if_neg (by omega))
    · rcases own_or (own_all va haa na3 _ hk') with h1 | h1
      · have := own_lti hk (z := 65) rfl h1; omega
      · rcases own_or h1 with h2 | h2
        · have := own_le hk (z := 91) rfl h2; omega
        · exact fin 1 (own_el hk (ht _) AA h2) (by unfold own_a; exact if_pos (by omega))
    · rcases own_or (own_all va haa na4 _ hk') with h1 | h1
      · have := own_lti hk (z := 91) rfl h1; omega
      · rcases own_or h1 with h2 | h2
        · have := own_le hk (z := 95) rfl h2; omega
        · exact fin 0 (own_el hk (ht _) AA h2) (by unfold own_a; exact if_neg (by omega))
    · obtain rfl : j = (95 : Int32) := own_eq_of (k := 95) rfl b
      exact fin 1 (own_elem va AA na5) (by decide)
    · obtain rfl : j = (96 : Int32) := own_eq_of (k := 96) rfl b
      exact fin 0 (own_elem va AA na6) (by decide)
    · rcases own_or (own_all va haa na7 _ hk') with h1 | h1
      · have := own_lti hk (z := 97) rfl h1; omega
      · rcases own_or h1 with h2 | h2
        · have := own_le hk (z := 123) rfl h2; omega
        · exact fin 1 (own_el hk (ht _) AA h2) (by unfold own_a; exact if_pos (by omega))
    · rcases own_or (own_all va haa na8 _ hk') with h1 | h1
      · have := own_lti hk (z := 123) rfl h1; omega
      · exact fin 0 (own_el hk (ht _) AA h1) (by unfold own_a; exact if_neg (by omega))
  obtain ⟨n, o, h1, h2, h3, _, L, rfl, ⟨rfl, N⟩, hq⟩ := own_law l s _ hw tables_1 i0 i1 i2 i3 ar ac s.heap s.heap.size (Nat.le_refl _) SA AA hsz hel p e ha hc hk s m _ below hf ((Spec.applies_iff_loose hf).mp happ).1 ⟨rfl, State.Warmed39.refl s, rfl⟩ trivial
  refine ⟨n, _, h1, h2, h3, hpost _ _ _ _ _ _ ⟨Cond.after_iff.mpr rfl, Cond.after_iff.mpr (eq_i res_at (Term.int_eval (1)) rfl), trivial⟩ ⟨hq.1, hq.2.1, (hq.2.2.sift fun y hy => Or.inr (N y hy)).mono (by decide) (by decide)⟩⟩
theorem main_1_1 : Claimed_1_1 := comes_1 fun _ _ _ _ _ _ h hF => ⟨h.1, hF⟩
theorem main_1_2 : Claimed_1_2 := comes_1 fun _ _ _ _ _ _ h hF => ⟨h.2.1, hF⟩
end Jvm.Pilot.@@N@@
namespace Jvm.Pilot.@@N@@
open Jvm Jvm.ClassFile Sem Op Lib Jvm.Free Jvm.Stand Jvm.Pilot.@@N@@.Jvm.D
/-! MADE BY PROGRAM (witnessworld.py) out of the Statement's table words and the real class files: 11 classes; the members and pool entries that the words name. The judged class is class 1, her method 1. -/
namespace start1
open Jvm.ClassFile
def u (s : String) : CpInfo := .utf8 (stringToUtf16 s)
/-- a pool by its gaps: so many unusable entries, then the entry; so many at the end -/
def gap : Nat → List CpInfo → List CpInfo
  | 0, r => r
  | n + 1, r => .unusable :: gap n r
def poolList (es : List (Nat × CpInfo)) (last : Nat) : List CpInfo := es.foldr (fun e r => gap e.1 (e.2 :: r)) (gap last [])
def pool (es : List (Nat × CpInfo)) (last : Nat) : Array CpInfo := ⟨poolList es last⟩
def fileOf (pool : Array CpInfo) (this : Nat) (attrs : Array Attribute := #[]) (ms : Array MethodInfo := #[]) (fl : Nat := 33) (sup : Nat := 0) (ifs : Array Nat := #[]) (fds : Array FieldInfo := #[]) : ClassFile where
  minorVersion := 0
  majorVersion := 65
  constantPool := pool
  accessFlags := fl
  thisClass := this
  superClass := sup
  interfaces := ifs
  fields := fds
  methods := ms
  attributes := attrs
def plain (name : String) (sup : Option ClassId) : Class where
  name := name
  kind := .ordinary
  loader := none
  accessFlags := 33
  super := sup
  interfaces := #[]
  cf := none
  fields := #[]
  methods := #[]
  instanceTypes := #[]
  staticTypes := #[]
  resolved := #[]
  callSites := []
  init := .initialized
  statics := none
  mirror := none

def pool0 : Array CpInfo := pool [(5, u "<init>"), (0, u "()V"), (1, .class_ 10), (1, u "java/lang/Object")] 113

def k0m0 : Method := { name := "<init>", desc := "()V", sig := { parameters := [], returnType := none }, accessFlags := 1, code := none }
/-- java/lang/Object -/
def k0 : Class := { plain "java/lang/Object" none with
  accessFlags := 33
  interfaces := #[]
  cf := some (fileOf pool0 8 #[] #[{ accessFlags := 1, nameIndex := 5, descriptorIndex := 6, attributes := #[] }] 33 0 #[] #[])
  fields := #[]
  methods := #[k0m0]
  instanceTypes := #[]
  staticTypes := #[]
  resolved := Array.replicate 124 none
  statics := none }

def pool1 : Array CpInfo := pool [(2, .class_ 4), (1, u "java/lang/Object"), (0, u "<init>"), (0, u "()V"), (0, .integer 55295), (0, .integer 57344), (0, .integer 63744), (0, .integer 64975), (0, .integer 65008), (0, .integer 65533), (0, .integer 65536), (0, .integer 983039), (0, .integer 1114111), (2, .integer 2147483648), (0, .integer 2147483647), (0, .integer 65535), (0, .methodref 22 23), (0, .class_ 24), (0, .nameAndType 25 26), (0, u "com/example/fascicle/fascicle/io/XmlNames"), (0, u "isNameStart"), (0, u "(I)Z"), (0, .methodref 28 29), (0, .class_ 30), (0, .nameAndType 31 26), (0, u "com/example/fascicle/fascicle/io/XmlNamesIsNameStartPinLaw"), (0, u "ref"), (2, u "law"), (0, u "(IIII)Z")] 5

def k1m0 : Method := { name := "<init>", desc := "()V", sig := { parameters := [], returnType := none }, accessFlags := 2, code := none }
def k1c1 : Code := { maxStack := 4, maxLocals := 8, code := code, exceptionTable := #[], attributes := #[] }
def k1m1 : Method := { name := "law", desc := "(IIII)Z", sig := { parameters := [.int, .int, .int, .int], returnType := some .boolean }, accessFlags := 9, code := some k1c1 }
def k1c2 : Code := { maxStack := 2, maxLocals := 1, code := method_3_code, exceptionTable := #[], attributes := #[] }
def k1m2 : Method := { name := "ref", desc := "(I)Z", sig := { parameters := [.int], returnType := some .boolean }, accessFlags := 10, code := some k1c2 }
/-- com/example/fascicle/fascicle/io/XmlNamesIsNameStartPinLaw -/
def k1 : Class := { plain "com/example/fascicle/fascicle/io/XmlNamesIsNameStartPinLaw" (some 0) with
  accessFlags := 49
  interfaces := #[]
  cf := some (fileOf pool1 28 #[] #[{ accessFlags := 2, nameIndex := 5, descriptorIndex := 6, attributes := #[] }, { accessFlags := 9, nameIndex := 34, descriptorIndex := 35, attributes := #[] }, { accessFlags := 10, nameIndex := 31, descriptorIndex := 26, attributes := #[] }] 49 2 #[] #[])
  fields := #[]
  methods := #[k1m0, k1m1, k1m2]
  instanceTypes := #[]
  staticTypes := #[]
  resolved := Array.replicate 41 none
  statics := none }

def pool2 : Array CpInfo := pool [(2, .class_ 4), (1, u "java/lang/Object"), (0, u "<init>"), (0, u "()V"), (12, .integer 55295), (1, .integer 65533), (0, .integer 65536), (1, .fieldref 25 26), (0, .class_ 27), (0, .nameAndType 28 29), (0, u "com/example/fascicle/fascicle/io/XmlNames"), (0, u "ASCII_NAME_START"), (0, u "[Z"), (0, .integer 63744), (0, .integer 64975), (0, .integer 65008), (0, .integer 983039), (2, u "ASCII_NAME_PART"), (2, u "isNameStart"), (0, u "(I)Z")] 39

def k2m0 : Method := { name := "<init>", desc := "()V", sig := { parameters := [], returnType := none }, accessFlags := 2, code := none }
def k2c1 : Code := { maxStack := 2, maxLocals := 1, code := prog_55_method_5_code, exceptionTable := #[], attributes := #[] }
def k2m1 : Method := { name := "isNameStart", desc := "(I)Z", sig := { parameters := [.int], returnType := some .boolean }, accessFlags := 9, code := some k2c1 }
/-- com/example/fascicle/fascicle/io/XmlNames -/
def k2 : Class := { plain "com/example/fascicle/fascicle/io/XmlNames" (some 0) with
  accessFlags := 49
  interfaces := #[]
  cf := some (fileOf pool2 25 #[] #[{ accessFlags := 2, nameIndex := 5, descriptorIndex := 6, attributes := #[] }, { accessFlags := 9, nameIndex := 39, descriptorIndex := 40, attributes := #[] }] 49 2 #[] #[{ accessFlags := 26, nameIndex := 28, descriptorIndex := 29, attributes := #[] }, { accessFlags := 26, nameIndex := 36, descriptorIndex := 29, attributes := #[] }])
  fields := #[{ name := "ASCII_NAME_START", type := (.array .boolean), accessFlags := 26, slot := 0, constantValue := 0 }, { name := "ASCII_NAME_PART", type := (.array .boolean), accessFlags := 26, slot := 1, constantValue := 0 }]
  methods := #[k2m0, k2m1]
  instanceTypes := #[]
  staticTypes := #[(.array .boolean), (.array .boolean)]
  resolved := Array.replicate 80 none
  statics := some 0 }

def pool3 : Array CpInfo := pool [(1, u "java/lang/Cloneable"), (0, .class_ 1), (0, u "java/lang/Object"), (0, .class_ 3)] 3

/-- java/lang/Cloneable -/
def k3 : Class := { plain "java/lang/Cloneable" (some 0) with
  accessFlags := 1537
  interfaces := #[]
  cf := some (fileOf pool3 2 #[] #[] 1537 4 #[] #[])
  fields := #[]
  methods := #[]
  instanceTypes := #[]
  staticTypes := #[]
  resolved := Array.replicate 8 none
  statics := none }

def pool4 : Array CpInfo := pool [(1, u "java/io/Serializable"), (0, .class_ 1), (0, u "java/lang/Object"), (0, .class_ 3)] 3

/-- java/io/Serializable -/
def k4 : Class := { plain "java/io/Serializable" (some 0) with
  accessFlags := 1537
  interfaces := #[]
  cf := some (fileOf pool4 2 #[] #[] 1537 4 #[] #[])
  fields := #[]
  methods := #[]
  instanceTypes := #[]
  staticTypes := #[]
  resolved := Array.replicate 8 none
  statics := none }

/-- the primitive boolean -/
def k5 : Class := { plain "boolean" none with kind := .primitive 'Z', accessFlags := 0x411 }
/-- [Z -/
def k6 : Class := { plain "[Z" (some 0) with kind := .array 5 .boolean, interfaces := #[3, 4], accessFlags := 1041 }

/-- the primitive byte -/
def k7 : Class := { plain "byte" none with kind := .primitive 'B', accessFlags := 0x411 }
/-- [B -/
def k8 : Class := { plain "[B" (some 0) with kind := .array 7 .byte, interfaces := #[3, 4], accessFlags := 1041 }

/-- the primitive int -/
def k9 : Class := { plain "int" none with kind := .primitive 'I', accessFlags := 0x411 }
/-- [I -/
def k10 : Class := { plain "[I" (some 0) with kind := .array 9 .int, interfaces := #[3, 4], accessFlags := 1041 }

def heap : Heap := #[{ cls := 2, slots := #[.ref 1, .null], vm := .statics 2 },
  { cls := 6, slots := #[.int 0, .int 0, .int 0, .int 0, .int 0, .int 0, .int 0, .int 0, .int 0, .int 0, .int 0, .int 0, .int 0, .int 0, .int 0, .int 0, .int 0, .int 0, .int 0, .int 0, .int 0, .int 0, .int 0, .int 0, .int 0, .int 0, .int 0, .int 0, .int 0, .int 0, .int 0, .int 0, .int 0, .int 0, .int 0, .int 0, .int 0, .int 0, .int 0, .int 0, .int 0, .int 0, .int 0, .int 0, .int 0, .int 0, .int 0, .int 0, .int 0, .int 0, .int 0, .int 0, .int 0, .int 0, .int 0, .int 0, .int 0, .int 0, .int 0, .int 0, .int 0, .int 0, .int 0, .int 0, .int 0, .int 1, .int 1, .int 1, .int 1, .int 1, .int 1, .int 1, .int 1, .int 1, .int 1, .int 1, .int 1, .int 1, .int 1, .int 1, .int 1, .int 1, .int 1, .int 1, .int 1, .int 1, .int 1, .int 1, .int 1, .int 1, .int 1, .int 0, .int 0, .int 0, .int 0, .int 1, .int 0, .int 1, .int 1, .int 1, .int 1, .int 1, .int 1, .int 1, .int 1, .int 1, .int 1, .int 1, .int 1, .int 1, .int 1, .int 1, .int 1, .int 1, .int 1, .int 1, .int 1, .int 1, .int 1, .int 1, .int 1, .int 1, .int 1, .int 0, .int 0, .int 0, .int 0, .int 0], vm := .none }]
def classes : Array Class := #[k0, k1, k2, k3, k4, k5, k6, k7, k8, k9, k10]
def interned : List (Array UInt16 × Addr) := []
def slotsUsed : Nat := 130
def theMethod : MethodId := ⟨1, 1⟩
def args0 : Array Value := #[.int 65, .int 3, .int 1, .int 3]
def aboutOver (below : List Frame) : State where
  vm := { classes := classes, interned := interned.toArray }
  heap := heap
  slotsUsed := slotsUsed
  threads := #[{ frames := .invoking theMethod args0 :: below }]
def below0 : List Frame := [.native { method := ⟨0, 0⟩, args := #[] }]
def about1 : State := aboutOver below0
def p0 : Program := .bare "" "" ""
def e0 : Env := launch0.env 0 0 0
theorem w_frames : about1.frames = Frame.invoking theMethod args0 :: below0 := rfl
set_option maxRecDepth 65536 in
theorem w_args : argsFit about1.vm theMethod args0 = true := by decide +kernel
set_option maxRecDepth 65536 in
theorem w_heap : heapFits about1 = true := by decide +kernel
set_option maxRecDepth 65536 in
theorem w_runnable : about1.curStatus? = some .runnable := by decide +kernel
set_option maxRecDepth 65536 in
theorem w_alone : about1.alone = true := by decide +kernel
set_option maxRecDepth 65536 in
theorem w_named : about1.methodNamed? x = some theMethod := by decide +kernel
set_option maxRecDepth 65536 in
theorem w_hears : about1.hears theMethod below0 = true := by decide +kernel
set_option maxRecDepth 65536 in
theorem w_ripe : about1.ripe theMethod args0 below0 = true := by decide +kernel
theorem w_running : about1.status = .running := rfl
set_option maxRecDepth 65536 in
theorem w_room : about1.hasRoom e0.platform room_1 = true :=
  launch0.hasRoom_least _ room_1 (by decide +kernel) (by decide +kernel) (by decide +kernel) (by decide +kernel) (by decide +kernel) (by decide +kernel)
theorem allAtoms_all (ts : List Jvm.Cond) (a : Array Jvm.Value) (st : Jvm.State) : (allAtoms ts).before a st = ts.all (fun c => c.before a st) := by
  induction ts with
  | nil => rfl
  | cons c t ih =>
    show (Jvm.Cond.and c (allAtoms t)).before a st = _
    rw [Jvm.Cond.before_and, ih, List.all_cons]
def words1 : List Jvm.Cond := Jvm.Cond.code x code maxLocals ret :: tables_1
/-- a 'code' word, met by the world's own term for the bytes: nothing is compared byte by byte -/
theorem code_word {y : MethodName} {bytes : ByteArray} {mx : Nat} {rt : Option FieldType} {a : Array Value} {s : State} {m : MethodId} {meth : Method} {c : Code} (h1 : s.methodNamed? y = some m) (h2 : s.vm.method? m = some meth) (h3 : meth.code = some c) (h4 : c.code = bytes)
    (h5 : (c.maxLocals == mx && c.exceptionTable.isEmpty && decide (c.maxStack ≤ mostOperands) && decide (meth.sig.returnType = rt) && !meth.locks && decide (parseMethodDescriptor y.desc = some meth.sig)) = true) : (Jvm.Cond.code y bytes mx rt).before a s = true := by
  simp only [Bool.and_eq_true, beq_iff_eq, Bool.not_eq_true', decide_eq_true_eq] at h5
  obtain ⟨⟨⟨⟨⟨g1, g2⟩, g3⟩, g4⟩, g5⟩, g6⟩ := h5
  simp [Cond.before, Cond.holds, Cond.value, h1, h2, h3, h4, g1, g2, g3, g4, g5, g6]
def isCode : Jvm.Cond → Bool
  | .code _ _ _ _ => true
  | _ => false
theorem all_split {L : List Jvm.Cond} {P : Jvm.Cond → Bool} (h1 : L.all (fun c => isCode c || P c) = true) (h2 : ∀ c ∈ L.filter isCode, P c = true) : L.all P = true := by
  refine List.all_eq_true.mpr fun c hc => ?_
  have h := List.all_eq_true.mp h1 c hc
  rcases Bool.eq_false_or_eq_true (isCode c) with hi | hi
  · exact h2 c (List.mem_filter.mpr ⟨hc, hi⟩)
  · simpa [hi] using h
set_option maxRecDepth 65536 in
theorem w_c0 : (Jvm.Cond.code x code maxLocals ret).before args0 about1 = true := code_word (m := ⟨1, 1⟩) (meth := k1m1) (c := k1c1) (by decide +kernel) rfl rfl rfl (by decide +kernel)
set_option maxRecDepth 65536 in
theorem w_c1 : (Jvm.Cond.code ({ cls := "com/example/fascicle/fascicle/io/XmlNames", name := "isNameStart", desc := "(I)Z" } : Jvm.MethodName) prog_55_method_5_code (1 : Nat) (Option.some Jvm.ClassFile.FieldType.boolean)).before args0 about1 = true := code_word (m := ⟨2, 1⟩) (meth := k2m1) (c := k2c1) (by decide +kernel) rfl rfl rfl (by decide +kernel)
set_option maxRecDepth 65536 in
theorem w_c2 : (Jvm.Cond.code ({ cls := "com/example/fascicle/fascicle/io/XmlNamesIsNameStartPinLaw", name := "ref", desc := "(I)Z" } : Jvm.MethodName) method_3_code (1 : Nat) (Option.some Jvm.ClassFile.FieldType.boolean)).before args0 about1 = true := code_word (m := ⟨1, 2⟩) (meth := k1m2) (c := k1c2) (by decide +kernel) rfl rfl rfl (by decide +kernel)
def codes1 : List Jvm.Cond := [Jvm.Cond.code x code maxLocals ret, Jvm.Cond.code ({ cls := "com/example/fascicle/fascicle/io/XmlNames", name := "isNameStart", desc := "(I)Z" } : Jvm.MethodName) prog_55_method_5_code (1 : Nat) (Option.some Jvm.ClassFile.FieldType.boolean), Jvm.Cond.code ({ cls := "com/example/fascicle/fascicle/io/XmlNamesIsNameStartPinLaw", name := "ref", desc := "(I)Z" } : Jvm.MethodName) method_3_code (1 : Nat) (Option.some Jvm.ClassFile.FieldType.boolean)]
set_option maxRecDepth 65536 in
theorem codes_eq : words1.filter isCode = codes1 := rfl
theorem w_codes : ∀ c ∈ words1.filter isCode, c.before args0 about1 = true := by
  rw [codes_eq]
  intro c hc
  simp only [codes1, List.mem_cons, List.not_mem_nil, or_false] at hc
  rcases hc with rfl | rfl | rfl
  · exact w_c0
  · exact w_c1
  · exact w_c2
set_option maxRecDepth 65536 in
theorem w_t1 : (words1.take 24).all (fun c => isCode c || c.before args0 about1) = true := by decide +kernel
set_option maxRecDepth 65536 in
theorem w_t2 : (words1.drop 24).all (fun c => isCode c || c.before args0 about1) = true := by decide +kernel
theorem w_tables : (allAtoms (Jvm.Cond.code x code maxLocals ret :: tables_1)).before args0 about1 = true := by
  rw [allAtoms_all]
  show words1.all (fun c => c.before args0 about1) = true
  refine all_split ?_ w_codes
  rw [← List.take_append_drop 24 words1, List.all_append, w_t1, w_t2]
  rfl
set_option maxRecDepth 65536 in
theorem w_case : (Jvm.Cond.and given_1 narrow_1).before args0 about1 = true := by decide +kernel
theorem w_applies : (headSpec (Jvm.Cond.code x code maxLocals ret :: tables_1) room_1).applies x e0.platform about1 = true :=
  (Spec.applies_iff w_frames).mpr ⟨w_running, w_runnable, w_alone, w_named, w_hears, w_ripe, w_room, w_tables⟩
theorem atStart : AtStart classFile x code maxLocals ret World_1 tables_1 room_1 Calls_1 rest_1 Pre_1 launch0 p0 e0 about1 theMethod args0 below0 :=
  ⟨lists_1, trivial, launch0.admits_env _ _ _, launch0.least_env, fairChoices_fair.cas, fairChoices_fair.clock, w_frames, w_args, w_heap, w_applies, trivial, trivial, w_case⟩
end start1
theorem witness_1 : WitnessClaimed_1 := ⟨start1.p0, start1.e0, start1.about1, start1.theMethod, start1.args0, start1.below0, start1.atStart⟩
end Jvm.Pilot.@@N@@
