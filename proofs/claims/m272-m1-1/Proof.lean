import JvmDerived
import JvmDerived.Pilot.@@N@@Statement
import JvmDerived.Pilot.@@N@@Code
set_option linter.unusedVariables false
set_option linter.unusedSimpArgs false
namespace Jvm.RoadKit
open Sem ClassFile Op Lib Jvm.Stand Jvm.Free Jvm.LawKit
section New
variable {p : Program} {l : Launch} {e : Env} {R : Room} {s : State} {m : MethodId} {args : Array Value} {below : List Frame} {meth : Method} {c : Code} {T : State} {locs : List Loc} {cells slots : Nat}
theorem retI (X : Stand p l e R s m args below meth c T locs cells slots) (hx : p.tables.exec = Jvm.exec) {pc : Nat} {Ls : Array Slot} {z : Int32} {rest : List Value} (hret : meth.sig.returnType = some .int) (hd : decode c.code pc = .ok (.ireturn, 1)) {fs : List Frame}
    (hl : ∀ (f : JFrame) (acts : List Action), f.method = m → f.locked = none → f.entered = [] → (doReturn e (T.setTop f) acts (some (.int z))).1 = T.setFrames fs) : Steps p.tables e below (T.setTop (mkF m pc Ls (.int z :: rest))) (T.setFrames fs) := by
  have hm' : T.vm.method? m = some meth := X.method'
  have hn : narrow .int (.int z) = .int z := rfl
  show Steps p.tables e below (T.setTop { method := m, pc := pc, locals := Ls, stack := _ :: rest, locked := none }) _
  jvm_step X.here [X.here.top, hx, hd, hm', hret, hn]
  first | (intro acts; rw [hl _ acts rfl rfl rfl]) | rw [hl _ _ rfl rfl rfl]
  exact Steps.refl _
end New
end Jvm.RoadKit
namespace Jvm.Pilot.@@N@@
open Jvm Jvm.ClassFile Sem Op Lib Jvm.Free Jvm.Stand Jvm.LawKit Jvm.RoadKit Bundle Jvm.Pilot.@@N@@.Jvm.D
abbrev own_m0 : MethodName := ⟨"java/util/AbstractCollection", "<init>", "()V"⟩
abbrev own_m1 : MethodName := ⟨"java/lang/Record", "<init>", "()V"⟩
abbrev own_m2 : MethodName := ⟨"java/util/AbstractList", "<init>", "()V"⟩
abbrev own_m3 : MethodName := ⟨"java/util/ArrayList", "<init>", "()V"⟩
abbrev own_m4 : MethodName := ⟨"java/lang/StringLatin1", "canEncode", "(C)Z"⟩
abbrev own_m5 : MethodName := ⟨"java/lang/StringLatin1", "toBytes", "(C)[B"⟩
abbrev own_m6 : MethodName := ⟨"java/lang/String", "<init>", "([BB)V"⟩
abbrev own_m7 : MethodName := ⟨"java/lang/String", "valueOf", "(C)Ljava/lang/String;"⟩
abbrev own_m8 : MethodName := ⟨"java/lang/Math", "max", "(II)I"⟩
abbrev own_m9 : MethodName := ⟨"java/util/ArrayList", "grow", "(I)[Ljava/lang/Object;"⟩
abbrev own_m10 : MethodName := ⟨"java/util/ArrayList", "grow", "()[Ljava/lang/Object;"⟩
abbrev own_m11 : MethodName := ⟨"java/util/ArrayList", "add", "(Ljava/lang/Object;[Ljava/lang/Object;I)V"⟩
abbrev own_m12 : MethodName := ⟨"java/util/ArrayList", "add", "(Ljava/lang/Object;)Z"⟩
abbrev own_m13 : MethodName := ⟨"com/example/arpent/arpent/geom/Point", "<init>", "(Ljava/util/List;DD)V"⟩
abbrev own_m14 : MethodName := ⟨"com/example/arpent/arpent/geom/Point", "samePlace", "(Lcom/example/arpent/arpent/geom/Point;)Z"⟩
abbrev own_m15 : MethodName := ⟨"java/util/List", "add", "(Ljava/lang/Object;)Z"⟩
theorem own_w0 {Z : State} {a0 : Array Value} (hw : ∀ d ∈ tables_1, d.before a0 Z = true) : (Jvm.Cond.classLink "com/example/arpent/arpent/geom/PointSamePlacePinLaw" (7 : Nat) "java/util/ArrayList").before a0 Z = true := hw _ (List.mem_of_getElem? (i := 0) rfl)
theorem own_w1 {Z : State} {a0 : Array Value} (hw : ∀ d ∈ tables_1, d.before a0 Z = true) : (Jvm.Cond.instantiable "java/util/ArrayList" (3 : Nat)).before a0 Z = true := hw _ (List.mem_of_getElem? (i := 1) rfl)
theorem own_w2 {Z : State} {a0 : Array Value} (hw : ∀ d ∈ tables_1, d.before a0 Z = true) : (Jvm.Cond.initialized "java/util/ArrayList").before a0 Z = true := hw _ (List.mem_of_getElem? (i := 2) rfl)
theorem own_w3 {Z : State} {a0 : Array Value} (hw : ∀ d ∈ tables_1, d.before a0 Z = true) : (Jvm.Cond.methodLink "com/example/arpent/arpent/geom/PointSamePlacePinLaw" (9 : Nat) ({ cls := "java/util/ArrayList", name := "<init>", desc := "()V" } : Jvm.MethodName)).before a0 Z = true := hw _ (List.mem_of_getElem? (i := 3) rfl)
theorem own_w4 {Z : State} {a0 : Array Value} (hw : ∀ d ∈ tables_1, d.before a0 Z = true) : (Jvm.Cond.instanceMethod ({ cls := "java/util/ArrayList", name := "<init>", desc := "()V" } : Jvm.MethodName)).before a0 Z = true := hw _ (List.mem_of_getElem? (i := 4) rfl)
theorem own_w5 {Z : State} {a0 : Array Value} (hw : ∀ d ∈ tables_1, d.before a0 Z = true) : (Jvm.Cond.code ({ cls := "java/util/ArrayList", name := "<init>", desc := "()V" } : Jvm.MethodName) jdk_38_method_2_code (1 : Nat) (Option.none : Option Jvm.ClassFile.FieldType)).before a0 Z = true := hw _ (List.mem_of_getElem? (i := 5) rfl)
theorem own_w6 {Z : State} {a0 : Array Value} (hw : ∀ d ∈ tables_1, d.before a0 Z = true) : (Jvm.Cond.methodLink "java/util/ArrayList" (1 : Nat) ({ cls := "java/util/AbstractList", name := "<init>", desc := "()V" } : Jvm.MethodName)).before a0 Z = true := hw _ (List.mem_of_getElem? (i := 6) rfl)
theorem own_w7 {Z : State} {a0 : Array Value} (hw : ∀ d ∈ tables_1, d.before a0 Z = true) : (Jvm.Cond.instanceMethod ({ cls := "java/util/AbstractList", name := "<init>", desc := "()V" } : Jvm.MethodName)).before a0 Z = true := hw _ (List.mem_of_getElem? (i := 7) rfl)
theorem own_w10 {Z : State} {a0 : Array Value} (hw : ∀ d ∈ tables_1, d.before a0 Z = true) : (Jvm.Cond.initialized "java/util/AbstractList").before a0 Z = true := hw _ (List.mem_of_getElem? (i := 10) rfl)
theorem own_w11 {Z : State} {a0 : Array Value} (hw : ∀ d ∈ tables_1, d.before a0 Z = true) : (Jvm.Cond.code ({ cls := "java/util/AbstractList", name := "<init>", desc := "()V" } : Jvm.MethodName) jdk_39_method_1_code (1 : Nat) (Option.none : Option Jvm.ClassFile.FieldType)).before a0 Z = true := hw _ (List.mem_of_getElem? (i := 11) rfl)
theorem own_w12 {Z : State} {a0 : Array Value} (hw : ∀ d ∈ tables_1, d.before a0 Z = true) : (Jvm.Cond.methodLink "java/util/AbstractList" (1 : Nat) ({ cls := "java/util/AbstractCollection", name := "<init>", desc := "()V" } : Jvm.MethodName)).before a0 Z = true := hw _ (List.mem_of_getElem? (i := 12) rfl)
theorem own_w13 {Z : State} {a0 : Array Value} (hw : ∀ d ∈ tables_1, d.before a0 Z = true) : (Jvm.Cond.instanceMethod ({ cls := "java/util/AbstractCollection", name := "<init>", desc := "()V" } : Jvm.MethodName)).before a0 Z = true := hw _ (List.mem_of_getElem? (i := 13) rfl)
theorem own_w16 {Z : State} {a0 : Array Value} (hw : ∀ d ∈ tables_1, d.before a0 Z = true) : (Jvm.Cond.initialized "java/util/AbstractCollection").before a0 Z = true := hw _ (List.mem_of_getElem? (i := 16) rfl)
theorem own_w17 {Z : State} {a0 : Array Value} (hw : ∀ d ∈ tables_1, d.before a0 Z = true) : (Jvm.Cond.code ({ cls := "java/util/AbstractCollection", name := "<init>", desc := "()V" } : Jvm.MethodName) jdk_22_method_1_code (1 : Nat) (Option.none : Option Jvm.ClassFile.FieldType)).before a0 Z = true := hw _ (List.mem_of_getElem? (i := 17) rfl)
theorem own_w18 {Z : State} {a0 : Array Value} (hw : ∀ d ∈ tables_1, d.before a0 Z = true) : (Jvm.Cond.methodLink "java/util/AbstractCollection" (1 : Nat) ({ cls := "java/lang/Object", name := "<init>", desc := "()V" } : Jvm.MethodName)).before a0 Z = true := hw _ (List.mem_of_getElem? (i := 18) rfl)
theorem own_w19 {Z : State} {a0 : Array Value} (hw : ∀ d ∈ tables_1, d.before a0 Z = true) : (Jvm.Cond.instanceMethod ({ cls := "java/lang/Object", name := "<init>", desc := "()V" } : Jvm.MethodName)).before a0 Z = true := hw _ (List.mem_of_getElem? (i := 19) rfl)
theorem own_w20 {Z : State} {a0 : Array Value} (hw : ∀ d ∈ tables_1, d.before a0 Z = true) : (Jvm.Cond.code ({ cls := "java/lang/Object", name := "<init>", desc := "()V" } : Jvm.MethodName) object_method_1_code (1 : Nat) (Option.none : Option Jvm.ClassFile.FieldType)).before a0 Z = true := hw _ (List.mem_of_getElem? (i := 20) rfl)
theorem own_w21 {Z : State} {a0 : Array Value} (hw : ∀ d ∈ tables_1, d.before a0 Z = true) : (Jvm.Cond.fieldLink "java/util/AbstractList" (7 : Nat) "java/util/AbstractList" "modCount" "I").before a0 Z = true := hw _ (List.mem_of_getElem? (i := 21) rfl)
theorem own_w22 {Z : State} {a0 : Array Value} (hw : ∀ d ∈ tables_1, d.before a0 Z = true) : (Jvm.Cond.lays "java/util/ArrayList" "java/util/AbstractList" "modCount" "I").before a0 Z = true := hw _ (List.mem_of_getElem? (i := 22) rfl)
theorem own_w23 {Z : State} {a0 : Array Value} (hw : ∀ d ∈ tables_1, d.before a0 Z = true) : (Jvm.Cond.fieldLink "java/util/ArrayList" (39 : Nat) "java/util/ArrayList" "DEFAULTCAPACITY_EMPTY_ELEMENTDATA" "[Ljava/lang/Object;").before a0 Z = true := hw _ (List.mem_of_getElem? (i := 23) rfl)
theorem own_w24 {Z : State} {a0 : Array Value} (hw : ∀ d ∈ tables_1, d.before a0 Z = true) : (Jvm.Cond.fieldLink "java/util/ArrayList" (9 : Nat) "java/util/ArrayList" "elementData" "[Ljava/lang/Object;").before a0 Z = true := hw _ (List.mem_of_getElem? (i := 24) rfl)
theorem own_w25 {Z : State} {a0 : Array Value} (hw : ∀ d ∈ tables_1, d.before a0 Z = true) : (Jvm.Cond.lays "java/util/ArrayList" "java/util/ArrayList" "elementData" "[Ljava/lang/Object;").before a0 Z = true := hw _ (List.mem_of_getElem? (i := 25) rfl)
theorem own_w26 {Z : State} {a0 : Array Value} (hw : ∀ d ∈ tables_1, d.before a0 Z = true) : (Jvm.Cond.methodLink "com/example/arpent/arpent/geom/PointSamePlacePinLaw" (10 : Nat) ({ cls := "java/lang/String", name := "valueOf", desc := "(C)Ljava/lang/String;" } : Jvm.MethodName)).before a0 Z = true := hw _ (List.mem_of_getElem? (i := 26) rfl)
theorem own_w27 {Z : State} {a0 : Array Value} (hw : ∀ d ∈ tables_1, d.before a0 Z = true) : (Jvm.Cond.static ({ cls := "java/lang/String", name := "valueOf", desc := "(C)Ljava/lang/String;" } : Jvm.MethodName)).before a0 Z = true := hw _ (List.mem_of_getElem? (i := 27) rfl)
theorem own_w28 {Z : State} {a0 : Array Value} (hw : ∀ d ∈ tables_1, d.before a0 Z = true) : (Jvm.Cond.initialized "java/lang/String").before a0 Z = true := hw _ (List.mem_of_getElem? (i := 28) rfl)
theorem own_w29 {Z : State} {a0 : Array Value} (hw : ∀ d ∈ tables_1, d.before a0 Z = true) : (Jvm.Cond.code ({ cls := "java/lang/String", name := "valueOf", desc := "(C)Ljava/lang/String;" } : Jvm.MethodName) jdk_42_method_139_code (1 : Nat) (Option.some (Jvm.ClassFile.FieldType.object "java/lang/String"))).before a0 Z = true := hw _ (List.mem_of_getElem? (i := 29) rfl)
theorem own_w30 {Z : State} {a0 : Array Value} (hw : ∀ d ∈ tables_1, d.before a0 Z = true) : (Jvm.Cond.fieldLink "java/lang/String" (38 : Nat) "java/lang/String" "COMPACT_STRINGS" "Z").before a0 Z = true := hw _ (List.mem_of_getElem? (i := 30) rfl)
theorem own_w31 {Z : State} {a0 : Array Value} (hw : ∀ d ∈ tables_1, d.before a0 Z = true) : (Jvm.Cond.methodLink "java/lang/String" (1015 : Nat) ({ cls := "java/lang/StringLatin1", name := "canEncode", desc := "(C)Z" } : Jvm.MethodName)).before a0 Z = true := hw _ (List.mem_of_getElem? (i := 31) rfl)
theorem own_w32 {Z : State} {a0 : Array Value} (hw : ∀ d ∈ tables_1, d.before a0 Z = true) : (Jvm.Cond.static ({ cls := "java/lang/StringLatin1", name := "canEncode", desc := "(C)Z" } : Jvm.MethodName)).before a0 Z = true := hw _ (List.mem_of_getElem? (i := 32) rfl)
theorem own_w33 {Z : State} {a0 : Array Value} (hw : ∀ d ∈ tables_1, d.before a0 Z = true) : (Jvm.Cond.initialized "java/lang/StringLatin1").before a0 Z = true := hw _ (List.mem_of_getElem? (i := 33) rfl)
theorem own_w34 {Z : State} {a0 : Array Value} (hw : ∀ d ∈ tables_1, d.before a0 Z = true) : (Jvm.Cond.code ({ cls := "java/lang/StringLatin1", name := "canEncode", desc := "(C)Z" } : Jvm.MethodName) jdk_43_method_3_code (1 : Nat) (Option.some Jvm.ClassFile.FieldType.boolean)).before a0 Z = true := hw _ (List.mem_of_getElem? (i := 34) rfl)
theorem own_w35 {Z : State} {a0 : Array Value} (hw : ∀ d ∈ tables_1, d.before a0 Z = true) : (Jvm.Cond.classLink "java/lang/String" (10 : Nat) "java/lang/String").before a0 Z = true := hw _ (List.mem_of_getElem? (i := 35) rfl)
theorem own_w36 {Z : State} {a0 : Array Value} (hw : ∀ d ∈ tables_1, d.before a0 Z = true) : (Jvm.Cond.instantiable "java/lang/String" (4 : Nat)).before a0 Z = true := hw _ (List.mem_of_getElem? (i := 36) rfl)
theorem own_w37 {Z : State} {a0 : Array Value} (hw : ∀ d ∈ tables_1, d.before a0 Z = true) : (Jvm.Cond.methodLink "java/lang/String" (1018 : Nat) ({ cls := "java/lang/StringLatin1", name := "toBytes", desc := "(C)[B" } : Jvm.MethodName)).before a0 Z = true := hw _ (List.mem_of_getElem? (i := 37) rfl)
theorem own_w38 {Z : State} {a0 : Array Value} (hw : ∀ d ∈ tables_1, d.before a0 Z = true) : (Jvm.Cond.static ({ cls := "java/lang/StringLatin1", name := "toBytes", desc := "(C)[B" } : Jvm.MethodName)).before a0 Z = true := hw _ (List.mem_of_getElem? (i := 38) rfl)
theorem own_w39 {Z : State} {a0 : Array Value} (hw : ∀ d ∈ tables_1, d.before a0 Z = true) : (Jvm.Cond.code ({ cls := "java/lang/StringLatin1", name := "toBytes", desc := "(C)[B" } : Jvm.MethodName) jdk_43_method_46_code (1 : Nat) (Option.some (Jvm.ClassFile.FieldType.array Jvm.ClassFile.FieldType.byte))).before a0 Z = true := hw _ (List.mem_of_getElem? (i := 39) rfl)
theorem own_w40 {Z : State} {a0 : Array Value} (hw : ∀ d ∈ tables_1, d.before a0 Z = true) : (Jvm.Cond.arrayClass Jvm.ClassFile.FieldType.byte).before a0 Z = true := hw _ (List.mem_of_getElem? (i := 40) rfl)
theorem own_w41 {Z : State} {a0 : Array Value} (hw : ∀ d ∈ tables_1, d.before a0 Z = true) : (Jvm.Cond.methodLink "java/lang/String" (209 : Nat) ({ cls := "java/lang/String", name := "<init>", desc := "([BB)V" } : Jvm.MethodName)).before a0 Z = true := hw _ (List.mem_of_getElem? (i := 41) rfl)
theorem own_w42 {Z : State} {a0 : Array Value} (hw : ∀ d ∈ tables_1, d.before a0 Z = true) : (Jvm.Cond.instanceMethod ({ cls := "java/lang/String", name := "<init>", desc := "([BB)V" } : Jvm.MethodName)).before a0 Z = true := hw _ (List.mem_of_getElem? (i := 42) rfl)
theorem own_w44 {Z : State} {a0 : Array Value} (hw : ∀ d ∈ tables_1, d.before a0 Z = true) : (Jvm.Cond.code ({ cls := "java/lang/String", name := "<init>", desc := "([BB)V" } : Jvm.MethodName) jdk_42_method_151_code (3 : Nat) (Option.none : Option Jvm.ClassFile.FieldType)).before a0 Z = true := hw _ (List.mem_of_getElem? (i := 44) rfl)
theorem own_w45 {Z : State} {a0 : Array Value} (hw : ∀ d ∈ tables_1, d.before a0 Z = true) : (Jvm.Cond.methodLink "java/lang/String" (1 : Nat) ({ cls := "java/lang/Object", name := "<init>", desc := "()V" } : Jvm.MethodName)).before a0 Z = true := hw _ (List.mem_of_getElem? (i := 45) rfl)
theorem own_w46 {Z : State} {a0 : Array Value} (hw : ∀ d ∈ tables_1, d.before a0 Z = true) : (Jvm.Cond.fieldLink "java/lang/String" (9 : Nat) "java/lang/String" "value" "[B").before a0 Z = true := hw _ (List.mem_of_getElem? (i := 46) rfl)
theorem own_w47 {Z : State} {a0 : Array Value} (hw : ∀ d ∈ tables_1, d.before a0 Z = true) : (Jvm.Cond.laysFinal "java/lang/String" "java/lang/String" "value" "[B").before a0 Z = true := hw _ (List.mem_of_getElem? (i := 47) rfl)
theorem own_w48 {Z : State} {a0 : Array Value} (hw : ∀ d ∈ tables_1, d.before a0 Z = true) : (Jvm.Cond.fieldLink "java/lang/String" (15 : Nat) "java/lang/String" "coder" "B").before a0 Z = true := hw _ (List.mem_of_getElem? (i := 48) rfl)
theorem own_w49 {Z : State} {a0 : Array Value} (hw : ∀ d ∈ tables_1, d.before a0 Z = true) : (Jvm.Cond.laysFinal "java/lang/String" "java/lang/String" "coder" "B").before a0 Z = true := hw _ (List.mem_of_getElem? (i := 49) rfl)
theorem own_w50 {Z : State} {a0 : Array Value} (hw : ∀ d ∈ tables_1, d.before a0 Z = true) : (Jvm.Cond.methodLink "com/example/arpent/arpent/geom/PointSamePlacePinLaw" (16 : Nat) ({ cls := "java/util/List", name := "add", desc := "(Ljava/lang/Object;)Z" } : Jvm.MethodName)).before a0 Z = true := hw _ (List.mem_of_getElem? (i := 50) rfl)
theorem own_w51 {Z : State} {a0 : Array Value} (hw : ∀ d ∈ tables_1, d.before a0 Z = true) : (Jvm.Cond.declares ({ cls := "java/util/List", name := "add", desc := "(Ljava/lang/Object;)Z" } : Jvm.MethodName)).before a0 Z = true := hw _ (List.mem_of_getElem? (i := 51) rfl)
theorem own_w52 {Z : State} {a0 : Array Value} (hw : ∀ d ∈ tables_1, d.before a0 Z = true) : (Jvm.Cond.interfaceMethod "java/util/List" "java/util/List" "add" "(Ljava/lang/Object;)Z").before a0 Z = true := hw _ (List.mem_of_getElem? (i := 52) rfl)
theorem own_w53 {Z : State} {a0 : Array Value} (hw : ∀ d ∈ tables_1, d.before a0 Z = true) : (Jvm.Cond.selects "java/util/ArrayList" ({ cls := "java/util/List", name := "add", desc := "(Ljava/lang/Object;)Z" } : Jvm.MethodName) ({ cls := "java/util/ArrayList", name := "add", desc := "(Ljava/lang/Object;)Z" } : Jvm.MethodName)).before a0 Z = true := hw _ (List.mem_of_getElem? (i := 53) rfl)
theorem own_w54 {Z : State} {a0 : Array Value} (hw : ∀ d ∈ tables_1, d.before a0 Z = true) : (Jvm.Cond.instanceMethod ({ cls := "java/util/ArrayList", name := "add", desc := "(Ljava/lang/Object;)Z" } : Jvm.MethodName)).before a0 Z = true := hw _ (List.mem_of_getElem? (i := 54) rfl)
theorem own_w55 {Z : State} {a0 : Array Value} (hw : ∀ d ∈ tables_1, d.before a0 Z = true) : (Jvm.Cond.publicMethod ({ cls := "java/util/ArrayList", name := "add", desc := "(Ljava/lang/Object;)Z" } : Jvm.MethodName)).before a0 Z = true := hw _ (List.mem_of_getElem? (i := 55) rfl)
theorem own_w56 {Z : State} {a0 : Array Value} (hw : ∀ d ∈ tables_1, d.before a0 Z = true) : (Jvm.Cond.unhidden "java/util/ArrayList" "add" "(Ljava/lang/Object;)Z").before a0 Z = true := hw _ (List.mem_of_getElem? (i := 56) rfl)
theorem own_w57 {Z : State} {a0 : Array Value} (hw : ∀ d ∈ tables_1, d.before a0 Z = true) : (Jvm.Cond.castable "java/util/ArrayList" "java/util/List").before a0 Z = true := hw _ (List.mem_of_getElem? (i := 57) rfl)
theorem own_w58 {Z : State} {a0 : Array Value} (hw : ∀ d ∈ tables_1, d.before a0 Z = true) : (Jvm.Cond.code ({ cls := "java/util/ArrayList", name := "add", desc := "(Ljava/lang/Object;)Z" } : Jvm.MethodName) jdk_38_method_25_code (2 : Nat) (Option.some Jvm.ClassFile.FieldType.boolean)).before a0 Z = true := hw _ (List.mem_of_getElem? (i := 58) rfl)
theorem own_w59 {Z : State} {a0 : Array Value} (hw : ∀ d ∈ tables_1, d.before a0 Z = true) : (Jvm.Cond.fieldLink "java/util/ArrayList" (63 : Nat) "java/util/ArrayList" "modCount" "I").before a0 Z = true := hw _ (List.mem_of_getElem? (i := 59) rfl)
theorem own_w60 {Z : State} {a0 : Array Value} (hw : ∀ d ∈ tables_1, d.before a0 Z = true) : (Jvm.Cond.sameField "java/util/ArrayList" "java/util/AbstractList" "modCount" "I").before a0 Z = true := hw _ (List.mem_of_getElem? (i := 60) rfl)
theorem own_w61 {Z : State} {a0 : Array Value} (hw : ∀ d ∈ tables_1, d.before a0 Z = true) : (Jvm.Cond.fieldLink "java/util/ArrayList" (48 : Nat) "java/util/ArrayList" "size" "I").before a0 Z = true := hw _ (List.mem_of_getElem? (i := 61) rfl)
theorem own_w62 {Z : State} {a0 : Array Value} (hw : ∀ d ∈ tables_1, d.before a0 Z = true) : (Jvm.Cond.lays "java/util/ArrayList" "java/util/ArrayList" "size" "I").before a0 Z = true := hw _ (List.mem_of_getElem? (i := 62) rfl)
theorem own_w63 {Z : State} {a0 : Array Value} (hw : ∀ d ∈ tables_1, d.before a0 Z = true) : (Jvm.Cond.methodLink "java/util/ArrayList" (131 : Nat) ({ cls := "java/util/ArrayList", name := "add", desc := "(Ljava/lang/Object;[Ljava/lang/Object;I)V" } : Jvm.MethodName)).before a0 Z = true := hw _ (List.mem_of_getElem? (i := 63) rfl)
theorem own_w64 {Z : State} {a0 : Array Value} (hw : ∀ d ∈ tables_1, d.before a0 Z = true) : (Jvm.Cond.instanceMethod ({ cls := "java/util/ArrayList", name := "add", desc := "(Ljava/lang/Object;[Ljava/lang/Object;I)V" } : Jvm.MethodName)).before a0 Z = true := hw _ (List.mem_of_getElem? (i := 64) rfl)
theorem own_w65 {Z : State} {a0 : Array Value} (hw : ∀ d ∈ tables_1, d.before a0 Z = true) : (Jvm.Cond.privateMethod ({ cls := "java/util/ArrayList", name := "add", desc := "(Ljava/lang/Object;[Ljava/lang/Object;I)V" } : Jvm.MethodName)).before a0 Z = true := hw _ (List.mem_of_getElem? (i := 65) rfl)
theorem own_w66 {Z : State} {a0 : Array Value} (hw : ∀ d ∈ tables_1, d.before a0 Z = true) : (Jvm.Cond.selects "java/util/ArrayList" ({ cls := "java/util/ArrayList", name := "add", desc := "(Ljava/lang/Object;[Ljava/lang/Object;I)V" } : Jvm.MethodName) ({ cls := "java/util/ArrayList", name := "add", desc := "(Ljava/lang/Object;[Ljava/lang/Object;I)V" } : Jvm.MethodName)).before a0 Z = true := hw _ (List.mem_of_getElem? (i := 66) rfl)
theorem own_w67 {Z : State} {a0 : Array Value} (hw : ∀ d ∈ tables_1, d.before a0 Z = true) : (Jvm.Cond.code ({ cls := "java/util/ArrayList", name := "add", desc := "(Ljava/lang/Object;[Ljava/lang/Object;I)V" } : Jvm.MethodName) jdk_38_method_24_code (4 : Nat) (Option.none : Option Jvm.ClassFile.FieldType)).before a0 Z = true := hw _ (List.mem_of_getElem? (i := 67) rfl)
theorem own_w68 {Z : State} {a0 : Array Value} (hw : ∀ d ∈ tables_1, d.before a0 Z = true) : (Jvm.Cond.methodLink "java/util/ArrayList" (129 : Nat) ({ cls := "java/util/ArrayList", name := "grow", desc := "()[Ljava/lang/Object;" } : Jvm.MethodName)).before a0 Z = true := hw _ (List.mem_of_getElem? (i := 68) rfl)
theorem own_w69 {Z : State} {a0 : Array Value} (hw : ∀ d ∈ tables_1, d.before a0 Z = true) : (Jvm.Cond.instanceMethod ({ cls := "java/util/ArrayList", name := "grow", desc := "()[Ljava/lang/Object;" } : Jvm.MethodName)).before a0 Z = true := hw _ (List.mem_of_getElem? (i := 69) rfl)
theorem own_w70 {Z : State} {a0 : Array Value} (hw : ∀ d ∈ tables_1, d.before a0 Z = true) : (Jvm.Cond.privateMethod ({ cls := "java/util/ArrayList", name := "grow", desc := "()[Ljava/lang/Object;" } : Jvm.MethodName)).before a0 Z = true := hw _ (List.mem_of_getElem? (i := 70) rfl)
theorem own_w71 {Z : State} {a0 : Array Value} (hw : ∀ d ∈ tables_1, d.before a0 Z = true) : (Jvm.Cond.selects "java/util/ArrayList" ({ cls := "java/util/ArrayList", name := "grow", desc := "()[Ljava/lang/Object;" } : Jvm.MethodName) ({ cls := "java/util/ArrayList", name := "grow", desc := "()[Ljava/lang/Object;" } : Jvm.MethodName)).before a0 Z = true := hw _ (List.mem_of_getElem? (i := 71) rfl)
theorem own_w72 {Z : State} {a0 : Array Value} (hw : ∀ d ∈ tables_1, d.before a0 Z = true) : (Jvm.Cond.code ({ cls := "java/util/ArrayList", name := "grow", desc := "()[Ljava/lang/Object;" } : Jvm.MethodName) jdk_38_method_7_code (1 : Nat) (Option.some (Jvm.ClassFile.FieldType.array (Jvm.ClassFile.FieldType.object "java/lang/Object")))).before a0 Z = true := hw _ (List.mem_of_getElem? (i := 72) rfl)
theorem own_w73 {Z : State} {a0 : Array Value} (hw : ∀ d ∈ tables_1, d.before a0 Z = true) : (Jvm.Cond.methodLink "java/util/ArrayList" (69 : Nat) ({ cls := "java/util/ArrayList", name := "grow", desc := "(I)[Ljava/lang/Object;" } : Jvm.MethodName)).before a0 Z = true := hw _ (List.mem_of_getElem? (i := 73) rfl)
theorem own_w74 {Z : State} {a0 : Array Value} (hw : ∀ d ∈ tables_1, d.before a0 Z = true) : (Jvm.Cond.instanceMethod ({ cls := "java/util/ArrayList", name := "grow", desc := "(I)[Ljava/lang/Object;" } : Jvm.MethodName)).before a0 Z = true := hw _ (List.mem_of_getElem? (i := 74) rfl)
theorem own_w75 {Z : State} {a0 : Array Value} (hw : ∀ d ∈ tables_1, d.before a0 Z = true) : (Jvm.Cond.privateMethod ({ cls := "java/util/ArrayList", name := "grow", desc := "(I)[Ljava/lang/Object;" } : Jvm.MethodName)).before a0 Z = true := hw _ (List.mem_of_getElem? (i := 75) rfl)
theorem own_w76 {Z : State} {a0 : Array Value} (hw : ∀ d ∈ tables_1, d.before a0 Z = true) : (Jvm.Cond.selects "java/util/ArrayList" ({ cls := "java/util/ArrayList", name := "grow", desc := "(I)[Ljava/lang/Object;" } : Jvm.MethodName) ({ cls := "java/util/ArrayList", name := "grow", desc := "(I)[Ljava/lang/Object;" } : Jvm.MethodName)).before a0 Z = true := hw _ (List.mem_of_getElem? (i := 76) rfl)
theorem own_w77 {Z : State} {a0 : Array Value} (hw : ∀ d ∈ tables_1, d.before a0 Z = true) : (Jvm.Cond.code ({ cls := "java/util/ArrayList", name := "grow", desc := "(I)[Ljava/lang/Object;" } : Jvm.MethodName) jdk_38_method_6_code (4 : Nat) (Option.some (Jvm.ClassFile.FieldType.array (Jvm.ClassFile.FieldType.object "java/lang/Object")))).before a0 Z = true := hw _ (List.mem_of_getElem? (i := 77) rfl)
theorem own_w78 {Z : State} {a0 : Array Value} (hw : ∀ d ∈ tables_1, d.before a0 Z = true) : (Jvm.Cond.methodLink "java/util/ArrayList" (79 : Nat) ({ cls := "java/lang/Math", name := "max", desc := "(II)I" } : Jvm.MethodName)).before a0 Z = true := hw _ (List.mem_of_getElem? (i := 78) rfl)
theorem own_w79 {Z : State} {a0 : Array Value} (hw : ∀ d ∈ tables_1, d.before a0 Z = true) : (Jvm.Cond.static ({ cls := "java/lang/Math", name := "max", desc := "(II)I" } : Jvm.MethodName)).before a0 Z = true := hw _ (List.mem_of_getElem? (i := 79) rfl)
theorem own_w80 {Z : State} {a0 : Array Value} (hw : ∀ d ∈ tables_1, d.before a0 Z = true) : (Jvm.Cond.initialized "java/lang/Math").before a0 Z = true := hw _ (List.mem_of_getElem? (i := 80) rfl)
theorem own_w81 {Z : State} {a0 : Array Value} (hw : ∀ d ∈ tables_1, d.before a0 Z = true) : (Jvm.Cond.code ({ cls := "java/lang/Math", name := "max", desc := "(II)I" } : Jvm.MethodName) jdk_29_method_65_code (2 : Nat) (Option.some Jvm.ClassFile.FieldType.int)).before a0 Z = true := hw _ (List.mem_of_getElem? (i := 81) rfl)
theorem own_w82 {Z : State} {a0 : Array Value} (hw : ∀ d ∈ tables_1, d.before a0 Z = true) : (Jvm.Cond.classLink "java/util/ArrayList" (7 : Nat) "java/lang/Object").before a0 Z = true := hw _ (List.mem_of_getElem? (i := 82) rfl)
theorem own_w83 {Z : State} {a0 : Array Value} (hw : ∀ d ∈ tables_1, d.before a0 Z = true) : (Jvm.Cond.arrayOver (Jvm.ClassFile.FieldType.object "java/lang/Object")).before a0 Z = true := hw _ (List.mem_of_getElem? (i := 83) rfl)
theorem own_w84 {Z : State} {a0 : Array Value} (hw : ∀ d ∈ tables_1, d.before a0 Z = true) : (Jvm.Cond.castable "java/lang/String" "java/lang/Object").before a0 Z = true := hw _ (List.mem_of_getElem? (i := 84) rfl)
theorem own_w85 {Z : State} {a0 : Array Value} (hw : ∀ d ∈ tables_1, d.before a0 Z = true) : (Jvm.Cond.classLink "com/example/arpent/arpent/geom/PointSamePlacePinLaw" (22 : Nat) "com/example/arpent/arpent/geom/Point").before a0 Z = true := hw _ (List.mem_of_getElem? (i := 85) rfl)
theorem own_w86 {Z : State} {a0 : Array Value} (hw : ∀ d ∈ tables_1, d.before a0 Z = true) : (Jvm.Cond.instantiable "com/example/arpent/arpent/geom/Point" (3 : Nat)).before a0 Z = true := hw _ (List.mem_of_getElem? (i := 86) rfl)
theorem own_w87 {Z : State} {a0 : Array Value} (hw : ∀ d ∈ tables_1, d.before a0 Z = true) : (Jvm.Cond.initialized "com/example/arpent/arpent/geom/Point").before a0 Z = true := hw _ (List.mem_of_getElem? (i := 87) rfl)
theorem own_w88 {Z : State} {a0 : Array Value} (hw : ∀ d ∈ tables_1, d.before a0 Z = true) : (Jvm.Cond.methodLink "com/example/arpent/arpent/geom/PointSamePlacePinLaw" (24 : Nat) ({ cls := "com/example/arpent/arpent/geom/Point", name := "<init>", desc := "(Ljava/util/List;DD)V" } : Jvm.MethodName)).before a0 Z = true := hw _ (List.mem_of_getElem? (i := 88) rfl)
theorem own_w89 {Z : State} {a0 : Array Value} (hw : ∀ d ∈ tables_1, d.before a0 Z = true) : (Jvm.Cond.instanceMethod ({ cls := "com/example/arpent/arpent/geom/Point", name := "<init>", desc := "(Ljava/util/List;DD)V" } : Jvm.MethodName)).before a0 Z = true := hw _ (List.mem_of_getElem? (i := 89) rfl)
theorem own_w90 {Z : State} {a0 : Array Value} (hw : ∀ d ∈ tables_1, d.before a0 Z = true) : (Jvm.Cond.code ({ cls := "com/example/arpent/arpent/geom/Point", name := "<init>", desc := "(Ljava/util/List;DD)V" } : Jvm.MethodName) prog_57_method_1_code (6 : Nat) (Option.none : Option Jvm.ClassFile.FieldType)).before a0 Z = true := hw _ (List.mem_of_getElem? (i := 90) rfl)
theorem own_w91 {Z : State} {a0 : Array Value} (hw : ∀ d ∈ tables_1, d.before a0 Z = true) : (Jvm.Cond.methodLink "com/example/arpent/arpent/geom/Point" (1 : Nat) ({ cls := "java/lang/Record", name := "<init>", desc := "()V" } : Jvm.MethodName)).before a0 Z = true := hw _ (List.mem_of_getElem? (i := 91) rfl)
theorem own_w92 {Z : State} {a0 : Array Value} (hw : ∀ d ∈ tables_1, d.before a0 Z = true) : (Jvm.Cond.instanceMethod ({ cls := "java/lang/Record", name := "<init>", desc := "()V" } : Jvm.MethodName)).before a0 Z = true := hw _ (List.mem_of_getElem? (i := 92) rfl)
theorem own_w94 {Z : State} {a0 : Array Value} (hw : ∀ d ∈ tables_1, d.before a0 Z = true) : (Jvm.Cond.initialized "java/lang/Record").before a0 Z = true := hw _ (List.mem_of_getElem? (i := 94) rfl)
theorem own_w95 {Z : State} {a0 : Array Value} (hw : ∀ d ∈ tables_1, d.before a0 Z = true) : (Jvm.Cond.code ({ cls := "java/lang/Record", name := "<init>", desc := "()V" } : Jvm.MethodName) jdk_30_method_1_code (1 : Nat) (Option.none : Option Jvm.ClassFile.FieldType)).before a0 Z = true := hw _ (List.mem_of_getElem? (i := 95) rfl)
theorem own_w96 {Z : State} {a0 : Array Value} (hw : ∀ d ∈ tables_1, d.before a0 Z = true) : (Jvm.Cond.methodLink "java/lang/Record" (1 : Nat) ({ cls := "java/lang/Object", name := "<init>", desc := "()V" } : Jvm.MethodName)).before a0 Z = true := hw _ (List.mem_of_getElem? (i := 96) rfl)
theorem own_w97 {Z : State} {a0 : Array Value} (hw : ∀ d ∈ tables_1, d.before a0 Z = true) : (Jvm.Cond.fieldLink "com/example/arpent/arpent/geom/Point" (7 : Nat) "com/example/arpent/arpent/geom/Point" "coordinates" "Ljava/util/List;").before a0 Z = true := hw _ (List.mem_of_getElem? (i := 97) rfl)
theorem own_w98 {Z : State} {a0 : Array Value} (hw : ∀ d ∈ tables_1, d.before a0 Z = true) : (Jvm.Cond.laysFinal "com/example/arpent/arpent/geom/Point" "com/example/arpent/arpent/geom/Point" "coordinates" "Ljava/util/List;").before a0 Z = true := hw _ (List.mem_of_getElem? (i := 98) rfl)
theorem own_w99 {Z : State} {a0 : Array Value} (hw : ∀ d ∈ tables_1, d.before a0 Z = true) : (Jvm.Cond.fieldLink "com/example/arpent/arpent/geom/Point" (13 : Nat) "com/example/arpent/arpent/geom/Point" "x" "D").before a0 Z = true := hw _ (List.mem_of_getElem? (i := 99) rfl)
theorem own_w100 {Z : State} {a0 : Array Value} (hw : ∀ d ∈ tables_1, d.before a0 Z = true) : (Jvm.Cond.laysFinal "com/example/arpent/arpent/geom/Point" "com/example/arpent/arpent/geom/Point" "x" "D").before a0 Z = true := hw _ (List.mem_of_getElem? (i := 100) rfl)
theorem own_w101 {Z : State} {a0 : Array Value} (hw : ∀ d ∈ tables_1, d.before a0 Z = true) : (Jvm.Cond.fieldLink "com/example/arpent/arpent/geom/Point" (17 : Nat) "com/example/arpent/arpent/geom/Point" "y" "D").before a0 Z = true := hw _ (List.mem_of_getElem? (i := 101) rfl)
theorem own_w102 {Z : State} {a0 : Array Value} (hw : ∀ d ∈ tables_1, d.before a0 Z = true) : (Jvm.Cond.laysFinal "com/example/arpent/arpent/geom/Point" "com/example/arpent/arpent/geom/Point" "y" "D").before a0 Z = true := hw _ (List.mem_of_getElem? (i := 102) rfl)
theorem own_w103 {Z : State} {a0 : Array Value} (hw : ∀ d ∈ tables_1, d.before a0 Z = true) : (Jvm.Cond.methodLink "com/example/arpent/arpent/geom/PointSamePlacePinLaw" (27 : Nat) ({ cls := "com/example/arpent/arpent/geom/Point", name := "samePlace", desc := "(Lcom/example/arpent/arpent/geom/Point;)Z" } : Jvm.MethodName)).before a0 Z = true := hw _ (List.mem_of_getElem? (i := 103) rfl)
theorem own_w104 {Z : State} {a0 : Array Value} (hw : ∀ d ∈ tables_1, d.before a0 Z = true) : (Jvm.Cond.declares ({ cls := "com/example/arpent/arpent/geom/Point", name := "samePlace", desc := "(Lcom/example/arpent/arpent/geom/Point;)Z" } : Jvm.MethodName)).before a0 Z = true := hw _ (List.mem_of_getElem? (i := 104) rfl)
theorem own_w105 {Z : State} {a0 : Array Value} (hw : ∀ d ∈ tables_1, d.before a0 Z = true) : (Jvm.Cond.instanceMethod ({ cls := "com/example/arpent/arpent/geom/Point", name := "samePlace", desc := "(Lcom/example/arpent/arpent/geom/Point;)Z" } : Jvm.MethodName)).before a0 Z = true := hw _ (List.mem_of_getElem? (i := 105) rfl)
theorem own_w106 {Z : State} {a0 : Array Value} (hw : ∀ d ∈ tables_1, d.before a0 Z = true) : (Jvm.Cond.selects "com/example/arpent/arpent/geom/Point" ({ cls := "com/example/arpent/arpent/geom/Point", name := "samePlace", desc := "(Lcom/example/arpent/arpent/geom/Point;)Z" } : Jvm.MethodName) ({ cls := "com/example/arpent/arpent/geom/Point", name := "samePlace", desc := "(Lcom/example/arpent/arpent/geom/Point;)Z" } : Jvm.MethodName)).before a0 Z = true := hw _ (List.mem_of_getElem? (i := 106) rfl)
theorem own_w107 {Z : State} {a0 : Array Value} (hw : ∀ d ∈ tables_1, d.before a0 Z = true) : (Jvm.Cond.code ({ cls := "com/example/arpent/arpent/geom/Point", name := "samePlace", desc := "(Lcom/example/arpent/arpent/geom/Point;)Z" } : Jvm.MethodName) prog_57_method_4_code (2 : Nat) (Option.some Jvm.ClassFile.FieldType.boolean)).before a0 Z = true := hw _ (List.mem_of_getElem? (i := 107) rfl)
theorem own_d1_0 : decode jdk_38_method_2_code 0 = .ok (.aload_n 0, 1) := by decide +kernel
theorem own_d1_1 : decode jdk_38_method_2_code 1 = .ok (.invokespecial 1, 3) := by decide +kernel
theorem own_d1_4 : decode jdk_38_method_2_code 4 = .ok (.aload_n 0, 1) := by decide +kernel
theorem own_d1_5 : decode jdk_38_method_2_code 5 = .ok (.getstatic 39, 3) := by decide +kernel
theorem own_d1_8 : decode jdk_38_method_2_code 8 = .ok (.putfield 9, 3) := by decide +kernel
theorem own_d1_11 : decode jdk_38_method_2_code 11 = .ok (.return_, 1) := by decide +kernel
theorem own_d2_0 : decode jdk_39_method_1_code 0 = .ok (.aload_n 0, 1) := by decide +kernel
theorem own_d2_1 : decode jdk_39_method_1_code 1 = .ok (.invokespecial 1, 3) := by decide +kernel
theorem own_d2_4 : decode jdk_39_method_1_code 4 = .ok (.aload_n 0, 1) := by decide +kernel
theorem own_d2_5 : decode jdk_39_method_1_code 5 = .ok (.iconst 0, 1) := by decide +kernel
theorem own_d2_6 : decode jdk_39_method_1_code 6 = .ok (.putfield 7, 3) := by decide +kernel
theorem own_d2_9 : decode jdk_39_method_1_code 9 = .ok (.return_, 1) := by decide +kernel
theorem own_d3_0 : decode jdk_22_method_1_code 0 = .ok (.aload_n 0, 1) := by decide +kernel
theorem own_d3_1 : decode jdk_22_method_1_code 1 = .ok (.invokespecial 1, 3) := by decide +kernel
theorem own_d3_4 : decode jdk_22_method_1_code 4 = .ok (.return_, 1) := by decide +kernel
theorem own_d5_0 : decode jdk_42_method_139_code 0 = .ok (.getstatic 38, 3) := by decide +kernel
theorem own_d5_3 : decode jdk_42_method_139_code 3 = .ok (.ifCond .eq 23, 3) := by decide +kernel
theorem own_d5_6 : decode jdk_42_method_139_code 6 = .ok (.iload_n 0, 1) := by decide +kernel
theorem own_d5_7 : decode jdk_42_method_139_code 7 = .ok (.invokestatic 1015, 3) := by decide +kernel
theorem own_d5_10 : decode jdk_42_method_139_code 10 = .ok (.ifCond .eq 16, 3) := by decide +kernel
theorem own_d5_13 : decode jdk_42_method_139_code 13 = .ok (.new 10, 3) := by decide +kernel
theorem own_d5_16 : decode jdk_42_method_139_code 16 = .ok (.dup, 1) := by decide +kernel
theorem own_d5_17 : decode jdk_42_method_139_code 17 = .ok (.iload_n 0, 1) := by decide +kernel
theorem own_d5_18 : decode jdk_42_method_139_code 18 = .ok (.invokestatic 1018, 3) := by decide +kernel
theorem own_d5_21 : decode jdk_42_method_139_code 21 = .ok (.iconst 0, 1) := by decide +kernel
theorem own_d5_22 : decode jdk_42_method_139_code 22 = .ok (.invokespecial 209, 3) := by decide +kernel
theorem own_d5_25 : decode jdk_42_method_139_code 25 = .ok (.areturn, 1) := by decide +kernel
theorem own_d6_0 : decode jdk_43_method_3_code 0 = .ok (.iload_n 0, 1) := by decide +kernel
theorem own_d6_1 : decode jdk_43_method_3_code 1 = .ok (.sipush 255, 3) := by decide +kernel
theorem own_d6_4 : decode jdk_43_method_3_code 4 = .ok (.if_icmp .gt 7, 3) := by decide +kernel
theorem own_d6_7 : decode jdk_43_method_3_code 7 = .ok (.iconst 1, 1) := by decide +kernel
theorem own_d6_8 : decode jdk_43_method_3_code 8 = .ok (.goto 4, 3) := by decide +kernel
theorem own_d6_12 : decode jdk_43_method_3_code 12 = .ok (.ireturn, 1) := by decide +kernel
theorem own_d7_0 : decode jdk_43_method_46_code 0 = .ok (.iconst 1, 1) := by decide +kernel
theorem own_d7_1 : decode jdk_43_method_46_code 1 = .ok (.newarray .byte, 2) := by decide +kernel
theorem own_d7_3 : decode jdk_43_method_46_code 3 = .ok (.dup, 1) := by decide +kernel
theorem own_d7_4 : decode jdk_43_method_46_code 4 = .ok (.iconst 0, 1) := by decide +kernel
theorem own_d7_5 : decode jdk_43_method_46_code 5 = .ok (.iload_n 0, 1) := by decide +kernel
theorem own_d7_6 : decode jdk_43_method_46_code 6 = .ok (.i2b, 1) := by decide +kernel
theorem own_d7_7 : decode jdk_43_method_46_code 7 = .ok (.bastore, 1) := by decide +kernel
theorem own_d7_8 : decode jdk_43_method_46_code 8 = .ok (.areturn, 1) := by decide +kernel
theorem own_d8_0 : decode jdk_42_method_151_code 0 = .ok (.aload_n 0, 1) := by decide +kernel
theorem own_d8_1 : decode jdk_42_method_151_code 1 = .ok (.invokespecial 1, 3) := by decide +kernel
theorem own_d8_4 : decode jdk_42_method_151_code 4 = .ok (.aload_n 0, 1) := by decide +kernel
theorem own_d8_5 : decode jdk_42_method_151_code 5 = .ok (.aload_n 1, 1) := by decide +kernel
theorem own_d8_6 : decode jdk_42_method_151_code 6 = .ok (.putfield 9, 3) := by decide +kernel
theorem own_d8_9 : decode jdk_42_method_151_code 9 = .ok (.aload_n 0, 1) := by decide +kernel
theorem own_d8_10 : decode jdk_42_method_151_code 10 = .ok (.iload_n 2, 1) := by decide +kernel
theorem own_d8_11 : decode jdk_42_method_151_code 11 = .ok (.putfield 15, 3) := by decide +kernel
theorem own_d8_14 : decode jdk_42_method_151_code 14 = .ok (.return_, 1) := by decide +kernel
theorem own_d9_0 : decode jdk_38_method_25_code 0 = .ok (.aload_n 0, 1) := by decide +kernel
theorem own_d9_1 : decode jdk_38_method_25_code 1 = .ok (.dup, 1) := by decide +kernel
theorem own_d9_2 : decode jdk_38_method_25_code 2 = .ok (.getfield 63, 3) := by decide +kernel
theorem own_d9_5 : decode jdk_38_method_25_code 5 = .ok (.iconst 1, 1) := by decide +kernel
theorem own_d9_6 : decode jdk_38_method_25_code 6 = .ok (.iadd, 1) := by decide +kernel
theorem own_d9_7 : decode jdk_38_method_25_code 7 = .ok (.putfield 63, 3) := by decide +kernel
theorem own_d9_10 : decode jdk_38_method_25_code 10 = .ok (.aload_n 0, 1) := by decide +kernel
theorem own_d9_11 : decode jdk_38_method_25_code 11 = .ok (.aload_n 1, 1) := by decide +kernel
theorem own_d9_12 : decode jdk_38_method_25_code 12 = .ok (.aload_n 0, 1) := by decide +kernel
theorem own_d9_13 : decode jdk_38_method_25_code 13 = .ok (.getfield 9, 3) := by decide +kernel
theorem own_d9_16 : decode jdk_38_method_25_code 16 = .ok (.aload_n 0, 1) := by decide +kernel
theorem own_d9_17 : decode jdk_38_method_25_code 17 = .ok (.getfield 48, 3) := by decide +kernel
theorem own_d9_20 : decode jdk_38_method_25_code 20 = .ok (.invokevirtual 131, 3) := by decide +kernel
theorem own_d9_23 : decode jdk_38_method_25_code 23 = .ok (.iconst 1, 1) := by decide +kernel
theorem own_d9_24 : decode jdk_38_method_25_code 24 = .ok (.ireturn, 1) := by decide +kernel
theorem own_d10_0 : decode jdk_38_method_24_code 0 = .ok (.iload_n 3, 1) := by decide +kernel
theorem own_d10_1 : decode jdk_38_method_24_code 1 = .ok (.aload_n 2, 1) := by decide +kernel
theorem own_d10_2 : decode jdk_38_method_24_code 2 = .ok (.arraylength, 1) := by decide +kernel
theorem own_d10_3 : decode jdk_38_method_24_code 3 = .ok (.if_icmp .ne 8, 3) := by decide +kernel
theorem own_d10_6 : decode jdk_38_method_24_code 6 = .ok (.aload_n 0, 1) := by decide +kernel
theorem own_d10_7 : decode jdk_38_method_24_code 7 = .ok (.invokevirtual 129, 3) := by decide +kernel
theorem own_d10_10 : decode jdk_38_method_24_code 10 = .ok (.astore_n 2, 1) := by decide +kernel
theorem own_d10_11 : decode jdk_38_method_24_code 11 = .ok (.aload_n 2, 1) := by decide +kernel
theorem own_d10_12 : decode jdk_38_method_24_code 12 = .ok (.iload_n 3, 1) := by decide +kernel
theorem own_d10_13 : decode jdk_38_method_24_code 13 = .ok (.aload_n 1, 1) := by decide +kernel
theorem own_d10_14 : decode jdk_38_method_24_code 14 = .ok (.aastore, 1) := by decide +kernel
theorem own_d10_15 : decode jdk_38_method_24_code 15 = .ok (.aload_n 0, 1) := by decide +kernel
theorem own_d10_16 : decode jdk_38_method_24_code 16 = .ok (.iload_n 3, 1) := by decide +kernel
theorem own_d10_17 : decode jdk_38_method_24_code 17 = .ok (.iconst 1, 1) := by decide +kernel
theorem own_d10_18 : decode jdk_38_method_24_code 18 = .ok (.iadd, 1) := by decide +kernel
theorem own_d10_19 : decode jdk_38_method_24_code 19 = .ok (.putfield 48, 3) := by decide +kernel
theorem own_d10_22 : decode jdk_38_method_24_code 22 = .ok (.return_, 1) := by decide +kernel
theorem own_d11_0 : decode jdk_38_method_7_code 0 = .ok (.aload_n 0, 1) := by decide +kernel
theorem own_d11_1 : decode jdk_38_method_7_code 1 = .ok (.aload_n 0, 1) := by decide +kernel
theorem own_d11_2 : decode jdk_38_method_7_code 2 = .ok (.getfield 48, 3) := by decide +kernel
theorem own_d11_5 : decode jdk_38_method_7_code 5 = .ok (.iconst 1, 1) := by decide +kernel
theorem own_d11_6 : decode jdk_38_method_7_code 6 = .ok (.iadd, 1) := by decide +kernel
theorem own_d11_7 : decode jdk_38_method_7_code 7 = .ok (.invokevirtual 69, 3) := by decide +kernel
theorem own_d11_10 : decode jdk_38_method_7_code 10 = .ok (.areturn, 1) := by decide +kernel
theorem own_d12_0 : decode jdk_38_method_6_code 0 = .ok (.aload_n 0, 1) := by decide +kernel
theorem own_d12_1 : decode jdk_38_method_6_code 1 = .ok (.getfield 9, 3) := by decide +kernel
theorem own_d12_4 : decode jdk_38_method_6_code 4 = .ok (.arraylength, 1) := by decide +kernel
theorem own_d12_5 : decode jdk_38_method_6_code 5 = .ok (.istore_n 2, 1) := by decide +kernel
theorem own_d12_6 : decode jdk_38_method_6_code 6 = .ok (.iload_n 2, 1) := by decide +kernel
theorem own_d12_7 : decode jdk_38_method_6_code 7 = .ok (.ifCond .gt 13, 3) := by decide +kernel
theorem own_d12_10 : decode jdk_38_method_6_code 10 = .ok (.aload_n 0, 1) := by decide +kernel
theorem own_d12_11 : decode jdk_38_method_6_code 11 = .ok (.getfield 9, 3) := by decide +kernel
theorem own_d12_14 : decode jdk_38_method_6_code 14 = .ok (.getstatic 39, 3) := by decide +kernel
theorem own_d12_17 : decode jdk_38_method_6_code 17 = .ok (.if_acmp .eq 28, 3) := by decide +kernel
theorem own_d12_45 : decode jdk_38_method_6_code 45 = .ok (.aload_n 0, 1) := by decide +kernel
theorem own_d12_46 : decode jdk_38_method_6_code 46 = .ok (.bipush 10, 2) := by decide +kernel
theorem own_d12_48 : decode jdk_38_method_6_code 48 = .ok (.iload_n 1, 1) := by decide +kernel
theorem own_d12_49 : decode jdk_38_method_6_code 49 = .ok (.invokestatic 79, 3) := by decide +kernel
theorem own_d12_52 : decode jdk_38_method_6_code 52 = .ok (.anewarray 7, 3) := by decide +kernel
theorem own_d12_55 : decode jdk_38_method_6_code 55 = .ok (.dup_x1, 1) := by decide +kernel
theorem own_d12_56 : decode jdk_38_method_6_code 56 = .ok (.putfield 9, 3) := by decide +kernel
theorem own_d12_59 : decode jdk_38_method_6_code 59 = .ok (.areturn, 1) := by decide +kernel
theorem own_d13_0 : decode jdk_29_method_65_code 0 = .ok (.iload_n 0, 1) := by decide +kernel
theorem own_d13_1 : decode jdk_29_method_65_code 1 = .ok (.iload_n 1, 1) := by decide +kernel
theorem own_d13_2 : decode jdk_29_method_65_code 2 = .ok (.if_icmp .lt 7, 3) := by decide +kernel
theorem own_d13_5 : decode jdk_29_method_65_code 5 = .ok (.iload_n 0, 1) := by decide +kernel
theorem own_d13_6 : decode jdk_29_method_65_code 6 = .ok (.goto 4, 3) := by decide +kernel
theorem own_d13_10 : decode jdk_29_method_65_code 10 = .ok (.ireturn, 1) := by decide +kernel
theorem own_d14_0 : decode prog_57_method_1_code 0 = .ok (.aload_n 0, 1) := by decide +kernel
theorem own_d14_1 : decode prog_57_method_1_code 1 = .ok (.invokespecial 1, 3) := by decide +kernel
theorem own_d14_4 : decode prog_57_method_1_code 4 = .ok (.aload_n 0, 1) := by decide +kernel
theorem own_d14_5 : decode prog_57_method_1_code 5 = .ok (.aload_n 1, 1) := by decide +kernel
theorem own_d14_6 : decode prog_57_method_1_code 6 = .ok (.putfield 7, 3) := by decide +kernel
theorem own_d14_9 : decode prog_57_method_1_code 9 = .ok (.aload_n 0, 1) := by decide +kernel
theorem own_d14_10 : decode prog_57_method_1_code 10 = .ok (.dload_n 2, 1) := by decide +kernel
theorem own_d14_11 : decode prog_57_method_1_code 11 = .ok (.putfield 13, 3) := by decide +kernel
theorem own_d14_14 : decode prog_57_method_1_code 14 = .ok (.aload_n 0, 1) := by decide +kernel
theorem own_d14_15 : decode prog_57_method_1_code 15 = .ok (.dload 4, 2) := by decide +kernel
theorem own_d14_17 : decode prog_57_method_1_code 17 = .ok (.putfield 17, 3) := by decide +kernel
theorem own_d14_20 : decode prog_57_method_1_code 20 = .ok (.return_, 1) := by decide +kernel
theorem own_d15_0 : decode jdk_30_method_1_code 0 = .ok (.aload_n 0, 1) := by decide +kernel
theorem own_d15_1 : decode jdk_30_method_1_code 1 = .ok (.invokespecial 1, 3) := by decide +kernel
theorem own_d15_4 : decode jdk_30_method_1_code 4 = .ok (.return_, 1) := by decide +kernel
theorem own_d16_0 : decode prog_57_method_4_code 0 = .ok (.aload_n 0, 1) := by decide +kernel
theorem own_d16_1 : decode prog_57_method_4_code 1 = .ok (.getfield 13, 3) := by decide +kernel
theorem own_d16_4 : decode prog_57_method_4_code 4 = .ok (.aload_n 1, 1) := by decide +kernel
theorem own_d16_5 : decode prog_57_method_4_code 5 = .ok (.getfield 13, 3) := by decide +kernel
theorem own_d16_8 : decode prog_57_method_4_code 8 = .ok (.dcmp .l, 1) := by decide +kernel
theorem own_d16_9 : decode prog_57_method_4_code 9 = .ok (.ifCond .ne 19, 3) := by decide +kernel
theorem own_d16_12 : decode prog_57_method_4_code 12 = .ok (.aload_n 0, 1) := by decide +kernel
theorem own_d16_13 : decode prog_57_method_4_code 13 = .ok (.getfield 17, 3) := by decide +kernel
theorem own_d16_16 : decode prog_57_method_4_code 16 = .ok (.aload_n 1, 1) := by decide +kernel
theorem own_d16_17 : decode prog_57_method_4_code 17 = .ok (.getfield 17, 3) := by decide +kernel
theorem own_d16_20 : decode prog_57_method_4_code 20 = .ok (.dcmp .l, 1) := by decide +kernel
theorem own_d16_21 : decode prog_57_method_4_code 21 = .ok (.ifCond .ne 7, 3) := by decide +kernel
theorem own_d16_24 : decode prog_57_method_4_code 24 = .ok (.iconst 1, 1) := by decide +kernel
theorem own_d16_25 : decode prog_57_method_4_code 25 = .ok (.goto 4, 3) := by decide +kernel
theorem own_d16_28 : decode prog_57_method_4_code 28 = .ok (.iconst 0, 1) := by decide +kernel
theorem own_d16_29 : decode prog_57_method_4_code 29 = .ok (.ireturn, 1) := by decide +kernel
theorem own_pn0 : plainName "java/util/AbstractCollection" = true := by first | (simp [plainName, overriddenIn]; done) | decide +kernel
theorem own_pn1 : plainName "java/lang/Record" = true := by first | (simp [plainName, overriddenIn]; done) | decide +kernel
theorem own_pn2 : plainName "java/util/AbstractList" = true := by first | (simp [plainName, overriddenIn]; done) | decide +kernel
theorem own_pn3 : plainName "java/util/ArrayList" = true := by first | (simp [plainName, overriddenIn]; done) | decide +kernel
theorem own_pn4 : plainName "java/lang/StringLatin1" = true := by first | (simp [plainName, overriddenIn]; done) | decide +kernel
theorem own_pn5 : plainName "java/lang/String" = true := by first | (simp [plainName, overriddenIn]; done) | decide +kernel
theorem own_pn6 : plainName "com/example/arpent/arpent/geom/Point" = true := by first | (simp [plainName, overriddenIn]; done) | decide +kernel
theorem own_pn7 : plainName "com/example/arpent/arpent/geom/PointSamePlacePinLaw" = true := by first | (simp [plainName, overriddenIn]; done) | decide +kernel
theorem own_pd0 : parseMethodDescriptor "()V" = some ⟨[], none⟩ := by decide +kernel
theorem own_pd1 : parseMethodDescriptor "(C)Z" = some ⟨[.char], some .boolean⟩ := by decide +kernel
theorem own_pd2 : parseMethodDescriptor "(C)[B" = some ⟨[.char], some (.array .byte)⟩ := by decide +kernel
theorem own_pd3 : parseMethodDescriptor "([BB)V" = some ⟨[(.array .byte), .byte], none⟩ := by decide +kernel
theorem own_pd4 : parseMethodDescriptor "(II)I" = some ⟨[.int, .int], some .int⟩ := by decide +kernel
theorem own_pd5 : parseMethodDescriptor "(I)[Ljava/lang/Object;" = some ⟨[.int], some (.array (.object "java/lang/Object"))⟩ := by decide +kernel
theorem own_pd6 : parseMethodDescriptor "()[Ljava/lang/Object;" = some ⟨[], some (.array (.object "java/lang/Object"))⟩ := by decide +kernel
theorem own_pd7 : parseMethodDescriptor "(Ljava/lang/Object;[Ljava/lang/Object;I)V" = some ⟨[(.object "java/lang/Object"), (.array (.object "java/lang/Object")), .int], none⟩ := by decide +kernel
theorem own_pd8 : parseMethodDescriptor "(C)Ljava/lang/String;" = some ⟨[.char], some (.object "java/lang/String")⟩ := by decide +kernel
theorem own_pd9 : parseMethodDescriptor "(Ljava/lang/Object;)Z" = some ⟨[(.object "java/lang/Object")], some .boolean⟩ := by decide +kernel
theorem own_pd10 : parseMethodDescriptor "(Ljava/util/List;DD)V" = some ⟨[(.object "java/util/List"), .double, .double], none⟩ := by decide +kernel
theorem own_pd11 : parseMethodDescriptor "(Lcom/example/arpent/arpent/geom/Point;)Z" = some ⟨[(.object "com/example/arpent/arpent/geom/Point")], some .boolean⟩ := by decide +kernel
theorem own_lt {a b : Int32} {k : Int} (hb : b.toInt = k) : a < b ↔ a.toInt < k := by rw [Int32.lt_iff_toInt_lt, hb]
theorem own_gt {a b : Int32} {k : Int} (ha : a.toInt = k) : a < b ↔ k < b.toInt := by rw [Int32.lt_iff_toInt_lt, ha]
theorem own_eq {a b : Int32} {k : Int} (hb : b.toInt = k) : a = b ↔ a.toInt = k := by rw [← Int32.toInt_inj, hb]
theorem own_lt_of {a b : Int32} {k : Int} (hb : b.toInt = k) (h : a.toInt < k) : a < b := (own_lt hb).mpr h
theorem own_nlt_of {a b : Int32} {k : Int} (hb : b.toInt = k) (h : k ≤ a.toInt) : ¬ a < b := fun q => by have := (own_lt hb).mp q; omega
theorem own_gt_of {a b : Int32} {k : Int} (ha : a.toInt = k) (h : k < b.toInt) : a < b := (own_gt ha).mpr h
theorem own_ngt_of {a b : Int32} {k : Int} (ha : a.toInt = k) (h : b.toInt ≤ k) : ¬ a < b := fun q => by have := (own_gt ha).mp q; omega
theorem own_eq_of {a b : Int32} {k : Int} (hb : b.toInt = k) (h : a.toInt = k) : a = b := (own_eq hb).mpr h
theorem own_ne_of {a b : Int32} {k : Int} (hb : b.toInt = k) (h : a.toInt ≠ k) : ¬ a = b := fun q => h ((own_eq hb).mp q)
theorem own_arr_keep {Z : State} {h h' : Heap} {a : Addr} {c : Cell} {ty : FieldType} (A : Arr Z h a c ty) (K : Keep h h' []) : Arr Z h' a c ty := ⟨K.2.1 a c A.1 nin0, A.2⟩
theorem own_sta0 {Z : State} {h h' : Heap} {C n d : String} {v : Value} (F : Sta Z h C n d v) (K : Keep h h' []) : Sta Z h' C n d v := by
  obtain ⟨cf, i, k, f, st, cell, h1, h2, h3, h4, h5, h6, h7⟩ := F
  exact ⟨cf, i, k, f, st, cell, h1, h2, h3, h4, K.2.1 st cell h5 nin0, h6, h7⟩
theorem own_eqint {t : Term} {n : Int32} {args : Array Value} {s : State} (h : (Jvm.Cond.eq t (.int n)).value args s none s [] = some true) : t.eval args s none [] s = some (.int n) := by
  obtain ⟨a, b, ha, hb, k1, k2⟩ := cmp_v (Or.inl h)
  have hb' : (Term.int n).eval args s none [] s = some (.int n) := rfl
  cases hb.symm.trans hb'
  obtain ⟨z, rfl⟩ := k2
  have : z = n := by simpa [Cond.value, ha, hb'] using h
  rw [ha, this]
theorem own_exa {args : Array Value} {s : State} {t : Term} {C : String} (h1 : (Jvm.Cond.exactly t C).value args s none s [] = some true) : ∃ x, t.eval args s none [] s = some (.ref x) ∧ Exa s s.heap x C := by
  obtain ⟨x, hx⟩ := exa_v h1
  exact ⟨x, hx, Exa.start hx h1⟩
theorem own_fldint {args : Array Value} {s : State} {t : Term} {C n d : String} {x : Addr} {k : Int32} (hx : t.eval args s none [] s = some (.ref x)) (h2 : (Jvm.Cond.eq (.field t C n d) (.int k)).value args s none s [] = some true) : Fld s s.heap x C n d (.int k) :=
  Fld.start ((fld_at hx).symm.trans (own_eqint h2))
theorem own_arr {args : Array Value} {s : State} {t : Term} {ty : FieldType} {n : Int32} (h1 : (Jvm.Cond.arrayOf t ty).value args s none s [] = some true) (h2 : (Jvm.Cond.eq (.length t) (.int n)).value args s none s [] = some true) :
    ∃ a cl, t.eval args s none [] s = some (.ref a) ∧ Arr s s.heap a cl ty ∧ cl.slots.size < 2 ^ 31 ∧ cl.slots.size.toInt32 = n := by
  obtain ⟨a, ha⟩ := arr_v h1
  obtain ⟨cl, A⟩ := Arr.start ha h1
  have e := own_eqint h2
  have hA : s.arrayAt? a = some cl := A.fin (Vm.Alike.refl _)
  simp only [Term.eval, ha, hA, Option.bind_eq_bind, Option.bind_some] at e
  split at e
  · rename_i q
    refine ⟨a, cl, ha, A, q, ?_⟩
    simpa using e
  · cases e
theorem own_elem {args : Array Value} {s : State} {t : Term} {ty : FieldType} {a : Addr} {cl : Cell} {j v : Int32} (ht : t.eval args s none [] s = some (.ref a)) (A : Arr s s.heap a cl ty) (h : (Jvm.Cond.eq (.elem t (.int j)) (.int v)).value args s none s [] = some true) : cl.slots[j.toNatClampNeg]? = some (.int v) :=
  (elem_in (own_eqint h) ht rfl A.1).2
theorem own_eqref {args : Array Value} {s : State} {t u : Term} {x : Addr} (hu : u.eval args s none [] s = some (.ref x)) (h : (Jvm.Cond.eq t u).value args s none s [] = some true) : t.eval args s none [] s = some (.ref x) := by
  obtain ⟨a, b, ha, hb, k1, k2⟩ := cmp_v (Or.inl h)
  cases hb.symm.trans hu
  have q : a.isRef = true := by cases a <;> simp [Kin, Value.isRef] at k1 k2 ⊢
  rcases ref_cases q with rfl | ⟨y, rfl⟩
  · simp [Cond.value, ha, hu] at h
  · have : y = x := by simpa [Cond.value, ha, hu] using h
    rw [ha, this]
theorem own_elemR {args : Array Value} {s : State} {t u : Term} {ty : FieldType} {a x : Addr} {cl : Cell} {j : Int32} (ht : t.eval args s none [] s = some (.ref a)) (A : Arr s s.heap a cl ty) (hu : u.eval args s none [] s = some (.ref x)) (h : (Jvm.Cond.eq (.elem t (.int j)) u).value args s none s [] = some true) : cl.slots[j.toNatClampNeg]? = some (.ref x) :=
  (elem_in (own_eqref hu h) ht rfl A.1).2
theorem own_sta_keep {Z : State} {h h' : Heap} {C n d D : String} {v : Value} {x : Addr} (F : Sta Z h C n d v) (E : Exa Z h x D) (K : Keep h h' [x]) : Sta Z h' C n d v := by
  obtain ⟨cf, i, k, f, st, cell, h1, h2, h3, h4, h5, h6, h7⟩ := F
  refine ⟨cf, i, k, f, st, cell, h1, h2, h3, h4, K.2.1 st cell h5 (fun q => ?_), h6, h7⟩
  cases List.mem_singleton.mp q
  obtain ⟨c2, _, g1, _, _, g4, _⟩ := E
  cases h5.symm.trans g1
  rw [h6] at g4
  cases g4
def own_AL (Z : State) (n0 : Nat) (h : Heap) (a1 ed : Addr) (ke : ClassId) (vals : List Value) (size mc : Int32) : Prop :=
  n0 ≤ h.size ∧ n0 ≤ ed ∧ Exa Z h a1 "java/util/ArrayList" ∧ Fld Z h a1 "java/util/AbstractList" "modCount" "I" (.int mc) ∧ Fld Z h a1 "java/util/ArrayList" "elementData" "[Ljava/lang/Object;" (.ref ed) ∧ Fld Z h a1 "java/util/ArrayList" "size" "I" (.int size) ∧ Arv Z h ed ke (.object "java/lang/Object") (10 : Int32) vals .null ∧ Ovr Z ke "java/lang/Object" ∧ a1 ≠ ed
theorem own_al_ext {Z : State} {n0 : Nat} {h h' : Heap} {a1 ed : Addr} {ke : ClassId} {vals : List Value} {size mc : Int32} (H : own_AL Z n0 h a1 ed ke vals size mc) (E : Ext h h') : own_AL Z n0 h' a1 ed ke vals size mc := by
  obtain ⟨x1, x2, x3, x4, x5, x6, x7, x8, x9⟩ := H
  exact ⟨Nat.le_trans x1 E.1, x2, x3.ext E, x4.ext E, x5.ext E, x6.ext E, x7.ext E, x8, x9⟩
theorem own_al_keep {Z : State} {n0 : Nat} {h h' : Heap} {a1 ed : Addr} {ke : ClassId} {vals : List Value} {size mc : Int32} (H : own_AL Z n0 h a1 ed ke vals size mc) (K : Keep h h' []) : own_AL Z n0 h' a1 ed ke vals size mc := by
  obtain ⟨x1, x2, x3, x4, x5, x6, x7, x8, x9⟩ := H
  exact ⟨Nat.le_trans x1 K.1, x2, x3.keep K, x4.keep K nin0, x5.keep K nin0, x6.keep K nin0, x7.keep K nin0, x8, x9⟩
def own_s (a b c d : Int32) : Int32 := if a = c ∧ b = d then 1 else 0
theorem own_b53 (a : Int32) : B53 a.toInt64 := by
  unfold B53; rw [c_i2l]; have := rng32 a; omega
theorem own_dcmp (a b : Int32) (o : CmpOp) : cmpValue (FP.dcmp (FP.i2d a) (FP.i2d b)) o = lcmpW a.toInt64 b.toInt64 := by
  rw [i2d_w, i2d_w]; exact dcmpV_w (own_b53 a) (own_b53 b) o
theorem own_lc (a b : Int32) : lcmpW a.toInt64 b.toInt64 = (0 : Int32) ↔ a = b := by
  rw [lw_eq, ← Int64.toInt_inj, c_i2l, c_i2l, Int32.toInt_inj]
theorem own_ch (x : Int32) : ((x &&& (255 : Int32)).toUInt32.toUInt16.toUInt32.toInt32).toInt ≤ 255 := by
  rw [i2c_mask]; exact (c_and x 255 (by decide)).2
theorem own_nz {args : Array Value} {s : State} {t : Term} {z : Int32} (e : t.eval args s none [] s = some (.int z)) (h : (Jvm.Cond.not (.eq t (.int (0 : Int32)))).value args s none s [] = some true) : ¬ z = (0 : Int32) := by
  have q := not_v h
  have hb : (Term.int (0 : Int32)).eval args s none [] s = some (.int 0) := rfl
  simpa [Cond.value, e, hb] using q
def Qown_abc (Z : State) (a1 : Addr) (h0 : Heap) (n0 : Nat) (v : Option Value) (h : Heap) (L : List Loc) : Prop := v = none ∧ Fr n0 L ∧ h = h0
set_option maxRecDepth 65536 in
set_option maxHeartbeats 40000000 in
theorem own_abc (l : Launch) (Z : State) (a0 : Array Value) (hw : ∀ d ∈ tables_1, d.before a0 Z = true) (ws : List Jvm.Cond) (a1 : Addr) (h0 : Heap) (n0 : Nat) (Z0 : n0 ≤ h0.size)  :
    MetFree l own_m0 (head1 (Jvm.Cond.code own_m0 jdk_22_method_1_code 1 none :: ws) ({ frames := 1, cells := 0, slots := 0, locals := 12 } : Room)) (fun a U => a = #[(.ref a1)] ∧ Z.Warmed39 U.vm ∧ U.heap = h0) (fun _ _ _ _ _ => True) (fun _ U o U' => ∃ v L, o = .returned v ∧ Qown_abc Z a1 h0 n0 v U'.heap L ∧ FrameEnd U o U' L ({ frames := 1, cells := 0, slots := 0, locals := 12 } : Room).cells ({ frames := 1, cells := 0, slots := 0, locals := 12 } : Room).slots) := by
  refine MetFree.of_bodySF (plainFor_of_name own_pn0) hisR ?_
  intro p e s m args below meth c s₁ Bd hml0 hP hK
  obtain ⟨rfl, hZ, hh⟩ := hP
  have hx := Bd.exec
  have hby := Bd.bytes
  have hml : c.maxLocals = 1 := hml0
  have hown : s.vm.findClass "java/util/AbstractCollection" = some m.cls := by have q := findClass_of_methodNamed Bd.named; exact q
  have hnm := (name_of_methodNamed Bd.named Bd.method).1
  have X0 : Stand p l e ({ frames := 1, cells := 0, slots := 0, locals := 12 } : Room) s m #[(.ref a1)] below meth c s₁ [] 0 0 := Stand.of_body Bd
  have e0 : s₁.heap = h0 := by rw [← hh, Bd.state]; rfl
  have N0 := Fr.nil n0
  have pre0 : ∀ t, Steps p.tables e below (s₁.setTop (mkF m 0 #[.val (.ref a1)] [])) t → Steps p.tables e below (s₁.setTop (entryFrame m #[(.ref a1)] 1)) t := fun t k => castTop (by first | (simp [entryFrame, mkF, argsToLocals, Value.category, maxLocals]; done) | rfl) k
  obtain ⟨T101, X101, e101, st101⟩ := initO X0 hx hZ hown (own_w18 hw) (own_w19 hw) (own_w20 hw) e0 (g := (mkF m 1 #[.val (.ref a1)] [(.ref a1)])) rfl (by rw [hml]; rfl) rfl (hb hby own_d3_1) (by decide) (W := 0) (by show 2 * 0 + _ ≤ _; exact Nat.le_of_eq rfl) (by decide)
  obtain ⟨fs, hr, hrun, hended, hW, hsame⟩ := X101.leave (v := none) (fun _ => rfl)
  refine ⟨_, _, pre0 _ ?_, hrun, hended, _, _, rfl, ?_, ⟨_, rfl⟩, hW, hsame.mono (by decide) (by decide)⟩
  · show Steps _ _ _ (s₁.setTop (mkF m 0 #[.val (.ref a1)] [])) _
    refine XS.aloadN X0.here hx rfl (hb hby own_d3_0) rfl rfl ?_
    refine st101 _ ?_
    show Steps _ _ _ (T101.setTop (mkF m 4 #[.val (.ref a1)] [])) _
    exact X101.returnOut hx Bd.returns (hb hby own_d3_4) hr
  · show Qown_abc Z a1 h0 n0 _ T101.heap _
    rw [e101]
    exact ⟨rfl, N0, rfl⟩
def Qown_rec (Z : State) (a1 : Addr) (h0 : Heap) (n0 : Nat) (v : Option Value) (h : Heap) (L : List Loc) : Prop := v = none ∧ Fr n0 L ∧ h = h0
set_option maxRecDepth 65536 in
set_option maxHeartbeats 40000000 in
theorem own_rec (l : Launch) (Z : State) (a0 : Array Value) (hw : ∀ d ∈ tables_1, d.before a0 Z = true) (ws : List Jvm.Cond) (a1 : Addr) (h0 : Heap) (n0 : Nat) (Z0 : n0 ≤ h0.size)  :
    MetFree l own_m1 (head1 (Jvm.Cond.code own_m1 jdk_30_method_1_code 1 none :: ws) ({ frames := 1, cells := 0, slots := 0, locals := 12 } : Room)) (fun a U => a = #[(.ref a1)] ∧ Z.Warmed39 U.vm ∧ U.heap = h0) (fun _ _ _ _ _ => True) (fun _ U o U' => ∃ v L, o = .returned v ∧ Qown_rec Z a1 h0 n0 v U'.heap L ∧ FrameEnd U o U' L ({ frames := 1, cells := 0, slots := 0, locals := 12 } : Room).cells ({ frames := 1, cells := 0, slots := 0, locals := 12 } : Room).slots) := by
  refine MetFree.of_bodySF (plainFor_of_name own_pn1) hisR ?_
  intro p e s m args below meth c s₁ Bd hml0 hP hK
  obtain ⟨rfl, hZ, hh⟩ := hP
  have hx := Bd.exec
  have hby := Bd.bytes
  have hml : c.maxLocals = 1 := hml0
  have hown : s.vm.findClass "java/lang/Record" = some m.cls := by have q := findClass_of_methodNamed Bd.named; exact q
  have hnm := (name_of_methodNamed Bd.named Bd.method).1
  have X0 : Stand p l e ({ frames := 1, cells := 0, slots := 0, locals := 12 } : Room) s m #[(.ref a1)] below meth c s₁ [] 0 0 := Stand.of_body Bd
  have e0 : s₁.heap = h0 := by rw [← hh, Bd.state]; rfl
  have N0 := Fr.nil n0
  have pre0 : ∀ t, Steps p.tables e below (s₁.setTop (mkF m 0 #[.val (.ref a1)] [])) t → Steps p.tables e below (s₁.setTop (entryFrame m #[(.ref a1)] 1)) t := fun t k => castTop (by first | (simp [entryFrame, mkF, argsToLocals, Value.category, maxLocals]; done) | rfl) k
  obtain ⟨T101, X101, e101, st101⟩ := initO X0 hx hZ hown (own_w96 hw) (own_w19 hw) (own_w20 hw) e0 (g := (mkF m 1 #[.val (.ref a1)] [(.ref a1)])) rfl (by rw [hml]; rfl) rfl (hb hby own_d15_1) (by decide) (W := 0) (by show 2 * 0 + _ ≤ _; exact Nat.le_of_eq rfl) (by decide)
  obtain ⟨fs, hr, hrun, hended, hW, hsame⟩ := X101.leave (v := none) (fun _ => rfl)
  refine ⟨_, _, pre0 _ ?_, hrun, hended, _, _, rfl, ?_, ⟨_, rfl⟩, hW, hsame.mono (by decide) (by decide)⟩
  · show Steps _ _ _ (s₁.setTop (mkF m 0 #[.val (.ref a1)] [])) _
    refine XS.aloadN X0.here hx rfl (hb hby own_d15_0) rfl rfl ?_
    refine st101 _ ?_
    show Steps _ _ _ (T101.setTop (mkF m 4 #[.val (.ref a1)] [])) _
    exact X101.returnOut hx Bd.returns (hb hby own_d15_4) hr
  · show Qown_rec Z a1 h0 n0 _ T101.heap _
    rw [e101]
    exact ⟨rfl, N0, rfl⟩
def Qown_abl (Z : State) (a1 : Addr) (h0 : Heap) (n0 : Nat) (v : Option Value) (h : Heap) (L : List Loc) : Prop := v = none ∧ Fr n0 L ∧ Keep h0 h [a1] ∧ Exa Z h a1 "java/util/ArrayList" ∧ Fld Z h a1 "java/util/AbstractList" "modCount" "I" (.int (0 : Int32)) ∧ Fld Z h a1 "java/util/ArrayList" "elementData" "[Ljava/lang/Object;" .null ∧ Fld Z h a1 "java/util/ArrayList" "size" "I" (.int (0 : Int32))
set_option maxRecDepth 65536 in
set_option maxHeartbeats 40000000 in
theorem own_abl (l : Launch) (Z : State) (a0 : Array Value) (hw : ∀ d ∈ tables_1, d.before a0 Z = true) (ws : List Jvm.Cond) (a1 : Addr) (h0 : Heap) (n0 : Nat) (Z0 : n0 ≤ h0.size) (g1 : n0 ≤ a1) (E1 : Exa Z h0 a1 "java/util/ArrayList") (F0 : Fld Z h0 a1 "java/util/AbstractList" "modCount" "I" (.int (0 : Int32))) (F1 : Fld Z h0 a1 "java/util/ArrayList" "elementData" "[Ljava/lang/Object;" .null) (F2 : Fld Z h0 a1 "java/util/ArrayList" "size" "I" (.int (0 : Int32))) :
    MetFree l own_m2 (head1 (Jvm.Cond.code own_m2 jdk_39_method_1_code 1 none :: ws) ({ frames := 2, cells := 0, slots := 0, locals := 24 } : Room)) (fun a U => a = #[(.ref a1)] ∧ Z.Warmed39 U.vm ∧ U.heap = h0) (fun _ _ _ _ _ => True) (fun _ U o U' => ∃ v L, o = .returned v ∧ Qown_abl Z a1 h0 n0 v U'.heap L ∧ FrameEnd U o U' L ({ frames := 2, cells := 0, slots := 0, locals := 24 } : Room).cells ({ frames := 2, cells := 0, slots := 0, locals := 24 } : Room).slots) := by
  refine MetFree.of_bodySF (plainFor_of_name own_pn2) hisR ?_
  intro p e s m args below meth c s₁ Bd hml0 hP hK
  obtain ⟨rfl, hZ, hh⟩ := hP
  have hx := Bd.exec
  have hby := Bd.bytes
  have hml : c.maxLocals = 1 := hml0
  have hown : s.vm.findClass "java/util/AbstractList" = some m.cls := by have q := findClass_of_methodNamed Bd.named; exact q
  have hnm := (name_of_methodNamed Bd.named Bd.method).1
  have X0 : Stand p l e ({ frames := 2, cells := 0, slots := 0, locals := 24 } : Room) s m #[(.ref a1)] below meth c s₁ [] 0 0 := Stand.of_body Bd
  have e0 : s₁.heap = h0 := by rw [← hh, Bd.state]; rfl
  have N0 := Fr.nil n0
  have pre0 : ∀ t, Steps p.tables e below (s₁.setTop (mkF m 0 #[.val (.ref a1)] [])) t → Steps p.tables e below (s₁.setTop (entryFrame m #[(.ref a1)] 1)) t := fun t k => castTop (by first | (simp [entryFrame, mkF, argsToLocals, Value.category, maxLocals]; done) | rfl) k
  obtain ⟨_, _, ⟨T101, L101, k101, n101⟩, -, X101, ⟨Lc101, hQ101, l101, y101, z101⟩, st101⟩ := X0.specialBack hx (y := own_m0) rfl hown (mvT hZ (own_w12 hw)) (mvT hZ (own_w13 hw)) (mvT hZ (own_w17 hw)) (by decide) (backOf (W := 0) (own_abc l Z a0 hw [] a1 h0 n0 Z0) hZ (own_w17 hw) (own_w16 hw) (by decide) (by decide)) (g := (mkF m 1 #[.val (.ref a1)] [(.ref a1)])) rfl (by rw [hml]; rfl) (Steps.refl _) (a := a1) (argsL := []) (rest := []) (lenOf own_pd0 rfl) rfl (by show 2 * 0 + _ ≤ _; exact Nat.le_of_eq rfl) (hb hby own_d2_1) (fun _ _ => ⟨rfl, e0, (by decide : 0 + 0 ≤ _), (by decide : 0 + 0 ≤ _)⟩)
  dsimp only [Pt.U, Pt.locs, Pt.cells, Pt.slots] at X101 l101 y101 z101 st101 hQ101
  subst l101 y101 z101
  obtain ⟨rfl, N101q, e101⟩ := hQ101
  have N101 := Fr.app N0 N101q
  obtain ⟨T102, h102, X102, e102, W102, st102⟩ := putF X101 hx hZ hown (host := "") (Or.inl (own_w21 hw)) Via.refl e101 F0 E1 (Or.inl (own_w22 hw)) (own_w1 hw) (ty := .int) (by decide) rfl rfl (g := (mkF m 6 #[.val (.ref a1)] [(.int (0 : Int32)), (.ref a1)])) rfl rfl (hb hby own_d2_6)
  have Z102 : n0 ≤ h102.size := Nat.le_trans Z0 (Nat.le_of_eq W102.size.symm)
  have K102 := (Keep.refl h0 [a1]).wr W102 (Or.inl (List.mem_of_getElem? (i := 0) rfl))
  have N102 := Fr.snoc X102 N101 g1
  have Fw102 := F0.same W102
  have c103 := (E1.wr W102)
  have c104 := (F1.other W102 (Or.inr (slot_ne (Or.inl (own_w25 hw)) (Or.inl (own_w22 hw)) (by decide) (t := (.array (.object "java/lang/Object"))) (t' := .int) (by decide) (by decide))))
  have c105 := (F2.other W102 (Or.inr (slot_ne (Or.inl (own_w62 hw)) (Or.inl (own_w22 hw)) (by decide) (t := .int) (t' := .int) (by decide) (by decide))))
  obtain ⟨fs, hr, hrun, hended, hW, hsame⟩ := X102.leave (v := none) (fun _ => rfl)
  refine ⟨_, _, pre0 _ ?_, hrun, hended, _, _, rfl, ?_, ⟨_, rfl⟩, hW, hsame.mono (by decide) (by decide)⟩
  · show Steps _ _ _ (s₁.setTop (mkF m 0 #[.val (.ref a1)] [])) _
    refine XS.aloadN X0.here hx rfl (hb hby own_d2_0) rfl rfl ?_
    refine st101.trans ?_
    refine XS.aloadN X101.here hx rfl (hb hby own_d2_4) rfl rfl ?_
    refine XS.iconst X101.here hx rfl (hb hby own_d2_5) ?_
    show Steps _ _ _ (T101.setTop (mkF m 6 #[.val (.ref a1)] [(.int (0 : Int32)), (.ref a1)])) _
    refine st102 _ ?_
    show Steps _ _ _ (T102.setTop (mkF m 9 #[.val (.ref a1)] [])) _
    exact X102.returnOut hx Bd.returns (hb hby own_d2_9) hr
  · show Qown_abl Z a1 h0 n0 _ T102.heap _
    rw [e102]
    exact ⟨rfl, N102, K102, c103, Fw102, c104, c105⟩
def Qown_ali (Z : State) (a1 da : Addr) (h0 : Heap) (n0 : Nat) (v : Option Value) (h : Heap) (L : List Loc) : Prop := v = none ∧ Fr n0 L ∧ Keep h0 h [a1] ∧ Exa Z h a1 "java/util/ArrayList" ∧ Fld Z h a1 "java/util/AbstractList" "modCount" "I" (.int (0 : Int32)) ∧ Fld Z h a1 "java/util/ArrayList" "elementData" "[Ljava/lang/Object;" (.ref da) ∧ Fld Z h a1 "java/util/ArrayList" "size" "I" (.int (0 : Int32))
set_option maxRecDepth 65536 in
set_option maxHeartbeats 40000000 in
theorem own_ali (l : Launch) (Z : State) (a0 : Array Value) (hw : ∀ d ∈ tables_1, d.before a0 Z = true) (ws : List Jvm.Cond) (a1 da : Addr) (h0 : Heap) (n0 : Nat) (Z0 : n0 ≤ h0.size) (SD : Sta Z h0 "java/util/ArrayList" "DEFAULTCAPACITY_EMPTY_ELEMENTDATA" "[Ljava/lang/Object;" (.ref da)) (g1 : n0 ≤ a1) (E1 : Exa Z h0 a1 "java/util/ArrayList") (F0 : Fld Z h0 a1 "java/util/AbstractList" "modCount" "I" (.int (0 : Int32))) (F1 : Fld Z h0 a1 "java/util/ArrayList" "elementData" "[Ljava/lang/Object;" .null) (F2 : Fld Z h0 a1 "java/util/ArrayList" "size" "I" (.int (0 : Int32))) :
    MetFree l own_m3 (head1 (Jvm.Cond.code own_m3 jdk_38_method_2_code 1 none :: ws) ({ frames := 3, cells := 0, slots := 0, locals := 36 } : Room)) (fun a U => a = #[(.ref a1)] ∧ Z.Warmed39 U.vm ∧ U.heap = h0) (fun _ _ _ _ _ => True) (fun _ U o U' => ∃ v L, o = .returned v ∧ Qown_ali Z a1 da h0 n0 v U'.heap L ∧ FrameEnd U o U' L ({ frames := 3, cells := 0, slots := 0, locals := 36 } : Room).cells ({ frames := 3, cells := 0, slots := 0, locals := 36 } : Room).slots) := by
  refine MetFree.of_bodySF (plainFor_of_name own_pn3) hisR ?_
  intro p e s m args below meth c s₁ Bd hml0 hP hK
  obtain ⟨rfl, hZ, hh⟩ := hP
  have hx := Bd.exec
  have hby := Bd.bytes
  have hml : c.maxLocals = 1 := hml0
  have hown : s.vm.findClass "java/util/ArrayList" = some m.cls := by have q := findClass_of_methodNamed Bd.named; exact q
  have hnm := (name_of_methodNamed Bd.named Bd.method).1
  have X0 : Stand p l e ({ frames := 3, cells := 0, slots := 0, locals := 36 } : Room) s m #[(.ref a1)] below meth c s₁ [] 0 0 := Stand.of_body Bd
  have e0 : s₁.heap = h0 := by rw [← hh, Bd.state]; rfl
  have N0 := Fr.nil n0
  have pre0 : ∀ t, Steps p.tables e below (s₁.setTop (mkF m 0 #[.val (.ref a1)] [])) t → Steps p.tables e below (s₁.setTop (entryFrame m #[(.ref a1)] 1)) t := fun t k => castTop (by first | (simp [entryFrame, mkF, argsToLocals, Value.category, maxLocals]; done) | rfl) k
  obtain ⟨_, _, ⟨T101, L101, k101, n101⟩, -, X101, ⟨Lc101, hQ101, l101, y101, z101⟩, st101⟩ := X0.specialBack hx (y := own_m2) rfl hown (mvT hZ (own_w6 hw)) (mvT hZ (own_w7 hw)) (mvT hZ (own_w11 hw)) (by decide) (backOf (W := 0) (own_abl l Z a0 hw [] a1 h0 n0 Z0 g1 E1 F0 F1 F2) hZ (own_w11 hw) (own_w10 hw) (by decide) (by decide)) (g := (mkF m 1 #[.val (.ref a1)] [(.ref a1)])) rfl (by rw [hml]; rfl) (Steps.refl _) (a := a1) (argsL := []) (rest := []) (lenOf own_pd0 rfl) rfl (by show 2 * 0 + _ ≤ _; exact Nat.le_of_eq rfl) (hb hby own_d1_1) (fun _ _ => ⟨rfl, e0, (by decide : 0 + 0 ≤ _), (by decide : 0 + 0 ≤ _)⟩)
  dsimp only [Pt.U, Pt.locs, Pt.cells, Pt.slots] at X101 l101 y101 z101 st101 hQ101
  subst l101 y101 z101
  obtain ⟨rfl, N101q, Kq101, Eq101, Fq101_0, Fq101_1, Fq101_2⟩ := hQ101
  have N101 := Fr.app N0 N101q
  have Z101 : n0 ≤ T101.heap.size := Nat.le_trans Z0 Kq101.1
  have K101 := (Keep.refl h0 [a1]).trans Kq101 (allS (P := fun x => x ∈ ([a1] : List Addr) ∨ h0.size ≤ x) (Or.inl (List.mem_of_getElem? (i := 0) rfl)) all0)
  have c102 := (own_sta_keep SD E1 Kq101)
  obtain ⟨T103, X103, e103, st103⟩ := getS2 X101 hx hZ hown (host := "") (Or.inl (own_w23 hw)) Via.refl rfl c102 (g := (mkF m 5 #[.val (.ref a1)] [(.ref a1)])) rfl (hb hby own_d1_5)
  obtain ⟨T104, h104, X104, e104, W104, st104⟩ := putF X103 hx hZ hown (host := "") (Or.inl (own_w24 hw)) Via.refl e103 Fq101_1 Eq101 (Or.inl (own_w25 hw)) (own_w1 hw) (ty := (.array (.object "java/lang/Object"))) (by decide) rfl rfl (g := (mkF m 8 #[.val (.ref a1)] [(.ref da), (.ref a1)])) rfl rfl (hb hby own_d1_8)
  have Z104 : n0 ≤ h104.size := Nat.le_trans Z101 (Nat.le_of_eq W104.size.symm)
  have K104 := K101.wr W104 (Or.inl (List.mem_of_getElem? (i := 0) rfl))
  have N104 := Fr.snoc X104 N101 g1
  have Fw104 := Fq101_1.same W104
  have c105 := (Eq101.wr W104)
  have c106 := (Fq101_0.other W104 (Or.inr (slot_ne (Or.inl (own_w22 hw)) (Or.inl (own_w25 hw)) (by decide) (t := .int) (t' := (.array (.object "java/lang/Object"))) (by decide) (by decide))))
  have c107 := (Fq101_2.other W104 (Or.inr (slot_ne (Or.inl (own_w62 hw)) (Or.inl (own_w25 hw)) (by decide) (t := .int) (t' := (.array (.object "java/lang/Object"))) (by decide) (by decide))))
  obtain ⟨fs, hr, hrun, hended, hW, hsame⟩ := X104.leave (v := none) (fun _ => rfl)
  refine ⟨_, _, pre0 _ ?_, hrun, hended, _, _, rfl, ?_, ⟨_, rfl⟩, hW, hsame.mono (by decide) (by decide)⟩
  · show Steps _ _ _ (s₁.setTop (mkF m 0 #[.val (.ref a1)] [])) _
    refine XS.aloadN X0.here hx rfl (hb hby own_d1_0) rfl rfl ?_
    refine st101.trans ?_
    refine XS.aloadN X101.here hx rfl (hb hby own_d1_4) rfl rfl ?_
    refine st103 _ ?_
    show Steps _ _ _ (T103.setTop (mkF m 8 #[.val (.ref a1)] [(.ref da), (.ref a1)])) _
    refine st104 _ ?_
    show Steps _ _ _ (T104.setTop (mkF m 11 #[.val (.ref a1)] [])) _
    exact X104.returnOut hx Bd.returns (hb hby own_d1_11) hr
  · show Qown_ali Z a1 da h0 n0 _ T104.heap _
    rw [e104]
    exact ⟨rfl, N104, K104, c105, c106, Fw104, c107⟩
def Qown_can (Z : State) (p1 : Int32) (h0 : Heap) (n0 : Nat) (v : Option Value) (h : Heap) (L : List Loc) : Prop := v = some (.int (1 : Int32)) ∧ Fr n0 L ∧ h = h0
set_option maxRecDepth 65536 in
set_option maxHeartbeats 40000000 in
theorem own_can (l : Launch) (Z : State) (a0 : Array Value) (hw : ∀ d ∈ tables_1, d.before a0 Z = true) (ws : List Jvm.Cond) (p1 : Int32) (h0 : Heap) (n0 : Nat) (Z0 : n0 ≤ h0.size) (hp : p1.toInt ≤ 255) :
    MetFree l own_m4 (head1 (Jvm.Cond.code own_m4 jdk_43_method_3_code 1 (some .boolean) :: ws) ({ frames := 0, cells := 0, slots := 0, locals := 0 } : Room)) (fun a U => a = #[(.int p1)] ∧ Z.Warmed39 U.vm ∧ U.heap = h0) (fun _ _ _ _ _ => True) (fun _ U o U' => ∃ v L, o = .returned v ∧ Qown_can Z p1 h0 n0 v U'.heap L ∧ FrameEnd U o U' L ({ frames := 0, cells := 0, slots := 0, locals := 0 } : Room).cells ({ frames := 0, cells := 0, slots := 0, locals := 0 } : Room).slots) := by
  refine MetFree.of_bodySF (plainFor_of_name own_pn4) hisR ?_
  intro p e s m args below meth c s₁ Bd hml0 hP hK
  obtain ⟨rfl, hZ, hh⟩ := hP
  have hx := Bd.exec
  have hby := Bd.bytes
  have hml : c.maxLocals = 1 := hml0
  have hown : s.vm.findClass "java/lang/StringLatin1" = some m.cls := by have q := findClass_of_methodNamed Bd.named; exact q
  have hnm := (name_of_methodNamed Bd.named Bd.method).1
  have X0 : Stand p l e ({ frames := 0, cells := 0, slots := 0, locals := 0 } : Room) s m #[(.int p1)] below meth c s₁ [] 0 0 := Stand.of_body Bd
  have e0 : s₁.heap = h0 := by rw [← hh, Bd.state]; rfl
  have N0 := Fr.nil n0
  have pre0 : ∀ t, Steps p.tables e below (s₁.setTop (mkF m 0 #[.val (.int p1)] [])) t → Steps p.tables e below (s₁.setTop (entryFrame m #[(.int p1)] 1)) t := fun t k => castTop (by first | (simp [entryFrame, mkF, argsToLocals, Value.category, maxLocals]; done) | rfl) k
  obtain ⟨fs, hr, hrun, hended, hW, hsame⟩ := X0.leave (v := some (.int (1 : Int32))) (fun h => by rw [Bd.returns] at h; cases h)
  refine ⟨_, _, pre0 _ ?_, hrun, hended, _, _, rfl, ?_, ⟨_, rfl⟩, hW, hsame.mono (by decide) (by decide)⟩
  · show Steps _ _ _ (s₁.setTop (mkF m 0 #[.val (.int p1)] [])) _
    refine XS.iloadN X0.here hx rfl (hb hby own_d6_0) rfl ?_
    refine XS.sipush X0.here hx rfl (hb hby own_d6_1) ?_
    refine XS.icmpNo X0.here hx rfl (hb hby own_d6_4) rfl (flt (own_ngt_of (a := (255 : Int32)) (k := 255) rfl hp)).2.2.1 ?_
    refine XS.iconst X0.here hx rfl (hb hby own_d6_7) ?_
    show Steps _ _ _ (s₁.setTop (mkF m 8 #[.val (.int p1)] [(.int (1 : Int32))])) _
    refine XS.goto X0.here hx rfl (pc0 := 8) (pc' := 12) rfl (hb hby own_d6_8) (by decide) (by decide) ?_
    show Steps _ _ _ (s₁.setTop (mkF m 12 #[.val (.int p1)] [(.int (1 : Int32))])) _
    exact retN X0 hx (t := .boolean) Bd.returns (by simp) (hb hby own_d6_12) hr
  · show Qown_can Z p1 h0 n0 _ s₁.heap _
    rw [e0]
    exact ⟨rfl, N0, rfl⟩
def Qown_tob (Z : State) (p1 : Int32) (h0 : Heap) (n0 : Nat) (v : Option Value) (h : Heap) (L : List Loc) : Prop := ∃ b : Addr, v = some (.ref b) ∧ Fr n0 L ∧ Keep h0 h []
set_option maxRecDepth 65536 in
set_option maxHeartbeats 40000000 in
theorem own_tob (l : Launch) (Z : State) (a0 : Array Value) (hw : ∀ d ∈ tables_1, d.before a0 Z = true) (ws : List Jvm.Cond) (p1 : Int32) (h0 : Heap) (n0 : Nat) (Z0 : n0 ≤ h0.size)  :
    MetFree l own_m5 (head1 (Jvm.Cond.code own_m5 jdk_43_method_46_code 1 (some (.array .byte)) :: ws) ({ frames := 0, cells := 1, slots := 1, locals := 0 } : Room)) (fun a U => a = #[(.int p1)] ∧ Z.Warmed39 U.vm ∧ U.heap = h0) (fun _ _ _ _ _ => True) (fun _ U o U' => ∃ v L, o = .returned v ∧ Qown_tob Z p1 h0 n0 v U'.heap L ∧ FrameEnd U o U' L ({ frames := 0, cells := 1, slots := 1, locals := 0 } : Room).cells ({ frames := 0, cells := 1, slots := 1, locals := 0 } : Room).slots) := by
  refine MetFree.of_bodySF (plainFor_of_name own_pn4) hisR ?_
  intro p e s m args below meth c s₁ Bd hml0 hP hK
  obtain ⟨rfl, hZ, hh⟩ := hP
  have hx := Bd.exec
  have hby := Bd.bytes
  have hml : c.maxLocals = 1 := hml0
  have hown : s.vm.findClass "java/lang/StringLatin1" = some m.cls := by have q := findClass_of_methodNamed Bd.named; exact q
  have hnm := (name_of_methodNamed Bd.named Bd.method).1
  have X0 : Stand p l e ({ frames := 0, cells := 1, slots := 1, locals := 0 } : Room) s m #[(.int p1)] below meth c s₁ [] 0 0 := Stand.of_body Bd
  have e0 : s₁.heap = h0 := by rw [← hh, Bd.state]; rfl
  have N0 := Fr.nil n0
  have pre0 : ∀ t, Steps p.tables e below (s₁.setTop (mkF m 0 #[.val (.int p1)] [])) t → Steps p.tables e below (s₁.setTop (entryFrame m #[(.int p1)] 1)) t := fun t k => castTop (by first | (simp [entryFrame, mkF, argsToLocals, Value.category, maxLocals]; done) | rfl) k
  obtain ⟨T101, h101, k101, X101, e101, E101, A101, st101⟩ := newP (aty := .byte) X0 hx hZ (own_w40 hw) e0 (g := (mkF m 1 #[.val (.int p1)] [(.int (1 : Int32))])) rfl (hb hby own_d7_1) rfl (by decide) (cap := 1) (by decide) (by decide) (by decide) (by decide)
  obtain ⟨b101, g101⟩ : ∃ z, z = h0.size := ⟨_, rfl⟩
  rw [← g101] at A101 st101
  have g_b101 : n0 ≤ b101 := Nat.le_trans Z0 (Nat.le_of_eq g101.symm)
  have sz_b101 : h0.size ≤ b101 := Nat.le_trans (Keep.refl h0 []).1 (Nat.le_of_eq g101.symm)
  have Z101 : n0 ≤ h101.size := Nat.le_trans Z0 E101.1
  have K101 := (Keep.refl h0 []).ext E101
  have V101 : Arv Z h101 b101 k101 .byte (1 : Int32) [(.int (0 : Int32))] (.int (0 : Int32)) := (Arv.new A101 (by decide)).pad (pad_rep [] (.int (0 : Int32)) 1)
  obtain ⟨cl102, Ar102, Aq102, As102, An102, Ah102, Ag102⟩ := id V101
  have hin102 : ¬ ((0 : Int32) < 0 ∨ cl102.slots.size ≤ ((0 : Int32)).toNatClampNeg) := inb_of As102 ⟨by decide, by decide⟩
  obtain ⟨T103, h103, X103, e103, W103, st103⟩ := stB X101 hx hZ e101 Ar102 (j := (0 : Int32)) hin102 (g := (mkF m 7 #[.val (.int p1)] [(.int (p1.toInt8.toInt32)), (.int (0 : Int32)), (.ref b101), (.ref b101)])) rfl rfl (hb hby own_d7_7)
  have Z103 : n0 ≤ h103.size := Nat.le_trans Z101 (Nat.le_of_eq W103.size.symm)
  have K103 := K101.wr W103 (Or.inr sz_b101)
  have N103 := Fr.snoc X103 N0 g_b101
  obtain ⟨fs, hr, hrun, hended, hW, hsame⟩ := X103.leave (v := some (.ref b101)) (fun h => by rw [Bd.returns] at h; cases h)
  refine ⟨_, _, pre0 _ ?_, hrun, hended, _, _, rfl, ?_, ⟨_, rfl⟩, hW, hsame.mono (by decide) (by decide)⟩
  · show Steps _ _ _ (s₁.setTop (mkF m 0 #[.val (.int p1)] [])) _
    refine XS.iconst X0.here hx rfl (hb hby own_d7_0) ?_
    refine st101 _ ?_
    refine XS.dup X101.here hx rfl (hb hby own_d7_3) rfl rfl ?_
    refine XS.iconst X101.here hx rfl (hb hby own_d7_4) ?_
    show Steps _ _ _ (T101.setTop (mkF m 5 #[.val (.int p1)] [(.int (0 : Int32)), (.ref b101), (.ref b101)])) _
    refine XS.iloadN X101.here hx rfl (hb hby own_d7_5) rfl ?_
    refine XS.i2b X101.here hx rfl (hb hby own_d7_6) rfl ?_
    refine st103 _ ?_
    show Steps _ _ _ (T103.setTop (mkF m 8 #[.val (.int p1)] [(.ref b101)])) _
    jvm_step X103.here [X103.here.top, hx, (hb hby own_d7_8), X103.method', Bd.returns, Value.isRef, FieldType.isReference]
    first | (intro acts; rw [hr _ acts rfl rfl rfl]) | rw [hr _ _ rfl rfl rfl]
    exact Steps.refl _
  · show Qown_tob Z p1 h0 n0 _ T103.heap _
    rw [e103]
    exact ⟨b101, rfl, N103, K103⟩
def Qown_si (Z : State) (a1 a2 : Addr) (h0 : Heap) (n0 : Nat) (v : Option Value) (h : Heap) (L : List Loc) : Prop := v = none ∧ Fr n0 L ∧ Keep h0 h [a1]
set_option maxRecDepth 65536 in
set_option maxHeartbeats 40000000 in
theorem own_si (l : Launch) (Z : State) (a0 : Array Value) (hw : ∀ d ∈ tables_1, d.before a0 Z = true) (ws : List Jvm.Cond) (a1 a2 : Addr) (h0 : Heap) (n0 : Nat) (Z0 : n0 ≤ h0.size) (g1 : n0 ≤ a1) (E1 : Exa Z h0 a1 "java/lang/String") (F0 : Fld Z h0 a1 "java/lang/String" "value" "[B" .null) (F1 : Fld Z h0 a1 "java/lang/String" "coder" "B" (.int (0 : Int32))) :
    MetFree l own_m6 (head1 (Jvm.Cond.code own_m6 jdk_42_method_151_code 3 none :: ws) ({ frames := 1, cells := 0, slots := 0, locals := 12 } : Room)) (fun a U => a = #[(.ref a1), (.ref a2), (.int (0 : Int32))] ∧ Z.Warmed39 U.vm ∧ U.heap = h0) (fun _ _ _ _ _ => True) (fun _ U o U' => ∃ v L, o = .returned v ∧ Qown_si Z a1 a2 h0 n0 v U'.heap L ∧ FrameEnd U o U' L ({ frames := 1, cells := 0, slots := 0, locals := 12 } : Room).cells ({ frames := 1, cells := 0, slots := 0, locals := 12 } : Room).slots) := by
  refine MetFree.of_bodySF (plainFor_of_name own_pn5) hisR ?_
  intro p e s m args below meth c s₁ Bd hml0 hP hK
  obtain ⟨rfl, hZ, hh⟩ := hP
  have hx := Bd.exec
  have hby := Bd.bytes
  have hml : c.maxLocals = 3 := hml0
  have hown : s.vm.findClass "java/lang/String" = some m.cls := by have q := findClass_of_methodNamed Bd.named; exact q
  have hnm := (name_of_methodNamed Bd.named Bd.method).1
  have X0 : Stand p l e ({ frames := 1, cells := 0, slots := 0, locals := 12 } : Room) s m #[(.ref a1), (.ref a2), (.int (0 : Int32))] below meth c s₁ [] 0 0 := Stand.of_body Bd
  have e0 : s₁.heap = h0 := by rw [← hh, Bd.state]; rfl
  have N0 := Fr.nil n0
  have pre0 : ∀ t, Steps p.tables e below (s₁.setTop (mkF m 0 #[.val (.ref a1), .val (.ref a2), .val (.int (0 : Int32))] [])) t → Steps p.tables e below (s₁.setTop (entryFrame m #[(.ref a1), (.ref a2), (.int (0 : Int32))] 3)) t := fun t k => castTop (by first | (simp [entryFrame, mkF, argsToLocals, Value.category, maxLocals]; done) | rfl) k
  obtain ⟨T101, X101, e101, st101⟩ := initO X0 hx hZ hown (own_w45 hw) (own_w19 hw) (own_w20 hw) e0 (g := (mkF m 1 #[.val (.ref a1), .val (.ref a2), .val (.int (0 : Int32))] [(.ref a1)])) rfl (by rw [hml]; rfl) rfl (hb hby own_d8_1) (by decide) (W := 0) (by show 2 * 0 + _ ≤ _; exact Nat.le_of_eq rfl) (by decide)
  obtain ⟨T102, h102, X102, e102, W102, st102⟩ := putF X101 hx hZ hown (host := "") (Or.inl (own_w46 hw)) Via.refl e101 F0 E1 (Or.inr ⟨(own_w47 hw), rfl, hnm⟩) (own_w36 hw) (ty := (.array .byte)) (by decide) rfl rfl (g := (mkF m 6 #[.val (.ref a1), .val (.ref a2), .val (.int (0 : Int32))] [(.ref a2), (.ref a1)])) rfl rfl (hb hby own_d8_6)
  have Z102 : n0 ≤ h102.size := Nat.le_trans Z0 (Nat.le_of_eq W102.size.symm)
  have K102 := (Keep.refl h0 [a1]).wr W102 (Or.inl (List.mem_of_getElem? (i := 0) rfl))
  have N102 := Fr.snoc X102 N0 g1
  have Fw102 := F0.same W102
  have c103 := (E1.wr W102)
  have c104 := (F1.other W102 (Or.inr (slot_ne (Or.inr (own_w49 hw)) (Or.inr (own_w47 hw)) (by decide) (t := .byte) (t' := (.array .byte)) (by decide) (by decide))))
  obtain ⟨T105, h105, X105, e105, W105, st105⟩ := putFN X102 hx hZ hown (own_w48 hw) Via.refl e102 c104 c103 (Or.inr ⟨(own_w49 hw), rfl, hnm⟩) (own_w36 hw) (ty := .byte) (v' := (.int (0 : Int32))) (by decide) rfl (by decide) (g := (mkF m 11 #[.val (.ref a1), .val (.ref a2), .val (.int (0 : Int32))] [(.int (0 : Int32)), (.ref a1)])) rfl rfl (hb hby own_d8_11)
  have Z105 : n0 ≤ h105.size := Nat.le_trans Z102 (Nat.le_of_eq W105.size.symm)
  have K105 := K102.wr W105 (Or.inl (List.mem_of_getElem? (i := 0) rfl))
  have N105 := Fr.snoc X105 N102 g1
  have Fw105 := c104.same W105
  obtain ⟨fs, hr, hrun, hended, hW, hsame⟩ := X105.leave (v := none) (fun _ => rfl)
  refine ⟨_, _, pre0 _ ?_, hrun, hended, _, _, rfl, ?_, ⟨_, rfl⟩, hW, hsame.mono (by decide) (by decide)⟩
  · show Steps _ _ _ (s₁.setTop (mkF m 0 #[.val (.ref a1), .val (.ref a2), .val (.int (0 : Int32))] [])) _
    refine XS.aloadN X0.here hx rfl (hb hby own_d8_0) rfl rfl ?_
    refine st101 _ ?_
    refine XS.aloadN X101.here hx rfl (hb hby own_d8_4) rfl rfl ?_
    refine XS.aloadN X101.here hx rfl (hb hby own_d8_5) rfl rfl ?_
    show Steps _ _ _ (T101.setTop (mkF m 6 #[.val (.ref a1), .val (.ref a2), .val (.int (0 : Int32))] [(.ref a2), (.ref a1)])) _
    refine st102 _ ?_
    refine XS.aloadN X102.here hx rfl (hb hby own_d8_9) rfl rfl ?_
    refine XS.iloadN X102.here hx rfl (hb hby own_d8_10) rfl ?_
    refine st105 _ ?_
    show Steps _ _ _ (T105.setTop (mkF m 14 #[.val (.ref a1), .val (.ref a2), .val (.int (0 : Int32))] [])) _
    exact X105.returnOut hx Bd.returns (hb hby own_d8_14) hr
  · show Qown_si Z a1 a2 h0 n0 _ T105.heap _
    rw [e105]
    exact ⟨rfl, N105, K105⟩
def Qown_vo (Z : State) (p1 cs : Int32) (h0 : Heap) (n0 : Nat) (v : Option Value) (h : Heap) (L : List Loc) : Prop := ∃ b : Addr, v = some (.ref b) ∧ Fr n0 L ∧ Keep h0 h [] ∧ Exa Z h b "java/lang/String"
set_option maxRecDepth 65536 in
set_option maxHeartbeats 40000000 in
theorem own_vo (l : Launch) (Z : State) (a0 : Array Value) (hw : ∀ d ∈ tables_1, d.before a0 Z = true) (ws : List Jvm.Cond) (p1 cs : Int32) (h0 : Heap) (n0 : Nat) (Z0 : n0 ≤ h0.size) (hp : p1.toInt ≤ 255) (SC : Sta Z h0 "java/lang/String" "COMPACT_STRINGS" "Z" (.int cs)) (hcs : ¬ cs = (0 : Int32)) :
    MetFree l own_m7 (head1 (Jvm.Cond.code own_m7 jdk_42_method_139_code 1 (some (.object "java/lang/String")) :: ws) ({ frames := 2, cells := 2, slots := 5, locals := 27 } : Room)) (fun a U => a = #[(.int p1)] ∧ Z.Warmed39 U.vm ∧ U.heap = h0) (fun _ _ _ _ _ => True) (fun _ U o U' => ∃ v L, o = .returned v ∧ Qown_vo Z p1 cs h0 n0 v U'.heap L ∧ FrameEnd U o U' L ({ frames := 2, cells := 2, slots := 5, locals := 27 } : Room).cells ({ frames := 2, cells := 2, slots := 5, locals := 27 } : Room).slots) := by
  refine MetFree.of_bodySF (plainFor_of_name own_pn5) hisR ?_
  intro p e s m args below meth c s₁ Bd hml0 hP hK
  obtain ⟨rfl, hZ, hh⟩ := hP
  have hx := Bd.exec
  have hby := Bd.bytes
  have hml : c.maxLocals = 1 := hml0
  have hown : s.vm.findClass "java/lang/String" = some m.cls := by have q := findClass_of_methodNamed Bd.named; exact q
  have hnm := (name_of_methodNamed Bd.named Bd.method).1
  have X0 : Stand p l e ({ frames := 2, cells := 2, slots := 5, locals := 27 } : Room) s m #[(.int p1)] below meth c s₁ [] 0 0 := Stand.of_body Bd
  have e0 : s₁.heap = h0 := by rw [← hh, Bd.state]; rfl
  have N0 := Fr.nil n0
  have pre0 : ∀ t, Steps p.tables e below (s₁.setTop (mkF m 0 #[.val (.int p1)] [])) t → Steps p.tables e below (s₁.setTop (entryFrame m #[(.int p1)] 1)) t := fun t k => castTop (by first | (simp [entryFrame, mkF, argsToLocals, Value.category, maxLocals]; done) | rfl) k
  obtain ⟨T101, X101, e101, st101⟩ := getS2 X0 hx hZ hown (host := "") (Or.inl (own_w30 hw)) Via.refl e0 SC (g := (mkF m 0 #[.val (.int p1)] [])) rfl (hb hby own_d5_0)
  obtain ⟨_, _, ⟨T102, L102, k102, n102⟩, -, X102, ⟨Lc102, hQ102, l102, y102, z102⟩, st102⟩ := Jvm.LawKit.callS X101 hx (y := own_m4) hown (mvT hZ (own_w31 hw)) (mvT hZ (own_w32 hw)) (mvT hZ (own_w33 hw)) (mvT hZ (own_w34 hw)) (by decide) (backOf (W := 0) (own_can l Z a0 hw [] p1 h0 n0 Z0 hp) hZ (own_w34 hw) (own_w33 hw) (by decide) (by decide)) (g := (mkF m 7 #[.val (.int p1)] [(.int p1)])) rfl (by rw [hml]; rfl) (argsL := [(.int p1)]) (rest := []) (lenOf own_pd1 rfl) rfl (by show 2 * 0 + _ ≤ _; exact Nat.le_of_eq rfl) (hb hby own_d5_7) (fun _ _ => ⟨rfl, e101, (by decide : 0 + 0 ≤ _), (by decide : 0 + 0 ≤ _)⟩)
  dsimp only [Pt.U, Pt.locs, Pt.cells, Pt.slots] at X102 l102 y102 z102 st102 hQ102
  subst l102 y102 z102
  obtain ⟨rfl, N102q, e102⟩ := hQ102
  have N102 := Fr.app N0 N102q
  obtain ⟨T103, h103, X103, e103, E103, A103, D103, -, st103⟩ := newO X102 hx hZ hown (own_w35 hw) (own_w36 hw) (own_w28 hw) e102 (g := (mkF m 13 #[.val (.int p1)] [])) rfl (hb hby own_d5_13) (by decide) (by decide)
  obtain ⟨b103, g103⟩ : ∃ z, z = h0.size := ⟨_, rfl⟩
  rw [← g103] at A103 D103 st103
  have g_b103 : n0 ≤ b103 := Nat.le_trans Z0 (Nat.le_of_eq g103.symm)
  have sz_b103 : h0.size ≤ b103 := Nat.le_trans (Keep.refl h0 []).1 (Nat.le_of_eq g103.symm)
  have Z103 : n0 ≤ h103.size := Nat.le_trans Z0 E103.1
  have K103 := (Keep.refl h0 []).ext E103
  have F103_47 : Fld Z h103 b103 "java/lang/String" "value" "[B" .null := D103 (Or.inr (own_w47 hw)) (ty := (.array .byte)) (by decide)
  have F103_49 : Fld Z h103 b103 "java/lang/String" "coder" "B" (.int (0 : Int32)) := D103 (Or.inr (own_w49 hw)) (ty := .byte) (by decide)
  obtain ⟨_, _, ⟨T104, L104, k104, n104⟩, -, X104, ⟨Lc104, hQ104, l104, y104, z104⟩, st104⟩ := Jvm.LawKit.callS X103 hx (y := own_m5) hown (mvT hZ (own_w37 hw)) (mvT hZ (own_w38 hw)) (mvT hZ (own_w33 hw)) (mvT hZ (own_w39 hw)) (by decide) (backOf (W := 2) (own_tob l Z a0 hw [] p1 h103 n0 Z103) hZ (own_w39 hw) (own_w33 hw) (by decide) (by decide)) (g := (mkF m 18 #[.val (.int p1)] [(.int p1), (.ref b103), (.ref b103)])) rfl (by rw [hml]; rfl) (argsL := [(.int p1)]) (rest := [(.ref b103), (.ref b103)]) (lenOf own_pd2 rfl) rfl (by show 2 * 0 + _ ≤ _; exact Nat.le_of_eq rfl) (hb hby own_d5_18) (fun _ _ => ⟨rfl, e103, (by decide : 1 + 1 ≤ _), (by decide : 4 + 1 ≤ _)⟩)
  dsimp only [Pt.U, Pt.locs, Pt.cells, Pt.slots] at X104 l104 y104 z104 st104 hQ104
  subst l104 y104 z104
  obtain ⟨by104, rfl, N104q, Kq104⟩ := hQ104
  have N104 := Fr.app N102 N104q
  have Z104 : n0 ≤ T104.heap.size := Nat.le_trans Z103 Kq104.1
  have K104 := K103.trans Kq104 all0
  have c105 := (A103.keep Kq104)
  have c106 := (F103_47.keep Kq104 nin0)
  have c107 := (F103_49.keep Kq104 nin0)
  obtain ⟨_, _, ⟨T108, L108, k108, n108⟩, -, X108, ⟨Lc108, hQ108, l108, y108, z108⟩, st108⟩ := X104.specialBack hx (y := own_m6) rfl hown (mvT hZ (own_w41 hw)) (mvT hZ (own_w42 hw)) (mvT hZ (own_w44 hw)) (by decide) (backOf (W := 1) (own_si l Z a0 hw [] b103 by104 T104.heap n0 Z104 g_b103 c105 c106 c107) hZ (own_w44 hw) (own_w28 hw) (by decide) (by decide)) (g := (mkF m 22 #[.val (.int p1)] [(.int (0 : Int32)), (.ref by104), (.ref b103), (.ref b103)])) rfl (by rw [hml]; rfl) (Steps.refl _) (a := b103) (argsL := [(.ref by104), (.int (0 : Int32))]) (rest := [(.ref b103)]) (lenOf own_pd3 rfl) rfl (by show 2 * 0 + _ ≤ _; exact Nat.le_of_eq rfl) (hb hby own_d5_22) (fun _ _ => ⟨rfl, rfl, (by decide : 2 + 0 ≤ _), (by decide : 5 + 0 ≤ _)⟩)
  dsimp only [Pt.U, Pt.locs, Pt.cells, Pt.slots] at X108 l108 y108 z108 st108 hQ108
  subst l108 y108 z108
  obtain ⟨rfl, N108q, Kq108⟩ := hQ108
  have N108 := Fr.app N104 N108q
  have Z108 : n0 ≤ T108.heap.size := Nat.le_trans Z104 Kq108.1
  have K108 := K104.trans Kq108 (allS (P := fun x => x ∈ ([] : List Addr) ∨ h0.size ≤ x) (Or.inr sz_b103) all0)
  have c109 := (c105.keep Kq108)
  obtain ⟨fs, hr, hrun, hended, hW, hsame⟩ := X108.leave (v := some (.ref b103)) (fun h => by rw [Bd.returns] at h; cases h)
  refine ⟨_, _, pre0 _ ?_, hrun, hended, _, _, rfl, ?_, ⟨_, rfl⟩, hW, hsame.mono (by decide) (by decide)⟩
  · show Steps _ _ _ (s₁.setTop (mkF m 0 #[.val (.int p1)] [])) _
    refine st101 _ ?_
    refine XS.ifNo X101.here hx rfl (hb hby own_d5_3) rfl ((if0 _ _).trans (feq hcs).1) ?_
    refine XS.iloadN X101.here hx rfl (hb hby own_d5_6) rfl ?_
    refine st102 _ ?_
    show Steps _ _ _ (T102.setTop (mkF m 10 #[.val (.int p1)] [(.int (1 : Int32))])) _
    refine XS.ifNo X102.here hx rfl (hb hby own_d5_10) rfl ((if0 _ _).trans (feq (by decide : ¬ ((1 : Int32) = (0 : Int32)))).1) ?_
    refine st103 _ ?_
    refine XS.dup X103.here hx rfl (hb hby own_d5_16) rfl rfl ?_
    refine XS.iloadN X103.here hx rfl (hb hby own_d5_17) rfl ?_
    show Steps _ _ _ (T103.setTop (mkF m 18 #[.val (.int p1)] [(.int p1), (.ref b103), (.ref b103)])) _
    refine st104 _ ?_
    refine XS.iconst X104.here hx rfl (hb hby own_d5_21) ?_
    refine st108.trans ?_
    show Steps _ _ _ (T108.setTop (mkF m 25 #[.val (.int p1)] [(.ref b103)])) _
    jvm_step X108.here [X108.here.top, hx, (hb hby own_d5_25), X108.method', Bd.returns, Value.isRef, FieldType.isReference]
    first | (intro acts; rw [hr _ acts rfl rfl rfl]) | rw [hr _ _ rfl rfl rfl]
    exact Steps.refl _
  · show Qown_vo Z p1 cs h0 n0 _ T108.heap _
    exact ⟨b103, rfl, N108, K108, c109⟩
def Qown_max (Z : State)  (h0 : Heap) (n0 : Nat) (v : Option Value) (h : Heap) (L : List Loc) : Prop := v = some (.int (10 : Int32)) ∧ Fr n0 L ∧ h = h0
set_option maxRecDepth 65536 in
set_option maxHeartbeats 40000000 in
theorem own_max (l : Launch) (Z : State) (a0 : Array Value) (hw : ∀ d ∈ tables_1, d.before a0 Z = true) (ws : List Jvm.Cond)  (h0 : Heap) (n0 : Nat) (Z0 : n0 ≤ h0.size)  :
    MetFree l own_m8 (head1 (Jvm.Cond.code own_m8 jdk_29_method_65_code 2 (some .int) :: ws) ({ frames := 0, cells := 0, slots := 0, locals := 0 } : Room)) (fun a U => a = #[(.int (10 : Int32)), (.int (1 : Int32))] ∧ Z.Warmed39 U.vm ∧ U.heap = h0) (fun _ _ _ _ _ => True) (fun _ U o U' => ∃ v L, o = .returned v ∧ Qown_max Z  h0 n0 v U'.heap L ∧ FrameEnd U o U' L ({ frames := 0, cells := 0, slots := 0, locals := 0 } : Room).cells ({ frames := 0, cells := 0, slots := 0, locals := 0 } : Room).slots) := by
  refine MetFree.of_bodySF (Jvm.Free.JP.mathPlain rfl (by decide +kernel)) hisR ?_
  intro p e s m args below meth c s₁ Bd hml0 hP hK
  obtain ⟨rfl, hZ, hh⟩ := hP
  have hx := Bd.exec
  have hby := Bd.bytes
  have hml : c.maxLocals = 2 := hml0
  have hown : s.vm.findClass "java/lang/Math" = some m.cls := by have q := findClass_of_methodNamed Bd.named; exact q
  have hnm := (name_of_methodNamed Bd.named Bd.method).1
  have X0 : Stand p l e ({ frames := 0, cells := 0, slots := 0, locals := 0 } : Room) s m #[(.int (10 : Int32)), (.int (1 : Int32))] below meth c s₁ [] 0 0 := Stand.of_body Bd
  have e0 : s₁.heap = h0 := by rw [← hh, Bd.state]; rfl
  have N0 := Fr.nil n0
  have pre0 : ∀ t, Steps p.tables e below (s₁.setTop (mkF m 0 #[.val (.int (10 : Int32)), .val (.int (1 : Int32))] [])) t → Steps p.tables e below (s₁.setTop (entryFrame m #[(.int (10 : Int32)), (.int (1 : Int32))] 2)) t := fun t k => castTop (by first | (simp [entryFrame, mkF, argsToLocals, Value.category, maxLocals]; done) | rfl) k
  obtain ⟨fs, hr, hrun, hended, hW, hsame⟩ := X0.leave (v := some (.int (10 : Int32))) (fun h => by rw [Bd.returns] at h; cases h)
  refine ⟨_, _, pre0 _ ?_, hrun, hended, _, _, rfl, ?_, ⟨_, rfl⟩, hW, hsame.mono (by decide) (by decide)⟩
  · show Steps _ _ _ (s₁.setTop (mkF m 0 #[.val (.int (10 : Int32)), .val (.int (1 : Int32))] [])) _
    refine XS.iloadN X0.here hx rfl (hb hby own_d13_0) rfl ?_
    refine XS.iloadN X0.here hx rfl (hb hby own_d13_1) rfl ?_
    refine XS.icmpNo X0.here hx rfl (hb hby own_d13_2) rfl (flt (by decide : ¬ ((10 : Int32) < (1 : Int32)))).1 ?_
    refine XS.iloadN X0.here hx rfl (hb hby own_d13_5) rfl ?_
    show Steps _ _ _ (s₁.setTop (mkF m 6 #[.val (.int (10 : Int32)), .val (.int (1 : Int32))] [(.int (10 : Int32))])) _
    refine XS.goto X0.here hx rfl (pc0 := 6) (pc' := 10) rfl (hb hby own_d13_6) (by decide) (by decide) ?_
    show Steps _ _ _ (s₁.setTop (mkF m 10 #[.val (.int (10 : Int32)), .val (.int (1 : Int32))] [(.int (10 : Int32))])) _
    exact retI X0 hx Bd.returns (hb hby own_d13_10) hr
  · show Qown_max Z  h0 n0 _ s₁.heap _
    rw [e0]
    exact ⟨rfl, N0, rfl⟩
def Qown_growI (Z : State) (a1 da : Addr) (kd : ClassId) (h0 : Heap) (n0 : Nat) (v : Option Value) (h : Heap) (L : List Loc) : Prop := ∃ (ed : Addr) (ke : ClassId), v = some (.ref ed) ∧ Fr n0 L ∧ Keep h0 h [a1] ∧ h0.size ≤ ed ∧ own_AL Z n0 h a1 ed ke [.null, .null, .null, .null, .null, .null, .null, .null, .null, .null] (0 : Int32) (1 : Int32)
set_option maxRecDepth 65536 in
set_option maxHeartbeats 40000000 in
theorem own_growI (l : Launch) (Z : State) (a0 : Array Value) (hw : ∀ d ∈ tables_1, d.before a0 Z = true) (ws : List Jvm.Cond) (a1 da : Addr) (kd : ClassId) (h0 : Heap) (n0 : Nat) (Z0 : n0 ≤ h0.size) (g1 : n0 ≤ a1) (E1 : Exa Z h0 a1 "java/util/ArrayList") (F0 : Fld Z h0 a1 "java/util/AbstractList" "modCount" "I" (.int (1 : Int32))) (F1 : Fld Z h0 a1 "java/util/ArrayList" "elementData" "[Ljava/lang/Object;" (.ref da)) (F2 : Fld Z h0 a1 "java/util/ArrayList" "size" "I" (.int (0 : Int32))) (SD : Sta Z h0 "java/util/ArrayList" "DEFAULTCAPACITY_EMPTY_ELEMENTDATA" "[Ljava/lang/Object;" (.ref da)) (VD : Arv Z h0 da kd (.object "java/lang/Object") (0 : Int32) [] .null) (nda : da ≠ a1) :
    MetFree l own_m9 (head1 (Jvm.Cond.code own_m9 jdk_38_method_6_code 4 (some (.array (.object "java/lang/Object"))) :: ws) ({ frames := 1, cells := 1, slots := 10, locals := 14 } : Room)) (fun a U => a = #[(.ref a1), (.int (1 : Int32))] ∧ Z.Warmed39 U.vm ∧ U.heap = h0) (fun _ _ _ _ _ => True) (fun _ U o U' => ∃ v L, o = .returned v ∧ Qown_growI Z a1 da kd h0 n0 v U'.heap L ∧ FrameEnd U o U' L ({ frames := 1, cells := 1, slots := 10, locals := 14 } : Room).cells ({ frames := 1, cells := 1, slots := 10, locals := 14 } : Room).slots) := by
  refine MetFree.of_bodySF (plainFor_of_name own_pn3) hisR ?_
  intro p e s m args below meth c s₁ Bd hml0 hP hK
  obtain ⟨rfl, hZ, hh⟩ := hP
  have hx := Bd.exec
  have hby := Bd.bytes
  have hml : c.maxLocals = 4 := hml0
  have hown : s.vm.findClass "java/util/ArrayList" = some m.cls := by have q := findClass_of_methodNamed Bd.named; exact q
  have hnm := (name_of_methodNamed Bd.named Bd.method).1
  have X0 : Stand p l e ({ frames := 1, cells := 1, slots := 10, locals := 14 } : Room) s m #[(.ref a1), (.int (1 : Int32))] below meth c s₁ [] 0 0 := Stand.of_body Bd
  have e0 : s₁.heap = h0 := by rw [← hh, Bd.state]; rfl
  have N0 := Fr.nil n0
  have pre0 : ∀ t, Steps p.tables e below (s₁.setTop (mkF m 0 #[.val (.ref a1), .val (.int (1 : Int32)), .unset, .unset] [])) t → Steps p.tables e below (s₁.setTop (entryFrame m #[(.ref a1), (.int (1 : Int32))] 4)) t := fun t k => castTop (by first | (simp [entryFrame, mkF, argsToLocals, Value.category, maxLocals]; done) | rfl) k
  obtain ⟨T101, X101, e101, st101⟩ := getF X0 hx hZ hown (host := "") (Or.inl (own_w24 hw)) Via.refl e0 F1 (g := (mkF m 1 #[.val (.ref a1), .val (.int (1 : Int32)), .unset, .unset] [(.ref a1)])) rfl rfl (hb hby own_d12_1)
  obtain ⟨cl102, Ar102, Aq102, As102, An102, Ah102, Ag102⟩ := id VD
  obtain ⟨T103, X103, e103, st103⟩ := getF X101 hx hZ hown (host := "") (Or.inl (own_w24 hw)) Via.refl e101 F1 (g := (mkF m 11 #[.val (.ref a1), .val (.int (1 : Int32)), .val (.int (0 : Int32)), .unset] [(.ref a1)])) rfl rfl (hb hby own_d12_11)
  obtain ⟨T104, X104, e104, st104⟩ := getS2 X103 hx hZ hown (host := "") (Or.inl (own_w23 hw)) Via.refl e103 SD (g := (mkF m 14 #[.val (.ref a1), .val (.int (1 : Int32)), .val (.int (0 : Int32)), .unset] [(.ref da)])) rfl (hb hby own_d12_14)
  obtain ⟨_, _, ⟨T105, L105, k105, n105⟩, -, X105, ⟨Lc105, hQ105, l105, y105, z105⟩, st105⟩ := Jvm.LawKit.callS X104 hx (y := own_m8) hown (mvT hZ (own_w78 hw)) (mvT hZ (own_w79 hw)) (mvT hZ (own_w80 hw)) (mvT hZ (own_w81 hw)) (by decide) (backOf (W := 1) (own_max l Z a0 hw [] h0 n0 Z0) hZ (own_w81 hw) (own_w80 hw) (by decide) (by decide)) (g := (mkF m 49 #[.val (.ref a1), .val (.int (1 : Int32)), .val (.int (0 : Int32)), .unset] [(.int (1 : Int32)), (.int (10 : Int32)), (.ref a1)])) rfl (by rw [hml]; rfl) (argsL := [(.int (10 : Int32)), (.int (1 : Int32))]) (rest := [(.ref a1)]) (lenOf own_pd4 rfl) rfl (by show 2 * 0 + _ ≤ _; exact Nat.le_of_eq rfl) (hb hby own_d12_49) (fun _ _ => ⟨rfl, e104, (by decide : 0 + 0 ≤ _), (by decide : 0 + 0 ≤ _)⟩)
  dsimp only [Pt.U, Pt.locs, Pt.cells, Pt.slots] at X105 l105 y105 z105 st105 hQ105
  subst l105 y105 z105
  obtain ⟨rfl, N105q, e105⟩ := hQ105
  have N105 := Fr.app N0 N105q
  obtain ⟨T106, h106, k106, X106, e106, E106, A106, O106, st106⟩ := newR X105 hx hZ hown (own_w82 hw) (own_w83 hw) e105 (g := (mkF m 52 #[.val (.ref a1), .val (.int (1 : Int32)), .val (.int (0 : Int32)), .unset] [(.int (10 : Int32)), (.ref a1)])) rfl (hb hby own_d12_52) rfl (by decide) (cap := 10) (by decide) (by decide) (by decide) (by decide)
  obtain ⟨b106, g106⟩ : ∃ z, z = h0.size := ⟨_, rfl⟩
  rw [← g106] at A106 st106
  have ne_a1_b106 : a1 ≠ b106 := Nat.ne_of_lt (Nat.lt_of_lt_of_le E1.lt (Nat.le_of_eq g106.symm))
  have ne_da_b106 : da ≠ b106 := Nat.ne_of_lt (Nat.lt_of_lt_of_le VD.lt (Nat.le_of_eq g106.symm))
  have g_b106 : n0 ≤ b106 := Nat.le_trans Z0 (Nat.le_of_eq g106.symm)
  have sz_b106 : h0.size ≤ b106 := Nat.le_trans (Keep.refl h0 [a1]).1 (Nat.le_of_eq g106.symm)
  have Z106 : n0 ≤ h106.size := Nat.le_trans Z0 E106.1
  have K106 := (Keep.refl h0 [a1]).ext E106
  have V106 : Arv Z h106 b106 k106 (.object "java/lang/Object") (10 : Int32) [.null, .null, .null, .null, .null, .null, .null, .null, .null, .null] .null := (Arv.new A106 (by decide)).pad (pad_rep [] .null 10)
  have c107 := (E1.ext E106)
  have c108 := (F1.ext E106)
  obtain ⟨T109, h109, X109, e109, W109, st109⟩ := putF X106 hx hZ hown (host := "") (Or.inl (own_w24 hw)) Via.refl e106 c108 c107 (Or.inl (own_w25 hw)) (own_w1 hw) (ty := (.array (.object "java/lang/Object"))) (by decide) rfl rfl (g := (mkF m 56 #[.val (.ref a1), .val (.int (1 : Int32)), .val (.int (0 : Int32)), .unset] [(.ref b106), (.ref a1), (.ref b106)])) rfl rfl (hb hby own_d12_56)
  have Z109 : n0 ≤ h109.size := Nat.le_trans Z106 (Nat.le_of_eq W109.size.symm)
  have K109 := K106.wr W109 (Or.inl (List.mem_of_getElem? (i := 0) rfl))
  have N109 := Fr.snoc X109 N105 g1
  have Fw109 := c108.same W109
  have c110 := (c107.wr W109)
  have c111 := ((F0.ext E106).other W109 (Or.inr (slot_ne (Or.inl (own_w22 hw)) (Or.inl (own_w25 hw)) (by decide) (t := .int) (t' := (.array (.object "java/lang/Object"))) (by decide) (by decide))))
  have c112 := ((F2.ext E106).other W109 (Or.inr (slot_ne (Or.inl (own_w62 hw)) (Or.inl (own_w25 hw)) (by decide) (t := .int) (t' := (.array (.object "java/lang/Object"))) (by decide) (by decide))))
  have c113 := (V106.other W109 (Ne.symm ne_a1_b106))
  obtain ⟨fs, hr, hrun, hended, hW, hsame⟩ := X109.leave (v := some (.ref b106)) (fun h => by rw [Bd.returns] at h; cases h)
  refine ⟨_, _, pre0 _ ?_, hrun, hended, _, _, rfl, ?_, ⟨_, rfl⟩, hW, hsame.mono (by decide) (by decide)⟩
  · show Steps _ _ _ (s₁.setTop (mkF m 0 #[.val (.ref a1), .val (.int (1 : Int32)), .unset, .unset] [])) _
    refine XS.aloadN X0.here hx rfl (hb hby own_d12_0) rfl rfl ?_
    refine st101 _ ?_
    refine X101.arraylength hx (by rw [e101]; exact Ar102.1) (State.isArrayOf_alike hZ.alike Ar102.2.1) (g := (mkF m 4 #[.val (.ref a1), .val (.int (1 : Int32)), .unset, .unset] [(.ref da)])) rfl rfl (hb hby own_d12_4) _ ?_
    rw [len_of As102 An102]
    refine XS.istoreN X101.here hx rfl (hb hby own_d12_5) rfl (l' := #[.val (.ref a1), .val (.int (1 : Int32)), .val (.int (0 : Int32)), .unset]) rfl ?_
    show Steps _ _ _ (T101.setTop (mkF m 6 #[.val (.ref a1), .val (.int (1 : Int32)), .val (.int (0 : Int32)), .unset] [])) _
    refine XS.iloadN X101.here hx rfl (hb hby own_d12_6) rfl ?_
    refine XS.ifNo X101.here hx rfl (hb hby own_d12_7) rfl ((if0 _ _).trans (flt (by decide : ¬ ((0 : Int32) < (0 : Int32)))).2.2.1) ?_
    refine XS.aloadN X101.here hx rfl (hb hby own_d12_10) rfl rfl ?_
    refine st103 _ ?_
    show Steps _ _ _ (T103.setTop (mkF m 14 #[.val (.ref a1), .val (.int (1 : Int32)), .val (.int (0 : Int32)), .unset] [(.ref da)])) _
    refine st104 _ ?_
    refine Jvm.RoadKit.acmp (g := (mkF m 17 #[.val (.ref a1), .val (.int (1 : Int32)), .val (.int (0 : Int32)), .unset] [(.ref da), (.ref da)])) X104 hx rfl rfl rfl (pc0 := 17) (pc' := 45) (same := true) rfl (hb hby own_d12_17) rfl (decide_eq_true rfl) (by decide) (by decide) ?_
    refine XS.aloadN X104.here hx rfl (hb hby own_d12_45) rfl rfl ?_
    refine XS.bipush X104.here hx rfl (hb hby own_d12_46) ?_
    show Steps _ _ _ (T104.setTop (mkF m 48 #[.val (.ref a1), .val (.int (1 : Int32)), .val (.int (0 : Int32)), .unset] [(.int (10 : Int32)), (.ref a1)])) _
    refine XS.iloadN X104.here hx rfl (hb hby own_d12_48) rfl ?_
    refine st105 _ ?_
    refine st106 _ ?_
    refine XS.dupX1 X106.here hx rfl (hb hby own_d12_55) rfl rfl rfl ?_
    show Steps _ _ _ (T106.setTop (mkF m 56 #[.val (.ref a1), .val (.int (1 : Int32)), .val (.int (0 : Int32)), .unset] [(.ref b106), (.ref a1), (.ref b106)])) _
    refine st109 _ ?_
    show Steps _ _ _ (T109.setTop (mkF m 59 #[.val (.ref a1), .val (.int (1 : Int32)), .val (.int (0 : Int32)), .unset] [(.ref b106)])) _
    jvm_step X109.here [X109.here.top, hx, (hb hby own_d12_59), X109.method', Bd.returns, Value.isRef, FieldType.isReference]
    first | (intro acts; rw [hr _ acts rfl rfl rfl]) | rw [hr _ _ rfl rfl rfl]
    exact Steps.refl _
  · show Qown_growI Z a1 da kd h0 n0 _ T109.heap _
    rw [e109]
    exact ⟨b106, k106, rfl, N109, K109, sz_b106, Z109, g_b106, c110, c111, Fw109, c112, c113, O106, ne_a1_b106⟩
def Qown_grow (Z : State) (a1 da : Addr) (kd : ClassId) (h0 : Heap) (n0 : Nat) (v : Option Value) (h : Heap) (L : List Loc) : Prop := ∃ (ed : Addr) (ke : ClassId), v = some (.ref ed) ∧ Fr n0 L ∧ Keep h0 h [a1] ∧ h0.size ≤ ed ∧ own_AL Z n0 h a1 ed ke [.null, .null, .null, .null, .null, .null, .null, .null, .null, .null] (0 : Int32) (1 : Int32)
set_option maxRecDepth 65536 in
set_option maxHeartbeats 40000000 in
theorem own_grow (l : Launch) (Z : State) (a0 : Array Value) (hw : ∀ d ∈ tables_1, d.before a0 Z = true) (ws : List Jvm.Cond) (a1 da : Addr) (kd : ClassId) (h0 : Heap) (n0 : Nat) (Z0 : n0 ≤ h0.size) (g1 : n0 ≤ a1) (E1 : Exa Z h0 a1 "java/util/ArrayList") (F0 : Fld Z h0 a1 "java/util/AbstractList" "modCount" "I" (.int (1 : Int32))) (F1 : Fld Z h0 a1 "java/util/ArrayList" "elementData" "[Ljava/lang/Object;" (.ref da)) (F2 : Fld Z h0 a1 "java/util/ArrayList" "size" "I" (.int (0 : Int32))) (SD : Sta Z h0 "java/util/ArrayList" "DEFAULTCAPACITY_EMPTY_ELEMENTDATA" "[Ljava/lang/Object;" (.ref da)) (VD : Arv Z h0 da kd (.object "java/lang/Object") (0 : Int32) [] .null) (nda : da ≠ a1) :
    MetFree l own_m10 (head1 (Jvm.Cond.code own_m10 jdk_38_method_7_code 1 (some (.array (.object "java/lang/Object"))) :: ws) ({ frames := 2, cells := 1, slots := 10, locals := 29 } : Room)) (fun a U => a = #[(.ref a1)] ∧ Z.Warmed39 U.vm ∧ U.heap = h0) (fun _ _ _ _ _ => True) (fun _ U o U' => ∃ v L, o = .returned v ∧ Qown_grow Z a1 da kd h0 n0 v U'.heap L ∧ FrameEnd U o U' L ({ frames := 2, cells := 1, slots := 10, locals := 29 } : Room).cells ({ frames := 2, cells := 1, slots := 10, locals := 29 } : Room).slots) := by
  refine MetFree.of_bodySF (plainFor_of_name own_pn3) hisR ?_
  intro p e s m args below meth c s₁ Bd hml0 hP hK
  obtain ⟨rfl, hZ, hh⟩ := hP
  have hx := Bd.exec
  have hby := Bd.bytes
  have hml : c.maxLocals = 1 := hml0
  have hown : s.vm.findClass "java/util/ArrayList" = some m.cls := by have q := findClass_of_methodNamed Bd.named; exact q
  have hnm := (name_of_methodNamed Bd.named Bd.method).1
  have X0 : Stand p l e ({ frames := 2, cells := 1, slots := 10, locals := 29 } : Room) s m #[(.ref a1)] below meth c s₁ [] 0 0 := Stand.of_body Bd
  have e0 : s₁.heap = h0 := by rw [← hh, Bd.state]; rfl
  have N0 := Fr.nil n0
  have pre0 : ∀ t, Steps p.tables e below (s₁.setTop (mkF m 0 #[.val (.ref a1)] [])) t → Steps p.tables e below (s₁.setTop (entryFrame m #[(.ref a1)] 1)) t := fun t k => castTop (by first | (simp [entryFrame, mkF, argsToLocals, Value.category, maxLocals]; done) | rfl) k
  obtain ⟨T101, X101, e101, st101⟩ := getF X0 hx hZ hown (host := "") (Or.inl (own_w61 hw)) Via.refl e0 F2 (g := (mkF m 2 #[.val (.ref a1)] [(.ref a1), (.ref a1)])) rfl rfl (hb hby own_d11_2)
  obtain ⟨cq102, q102, q102'⟩ := E1.cell
  obtain ⟨_, _, ⟨T102, L102, k102, n102⟩, -, X102, ⟨Lc102, hQ102, l102, y102, z102⟩, st102⟩ := X101.privateBack hx (y := own_m9) hown (mvT hZ (own_w73 hw)) (mvT hZ (own_w74 hw)) (mvT hZ (own_w76 hw)) (Cond.privateMethod_at (mvP hZ (own_w75 hw) (args := #[]))) (mvT hZ (own_w77 hw)) (by decide) (backOf (W := 0) (own_growI l Z a0 hw [] a1 da kd h0 n0 Z0 g1 E1 F0 F1 F2 SD VD nda) hZ (own_w77 hw) (own_w2 hw) (by decide) (by decide)) (g := (mkF m 7 #[.val (.ref a1)] [(.int (1 : Int32)), (.ref a1)])) rfl (by rw [hml]; rfl) (Steps.refl _) (a := a1) (by rw [e101]; exact q102) q102' (argsL := [(.int (1 : Int32))]) (rest := []) (lenOf own_pd5 rfl) rfl (by show 2 * 0 + _ ≤ _; exact Nat.le_of_eq rfl) (hb hby own_d11_7) (fun _ _ => ⟨rfl, e101, (by decide : 0 + 1 ≤ _), (by decide : 0 + 10 ≤ _)⟩)
  dsimp only [Pt.U, Pt.locs, Pt.cells, Pt.slots] at X102 l102 y102 z102 st102 hQ102
  subst l102 y102 z102
  obtain ⟨ed102, ke102, rfl, N102q, Kq102, sq102, hA102⟩ := hQ102
  have N102 := Fr.app N0 N102q
  have sE102 := Nat.le_trans (Keep.refl h0 [a1]).1 sq102
  have Z102 : n0 ≤ T102.heap.size := Nat.le_trans Z0 Kq102.1
  have K102 := (Keep.refl h0 [a1]).trans Kq102 (allS (P := fun x => x ∈ ([a1] : List Addr) ∨ h0.size ≤ x) (Or.inl (List.mem_of_getElem? (i := 0) rfl)) all0)
  obtain ⟨hz102, ge102, Eq102, Fm102, Fe102, Fs102, Ve102, Oe102, na102⟩ := hA102
  obtain ⟨fs, hr, hrun, hended, hW, hsame⟩ := X102.leave (v := some (.ref ed102)) (fun h => by rw [Bd.returns] at h; cases h)
  refine ⟨_, _, pre0 _ ?_, hrun, hended, _, _, rfl, ?_, ⟨_, rfl⟩, hW, hsame.mono (by decide) (by decide)⟩
  · show Steps _ _ _ (s₁.setTop (mkF m 0 #[.val (.ref a1)] [])) _
    refine XS.aloadN X0.here hx rfl (hb hby own_d11_0) rfl rfl ?_
    refine XS.aloadN X0.here hx rfl (hb hby own_d11_1) rfl rfl ?_
    refine st101 _ ?_
    refine XS.iconst X101.here hx rfl (hb hby own_d11_5) ?_
    show Steps _ _ _ (T101.setTop (mkF m 6 #[.val (.ref a1)] [(.int (1 : Int32)), (.int (0 : Int32)), (.ref a1)])) _
    refine XS.iadd X101.here hx rfl (hb hby own_d11_6) rfl ?_
    refine st102.trans ?_
    show Steps _ _ _ (T102.setTop (mkF m 10 #[.val (.ref a1)] [(.ref ed102)])) _
    jvm_step X102.here [X102.here.top, hx, (hb hby own_d11_10), X102.method', Bd.returns, Value.isRef, FieldType.isReference]
    first | (intro acts; rw [hr _ acts rfl rfl rfl]) | rw [hr _ _ rfl rfl rfl]
    exact Steps.refl _
  · show Qown_grow Z a1 da kd h0 n0 _ T102.heap _
    exact ⟨ed102, ke102, rfl, N102, K102, sE102, Z102, ge102, Eq102, Fm102, Fe102, Fs102, Ve102, Oe102, na102⟩
def Qown_pa0 (Z : State) (a1 b1 da : Addr) (kd : ClassId) (h0 : Heap) (n0 : Nat) (v : Option Value) (h : Heap) (L : List Loc) : Prop := v = none ∧ Fr n0 L ∧ ∃ (ed : Addr) (ke : ClassId), Keep h0 h [a1] ∧ own_AL Z n0 h a1 ed ke [(.ref b1), .null, .null, .null, .null, .null, .null, .null, .null, .null] (1 : Int32) (1 : Int32)
set_option maxRecDepth 65536 in
set_option maxHeartbeats 40000000 in
theorem own_pa0 (l : Launch) (Z : State) (a0 : Array Value) (hw : ∀ d ∈ tables_1, d.before a0 Z = true) (ws : List Jvm.Cond) (a1 b1 da : Addr) (kd : ClassId) (h0 : Heap) (n0 : Nat) (Z0 : n0 ≤ h0.size) (EB : Exa Z h0 b1 "java/lang/String") (g1 : n0 ≤ a1) (E1 : Exa Z h0 a1 "java/util/ArrayList") (F0 : Fld Z h0 a1 "java/util/AbstractList" "modCount" "I" (.int (1 : Int32))) (F1 : Fld Z h0 a1 "java/util/ArrayList" "elementData" "[Ljava/lang/Object;" (.ref da)) (F2 : Fld Z h0 a1 "java/util/ArrayList" "size" "I" (.int (0 : Int32))) (SD : Sta Z h0 "java/util/ArrayList" "DEFAULTCAPACITY_EMPTY_ELEMENTDATA" "[Ljava/lang/Object;" (.ref da)) (VD : Arv Z h0 da kd (.object "java/lang/Object") (0 : Int32) [] .null) (nda : da ≠ a1) :
    MetFree l own_m11 (head1 (Jvm.Cond.code own_m11 jdk_38_method_24_code 4 none :: ws) ({ frames := 3, cells := 1, slots := 10, locals := 41 } : Room)) (fun a U => a = #[(.ref a1), (.ref b1), (.ref da), (.int (0 : Int32))] ∧ Z.Warmed39 U.vm ∧ U.heap = h0) (fun _ _ _ _ _ => True) (fun _ U o U' => ∃ v L, o = .returned v ∧ Qown_pa0 Z a1 b1 da kd h0 n0 v U'.heap L ∧ FrameEnd U o U' L ({ frames := 3, cells := 1, slots := 10, locals := 41 } : Room).cells ({ frames := 3, cells := 1, slots := 10, locals := 41 } : Room).slots) := by
  refine MetFree.of_bodySF (plainFor_of_name own_pn3) hisR ?_
  intro p e s m args below meth c s₁ Bd hml0 hP hK
  obtain ⟨rfl, hZ, hh⟩ := hP
  have hx := Bd.exec
  have hby := Bd.bytes
  have hml : c.maxLocals = 4 := hml0
  have hown : s.vm.findClass "java/util/ArrayList" = some m.cls := by have q := findClass_of_methodNamed Bd.named; exact q
  have hnm := (name_of_methodNamed Bd.named Bd.method).1
  have X0 : Stand p l e ({ frames := 3, cells := 1, slots := 10, locals := 41 } : Room) s m #[(.ref a1), (.ref b1), (.ref da), (.int (0 : Int32))] below meth c s₁ [] 0 0 := Stand.of_body Bd
  have e0 : s₁.heap = h0 := by rw [← hh, Bd.state]; rfl
  have N0 := Fr.nil n0
  have pre0 : ∀ t, Steps p.tables e below (s₁.setTop (mkF m 0 #[.val (.ref a1), .val (.ref b1), .val (.ref da), .val (.int (0 : Int32))] [])) t → Steps p.tables e below (s₁.setTop (entryFrame m #[(.ref a1), (.ref b1), (.ref da), (.int (0 : Int32))] 4)) t := fun t k => castTop (by first | (simp [entryFrame, mkF, argsToLocals, Value.category, maxLocals]; done) | rfl) k
  obtain ⟨cl101, Ar101, Aq101, As101, An101, Ah101, Ag101⟩ := id VD
  obtain ⟨cq102, q102, q102'⟩ := E1.cell
  obtain ⟨_, _, ⟨T102, L102, k102, n102⟩, -, X102, ⟨Lc102, hQ102, l102, y102, z102⟩, st102⟩ := X0.privateBack hx (y := own_m10) hown (mvT hZ (own_w68 hw)) (mvT hZ (own_w69 hw)) (mvT hZ (own_w71 hw)) (Cond.privateMethod_at (mvP hZ (own_w70 hw) (args := #[]))) (mvT hZ (own_w72 hw)) (by decide) (backOf (W := 0) (own_grow l Z a0 hw [] a1 da kd h0 n0 Z0 g1 E1 F0 F1 F2 SD VD nda) hZ (own_w72 hw) (own_w2 hw) (by decide) (by decide)) (g := (mkF m 7 #[.val (.ref a1), .val (.ref b1), .val (.ref da), .val (.int (0 : Int32))] [(.ref a1)])) rfl (by rw [hml]; rfl) (Steps.refl _) (a := a1) (by rw [e0]; exact q102) q102' (argsL := []) (rest := []) (lenOf own_pd6 rfl) rfl (by show 2 * 0 + _ ≤ _; exact Nat.le_of_eq rfl) (hb hby own_d10_7) (fun _ _ => ⟨rfl, e0, (by decide : 0 + 1 ≤ _), (by decide : 0 + 10 ≤ _)⟩)
  dsimp only [Pt.U, Pt.locs, Pt.cells, Pt.slots] at X102 l102 y102 z102 st102 hQ102
  subst l102 y102 z102
  obtain ⟨ed102, ke102, rfl, N102q, Kq102, sq102, hA102⟩ := hQ102
  have N102 := Fr.app N0 N102q
  have sE102 := Nat.le_trans (Keep.refl h0 [a1]).1 sq102
  have Z102 : n0 ≤ T102.heap.size := Nat.le_trans Z0 Kq102.1
  have K102 := (Keep.refl h0 [a1]).trans Kq102 (allS (P := fun x => x ∈ ([a1] : List Addr) ∨ h0.size ≤ x) (Or.inl (List.mem_of_getElem? (i := 0) rfl)) all0)
  obtain ⟨hz102, ge102, Eq102, Fm102, Fe102, Fs102, Ve102, Oe102, na102⟩ := hA102
  obtain ⟨cl103, Ar103, Aq103, As103, An103, Ah103, Ag103⟩ := id Ve102
  have hin103 : ¬ ((0 : Int32) < 0 ∨ cl103.slots.size ≤ ((0 : Int32)).toNatClampNeg) := inb_of As103 ⟨by decide, by decide⟩
  have c104 := (EB.keep Kq102)
  obtain ⟨T105, h105, X105, e105, W105, st105⟩ := stR X102 hx hZ rfl Ar103 (j := (0 : Int32)) hin103 rfl (Sto.ofV Ar103 Aq103 Oe102 (Ins.of_exa c104 (own_w84 hw))) (g := (mkF m 14 #[.val (.ref a1), .val (.ref b1), .val (.ref ed102), .val (.int (0 : Int32))] [(.ref b1), (.int (0 : Int32)), (.ref ed102)])) rfl rfl (hb hby own_d10_14)
  have Z105 : n0 ≤ h105.size := Nat.le_trans Z102 (Nat.le_of_eq W105.size.symm)
  have K105 := K102.wr W105 (Or.inr sE102)
  have N105 := Fr.snoc X105 N102 ge102
  have V105 : Arv Z h105 ed102 ke102 (.object "java/lang/Object") (10 : Int32) [(.ref b1), .null, .null, .null, .null, .null, .null, .null, .null, .null] .null := Arv.set Ar103 Aq103 As103 An103 Ah103 Ag103 rfl W105 0 rfl (Nat.le_of_ble_eq_true rfl)
  have c106 := (Eq102.wr W105)
  have c107 := (Fs102.other W105 (Or.inl na102))
  obtain ⟨T108, h108, X108, e108, W108, st108⟩ := putF X105 hx hZ hown (host := "") (Or.inl (own_w61 hw)) Via.refl e105 c107 c106 (Or.inl (own_w62 hw)) (own_w1 hw) (ty := .int) (by decide) rfl rfl (g := (mkF m 19 #[.val (.ref a1), .val (.ref b1), .val (.ref ed102), .val (.int (0 : Int32))] [(.int (1 : Int32)), (.ref a1)])) rfl rfl (hb hby own_d10_19)
  have Z108 : n0 ≤ h108.size := Nat.le_trans Z105 (Nat.le_of_eq W108.size.symm)
  have K108 := K105.wr W108 (Or.inl (List.mem_of_getElem? (i := 0) rfl))
  have N108 := Fr.snoc X108 N105 g1
  have Fw108 := c107.same W108
  have c109 := (c106.wr W108)
  have c110 := ((Fm102.other W105 (Or.inl na102)).other W108 (Or.inr (slot_ne (Or.inl (own_w22 hw)) (Or.inl (own_w62 hw)) (by decide) (t := .int) (t' := .int) (by decide) (by decide))))
  have c111 := ((Fe102.other W105 (Or.inl na102)).other W108 (Or.inr (slot_ne (Or.inl (own_w25 hw)) (Or.inl (own_w62 hw)) (by decide) (t := (.array (.object "java/lang/Object"))) (t' := .int) (by decide) (by decide))))
  have c112 := (V105.other W108 (Ne.symm na102))
  obtain ⟨fs, hr, hrun, hended, hW, hsame⟩ := X108.leave (v := none) (fun _ => rfl)
  refine ⟨_, _, pre0 _ ?_, hrun, hended, _, _, rfl, ?_, ⟨_, rfl⟩, hW, hsame.mono (by decide) (by decide)⟩
  · show Steps _ _ _ (s₁.setTop (mkF m 0 #[.val (.ref a1), .val (.ref b1), .val (.ref da), .val (.int (0 : Int32))] [])) _
    refine XS.iloadN X0.here hx rfl (hb hby own_d10_0) rfl ?_
    refine XS.aloadN X0.here hx rfl (hb hby own_d10_1) rfl rfl ?_
    refine X0.arraylength hx (by rw [e0]; exact Ar101.1) (State.isArrayOf_alike hZ.alike Ar101.2.1) (g := (mkF m 2 #[.val (.ref a1), .val (.ref b1), .val (.ref da), .val (.int (0 : Int32))] [(.ref da), (.int (0 : Int32))])) rfl rfl (hb hby own_d10_2) _ ?_
    rw [len_of As101 An101]
    refine XS.icmpNo X0.here hx rfl (hb hby own_d10_3) rfl (teq (by decide : (0 : Int32) = (0 : Int32))).2 ?_
    show Steps _ _ _ (s₁.setTop (mkF m 6 #[.val (.ref a1), .val (.ref b1), .val (.ref da), .val (.int (0 : Int32))] [])) _
    refine XS.aloadN X0.here hx rfl (hb hby own_d10_6) rfl rfl ?_
    refine st102.trans ?_
    refine XS.astoreN X102.here hx rfl (hb hby own_d10_10) rfl rfl (l' := #[.val (.ref a1), .val (.ref b1), .val (.ref ed102), .val (.int (0 : Int32))]) rfl ?_
    refine XS.aloadN X102.here hx rfl (hb hby own_d10_11) rfl rfl ?_
    show Steps _ _ _ (T102.setTop (mkF m 12 #[.val (.ref a1), .val (.ref b1), .val (.ref ed102), .val (.int (0 : Int32))] [(.ref ed102)])) _
    refine XS.iloadN X102.here hx rfl (hb hby own_d10_12) rfl ?_
    refine XS.aloadN X102.here hx rfl (hb hby own_d10_13) rfl rfl ?_
    refine st105 _ ?_
    refine XS.aloadN X105.here hx rfl (hb hby own_d10_15) rfl rfl ?_
    show Steps _ _ _ (T105.setTop (mkF m 16 #[.val (.ref a1), .val (.ref b1), .val (.ref ed102), .val (.int (0 : Int32))] [(.ref a1)])) _
    refine XS.iloadN X105.here hx rfl (hb hby own_d10_16) rfl ?_
    refine XS.iconst X105.here hx rfl (hb hby own_d10_17) ?_
    refine XS.iadd X105.here hx rfl (hb hby own_d10_18) rfl ?_
    refine st108 _ ?_
    show Steps _ _ _ (T108.setTop (mkF m 22 #[.val (.ref a1), .val (.ref b1), .val (.ref ed102), .val (.int (0 : Int32))] [])) _
    exact X108.returnOut hx Bd.returns (hb hby own_d10_22) hr
  · show Qown_pa0 Z a1 b1 da kd h0 n0 _ T108.heap _
    rw [e108]
    exact ⟨rfl, N108, ed102, ke102, K108, Z108, ge102, c109, c110, c111, Fw108, c112, Oe102, na102⟩
def Qown_pa1 (Z : State) (a1 b1 ed : Addr) (ke : ClassId) (c0 : Addr) (h0 : Heap) (n0 : Nat) (v : Option Value) (h : Heap) (L : List Loc) : Prop := v = none ∧ Fr n0 L ∧ Keep h0 h [a1, ed] ∧ own_AL Z n0 h a1 ed ke [(.ref c0), (.ref b1), .null, .null, .null, .null, .null, .null, .null, .null] (2 : Int32) (2 : Int32)
set_option maxRecDepth 65536 in
set_option maxHeartbeats 40000000 in
theorem own_pa1 (l : Launch) (Z : State) (a0 : Array Value) (hw : ∀ d ∈ tables_1, d.before a0 Z = true) (ws : List Jvm.Cond) (a1 b1 ed : Addr) (ke : ClassId) (c0 : Addr) (h0 : Heap) (n0 : Nat) (Z0 : n0 ≤ h0.size) (g1 : n0 ≤ a1) (EB : Exa Z h0 b1 "java/lang/String") (H : own_AL Z n0 h0 a1 ed ke [(.ref c0), .null, .null, .null, .null, .null, .null, .null, .null, .null] (1 : Int32) (2 : Int32)) :
    MetFree l own_m11 (head1 (Jvm.Cond.code own_m11 jdk_38_method_24_code 4 none :: ws) ({ frames := 0, cells := 0, slots := 0, locals := 0 } : Room)) (fun a U => a = #[(.ref a1), (.ref b1), (.ref ed), (.int (1 : Int32))] ∧ Z.Warmed39 U.vm ∧ U.heap = h0) (fun _ _ _ _ _ => True) (fun _ U o U' => ∃ v L, o = .returned v ∧ Qown_pa1 Z a1 b1 ed ke c0 h0 n0 v U'.heap L ∧ FrameEnd U o U' L ({ frames := 0, cells := 0, slots := 0, locals := 0 } : Room).cells ({ frames := 0, cells := 0, slots := 0, locals := 0 } : Room).slots) := by
  refine MetFree.of_bodySF (plainFor_of_name own_pn3) hisR ?_
  intro p e s m args below meth c s₁ Bd hml0 hP hK
  obtain ⟨rfl, hZ, hh⟩ := hP
  have hx := Bd.exec
  have hby := Bd.bytes
  have hml : c.maxLocals = 4 := hml0
  have hown : s.vm.findClass "java/util/ArrayList" = some m.cls := by have q := findClass_of_methodNamed Bd.named; exact q
  have hnm := (name_of_methodNamed Bd.named Bd.method).1
  have X0 : Stand p l e ({ frames := 0, cells := 0, slots := 0, locals := 0 } : Room) s m #[(.ref a1), (.ref b1), (.ref ed), (.int (1 : Int32))] below meth c s₁ [] 0 0 := Stand.of_body Bd
  have e0 : s₁.heap = h0 := by rw [← hh, Bd.state]; rfl
  have N0 := Fr.nil n0
  have pre0 : ∀ t, Steps p.tables e below (s₁.setTop (mkF m 0 #[.val (.ref a1), .val (.ref b1), .val (.ref ed), .val (.int (1 : Int32))] [])) t → Steps p.tables e below (s₁.setTop (entryFrame m #[(.ref a1), (.ref b1), (.ref ed), (.int (1 : Int32))] 4)) t := fun t k => castTop (by first | (simp [entryFrame, mkF, argsToLocals, Value.category, maxLocals]; done) | rfl) k
  obtain ⟨hz, ge, Eq, Fm, Fe, Fs, Ve, Oe, na⟩ := H
  obtain ⟨cl101, Ar101, Aq101, As101, An101, Ah101, Ag101⟩ := id Ve
  obtain ⟨cl102, Ar102, Aq102, As102, An102, Ah102, Ag102⟩ := id Ve
  have hin102 : ¬ ((1 : Int32) < 0 ∨ cl102.slots.size ≤ ((1 : Int32)).toNatClampNeg) := inb_of As102 ⟨by decide, by decide⟩
  obtain ⟨T103, h103, X103, e103, W103, st103⟩ := stR X0 hx hZ e0 Ar102 (j := (1 : Int32)) hin102 rfl (Sto.ofV Ar102 Aq102 Oe (Ins.of_exa EB (own_w84 hw))) (g := (mkF m 14 #[.val (.ref a1), .val (.ref b1), .val (.ref ed), .val (.int (1 : Int32))] [(.ref b1), (.int (1 : Int32)), (.ref ed)])) rfl rfl (hb hby own_d10_14)
  have Z103 : n0 ≤ h103.size := Nat.le_trans hz (Nat.le_of_eq W103.size.symm)
  have K103 := (Keep.refl h0 [a1, ed]).wr W103 (Or.inl (List.mem_of_getElem? (i := 1) rfl))
  have N103 := Fr.snoc X103 N0 ge
  have V103 : Arv Z h103 ed ke (.object "java/lang/Object") (10 : Int32) [(.ref c0), (.ref b1), .null, .null, .null, .null, .null, .null, .null, .null] .null := Arv.set Ar102 Aq102 As102 An102 Ah102 Ag102 rfl W103 1 rfl (Nat.le_of_ble_eq_true rfl)
  have c104 := (Eq.wr W103)
  have c105 := (Fs.other W103 (Or.inl na))
  obtain ⟨T106, h106, X106, e106, W106, st106⟩ := putF X103 hx hZ hown (host := "") (Or.inl (own_w61 hw)) Via.refl e103 c105 c104 (Or.inl (own_w62 hw)) (own_w1 hw) (ty := .int) (by decide) rfl rfl (g := (mkF m 19 #[.val (.ref a1), .val (.ref b1), .val (.ref ed), .val (.int (1 : Int32))] [(.int (2 : Int32)), (.ref a1)])) rfl rfl (hb hby own_d10_19)
  have Z106 : n0 ≤ h106.size := Nat.le_trans Z103 (Nat.le_of_eq W106.size.symm)
  have K106 := K103.wr W106 (Or.inl (List.mem_of_getElem? (i := 0) rfl))
  have N106 := Fr.snoc X106 N103 g1
  have Fw106 := c105.same W106
  have c107 := (c104.wr W106)
  have c108 := ((Fm.other W103 (Or.inl na)).other W106 (Or.inr (slot_ne (Or.inl (own_w22 hw)) (Or.inl (own_w62 hw)) (by decide) (t := .int) (t' := .int) (by decide) (by decide))))
  have c109 := ((Fe.other W103 (Or.inl na)).other W106 (Or.inr (slot_ne (Or.inl (own_w25 hw)) (Or.inl (own_w62 hw)) (by decide) (t := (.array (.object "java/lang/Object"))) (t' := .int) (by decide) (by decide))))
  have c110 := (V103.other W106 (Ne.symm na))
  obtain ⟨fs, hr, hrun, hended, hW, hsame⟩ := X106.leave (v := none) (fun _ => rfl)
  refine ⟨_, _, pre0 _ ?_, hrun, hended, _, _, rfl, ?_, ⟨_, rfl⟩, hW, hsame.mono (by decide) (by decide)⟩
  · show Steps _ _ _ (s₁.setTop (mkF m 0 #[.val (.ref a1), .val (.ref b1), .val (.ref ed), .val (.int (1 : Int32))] [])) _
    refine XS.iloadN X0.here hx rfl (hb hby own_d10_0) rfl ?_
    refine XS.aloadN X0.here hx rfl (hb hby own_d10_1) rfl rfl ?_
    refine X0.arraylength hx (by rw [e0]; exact Ar101.1) (State.isArrayOf_alike hZ.alike Ar101.2.1) (g := (mkF m 2 #[.val (.ref a1), .val (.ref b1), .val (.ref ed), .val (.int (1 : Int32))] [(.ref ed), (.int (1 : Int32))])) rfl rfl (hb hby own_d10_2) _ ?_
    rw [len_of As101 An101]
    refine XS.icmpYes X0.here hx rfl (pc0 := 3) (pc' := 11) rfl (hb hby own_d10_3) rfl (feq (by decide : ¬ ((1 : Int32) = (10 : Int32)))).2 (by decide) (by decide) ?_
    show Steps _ _ _ (s₁.setTop (mkF m 11 #[.val (.ref a1), .val (.ref b1), .val (.ref ed), .val (.int (1 : Int32))] [])) _
    refine XS.aloadN X0.here hx rfl (hb hby own_d10_11) rfl rfl ?_
    refine XS.iloadN X0.here hx rfl (hb hby own_d10_12) rfl ?_
    refine XS.aloadN X0.here hx rfl (hb hby own_d10_13) rfl rfl ?_
    refine st103 _ ?_
    show Steps _ _ _ (T103.setTop (mkF m 15 #[.val (.ref a1), .val (.ref b1), .val (.ref ed), .val (.int (1 : Int32))] [])) _
    refine XS.aloadN X103.here hx rfl (hb hby own_d10_15) rfl rfl ?_
    refine XS.iloadN X103.here hx rfl (hb hby own_d10_16) rfl ?_
    refine XS.iconst X103.here hx rfl (hb hby own_d10_17) ?_
    refine XS.iadd X103.here hx rfl (hb hby own_d10_18) rfl ?_
    show Steps _ _ _ (T103.setTop (mkF m 19 #[.val (.ref a1), .val (.ref b1), .val (.ref ed), .val (.int (1 : Int32))] [(.int (2 : Int32)), (.ref a1)])) _
    refine st106 _ ?_
    show Steps _ _ _ (T106.setTop (mkF m 22 #[.val (.ref a1), .val (.ref b1), .val (.ref ed), .val (.int (1 : Int32))] [])) _
    exact X106.returnOut hx Bd.returns (hb hby own_d10_22) hr
  · show Qown_pa1 Z a1 b1 ed ke c0 h0 n0 _ T106.heap _
    rw [e106]
    exact ⟨rfl, N106, K106, Z106, ge, c107, c108, c109, Fw106, c110, Oe, na⟩
def Qown_add1 (Z : State) (a1 b1 ed : Addr) (ke : ClassId) (c0 : Addr) (h0 : Heap) (n0 : Nat) (v : Option Value) (h : Heap) (L : List Loc) : Prop := v = some (.int (1 : Int32)) ∧ Fr n0 L ∧ Keep h0 h [a1, ed] ∧ own_AL Z n0 h a1 ed ke [(.ref c0), (.ref b1), .null, .null, .null, .null, .null, .null, .null, .null] (2 : Int32) (2 : Int32)
set_option maxRecDepth 65536 in
set_option maxHeartbeats 40000000 in
theorem own_add1 (l : Launch) (Z : State) (a0 : Array Value) (hw : ∀ d ∈ tables_1, d.before a0 Z = true) (ws : List Jvm.Cond) (a1 b1 ed : Addr) (ke : ClassId) (c0 : Addr) (h0 : Heap) (n0 : Nat) (Z0 : n0 ≤ h0.size) (g1 : n0 ≤ a1) (EB : Exa Z h0 b1 "java/lang/String") (H : own_AL Z n0 h0 a1 ed ke [(.ref c0), .null, .null, .null, .null, .null, .null, .null, .null, .null] (1 : Int32) (1 : Int32)) :
    MetFree l own_m12 (head1 (Jvm.Cond.code own_m12 jdk_38_method_25_code 2 (some .boolean) :: ws) ({ frames := 1, cells := 0, slots := 0, locals := 15 } : Room)) (fun a U => a = #[(.ref a1), (.ref b1)] ∧ Z.Warmed39 U.vm ∧ U.heap = h0) (fun _ _ _ _ _ => True) (fun _ U o U' => ∃ v L, o = .returned v ∧ Qown_add1 Z a1 b1 ed ke c0 h0 n0 v U'.heap L ∧ FrameEnd U o U' L ({ frames := 1, cells := 0, slots := 0, locals := 15 } : Room).cells ({ frames := 1, cells := 0, slots := 0, locals := 15 } : Room).slots) := by
  refine MetFree.of_bodySF (plainFor_of_name own_pn3) hisR ?_
  intro p e s m args below meth c s₁ Bd hml0 hP hK
  obtain ⟨rfl, hZ, hh⟩ := hP
  have hx := Bd.exec
  have hby := Bd.bytes
  have hml : c.maxLocals = 2 := hml0
  have hown : s.vm.findClass "java/util/ArrayList" = some m.cls := by have q := findClass_of_methodNamed Bd.named; exact q
  have hnm := (name_of_methodNamed Bd.named Bd.method).1
  have X0 : Stand p l e ({ frames := 1, cells := 0, slots := 0, locals := 15 } : Room) s m #[(.ref a1), (.ref b1)] below meth c s₁ [] 0 0 := Stand.of_body Bd
  have e0 : s₁.heap = h0 := by rw [← hh, Bd.state]; rfl
  have N0 := Fr.nil n0
  have pre0 : ∀ t, Steps p.tables e below (s₁.setTop (mkF m 0 #[.val (.ref a1), .val (.ref b1)] [])) t → Steps p.tables e below (s₁.setTop (entryFrame m #[(.ref a1), (.ref b1)] 2)) t := fun t k => castTop (by first | (simp [entryFrame, mkF, argsToLocals, Value.category, maxLocals]; done) | rfl) k
  obtain ⟨hz, ge, Eq, Fm, Fe, Fs, Ve, Oe, na⟩ := H
  obtain ⟨T101, X101, e101, st101⟩ := getF X0 hx hZ hown (host := "") (Or.inl (own_w59 hw)) (Via.of (own_w60 hw)) e0 Fm (g := (mkF m 2 #[.val (.ref a1), .val (.ref b1)] [(.ref a1), (.ref a1)])) rfl rfl (hb hby own_d9_2)
  obtain ⟨T102, h102, X102, e102, W102, st102⟩ := putF X101 hx hZ hown (host := "") (Or.inl (own_w59 hw)) (Via.of (own_w60 hw)) e101 Fm Eq (Or.inl (own_w22 hw)) (own_w1 hw) (ty := .int) (by decide) rfl rfl (g := (mkF m 7 #[.val (.ref a1), .val (.ref b1)] [(.int (2 : Int32)), (.ref a1)])) rfl rfl (hb hby own_d9_7)
  have Z102 : n0 ≤ h102.size := Nat.le_trans hz (Nat.le_of_eq W102.size.symm)
  have K102 := (Keep.refl h0 [a1, ed]).wr W102 (Or.inl (List.mem_of_getElem? (i := 0) rfl))
  have N102 := Fr.snoc X102 N0 g1
  have Fw102 := Fm.same W102
  have c103 := (Fe.other W102 (Or.inr (slot_ne (Or.inl (own_w25 hw)) (Or.inl (own_w22 hw)) (by decide) (t := (.array (.object "java/lang/Object"))) (t' := .int) (by decide) (by decide))))
  obtain ⟨T104, X104, e104, st104⟩ := getF X102 hx hZ hown (host := "") (Or.inl (own_w24 hw)) Via.refl e102 c103 (g := (mkF m 13 #[.val (.ref a1), .val (.ref b1)] [(.ref a1), (.ref b1), (.ref a1)])) rfl rfl (hb hby own_d9_13)
  have c105 := (Fs.other W102 (Or.inr (slot_ne (Or.inl (own_w62 hw)) (Or.inl (own_w22 hw)) (by decide) (t := .int) (t' := .int) (by decide) (by decide))))
  obtain ⟨T106, X106, e106, st106⟩ := getF X104 hx hZ hown (host := "") (Or.inl (own_w61 hw)) Via.refl e104 c105 (g := (mkF m 17 #[.val (.ref a1), .val (.ref b1)] [(.ref a1), (.ref ed), (.ref b1), (.ref a1)])) rfl rfl (hb hby own_d9_17)
  have c107 := (Eq.wr W102)
  have c108 := (Ve.other W102 (Ne.symm na))
  have c109 := (EB.wr W102)
  obtain ⟨cq110, q110, q110'⟩ := c107.cell
  obtain ⟨_, _, ⟨T110, L110, k110, n110⟩, -, X110, ⟨Lc110, hQ110, l110, y110, z110⟩, st110⟩ := X106.privateBack hx (y := own_m11) hown (mvT hZ (own_w63 hw)) (mvT hZ (own_w64 hw)) (mvT hZ (own_w66 hw)) (Cond.privateMethod_at (mvP hZ (own_w65 hw) (args := #[]))) (mvT hZ (own_w67 hw)) (by decide) (backOf (W := 0) (own_pa1 l Z a0 hw [] a1 b1 ed ke c0 h102 n0 Z102 g1 c109 ⟨Z102, ge, c107, Fw102, c103, c105, c108, Oe, na⟩) hZ (own_w67 hw) (own_w2 hw) (by decide) (by decide)) (g := (mkF m 20 #[.val (.ref a1), .val (.ref b1)] [(.int (1 : Int32)), (.ref ed), (.ref b1), (.ref a1)])) rfl (by rw [hml]; rfl) (Steps.refl _) (a := a1) (by rw [e106]; exact q110) q110' (argsL := [(.ref b1), (.ref ed), (.int (1 : Int32))]) (rest := []) (lenOf own_pd7 rfl) rfl (by show 2 * 0 + _ ≤ _; exact Nat.le_of_eq rfl) (hb hby own_d9_20) (fun _ _ => ⟨rfl, e106, (by decide : 0 + 0 ≤ _), (by decide : 0 + 0 ≤ _)⟩)
  dsimp only [Pt.U, Pt.locs, Pt.cells, Pt.slots] at X110 l110 y110 z110 st110 hQ110
  subst l110 y110 z110
  obtain ⟨rfl, N110q, Kq110, hA110⟩ := hQ110
  have N110 := Fr.app N102 N110q
  have Z110 : n0 ≤ T110.heap.size := Nat.le_trans Z102 Kq110.1
  have K110 := K102.trans Kq110 (allS (P := fun x => x ∈ ([a1, ed] : List Addr) ∨ h0.size ≤ x) (Or.inl (List.mem_of_getElem? (i := 0) rfl)) (allS (P := fun x => x ∈ ([a1, ed] : List Addr) ∨ h0.size ≤ x) (Or.inl (List.mem_of_getElem? (i := 1) rfl)) all0))
  obtain ⟨fs, hr, hrun, hended, hW, hsame⟩ := X110.leave (v := some (.int (1 : Int32))) (fun h => by rw [Bd.returns] at h; cases h)
  refine ⟨_, _, pre0 _ ?_, hrun, hended, _, _, rfl, ?_, ⟨_, rfl⟩, hW, hsame.mono (by decide) (by decide)⟩
  · show Steps _ _ _ (s₁.setTop (mkF m 0 #[.val (.ref a1), .val (.ref b1)] [])) _
    refine XS.aloadN X0.here hx rfl (hb hby own_d9_0) rfl rfl ?_
    refine XS.dup X0.here hx rfl (hb hby own_d9_1) rfl rfl ?_
    refine st101 _ ?_
    refine XS.iconst X101.here hx rfl (hb hby own_d9_5) ?_
    show Steps _ _ _ (T101.setTop (mkF m 6 #[.val (.ref a1), .val (.ref b1)] [(.int (1 : Int32)), (.int (1 : Int32)), (.ref a1)])) _
    refine XS.iadd X101.here hx rfl (hb hby own_d9_6) rfl ?_
    refine st102 _ ?_
    refine XS.aloadN X102.here hx rfl (hb hby own_d9_10) rfl rfl ?_
    refine XS.aloadN X102.here hx rfl (hb hby own_d9_11) rfl rfl ?_
    show Steps _ _ _ (T102.setTop (mkF m 12 #[.val (.ref a1), .val (.ref b1)] [(.ref b1), (.ref a1)])) _
    refine XS.aloadN X102.here hx rfl (hb hby own_d9_12) rfl rfl ?_
    refine st104 _ ?_
    refine XS.aloadN X104.here hx rfl (hb hby own_d9_16) rfl rfl ?_
    refine st106 _ ?_
    show Steps _ _ _ (T106.setTop (mkF m 20 #[.val (.ref a1), .val (.ref b1)] [(.int (1 : Int32)), (.ref ed), (.ref b1), (.ref a1)])) _
    refine st110.trans ?_
    refine XS.iconst X110.here hx rfl (hb hby own_d9_23) ?_
    show Steps _ _ _ (T110.setTop (mkF m 24 #[.val (.ref a1), .val (.ref b1)] [(.int (1 : Int32))])) _
    exact retN X110 hx (t := .boolean) Bd.returns (by simp) (hb hby own_d9_24) hr
  · show Qown_add1 Z a1 b1 ed ke c0 h0 n0 _ T110.heap _
    exact ⟨rfl, N110, K110, hA110⟩
def Qown_pa2 (Z : State) (a1 b1 ed : Addr) (ke : ClassId) (c0 c1 : Addr) (h0 : Heap) (n0 : Nat) (v : Option Value) (h : Heap) (L : List Loc) : Prop := v = none ∧ Fr n0 L ∧ Keep h0 h [a1, ed] ∧ own_AL Z n0 h a1 ed ke [(.ref c0), (.ref c1), (.ref b1), .null, .null, .null, .null, .null, .null, .null] (3 : Int32) (3 : Int32)
set_option maxRecDepth 65536 in
set_option maxHeartbeats 40000000 in
theorem own_pa2 (l : Launch) (Z : State) (a0 : Array Value) (hw : ∀ d ∈ tables_1, d.before a0 Z = true) (ws : List Jvm.Cond) (a1 b1 ed : Addr) (ke : ClassId) (c0 c1 : Addr) (h0 : Heap) (n0 : Nat) (Z0 : n0 ≤ h0.size) (g1 : n0 ≤ a1) (EB : Exa Z h0 b1 "java/lang/String") (H : own_AL Z n0 h0 a1 ed ke [(.ref c0), (.ref c1), .null, .null, .null, .null, .null, .null, .null, .null] (2 : Int32) (3 : Int32)) :
    MetFree l own_m11 (head1 (Jvm.Cond.code own_m11 jdk_38_method_24_code 4 none :: ws) ({ frames := 0, cells := 0, slots := 0, locals := 0 } : Room)) (fun a U => a = #[(.ref a1), (.ref b1), (.ref ed), (.int (2 : Int32))] ∧ Z.Warmed39 U.vm ∧ U.heap = h0) (fun _ _ _ _ _ => True) (fun _ U o U' => ∃ v L, o = .returned v ∧ Qown_pa2 Z a1 b1 ed ke c0 c1 h0 n0 v U'.heap L ∧ FrameEnd U o U' L ({ frames := 0, cells := 0, slots := 0, locals := 0 } : Room).cells ({ frames := 0, cells := 0, slots := 0, locals := 0 } : Room).slots) := by
  refine MetFree.of_bodySF (plainFor_of_name own_pn3) hisR ?_
  intro p e s m args below meth c s₁ Bd hml0 hP hK
  obtain ⟨rfl, hZ, hh⟩ := hP
  have hx := Bd.exec
  have hby := Bd.bytes
  have hml : c.maxLocals = 4 := hml0
  have hown : s.vm.findClass "java/util/ArrayList" = some m.cls := by have q := findClass_of_methodNamed Bd.named; exact q
  have hnm := (name_of_methodNamed Bd.named Bd.method).1
  have X0 : Stand p l e ({ frames := 0, cells := 0, slots := 0, locals := 0 } : Room) s m #[(.ref a1), (.ref b1), (.ref ed), (.int (2 : Int32))] below meth c s₁ [] 0 0 := Stand.of_body Bd
  have e0 : s₁.heap = h0 := by rw [← hh, Bd.state]; rfl
  have N0 := Fr.nil n0
  have pre0 : ∀ t, Steps p.tables e below (s₁.setTop (mkF m 0 #[.val (.ref a1), .val (.ref b1), .val (.ref ed), .val (.int (2 : Int32))] [])) t → Steps p.tables e below (s₁.setTop (entryFrame m #[(.ref a1), (.ref b1), (.ref ed), (.int (2 : Int32))] 4)) t := fun t k => castTop (by first | (simp [entryFrame, mkF, argsToLocals, Value.category, maxLocals]; done) | rfl) k
  obtain ⟨hz, ge, Eq, Fm, Fe, Fs, Ve, Oe, na⟩ := H
  obtain ⟨cl101, Ar101, Aq101, As101, An101, Ah101, Ag101⟩ := id Ve
  obtain ⟨cl102, Ar102, Aq102, As102, An102, Ah102, Ag102⟩ := id Ve
  have hin102 : ¬ ((2 : Int32) < 0 ∨ cl102.slots.size ≤ ((2 : Int32)).toNatClampNeg) := inb_of As102 ⟨by decide, by decide⟩
  obtain ⟨T103, h103, X103, e103, W103, st103⟩ := stR X0 hx hZ e0 Ar102 (j := (2 : Int32)) hin102 rfl (Sto.ofV Ar102 Aq102 Oe (Ins.of_exa EB (own_w84 hw))) (g := (mkF m 14 #[.val (.ref a1), .val (.ref b1), .val (.ref ed), .val (.int (2 : Int32))] [(.ref b1), (.int (2 : Int32)), (.ref ed)])) rfl rfl (hb hby own_d10_14)
  have Z103 : n0 ≤ h103.size := Nat.le_trans hz (Nat.le_of_eq W103.size.symm)
  have K103 := (Keep.refl h0 [a1, ed]).wr W103 (Or.inl (List.mem_of_getElem? (i := 1) rfl))
  have N103 := Fr.snoc X103 N0 ge
  have V103 : Arv Z h103 ed ke (.object "java/lang/Object") (10 : Int32) [(.ref c0), (.ref c1), (.ref b1), .null, .null, .null, .null, .null, .null, .null] .null := Arv.set Ar102 Aq102 As102 An102 Ah102 Ag102 rfl W103 2 rfl (Nat.le_of_ble_eq_true rfl)
  have c104 := (Eq.wr W103)
  have c105 := (Fs.other W103 (Or.inl na))
  obtain ⟨T106, h106, X106, e106, W106, st106⟩ := putF X103 hx hZ hown (host := "") (Or.inl (own_w61 hw)) Via.refl e103 c105 c104 (Or.inl (own_w62 hw)) (own_w1 hw) (ty := .int) (by decide) rfl rfl (g := (mkF m 19 #[.val (.ref a1), .val (.ref b1), .val (.ref ed), .val (.int (2 : Int32))] [(.int (3 : Int32)), (.ref a1)])) rfl rfl (hb hby own_d10_19)
  have Z106 : n0 ≤ h106.size := Nat.le_trans Z103 (Nat.le_of_eq W106.size.symm)
  have K106 := K103.wr W106 (Or.inl (List.mem_of_getElem? (i := 0) rfl))
  have N106 := Fr.snoc X106 N103 g1
  have Fw106 := c105.same W106
  have c107 := (c104.wr W106)
  have c108 := ((Fm.other W103 (Or.inl na)).other W106 (Or.inr (slot_ne (Or.inl (own_w22 hw)) (Or.inl (own_w62 hw)) (by decide) (t := .int) (t' := .int) (by decide) (by decide))))
  have c109 := ((Fe.other W103 (Or.inl na)).other W106 (Or.inr (slot_ne (Or.inl (own_w25 hw)) (Or.inl (own_w62 hw)) (by decide) (t := (.array (.object "java/lang/Object"))) (t' := .int) (by decide) (by decide))))
  have c110 := (V103.other W106 (Ne.symm na))
  obtain ⟨fs, hr, hrun, hended, hW, hsame⟩ := X106.leave (v := none) (fun _ => rfl)
  refine ⟨_, _, pre0 _ ?_, hrun, hended, _, _, rfl, ?_, ⟨_, rfl⟩, hW, hsame.mono (by decide) (by decide)⟩
  · show Steps _ _ _ (s₁.setTop (mkF m 0 #[.val (.ref a1), .val (.ref b1), .val (.ref ed), .val (.int (2 : Int32))] [])) _
    refine XS.iloadN X0.here hx rfl (hb hby own_d10_0) rfl ?_
    refine XS.aloadN X0.here hx rfl (hb hby own_d10_1) rfl rfl ?_
    refine X0.arraylength hx (by rw [e0]; exact Ar101.1) (State.isArrayOf_alike hZ.alike Ar101.2.1) (g := (mkF m 2 #[.val (.ref a1), .val (.ref b1), .val (.ref ed), .val (.int (2 : Int32))] [(.ref ed), (.int (2 : Int32))])) rfl rfl (hb hby own_d10_2) _ ?_
    rw [len_of As101 An101]
    refine XS.icmpYes X0.here hx rfl (pc0 := 3) (pc' := 11) rfl (hb hby own_d10_3) rfl (feq (by decide : ¬ ((2 : Int32) = (10 : Int32)))).2 (by decide) (by decide) ?_
    show Steps _ _ _ (s₁.setTop (mkF m 11 #[.val (.ref a1), .val (.ref b1), .val (.ref ed), .val (.int (2 : Int32))] [])) _
    refine XS.aloadN X0.here hx rfl (hb hby own_d10_11) rfl rfl ?_
    refine XS.iloadN X0.here hx rfl (hb hby own_d10_12) rfl ?_
    refine XS.aloadN X0.here hx rfl (hb hby own_d10_13) rfl rfl ?_
    refine st103 _ ?_
    show Steps _ _ _ (T103.setTop (mkF m 15 #[.val (.ref a1), .val (.ref b1), .val (.ref ed), .val (.int (2 : Int32))] [])) _
    refine XS.aloadN X103.here hx rfl (hb hby own_d10_15) rfl rfl ?_
    refine XS.iloadN X103.here hx rfl (hb hby own_d10_16) rfl ?_
    refine XS.iconst X103.here hx rfl (hb hby own_d10_17) ?_
    refine XS.iadd X103.here hx rfl (hb hby own_d10_18) rfl ?_
    show Steps _ _ _ (T103.setTop (mkF m 19 #[.val (.ref a1), .val (.ref b1), .val (.ref ed), .val (.int (2 : Int32))] [(.int (3 : Int32)), (.ref a1)])) _
    refine st106 _ ?_
    show Steps _ _ _ (T106.setTop (mkF m 22 #[.val (.ref a1), .val (.ref b1), .val (.ref ed), .val (.int (2 : Int32))] [])) _
    exact X106.returnOut hx Bd.returns (hb hby own_d10_22) hr
  · show Qown_pa2 Z a1 b1 ed ke c0 c1 h0 n0 _ T106.heap _
    rw [e106]
    exact ⟨rfl, N106, K106, Z106, ge, c107, c108, c109, Fw106, c110, Oe, na⟩
def Qown_add2 (Z : State) (a1 b1 ed : Addr) (ke : ClassId) (c0 c1 : Addr) (h0 : Heap) (n0 : Nat) (v : Option Value) (h : Heap) (L : List Loc) : Prop := v = some (.int (1 : Int32)) ∧ Fr n0 L ∧ Keep h0 h [a1, ed] ∧ own_AL Z n0 h a1 ed ke [(.ref c0), (.ref c1), (.ref b1), .null, .null, .null, .null, .null, .null, .null] (3 : Int32) (3 : Int32)
set_option maxRecDepth 65536 in
set_option maxHeartbeats 40000000 in
theorem own_add2 (l : Launch) (Z : State) (a0 : Array Value) (hw : ∀ d ∈ tables_1, d.before a0 Z = true) (ws : List Jvm.Cond) (a1 b1 ed : Addr) (ke : ClassId) (c0 c1 : Addr) (h0 : Heap) (n0 : Nat) (Z0 : n0 ≤ h0.size) (g1 : n0 ≤ a1) (EB : Exa Z h0 b1 "java/lang/String") (H : own_AL Z n0 h0 a1 ed ke [(.ref c0), (.ref c1), .null, .null, .null, .null, .null, .null, .null, .null] (2 : Int32) (2 : Int32)) :
    MetFree l own_m12 (head1 (Jvm.Cond.code own_m12 jdk_38_method_25_code 2 (some .boolean) :: ws) ({ frames := 1, cells := 0, slots := 0, locals := 15 } : Room)) (fun a U => a = #[(.ref a1), (.ref b1)] ∧ Z.Warmed39 U.vm ∧ U.heap = h0) (fun _ _ _ _ _ => True) (fun _ U o U' => ∃ v L, o = .returned v ∧ Qown_add2 Z a1 b1 ed ke c0 c1 h0 n0 v U'.heap L ∧ FrameEnd U o U' L ({ frames := 1, cells := 0, slots := 0, locals := 15 } : Room).cells ({ frames := 1, cells := 0, slots := 0, locals := 15 } : Room).slots) := by
  refine MetFree.of_bodySF (plainFor_of_name own_pn3) hisR ?_
  intro p e s m args below meth c s₁ Bd hml0 hP hK
  obtain ⟨rfl, hZ, hh⟩ := hP
  have hx := Bd.exec
  have hby := Bd.bytes
  have hml : c.maxLocals = 2 := hml0
  have hown : s.vm.findClass "java/util/ArrayList" = some m.cls := by have q := findClass_of_methodNamed Bd.named; exact q
  have hnm := (name_of_methodNamed Bd.named Bd.method).1
  have X0 : Stand p l e ({ frames := 1, cells := 0, slots := 0, locals := 15 } : Room) s m #[(.ref a1), (.ref b1)] below meth c s₁ [] 0 0 := Stand.of_body Bd
  have e0 : s₁.heap = h0 := by rw [← hh, Bd.state]; rfl
  have N0 := Fr.nil n0
  have pre0 : ∀ t, Steps p.tables e below (s₁.setTop (mkF m 0 #[.val (.ref a1), .val (.ref b1)] [])) t → Steps p.tables e below (s₁.setTop (entryFrame m #[(.ref a1), (.ref b1)] 2)) t := fun t k => castTop (by first | (simp [entryFrame, mkF, argsToLocals, Value.category, maxLocals]; done) | rfl) k
  obtain ⟨hz, ge, Eq, Fm, Fe, Fs, Ve, Oe, na⟩ := H
  obtain ⟨T101, X101, e101, st101⟩ := getF X0 hx hZ hown (host := "") (Or.inl (own_w59 hw)) (Via.of (own_w60 hw)) e0 Fm (g := (mkF m 2 #[.val (.ref a1), .val (.ref b1)] [(.ref a1), (.ref a1)])) rfl rfl (hb hby own_d9_2)
  obtain ⟨T102, h102, X102, e102, W102, st102⟩ := putF X101 hx hZ hown (host := "") (Or.inl (own_w59 hw)) (Via.of (own_w60 hw)) e101 Fm Eq (Or.inl (own_w22 hw)) (own_w1 hw) (ty := .int) (by decide) rfl rfl (g := (mkF m 7 #[.val (.ref a1), .val (.ref b1)] [(.int (3 : Int32)), (.ref a1)])) rfl rfl (hb hby own_d9_7)
  have Z102 : n0 ≤ h102.size := Nat.le_trans hz (Nat.le_of_eq W102.size.symm)
  have K102 := (Keep.refl h0 [a1, ed]).wr W102 (Or.inl (List.mem_of_getElem? (i := 0) rfl))
  have N102 := Fr.snoc X102 N0 g1
  have Fw102 := Fm.same W102
  have c103 := (Fe.other W102 (Or.inr (slot_ne (Or.inl (own_w25 hw)) (Or.inl (own_w22 hw)) (by decide) (t := (.array (.object "java/lang/Object"))) (t' := .int) (by decide) (by decide))))
  obtain ⟨T104, X104, e104, st104⟩ := getF X102 hx hZ hown (host := "") (Or.inl (own_w24 hw)) Via.refl e102 c103 (g := (mkF m 13 #[.val (.ref a1), .val (.ref b1)] [(.ref a1), (.ref b1), (.ref a1)])) rfl rfl (hb hby own_d9_13)
  have c105 := (Fs.other W102 (Or.inr (slot_ne (Or.inl (own_w62 hw)) (Or.inl (own_w22 hw)) (by decide) (t := .int) (t' := .int) (by decide) (by decide))))
  obtain ⟨T106, X106, e106, st106⟩ := getF X104 hx hZ hown (host := "") (Or.inl (own_w61 hw)) Via.refl e104 c105 (g := (mkF m 17 #[.val (.ref a1), .val (.ref b1)] [(.ref a1), (.ref ed), (.ref b1), (.ref a1)])) rfl rfl (hb hby own_d9_17)
  have c107 := (Eq.wr W102)
  have c108 := (Ve.other W102 (Ne.symm na))
  have c109 := (EB.wr W102)
  obtain ⟨cq110, q110, q110'⟩ := c107.cell
  obtain ⟨_, _, ⟨T110, L110, k110, n110⟩, -, X110, ⟨Lc110, hQ110, l110, y110, z110⟩, st110⟩ := X106.privateBack hx (y := own_m11) hown (mvT hZ (own_w63 hw)) (mvT hZ (own_w64 hw)) (mvT hZ (own_w66 hw)) (Cond.privateMethod_at (mvP hZ (own_w65 hw) (args := #[]))) (mvT hZ (own_w67 hw)) (by decide) (backOf (W := 0) (own_pa2 l Z a0 hw [] a1 b1 ed ke c0 c1 h102 n0 Z102 g1 c109 ⟨Z102, ge, c107, Fw102, c103, c105, c108, Oe, na⟩) hZ (own_w67 hw) (own_w2 hw) (by decide) (by decide)) (g := (mkF m 20 #[.val (.ref a1), .val (.ref b1)] [(.int (2 : Int32)), (.ref ed), (.ref b1), (.ref a1)])) rfl (by rw [hml]; rfl) (Steps.refl _) (a := a1) (by rw [e106]; exact q110) q110' (argsL := [(.ref b1), (.ref ed), (.int (2 : Int32))]) (rest := []) (lenOf own_pd7 rfl) rfl (by show 2 * 0 + _ ≤ _; exact Nat.le_of_eq rfl) (hb hby own_d9_20) (fun _ _ => ⟨rfl, e106, (by decide : 0 + 0 ≤ _), (by decide : 0 + 0 ≤ _)⟩)
  dsimp only [Pt.U, Pt.locs, Pt.cells, Pt.slots] at X110 l110 y110 z110 st110 hQ110
  subst l110 y110 z110
  obtain ⟨rfl, N110q, Kq110, hA110⟩ := hQ110
  have N110 := Fr.app N102 N110q
  have Z110 : n0 ≤ T110.heap.size := Nat.le_trans Z102 Kq110.1
  have K110 := K102.trans Kq110 (allS (P := fun x => x ∈ ([a1, ed] : List Addr) ∨ h0.size ≤ x) (Or.inl (List.mem_of_getElem? (i := 0) rfl)) (allS (P := fun x => x ∈ ([a1, ed] : List Addr) ∨ h0.size ≤ x) (Or.inl (List.mem_of_getElem? (i := 1) rfl)) all0))
  obtain ⟨fs, hr, hrun, hended, hW, hsame⟩ := X110.leave (v := some (.int (1 : Int32))) (fun h => by rw [Bd.returns] at h; cases h)
  refine ⟨_, _, pre0 _ ?_, hrun, hended, _, _, rfl, ?_, ⟨_, rfl⟩, hW, hsame.mono (by decide) (by decide)⟩
  · show Steps _ _ _ (s₁.setTop (mkF m 0 #[.val (.ref a1), .val (.ref b1)] [])) _
    refine XS.aloadN X0.here hx rfl (hb hby own_d9_0) rfl rfl ?_
    refine XS.dup X0.here hx rfl (hb hby own_d9_1) rfl rfl ?_
    refine st101 _ ?_
    refine XS.iconst X101.here hx rfl (hb hby own_d9_5) ?_
    show Steps _ _ _ (T101.setTop (mkF m 6 #[.val (.ref a1), .val (.ref b1)] [(.int (1 : Int32)), (.int (2 : Int32)), (.ref a1)])) _
    refine XS.iadd X101.here hx rfl (hb hby own_d9_6) rfl ?_
    refine st102 _ ?_
    refine XS.aloadN X102.here hx rfl (hb hby own_d9_10) rfl rfl ?_
    refine XS.aloadN X102.here hx rfl (hb hby own_d9_11) rfl rfl ?_
    show Steps _ _ _ (T102.setTop (mkF m 12 #[.val (.ref a1), .val (.ref b1)] [(.ref b1), (.ref a1)])) _
    refine XS.aloadN X102.here hx rfl (hb hby own_d9_12) rfl rfl ?_
    refine st104 _ ?_
    refine XS.aloadN X104.here hx rfl (hb hby own_d9_16) rfl rfl ?_
    refine st106 _ ?_
    show Steps _ _ _ (T106.setTop (mkF m 20 #[.val (.ref a1), .val (.ref b1)] [(.int (2 : Int32)), (.ref ed), (.ref b1), (.ref a1)])) _
    refine st110.trans ?_
    refine XS.iconst X110.here hx rfl (hb hby own_d9_23) ?_
    show Steps _ _ _ (T110.setTop (mkF m 24 #[.val (.ref a1), .val (.ref b1)] [(.int (1 : Int32))])) _
    exact retN X110 hx (t := .boolean) Bd.returns (by simp) (hb hby own_d9_24) hr
  · show Qown_add2 Z a1 b1 ed ke c0 c1 h0 n0 _ T110.heap _
    exact ⟨rfl, N110, K110, hA110⟩
def Qown_add0 (Z : State) (a1 b1 da : Addr) (kd : ClassId) (h0 : Heap) (n0 : Nat) (v : Option Value) (h : Heap) (L : List Loc) : Prop := v = some (.int (1 : Int32)) ∧ Fr n0 L ∧ ∃ (ed : Addr) (ke : ClassId), Keep h0 h [a1] ∧ own_AL Z n0 h a1 ed ke [(.ref b1), .null, .null, .null, .null, .null, .null, .null, .null, .null] (1 : Int32) (1 : Int32)
set_option maxRecDepth 65536 in
set_option maxHeartbeats 40000000 in
theorem own_add0 (l : Launch) (Z : State) (a0 : Array Value) (hw : ∀ d ∈ tables_1, d.before a0 Z = true) (ws : List Jvm.Cond) (a1 b1 da : Addr) (kd : ClassId) (h0 : Heap) (n0 : Nat) (Z0 : n0 ≤ h0.size) (EB : Exa Z h0 b1 "java/lang/String") (g1 : n0 ≤ a1) (E1 : Exa Z h0 a1 "java/util/ArrayList") (F0 : Fld Z h0 a1 "java/util/AbstractList" "modCount" "I" (.int (0 : Int32))) (F1 : Fld Z h0 a1 "java/util/ArrayList" "elementData" "[Ljava/lang/Object;" (.ref da)) (F2 : Fld Z h0 a1 "java/util/ArrayList" "size" "I" (.int (0 : Int32))) (SD : Sta Z h0 "java/util/ArrayList" "DEFAULTCAPACITY_EMPTY_ELEMENTDATA" "[Ljava/lang/Object;" (.ref da)) (VD : Arv Z h0 da kd (.object "java/lang/Object") (0 : Int32) [] .null) (nda : da ≠ a1) :
    MetFree l own_m12 (head1 (Jvm.Cond.code own_m12 jdk_38_method_25_code 2 (some .boolean) :: ws) ({ frames := 4, cells := 1, slots := 10, locals := 56 } : Room)) (fun a U => a = #[(.ref a1), (.ref b1)] ∧ Z.Warmed39 U.vm ∧ U.heap = h0) (fun _ _ _ _ _ => True) (fun _ U o U' => ∃ v L, o = .returned v ∧ Qown_add0 Z a1 b1 da kd h0 n0 v U'.heap L ∧ FrameEnd U o U' L ({ frames := 4, cells := 1, slots := 10, locals := 56 } : Room).cells ({ frames := 4, cells := 1, slots := 10, locals := 56 } : Room).slots) := by
  refine MetFree.of_bodySF (plainFor_of_name own_pn3) hisR ?_
  intro p e s m args below meth c s₁ Bd hml0 hP hK
  obtain ⟨rfl, hZ, hh⟩ := hP
  have hx := Bd.exec
  have hby := Bd.bytes
  have hml : c.maxLocals = 2 := hml0
  have hown : s.vm.findClass "java/util/ArrayList" = some m.cls := by have q := findClass_of_methodNamed Bd.named; exact q
  have hnm := (name_of_methodNamed Bd.named Bd.method).1
  have X0 : Stand p l e ({ frames := 4, cells := 1, slots := 10, locals := 56 } : Room) s m #[(.ref a1), (.ref b1)] below meth c s₁ [] 0 0 := Stand.of_body Bd
  have e0 : s₁.heap = h0 := by rw [← hh, Bd.state]; rfl
  have N0 := Fr.nil n0
  have pre0 : ∀ t, Steps p.tables e below (s₁.setTop (mkF m 0 #[.val (.ref a1), .val (.ref b1)] [])) t → Steps p.tables e below (s₁.setTop (entryFrame m #[(.ref a1), (.ref b1)] 2)) t := fun t k => castTop (by first | (simp [entryFrame, mkF, argsToLocals, Value.category, maxLocals]; done) | rfl) k
  obtain ⟨T101, X101, e101, st101⟩ := getF X0 hx hZ hown (host := "") (Or.inl (own_w59 hw)) (Via.of (own_w60 hw)) e0 F0 (g := (mkF m 2 #[.val (.ref a1), .val (.ref b1)] [(.ref a1), (.ref a1)])) rfl rfl (hb hby own_d9_2)
  obtain ⟨T102, h102, X102, e102, W102, st102⟩ := putF X101 hx hZ hown (host := "") (Or.inl (own_w59 hw)) (Via.of (own_w60 hw)) e101 F0 E1 (Or.inl (own_w22 hw)) (own_w1 hw) (ty := .int) (by decide) rfl rfl (g := (mkF m 7 #[.val (.ref a1), .val (.ref b1)] [(.int (1 : Int32)), (.ref a1)])) rfl rfl (hb hby own_d9_7)
  have Z102 : n0 ≤ h102.size := Nat.le_trans Z0 (Nat.le_of_eq W102.size.symm)
  have K102 := (Keep.refl h0 [a1]).wr W102 (Or.inl (List.mem_of_getElem? (i := 0) rfl))
  have N102 := Fr.snoc X102 N0 g1
  have Fw102 := F0.same W102
  have c103 := (F1.other W102 (Or.inr (slot_ne (Or.inl (own_w25 hw)) (Or.inl (own_w22 hw)) (by decide) (t := (.array (.object "java/lang/Object"))) (t' := .int) (by decide) (by decide))))
  obtain ⟨T104, X104, e104, st104⟩ := getF X102 hx hZ hown (host := "") (Or.inl (own_w24 hw)) Via.refl e102 c103 (g := (mkF m 13 #[.val (.ref a1), .val (.ref b1)] [(.ref a1), (.ref b1), (.ref a1)])) rfl rfl (hb hby own_d9_13)
  have c105 := (F2.other W102 (Or.inr (slot_ne (Or.inl (own_w62 hw)) (Or.inl (own_w22 hw)) (by decide) (t := .int) (t' := .int) (by decide) (by decide))))
  obtain ⟨T106, X106, e106, st106⟩ := getF X104 hx hZ hown (host := "") (Or.inl (own_w61 hw)) Via.refl e104 c105 (g := (mkF m 17 #[.val (.ref a1), .val (.ref b1)] [(.ref a1), (.ref da), (.ref b1), (.ref a1)])) rfl rfl (hb hby own_d9_17)
  have c107 := (E1.wr W102)
  have c108 := (EB.wr W102)
  have c109 := (SD.wr W102)
  have c110 := (VD.other W102 nda)
  obtain ⟨cq111, q111, q111'⟩ := c107.cell
  obtain ⟨_, _, ⟨T111, L111, k111, n111⟩, -, X111, ⟨Lc111, hQ111, l111, y111, z111⟩, st111⟩ := X106.privateBack hx (y := own_m11) hown (mvT hZ (own_w63 hw)) (mvT hZ (own_w64 hw)) (mvT hZ (own_w66 hw)) (Cond.privateMethod_at (mvP hZ (own_w65 hw) (args := #[]))) (mvT hZ (own_w67 hw)) (by decide) (backOf (W := 0) (own_pa0 l Z a0 hw [] a1 b1 da kd h102 n0 Z102 c108 g1 c107 Fw102 c103 c105 c109 c110 nda) hZ (own_w67 hw) (own_w2 hw) (by decide) (by decide)) (g := (mkF m 20 #[.val (.ref a1), .val (.ref b1)] [(.int (0 : Int32)), (.ref da), (.ref b1), (.ref a1)])) rfl (by rw [hml]; rfl) (Steps.refl _) (a := a1) (by rw [e106]; exact q111) q111' (argsL := [(.ref b1), (.ref da), (.int (0 : Int32))]) (rest := []) (lenOf own_pd7 rfl) rfl (by show 2 * 0 + _ ≤ _; exact Nat.le_of_eq rfl) (hb hby own_d9_20) (fun _ _ => ⟨rfl, e106, (by decide : 0 + 1 ≤ _), (by decide : 0 + 10 ≤ _)⟩)
  dsimp only [Pt.U, Pt.locs, Pt.cells, Pt.slots] at X111 l111 y111 z111 st111 hQ111
  subst l111 y111 z111
  obtain ⟨rfl, N111q, ed111, ke111, Kq111, hA111⟩ := hQ111
  have N111 := Fr.app N102 N111q
  have Z111 : n0 ≤ T111.heap.size := Nat.le_trans Z102 Kq111.1
  have K111 := K102.trans Kq111 (allS (P := fun x => x ∈ ([a1] : List Addr) ∨ h0.size ≤ x) (Or.inl (List.mem_of_getElem? (i := 0) rfl)) all0)
  obtain ⟨fs, hr, hrun, hended, hW, hsame⟩ := X111.leave (v := some (.int (1 : Int32))) (fun h => by rw [Bd.returns] at h; cases h)
  refine ⟨_, _, pre0 _ ?_, hrun, hended, _, _, rfl, ?_, ⟨_, rfl⟩, hW, hsame.mono (by decide) (by decide)⟩
  · show Steps _ _ _ (s₁.setTop (mkF m 0 #[.val (.ref a1), .val (.ref b1)] [])) _
    refine XS.aloadN X0.here hx rfl (hb hby own_d9_0) rfl rfl ?_
    refine XS.dup X0.here hx rfl (hb hby own_d9_1) rfl rfl ?_
    refine st101 _ ?_
    refine XS.iconst X101.here hx rfl (hb hby own_d9_5) ?_
    show Steps _ _ _ (T101.setTop (mkF m 6 #[.val (.ref a1), .val (.ref b1)] [(.int (1 : Int32)), (.int (0 : Int32)), (.ref a1)])) _
    refine XS.iadd X101.here hx rfl (hb hby own_d9_6) rfl ?_
    refine st102 _ ?_
    refine XS.aloadN X102.here hx rfl (hb hby own_d9_10) rfl rfl ?_
    refine XS.aloadN X102.here hx rfl (hb hby own_d9_11) rfl rfl ?_
    show Steps _ _ _ (T102.setTop (mkF m 12 #[.val (.ref a1), .val (.ref b1)] [(.ref b1), (.ref a1)])) _
    refine XS.aloadN X102.here hx rfl (hb hby own_d9_12) rfl rfl ?_
    refine st104 _ ?_
    refine XS.aloadN X104.here hx rfl (hb hby own_d9_16) rfl rfl ?_
    refine st106 _ ?_
    show Steps _ _ _ (T106.setTop (mkF m 20 #[.val (.ref a1), .val (.ref b1)] [(.int (0 : Int32)), (.ref da), (.ref b1), (.ref a1)])) _
    refine st111.trans ?_
    refine XS.iconst X111.here hx rfl (hb hby own_d9_23) ?_
    show Steps _ _ _ (T111.setTop (mkF m 24 #[.val (.ref a1), .val (.ref b1)] [(.int (1 : Int32))])) _
    exact retN X111 hx (t := .boolean) Bd.returns (by simp) (hb hby own_d9_24) hr
  · show Qown_add0 Z a1 b1 da kd h0 n0 _ T111.heap _
    exact ⟨rfl, N111, ed111, ke111, K111, hA111⟩
def Qown_pi (Z : State) (a1 a2 : Addr) (d1 d2 : UInt64) (h0 : Heap) (n0 : Nat) (v : Option Value) (h : Heap) (L : List Loc) : Prop := v = none ∧ Fr n0 L ∧ Keep h0 h [a1] ∧ Exa Z h a1 "com/example/arpent/arpent/geom/Point" ∧ Fld Z h a1 "com/example/arpent/arpent/geom/Point" "x" "D" (.double d1) ∧ Fld Z h a1 "com/example/arpent/arpent/geom/Point" "y" "D" (.double d2)
set_option maxRecDepth 65536 in
set_option maxHeartbeats 40000000 in
theorem own_pi (l : Launch) (Z : State) (a0 : Array Value) (hw : ∀ d ∈ tables_1, d.before a0 Z = true) (ws : List Jvm.Cond) (a1 a2 : Addr) (d1 d2 : UInt64) (h0 : Heap) (n0 : Nat) (Z0 : n0 ≤ h0.size) (g1 : n0 ≤ a1) (E1 : Exa Z h0 a1 "com/example/arpent/arpent/geom/Point") (F0 : Fld Z h0 a1 "com/example/arpent/arpent/geom/Point" "coordinates" "Ljava/util/List;" .null) (F1 : Fld Z h0 a1 "com/example/arpent/arpent/geom/Point" "x" "D" (.double (FP.l2d 0))) (F2 : Fld Z h0 a1 "com/example/arpent/arpent/geom/Point" "y" "D" (.double (FP.l2d 0))) :
    MetFree l own_m13 (head1 (Jvm.Cond.code own_m13 prog_57_method_1_code 6 none :: ws) ({ frames := 2, cells := 0, slots := 0, locals := 24 } : Room)) (fun a U => a = #[(.ref a1), (.ref a2), (.double d1), (.double d2)] ∧ Z.Warmed39 U.vm ∧ U.heap = h0) (fun _ _ _ _ _ => True) (fun _ U o U' => ∃ v L, o = .returned v ∧ Qown_pi Z a1 a2 d1 d2 h0 n0 v U'.heap L ∧ FrameEnd U o U' L ({ frames := 2, cells := 0, slots := 0, locals := 24 } : Room).cells ({ frames := 2, cells := 0, slots := 0, locals := 24 } : Room).slots) := by
  refine MetFree.of_bodySF (plainFor_of_name own_pn6) hisR ?_
  intro p e s m args below meth c s₁ Bd hml0 hP hK
  obtain ⟨rfl, hZ, hh⟩ := hP
  have hx := Bd.exec
  have hby := Bd.bytes
  have hml : c.maxLocals = 6 := hml0
  have hown : s.vm.findClass "com/example/arpent/arpent/geom/Point" = some m.cls := by have q := findClass_of_methodNamed Bd.named; exact q
  have hnm := (name_of_methodNamed Bd.named Bd.method).1
  have X0 : Stand p l e ({ frames := 2, cells := 0, slots := 0, locals := 24 } : Room) s m #[(.ref a1), (.ref a2), (.double d1), (.double d2)] below meth c s₁ [] 0 0 := Stand.of_body Bd
  have e0 : s₁.heap = h0 := by rw [← hh, Bd.state]; rfl
  have N0 := Fr.nil n0
  have pre0 : ∀ t, Steps p.tables e below (s₁.setTop (mkF m 0 #[.val (.ref a1), .val (.ref a2), .val (.double d1), .second, .val (.double d2), .second] [])) t → Steps p.tables e below (s₁.setTop (entryFrame m #[(.ref a1), (.ref a2), (.double d1), (.double d2)] 6)) t := fun t k => castTop (by first | (simp [entryFrame, mkF, argsToLocals, Value.category, maxLocals]; done) | rfl) k
  obtain ⟨_, _, ⟨T101, L101, k101, n101⟩, -, X101, ⟨Lc101, hQ101, l101, y101, z101⟩, st101⟩ := X0.specialBack hx (y := own_m1) rfl hown (mvT hZ (own_w91 hw)) (mvT hZ (own_w92 hw)) (mvT hZ (own_w95 hw)) (by decide) (backOf (W := 0) (own_rec l Z a0 hw [] a1 h0 n0 Z0) hZ (own_w95 hw) (own_w94 hw) (by decide) (by decide)) (g := (mkF m 1 #[.val (.ref a1), .val (.ref a2), .val (.double d1), .second, .val (.double d2), .second] [(.ref a1)])) rfl (by rw [hml]; rfl) (Steps.refl _) (a := a1) (argsL := []) (rest := []) (lenOf own_pd0 rfl) rfl (by show 2 * 0 + _ ≤ _; exact Nat.le_of_eq rfl) (hb hby own_d14_1) (fun _ _ => ⟨rfl, e0, (by decide : 0 + 0 ≤ _), (by decide : 0 + 0 ≤ _)⟩)
  dsimp only [Pt.U, Pt.locs, Pt.cells, Pt.slots] at X101 l101 y101 z101 st101 hQ101
  subst l101 y101 z101
  obtain ⟨rfl, N101q, e101⟩ := hQ101
  have N101 := Fr.app N0 N101q
  obtain ⟨T102, h102, X102, e102, W102, st102⟩ := putF X101 hx hZ hown (host := "") (Or.inl (own_w97 hw)) Via.refl e101 F0 E1 (Or.inr ⟨(own_w98 hw), rfl, hnm⟩) (own_w86 hw) (ty := (.object "java/util/List")) (by decide) rfl rfl (g := (mkF m 6 #[.val (.ref a1), .val (.ref a2), .val (.double d1), .second, .val (.double d2), .second] [(.ref a2), (.ref a1)])) rfl rfl (hb hby own_d14_6)
  have Z102 : n0 ≤ h102.size := Nat.le_trans Z0 (Nat.le_of_eq W102.size.symm)
  have K102 := (Keep.refl h0 [a1]).wr W102 (Or.inl (List.mem_of_getElem? (i := 0) rfl))
  have N102 := Fr.snoc X102 N101 g1
  have Fw102 := F0.same W102
  have c103 := (E1.wr W102)
  have c104 := (F1.other W102 (Or.inr (slot_ne (Or.inr (own_w100 hw)) (Or.inr (own_w98 hw)) (by decide) (t := .double) (t' := (.object "java/util/List")) (by decide) (by decide))))
  obtain ⟨T105, h105, X105, e105, W105, st105⟩ := putF X102 hx hZ hown (host := "") (Or.inl (own_w99 hw)) Via.refl e102 c104 c103 (Or.inr ⟨(own_w100 hw), rfl, hnm⟩) (own_w86 hw) (ty := .double) (by decide) rfl rfl (g := (mkF m 11 #[.val (.ref a1), .val (.ref a2), .val (.double d1), .second, .val (.double d2), .second] [(.double d1), (.ref a1)])) rfl rfl (hb hby own_d14_11)
  have Z105 : n0 ≤ h105.size := Nat.le_trans Z102 (Nat.le_of_eq W105.size.symm)
  have K105 := K102.wr W105 (Or.inl (List.mem_of_getElem? (i := 0) rfl))
  have N105 := Fr.snoc X105 N102 g1
  have Fw105 := c104.same W105
  have c106 := (c103.wr W105)
  have c107 := ((F2.other W102 (Or.inr (slot_ne (Or.inr (own_w102 hw)) (Or.inr (own_w98 hw)) (by decide) (t := .double) (t' := (.object "java/util/List")) (by decide) (by decide)))).other W105 (Or.inr (slot_ne (Or.inr (own_w102 hw)) (Or.inr (own_w100 hw)) (by decide) (t := .double) (t' := .double) (by decide) (by decide))))
  obtain ⟨T108, h108, X108, e108, W108, st108⟩ := putF X105 hx hZ hown (host := "") (Or.inl (own_w101 hw)) Via.refl e105 c107 c106 (Or.inr ⟨(own_w102 hw), rfl, hnm⟩) (own_w86 hw) (ty := .double) (by decide) rfl rfl (g := (mkF m 17 #[.val (.ref a1), .val (.ref a2), .val (.double d1), .second, .val (.double d2), .second] [(.double d2), (.ref a1)])) rfl rfl (hb hby own_d14_17)
  have Z108 : n0 ≤ h108.size := Nat.le_trans Z105 (Nat.le_of_eq W108.size.symm)
  have K108 := K105.wr W108 (Or.inl (List.mem_of_getElem? (i := 0) rfl))
  have N108 := Fr.snoc X108 N105 g1
  have Fw108 := c107.same W108
  have c109 := (c106.wr W108)
  have c110 := (Fw105.other W108 (Or.inr (slot_ne (Or.inr (own_w100 hw)) (Or.inr (own_w102 hw)) (by decide) (t := .double) (t' := .double) (by decide) (by decide))))
  obtain ⟨fs, hr, hrun, hended, hW, hsame⟩ := X108.leave (v := none) (fun _ => rfl)
  refine ⟨_, _, pre0 _ ?_, hrun, hended, _, _, rfl, ?_, ⟨_, rfl⟩, hW, hsame.mono (by decide) (by decide)⟩
  · show Steps _ _ _ (s₁.setTop (mkF m 0 #[.val (.ref a1), .val (.ref a2), .val (.double d1), .second, .val (.double d2), .second] [])) _
    refine XS.aloadN X0.here hx rfl (hb hby own_d14_0) rfl rfl ?_
    refine st101.trans ?_
    refine XS.aloadN X101.here hx rfl (hb hby own_d14_4) rfl rfl ?_
    refine XS.aloadN X101.here hx rfl (hb hby own_d14_5) rfl rfl ?_
    show Steps _ _ _ (T101.setTop (mkF m 6 #[.val (.ref a1), .val (.ref a2), .val (.double d1), .second, .val (.double d2), .second] [(.ref a2), (.ref a1)])) _
    refine st102 _ ?_
    refine XS.aloadN X102.here hx rfl (hb hby own_d14_9) rfl rfl ?_
    refine XS.dloadN X102.here hx rfl (hb hby own_d14_10) rfl ?_
    refine st105 _ ?_
    show Steps _ _ _ (T105.setTop (mkF m 14 #[.val (.ref a1), .val (.ref a2), .val (.double d1), .second, .val (.double d2), .second] [])) _
    refine XS.aloadN X105.here hx rfl (hb hby own_d14_14) rfl rfl ?_
    refine XS.dload X105.here hx rfl (hb hby own_d14_15) rfl ?_
    refine st108 _ ?_
    show Steps _ _ _ (T108.setTop (mkF m 20 #[.val (.ref a1), .val (.ref a2), .val (.double d1), .second, .val (.double d2), .second] [])) _
    exact X108.returnOut hx Bd.returns (hb hby own_d14_20) hr
  · show Qown_pi Z a1 a2 d1 d2 h0 n0 _ T108.heap _
    rw [e108]
    exact ⟨rfl, N108, K108, c109, c110, Fw108⟩
def Qown_sp (Z : State) (a1 a2 : Addr) (i1 i2 i3 i4 : Int32) (h0 : Heap) (n0 : Nat) (v : Option Value) (h : Heap) (L : List Loc) : Prop := v = some (.int (own_s i1 i2 i3 i4)) ∧ Fr n0 L ∧ h = h0
set_option maxRecDepth 65536 in
set_option maxHeartbeats 40000000 in
theorem own_sp (l : Launch) (Z : State) (a0 : Array Value) (hw : ∀ d ∈ tables_1, d.before a0 Z = true) (ws : List Jvm.Cond) (a1 a2 : Addr) (i1 i2 i3 i4 : Int32) (h0 : Heap) (n0 : Nat) (Z0 : n0 ≤ h0.size) (F_a1_x : Fld Z h0 a1 "com/example/arpent/arpent/geom/Point" "x" "D" (.double (FP.i2d i1))) (F_a1_y : Fld Z h0 a1 "com/example/arpent/arpent/geom/Point" "y" "D" (.double (FP.i2d i2))) (F_a2_x : Fld Z h0 a2 "com/example/arpent/arpent/geom/Point" "x" "D" (.double (FP.i2d i3))) (F_a2_y : Fld Z h0 a2 "com/example/arpent/arpent/geom/Point" "y" "D" (.double (FP.i2d i4))) :
    MetFree l own_m14 (head1 (Jvm.Cond.code own_m14 prog_57_method_4_code 2 (some .boolean) :: ws) ({ frames := 0, cells := 0, slots := 0, locals := 0 } : Room)) (fun a U => a = #[(.ref a1), (.ref a2)] ∧ Z.Warmed39 U.vm ∧ U.heap = h0) (fun _ _ _ _ _ => True) (fun _ U o U' => ∃ v L, o = .returned v ∧ Qown_sp Z a1 a2 i1 i2 i3 i4 h0 n0 v U'.heap L ∧ FrameEnd U o U' L ({ frames := 0, cells := 0, slots := 0, locals := 0 } : Room).cells ({ frames := 0, cells := 0, slots := 0, locals := 0 } : Room).slots) := by
  refine MetFree.of_bodySF (plainFor_of_name own_pn6) hisR ?_
  intro p e s m args below meth c s₁ Bd hml0 hP hK
  obtain ⟨rfl, hZ, hh⟩ := hP
  have hx := Bd.exec
  have hby := Bd.bytes
  have hml : c.maxLocals = 2 := hml0
  have hown : s.vm.findClass "com/example/arpent/arpent/geom/Point" = some m.cls := by have q := findClass_of_methodNamed Bd.named; exact q
  have hnm := (name_of_methodNamed Bd.named Bd.method).1
  have X0 : Stand p l e ({ frames := 0, cells := 0, slots := 0, locals := 0 } : Room) s m #[(.ref a1), (.ref a2)] below meth c s₁ [] 0 0 := Stand.of_body Bd
  have e0 : s₁.heap = h0 := by rw [← hh, Bd.state]; rfl
  have N0 := Fr.nil n0
  have pre0 : ∀ t, Steps p.tables e below (s₁.setTop (mkF m 0 #[.val (.ref a1), .val (.ref a2)] [])) t → Steps p.tables e below (s₁.setTop (entryFrame m #[(.ref a1), (.ref a2)] 2)) t := fun t k => castTop (by first | (simp [entryFrame, mkF, argsToLocals, Value.category, maxLocals]; done) | rfl) k
  obtain ⟨T101, X101, e101, st101⟩ := getF X0 hx hZ hown (host := "") (Or.inl (own_w99 hw)) Via.refl e0 F_a1_x (g := (mkF m 1 #[.val (.ref a1), .val (.ref a2)] [(.ref a1)])) rfl rfl (hb hby own_d16_1)
  obtain ⟨T102, X102, e102, st102⟩ := getF X101 hx hZ hown (host := "") (Or.inl (own_w99 hw)) Via.refl e101 F_a2_x (g := (mkF m 5 #[.val (.ref a1), .val (.ref a2)] [(.ref a2), (.double (FP.i2d i1))])) rfl rfl (hb hby own_d16_5)
  have pre103 : ∀ t, Steps p.tables e below (T102.setTop (mkF m 9 #[.val (.ref a1), .val (.ref a2)] [(.int (lcmpW i1.toInt64 i3.toInt64))])) t → Steps p.tables e below (s₁.setTop (entryFrame m #[(.ref a1), (.ref a2)] 2)) t := fun t kt => pre0 t (by
    show Steps _ _ _ (s₁.setTop (mkF m 0 #[.val (.ref a1), .val (.ref a2)] [])) _
    refine XS.aloadN X0.here hx rfl (hb hby own_d16_0) rfl rfl ?_
    refine st101 _ ?_
    refine XS.aloadN X101.here hx rfl (hb hby own_d16_4) rfl rfl ?_
    refine st102 _ ?_
    show Steps _ _ _ (T102.setTop (mkF m 8 #[.val (.ref a1), .val (.ref a2)] [(.double (FP.i2d i3)), (.double (FP.i2d i1))])) _
    refine XS.dcmpS X102.here hx rfl (hb hby own_d16_8) rfl (own_dcmp i1 i3 .l) ?_
    exact kt)
  by_cases hc9_104 : (lcmpW i1.toInt64 i3.toInt64) = (0 : Int32)
  · skip
    have ihc9_104 := (own_eq (b := (0 : Int32)) (k := 0) rfl).mp hc9_104
    obtain ⟨T105, X105, e105, st105⟩ := getF X102 hx hZ hown (host := "") (Or.inl (own_w101 hw)) Via.refl e102 F_a1_y (g := (mkF m 13 #[.val (.ref a1), .val (.ref a2)] [(.ref a1)])) rfl rfl (hb hby own_d16_13)
    obtain ⟨T106, X106, e106, st106⟩ := getF X105 hx hZ hown (host := "") (Or.inl (own_w101 hw)) Via.refl e105 F_a2_y (g := (mkF m 17 #[.val (.ref a1), .val (.ref a2)] [(.ref a2), (.double (FP.i2d i2))])) rfl rfl (hb hby own_d16_17)
    have pre107 : ∀ t, Steps p.tables e below (T106.setTop (mkF m 21 #[.val (.ref a1), .val (.ref a2)] [(.int (lcmpW i2.toInt64 i4.toInt64))])) t → Steps p.tables e below (s₁.setTop (entryFrame m #[(.ref a1), (.ref a2)] 2)) t := fun t kt => pre103 t (by
      show Steps _ _ _ (T102.setTop (mkF m 9 #[.val (.ref a1), .val (.ref a2)] [(.int (lcmpW i1.toInt64 i3.toInt64))])) _
      refine XS.ifNo X102.here hx rfl (hb hby own_d16_9) rfl ((if0 _ _).trans (teq hc9_104).2) ?_
      refine XS.aloadN X102.here hx rfl (hb hby own_d16_12) rfl rfl ?_
      refine st105 _ ?_
      refine XS.aloadN X105.here hx rfl (hb hby own_d16_16) rfl rfl ?_
      show Steps _ _ _ (T105.setTop (mkF m 17 #[.val (.ref a1), .val (.ref a2)] [(.ref a2), (.double (FP.i2d i2))])) _
      refine st106 _ ?_
      refine XS.dcmpS X106.here hx rfl (hb hby own_d16_20) rfl (own_dcmp i2 i4 .l) ?_
      exact kt)
    by_cases hc21_108 : (lcmpW i2.toInt64 i4.toInt64) = (0 : Int32)
    · skip
      have ihc21_108 := (own_eq (b := (0 : Int32)) (k := 0) rfl).mp hc21_108
      obtain ⟨fs, hr, hrun, hended, hW, hsame⟩ := X106.leave (v := some (.int (1 : Int32))) (fun h => by rw [Bd.returns] at h; cases h)
      refine ⟨_, _, pre107 _ ?_, hrun, hended, _, _, rfl, ?_, ⟨_, rfl⟩, hW, hsame.mono (by decide) (by decide)⟩
      · show Steps _ _ _ (T106.setTop (mkF m 21 #[.val (.ref a1), .val (.ref a2)] [(.int (lcmpW i2.toInt64 i4.toInt64))])) _
        refine XS.ifNo X106.here hx rfl (hb hby own_d16_21) rfl ((if0 _ _).trans (teq hc21_108).2) ?_
        refine XS.iconst X106.here hx rfl (hb hby own_d16_24) ?_
        refine XS.goto X106.here hx rfl (pc0 := 25) (pc' := 29) rfl (hb hby own_d16_25) (by decide) (by decide) ?_
        show Steps _ _ _ (T106.setTop (mkF m 29 #[.val (.ref a1), .val (.ref a2)] [(.int (1 : Int32))])) _
        exact retN X106 hx (t := .boolean) Bd.returns (by simp) (hb hby own_d16_29) hr
      · show Qown_sp Z a1 a2 i1 i2 i3 i4 h0 n0 _ T106.heap _
        rw [e106]
        exact ⟨congrArg (fun z => some (Value.int z)) (by have q0 := (own_lc _ _).mp hc9_104; have q1 := (own_lc _ _).mp hc21_108; unfold own_s; exact (if_pos ⟨q0, q1⟩).symm), N0, rfl⟩
    · skip
      have ihc21_108 := (mt (own_eq (b := (0 : Int32)) (k := 0) rfl).mpr hc21_108)
      obtain ⟨fs, hr, hrun, hended, hW, hsame⟩ := X106.leave (v := some (.int (0 : Int32))) (fun h => by rw [Bd.returns] at h; cases h)
      refine ⟨_, _, pre107 _ ?_, hrun, hended, _, _, rfl, ?_, ⟨_, rfl⟩, hW, hsame.mono (by decide) (by decide)⟩
      · show Steps _ _ _ (T106.setTop (mkF m 21 #[.val (.ref a1), .val (.ref a2)] [(.int (lcmpW i2.toInt64 i4.toInt64))])) _
        refine XS.ifYes X106.here hx rfl (pc0 := 21) (pc' := 28) rfl (hb hby own_d16_21) rfl ((if0 _ _).trans (feq hc21_108).2) (by decide) (by decide) ?_
        refine XS.iconst X106.here hx rfl (hb hby own_d16_28) ?_
        show Steps _ _ _ (T106.setTop (mkF m 29 #[.val (.ref a1), .val (.ref a2)] [(.int (0 : Int32))])) _
        exact retN X106 hx (t := .boolean) Bd.returns (by simp) (hb hby own_d16_29) hr
      · show Qown_sp Z a1 a2 i1 i2 i3 i4 h0 n0 _ T106.heap _
        rw [e106]
        exact ⟨congrArg (fun z => some (Value.int z)) (by have q0 := (own_lc _ _).mp hc9_104; have q1 := mt (own_lc _ _).mpr hc21_108; unfold own_s; exact (if_neg (fun r => q1 r.2)).symm), N0, rfl⟩
  · skip
    have ihc9_104 := (mt (own_eq (b := (0 : Int32)) (k := 0) rfl).mpr hc9_104)
    obtain ⟨fs, hr, hrun, hended, hW, hsame⟩ := X102.leave (v := some (.int (0 : Int32))) (fun h => by rw [Bd.returns] at h; cases h)
    refine ⟨_, _, pre103 _ ?_, hrun, hended, _, _, rfl, ?_, ⟨_, rfl⟩, hW, hsame.mono (by decide) (by decide)⟩
    · show Steps _ _ _ (T102.setTop (mkF m 9 #[.val (.ref a1), .val (.ref a2)] [(.int (lcmpW i1.toInt64 i3.toInt64))])) _
      refine XS.ifYes X102.here hx rfl (pc0 := 9) (pc' := 28) rfl (hb hby own_d16_9) rfl ((if0 _ _).trans (feq hc9_104).2) (by decide) (by decide) ?_
      refine XS.iconst X102.here hx rfl (hb hby own_d16_28) ?_
      show Steps _ _ _ (T102.setTop (mkF m 29 #[.val (.ref a1), .val (.ref a2)] [(.int (0 : Int32))])) _
      exact retN X102 hx (t := .boolean) Bd.returns (by simp) (hb hby own_d16_29) hr
    · show Qown_sp Z a1 a2 i1 i2 i3 i4 h0 n0 _ T102.heap _
      rw [e102]
      exact ⟨congrArg (fun z => some (Value.int z)) (by have q0 := mt (own_lc _ _).mpr hc9_104; unfold own_s; exact (if_neg (fun r => q0 r.1)).symm), N0, rfl⟩
def Qown_law (Z : State) (p1 p2 p3 p4 p5 p6 : Int32) (da : Addr) (kd : ClassId) (cs : Int32) (h0 : Heap) (n0 : Nat) (v : Option Value) (h : Heap) (L : List Loc) : Prop := v = some (.int (1 : Int32)) ∧ Fr n0 L
set_option maxRecDepth 65536 in
set_option maxHeartbeats 40000000 in
theorem own_law (l : Launch) (Z : State) (a0 : Array Value) (hw : ∀ d ∈ tables_1, d.before a0 Z = true) (ws : List Jvm.Cond) (p1 p2 p3 p4 p5 p6 : Int32) (da : Addr) (kd : ClassId) (cs : Int32) (h0 : Heap) (n0 : Nat) (Z0 : n0 ≤ h0.size) (O0 : Old Z n0 h0) (SD : Sta Z Z.heap "java/util/ArrayList" "DEFAULTCAPACITY_EMPTY_ELEMENTDATA" "[Ljava/lang/Object;" (.ref da)) (VD : Arv Z Z.heap da kd (.object "java/lang/Object") (0 : Int32) [] .null) (SC : Sta Z Z.heap "java/lang/String" "COMPACT_STRINGS" "Z" (.int cs)) (hcs : ¬ cs = (0 : Int32)) :
    MetFree l x (head1 (Jvm.Cond.code x code maxLocals ret :: ws) room_1) (fun a U => a = #[(.int p1), (.int p2), (.int p3), (.int p4), (.int p5), (.int p6)] ∧ Z.Warmed39 U.vm ∧ U.heap = h0) (fun _ _ _ _ _ => True) (fun _ U o U' => ∃ v L, o = .returned v ∧ Qown_law Z p1 p2 p3 p4 p5 p6 da kd cs h0 n0 v U'.heap L ∧ FrameEnd U o U' L room_1.cells room_1.slots) := by
  refine MetFree.of_bodySF (plainFor_of_name own_pn7) hisR ?_
  intro p e s m args below meth c s₁ Bd hml0 hP hK
  obtain ⟨rfl, hZ, hh⟩ := hP
  have hx := Bd.exec
  have hby := Bd.bytes
  have hml : c.maxLocals = 13 := hml0
  have hown : s.vm.findClass "com/example/arpent/arpent/geom/PointSamePlacePinLaw" = some m.cls := by have q := findClass_of_methodNamed Bd.named; exact q
  have hnm := (name_of_methodNamed Bd.named Bd.method).1
  have X0 : Stand p l e room_1 s m #[(.int p1), (.int p2), (.int p3), (.int p4), (.int p5), (.int p6)] below meth c s₁ [] 0 0 := Stand.of_body Bd
  have e0 : s₁.heap = h0 := by rw [← hh, Bd.state]; rfl
  have N0 := Fr.nil n0
  have pre0 : ∀ t, Steps p.tables e below (s₁.setTop (mkF m 0 #[.val (.int p1), .val (.int p2), .val (.int p3), .val (.int p4), .val (.int p5), .val (.int p6), .unset, .unset, .unset, .unset, .unset, .unset, .unset] [])) t → Steps p.tables e below (s₁.setTop (entryFrame m #[(.int p1), (.int p2), (.int p3), (.int p4), (.int p5), (.int p6)] maxLocals)) t := fun t k => castTop (by first | (simp [entryFrame, mkF, argsToLocals, Value.category, maxLocals]; done) | rfl) k
  have pre101 : ∀ t, Steps p.tables e below (s₁.setTop (mkF m 4 #[.val (.int p1), .val (.int p2), .val (.int p3), .val (.int p4), .val (.int p5), .val (.int p6), .unset, .unset, .unset, .unset, .unset, .unset, .unset] [(.int (p5 &&& (1 : Int32)))])) t → Steps p.tables e below (s₁.setTop (entryFrame m #[(.int p1), (.int p2), (.int p3), (.int p4), (.int p5), (.int p6)] maxLocals)) t := fun t kt => pre0 t (by
    show Steps _ _ _ (s₁.setTop (mkF m 0 #[.val (.int p1), .val (.int p2), .val (.int p3), .val (.int p4), .val (.int p5), .val (.int p6), .unset, .unset, .unset, .unset, .unset, .unset, .unset] [])) _
    refine XS.iload X0.here hx rfl (hb hby at_0) rfl ?_
    refine XS.iconst X0.here hx rfl (hb hby at_2) ?_
    refine XS.iand X0.here hx rfl (hb hby at_3) rfl ?_
    exact kt)
  obtain ⟨m102, pre102⟩ : ∃ m102 : Int32, ∀ t, Steps p.tables e below (s₁.setTop (mkF m 12 #[.val (.int p1), .val (.int p2), .val (.int p3), .val (.int p4), .val (.int p5), .val (.int p6), .unset, .unset, .unset, .unset, .unset, .unset, .unset] [(.int m102)])) t → Steps p.tables e below (s₁.setTop (entryFrame m #[(.int p1), (.int p2), (.int p3), (.int p4), (.int p5), (.int p6)] maxLocals)) t := by
    by_cases hm102 : (p5 &&& (1 : Int32)) = (0 : Int32)
    · exact ⟨p3, fun t kt => pre101 t (by
        show Steps _ _ _ (s₁.setTop (mkF m 4 #[.val (.int p1), .val (.int p2), .val (.int p3), .val (.int p4), .val (.int p5), .val (.int p6), .unset, .unset, .unset, .unset, .unset, .unset, .unset] [(.int (p5 &&& (1 : Int32)))])) _
        refine XS.ifYes X0.here hx rfl (pc0 := 4) (pc' := 11) rfl (hb hby at_4) rfl ((if0 _ _).trans (teq hm102).1) (by decide) (by decide) ?_
        refine XS.iloadN X0.here hx rfl (hb hby at_11) rfl ?_
        exact kt)⟩
    · exact ⟨p1, fun t kt => pre101 t (by
        show Steps _ _ _ (s₁.setTop (mkF m 4 #[.val (.int p1), .val (.int p2), .val (.int p3), .val (.int p4), .val (.int p5), .val (.int p6), .unset, .unset, .unset, .unset, .unset, .unset, .unset] [(.int (p5 &&& (1 : Int32)))])) _
        refine XS.ifNo X0.here hx rfl (hb hby at_4) rfl ((if0 _ _).trans (feq hm102).1) ?_
        refine XS.iloadN X0.here hx rfl (hb hby at_7) rfl ?_
        refine XS.goto X0.here hx rfl (pc0 := 8) (pc' := 12) rfl (hb hby at_8) (by decide) (by decide) ?_
        exact kt)⟩
  have pre103 : ∀ t, Steps p.tables e below (s₁.setTop (mkF m 18 #[.val (.int p1), .val (.int p2), .val (.int p3), .val (.int p4), .val (.int p5), .val (.int p6), .val (.int m102), .unset, .unset, .unset, .unset, .unset, .unset] [(.int (p5 &&& (2 : Int32)))])) t → Steps p.tables e below (s₁.setTop (entryFrame m #[(.int p1), (.int p2), (.int p3), (.int p4), (.int p5), (.int p6)] maxLocals)) t := fun t kt => pre102 t (by
    show Steps _ _ _ (s₁.setTop (mkF m 12 #[.val (.int p1), .val (.int p2), .val (.int p3), .val (.int p4), .val (.int p5), .val (.int p6), .unset, .unset, .unset, .unset, .unset, .unset, .unset] [(.int m102)])) _
    refine XS.istore X0.here hx rfl (hb hby at_12) rfl (l' := #[.val (.int p1), .val (.int p2), .val (.int p3), .val (.int p4), .val (.int p5), .val (.int p6), .val (.int m102), .unset, .unset, .unset, .unset, .unset, .unset]) rfl ?_
    refine XS.iload X0.here hx rfl (hb hby at_14) rfl ?_
    refine XS.iconst X0.here hx rfl (hb hby at_16) ?_
    refine XS.iand X0.here hx rfl (hb hby at_17) rfl ?_
    exact kt)
  obtain ⟨m104, pre104⟩ : ∃ m104 : Int32, ∀ t, Steps p.tables e below (s₁.setTop (mkF m 26 #[.val (.int p1), .val (.int p2), .val (.int p3), .val (.int p4), .val (.int p5), .val (.int p6), .val (.int m102), .unset, .unset, .unset, .unset, .unset, .unset] [(.int m104)])) t → Steps p.tables e below (s₁.setTop (entryFrame m #[(.int p1), (.int p2), (.int p3), (.int p4), (.int p5), (.int p6)] maxLocals)) t := by
    by_cases hm104 : (p5 &&& (2 : Int32)) = (0 : Int32)
    · exact ⟨p4, fun t kt => pre103 t (by
        show Steps _ _ _ (s₁.setTop (mkF m 18 #[.val (.int p1), .val (.int p2), .val (.int p3), .val (.int p4), .val (.int p5), .val (.int p6), .val (.int m102), .unset, .unset, .unset, .unset, .unset, .unset] [(.int (p5 &&& (2 : Int32)))])) _
        refine XS.ifYes X0.here hx rfl (pc0 := 18) (pc' := 25) rfl (hb hby at_18) rfl ((if0 _ _).trans (teq hm104).1) (by decide) (by decide) ?_
        refine XS.iloadN X0.here hx rfl (hb hby at_25) rfl ?_
        exact kt)⟩
    · exact ⟨p2, fun t kt => pre103 t (by
        show Steps _ _ _ (s₁.setTop (mkF m 18 #[.val (.int p1), .val (.int p2), .val (.int p3), .val (.int p4), .val (.int p5), .val (.int p6), .val (.int m102), .unset, .unset, .unset, .unset, .unset, .unset] [(.int (p5 &&& (2 : Int32)))])) _
        refine XS.ifNo X0.here hx rfl (hb hby at_18) rfl ((if0 _ _).trans (feq hm104).1) ?_
        refine XS.iloadN X0.here hx rfl (hb hby at_21) rfl ?_
        refine XS.goto X0.here hx rfl (pc0 := 22) (pc' := 26) rfl (hb hby at_22) (by decide) (by decide) ?_
        exact kt)⟩
  obtain ⟨T105, h105, X105, e105, E105, A105, D105, -, st105⟩ := newO X0 hx hZ hown (own_w0 hw) (own_w1 hw) (own_w2 hw) e0 (g := (mkF m 28 #[.val (.int p1), .val (.int p2), .val (.int p3), .val (.int p4), .val (.int p5), .val (.int p6), .val (.int m102), .val (.int m104), .unset, .unset, .unset, .unset, .unset] [])) rfl (hb hby at_28) (by decide) (by decide)
  obtain ⟨b105, g105⟩ : ∃ z, z = h0.size := ⟨_, rfl⟩
  rw [← g105] at A105 D105 st105
  have g_b105 : n0 ≤ b105 := Nat.le_trans Z0 (Nat.le_of_eq g105.symm)
  have O105 := O0.ext E105
  have Z105 : n0 ≤ h105.size := Nat.le_trans Z0 E105.1
  have F105_22 : Fld Z h105 b105 "java/util/AbstractList" "modCount" "I" (.int (0 : Int32)) := D105 (Or.inl (own_w22 hw)) (ty := .int) (by decide)
  have F105_25 : Fld Z h105 b105 "java/util/ArrayList" "elementData" "[Ljava/lang/Object;" .null := D105 (Or.inl (own_w25 hw)) (ty := (.array (.object "java/lang/Object"))) (by decide)
  have F105_62 : Fld Z h105 b105 "java/util/ArrayList" "size" "I" (.int (0 : Int32)) := D105 (Or.inl (own_w62 hw)) (ty := .int) (by decide)
  have c106 := SD.ext O105.2
  have nda_b105 : da ≠ b105 := O105.ne VD.lt g_b105
  obtain ⟨_, _, ⟨T107, L107, k107, n107⟩, -, X107, ⟨Lc107, hQ107, l107, y107, z107⟩, st107⟩ := X105.specialBack hx (y := own_m3) rfl hown (mvT hZ (own_w3 hw)) (mvT hZ (own_w4 hw)) (mvT hZ (own_w5 hw)) (by decide) (backOf (W := 1) (own_ali l Z a0 hw [] b105 da h105 n0 Z105 c106 g_b105 A105 F105_22 F105_25 F105_62) hZ (own_w5 hw) (own_w2 hw) (by decide) (by decide)) (g := (mkF m 32 #[.val (.int p1), .val (.int p2), .val (.int p3), .val (.int p4), .val (.int p5), .val (.int p6), .val (.int m102), .val (.int m104), .unset, .unset, .unset, .unset, .unset] [(.ref b105), (.ref b105)])) rfl (by rw [hml]; rfl) (Steps.refl _) (a := b105) (argsL := []) (rest := [(.ref b105)]) (lenOf own_pd0 rfl) rfl (by show 2 * 0 + _ ≤ _; exact Nat.le_of_eq rfl) (hb hby at_32) (fun _ _ => ⟨rfl, e105, (by decide : 1 + 0 ≤ _), (by decide : 3 + 0 ≤ _)⟩)
  dsimp only [Pt.U, Pt.locs, Pt.cells, Pt.slots] at X107 l107 y107 z107 st107 hQ107
  subst l107 y107 z107
  obtain ⟨rfl, N107q, Kq107, Eq107, Fq107_0, Fq107_1, Fq107_2⟩ := hQ107
  have N107 := Fr.app N0 N107q
  have O107 := O105.keep Kq107 (allS (P := fun x => n0 ≤ x) g_b105 all0)
  have Z107 : n0 ≤ T107.heap.size := Nat.le_trans Z105 Kq107.1
  have c108 := SC.ext O107.2
  obtain ⟨_, _, ⟨T109, L109, k109, n109⟩, -, X109, ⟨Lc109, hQ109, l109, y109, z109⟩, st109⟩ := Jvm.LawKit.callS X107 hx (y := own_m7) hown (mvT hZ (own_w26 hw)) (mvT hZ (own_w27 hw)) (mvT hZ (own_w28 hw)) (mvT hZ (own_w29 hw)) (by decide) (backOf (W := 1) (own_vo l Z a0 hw [] ((p6 &&& (255 : Int32)).toUInt32.toUInt16.toUInt32.toInt32) cs T107.heap n0 Z107 (own_ch _) c108 hcs) hZ (own_w29 hw) (own_w28 hw) (by decide) (by decide)) (g := (mkF m 46 #[.val (.int p1), .val (.int p2), .val (.int p3), .val (.int p4), .val (.int p5), .val (.int p6), .val (.int m102), .val (.int m104), .val (.ref b105), .unset, .unset, .unset, .unset] [(.int ((p6 &&& (255 : Int32)).toUInt32.toUInt16.toUInt32.toInt32)), (.ref b105)])) rfl (by rw [hml]; rfl) (argsL := [(.int ((p6 &&& (255 : Int32)).toUInt32.toUInt16.toUInt32.toInt32))]) (rest := [(.ref b105)]) (lenOf own_pd8 rfl) rfl (by show 2 * 0 + _ ≤ _; exact Nat.le_of_eq rfl) (hb hby at_46) (fun _ _ => ⟨rfl, rfl, (by decide : 1 + 2 ≤ _), (by decide : 3 + 5 ≤ _)⟩)
  dsimp only [Pt.U, Pt.locs, Pt.cells, Pt.slots] at X109 l109 y109 z109 st109 hQ109
  subst l109 y109 z109
  obtain ⟨sb109, rfl, N109q, Kq109, Eq109⟩ := hQ109
  have N109 := Fr.app N107 N109q
  have O109 := O107.keep Kq109 all0
  have Z109 : n0 ≤ T109.heap.size := Nat.le_trans Z107 Kq109.1
  have c110 := (Eq107.keep Kq109)
  have c111 := (Fq107_0.keep Kq109 nin0)
  have c112 := (Fq107_1.keep Kq109 nin0)
  have c113 := (Fq107_2.keep Kq109 nin0)
  have c114 := SD.ext O109.2
  have c115 := VD.ext O109.2
  obtain ⟨cq116, kq116, q116a, q116b, q116c⟩ := isOf hZ rfl c110
  obtain ⟨_, _, ⟨T116, L116, k116, n116⟩, -, X116, ⟨Lc116, hQ116, l116, y116, z116⟩, st116⟩ := X109.interfaceBack hx (xi := own_m15) (y := own_m12) hown (mvT hZ (own_w50 hw)) (mvT hZ (own_w51 hw)) (mvT hZ (own_w52 hw)) (mvT hZ (own_w53 hw)) (mvT hZ (own_w54 hw)) (mvT hZ (own_w55 hw)) (mvT hZ (own_w56 hw)) (mvT hZ (own_w57 hw)) (by decide) (backOf (W := 0) (own_add0 l Z a0 hw [] b105 sb109 da kd T109.heap n0 Z109 Eq109 g_b105 c110 c111 c112 c113 c114 c115 nda_b105) hZ (own_w58 hw) (own_w2 hw) (by decide) (by decide)) q116a q116b q116c (g := (mkF m 49 #[.val (.int p1), .val (.int p2), .val (.int p3), .val (.int p4), .val (.int p5), .val (.int p6), .val (.int m102), .val (.int m104), .val (.ref b105), .unset, .unset, .unset, .unset] [(.ref sb109), (.ref b105)])) rfl (by rw [hml]; rfl) (Steps.refl _) (argsL := [(.ref sb109)]) (rest := []) (lenOf own_pd9 rfl) rfl (by show 2 * 0 + _ ≤ _; exact Nat.le_of_eq rfl) (hb hby at_49) (fun _ _ => ⟨rfl, rfl, (by decide : 3 + 1 ≤ _), (by decide : 8 + 10 ≤ _)⟩)
  dsimp only [Pt.U, Pt.locs, Pt.cells, Pt.slots] at X116 l116 y116 z116 st116 hQ116
  subst l116 y116 z116
  obtain ⟨rfl, N116q, ed116, ke116, Kq116, hA116⟩ := hQ116
  have N116 := Fr.app N109 N116q
  have O116 := O109.keep Kq116 (allS (P := fun x => n0 ≤ x) g_b105 all0)
  have Z116 : n0 ≤ T116.heap.size := Nat.le_trans Z109 Kq116.1
  have c117 := SC.ext O116.2
  obtain ⟨_, _, ⟨T118, L118, k118, n118⟩, -, X118, ⟨Lc118, hQ118, l118, y118, z118⟩, st118⟩ := Jvm.LawKit.callS X116 hx (y := own_m7) hown (mvT hZ (own_w26 hw)) (mvT hZ (own_w27 hw)) (mvT hZ (own_w28 hw)) (mvT hZ (own_w29 hw)) (by decide) (backOf (W := 1) (own_vo l Z a0 hw [] ((((p6.toUInt32 >>> ((8 : Int32) &&& 31).toUInt32).toInt32) &&& (255 : Int32)).toUInt32.toUInt16.toUInt32.toInt32) cs T116.heap n0 Z116 (own_ch _) c117 hcs) hZ (own_w29 hw) (own_w28 hw) (by decide) (by decide)) (g := (mkF m 67 #[.val (.int p1), .val (.int p2), .val (.int p3), .val (.int p4), .val (.int p5), .val (.int p6), .val (.int m102), .val (.int m104), .val (.ref b105), .unset, .unset, .unset, .unset] [(.int ((((p6.toUInt32 >>> ((8 : Int32) &&& 31).toUInt32).toInt32) &&& (255 : Int32)).toUInt32.toUInt16.toUInt32.toInt32)), (.ref b105)])) rfl (by rw [hml]; rfl) (argsL := [(.int ((((p6.toUInt32 >>> ((8 : Int32) &&& 31).toUInt32).toInt32) &&& (255 : Int32)).toUInt32.toUInt16.toUInt32.toInt32))]) (rest := [(.ref b105)]) (lenOf own_pd8 rfl) rfl (by show 2 * 0 + _ ≤ _; exact Nat.le_of_eq rfl) (hb hby at_67) (fun _ _ => ⟨rfl, rfl, (by decide : 4 + 2 ≤ _), (by decide : 18 + 5 ≤ _)⟩)
  dsimp only [Pt.U, Pt.locs, Pt.cells, Pt.slots] at X118 l118 y118 z118 st118 hQ118
  subst l118 y118 z118
  obtain ⟨sb118, rfl, N118q, Kq118, Eq118⟩ := hQ118
  have N118 := Fr.app N116 N118q
  have O118 := O116.keep Kq118 all0
  have Z118 : n0 ≤ T118.heap.size := Nat.le_trans Z116 Kq118.1
  have c119 := (own_al_keep hA116 Kq118)
  have gded116 := c119.2.1
  obtain ⟨cq120, kq120, q120a, q120b, q120c⟩ := isOf hZ rfl c119.2.2.1
  obtain ⟨_, _, ⟨T120, L120, k120, n120⟩, -, X120, ⟨Lc120, hQ120, l120, y120, z120⟩, st120⟩ := X118.interfaceBack hx (xi := own_m15) (y := own_m12) hown (mvT hZ (own_w50 hw)) (mvT hZ (own_w51 hw)) (mvT hZ (own_w52 hw)) (mvT hZ (own_w53 hw)) (mvT hZ (own_w54 hw)) (mvT hZ (own_w55 hw)) (mvT hZ (own_w56 hw)) (mvT hZ (own_w57 hw)) (by decide) (backOf (W := 0) (own_add1 l Z a0 hw [] b105 sb118 ed116 ke116 sb109 T118.heap n0 Z118 g_b105 Eq118 c119) hZ (own_w58 hw) (own_w2 hw) (by decide) (by decide)) q120a q120b q120c (g := (mkF m 70 #[.val (.int p1), .val (.int p2), .val (.int p3), .val (.int p4), .val (.int p5), .val (.int p6), .val (.int m102), .val (.int m104), .val (.ref b105), .unset, .unset, .unset, .unset] [(.ref sb118), (.ref b105)])) rfl (by rw [hml]; rfl) (Steps.refl _) (argsL := [(.ref sb118)]) (rest := []) (lenOf own_pd9 rfl) rfl (by show 2 * 0 + _ ≤ _; exact Nat.le_of_eq rfl) (hb hby at_70) (fun _ _ => ⟨rfl, rfl, (by decide : 6 + 0 ≤ _), (by decide : 23 + 0 ≤ _)⟩)
  dsimp only [Pt.U, Pt.locs, Pt.cells, Pt.slots] at X120 l120 y120 z120 st120 hQ120
  subst l120 y120 z120
  obtain ⟨rfl, N120q, Kq120, hA120⟩ := hQ120
  have N120 := Fr.app N118 N120q
  have O120 := O118.keep Kq120 (allS (P := fun x => n0 ≤ x) g_b105 (allS (P := fun x => n0 ≤ x) gded116 all0))
  have Z120 : n0 ≤ T120.heap.size := Nat.le_trans Z118 Kq120.1
  have pre121 : ∀ t, Steps p.tables e below (T120.setTop (mkF m 80 #[.val (.int p1), .val (.int p2), .val (.int p3), .val (.int p4), .val (.int p5), .val (.int p6), .val (.int m102), .val (.int m104), .val (.ref b105), .unset, .unset, .unset, .unset] [(.int (p5 &&& (4 : Int32)))])) t → Steps p.tables e below (s₁.setTop (entryFrame m #[(.int p1), (.int p2), (.int p3), (.int p4), (.int p5), (.int p6)] maxLocals)) t := fun t kt => pre104 t (by
    show Steps _ _ _ (s₁.setTop (mkF m 26 #[.val (.int p1), .val (.int p2), .val (.int p3), .val (.int p4), .val (.int p5), .val (.int p6), .val (.int m102), .unset, .unset, .unset, .unset, .unset, .unset] [(.int m104)])) _
    refine XS.istore X0.here hx rfl (hb hby at_26) rfl (l' := #[.val (.int p1), .val (.int p2), .val (.int p3), .val (.int p4), .val (.int p5), .val (.int p6), .val (.int m102), .val (.int m104), .unset, .unset, .unset, .unset, .unset]) rfl ?_
    refine st105 _ ?_
    refine XS.dup X105.here hx rfl (hb hby at_31) rfl rfl ?_
    refine st107.trans ?_
    show Steps _ _ _ (T107.setTop (mkF m 35 #[.val (.int p1), .val (.int p2), .val (.int p3), .val (.int p4), .val (.int p5), .val (.int p6), .val (.int m102), .val (.int m104), .unset, .unset, .unset, .unset, .unset] [(.ref b105)])) _
    refine XS.astore X107.here hx rfl (hb hby at_35) rfl rfl (l' := #[.val (.int p1), .val (.int p2), .val (.int p3), .val (.int p4), .val (.int p5), .val (.int p6), .val (.int m102), .val (.int m104), .val (.ref b105), .unset, .unset, .unset, .unset]) rfl ?_
    refine XS.aload X107.here hx rfl (hb hby at_37) rfl rfl ?_
    refine XS.iload X107.here hx rfl (hb hby at_39) rfl ?_
    refine XS.sipush X107.here hx rfl (hb hby at_41) ?_
    show Steps _ _ _ (T107.setTop (mkF m 44 #[.val (.int p1), .val (.int p2), .val (.int p3), .val (.int p4), .val (.int p5), .val (.int p6), .val (.int m102), .val (.int m104), .val (.ref b105), .unset, .unset, .unset, .unset] [(.int (255 : Int32)), (.int p6), (.ref b105)])) _
    refine XS.iand X107.here hx rfl (hb hby at_44) rfl ?_
    refine XS.i2c X107.here hx rfl (hb hby at_45) rfl ?_
    refine st109 _ ?_
    refine st116.trans ?_
    show Steps _ _ _ (T116.setTop (mkF m 54 #[.val (.int p1), .val (.int p2), .val (.int p3), .val (.int p4), .val (.int p5), .val (.int p6), .val (.int m102), .val (.int m104), .val (.ref b105), .unset, .unset, .unset, .unset] [(.int (1 : Int32))])) _
    refine XS.pop X116.here hx rfl (hb hby at_54) rfl rfl ?_
    refine XS.aload X116.here hx rfl (hb hby at_55) rfl rfl ?_
    refine XS.iload X116.here hx rfl (hb hby at_57) rfl ?_
    refine XS.bipush X116.here hx rfl (hb hby at_59) ?_
    show Steps _ _ _ (T116.setTop (mkF m 61 #[.val (.int p1), .val (.int p2), .val (.int p3), .val (.int p4), .val (.int p5), .val (.int p6), .val (.int m102), .val (.int m104), .val (.ref b105), .unset, .unset, .unset, .unset] [(.int (8 : Int32)), (.int p6), (.ref b105)])) _
    refine XS.iushr X116.here hx rfl (hb hby at_61) rfl ?_
    refine XS.sipush X116.here hx rfl (hb hby at_62) ?_
    refine XS.iand X116.here hx rfl (hb hby at_65) rfl ?_
    refine XS.i2c X116.here hx rfl (hb hby at_66) rfl ?_
    show Steps _ _ _ (T116.setTop (mkF m 67 #[.val (.int p1), .val (.int p2), .val (.int p3), .val (.int p4), .val (.int p5), .val (.int p6), .val (.int m102), .val (.int m104), .val (.ref b105), .unset, .unset, .unset, .unset] [(.int ((((p6.toUInt32 >>> ((8 : Int32) &&& 31).toUInt32).toInt32) &&& (255 : Int32)).toUInt32.toUInt16.toUInt32.toInt32)), (.ref b105)])) _
    refine st118 _ ?_
    refine st120.trans ?_
    refine XS.pop X120.here hx rfl (hb hby at_75) rfl rfl ?_
    refine XS.iload X120.here hx rfl (hb hby at_76) rfl ?_
    show Steps _ _ _ (T120.setTop (mkF m 78 #[.val (.int p1), .val (.int p2), .val (.int p3), .val (.int p4), .val (.int p5), .val (.int p6), .val (.int m102), .val (.int m104), .val (.ref b105), .unset, .unset, .unset, .unset] [(.int p5)])) _
    refine XS.iconst X120.here hx rfl (hb hby at_78) ?_
    refine XS.iand X120.here hx rfl (hb hby at_79) rfl ?_
    exact kt)
  by_cases hc80_122 : (p5 &&& (4 : Int32)) = (0 : Int32)
  · skip
    have ihc80_122 := (own_eq (b := (0 : Int32)) (k := 0) rfl).mp hc80_122
    obtain ⟨T123, h123, X123, e123, E123, A123, D123, -, st123⟩ := newO X120 hx hZ hown (own_w0 hw) (own_w1 hw) (own_w2 hw) rfl (g := (mkF m 104 #[.val (.int p1), .val (.int p2), .val (.int p3), .val (.int p4), .val (.int p5), .val (.int p6), .val (.int m102), .val (.int m104), .val (.ref b105), .unset, .unset, .unset, .unset] [])) rfl (hb hby at_104) (by decide) (by decide)
    obtain ⟨b123, g123⟩ : ∃ z, z = T120.heap.size := ⟨_, rfl⟩
    rw [← g123] at A123 D123 st123
    have c124 := (((c110.keep Kq116).keep Kq118).keep Kq120)
    have ne_b105_b123 : b105 ≠ b123 := Nat.ne_of_lt (Nat.lt_of_lt_of_le c124.lt (Nat.le_of_eq g123.symm))
    have g_b123 : n0 ≤ b123 := Nat.le_trans Z120 (Nat.le_of_eq g123.symm)
    have O123 := O120.ext E123
    have Z123 : n0 ≤ h123.size := Nat.le_trans Z120 E123.1
    have F123_22 : Fld Z h123 b123 "java/util/AbstractList" "modCount" "I" (.int (0 : Int32)) := D123 (Or.inl (own_w22 hw)) (ty := .int) (by decide)
    have F123_25 : Fld Z h123 b123 "java/util/ArrayList" "elementData" "[Ljava/lang/Object;" .null := D123 (Or.inl (own_w25 hw)) (ty := (.array (.object "java/lang/Object"))) (by decide)
    have F123_62 : Fld Z h123 b123 "java/util/ArrayList" "size" "I" (.int (0 : Int32)) := D123 (Or.inl (own_w62 hw)) (ty := .int) (by decide)
    have c125 := SD.ext O123.2
    have nda_b123 : da ≠ b123 := O123.ne VD.lt g_b123
    obtain ⟨_, _, ⟨T126, L126, k126, n126⟩, -, X126, ⟨Lc126, hQ126, l126, y126, z126⟩, st126⟩ := X123.specialBack hx (y := own_m3) rfl hown (mvT hZ (own_w3 hw)) (mvT hZ (own_w4 hw)) (mvT hZ (own_w5 hw)) (by decide) (backOf (W := 1) (own_ali l Z a0 hw [] b123 da h123 n0 Z123 c125 g_b123 A123 F123_22 F123_25 F123_62) hZ (own_w5 hw) (own_w2 hw) (by decide) (by decide)) (g := (mkF m 108 #[.val (.int p1), .val (.int p2), .val (.int p3), .val (.int p4), .val (.int p5), .val (.int p6), .val (.int m102), .val (.int m104), .val (.ref b105), .unset, .unset, .unset, .unset] [(.ref b123), (.ref b123)])) rfl (by rw [hml]; rfl) (Steps.refl _) (a := b123) (argsL := []) (rest := [(.ref b123)]) (lenOf own_pd0 rfl) rfl (by show 2 * 0 + _ ≤ _; exact Nat.le_of_eq rfl) (hb hby at_108) (fun _ _ => ⟨rfl, e123, (by decide : 7 + 0 ≤ _), (by decide : 26 + 0 ≤ _)⟩)
    dsimp only [Pt.U, Pt.locs, Pt.cells, Pt.slots] at X126 l126 y126 z126 st126 hQ126
    subst l126 y126 z126
    obtain ⟨rfl, N126q, Kq126, Eq126, Fq126_0, Fq126_1, Fq126_2⟩ := hQ126
    have N126 := Fr.app N120 N126q
    have O126 := O123.keep Kq126 (allS (P := fun x => n0 ≤ x) g_b123 all0)
    have Z126 : n0 ≤ T126.heap.size := Nat.le_trans Z123 Kq126.1
    have c127 := SC.ext O126.2
    obtain ⟨_, _, ⟨T128, L128, k128, n128⟩, -, X128, ⟨Lc128, hQ128, l128, y128, z128⟩, st128⟩ := Jvm.LawKit.callS X126 hx (y := own_m7) hown (mvT hZ (own_w26 hw)) (mvT hZ (own_w27 hw)) (mvT hZ (own_w28 hw)) (mvT hZ (own_w29 hw)) (by decide) (backOf (W := 1) (own_vo l Z a0 hw [] ((((p6.toUInt32 >>> ((24 : Int32) &&& 31).toUInt32).toInt32) &&& (255 : Int32)).toUInt32.toUInt16.toUInt32.toInt32) cs T126.heap n0 Z126 (own_ch _) c127 hcs) hZ (own_w29 hw) (own_w28 hw) (by decide) (by decide)) (g := (mkF m 125 #[.val (.int p1), .val (.int p2), .val (.int p3), .val (.int p4), .val (.int p5), .val (.int p6), .val (.int m102), .val (.int m104), .val (.ref b105), .val (.ref b123), .unset, .unset, .unset] [(.int ((((p6.toUInt32 >>> ((24 : Int32) &&& 31).toUInt32).toInt32) &&& (255 : Int32)).toUInt32.toUInt16.toUInt32.toInt32)), (.ref b123)])) rfl (by rw [hml]; rfl) (argsL := [(.int ((((p6.toUInt32 >>> ((24 : Int32) &&& 31).toUInt32).toInt32) &&& (255 : Int32)).toUInt32.toUInt16.toUInt32.toInt32))]) (rest := [(.ref b123)]) (lenOf own_pd8 rfl) rfl (by show 2 * 0 + _ ≤ _; exact Nat.le_of_eq rfl) (hb hby at_125) (fun _ _ => ⟨rfl, rfl, (by decide : 7 + 2 ≤ _), (by decide : 26 + 5 ≤ _)⟩)
    dsimp only [Pt.U, Pt.locs, Pt.cells, Pt.slots] at X128 l128 y128 z128 st128 hQ128
    subst l128 y128 z128
    obtain ⟨sb128, rfl, N128q, Kq128, Eq128⟩ := hQ128
    have N128 := Fr.app N126 N128q
    have O128 := O126.keep Kq128 all0
    have Z128 : n0 ≤ T128.heap.size := Nat.le_trans Z126 Kq128.1
    have c129 := (Eq126.keep Kq128)
    have c130 := (Fq126_0.keep Kq128 nin0)
    have c131 := (Fq126_1.keep Kq128 nin0)
    have c132 := (Fq126_2.keep Kq128 nin0)
    have c133 := SD.ext O128.2
    have c134 := VD.ext O128.2
    obtain ⟨cq135, kq135, q135a, q135b, q135c⟩ := isOf hZ rfl c129
    obtain ⟨_, _, ⟨T135, L135, k135, n135⟩, -, X135, ⟨Lc135, hQ135, l135, y135, z135⟩, st135⟩ := X128.interfaceBack hx (xi := own_m15) (y := own_m12) hown (mvT hZ (own_w50 hw)) (mvT hZ (own_w51 hw)) (mvT hZ (own_w52 hw)) (mvT hZ (own_w53 hw)) (mvT hZ (own_w54 hw)) (mvT hZ (own_w55 hw)) (mvT hZ (own_w56 hw)) (mvT hZ (own_w57 hw)) (by decide) (backOf (W := 0) (own_add0 l Z a0 hw [] b123 sb128 da kd T128.heap n0 Z128 Eq128 g_b123 c129 c130 c131 c132 c133 c134 nda_b123) hZ (own_w58 hw) (own_w2 hw) (by decide) (by decide)) q135a q135b q135c (g := (mkF m 128 #[.val (.int p1), .val (.int p2), .val (.int p3), .val (.int p4), .val (.int p5), .val (.int p6), .val (.int m102), .val (.int m104), .val (.ref b105), .val (.ref b123), .unset, .unset, .unset] [(.ref sb128), (.ref b123)])) rfl (by rw [hml]; rfl) (Steps.refl _) (argsL := [(.ref sb128)]) (rest := []) (lenOf own_pd9 rfl) rfl (by show 2 * 0 + _ ≤ _; exact Nat.le_of_eq rfl) (hb hby at_128) (fun _ _ => ⟨rfl, rfl, (by decide : 9 + 1 ≤ _), (by decide : 31 + 10 ≤ _)⟩)
    dsimp only [Pt.U, Pt.locs, Pt.cells, Pt.slots] at X135 l135 y135 z135 st135 hQ135
    subst l135 y135 z135
    obtain ⟨rfl, N135q, ed135, ke135, Kq135, hA135⟩ := hQ135
    have N135 := Fr.app N128 N135q
    have O135 := O128.keep Kq135 (allS (P := fun x => n0 ≤ x) g_b123 all0)
    have Z135 : n0 ≤ T135.heap.size := Nat.le_trans Z128 Kq135.1
    have c136 := SC.ext O135.2
    obtain ⟨_, _, ⟨T137, L137, k137, n137⟩, -, X137, ⟨Lc137, hQ137, l137, y137, z137⟩, st137⟩ := Jvm.LawKit.callS X135 hx (y := own_m7) hown (mvT hZ (own_w26 hw)) (mvT hZ (own_w27 hw)) (mvT hZ (own_w28 hw)) (mvT hZ (own_w29 hw)) (by decide) (backOf (W := 1) (own_vo l Z a0 hw [] ((((p6.toUInt32 >>> ((4 : Int32) &&& 31).toUInt32).toInt32) &&& (255 : Int32)).toUInt32.toUInt16.toUInt32.toInt32) cs T135.heap n0 Z135 (own_ch _) c136 hcs) hZ (own_w29 hw) (own_w28 hw) (by decide) (by decide)) (g := (mkF m 145 #[.val (.int p1), .val (.int p2), .val (.int p3), .val (.int p4), .val (.int p5), .val (.int p6), .val (.int m102), .val (.int m104), .val (.ref b105), .val (.ref b123), .unset, .unset, .unset] [(.int ((((p6.toUInt32 >>> ((4 : Int32) &&& 31).toUInt32).toInt32) &&& (255 : Int32)).toUInt32.toUInt16.toUInt32.toInt32)), (.ref b123)])) rfl (by rw [hml]; rfl) (argsL := [(.int ((((p6.toUInt32 >>> ((4 : Int32) &&& 31).toUInt32).toInt32) &&& (255 : Int32)).toUInt32.toUInt16.toUInt32.toInt32))]) (rest := [(.ref b123)]) (lenOf own_pd8 rfl) rfl (by show 2 * 0 + _ ≤ _; exact Nat.le_of_eq rfl) (hb hby at_145) (fun _ _ => ⟨rfl, rfl, (by decide : 10 + 2 ≤ _), (by decide : 41 + 5 ≤ _)⟩)
    dsimp only [Pt.U, Pt.locs, Pt.cells, Pt.slots] at X137 l137 y137 z137 st137 hQ137
    subst l137 y137 z137
    obtain ⟨sb137, rfl, N137q, Kq137, Eq137⟩ := hQ137
    have N137 := Fr.app N135 N137q
    have O137 := O135.keep Kq137 all0
    have Z137 : n0 ≤ T137.heap.size := Nat.le_trans Z135 Kq137.1
    have c138 := (own_al_keep hA135 Kq137)
    have gded135 := c138.2.1
    obtain ⟨cq139, kq139, q139a, q139b, q139c⟩ := isOf hZ rfl c138.2.2.1
    obtain ⟨_, _, ⟨T139, L139, k139, n139⟩, -, X139, ⟨Lc139, hQ139, l139, y139, z139⟩, st139⟩ := X137.interfaceBack hx (xi := own_m15) (y := own_m12) hown (mvT hZ (own_w50 hw)) (mvT hZ (own_w51 hw)) (mvT hZ (own_w52 hw)) (mvT hZ (own_w53 hw)) (mvT hZ (own_w54 hw)) (mvT hZ (own_w55 hw)) (mvT hZ (own_w56 hw)) (mvT hZ (own_w57 hw)) (by decide) (backOf (W := 0) (own_add1 l Z a0 hw [] b123 sb137 ed135 ke135 sb128 T137.heap n0 Z137 g_b123 Eq137 c138) hZ (own_w58 hw) (own_w2 hw) (by decide) (by decide)) q139a q139b q139c (g := (mkF m 148 #[.val (.int p1), .val (.int p2), .val (.int p3), .val (.int p4), .val (.int p5), .val (.int p6), .val (.int m102), .val (.int m104), .val (.ref b105), .val (.ref b123), .unset, .unset, .unset] [(.ref sb137), (.ref b123)])) rfl (by rw [hml]; rfl) (Steps.refl _) (argsL := [(.ref sb137)]) (rest := []) (lenOf own_pd9 rfl) rfl (by show 2 * 0 + _ ≤ _; exact Nat.le_of_eq rfl) (hb hby at_148) (fun _ _ => ⟨rfl, rfl, (by decide : 12 + 0 ≤ _), (by decide : 46 + 0 ≤ _)⟩)
    dsimp only [Pt.U, Pt.locs, Pt.cells, Pt.slots] at X139 l139 y139 z139 st139 hQ139
    subst l139 y139 z139
    obtain ⟨rfl, N139q, Kq139, hA139⟩ := hQ139
    have N139 := Fr.app N137 N139q
    have O139 := O137.keep Kq139 (allS (P := fun x => n0 ≤ x) g_b123 (allS (P := fun x => n0 ≤ x) gded135 all0))
    have Z139 : n0 ≤ T139.heap.size := Nat.le_trans Z137 Kq139.1
    have pre140 : ∀ t, Steps p.tables e below (T139.setTop (mkF m 159 #[.val (.int p1), .val (.int p2), .val (.int p3), .val (.int p4), .val (.int p5), .val (.int p6), .val (.int m102), .val (.int m104), .val (.ref b105), .val (.ref b123), .unset, .unset, .unset] [(.int (p5 &&& (8 : Int32)))])) t → Steps p.tables e below (s₁.setTop (entryFrame m #[(.int p1), (.int p2), (.int p3), (.int p4), (.int p5), (.int p6)] maxLocals)) t := fun t kt => pre121 t (by
      show Steps _ _ _ (T120.setTop (mkF m 80 #[.val (.int p1), .val (.int p2), .val (.int p3), .val (.int p4), .val (.int p5), .val (.int p6), .val (.int m102), .val (.int m104), .val (.ref b105), .unset, .unset, .unset, .unset] [(.int (p5 &&& (4 : Int32)))])) _
      refine XS.ifYes X120.here hx rfl (pc0 := 80) (pc' := 104) rfl (hb hby at_80) rfl ((if0 _ _).trans (teq hc80_122).1) (by decide) (by decide) ?_
      refine st123 _ ?_
      refine XS.dup X123.here hx rfl (hb hby at_107) rfl rfl ?_
      refine st126.trans ?_
      show Steps _ _ _ (T126.setTop (mkF m 111 #[.val (.int p1), .val (.int p2), .val (.int p3), .val (.int p4), .val (.int p5), .val (.int p6), .val (.int m102), .val (.int m104), .val (.ref b105), .unset, .unset, .unset, .unset] [(.ref b123)])) _
      refine XS.astore X126.here hx rfl (hb hby at_111) rfl rfl (l' := #[.val (.int p1), .val (.int p2), .val (.int p3), .val (.int p4), .val (.int p5), .val (.int p6), .val (.int m102), .val (.int m104), .val (.ref b105), .val (.ref b123), .unset, .unset, .unset]) rfl ?_
      refine XS.aload X126.here hx rfl (hb hby at_113) rfl rfl ?_
      refine XS.iload X126.here hx rfl (hb hby at_115) rfl ?_
      refine XS.bipush X126.here hx rfl (hb hby at_117) ?_
      show Steps _ _ _ (T126.setTop (mkF m 119 #[.val (.int p1), .val (.int p2), .val (.int p3), .val (.int p4), .val (.int p5), .val (.int p6), .val (.int m102), .val (.int m104), .val (.ref b105), .val (.ref b123), .unset, .unset, .unset] [(.int (24 : Int32)), (.int p6), (.ref b123)])) _
      refine XS.iushr X126.here hx rfl (hb hby at_119) rfl ?_
      refine XS.sipush X126.here hx rfl (hb hby at_120) ?_
      refine XS.iand X126.here hx rfl (hb hby at_123) rfl ?_
      refine XS.i2c X126.here hx rfl (hb hby at_124) rfl ?_
      show Steps _ _ _ (T126.setTop (mkF m 125 #[.val (.int p1), .val (.int p2), .val (.int p3), .val (.int p4), .val (.int p5), .val (.int p6), .val (.int m102), .val (.int m104), .val (.ref b105), .val (.ref b123), .unset, .unset, .unset] [(.int ((((p6.toUInt32 >>> ((24 : Int32) &&& 31).toUInt32).toInt32) &&& (255 : Int32)).toUInt32.toUInt16.toUInt32.toInt32)), (.ref b123)])) _
      refine st128 _ ?_
      refine st135.trans ?_
      refine XS.pop X135.here hx rfl (hb hby at_133) rfl rfl ?_
      refine XS.aload X135.here hx rfl (hb hby at_134) rfl rfl ?_
      show Steps _ _ _ (T135.setTop (mkF m 136 #[.val (.int p1), .val (.int p2), .val (.int p3), .val (.int p4), .val (.int p5), .val (.int p6), .val (.int m102), .val (.int m104), .val (.ref b105), .val (.ref b123), .unset, .unset, .unset] [(.ref b123)])) _
      refine XS.iload X135.here hx rfl (hb hby at_136) rfl ?_
      refine XS.iconst X135.here hx rfl (hb hby at_138) ?_
      refine XS.iushr X135.here hx rfl (hb hby at_139) rfl ?_
      refine XS.sipush X135.here hx rfl (hb hby at_140) ?_
      show Steps _ _ _ (T135.setTop (mkF m 143 #[.val (.int p1), .val (.int p2), .val (.int p3), .val (.int p4), .val (.int p5), .val (.int p6), .val (.int m102), .val (.int m104), .val (.ref b105), .val (.ref b123), .unset, .unset, .unset] [(.int (255 : Int32)), (.int ((p6.toUInt32 >>> ((4 : Int32) &&& 31).toUInt32).toInt32)), (.ref b123)])) _
      refine XS.iand X135.here hx rfl (hb hby at_143) rfl ?_
      refine XS.i2c X135.here hx rfl (hb hby at_144) rfl ?_
      refine st137 _ ?_
      refine st139.trans ?_
      show Steps _ _ _ (T139.setTop (mkF m 153 #[.val (.int p1), .val (.int p2), .val (.int p3), .val (.int p4), .val (.int p5), .val (.int p6), .val (.int m102), .val (.int m104), .val (.ref b105), .val (.ref b123), .unset, .unset, .unset] [(.int (1 : Int32))])) _
      refine XS.pop X139.here hx rfl (hb hby at_153) rfl rfl ?_
      refine XS.iload X139.here hx rfl (hb hby at_154) rfl ?_
      refine XS.bipush X139.here hx rfl (hb hby at_156) ?_
      refine XS.iand X139.here hx rfl (hb hby at_158) rfl ?_
      exact kt)
    by_cases hc159_141 : (p5 &&& (8 : Int32)) = (0 : Int32)
    · skip
      have ihc159_141 := (own_eq (b := (0 : Int32)) (k := 0) rfl).mp hc159_141
      obtain ⟨T142, h142, X142, e142, E142, A142, D142, -, st142⟩ := newO X139 hx hZ hown (own_w85 hw) (own_w86 hw) (own_w87 hw) rfl (g := (mkF m 183 #[.val (.int p1), .val (.int p2), .val (.int p3), .val (.int p4), .val (.int p5), .val (.int p6), .val (.int m102), .val (.int m104), .val (.ref b105), .val (.ref b123), .unset, .unset, .unset] [])) rfl (hb hby at_183) (by decide) (by decide)
      obtain ⟨b142, g142⟩ : ∃ z, z = T139.heap.size := ⟨_, rfl⟩
      rw [← g142] at A142 D142 st142
      have c143 := ((((((c124.ext E123).keep Kq126).keep Kq128).keep Kq135).keep Kq137).keep Kq139)
      have ne_b105_b142 : b105 ≠ b142 := Nat.ne_of_lt (Nat.lt_of_lt_of_le c143.lt (Nat.le_of_eq g142.symm))
      have c144 := (((c129.keep Kq135).keep Kq137).keep Kq139)
      have ne_b123_b142 : b123 ≠ b142 := Nat.ne_of_lt (Nat.lt_of_lt_of_le c144.lt (Nat.le_of_eq g142.symm))
      have g_b142 : n0 ≤ b142 := Nat.le_trans Z139 (Nat.le_of_eq g142.symm)
      have O142 := O139.ext E142
      have Z142 : n0 ≤ h142.size := Nat.le_trans Z139 E142.1
      have F142_98 : Fld Z h142 b142 "com/example/arpent/arpent/geom/Point" "coordinates" "Ljava/util/List;" .null := D142 (Or.inr (own_w98 hw)) (ty := (.object "java/util/List")) (by decide)
      have F142_100 : Fld Z h142 b142 "com/example/arpent/arpent/geom/Point" "x" "D" (.double (FP.l2d 0)) := (D142 (Or.inr (own_w100 hw)) (ty := .double) (by decide) : Fld Z h142 b142 "com/example/arpent/arpent/geom/Point" "x" "D" (.double 0)).zeroD
      have F142_102 : Fld Z h142 b142 "com/example/arpent/arpent/geom/Point" "y" "D" (.double (FP.l2d 0)) := (D142 (Or.inr (own_w102 hw)) (ty := .double) (by decide) : Fld Z h142 b142 "com/example/arpent/arpent/geom/Point" "y" "D" (.double 0)).zeroD
      obtain ⟨_, _, ⟨T145, L145, k145, n145⟩, -, X145, ⟨Lc145, hQ145, l145, y145, z145⟩, st145⟩ := X142.specialBack hx (y := own_m13) rfl hown (mvT hZ (own_w88 hw)) (mvT hZ (own_w89 hw)) (mvT hZ (own_w90 hw)) (by decide) (backOf (W := 1) (own_pi l Z a0 hw [] b142 b105 (FP.i2d p1) (FP.i2d p2) h142 n0 Z142 g_b142 A142 F142_98 F142_100 F142_102) hZ (own_w90 hw) (own_w87 hw) (by decide) (by decide)) (g := (mkF m 193 #[.val (.int p1), .val (.int p2), .val (.int p3), .val (.int p4), .val (.int p5), .val (.int p6), .val (.int m102), .val (.int m104), .val (.ref b105), .val (.ref b123), .unset, .unset, .unset] [(.double (FP.i2d p2)), (.double (FP.i2d p1)), (.ref b105), (.ref b142), (.ref b142)])) rfl (by rw [hml]; rfl) (Steps.refl _) (a := b142) (argsL := [(.ref b105), (.double (FP.i2d p1)), (.double (FP.i2d p2))]) (rest := [(.ref b142)]) (lenOf own_pd10 rfl) rfl (by show 2 * 0 + _ ≤ _; exact Nat.le_of_eq rfl) (hb hby at_193) (fun _ _ => ⟨rfl, e142, (by decide : 13 + 0 ≤ _), (by decide : 49 + 0 ≤ _)⟩)
      dsimp only [Pt.U, Pt.locs, Pt.cells, Pt.slots] at X145 l145 y145 z145 st145 hQ145
      subst l145 y145 z145
      obtain ⟨rfl, N145q, Kq145, Eq145, Fx145, Fy145⟩ := hQ145
      have N145 := Fr.app N139 N145q
      have O145 := O142.keep Kq145 (allS (P := fun x => n0 ≤ x) g_b142 all0)
      have Z145 : n0 ≤ T145.heap.size := Nat.le_trans Z142 Kq145.1
      obtain ⟨T146, h146, X146, e146, E146, A146, D146, -, st146⟩ := newO X145 hx hZ hown (own_w85 hw) (own_w86 hw) (own_w87 hw) rfl (g := (mkF m 198 #[.val (.int p1), .val (.int p2), .val (.int p3), .val (.int p4), .val (.int p5), .val (.int p6), .val (.int m102), .val (.int m104), .val (.ref b105), .val (.ref b123), .val (.ref b142), .unset, .unset] [])) rfl (hb hby at_198) (by decide) (by decide)
      obtain ⟨b146, g146⟩ : ∃ z, z = T145.heap.size := ⟨_, rfl⟩
      rw [← g146] at A146 D146 st146
      have c147 := ((c143.ext E142).keep Kq145)
      have ne_b105_b146 : b105 ≠ b146 := Nat.ne_of_lt (Nat.lt_of_lt_of_le c147.lt (Nat.le_of_eq g146.symm))
      have c148 := ((c144.ext E142).keep Kq145)
      have ne_b123_b146 : b123 ≠ b146 := Nat.ne_of_lt (Nat.lt_of_lt_of_le c148.lt (Nat.le_of_eq g146.symm))
      have ne_b142_b146 : b142 ≠ b146 := Nat.ne_of_lt (Nat.lt_of_lt_of_le Eq145.lt (Nat.le_of_eq g146.symm))
      have g_b146 : n0 ≤ b146 := Nat.le_trans Z145 (Nat.le_of_eq g146.symm)
      have O146 := O145.ext E146
      have Z146 : n0 ≤ h146.size := Nat.le_trans Z145 E146.1
      have F146_98 : Fld Z h146 b146 "com/example/arpent/arpent/geom/Point" "coordinates" "Ljava/util/List;" .null := D146 (Or.inr (own_w98 hw)) (ty := (.object "java/util/List")) (by decide)
      have F146_100 : Fld Z h146 b146 "com/example/arpent/arpent/geom/Point" "x" "D" (.double (FP.l2d 0)) := (D146 (Or.inr (own_w100 hw)) (ty := .double) (by decide) : Fld Z h146 b146 "com/example/arpent/arpent/geom/Point" "x" "D" (.double 0)).zeroD
      have F146_102 : Fld Z h146 b146 "com/example/arpent/arpent/geom/Point" "y" "D" (.double (FP.l2d 0)) := (D146 (Or.inr (own_w102 hw)) (ty := .double) (by decide) : Fld Z h146 b146 "com/example/arpent/arpent/geom/Point" "y" "D" (.double 0)).zeroD
      obtain ⟨_, _, ⟨T149, L149, k149, n149⟩, -, X149, ⟨Lc149, hQ149, l149, y149, z149⟩, st149⟩ := X146.specialBack hx (y := own_m13) rfl hown (mvT hZ (own_w88 hw)) (mvT hZ (own_w89 hw)) (mvT hZ (own_w90 hw)) (by decide) (backOf (W := 1) (own_pi l Z a0 hw [] b146 b123 (FP.i2d m102) (FP.i2d m104) h146 n0 Z146 g_b146 A146 F146_98 F146_100 F146_102) hZ (own_w90 hw) (own_w87 hw) (by decide) (by decide)) (g := (mkF m 210 #[.val (.int p1), .val (.int p2), .val (.int p3), .val (.int p4), .val (.int p5), .val (.int p6), .val (.int m102), .val (.int m104), .val (.ref b105), .val (.ref b123), .val (.ref b142), .unset, .unset] [(.double (FP.i2d m104)), (.double (FP.i2d m102)), (.ref b123), (.ref b146), (.ref b146)])) rfl (by rw [hml]; rfl) (Steps.refl _) (a := b146) (argsL := [(.ref b123), (.double (FP.i2d m102)), (.double (FP.i2d m104))]) (rest := [(.ref b146)]) (lenOf own_pd10 rfl) rfl (by show 2 * 0 + _ ≤ _; exact Nat.le_of_eq rfl) (hb hby at_210) (fun _ _ => ⟨rfl, e146, (by decide : 14 + 0 ≤ _), (by decide : 52 + 0 ≤ _)⟩)
      dsimp only [Pt.U, Pt.locs, Pt.cells, Pt.slots] at X149 l149 y149 z149 st149 hQ149
      subst l149 y149 z149
      obtain ⟨rfl, N149q, Kq149, Eq149, Fx149, Fy149⟩ := hQ149
      have N149 := Fr.app N145 N149q
      have O149 := O146.keep Kq149 (allS (P := fun x => n0 ≤ x) g_b146 all0)
      have Z149 : n0 ≤ T149.heap.size := Nat.le_trans Z146 Kq149.1
      have pre150 : ∀ t, Steps p.tables e below (T149.setTop (mkF m 218 #[.val (.int p1), .val (.int p2), .val (.int p3), .val (.int p4), .val (.int p5), .val (.int p6), .val (.int m102), .val (.int m104), .val (.ref b105), .val (.ref b123), .val (.ref b142), .val (.ref b146), .unset] [(.int m102), (.int p1)])) t → Steps p.tables e below (s₁.setTop (entryFrame m #[(.int p1), (.int p2), (.int p3), (.int p4), (.int p5), (.int p6)] maxLocals)) t := fun t kt => pre140 t (by
        show Steps _ _ _ (T139.setTop (mkF m 159 #[.val (.int p1), .val (.int p2), .val (.int p3), .val (.int p4), .val (.int p5), .val (.int p6), .val (.int m102), .val (.int m104), .val (.ref b105), .val (.ref b123), .unset, .unset, .unset] [(.int (p5 &&& (8 : Int32)))])) _
        refine XS.ifYes X139.here hx rfl (pc0 := 159) (pc' := 183) rfl (hb hby at_159) rfl ((if0 _ _).trans (teq hc159_141).1) (by decide) (by decide) ?_
        refine st142 _ ?_
        refine XS.dup X142.here hx rfl (hb hby at_186) rfl rfl ?_
        refine XS.aload X142.here hx rfl (hb hby at_187) rfl rfl ?_
        show Steps _ _ _ (T142.setTop (mkF m 189 #[.val (.int p1), .val (.int p2), .val (.int p3), .val (.int p4), .val (.int p5), .val (.int p6), .val (.int m102), .val (.int m104), .val (.ref b105), .val (.ref b123), .unset, .unset, .unset] [(.ref b105), (.ref b142), (.ref b142)])) _
        refine XS.iloadN X142.here hx rfl (hb hby at_189) rfl ?_
        refine XS.i2dS X142.here hx rfl (hb hby at_190) rfl rfl ?_
        refine XS.iloadN X142.here hx rfl (hb hby at_191) rfl ?_
        refine XS.i2dS X142.here hx rfl (hb hby at_192) rfl rfl ?_
        show Steps _ _ _ (T142.setTop (mkF m 193 #[.val (.int p1), .val (.int p2), .val (.int p3), .val (.int p4), .val (.int p5), .val (.int p6), .val (.int m102), .val (.int m104), .val (.ref b105), .val (.ref b123), .unset, .unset, .unset] [(.double (FP.i2d p2)), (.double (FP.i2d p1)), (.ref b105), (.ref b142), (.ref b142)])) _
        refine st145.trans ?_
        refine XS.astore X145.here hx rfl (hb hby at_196) rfl rfl (l' := #[.val (.int p1), .val (.int p2), .val (.int p3), .val (.int p4), .val (.int p5), .val (.int p6), .val (.int m102), .val (.int m104), .val (.ref b105), .val (.ref b123), .val (.ref b142), .unset, .unset]) rfl ?_
        refine st146 _ ?_
        refine XS.dup X146.here hx rfl (hb hby at_201) rfl rfl ?_
        show Steps _ _ _ (T146.setTop (mkF m 202 #[.val (.int p1), .val (.int p2), .val (.int p3), .val (.int p4), .val (.int p5), .val (.int p6), .val (.int m102), .val (.int m104), .val (.ref b105), .val (.ref b123), .val (.ref b142), .unset, .unset] [(.ref b146), (.ref b146)])) _
        refine XS.aload X146.here hx rfl (hb hby at_202) rfl rfl ?_
        refine XS.iload X146.here hx rfl (hb hby at_204) rfl ?_
        refine XS.i2dS X146.here hx rfl (hb hby at_206) rfl rfl ?_
        refine XS.iload X146.here hx rfl (hb hby at_207) rfl ?_
        show Steps _ _ _ (T146.setTop (mkF m 209 #[.val (.int p1), .val (.int p2), .val (.int p3), .val (.int p4), .val (.int p5), .val (.int p6), .val (.int m102), .val (.int m104), .val (.ref b105), .val (.ref b123), .val (.ref b142), .unset, .unset] [(.int m104), (.double (FP.i2d m102)), (.ref b123), (.ref b146), (.ref b146)])) _
        refine XS.i2dS X146.here hx rfl (hb hby at_209) rfl rfl ?_
        refine st149.trans ?_
        refine XS.astore X149.here hx rfl (hb hby at_213) rfl rfl (l' := #[.val (.int p1), .val (.int p2), .val (.int p3), .val (.int p4), .val (.int p5), .val (.int p6), .val (.int m102), .val (.int m104), .val (.ref b105), .val (.ref b123), .val (.ref b142), .val (.ref b146), .unset]) rfl ?_
        refine XS.iloadN X149.here hx rfl (hb hby at_215) rfl ?_
        show Steps _ _ _ (T149.setTop (mkF m 216 #[.val (.int p1), .val (.int p2), .val (.int p3), .val (.int p4), .val (.int p5), .val (.int p6), .val (.int m102), .val (.int m104), .val (.ref b105), .val (.ref b123), .val (.ref b142), .val (.ref b146), .unset] [(.int p1)])) _
        refine XS.iload X149.here hx rfl (hb hby at_216) rfl ?_
        exact kt)
      by_cases hc218_151 : p1 = m102
      · skip
        have pre152 : ∀ t, Steps p.tables e below (T149.setTop (mkF m 224 #[.val (.int p1), .val (.int p2), .val (.int p3), .val (.int p4), .val (.int p5), .val (.int p6), .val (.int m102), .val (.int m104), .val (.ref b105), .val (.ref b123), .val (.ref b142), .val (.ref b146), .unset] [(.int m104), (.int p2)])) t → Steps p.tables e below (s₁.setTop (entryFrame m #[(.int p1), (.int p2), (.int p3), (.int p4), (.int p5), (.int p6)] maxLocals)) t := fun t kt => pre150 t (by
          show Steps _ _ _ (T149.setTop (mkF m 218 #[.val (.int p1), .val (.int p2), .val (.int p3), .val (.int p4), .val (.int p5), .val (.int p6), .val (.int m102), .val (.int m104), .val (.ref b105), .val (.ref b123), .val (.ref b142), .val (.ref b146), .unset] [(.int m102), (.int p1)])) _
          refine XS.icmpNo X149.here hx rfl (hb hby at_218) rfl (teq hc218_151).2 ?_
          refine XS.iloadN X149.here hx rfl (hb hby at_221) rfl ?_
          refine XS.iload X149.here hx rfl (hb hby at_222) rfl ?_
          exact kt)
        by_cases hc224_153 : p2 = m104
        · skip
          have c154 := ((Fx145.ext E146).keep Kq149 (ninS ne_b142_b146 nin0))
          have c155 := ((Fy145.ext E146).keep Kq149 (ninS ne_b142_b146 nin0))
          have c156 := ((Eq145.ext E146).keep Kq149)
          obtain ⟨cq157, kq157, q157a, q157b, q157c⟩ := isOf hZ rfl c156
          obtain ⟨_, _, ⟨T157, L157, k157, n157⟩, -, X157, ⟨Lc157, hQ157, l157, y157, z157⟩, st157⟩ := X149.virtualBack hx (y := own_m14) (z := own_m14) hown (mvT hZ (own_w103 hw)) (mvT hZ (own_w104 hw)) (notFace_of_selects (args := #[]) (mvT hZ (own_w106 hw))) (mvT hZ (own_w106 hw)) (mvT hZ (own_w105 hw)) (by decide) (backOf (W := 0) (own_sp l Z a0 hw [] b142 b146 p1 p2 m102 m104 T149.heap n0 Z149 c154 c155 Fx149 Fy149) hZ (own_w107 hw) (own_w87 hw) (by decide) (by decide)) q157a q157c (g := (mkF m 238 #[.val (.int p1), .val (.int p2), .val (.int p3), .val (.int p4), .val (.int p5), .val (.int p6), .val (.int m102), .val (.int m104), .val (.ref b105), .val (.ref b123), .val (.ref b142), .val (.ref b146), .val (.int (1 : Int32))] [(.ref b146), (.ref b142)])) rfl (by rw [hml]; rfl) (Steps.refl _) (argsL := [(.ref b146)]) (rest := []) (lenOf own_pd11 rfl) rfl (by show 2 * 0 + _ ≤ _; exact Nat.le_of_eq rfl) (hb hby at_238) (fun _ _ => ⟨rfl, rfl, (by decide : 14 + 0 ≤ _), (by decide : 52 + 0 ≤ _)⟩)
          dsimp only [Pt.U, Pt.locs, Pt.cells, Pt.slots] at X157 l157 y157 z157 st157 hQ157
          subst l157 y157 z157
          obtain ⟨rfl, N157q, e157⟩ := hQ157
          have N157 := Fr.app N149 N157q
          obtain ⟨cq158, kq158, q158a, q158b, q158c⟩ := isOf hZ e157 Eq149
          obtain ⟨_, _, ⟨T158, L158, k158, n158⟩, -, X158, ⟨Lc158, hQ158, l158, y158, z158⟩, st158⟩ := X157.virtualBack hx (y := own_m14) (z := own_m14) hown (mvT hZ (own_w103 hw)) (mvT hZ (own_w104 hw)) (notFace_of_selects (args := #[]) (mvT hZ (own_w106 hw))) (mvT hZ (own_w106 hw)) (mvT hZ (own_w105 hw)) (by decide) (backOf (W := 0) (own_sp l Z a0 hw [] b146 b142 m102 m104 p1 p2 T149.heap n0 Z149 Fx149 Fy149 c154 c155) hZ (own_w107 hw) (own_w87 hw) (by decide) (by decide)) q158a q158c (g := (mkF m 250 #[.val (.int p1), .val (.int p2), .val (.int p3), .val (.int p4), .val (.int p5), .val (.int p6), .val (.int m102), .val (.int m104), .val (.ref b105), .val (.ref b123), .val (.ref b142), .val (.ref b146), .val (.int (1 : Int32))] [(.ref b142), (.ref b146)])) rfl (by rw [hml]; rfl) (Steps.refl _) (argsL := [(.ref b142)]) (rest := []) (lenOf own_pd11 rfl) rfl (by show 2 * 0 + _ ≤ _; exact Nat.le_of_eq rfl) (hb hby at_250) (fun _ _ => ⟨rfl, e157, (by decide : 14 + 0 ≤ _), (by decide : 52 + 0 ≤ _)⟩)
          dsimp only [Pt.U, Pt.locs, Pt.cells, Pt.slots] at X158 l158 y158 z158 st158 hQ158
          subst l158 y158 z158
          obtain ⟨rfl, N158q, e158⟩ := hQ158
          have N158 := Fr.app N157 N158q
          obtain ⟨fs, hr, hrun, hended, hW, hsame⟩ := X158.leave (v := some (.int (1 : Int32))) (fun h => by rw [Bd.returns] at h; cases h)
          refine ⟨_, _, pre152 _ ?_, hrun, hended, _, _, rfl, ?_, ⟨_, rfl⟩, hW, hsame.mono (by decide) (by decide)⟩
          · show Steps _ _ _ (T149.setTop (mkF m 224 #[.val (.int p1), .val (.int p2), .val (.int p3), .val (.int p4), .val (.int p5), .val (.int p6), .val (.int m102), .val (.int m104), .val (.ref b105), .val (.ref b123), .val (.ref b142), .val (.ref b146), .unset] [(.int m104), (.int p2)])) _
            refine XS.icmpNo X149.here hx rfl (hb hby at_224) rfl (teq hc224_153).2 ?_
            refine XS.iconst X149.here hx rfl (hb hby at_227) ?_
            refine XS.goto X149.here hx rfl (pc0 := 228) (pc' := 232) rfl (hb hby at_228) (by decide) (by decide) ?_
            refine XS.istore X149.here hx rfl (hb hby at_232) rfl (l' := #[.val (.int p1), .val (.int p2), .val (.int p3), .val (.int p4), .val (.int p5), .val (.int p6), .val (.int m102), .val (.int m104), .val (.ref b105), .val (.ref b123), .val (.ref b142), .val (.ref b146), .val (.int (1 : Int32))]) rfl ?_
            show Steps _ _ _ (T149.setTop (mkF m 234 #[.val (.int p1), .val (.int p2), .val (.int p3), .val (.int p4), .val (.int p5), .val (.int p6), .val (.int m102), .val (.int m104), .val (.ref b105), .val (.ref b123), .val (.ref b142), .val (.ref b146), .val (.int (1 : Int32))] [])) _
            refine XS.aload X149.here hx rfl (hb hby at_234) rfl rfl ?_
            refine XS.aload X149.here hx rfl (hb hby at_236) rfl rfl ?_
            refine st157.trans ?_
            refine XS.iload X157.here hx rfl (hb hby at_241) rfl ?_
            show Steps _ _ _ (T157.setTop (mkF m 243 #[.val (.int p1), .val (.int p2), .val (.int p3), .val (.int p4), .val (.int p5), .val (.int p6), .val (.int m102), .val (.int m104), .val (.ref b105), .val (.ref b123), .val (.ref b142), .val (.ref b146), .val (.int (1 : Int32))] [(.int (1 : Int32)), (.int (own_s p1 p2 m102 m104))])) _
            refine XS.icmpNo X157.here hx rfl (hb hby at_243) rfl (teq (by unfold own_s; exact if_pos ⟨hc218_151, hc224_153⟩)).2 ?_
            refine XS.aload X157.here hx rfl (hb hby at_246) rfl rfl ?_
            refine XS.aload X157.here hx rfl (hb hby at_248) rfl rfl ?_
            refine st158.trans ?_
            show Steps _ _ _ (T158.setTop (mkF m 253 #[.val (.int p1), .val (.int p2), .val (.int p3), .val (.int p4), .val (.int p5), .val (.int p6), .val (.int m102), .val (.int m104), .val (.ref b105), .val (.ref b123), .val (.ref b142), .val (.ref b146), .val (.int (1 : Int32))] [(.int (own_s m102 m104 p1 p2))])) _
            refine XS.iload X158.here hx rfl (hb hby at_253) rfl ?_
            refine XS.icmpNo X158.here hx rfl (hb hby at_255) rfl (teq (by unfold own_s; exact if_pos ⟨hc218_151.symm, hc224_153.symm⟩)).2 ?_
            refine XS.iconst X158.here hx rfl (hb hby at_258) ?_
            refine XS.goto X158.here hx rfl (pc0 := 259) (pc' := 263) rfl (hb hby at_259) (by decide) (by decide) ?_
            show Steps _ _ _ (T158.setTop (mkF m 263 #[.val (.int p1), .val (.int p2), .val (.int p3), .val (.int p4), .val (.int p5), .val (.int p6), .val (.int m102), .val (.int m104), .val (.ref b105), .val (.ref b123), .val (.ref b142), .val (.ref b146), .val (.int (1 : Int32))] [(.int (1 : Int32))])) _
            exact retN X158 hx (t := .boolean) Bd.returns (by simp) (hb hby at_263) hr
          · show Qown_law Z p1 p2 p3 p4 p5 p6 da kd cs h0 n0 _ T158.heap _
            rw [e158]
            exact ⟨rfl, N158⟩
        · skip
          have c159 := ((Fx145.ext E146).keep Kq149 (ninS ne_b142_b146 nin0))
          have c160 := ((Fy145.ext E146).keep Kq149 (ninS ne_b142_b146 nin0))
          have c161 := ((Eq145.ext E146).keep Kq149)
          obtain ⟨cq162, kq162, q162a, q162b, q162c⟩ := isOf hZ rfl c161
          obtain ⟨_, _, ⟨T162, L162, k162, n162⟩, -, X162, ⟨Lc162, hQ162, l162, y162, z162⟩, st162⟩ := X149.virtualBack hx (y := own_m14) (z := own_m14) hown (mvT hZ (own_w103 hw)) (mvT hZ (own_w104 hw)) (notFace_of_selects (args := #[]) (mvT hZ (own_w106 hw))) (mvT hZ (own_w106 hw)) (mvT hZ (own_w105 hw)) (by decide) (backOf (W := 0) (own_sp l Z a0 hw [] b142 b146 p1 p2 m102 m104 T149.heap n0 Z149 c159 c160 Fx149 Fy149) hZ (own_w107 hw) (own_w87 hw) (by decide) (by decide)) q162a q162c (g := (mkF m 238 #[.val (.int p1), .val (.int p2), .val (.int p3), .val (.int p4), .val (.int p5), .val (.int p6), .val (.int m102), .val (.int m104), .val (.ref b105), .val (.ref b123), .val (.ref b142), .val (.ref b146), .val (.int (0 : Int32))] [(.ref b146), (.ref b142)])) rfl (by rw [hml]; rfl) (Steps.refl _) (argsL := [(.ref b146)]) (rest := []) (lenOf own_pd11 rfl) rfl (by show 2 * 0 + _ ≤ _; exact Nat.le_of_eq rfl) (hb hby at_238) (fun _ _ => ⟨rfl, rfl, (by decide : 14 + 0 ≤ _), (by decide : 52 + 0 ≤ _)⟩)
          dsimp only [Pt.U, Pt.locs, Pt.cells, Pt.slots] at X162 l162 y162 z162 st162 hQ162
          subst l162 y162 z162
          obtain ⟨rfl, N162q, e162⟩ := hQ162
          have N162 := Fr.app N149 N162q
          obtain ⟨cq163, kq163, q163a, q163b, q163c⟩ := isOf hZ e162 Eq149
          obtain ⟨_, _, ⟨T163, L163, k163, n163⟩, -, X163, ⟨Lc163, hQ163, l163, y163, z163⟩, st163⟩ := X162.virtualBack hx (y := own_m14) (z := own_m14) hown (mvT hZ (own_w103 hw)) (mvT hZ (own_w104 hw)) (notFace_of_selects (args := #[]) (mvT hZ (own_w106 hw))) (mvT hZ (own_w106 hw)) (mvT hZ (own_w105 hw)) (by decide) (backOf (W := 0) (own_sp l Z a0 hw [] b146 b142 m102 m104 p1 p2 T149.heap n0 Z149 Fx149 Fy149 c159 c160) hZ (own_w107 hw) (own_w87 hw) (by decide) (by decide)) q163a q163c (g := (mkF m 250 #[.val (.int p1), .val (.int p2), .val (.int p3), .val (.int p4), .val (.int p5), .val (.int p6), .val (.int m102), .val (.int m104), .val (.ref b105), .val (.ref b123), .val (.ref b142), .val (.ref b146), .val (.int (0 : Int32))] [(.ref b142), (.ref b146)])) rfl (by rw [hml]; rfl) (Steps.refl _) (argsL := [(.ref b142)]) (rest := []) (lenOf own_pd11 rfl) rfl (by show 2 * 0 + _ ≤ _; exact Nat.le_of_eq rfl) (hb hby at_250) (fun _ _ => ⟨rfl, e162, (by decide : 14 + 0 ≤ _), (by decide : 52 + 0 ≤ _)⟩)
          dsimp only [Pt.U, Pt.locs, Pt.cells, Pt.slots] at X163 l163 y163 z163 st163 hQ163
          subst l163 y163 z163
          obtain ⟨rfl, N163q, e163⟩ := hQ163
          have N163 := Fr.app N162 N163q
          obtain ⟨fs, hr, hrun, hended, hW, hsame⟩ := X163.leave (v := some (.int (1 : Int32))) (fun h => by rw [Bd.returns] at h; cases h)
          refine ⟨_, _, pre152 _ ?_, hrun, hended, _, _, rfl, ?_, ⟨_, rfl⟩, hW, hsame.mono (by decide) (by decide)⟩
          · show Steps _ _ _ (T149.setTop (mkF m 224 #[.val (.int p1), .val (.int p2), .val (.int p3), .val (.int p4), .val (.int p5), .val (.int p6), .val (.int m102), .val (.int m104), .val (.ref b105), .val (.ref b123), .val (.ref b142), .val (.ref b146), .unset] [(.int m104), (.int p2)])) _
            refine XS.icmpYes X149.here hx rfl (pc0 := 224) (pc' := 231) rfl (hb hby at_224) rfl (feq hc224_153).2 (by decide) (by decide) ?_
            refine XS.iconst X149.here hx rfl (hb hby at_231) ?_
            refine XS.istore X149.here hx rfl (hb hby at_232) rfl (l' := #[.val (.int p1), .val (.int p2), .val (.int p3), .val (.int p4), .val (.int p5), .val (.int p6), .val (.int m102), .val (.int m104), .val (.ref b105), .val (.ref b123), .val (.ref b142), .val (.ref b146), .val (.int (0 : Int32))]) rfl ?_
            refine XS.aload X149.here hx rfl (hb hby at_234) rfl rfl ?_
            show Steps _ _ _ (T149.setTop (mkF m 236 #[.val (.int p1), .val (.int p2), .val (.int p3), .val (.int p4), .val (.int p5), .val (.int p6), .val (.int m102), .val (.int m104), .val (.ref b105), .val (.ref b123), .val (.ref b142), .val (.ref b146), .val (.int (0 : Int32))] [(.ref b142)])) _
            refine XS.aload X149.here hx rfl (hb hby at_236) rfl rfl ?_
            refine st162.trans ?_
            refine XS.iload X162.here hx rfl (hb hby at_241) rfl ?_
            refine XS.icmpNo X162.here hx rfl (hb hby at_243) rfl (teq (by unfold own_s; exact if_neg (fun r => hc224_153 r.2))).2 ?_
            show Steps _ _ _ (T162.setTop (mkF m 246 #[.val (.int p1), .val (.int p2), .val (.int p3), .val (.int p4), .val (.int p5), .val (.int p6), .val (.int m102), .val (.int m104), .val (.ref b105), .val (.ref b123), .val (.ref b142), .val (.ref b146), .val (.int (0 : Int32))] [])) _
            refine XS.aload X162.here hx rfl (hb hby at_246) rfl rfl ?_
            refine XS.aload X162.here hx rfl (hb hby at_248) rfl rfl ?_
            refine st163.trans ?_
            refine XS.iload X163.here hx rfl (hb hby at_253) rfl ?_
            show Steps _ _ _ (T163.setTop (mkF m 255 #[.val (.int p1), .val (.int p2), .val (.int p3), .val (.int p4), .val (.int p5), .val (.int p6), .val (.int m102), .val (.int m104), .val (.ref b105), .val (.ref b123), .val (.ref b142), .val (.ref b146), .val (.int (0 : Int32))] [(.int (0 : Int32)), (.int (own_s m102 m104 p1 p2))])) _
            refine XS.icmpNo X163.here hx rfl (hb hby at_255) rfl (teq (by unfold own_s; exact if_neg (fun r => hc224_153 r.2.symm))).2 ?_
            refine XS.iconst X163.here hx rfl (hb hby at_258) ?_
            refine XS.goto X163.here hx rfl (pc0 := 259) (pc' := 263) rfl (hb hby at_259) (by decide) (by decide) ?_
            show Steps _ _ _ (T163.setTop (mkF m 263 #[.val (.int p1), .val (.int p2), .val (.int p3), .val (.int p4), .val (.int p5), .val (.int p6), .val (.int m102), .val (.int m104), .val (.ref b105), .val (.ref b123), .val (.ref b142), .val (.ref b146), .val (.int (0 : Int32))] [(.int (1 : Int32))])) _
            exact retN X163 hx (t := .boolean) Bd.returns (by simp) (hb hby at_263) hr
          · show Qown_law Z p1 p2 p3 p4 p5 p6 da kd cs h0 n0 _ T163.heap _
            rw [e163]
            exact ⟨rfl, N163⟩
      · skip
        have c164 := ((Fx145.ext E146).keep Kq149 (ninS ne_b142_b146 nin0))
        have c165 := ((Fy145.ext E146).keep Kq149 (ninS ne_b142_b146 nin0))
        have c166 := ((Eq145.ext E146).keep Kq149)
        obtain ⟨cq167, kq167, q167a, q167b, q167c⟩ := isOf hZ rfl c166
        obtain ⟨_, _, ⟨T167, L167, k167, n167⟩, -, X167, ⟨Lc167, hQ167, l167, y167, z167⟩, st167⟩ := X149.virtualBack hx (y := own_m14) (z := own_m14) hown (mvT hZ (own_w103 hw)) (mvT hZ (own_w104 hw)) (notFace_of_selects (args := #[]) (mvT hZ (own_w106 hw))) (mvT hZ (own_w106 hw)) (mvT hZ (own_w105 hw)) (by decide) (backOf (W := 0) (own_sp l Z a0 hw [] b142 b146 p1 p2 m102 m104 T149.heap n0 Z149 c164 c165 Fx149 Fy149) hZ (own_w107 hw) (own_w87 hw) (by decide) (by decide)) q167a q167c (g := (mkF m 238 #[.val (.int p1), .val (.int p2), .val (.int p3), .val (.int p4), .val (.int p5), .val (.int p6), .val (.int m102), .val (.int m104), .val (.ref b105), .val (.ref b123), .val (.ref b142), .val (.ref b146), .val (.int (0 : Int32))] [(.ref b146), (.ref b142)])) rfl (by rw [hml]; rfl) (Steps.refl _) (argsL := [(.ref b146)]) (rest := []) (lenOf own_pd11 rfl) rfl (by show 2 * 0 + _ ≤ _; exact Nat.le_of_eq rfl) (hb hby at_238) (fun _ _ => ⟨rfl, rfl, (by decide : 14 + 0 ≤ _), (by decide : 52 + 0 ≤ _)⟩)
        dsimp only [Pt.U, Pt.locs, Pt.cells, Pt.slots] at X167 l167 y167 z167 st167 hQ167
        subst l167 y167 z167
        obtain ⟨rfl, N167q, e167⟩ := hQ167
        have N167 := Fr.app N149 N167q
        obtain ⟨cq168, kq168, q168a, q168b, q168c⟩ := isOf hZ e167 Eq149
        obtain ⟨_, _, ⟨T168, L168, k168, n168⟩, -, X168, ⟨Lc168, hQ168, l168, y168, z168⟩, st168⟩ := X167.virtualBack hx (y := own_m14) (z := own_m14) hown (mvT hZ (own_w103 hw)) (mvT hZ (own_w104 hw)) (notFace_of_selects (args := #[]) (mvT hZ (own_w106 hw))) (mvT hZ (own_w106 hw)) (mvT hZ (own_w105 hw)) (by decide) (backOf (W := 0) (own_sp l Z a0 hw [] b146 b142 m102 m104 p1 p2 T149.heap n0 Z149 Fx149 Fy149 c164 c165) hZ (own_w107 hw) (own_w87 hw) (by decide) (by decide)) q168a q168c (g := (mkF m 250 #[.val (.int p1), .val (.int p2), .val (.int p3), .val (.int p4), .val (.int p5), .val (.int p6), .val (.int m102), .val (.int m104), .val (.ref b105), .val (.ref b123), .val (.ref b142), .val (.ref b146), .val (.int (0 : Int32))] [(.ref b142), (.ref b146)])) rfl (by rw [hml]; rfl) (Steps.refl _) (argsL := [(.ref b142)]) (rest := []) (lenOf own_pd11 rfl) rfl (by show 2 * 0 + _ ≤ _; exact Nat.le_of_eq rfl) (hb hby at_250) (fun _ _ => ⟨rfl, e167, (by decide : 14 + 0 ≤ _), (by decide : 52 + 0 ≤ _)⟩)
        dsimp only [Pt.U, Pt.locs, Pt.cells, Pt.slots] at X168 l168 y168 z168 st168 hQ168
        subst l168 y168 z168
        obtain ⟨rfl, N168q, e168⟩ := hQ168
        have N168 := Fr.app N167 N168q
        obtain ⟨fs, hr, hrun, hended, hW, hsame⟩ := X168.leave (v := some (.int (1 : Int32))) (fun h => by rw [Bd.returns] at h; cases h)
        refine ⟨_, _, pre150 _ ?_, hrun, hended, _, _, rfl, ?_, ⟨_, rfl⟩, hW, hsame.mono (by decide) (by decide)⟩
        · show Steps _ _ _ (T149.setTop (mkF m 218 #[.val (.int p1), .val (.int p2), .val (.int p3), .val (.int p4), .val (.int p5), .val (.int p6), .val (.int m102), .val (.int m104), .val (.ref b105), .val (.ref b123), .val (.ref b142), .val (.ref b146), .unset] [(.int m102), (.int p1)])) _
          refine XS.icmpYes X149.here hx rfl (pc0 := 218) (pc' := 231) rfl (hb hby at_218) rfl (feq hc218_151).2 (by decide) (by decide) ?_
          refine XS.iconst X149.here hx rfl (hb hby at_231) ?_
          refine XS.istore X149.here hx rfl (hb hby at_232) rfl (l' := #[.val (.int p1), .val (.int p2), .val (.int p3), .val (.int p4), .val (.int p5), .val (.int p6), .val (.int m102), .val (.int m104), .val (.ref b105), .val (.ref b123), .val (.ref b142), .val (.ref b146), .val (.int (0 : Int32))]) rfl ?_
          refine XS.aload X149.here hx rfl (hb hby at_234) rfl rfl ?_
          show Steps _ _ _ (T149.setTop (mkF m 236 #[.val (.int p1), .val (.int p2), .val (.int p3), .val (.int p4), .val (.int p5), .val (.int p6), .val (.int m102), .val (.int m104), .val (.ref b105), .val (.ref b123), .val (.ref b142), .val (.ref b146), .val (.int (0 : Int32))] [(.ref b142)])) _
          refine XS.aload X149.here hx rfl (hb hby at_236) rfl rfl ?_
          refine st167.trans ?_
          refine XS.iload X167.here hx rfl (hb hby at_241) rfl ?_
          refine XS.icmpNo X167.here hx rfl (hb hby at_243) rfl (teq (by unfold own_s; exact if_neg (fun r => hc218_151 r.1))).2 ?_
          show Steps _ _ _ (T167.setTop (mkF m 246 #[.val (.int p1), .val (.int p2), .val (.int p3), .val (.int p4), .val (.int p5), .val (.int p6), .val (.int m102), .val (.int m104), .val (.ref b105), .val (.ref b123), .val (.ref b142), .val (.ref b146), .val (.int (0 : Int32))] [])) _
          refine XS.aload X167.here hx rfl (hb hby at_246) rfl rfl ?_
          refine XS.aload X167.here hx rfl (hb hby at_248) rfl rfl ?_
          refine st168.trans ?_
          refine XS.iload X168.here hx rfl (hb hby at_253) rfl ?_
          show Steps _ _ _ (T168.setTop (mkF m 255 #[.val (.int p1), .val (.int p2), .val (.int p3), .val (.int p4), .val (.int p5), .val (.int p6), .val (.int m102), .val (.int m104), .val (.ref b105), .val (.ref b123), .val (.ref b142), .val (.ref b146), .val (.int (0 : Int32))] [(.int (0 : Int32)), (.int (own_s m102 m104 p1 p2))])) _
          refine XS.icmpNo X168.here hx rfl (hb hby at_255) rfl (teq (by unfold own_s; exact if_neg (fun r => hc218_151 r.1.symm))).2 ?_
          refine XS.iconst X168.here hx rfl (hb hby at_258) ?_
          refine XS.goto X168.here hx rfl (pc0 := 259) (pc' := 263) rfl (hb hby at_259) (by decide) (by decide) ?_
          show Steps _ _ _ (T168.setTop (mkF m 263 #[.val (.int p1), .val (.int p2), .val (.int p3), .val (.int p4), .val (.int p5), .val (.int p6), .val (.int m102), .val (.int m104), .val (.ref b105), .val (.ref b123), .val (.ref b142), .val (.ref b146), .val (.int (0 : Int32))] [(.int (1 : Int32))])) _
          exact retN X168 hx (t := .boolean) Bd.returns (by simp) (hb hby at_263) hr
        · show Qown_law Z p1 p2 p3 p4 p5 p6 da kd cs h0 n0 _ T168.heap _
          rw [e168]
          exact ⟨rfl, N168⟩
    · skip
      have ihc159_141 := (mt (own_eq (b := (0 : Int32)) (k := 0) rfl).mpr hc159_141)
      have c169 := SC.ext O139.2
      obtain ⟨_, _, ⟨T170, L170, k170, n170⟩, -, X170, ⟨Lc170, hQ170, l170, y170, z170⟩, st170⟩ := Jvm.LawKit.callS X139 hx (y := own_m7) hown (mvT hZ (own_w26 hw)) (mvT hZ (own_w27 hw)) (mvT hZ (own_w28 hw)) (mvT hZ (own_w29 hw)) (by decide) (backOf (W := 1) (own_vo l Z a0 hw [] ((((p6.toUInt32 >>> ((12 : Int32) &&& 31).toUInt32).toInt32) &&& (255 : Int32)).toUInt32.toUInt16.toUInt32.toInt32) cs T139.heap n0 Z139 (own_ch _) c169 hcs) hZ (own_w29 hw) (own_w28 hw) (by decide) (by decide)) (g := (mkF m 174 #[.val (.int p1), .val (.int p2), .val (.int p3), .val (.int p4), .val (.int p5), .val (.int p6), .val (.int m102), .val (.int m104), .val (.ref b105), .val (.ref b123), .unset, .unset, .unset] [(.int ((((p6.toUInt32 >>> ((12 : Int32) &&& 31).toUInt32).toInt32) &&& (255 : Int32)).toUInt32.toUInt16.toUInt32.toInt32)), (.ref b123)])) rfl (by rw [hml]; rfl) (argsL := [(.int ((((p6.toUInt32 >>> ((12 : Int32) &&& 31).toUInt32).toInt32) &&& (255 : Int32)).toUInt32.toUInt16.toUInt32.toInt32))]) (rest := [(.ref b123)]) (lenOf own_pd8 rfl) rfl (by show 2 * 0 + _ ≤ _; exact Nat.le_of_eq rfl) (hb hby at_174) (fun _ _ => ⟨rfl, rfl, (by decide : 12 + 2 ≤ _), (by decide : 46 + 5 ≤ _)⟩)
      dsimp only [Pt.U, Pt.locs, Pt.cells, Pt.slots] at X170 l170 y170 z170 st170 hQ170
      subst l170 y170 z170
      obtain ⟨sb170, rfl, N170q, Kq170, Eq170⟩ := hQ170
      have N170 := Fr.app N139 N170q
      have O170 := O139.keep Kq170 all0
      have Z170 : n0 ≤ T170.heap.size := Nat.le_trans Z139 Kq170.1
      have c171 := (own_al_keep hA139 Kq170)
      have gded135 := c171.2.1
      obtain ⟨cq172, kq172, q172a, q172b, q172c⟩ := isOf hZ rfl c171.2.2.1
      obtain ⟨_, _, ⟨T172, L172, k172, n172⟩, -, X172, ⟨Lc172, hQ172, l172, y172, z172⟩, st172⟩ := X170.interfaceBack hx (xi := own_m15) (y := own_m12) hown (mvT hZ (own_w50 hw)) (mvT hZ (own_w51 hw)) (mvT hZ (own_w52 hw)) (mvT hZ (own_w53 hw)) (mvT hZ (own_w54 hw)) (mvT hZ (own_w55 hw)) (mvT hZ (own_w56 hw)) (mvT hZ (own_w57 hw)) (by decide) (backOf (W := 0) (own_add2 l Z a0 hw [] b123 sb170 ed135 ke135 sb128 sb137 T170.heap n0 Z170 g_b123 Eq170 c171) hZ (own_w58 hw) (own_w2 hw) (by decide) (by decide)) q172a q172b q172c (g := (mkF m 177 #[.val (.int p1), .val (.int p2), .val (.int p3), .val (.int p4), .val (.int p5), .val (.int p6), .val (.int m102), .val (.int m104), .val (.ref b105), .val (.ref b123), .unset, .unset, .unset] [(.ref sb170), (.ref b123)])) rfl (by rw [hml]; rfl) (Steps.refl _) (argsL := [(.ref sb170)]) (rest := []) (lenOf own_pd9 rfl) rfl (by show 2 * 0 + _ ≤ _; exact Nat.le_of_eq rfl) (hb hby at_177) (fun _ _ => ⟨rfl, rfl, (by decide : 14 + 0 ≤ _), (by decide : 51 + 0 ≤ _)⟩)
      dsimp only [Pt.U, Pt.locs, Pt.cells, Pt.slots] at X172 l172 y172 z172 st172 hQ172
      subst l172 y172 z172
      obtain ⟨rfl, N172q, Kq172, hA172⟩ := hQ172
      have N172 := Fr.app N170 N172q
      have O172 := O170.keep Kq172 (allS (P := fun x => n0 ≤ x) g_b123 (allS (P := fun x => n0 ≤ x) gded135 all0))
      have Z172 : n0 ≤ T172.heap.size := Nat.le_trans Z170 Kq172.1
      obtain ⟨T173, h173, X173, e173, E173, A173, D173, -, st173⟩ := newO X172 hx hZ hown (own_w85 hw) (own_w86 hw) (own_w87 hw) rfl (g := (mkF m 183 #[.val (.int p1), .val (.int p2), .val (.int p3), .val (.int p4), .val (.int p5), .val (.int p6), .val (.int m102), .val (.int m104), .val (.ref b105), .val (.ref b123), .unset, .unset, .unset] [])) rfl (hb hby at_183) (by decide) (by decide)
      obtain ⟨b173, g173⟩ : ∃ z, z = T172.heap.size := ⟨_, rfl⟩
      rw [← g173] at A173 D173 st173
      have c174 := ((((((((c124.ext E123).keep Kq126).keep Kq128).keep Kq135).keep Kq137).keep Kq139).keep Kq170).keep Kq172)
      have ne_b105_b173 : b105 ≠ b173 := Nat.ne_of_lt (Nat.lt_of_lt_of_le c174.lt (Nat.le_of_eq g173.symm))
      have c175 := (((((c129.keep Kq135).keep Kq137).keep Kq139).keep Kq170).keep Kq172)
      have ne_b123_b173 : b123 ≠ b173 := Nat.ne_of_lt (Nat.lt_of_lt_of_le c175.lt (Nat.le_of_eq g173.symm))
      have g_b173 : n0 ≤ b173 := Nat.le_trans Z172 (Nat.le_of_eq g173.symm)
      have O173 := O172.ext E173
      have Z173 : n0 ≤ h173.size := Nat.le_trans Z172 E173.1
      have F173_98 : Fld Z h173 b173 "com/example/arpent/arpent/geom/Point" "coordinates" "Ljava/util/List;" .null := D173 (Or.inr (own_w98 hw)) (ty := (.object "java/util/List")) (by decide)
      have F173_100 : Fld Z h173 b173 "com/example/arpent/arpent/geom/Point" "x" "D" (.double (FP.l2d 0)) := (D173 (Or.inr (own_w100 hw)) (ty := .double) (by decide) : Fld Z h173 b173 "com/example/arpent/arpent/geom/Point" "x" "D" (.double 0)).zeroD
      have F173_102 : Fld Z h173 b173 "com/example/arpent/arpent/geom/Point" "y" "D" (.double (FP.l2d 0)) := (D173 (Or.inr (own_w102 hw)) (ty := .double) (by decide) : Fld Z h173 b173 "com/example/arpent/arpent/geom/Point" "y" "D" (.double 0)).zeroD
      obtain ⟨_, _, ⟨T176, L176, k176, n176⟩, -, X176, ⟨Lc176, hQ176, l176, y176, z176⟩, st176⟩ := X173.specialBack hx (y := own_m13) rfl hown (mvT hZ (own_w88 hw)) (mvT hZ (own_w89 hw)) (mvT hZ (own_w90 hw)) (by decide) (backOf (W := 1) (own_pi l Z a0 hw [] b173 b105 (FP.i2d p1) (FP.i2d p2) h173 n0 Z173 g_b173 A173 F173_98 F173_100 F173_102) hZ (own_w90 hw) (own_w87 hw) (by decide) (by decide)) (g := (mkF m 193 #[.val (.int p1), .val (.int p2), .val (.int p3), .val (.int p4), .val (.int p5), .val (.int p6), .val (.int m102), .val (.int m104), .val (.ref b105), .val (.ref b123), .unset, .unset, .unset] [(.double (FP.i2d p2)), (.double (FP.i2d p1)), (.ref b105), (.ref b173), (.ref b173)])) rfl (by rw [hml]; rfl) (Steps.refl _) (a := b173) (argsL := [(.ref b105), (.double (FP.i2d p1)), (.double (FP.i2d p2))]) (rest := [(.ref b173)]) (lenOf own_pd10 rfl) rfl (by show 2 * 0 + _ ≤ _; exact Nat.le_of_eq rfl) (hb hby at_193) (fun _ _ => ⟨rfl, e173, (by decide : 15 + 0 ≤ _), (by decide : 54 + 0 ≤ _)⟩)
      dsimp only [Pt.U, Pt.locs, Pt.cells, Pt.slots] at X176 l176 y176 z176 st176 hQ176
      subst l176 y176 z176
      obtain ⟨rfl, N176q, Kq176, Eq176, Fx176, Fy176⟩ := hQ176
      have N176 := Fr.app N172 N176q
      have O176 := O173.keep Kq176 (allS (P := fun x => n0 ≤ x) g_b173 all0)
      have Z176 : n0 ≤ T176.heap.size := Nat.le_trans Z173 Kq176.1
      obtain ⟨T177, h177, X177, e177, E177, A177, D177, -, st177⟩ := newO X176 hx hZ hown (own_w85 hw) (own_w86 hw) (own_w87 hw) rfl (g := (mkF m 198 #[.val (.int p1), .val (.int p2), .val (.int p3), .val (.int p4), .val (.int p5), .val (.int p6), .val (.int m102), .val (.int m104), .val (.ref b105), .val (.ref b123), .val (.ref b173), .unset, .unset] [])) rfl (hb hby at_198) (by decide) (by decide)
      obtain ⟨b177, g177⟩ : ∃ z, z = T176.heap.size := ⟨_, rfl⟩
      rw [← g177] at A177 D177 st177
      have c178 := ((c174.ext E173).keep Kq176)
      have ne_b105_b177 : b105 ≠ b177 := Nat.ne_of_lt (Nat.lt_of_lt_of_le c178.lt (Nat.le_of_eq g177.symm))
      have c179 := ((c175.ext E173).keep Kq176)
      have ne_b123_b177 : b123 ≠ b177 := Nat.ne_of_lt (Nat.lt_of_lt_of_le c179.lt (Nat.le_of_eq g177.symm))
      have ne_b173_b177 : b173 ≠ b177 := Nat.ne_of_lt (Nat.lt_of_lt_of_le Eq176.lt (Nat.le_of_eq g177.symm))
      have g_b177 : n0 ≤ b177 := Nat.le_trans Z176 (Nat.le_of_eq g177.symm)
      have O177 := O176.ext E177
      have Z177 : n0 ≤ h177.size := Nat.le_trans Z176 E177.1
      have F177_98 : Fld Z h177 b177 "com/example/arpent/arpent/geom/Point" "coordinates" "Ljava/util/List;" .null := D177 (Or.inr (own_w98 hw)) (ty := (.object "java/util/List")) (by decide)
      have F177_100 : Fld Z h177 b177 "com/example/arpent/arpent/geom/Point" "x" "D" (.double (FP.l2d 0)) := (D177 (Or.inr (own_w100 hw)) (ty := .double) (by decide) : Fld Z h177 b177 "com/example/arpent/arpent/geom/Point" "x" "D" (.double 0)).zeroD
      have F177_102 : Fld Z h177 b177 "com/example/arpent/arpent/geom/Point" "y" "D" (.double (FP.l2d 0)) := (D177 (Or.inr (own_w102 hw)) (ty := .double) (by decide) : Fld Z h177 b177 "com/example/arpent/arpent/geom/Point" "y" "D" (.double 0)).zeroD
      obtain ⟨_, _, ⟨T180, L180, k180, n180⟩, -, X180, ⟨Lc180, hQ180, l180, y180, z180⟩, st180⟩ := X177.specialBack hx (y := own_m13) rfl hown (mvT hZ (own_w88 hw)) (mvT hZ (own_w89 hw)) (mvT hZ (own_w90 hw)) (by decide) (backOf (W := 1) (own_pi l Z a0 hw [] b177 b123 (FP.i2d m102) (FP.i2d m104) h177 n0 Z177 g_b177 A177 F177_98 F177_100 F177_102) hZ (own_w90 hw) (own_w87 hw) (by decide) (by decide)) (g := (mkF m 210 #[.val (.int p1), .val (.int p2), .val (.int p3), .val (.int p4), .val (.int p5), .val (.int p6), .val (.int m102), .val (.int m104), .val (.ref b105), .val (.ref b123), .val (.ref b173), .unset, .unset] [(.double (FP.i2d m104)), (.double (FP.i2d m102)), (.ref b123), (.ref b177), (.ref b177)])) rfl (by rw [hml]; rfl) (Steps.refl _) (a := b177) (argsL := [(.ref b123), (.double (FP.i2d m102)), (.double (FP.i2d m104))]) (rest := [(.ref b177)]) (lenOf own_pd10 rfl) rfl (by show 2 * 0 + _ ≤ _; exact Nat.le_of_eq rfl) (hb hby at_210) (fun _ _ => ⟨rfl, e177, (by decide : 16 + 0 ≤ _), (by decide : 57 + 0 ≤ _)⟩)
      dsimp only [Pt.U, Pt.locs, Pt.cells, Pt.slots] at X180 l180 y180 z180 st180 hQ180
      subst l180 y180 z180
      obtain ⟨rfl, N180q, Kq180, Eq180, Fx180, Fy180⟩ := hQ180
      have N180 := Fr.app N176 N180q
      have O180 := O177.keep Kq180 (allS (P := fun x => n0 ≤ x) g_b177 all0)
      have Z180 : n0 ≤ T180.heap.size := Nat.le_trans Z177 Kq180.1
      have pre181 : ∀ t, Steps p.tables e below (T180.setTop (mkF m 218 #[.val (.int p1), .val (.int p2), .val (.int p3), .val (.int p4), .val (.int p5), .val (.int p6), .val (.int m102), .val (.int m104), .val (.ref b105), .val (.ref b123), .val (.ref b173), .val (.ref b177), .unset] [(.int m102), (.int p1)])) t → Steps p.tables e below (s₁.setTop (entryFrame m #[(.int p1), (.int p2), (.int p3), (.int p4), (.int p5), (.int p6)] maxLocals)) t := fun t kt => pre140 t (by
        show Steps _ _ _ (T139.setTop (mkF m 159 #[.val (.int p1), .val (.int p2), .val (.int p3), .val (.int p4), .val (.int p5), .val (.int p6), .val (.int m102), .val (.int m104), .val (.ref b105), .val (.ref b123), .unset, .unset, .unset] [(.int (p5 &&& (8 : Int32)))])) _
        refine XS.ifNo X139.here hx rfl (hb hby at_159) rfl ((if0 _ _).trans (feq hc159_141).1) ?_
        refine XS.aload X139.here hx rfl (hb hby at_162) rfl rfl ?_
        refine XS.iload X139.here hx rfl (hb hby at_164) rfl ?_
        refine XS.bipush X139.here hx rfl (hb hby at_166) ?_
        show Steps _ _ _ (T139.setTop (mkF m 168 #[.val (.int p1), .val (.int p2), .val (.int p3), .val (.int p4), .val (.int p5), .val (.int p6), .val (.int m102), .val (.int m104), .val (.ref b105), .val (.ref b123), .unset, .unset, .unset] [(.int (12 : Int32)), (.int p6), (.ref b123)])) _
        refine XS.iushr X139.here hx rfl (hb hby at_168) rfl ?_
        refine XS.sipush X139.here hx rfl (hb hby at_169) ?_
        refine XS.iand X139.here hx rfl (hb hby at_172) rfl ?_
        refine XS.i2c X139.here hx rfl (hb hby at_173) rfl ?_
        show Steps _ _ _ (T139.setTop (mkF m 174 #[.val (.int p1), .val (.int p2), .val (.int p3), .val (.int p4), .val (.int p5), .val (.int p6), .val (.int m102), .val (.int m104), .val (.ref b105), .val (.ref b123), .unset, .unset, .unset] [(.int ((((p6.toUInt32 >>> ((12 : Int32) &&& 31).toUInt32).toInt32) &&& (255 : Int32)).toUInt32.toUInt16.toUInt32.toInt32)), (.ref b123)])) _
        refine st170 _ ?_
        refine st172.trans ?_
        refine XS.pop X172.here hx rfl (hb hby at_182) rfl rfl ?_
        refine st173 _ ?_
        show Steps _ _ _ (T173.setTop (mkF m 186 #[.val (.int p1), .val (.int p2), .val (.int p3), .val (.int p4), .val (.int p5), .val (.int p6), .val (.int m102), .val (.int m104), .val (.ref b105), .val (.ref b123), .unset, .unset, .unset] [(.ref b173)])) _
        refine XS.dup X173.here hx rfl (hb hby at_186) rfl rfl ?_
        refine XS.aload X173.here hx rfl (hb hby at_187) rfl rfl ?_
        refine XS.iloadN X173.here hx rfl (hb hby at_189) rfl ?_
        refine XS.i2dS X173.here hx rfl (hb hby at_190) rfl rfl ?_
        show Steps _ _ _ (T173.setTop (mkF m 191 #[.val (.int p1), .val (.int p2), .val (.int p3), .val (.int p4), .val (.int p5), .val (.int p6), .val (.int m102), .val (.int m104), .val (.ref b105), .val (.ref b123), .unset, .unset, .unset] [(.double (FP.i2d p1)), (.ref b105), (.ref b173), (.ref b173)])) _
        refine XS.iloadN X173.here hx rfl (hb hby at_191) rfl ?_
        refine XS.i2dS X173.here hx rfl (hb hby at_192) rfl rfl ?_
        refine st176.trans ?_
        refine XS.astore X176.here hx rfl (hb hby at_196) rfl rfl (l' := #[.val (.int p1), .val (.int p2), .val (.int p3), .val (.int p4), .val (.int p5), .val (.int p6), .val (.int m102), .val (.int m104), .val (.ref b105), .val (.ref b123), .val (.ref b173), .unset, .unset]) rfl ?_
        show Steps _ _ _ (T176.setTop (mkF m 198 #[.val (.int p1), .val (.int p2), .val (.int p3), .val (.int p4), .val (.int p5), .val (.int p6), .val (.int m102), .val (.int m104), .val (.ref b105), .val (.ref b123), .val (.ref b173), .unset, .unset] [])) _
        refine st177 _ ?_
        refine XS.dup X177.here hx rfl (hb hby at_201) rfl rfl ?_
        refine XS.aload X177.here hx rfl (hb hby at_202) rfl rfl ?_
        refine XS.iload X177.here hx rfl (hb hby at_204) rfl ?_
        show Steps _ _ _ (T177.setTop (mkF m 206 #[.val (.int p1), .val (.int p2), .val (.int p3), .val (.int p4), .val (.int p5), .val (.int p6), .val (.int m102), .val (.int m104), .val (.ref b105), .val (.ref b123), .val (.ref b173), .unset, .unset] [(.int m102), (.ref b123), (.ref b177), (.ref b177)])) _
        refine XS.i2dS X177.here hx rfl (hb hby at_206) rfl rfl ?_
        refine XS.iload X177.here hx rfl (hb hby at_207) rfl ?_
        refine XS.i2dS X177.here hx rfl (hb hby at_209) rfl rfl ?_
        refine st180.trans ?_
        show Steps _ _ _ (T180.setTop (mkF m 213 #[.val (.int p1), .val (.int p2), .val (.int p3), .val (.int p4), .val (.int p5), .val (.int p6), .val (.int m102), .val (.int m104), .val (.ref b105), .val (.ref b123), .val (.ref b173), .unset, .unset] [(.ref b177)])) _
        refine XS.astore X180.here hx rfl (hb hby at_213) rfl rfl (l' := #[.val (.int p1), .val (.int p2), .val (.int p3), .val (.int p4), .val (.int p5), .val (.int p6), .val (.int m102), .val (.int m104), .val (.ref b105), .val (.ref b123), .val (.ref b173), .val (.ref b177), .unset]) rfl ?_
        refine XS.iloadN X180.here hx rfl (hb hby at_215) rfl ?_
        refine XS.iload X180.here hx rfl (hb hby at_216) rfl ?_
        exact kt)
      by_cases hc218_182 : p1 = m102
      · skip
        have pre183 : ∀ t, Steps p.tables e below (T180.setTop (mkF m 224 #[.val (.int p1), .val (.int p2), .val (.int p3), .val (.int p4), .val (.int p5), .val (.int p6), .val (.int m102), .val (.int m104), .val (.ref b105), .val (.ref b123), .val (.ref b173), .val (.ref b177), .unset] [(.int m104), (.int p2)])) t → Steps p.tables e below (s₁.setTop (entryFrame m #[(.int p1), (.int p2), (.int p3), (.int p4), (.int p5), (.int p6)] maxLocals)) t := fun t kt => pre181 t (by
          show Steps _ _ _ (T180.setTop (mkF m 218 #[.val (.int p1), .val (.int p2), .val (.int p3), .val (.int p4), .val (.int p5), .val (.int p6), .val (.int m102), .val (.int m104), .val (.ref b105), .val (.ref b123), .val (.ref b173), .val (.ref b177), .unset] [(.int m102), (.int p1)])) _
          refine XS.icmpNo X180.here hx rfl (hb hby at_218) rfl (teq hc218_182).2 ?_
          refine XS.iloadN X180.here hx rfl (hb hby at_221) rfl ?_
          refine XS.iload X180.here hx rfl (hb hby at_222) rfl ?_
          exact kt)
        by_cases hc224_184 : p2 = m104
        · skip
          have c185 := ((Fx176.ext E177).keep Kq180 (ninS ne_b173_b177 nin0))
          have c186 := ((Fy176.ext E177).keep Kq180 (ninS ne_b173_b177 nin0))
          have c187 := ((Eq176.ext E177).keep Kq180)
          obtain ⟨cq188, kq188, q188a, q188b, q188c⟩ := isOf hZ rfl c187
          obtain ⟨_, _, ⟨T188, L188, k188, n188⟩, -, X188, ⟨Lc188, hQ188, l188, y188, z188⟩, st188⟩ := X180.virtualBack hx (y := own_m14) (z := own_m14) hown (mvT hZ (own_w103 hw)) (mvT hZ (own_w104 hw)) (notFace_of_selects (args := #[]) (mvT hZ (own_w106 hw))) (mvT hZ (own_w106 hw)) (mvT hZ (own_w105 hw)) (by decide) (backOf (W := 0) (own_sp l Z a0 hw [] b173 b177 p1 p2 m102 m104 T180.heap n0 Z180 c185 c186 Fx180 Fy180) hZ (own_w107 hw) (own_w87 hw) (by decide) (by decide)) q188a q188c (g := (mkF m 238 #[.val (.int p1), .val (.int p2), .val (.int p3), .val (.int p4), .val (.int p5), .val (.int p6), .val (.int m102), .val (.int m104), .val (.ref b105), .val (.ref b123), .val (.ref b173), .val (.ref b177), .val (.int (1 : Int32))] [(.ref b177), (.ref b173)])) rfl (by rw [hml]; rfl) (Steps.refl _) (argsL := [(.ref b177)]) (rest := []) (lenOf own_pd11 rfl) rfl (by show 2 * 0 + _ ≤ _; exact Nat.le_of_eq rfl) (hb hby at_238) (fun _ _ => ⟨rfl, rfl, (by decide : 16 + 0 ≤ _), (by decide : 57 + 0 ≤ _)⟩)
          dsimp only [Pt.U, Pt.locs, Pt.cells, Pt.slots] at X188 l188 y188 z188 st188 hQ188
          subst l188 y188 z188
          obtain ⟨rfl, N188q, e188⟩ := hQ188
          have N188 := Fr.app N180 N188q
          obtain ⟨cq189, kq189, q189a, q189b, q189c⟩ := isOf hZ e188 Eq180
          obtain ⟨_, _, ⟨T189, L189, k189, n189⟩, -, X189, ⟨Lc189, hQ189, l189, y189, z189⟩, st189⟩ := X188.virtualBack hx (y := own_m14) (z := own_m14) hown (mvT hZ (own_w103 hw)) (mvT hZ (own_w104 hw)) (notFace_of_selects (args := #[]) (mvT hZ (own_w106 hw))) (mvT hZ (own_w106 hw)) (mvT hZ (own_w105 hw)) (by decide) (backOf (W := 0) (own_sp l Z a0 hw [] b177 b173 m102 m104 p1 p2 T180.heap n0 Z180 Fx180 Fy180 c185 c186) hZ (own_w107 hw) (own_w87 hw) (by decide) (by decide)) q189a q189c (g := (mkF m 250 #[.val (.int p1), .val (.int p2), .val (.int p3), .val (.int p4), .val (.int p5), .val (.int p6), .val (.int m102), .val (.int m104), .val (.ref b105), .val (.ref b123), .val (.ref b173), .val (.ref b177), .val (.int (1 : Int32))] [(.ref b173), (.ref b177)])) rfl (by rw [hml]; rfl) (Steps.refl _) (argsL := [(.ref b173)]) (rest := []) (lenOf own_pd11 rfl) rfl (by show 2 * 0 + _ ≤ _; exact Nat.le_of_eq rfl) (hb hby at_250) (fun _ _ => ⟨rfl, e188, (by decide : 16 + 0 ≤ _), (by decide : 57 + 0 ≤ _)⟩)
          dsimp only [Pt.U, Pt.locs, Pt.cells, Pt.slots] at X189 l189 y189 z189 st189 hQ189
          subst l189 y189 z189
          obtain ⟨rfl, N189q, e189⟩ := hQ189
          have N189 := Fr.app N188 N189q
          obtain ⟨fs, hr, hrun, hended, hW, hsame⟩ := X189.leave (v := some (.int (1 : Int32))) (fun h => by rw [Bd.returns] at h; cases h)
          refine ⟨_, _, pre183 _ ?_, hrun, hended, _, _, rfl, ?_, ⟨_, rfl⟩, hW, hsame.mono (by decide) (by decide)⟩
          · show Steps _ _ _ (T180.setTop (mkF m 224 #[.val (.int p1), .val (.int p2), .val (.int p3), .val (.int p4), .val (.int p5), .val (.int p6), .val (.int m102), .val (.int m104), .val (.ref b105), .val (.ref b123), .val (.ref b173), .val (.ref b177), .unset] [(.int m104), (.int p2)])) _
            refine XS.icmpNo X180.here hx rfl (hb hby at_224) rfl (teq hc224_184).2 ?_
            refine XS.iconst X180.here hx rfl (hb hby at_227) ?_
            refine XS.goto X180.here hx rfl (pc0 := 228) (pc' := 232) rfl (hb hby at_228) (by decide) (by decide) ?_
            refine XS.istore X180.here hx rfl (hb hby at_232) rfl (l' := #[.val (.int p1), .val (.int p2), .val (.int p3), .val (.int p4), .val (.int p5), .val (.int p6), .val (.int m102), .val (.int m104), .val (.ref b105), .val (.ref b123), .val (.ref b173), .val (.ref b177), .val (.int (1 : Int32))]) rfl ?_
            show Steps _ _ _ (T180.setTop (mkF m 234 #[.val (.int p1), .val (.int p2), .val (.int p3), .val (.int p4), .val (.int p5), .val (.int p6), .val (.int m102), .val (.int m104), .val (.ref b105), .val (.ref b123), .val (.ref b173), .val (.ref b177), .val (.int (1 : Int32))] [])) _
            refine XS.aload X180.here hx rfl (hb hby at_234) rfl rfl ?_
            refine XS.aload X180.here hx rfl (hb hby at_236) rfl rfl ?_
            refine st188.trans ?_
            refine XS.iload X188.here hx rfl (hb hby at_241) rfl ?_
            show Steps _ _ _ (T188.setTop (mkF m 243 #[.val (.int p1), .val (.int p2), .val (.int p3), .val (.int p4), .val (.int p5), .val (.int p6), .val (.int m102), .val (.int m104), .val (.ref b105), .val (.ref b123), .val (.ref b173), .val (.ref b177), .val (.int (1 : Int32))] [(.int (1 : Int32)), (.int (own_s p1 p2 m102 m104))])) _
            refine XS.icmpNo X188.here hx rfl (hb hby at_243) rfl (teq (by unfold own_s; exact if_pos ⟨hc218_182, hc224_184⟩)).2 ?_
            refine XS.aload X188.here hx rfl (hb hby at_246) rfl rfl ?_
            refine XS.aload X188.here hx rfl (hb hby at_248) rfl rfl ?_
            refine st189.trans ?_
            show Steps _ _ _ (T189.setTop (mkF m 253 #[.val (.int p1), .val (.int p2), .val (.int p3), .val (.int p4), .val (.int p5), .val (.int p6), .val (.int m102), .val (.int m104), .val (.ref b105), .val (.ref b123), .val (.ref b173), .val (.ref b177), .val (.int (1 : Int32))] [(.int (own_s m102 m104 p1 p2))])) _
            refine XS.iload X189.here hx rfl (hb hby at_253) rfl ?_
            refine XS.icmpNo X189.here hx rfl (hb hby at_255) rfl (teq (by unfold own_s; exact if_pos ⟨hc218_182.symm, hc224_184.symm⟩)).2 ?_
            refine XS.iconst X189.here hx rfl (hb hby at_258) ?_
            refine XS.goto X189.here hx rfl (pc0 := 259) (pc' := 263) rfl (hb hby at_259) (by decide) (by decide) ?_
            show Steps _ _ _ (T189.setTop (mkF m 263 #[.val (.int p1), .val (.int p2), .val (.int p3), .val (.int p4), .val (.int p5), .val (.int p6), .val (.int m102), .val (.int m104), .val (.ref b105), .val (.ref b123), .val (.ref b173), .val (.ref b177), .val (.int (1 : Int32))] [(.int (1 : Int32))])) _
            exact retN X189 hx (t := .boolean) Bd.returns (by simp) (hb hby at_263) hr
          · show Qown_law Z p1 p2 p3 p4 p5 p6 da kd cs h0 n0 _ T189.heap _
            rw [e189]
            exact ⟨rfl, N189⟩
        · skip
          have c190 := ((Fx176.ext E177).keep Kq180 (ninS ne_b173_b177 nin0))
          have c191 := ((Fy176.ext E177).keep Kq180 (ninS ne_b173_b177 nin0))
          have c192 := ((Eq176.ext E177).keep Kq180)
          obtain ⟨cq193, kq193, q193a, q193b, q193c⟩ := isOf hZ rfl c192
          obtain ⟨_, _, ⟨T193, L193, k193, n193⟩, -, X193, ⟨Lc193, hQ193, l193, y193, z193⟩, st193⟩ := X180.virtualBack hx (y := own_m14) (z := own_m14) hown (mvT hZ (own_w103 hw)) (mvT hZ (own_w104 hw)) (notFace_of_selects (args := #[]) (mvT hZ (own_w106 hw))) (mvT hZ (own_w106 hw)) (mvT hZ (own_w105 hw)) (by decide) (backOf (W := 0) (own_sp l Z a0 hw [] b173 b177 p1 p2 m102 m104 T180.heap n0 Z180 c190 c191 Fx180 Fy180) hZ (own_w107 hw) (own_w87 hw) (by decide) (by decide)) q193a q193c (g := (mkF m 238 #[.val (.int p1), .val (.int p2), .val (.int p3), .val (.int p4), .val (.int p5), .val (.int p6), .val (.int m102), .val (.int m104), .val (.ref b105), .val (.ref b123), .val (.ref b173), .val (.ref b177), .val (.int (0 : Int32))] [(.ref b177), (.ref b173)])) rfl (by rw [hml]; rfl) (Steps.refl _) (argsL := [(.ref b177)]) (rest := []) (lenOf own_pd11 rfl) rfl (by show 2 * 0 + _ ≤ _; exact Nat.le_of_eq rfl) (hb hby at_238) (fun _ _ => ⟨rfl, rfl, (by decide : 16 + 0 ≤ _), (by decide : 57 + 0 ≤ _)⟩)
          dsimp only [Pt.U, Pt.locs, Pt.cells, Pt.slots] at X193 l193 y193 z193 st193 hQ193
          subst l193 y193 z193
          obtain ⟨rfl, N193q, e193⟩ := hQ193
          have N193 := Fr.app N180 N193q
          obtain ⟨cq194, kq194, q194a, q194b, q194c⟩ := isOf hZ e193 Eq180
          obtain ⟨_, _, ⟨T194, L194, k194, n194⟩, -, X194, ⟨Lc194, hQ194, l194, y194, z194⟩, st194⟩ := X193.virtualBack hx (y := own_m14) (z := own_m14) hown (mvT hZ (own_w103 hw)) (mvT hZ (own_w104 hw)) (notFace_of_selects (args := #[]) (mvT hZ (own_w106 hw))) (mvT hZ (own_w106 hw)) (mvT hZ (own_w105 hw)) (by decide) (backOf (W := 0) (own_sp l Z a0 hw [] b177 b173 m102 m104 p1 p2 T180.heap n0 Z180 Fx180 Fy180 c190 c191) hZ (own_w107 hw) (own_w87 hw) (by decide) (by decide)) q194a q194c (g := (mkF m 250 #[.val (.int p1), .val (.int p2), .val (.int p3), .val (.int p4), .val (.int p5), .val (.int p6), .val (.int m102), .val (.int m104), .val (.ref b105), .val (.ref b123), .val (.ref b173), .val (.ref b177), .val (.int (0 : Int32))] [(.ref b173), (.ref b177)])) rfl (by rw [hml]; rfl) (Steps.refl _) (argsL := [(.ref b173)]) (rest := []) (lenOf own_pd11 rfl) rfl (by show 2 * 0 + _ ≤ _; exact Nat.le_of_eq rfl) (hb hby at_250) (fun _ _ => ⟨rfl, e193, (by decide : 16 + 0 ≤ _), (by decide : 57 + 0 ≤ _)⟩)
          dsimp only [Pt.U, Pt.locs, Pt.cells, Pt.slots] at X194 l194 y194 z194 st194 hQ194
          subst l194 y194 z194
          obtain ⟨rfl, N194q, e194⟩ := hQ194
          have N194 := Fr.app N193 N194q
          obtain ⟨fs, hr, hrun, hended, hW, hsame⟩ := X194.leave (v := some (.int (1 : Int32))) (fun h => by rw [Bd.returns] at h; cases h)
          refine ⟨_, _, pre183 _ ?_, hrun, hended, _, _, rfl, ?_, ⟨_, rfl⟩, hW, hsame.mono (by decide) (by decide)⟩
          · show Steps _ _ _ (T180.setTop (mkF m 224 #[.val (.int p1), .val (.int p2), .val (.int p3), .val (.int p4), .val (.int p5), .val (.int p6), .val (.int m102), .val (.int m104), .val (.ref b105), .val (.ref b123), .val (.ref b173), .val (.ref b177), .unset] [(.int m104), (.int p2)])) _
            refine XS.icmpYes X180.here hx rfl (pc0 := 224) (pc' := 231) rfl (hb hby at_224) rfl (feq hc224_184).2 (by decide) (by decide) ?_
            refine XS.iconst X180.here hx rfl (hb hby at_231) ?_
            refine XS.istore X180.here hx rfl (hb hby at_232) rfl (l' := #[.val (.int p1), .val (.int p2), .val (.int p3), .val (.int p4), .val (.int p5), .val (.int p6), .val (.int m102), .val (.int m104), .val (.ref b105), .val (.ref b123), .val (.ref b173), .val (.ref b177), .val (.int (0 : Int32))]) rfl ?_
            refine XS.aload X180.here hx rfl (hb hby at_234) rfl rfl ?_
            show Steps _ _ _ (T180.setTop (mkF m 236 #[.val (.int p1), .val (.int p2), .val (.int p3), .val (.int p4), .val (.int p5), .val (.int p6), .val (.int m102), .val (.int m104), .val (.ref b105), .val (.ref b123), .val (.ref b173), .val (.ref b177), .val (.int (0 : Int32))] [(.ref b173)])) _
            refine XS.aload X180.here hx rfl (hb hby at_236) rfl rfl ?_
            refine st193.trans ?_
            refine XS.iload X193.here hx rfl (hb hby at_241) rfl ?_
            refine XS.icmpNo X193.here hx rfl (hb hby at_243) rfl (teq (by unfold own_s; exact if_neg (fun r => hc224_184 r.2))).2 ?_
            show Steps _ _ _ (T193.setTop (mkF m 246 #[.val (.int p1), .val (.int p2), .val (.int p3), .val (.int p4), .val (.int p5), .val (.int p6), .val (.int m102), .val (.int m104), .val (.ref b105), .val (.ref b123), .val (.ref b173), .val (.ref b177), .val (.int (0 : Int32))] [])) _
            refine XS.aload X193.here hx rfl (hb hby at_246) rfl rfl ?_
            refine XS.aload X193.here hx rfl (hb hby at_248) rfl rfl ?_
            refine st194.trans ?_
            refine XS.iload X194.here hx rfl (hb hby at_253) rfl ?_
            show Steps _ _ _ (T194.setTop (mkF m 255 #[.val (.int p1), .val (.int p2), .val (.int p3), .val (.int p4), .val (.int p5), .val (.int p6), .val (.int m102), .val (.int m104), .val (.ref b105), .val (.ref b123), .val (.ref b173), .val (.ref b177), .val (.int (0 : Int32))] [(.int (0 : Int32)), (.int (own_s m102 m104 p1 p2))])) _
            refine XS.icmpNo X194.here hx rfl (hb hby at_255) rfl (teq (by unfold own_s; exact if_neg (fun r => hc224_184 r.2.symm))).2 ?_
            refine XS.iconst X194.here hx rfl (hb hby at_258) ?_
            refine XS.goto X194.here hx rfl (pc0 := 259) (pc' := 263) rfl (hb hby at_259) (by decide) (by decide) ?_
            show Steps _ _ _ (T194.setTop (mkF m 263 #[.val (.int p1), .val (.int p2), .val (.int p3), .val (.int p4), .val (.int p5), .val (.int p6), .val (.int m102), .val (.int m104), .val (.ref b105), .val (.ref b123), .val (.ref b173), .val (.ref b177), .val (.int (0 : Int32))] [(.int (1 : Int32))])) _
            exact retN X194 hx (t := .boolean) Bd.returns (by simp) (hb hby at_263) hr
          · show Qown_law Z p1 p2 p3 p4 p5 p6 da kd cs h0 n0 _ T194.heap _
            rw [e194]
            exact ⟨rfl, N194⟩
      · skip
        have c195 := ((Fx176.ext E177).keep Kq180 (ninS ne_b173_b177 nin0))
        have c196 := ((Fy176.ext E177).keep Kq180 (ninS ne_b173_b177 nin0))
        have c197 := ((Eq176.ext E177).keep Kq180)
        obtain ⟨cq198, kq198, q198a, q198b, q198c⟩ := isOf hZ rfl c197
        obtain ⟨_, _, ⟨T198, L198, k198, n198⟩, -, X198, ⟨Lc198, hQ198, l198, y198, z198⟩, st198⟩ := X180.virtualBack hx (y := own_m14) (z := own_m14) hown (mvT hZ (own_w103 hw)) (mvT hZ (own_w104 hw)) (notFace_of_selects (args := #[]) (mvT hZ (own_w106 hw))) (mvT hZ (own_w106 hw)) (mvT hZ (own_w105 hw)) (by decide) (backOf (W := 0) (own_sp l Z a0 hw [] b173 b177 p1 p2 m102 m104 T180.heap n0 Z180 c195 c196 Fx180 Fy180) hZ (own_w107 hw) (own_w87 hw) (by decide) (by decide)) q198a q198c (g := (mkF m 238 #[.val (.int p1), .val (.int p2), .val (.int p3), .val (.int p4), .val (.int p5), .val (.int p6), .val (.int m102), .val (.int m104), .val (.ref b105), .val (.ref b123), .val (.ref b173), .val (.ref b177), .val (.int (0 : Int32))] [(.ref b177), (.ref b173)])) rfl (by rw [hml]; rfl) (Steps.refl _) (argsL := [(.ref b177)]) (rest := []) (lenOf own_pd11 rfl) rfl (by show 2 * 0 + _ ≤ _; exact Nat.le_of_eq rfl) (hb hby at_238) (fun _ _ => ⟨rfl, rfl, (by decide : 16 + 0 ≤ _), (by decide : 57 + 0 ≤ _)⟩)
        dsimp only [Pt.U, Pt.locs, Pt.cells, Pt.slots] at X198 l198 y198 z198 st198 hQ198
        subst l198 y198 z198
        obtain ⟨rfl, N198q, e198⟩ := hQ198
        have N198 := Fr.app N180 N198q
        obtain ⟨cq199, kq199, q199a, q199b, q199c⟩ := isOf hZ e198 Eq180
        obtain ⟨_, _, ⟨T199, L199, k199, n199⟩, -, X199, ⟨Lc199, hQ199, l199, y199, z199⟩, st199⟩ := X198.virtualBack hx (y := own_m14) (z := own_m14) hown (mvT hZ (own_w103 hw)) (mvT hZ (own_w104 hw)) (notFace_of_selects (args := #[]) (mvT hZ (own_w106 hw))) (mvT hZ (own_w106 hw)) (mvT hZ (own_w105 hw)) (by decide) (backOf (W := 0) (own_sp l Z a0 hw [] b177 b173 m102 m104 p1 p2 T180.heap n0 Z180 Fx180 Fy180 c195 c196) hZ (own_w107 hw) (own_w87 hw) (by decide) (by decide)) q199a q199c (g := (mkF m 250 #[.val (.int p1), .val (.int p2), .val (.int p3), .val (.int p4), .val (.int p5), .val (.int p6), .val (.int m102), .val (.int m104), .val (.ref b105), .val (.ref b123), .val (.ref b173), .val (.ref b177), .val (.int (0 : Int32))] [(.ref b173), (.ref b177)])) rfl (by rw [hml]; rfl) (Steps.refl _) (argsL := [(.ref b173)]) (rest := []) (lenOf own_pd11 rfl) rfl (by show 2 * 0 + _ ≤ _; exact Nat.le_of_eq rfl) (hb hby at_250) (fun _ _ => ⟨rfl, e198, (by decide : 16 + 0 ≤ _), (by decide : 57 + 0 ≤ _)⟩)
        dsimp only [Pt.U, Pt.locs, Pt.cells, Pt.slots] at X199 l199 y199 z199 st199 hQ199
        subst l199 y199 z199
        obtain ⟨rfl, N199q, e199⟩ := hQ199
        have N199 := Fr.app N198 N199q
        obtain ⟨fs, hr, hrun, hended, hW, hsame⟩ := X199.leave (v := some (.int (1 : Int32))) (fun h => by rw [Bd.returns] at h; cases h)
        refine ⟨_, _, pre181 _ ?_, hrun, hended, _, _, rfl, ?_, ⟨_, rfl⟩, hW, hsame.mono (by decide) (by decide)⟩
        · show Steps _ _ _ (T180.setTop (mkF m 218 #[.val (.int p1), .val (.int p2), .val (.int p3), .val (.int p4), .val (.int p5), .val (.int p6), .val (.int m102), .val (.int m104), .val (.ref b105), .val (.ref b123), .val (.ref b173), .val (.ref b177), .unset] [(.int m102), (.int p1)])) _
          refine XS.icmpYes X180.here hx rfl (pc0 := 218) (pc' := 231) rfl (hb hby at_218) rfl (feq hc218_182).2 (by decide) (by decide) ?_
          refine XS.iconst X180.here hx rfl (hb hby at_231) ?_
          refine XS.istore X180.here hx rfl (hb hby at_232) rfl (l' := #[.val (.int p1), .val (.int p2), .val (.int p3), .val (.int p4), .val (.int p5), .val (.int p6), .val (.int m102), .val (.int m104), .val (.ref b105), .val (.ref b123), .val (.ref b173), .val (.ref b177), .val (.int (0 : Int32))]) rfl ?_
          refine XS.aload X180.here hx rfl (hb hby at_234) rfl rfl ?_
          show Steps _ _ _ (T180.setTop (mkF m 236 #[.val (.int p1), .val (.int p2), .val (.int p3), .val (.int p4), .val (.int p5), .val (.int p6), .val (.int m102), .val (.int m104), .val (.ref b105), .val (.ref b123), .val (.ref b173), .val (.ref b177), .val (.int (0 : Int32))] [(.ref b173)])) _
          refine XS.aload X180.here hx rfl (hb hby at_236) rfl rfl ?_
          refine st198.trans ?_
          refine XS.iload X198.here hx rfl (hb hby at_241) rfl ?_
          refine XS.icmpNo X198.here hx rfl (hb hby at_243) rfl (teq (by unfold own_s; exact if_neg (fun r => hc218_182 r.1))).2 ?_
          show Steps _ _ _ (T198.setTop (mkF m 246 #[.val (.int p1), .val (.int p2), .val (.int p3), .val (.int p4), .val (.int p5), .val (.int p6), .val (.int m102), .val (.int m104), .val (.ref b105), .val (.ref b123), .val (.ref b173), .val (.ref b177), .val (.int (0 : Int32))] [])) _
          refine XS.aload X198.here hx rfl (hb hby at_246) rfl rfl ?_
          refine XS.aload X198.here hx rfl (hb hby at_248) rfl rfl ?_
          refine st199.trans ?_
          refine XS.iload X199.here hx rfl (hb hby at_253) rfl ?_
          show Steps _ _ _ (T199.setTop (mkF m 255 #[.val (.int p1), .val (.int p2), .val (.int p3), .val (.int p4), .val (.int p5), .val (.int p6), .val (.int m102), .val (.int m104), .val (.ref b105), .val (.ref b123), .val (.ref b173), .val (.ref b177), .val (.int (0 : Int32))] [(.int (0 : Int32)), (.int (own_s m102 m104 p1 p2))])) _
          refine XS.icmpNo X199.here hx rfl (hb hby at_255) rfl (teq (by unfold own_s; exact if_neg (fun r => hc218_182 r.1.symm))).2 ?_
          refine XS.iconst X199.here hx rfl (hb hby at_258) ?_
          refine XS.goto X199.here hx rfl (pc0 := 259) (pc' := 263) rfl (hb hby at_259) (by decide) (by decide) ?_
          show Steps _ _ _ (T199.setTop (mkF m 263 #[.val (.int p1), .val (.int p2), .val (.int p3), .val (.int p4), .val (.int p5), .val (.int p6), .val (.int m102), .val (.int m104), .val (.ref b105), .val (.ref b123), .val (.ref b173), .val (.ref b177), .val (.int (0 : Int32))] [(.int (1 : Int32))])) _
          exact retN X199 hx (t := .boolean) Bd.returns (by simp) (hb hby at_263) hr
        · show Qown_law Z p1 p2 p3 p4 p5 p6 da kd cs h0 n0 _ T199.heap _
          rw [e199]
          exact ⟨rfl, N199⟩
  · skip
    have ihc80_122 := (mt (own_eq (b := (0 : Int32)) (k := 0) rfl).mpr hc80_122)
    have c200 := SC.ext O120.2
    obtain ⟨_, _, ⟨T201, L201, k201, n201⟩, -, X201, ⟨Lc201, hQ201, l201, y201, z201⟩, st201⟩ := Jvm.LawKit.callS X120 hx (y := own_m7) hown (mvT hZ (own_w26 hw)) (mvT hZ (own_w27 hw)) (mvT hZ (own_w28 hw)) (mvT hZ (own_w29 hw)) (by decide) (backOf (W := 1) (own_vo l Z a0 hw [] ((((p6.toUInt32 >>> ((16 : Int32) &&& 31).toUInt32).toInt32) &&& (255 : Int32)).toUInt32.toUInt16.toUInt32.toInt32) cs T120.heap n0 Z120 (own_ch _) c200 hcs) hZ (own_w29 hw) (own_w28 hw) (by decide) (by decide)) (g := (mkF m 95 #[.val (.int p1), .val (.int p2), .val (.int p3), .val (.int p4), .val (.int p5), .val (.int p6), .val (.int m102), .val (.int m104), .val (.ref b105), .unset, .unset, .unset, .unset] [(.int ((((p6.toUInt32 >>> ((16 : Int32) &&& 31).toUInt32).toInt32) &&& (255 : Int32)).toUInt32.toUInt16.toUInt32.toInt32)), (.ref b105)])) rfl (by rw [hml]; rfl) (argsL := [(.int ((((p6.toUInt32 >>> ((16 : Int32) &&& 31).toUInt32).toInt32) &&& (255 : Int32)).toUInt32.toUInt16.toUInt32.toInt32))]) (rest := [(.ref b105)]) (lenOf own_pd8 rfl) rfl (by show 2 * 0 + _ ≤ _; exact Nat.le_of_eq rfl) (hb hby at_95) (fun _ _ => ⟨rfl, rfl, (by decide : 6 + 2 ≤ _), (by decide : 23 + 5 ≤ _)⟩)
    dsimp only [Pt.U, Pt.locs, Pt.cells, Pt.slots] at X201 l201 y201 z201 st201 hQ201
    subst l201 y201 z201
    obtain ⟨sb201, rfl, N201q, Kq201, Eq201⟩ := hQ201
    have N201 := Fr.app N120 N201q
    have O201 := O120.keep Kq201 all0
    have Z201 : n0 ≤ T201.heap.size := Nat.le_trans Z120 Kq201.1
    have c202 := (own_al_keep hA120 Kq201)
    have gded116 := c202.2.1
    obtain ⟨cq203, kq203, q203a, q203b, q203c⟩ := isOf hZ rfl c202.2.2.1
    obtain ⟨_, _, ⟨T203, L203, k203, n203⟩, -, X203, ⟨Lc203, hQ203, l203, y203, z203⟩, st203⟩ := X201.interfaceBack hx (xi := own_m15) (y := own_m12) hown (mvT hZ (own_w50 hw)) (mvT hZ (own_w51 hw)) (mvT hZ (own_w52 hw)) (mvT hZ (own_w53 hw)) (mvT hZ (own_w54 hw)) (mvT hZ (own_w55 hw)) (mvT hZ (own_w56 hw)) (mvT hZ (own_w57 hw)) (by decide) (backOf (W := 0) (own_add2 l Z a0 hw [] b105 sb201 ed116 ke116 sb109 sb118 T201.heap n0 Z201 g_b105 Eq201 c202) hZ (own_w58 hw) (own_w2 hw) (by decide) (by decide)) q203a q203b q203c (g := (mkF m 98 #[.val (.int p1), .val (.int p2), .val (.int p3), .val (.int p4), .val (.int p5), .val (.int p6), .val (.int m102), .val (.int m104), .val (.ref b105), .unset, .unset, .unset, .unset] [(.ref sb201), (.ref b105)])) rfl (by rw [hml]; rfl) (Steps.refl _) (argsL := [(.ref sb201)]) (rest := []) (lenOf own_pd9 rfl) rfl (by show 2 * 0 + _ ≤ _; exact Nat.le_of_eq rfl) (hb hby at_98) (fun _ _ => ⟨rfl, rfl, (by decide : 8 + 0 ≤ _), (by decide : 28 + 0 ≤ _)⟩)
    dsimp only [Pt.U, Pt.locs, Pt.cells, Pt.slots] at X203 l203 y203 z203 st203 hQ203
    subst l203 y203 z203
    obtain ⟨rfl, N203q, Kq203, hA203⟩ := hQ203
    have N203 := Fr.app N201 N203q
    have O203 := O201.keep Kq203 (allS (P := fun x => n0 ≤ x) g_b105 (allS (P := fun x => n0 ≤ x) gded116 all0))
    have Z203 : n0 ≤ T203.heap.size := Nat.le_trans Z201 Kq203.1
    obtain ⟨T204, h204, X204, e204, E204, A204, D204, -, st204⟩ := newO X203 hx hZ hown (own_w0 hw) (own_w1 hw) (own_w2 hw) rfl (g := (mkF m 104 #[.val (.int p1), .val (.int p2), .val (.int p3), .val (.int p4), .val (.int p5), .val (.int p6), .val (.int m102), .val (.int m104), .val (.ref b105), .unset, .unset, .unset, .unset] [])) rfl (hb hby at_104) (by decide) (by decide)
    obtain ⟨b204, g204⟩ : ∃ z, z = T203.heap.size := ⟨_, rfl⟩
    rw [← g204] at A204 D204 st204
    have c205 := (((((c110.keep Kq116).keep Kq118).keep Kq120).keep Kq201).keep Kq203)
    have ne_b105_b204 : b105 ≠ b204 := Nat.ne_of_lt (Nat.lt_of_lt_of_le c205.lt (Nat.le_of_eq g204.symm))
    have g_b204 : n0 ≤ b204 := Nat.le_trans Z203 (Nat.le_of_eq g204.symm)
    have O204 := O203.ext E204
    have Z204 : n0 ≤ h204.size := Nat.le_trans Z203 E204.1
    have F204_22 : Fld Z h204 b204 "java/util/AbstractList" "modCount" "I" (.int (0 : Int32)) := D204 (Or.inl (own_w22 hw)) (ty := .int) (by decide)
    have F204_25 : Fld Z h204 b204 "java/util/ArrayList" "elementData" "[Ljava/lang/Object;" .null := D204 (Or.inl (own_w25 hw)) (ty := (.array (.object "java/lang/Object"))) (by decide)
    have F204_62 : Fld Z h204 b204 "java/util/ArrayList" "size" "I" (.int (0 : Int32)) := D204 (Or.inl (own_w62 hw)) (ty := .int) (by decide)
    have c206 := SD.ext O204.2
    have nda_b204 : da ≠ b204 := O204.ne VD.lt g_b204
    obtain ⟨_, _, ⟨T207, L207, k207, n207⟩, -, X207, ⟨Lc207, hQ207, l207, y207, z207⟩, st207⟩ := X204.specialBack hx (y := own_m3) rfl hown (mvT hZ (own_w3 hw)) (mvT hZ (own_w4 hw)) (mvT hZ (own_w5 hw)) (by decide) (backOf (W := 1) (own_ali l Z a0 hw [] b204 da h204 n0 Z204 c206 g_b204 A204 F204_22 F204_25 F204_62) hZ (own_w5 hw) (own_w2 hw) (by decide) (by decide)) (g := (mkF m 108 #[.val (.int p1), .val (.int p2), .val (.int p3), .val (.int p4), .val (.int p5), .val (.int p6), .val (.int m102), .val (.int m104), .val (.ref b105), .unset, .unset, .unset, .unset] [(.ref b204), (.ref b204)])) rfl (by rw [hml]; rfl) (Steps.refl _) (a := b204) (argsL := []) (rest := [(.ref b204)]) (lenOf own_pd0 rfl) rfl (by show 2 * 0 + _ ≤ _; exact Nat.le_of_eq rfl) (hb hby at_108) (fun _ _ => ⟨rfl, e204, (by decide : 9 + 0 ≤ _), (by decide : 31 + 0 ≤ _)⟩)
    dsimp only [Pt.U, Pt.locs, Pt.cells, Pt.slots] at X207 l207 y207 z207 st207 hQ207
    subst l207 y207 z207
    obtain ⟨rfl, N207q, Kq207, Eq207, Fq207_0, Fq207_1, Fq207_2⟩ := hQ207
    have N207 := Fr.app N203 N207q
    have O207 := O204.keep Kq207 (allS (P := fun x => n0 ≤ x) g_b204 all0)
    have Z207 : n0 ≤ T207.heap.size := Nat.le_trans Z204 Kq207.1
    have c208 := SC.ext O207.2
    obtain ⟨_, _, ⟨T209, L209, k209, n209⟩, -, X209, ⟨Lc209, hQ209, l209, y209, z209⟩, st209⟩ := Jvm.LawKit.callS X207 hx (y := own_m7) hown (mvT hZ (own_w26 hw)) (mvT hZ (own_w27 hw)) (mvT hZ (own_w28 hw)) (mvT hZ (own_w29 hw)) (by decide) (backOf (W := 1) (own_vo l Z a0 hw [] ((((p6.toUInt32 >>> ((24 : Int32) &&& 31).toUInt32).toInt32) &&& (255 : Int32)).toUInt32.toUInt16.toUInt32.toInt32) cs T207.heap n0 Z207 (own_ch _) c208 hcs) hZ (own_w29 hw) (own_w28 hw) (by decide) (by decide)) (g := (mkF m 125 #[.val (.int p1), .val (.int p2), .val (.int p3), .val (.int p4), .val (.int p5), .val (.int p6), .val (.int m102), .val (.int m104), .val (.ref b105), .val (.ref b204), .unset, .unset, .unset] [(.int ((((p6.toUInt32 >>> ((24 : Int32) &&& 31).toUInt32).toInt32) &&& (255 : Int32)).toUInt32.toUInt16.toUInt32.toInt32)), (.ref b204)])) rfl (by rw [hml]; rfl) (argsL := [(.int ((((p6.toUInt32 >>> ((24 : Int32) &&& 31).toUInt32).toInt32) &&& (255 : Int32)).toUInt32.toUInt16.toUInt32.toInt32))]) (rest := [(.ref b204)]) (lenOf own_pd8 rfl) rfl (by show 2 * 0 + _ ≤ _; exact Nat.le_of_eq rfl) (hb hby at_125) (fun _ _ => ⟨rfl, rfl, (by decide : 9 + 2 ≤ _), (by decide : 31 + 5 ≤ _)⟩)
    dsimp only [Pt.U, Pt.locs, Pt.cells, Pt.slots] at X209 l209 y209 z209 st209 hQ209
    subst l209 y209 z209
    obtain ⟨sb209, rfl, N209q, Kq209, Eq209⟩ := hQ209
    have N209 := Fr.app N207 N209q
    have O209 := O207.keep Kq209 all0
    have Z209 : n0 ≤ T209.heap.size := Nat.le_trans Z207 Kq209.1
    have c210 := (Eq207.keep Kq209)
    have c211 := (Fq207_0.keep Kq209 nin0)
    have c212 := (Fq207_1.keep Kq209 nin0)
    have c213 := (Fq207_2.keep Kq209 nin0)
    have c214 := SD.ext O209.2
    have c215 := VD.ext O209.2
    obtain ⟨cq216, kq216, q216a, q216b, q216c⟩ := isOf hZ rfl c210
    obtain ⟨_, _, ⟨T216, L216, k216, n216⟩, -, X216, ⟨Lc216, hQ216, l216, y216, z216⟩, st216⟩ := X209.interfaceBack hx (xi := own_m15) (y := own_m12) hown (mvT hZ (own_w50 hw)) (mvT hZ (own_w51 hw)) (mvT hZ (own_w52 hw)) (mvT hZ (own_w53 hw)) (mvT hZ (own_w54 hw)) (mvT hZ (own_w55 hw)) (mvT hZ (own_w56 hw)) (mvT hZ (own_w57 hw)) (by decide) (backOf (W := 0) (own_add0 l Z a0 hw [] b204 sb209 da kd T209.heap n0 Z209 Eq209 g_b204 c210 c211 c212 c213 c214 c215 nda_b204) hZ (own_w58 hw) (own_w2 hw) (by decide) (by decide)) q216a q216b q216c (g := (mkF m 128 #[.val (.int p1), .val (.int p2), .val (.int p3), .val (.int p4), .val (.int p5), .val (.int p6), .val (.int m102), .val (.int m104), .val (.ref b105), .val (.ref b204), .unset, .unset, .unset] [(.ref sb209), (.ref b204)])) rfl (by rw [hml]; rfl) (Steps.refl _) (argsL := [(.ref sb209)]) (rest := []) (lenOf own_pd9 rfl) rfl (by show 2 * 0 + _ ≤ _; exact Nat.le_of_eq rfl) (hb hby at_128) (fun _ _ => ⟨rfl, rfl, (by decide : 11 + 1 ≤ _), (by decide : 36 + 10 ≤ _)⟩)
    dsimp only [Pt.U, Pt.locs, Pt.cells, Pt.slots] at X216 l216 y216 z216 st216 hQ216
    subst l216 y216 z216
    obtain ⟨rfl, N216q, ed216, ke216, Kq216, hA216⟩ := hQ216
    have N216 := Fr.app N209 N216q
    have O216 := O209.keep Kq216 (allS (P := fun x => n0 ≤ x) g_b204 all0)
    have Z216 : n0 ≤ T216.heap.size := Nat.le_trans Z209 Kq216.1
    have c217 := SC.ext O216.2
    obtain ⟨_, _, ⟨T218, L218, k218, n218⟩, -, X218, ⟨Lc218, hQ218, l218, y218, z218⟩, st218⟩ := Jvm.LawKit.callS X216 hx (y := own_m7) hown (mvT hZ (own_w26 hw)) (mvT hZ (own_w27 hw)) (mvT hZ (own_w28 hw)) (mvT hZ (own_w29 hw)) (by decide) (backOf (W := 1) (own_vo l Z a0 hw [] ((((p6.toUInt32 >>> ((4 : Int32) &&& 31).toUInt32).toInt32) &&& (255 : Int32)).toUInt32.toUInt16.toUInt32.toInt32) cs T216.heap n0 Z216 (own_ch _) c217 hcs) hZ (own_w29 hw) (own_w28 hw) (by decide) (by decide)) (g := (mkF m 145 #[.val (.int p1), .val (.int p2), .val (.int p3), .val (.int p4), .val (.int p5), .val (.int p6), .val (.int m102), .val (.int m104), .val (.ref b105), .val (.ref b204), .unset, .unset, .unset] [(.int ((((p6.toUInt32 >>> ((4 : Int32) &&& 31).toUInt32).toInt32) &&& (255 : Int32)).toUInt32.toUInt16.toUInt32.toInt32)), (.ref b204)])) rfl (by rw [hml]; rfl) (argsL := [(.int ((((p6.toUInt32 >>> ((4 : Int32) &&& 31).toUInt32).toInt32) &&& (255 : Int32)).toUInt32.toUInt16.toUInt32.toInt32))]) (rest := [(.ref b204)]) (lenOf own_pd8 rfl) rfl (by show 2 * 0 + _ ≤ _; exact Nat.le_of_eq rfl) (hb hby at_145) (fun _ _ => ⟨rfl, rfl, (by decide : 12 + 2 ≤ _), (by decide : 46 + 5 ≤ _)⟩)
    dsimp only [Pt.U, Pt.locs, Pt.cells, Pt.slots] at X218 l218 y218 z218 st218 hQ218
    subst l218 y218 z218
    obtain ⟨sb218, rfl, N218q, Kq218, Eq218⟩ := hQ218
    have N218 := Fr.app N216 N218q
    have O218 := O216.keep Kq218 all0
    have Z218 : n0 ≤ T218.heap.size := Nat.le_trans Z216 Kq218.1
    have c219 := (own_al_keep hA216 Kq218)
    have gded216 := c219.2.1
    obtain ⟨cq220, kq220, q220a, q220b, q220c⟩ := isOf hZ rfl c219.2.2.1
    obtain ⟨_, _, ⟨T220, L220, k220, n220⟩, -, X220, ⟨Lc220, hQ220, l220, y220, z220⟩, st220⟩ := X218.interfaceBack hx (xi := own_m15) (y := own_m12) hown (mvT hZ (own_w50 hw)) (mvT hZ (own_w51 hw)) (mvT hZ (own_w52 hw)) (mvT hZ (own_w53 hw)) (mvT hZ (own_w54 hw)) (mvT hZ (own_w55 hw)) (mvT hZ (own_w56 hw)) (mvT hZ (own_w57 hw)) (by decide) (backOf (W := 0) (own_add1 l Z a0 hw [] b204 sb218 ed216 ke216 sb209 T218.heap n0 Z218 g_b204 Eq218 c219) hZ (own_w58 hw) (own_w2 hw) (by decide) (by decide)) q220a q220b q220c (g := (mkF m 148 #[.val (.int p1), .val (.int p2), .val (.int p3), .val (.int p4), .val (.int p5), .val (.int p6), .val (.int m102), .val (.int m104), .val (.ref b105), .val (.ref b204), .unset, .unset, .unset] [(.ref sb218), (.ref b204)])) rfl (by rw [hml]; rfl) (Steps.refl _) (argsL := [(.ref sb218)]) (rest := []) (lenOf own_pd9 rfl) rfl (by show 2 * 0 + _ ≤ _; exact Nat.le_of_eq rfl) (hb hby at_148) (fun _ _ => ⟨rfl, rfl, (by decide : 14 + 0 ≤ _), (by decide : 51 + 0 ≤ _)⟩)
    dsimp only [Pt.U, Pt.locs, Pt.cells, Pt.slots] at X220 l220 y220 z220 st220 hQ220
    subst l220 y220 z220
    obtain ⟨rfl, N220q, Kq220, hA220⟩ := hQ220
    have N220 := Fr.app N218 N220q
    have O220 := O218.keep Kq220 (allS (P := fun x => n0 ≤ x) g_b204 (allS (P := fun x => n0 ≤ x) gded216 all0))
    have Z220 : n0 ≤ T220.heap.size := Nat.le_trans Z218 Kq220.1
    have pre221 : ∀ t, Steps p.tables e below (T220.setTop (mkF m 159 #[.val (.int p1), .val (.int p2), .val (.int p3), .val (.int p4), .val (.int p5), .val (.int p6), .val (.int m102), .val (.int m104), .val (.ref b105), .val (.ref b204), .unset, .unset, .unset] [(.int (p5 &&& (8 : Int32)))])) t → Steps p.tables e below (s₁.setTop (entryFrame m #[(.int p1), (.int p2), (.int p3), (.int p4), (.int p5), (.int p6)] maxLocals)) t := fun t kt => pre121 t (by
      show Steps _ _ _ (T120.setTop (mkF m 80 #[.val (.int p1), .val (.int p2), .val (.int p3), .val (.int p4), .val (.int p5), .val (.int p6), .val (.int m102), .val (.int m104), .val (.ref b105), .unset, .unset, .unset, .unset] [(.int (p5 &&& (4 : Int32)))])) _
      refine XS.ifNo X120.here hx rfl (hb hby at_80) rfl ((if0 _ _).trans (feq hc80_122).1) ?_
      refine XS.aload X120.here hx rfl (hb hby at_83) rfl rfl ?_
      refine XS.iload X120.here hx rfl (hb hby at_85) rfl ?_
      refine XS.bipush X120.here hx rfl (hb hby at_87) ?_
      show Steps _ _ _ (T120.setTop (mkF m 89 #[.val (.int p1), .val (.int p2), .val (.int p3), .val (.int p4), .val (.int p5), .val (.int p6), .val (.int m102), .val (.int m104), .val (.ref b105), .unset, .unset, .unset, .unset] [(.int (16 : Int32)), (.int p6), (.ref b105)])) _
      refine XS.iushr X120.here hx rfl (hb hby at_89) rfl ?_
      refine XS.sipush X120.here hx rfl (hb hby at_90) ?_
      refine XS.iand X120.here hx rfl (hb hby at_93) rfl ?_
      refine XS.i2c X120.here hx rfl (hb hby at_94) rfl ?_
      show Steps _ _ _ (T120.setTop (mkF m 95 #[.val (.int p1), .val (.int p2), .val (.int p3), .val (.int p4), .val (.int p5), .val (.int p6), .val (.int m102), .val (.int m104), .val (.ref b105), .unset, .unset, .unset, .unset] [(.int ((((p6.toUInt32 >>> ((16 : Int32) &&& 31).toUInt32).toInt32) &&& (255 : Int32)).toUInt32.toUInt16.toUInt32.toInt32)), (.ref b105)])) _
      refine st201 _ ?_
      refine st203.trans ?_
      refine XS.pop X203.here hx rfl (hb hby at_103) rfl rfl ?_
      refine st204 _ ?_
      show Steps _ _ _ (T204.setTop (mkF m 107 #[.val (.int p1), .val (.int p2), .val (.int p3), .val (.int p4), .val (.int p5), .val (.int p6), .val (.int m102), .val (.int m104), .val (.ref b105), .unset, .unset, .unset, .unset] [(.ref b204)])) _
      refine XS.dup X204.here hx rfl (hb hby at_107) rfl rfl ?_
      refine st207.trans ?_
      refine XS.astore X207.here hx rfl (hb hby at_111) rfl rfl (l' := #[.val (.int p1), .val (.int p2), .val (.int p3), .val (.int p4), .val (.int p5), .val (.int p6), .val (.int m102), .val (.int m104), .val (.ref b105), .val (.ref b204), .unset, .unset, .unset]) rfl ?_
      refine XS.aload X207.here hx rfl (hb hby at_113) rfl rfl ?_
      show Steps _ _ _ (T207.setTop (mkF m 115 #[.val (.int p1), .val (.int p2), .val (.int p3), .val (.int p4), .val (.int p5), .val (.int p6), .val (.int m102), .val (.int m104), .val (.ref b105), .val (.ref b204), .unset, .unset, .unset] [(.ref b204)])) _
      refine XS.iload X207.here hx rfl (hb hby at_115) rfl ?_
      refine XS.bipush X207.here hx rfl (hb hby at_117) ?_
      refine XS.iushr X207.here hx rfl (hb hby at_119) rfl ?_
      refine XS.sipush X207.here hx rfl (hb hby at_120) ?_
      show Steps _ _ _ (T207.setTop (mkF m 123 #[.val (.int p1), .val (.int p2), .val (.int p3), .val (.int p4), .val (.int p5), .val (.int p6), .val (.int m102), .val (.int m104), .val (.ref b105), .val (.ref b204), .unset, .unset, .unset] [(.int (255 : Int32)), (.int ((p6.toUInt32 >>> ((24 : Int32) &&& 31).toUInt32).toInt32)), (.ref b204)])) _
      refine XS.iand X207.here hx rfl (hb hby at_123) rfl ?_
      refine XS.i2c X207.here hx rfl (hb hby at_124) rfl ?_
      refine st209 _ ?_
      refine st216.trans ?_
      show Steps _ _ _ (T216.setTop (mkF m 133 #[.val (.int p1), .val (.int p2), .val (.int p3), .val (.int p4), .val (.int p5), .val (.int p6), .val (.int m102), .val (.int m104), .val (.ref b105), .val (.ref b204), .unset, .unset, .unset] [(.int (1 : Int32))])) _
      refine XS.pop X216.here hx rfl (hb hby at_133) rfl rfl ?_
      refine XS.aload X216.here hx rfl (hb hby at_134) rfl rfl ?_
      refine XS.iload X216.here hx rfl (hb hby at_136) rfl ?_
      refine XS.iconst X216.here hx rfl (hb hby at_138) ?_
      show Steps _ _ _ (T216.setTop (mkF m 139 #[.val (.int p1), .val (.int p2), .val (.int p3), .val (.int p4), .val (.int p5), .val (.int p6), .val (.int m102), .val (.int m104), .val (.ref b105), .val (.ref b204), .unset, .unset, .unset] [(.int (4 : Int32)), (.int p6), (.ref b204)])) _
      refine XS.iushr X216.here hx rfl (hb hby at_139) rfl ?_
      refine XS.sipush X216.here hx rfl (hb hby at_140) ?_
      refine XS.iand X216.here hx rfl (hb hby at_143) rfl ?_
      refine XS.i2c X216.here hx rfl (hb hby at_144) rfl ?_
      show Steps _ _ _ (T216.setTop (mkF m 145 #[.val (.int p1), .val (.int p2), .val (.int p3), .val (.int p4), .val (.int p5), .val (.int p6), .val (.int m102), .val (.int m104), .val (.ref b105), .val (.ref b204), .unset, .unset, .unset] [(.int ((((p6.toUInt32 >>> ((4 : Int32) &&& 31).toUInt32).toInt32) &&& (255 : Int32)).toUInt32.toUInt16.toUInt32.toInt32)), (.ref b204)])) _
      refine st218 _ ?_
      refine st220.trans ?_
      refine XS.pop X220.here hx rfl (hb hby at_153) rfl rfl ?_
      refine XS.iload X220.here hx rfl (hb hby at_154) rfl ?_
      show Steps _ _ _ (T220.setTop (mkF m 156 #[.val (.int p1), .val (.int p2), .val (.int p3), .val (.int p4), .val (.int p5), .val (.int p6), .val (.int m102), .val (.int m104), .val (.ref b105), .val (.ref b204), .unset, .unset, .unset] [(.int p5)])) _
      refine XS.bipush X220.here hx rfl (hb hby at_156) ?_
      refine XS.iand X220.here hx rfl (hb hby at_158) rfl ?_
      exact kt)
    by_cases hc159_222 : (p5 &&& (8 : Int32)) = (0 : Int32)
    · skip
      have ihc159_222 := (own_eq (b := (0 : Int32)) (k := 0) rfl).mp hc159_222
      obtain ⟨T223, h223, X223, e223, E223, A223, D223, -, st223⟩ := newO X220 hx hZ hown (own_w85 hw) (own_w86 hw) (own_w87 hw) rfl (g := (mkF m 183 #[.val (.int p1), .val (.int p2), .val (.int p3), .val (.int p4), .val (.int p5), .val (.int p6), .val (.int m102), .val (.int m104), .val (.ref b105), .val (.ref b204), .unset, .unset, .unset] [])) rfl (hb hby at_183) (by decide) (by decide)
      obtain ⟨b223, g223⟩ : ∃ z, z = T220.heap.size := ⟨_, rfl⟩
      rw [← g223] at A223 D223 st223
      have c224 := ((((((c205.ext E204).keep Kq207).keep Kq209).keep Kq216).keep Kq218).keep Kq220)
      have ne_b105_b223 : b105 ≠ b223 := Nat.ne_of_lt (Nat.lt_of_lt_of_le c224.lt (Nat.le_of_eq g223.symm))
      have c225 := (((c210.keep Kq216).keep Kq218).keep Kq220)
      have ne_b204_b223 : b204 ≠ b223 := Nat.ne_of_lt (Nat.lt_of_lt_of_le c225.lt (Nat.le_of_eq g223.symm))
      have g_b223 : n0 ≤ b223 := Nat.le_trans Z220 (Nat.le_of_eq g223.symm)
      have O223 := O220.ext E223
      have Z223 : n0 ≤ h223.size := Nat.le_trans Z220 E223.1
      have F223_98 : Fld Z h223 b223 "com/example/arpent/arpent/geom/Point" "coordinates" "Ljava/util/List;" .null := D223 (Or.inr (own_w98 hw)) (ty := (.object "java/util/List")) (by decide)
      have F223_100 : Fld Z h223 b223 "com/example/arpent/arpent/geom/Point" "x" "D" (.double (FP.l2d 0)) := (D223 (Or.inr (own_w100 hw)) (ty := .double) (by decide) : Fld Z h223 b223 "com/example/arpent/arpent/geom/Point" "x" "D" (.double 0)).zeroD
      have F223_102 : Fld Z h223 b223 "com/example/arpent/arpent/geom/Point" "y" "D" (.double (FP.l2d 0)) := (D223 (Or.inr (own_w102 hw)) (ty := .double) (by decide) : Fld Z h223 b223 "com/example/arpent/arpent/geom/Point" "y" "D" (.double 0)).zeroD
      obtain ⟨_, _, ⟨T226, L226, k226, n226⟩, -, X226, ⟨Lc226, hQ226, l226, y226, z226⟩, st226⟩ := X223.specialBack hx (y := own_m13) rfl hown (mvT hZ (own_w88 hw)) (mvT hZ (own_w89 hw)) (mvT hZ (own_w90 hw)) (by decide) (backOf (W := 1) (own_pi l Z a0 hw [] b223 b105 (FP.i2d p1) (FP.i2d p2) h223 n0 Z223 g_b223 A223 F223_98 F223_100 F223_102) hZ (own_w90 hw) (own_w87 hw) (by decide) (by decide)) (g := (mkF m 193 #[.val (.int p1), .val (.int p2), .val (.int p3), .val (.int p4), .val (.int p5), .val (.int p6), .val (.int m102), .val (.int m104), .val (.ref b105), .val (.ref b204), .unset, .unset, .unset] [(.double (FP.i2d p2)), (.double (FP.i2d p1)), (.ref b105), (.ref b223), (.ref b223)])) rfl (by rw [hml]; rfl) (Steps.refl _) (a := b223) (argsL := [(.ref b105), (.double (FP.i2d p1)), (.double (FP.i2d p2))]) (rest := [(.ref b223)]) (lenOf own_pd10 rfl) rfl (by show 2 * 0 + _ ≤ _; exact Nat.le_of_eq rfl) (hb hby at_193) (fun _ _ => ⟨rfl, e223, (by decide : 15 + 0 ≤ _), (by decide : 54 + 0 ≤ _)⟩)
      dsimp only [Pt.U, Pt.locs, Pt.cells, Pt.slots] at X226 l226 y226 z226 st226 hQ226
      subst l226 y226 z226
      obtain ⟨rfl, N226q, Kq226, Eq226, Fx226, Fy226⟩ := hQ226
      have N226 := Fr.app N220 N226q
      have O226 := O223.keep Kq226 (allS (P := fun x => n0 ≤ x) g_b223 all0)
      have Z226 : n0 ≤ T226.heap.size := Nat.le_trans Z223 Kq226.1
      obtain ⟨T227, h227, X227, e227, E227, A227, D227, -, st227⟩ := newO X226 hx hZ hown (own_w85 hw) (own_w86 hw) (own_w87 hw) rfl (g := (mkF m 198 #[.val (.int p1), .val (.int p2), .val (.int p3), .val (.int p4), .val (.int p5), .val (.int p6), .val (.int m102), .val (.int m104), .val (.ref b105), .val (.ref b204), .val (.ref b223), .unset, .unset] [])) rfl (hb hby at_198) (by decide) (by decide)
      obtain ⟨b227, g227⟩ : ∃ z, z = T226.heap.size := ⟨_, rfl⟩
      rw [← g227] at A227 D227 st227
      have c228 := ((c224.ext E223).keep Kq226)
      have ne_b105_b227 : b105 ≠ b227 := Nat.ne_of_lt (Nat.lt_of_lt_of_le c228.lt (Nat.le_of_eq g227.symm))
      have c229 := ((c225.ext E223).keep Kq226)
      have ne_b204_b227 : b204 ≠ b227 := Nat.ne_of_lt (Nat.lt_of_lt_of_le c229.lt (Nat.le_of_eq g227.symm))
      have ne_b223_b227 : b223 ≠ b227 := Nat.ne_of_lt (Nat.lt_of_lt_of_le Eq226.lt (Nat.le_of_eq g227.symm))
      have g_b227 : n0 ≤ b227 := Nat.le_trans Z226 (Nat.le_of_eq g227.symm)
      have O227 := O226.ext E227
      have Z227 : n0 ≤ h227.size := Nat.le_trans Z226 E227.1
      have F227_98 : Fld Z h227 b227 "com/example/arpent/arpent/geom/Point" "coordinates" "Ljava/util/List;" .null := D227 (Or.inr (own_w98 hw)) (ty := (.object "java/util/List")) (by decide)
      have F227_100 : Fld Z h227 b227 "com/example/arpent/arpent/geom/Point" "x" "D" (.double (FP.l2d 0)) := (D227 (Or.inr (own_w100 hw)) (ty := .double) (by decide) : Fld Z h227 b227 "com/example/arpent/arpent/geom/Point" "x" "D" (.double 0)).zeroD
      have F227_102 : Fld Z h227 b227 "com/example/arpent/arpent/geom/Point" "y" "D" (.double (FP.l2d 0)) := (D227 (Or.inr (own_w102 hw)) (ty := .double) (by decide) : Fld Z h227 b227 "com/example/arpent/arpent/geom/Point" "y" "D" (.double 0)).zeroD
      obtain ⟨_, _, ⟨T230, L230, k230, n230⟩, -, X230, ⟨Lc230, hQ230, l230, y230, z230⟩, st230⟩ := X227.specialBack hx (y := own_m13) rfl hown (mvT hZ (own_w88 hw)) (mvT hZ (own_w89 hw)) (mvT hZ (own_w90 hw)) (by decide) (backOf (W := 1) (own_pi l Z a0 hw [] b227 b204 (FP.i2d m102) (FP.i2d m104) h227 n0 Z227 g_b227 A227 F227_98 F227_100 F227_102) hZ (own_w90 hw) (own_w87 hw) (by decide) (by decide)) (g := (mkF m 210 #[.val (.int p1), .val (.int p2), .val (.int p3), .val (.int p4), .val (.int p5), .val (.int p6), .val (.int m102), .val (.int m104), .val (.ref b105), .val (.ref b204), .val (.ref b223), .unset, .unset] [(.double (FP.i2d m104)), (.double (FP.i2d m102)), (.ref b204), (.ref b227), (.ref b227)])) rfl (by rw [hml]; rfl) (Steps.refl _) (a := b227) (argsL := [(.ref b204), (.double (FP.i2d m102)), (.double (FP.i2d m104))]) (rest := [(.ref b227)]) (lenOf own_pd10 rfl) rfl (by show 2 * 0 + _ ≤ _; exact Nat.le_of_eq rfl) (hb hby at_210) (fun _ _ => ⟨rfl, e227, (by decide : 16 + 0 ≤ _), (by decide : 57 + 0 ≤ _)⟩)
      dsimp only [Pt.U, Pt.locs, Pt.cells, Pt.slots] at X230 l230 y230 z230 st230 hQ230
      subst l230 y230 z230
      obtain ⟨rfl, N230q, Kq230, Eq230, Fx230, Fy230⟩ := hQ230
      have N230 := Fr.app N226 N230q
      have O230 := O227.keep Kq230 (allS (P := fun x => n0 ≤ x) g_b227 all0)
      have Z230 : n0 ≤ T230.heap.size := Nat.le_trans Z227 Kq230.1
      have pre231 : ∀ t, Steps p.tables e below (T230.setTop (mkF m 218 #[.val (.int p1), .val (.int p2), .val (.int p3), .val (.int p4), .val (.int p5), .val (.int p6), .val (.int m102), .val (.int m104), .val (.ref b105), .val (.ref b204), .val (.ref b223), .val (.ref b227), .unset] [(.int m102), (.int p1)])) t → Steps p.tables e below (s₁.setTop (entryFrame m #[(.int p1), (.int p2), (.int p3), (.int p4), (.int p5), (.int p6)] maxLocals)) t := fun t kt => pre221 t (by
        show Steps _ _ _ (T220.setTop (mkF m 159 #[.val (.int p1), .val (.int p2), .val (.int p3), .val (.int p4), .val (.int p5), .val (.int p6), .val (.int m102), .val (.int m104), .val (.ref b105), .val (.ref b204), .unset, .unset, .unset] [(.int (p5 &&& (8 : Int32)))])) _
        refine XS.ifYes X220.here hx rfl (pc0 := 159) (pc' := 183) rfl (hb hby at_159) rfl ((if0 _ _).trans (teq hc159_222).1) (by decide) (by decide) ?_
        refine st223 _ ?_
        refine XS.dup X223.here hx rfl (hb hby at_186) rfl rfl ?_
        refine XS.aload X223.here hx rfl (hb hby at_187) rfl rfl ?_
        show Steps _ _ _ (T223.setTop (mkF m 189 #[.val (.int p1), .val (.int p2), .val (.int p3), .val (.int p4), .val (.int p5), .val (.int p6), .val (.int m102), .val (.int m104), .val (.ref b105), .val (.ref b204), .unset, .unset, .unset] [(.ref b105), (.ref b223), (.ref b223)])) _
        refine XS.iloadN X223.here hx rfl (hb hby at_189) rfl ?_
        refine XS.i2dS X223.here hx rfl (hb hby at_190) rfl rfl ?_
        refine XS.iloadN X223.here hx rfl (hb hby at_191) rfl ?_
        refine XS.i2dS X223.here hx rfl (hb hby at_192) rfl rfl ?_
        show Steps _ _ _ (T223.setTop (mkF m 193 #[.val (.int p1), .val (.int p2), .val (.int p3), .val (.int p4), .val (.int p5), .val (.int p6), .val (.int m102), .val (.int m104), .val (.ref b105), .val (.ref b204), .unset, .unset, .unset] [(.double (FP.i2d p2)), (.double (FP.i2d p1)), (.ref b105), (.ref b223), (.ref b223)])) _
        refine st226.trans ?_
        refine XS.astore X226.here hx rfl (hb hby at_196) rfl rfl (l' := #[.val (.int p1), .val (.int p2), .val (.int p3), .val (.int p4), .val (.int p5), .val (.int p6), .val (.int m102), .val (.int m104), .val (.ref b105), .val (.ref b204), .val (.ref b223), .unset, .unset]) rfl ?_
        refine st227 _ ?_
        refine XS.dup X227.here hx rfl (hb hby at_201) rfl rfl ?_
        show Steps _ _ _ (T227.setTop (mkF m 202 #[.val (.int p1), .val (.int p2), .val (.int p3), .val (.int p4), .val (.int p5), .val (.int p6), .val (.int m102), .val (.int m104), .val (.ref b105), .val (.ref b204), .val (.ref b223), .unset, .unset] [(.ref b227), (.ref b227)])) _
        refine XS.aload X227.here hx rfl (hb hby at_202) rfl rfl ?_
        refine XS.iload X227.here hx rfl (hb hby at_204) rfl ?_
        refine XS.i2dS X227.here hx rfl (hb hby at_206) rfl rfl ?_
        refine XS.iload X227.here hx rfl (hb hby at_207) rfl ?_
        show Steps _ _ _ (T227.setTop (mkF m 209 #[.val (.int p1), .val (.int p2), .val (.int p3), .val (.int p4), .val (.int p5), .val (.int p6), .val (.int m102), .val (.int m104), .val (.ref b105), .val (.ref b204), .val (.ref b223), .unset, .unset] [(.int m104), (.double (FP.i2d m102)), (.ref b204), (.ref b227), (.ref b227)])) _
        refine XS.i2dS X227.here hx rfl (hb hby at_209) rfl rfl ?_
        refine st230.trans ?_
        refine XS.astore X230.here hx rfl (hb hby at_213) rfl rfl (l' := #[.val (.int p1), .val (.int p2), .val (.int p3), .val (.int p4), .val (.int p5), .val (.int p6), .val (.int m102), .val (.int m104), .val (.ref b105), .val (.ref b204), .val (.ref b223), .val (.ref b227), .unset]) rfl ?_
        refine XS.iloadN X230.here hx rfl (hb hby at_215) rfl ?_
        show Steps _ _ _ (T230.setTop (mkF m 216 #[.val (.int p1), .val (.int p2), .val (.int p3), .val (.int p4), .val (.int p5), .val (.int p6), .val (.int m102), .val (.int m104), .val (.ref b105), .val (.ref b204), .val (.ref b223), .val (.ref b227), .unset] [(.int p1)])) _
        refine XS.iload X230.here hx rfl (hb hby at_216) rfl ?_
        exact kt)
      by_cases hc218_232 : p1 = m102
      · skip
        have pre233 : ∀ t, Steps p.tables e below (T230.setTop (mkF m 224 #[.val (.int p1), .val (.int p2), .val (.int p3), .val (.int p4), .val (.int p5), .val (.int p6), .val (.int m102), .val (.int m104), .val (.ref b105), .val (.ref b204), .val (.ref b223), .val (.ref b227), .unset] [(.int m104), (.int p2)])) t → Steps p.tables e below (s₁.setTop (entryFrame m #[(.int p1), (.int p2), (.int p3), (.int p4), (.int p5), (.int p6)] maxLocals)) t := fun t kt => pre231 t (by
          show Steps _ _ _ (T230.setTop (mkF m 218 #[.val (.int p1), .val (.int p2), .val (.int p3), .val (.int p4), .val (.int p5), .val (.int p6), .val (.int m102), .val (.int m104), .val (.ref b105), .val (.ref b204), .val (.ref b223), .val (.ref b227), .unset] [(.int m102), (.int p1)])) _
          refine XS.icmpNo X230.here hx rfl (hb hby at_218) rfl (teq hc218_232).2 ?_
          refine XS.iloadN X230.here hx rfl (hb hby at_221) rfl ?_
          refine XS.iload X230.here hx rfl (hb hby at_222) rfl ?_
          exact kt)
        by_cases hc224_234 : p2 = m104
        · skip
          have c235 := ((Fx226.ext E227).keep Kq230 (ninS ne_b223_b227 nin0))
          have c236 := ((Fy226.ext E227).keep Kq230 (ninS ne_b223_b227 nin0))
          have c237 := ((Eq226.ext E227).keep Kq230)
          obtain ⟨cq238, kq238, q238a, q238b, q238c⟩ := isOf hZ rfl c237
          obtain ⟨_, _, ⟨T238, L238, k238, n238⟩, -, X238, ⟨Lc238, hQ238, l238, y238, z238⟩, st238⟩ := X230.virtualBack hx (y := own_m14) (z := own_m14) hown (mvT hZ (own_w103 hw)) (mvT hZ (own_w104 hw)) (notFace_of_selects (args := #[]) (mvT hZ (own_w106 hw))) (mvT hZ (own_w106 hw)) (mvT hZ (own_w105 hw)) (by decide) (backOf (W := 0) (own_sp l Z a0 hw [] b223 b227 p1 p2 m102 m104 T230.heap n0 Z230 c235 c236 Fx230 Fy230) hZ (own_w107 hw) (own_w87 hw) (by decide) (by decide)) q238a q238c (g := (mkF m 238 #[.val (.int p1), .val (.int p2), .val (.int p3), .val (.int p4), .val (.int p5), .val (.int p6), .val (.int m102), .val (.int m104), .val (.ref b105), .val (.ref b204), .val (.ref b223), .val (.ref b227), .val (.int (1 : Int32))] [(.ref b227), (.ref b223)])) rfl (by rw [hml]; rfl) (Steps.refl _) (argsL := [(.ref b227)]) (rest := []) (lenOf own_pd11 rfl) rfl (by show 2 * 0 + _ ≤ _; exact Nat.le_of_eq rfl) (hb hby at_238) (fun _ _ => ⟨rfl, rfl, (by decide : 16 + 0 ≤ _), (by decide : 57 + 0 ≤ _)⟩)
          dsimp only [Pt.U, Pt.locs, Pt.cells, Pt.slots] at X238 l238 y238 z238 st238 hQ238
          subst l238 y238 z238
          obtain ⟨rfl, N238q, e238⟩ := hQ238
          have N238 := Fr.app N230 N238q
          obtain ⟨cq239, kq239, q239a, q239b, q239c⟩ := isOf hZ e238 Eq230
          obtain ⟨_, _, ⟨T239, L239, k239, n239⟩, -, X239, ⟨Lc239, hQ239, l239, y239, z239⟩, st239⟩ := X238.virtualBack hx (y := own_m14) (z := own_m14) hown (mvT hZ (own_w103 hw)) (mvT hZ (own_w104 hw)) (notFace_of_selects (args := #[]) (mvT hZ (own_w106 hw))) (mvT hZ (own_w106 hw)) (mvT hZ (own_w105 hw)) (by decide) (backOf (W := 0) (own_sp l Z a0 hw [] b227 b223 m102 m104 p1 p2 T230.heap n0 Z230 Fx230 Fy230 c235 c236) hZ (own_w107 hw) (own_w87 hw) (by decide) (by decide)) q239a q239c (g := (mkF m 250 #[.val (.int p1), .val (.int p2), .val (.int p3), .val (.int p4), .val (.int p5), .val (.int p6), .val (.int m102), .val (.int m104), .val (.ref b105), .val (.ref b204), .val (.ref b223), .val (.ref b227), .val (.int (1 : Int32))] [(.ref b223), (.ref b227)])) rfl (by rw [hml]; rfl) (Steps.refl _) (argsL := [(.ref b223)]) (rest := []) (lenOf own_pd11 rfl) rfl (by show 2 * 0 + _ ≤ _; exact Nat.le_of_eq rfl) (hb hby at_250) (fun _ _ => ⟨rfl, e238, (by decide : 16 + 0 ≤ _), (by decide : 57 + 0 ≤ _)⟩)
          dsimp only [Pt.U, Pt.locs, Pt.cells, Pt.slots] at X239 l239 y239 z239 st239 hQ239
          subst l239 y239 z239
          obtain ⟨rfl, N239q, e239⟩ := hQ239
          have N239 := Fr.app N238 N239q
          obtain ⟨fs, hr, hrun, hended, hW, hsame⟩ := X239.leave (v := some (.int (1 : Int32))) (fun h => by rw [Bd.returns] at h; cases h)
          refine ⟨_, _, pre233 _ ?_, hrun, hended, _, _, rfl, ?_, ⟨_, rfl⟩, hW, hsame.mono (by decide) (by decide)⟩
          · show Steps _ _ _ (T230.setTop (mkF m 224 #[.val (.int p1), .val (.int p2), .val (.int p3), .val (.int p4), .val (.int p5), .val (.int p6), .val (.int m102), .val (.int m104), .val (.ref b105), .val (.ref b204), .val (.ref b223), .val (.ref b227), .unset] [(.int m104), (.int p2)])) _
            refine XS.icmpNo X230.here hx rfl (hb hby at_224) rfl (teq hc224_234).2 ?_
            refine XS.iconst X230.here hx rfl (hb hby at_227) ?_
            refine XS.goto X230.here hx rfl (pc0 := 228) (pc' := 232) rfl (hb hby at_228) (by decide) (by decide) ?_
            refine XS.istore X230.here hx rfl (hb hby at_232) rfl (l' := #[.val (.int p1), .val (.int p2), .val (.int p3), .val (.int p4), .val (.int p5), .val (.int p6), .val (.int m102), .val (.int m104), .val (.ref b105), .val (.ref b204), .val (.ref b223), .val (.ref b227), .val (.int (1 : Int32))]) rfl ?_
            show Steps _ _ _ (T230.setTop (mkF m 234 #[.val (.int p1), .val (.int p2), .val (.int p3), .val (.int p4), .val (.int p5), .val (.int p6), .val (.int m102), .val (.int m104), .val (.ref b105), .val (.ref b204), .val (.ref b223), .val (.ref b227), .val (.int (1 : Int32))] [])) _
            refine XS.aload X230.here hx rfl (hb hby at_234) rfl rfl ?_
            refine XS.aload X230.here hx rfl (hb hby at_236) rfl rfl ?_
            refine st238.trans ?_
            refine XS.iload X238.here hx rfl (hb hby at_241) rfl ?_
            show Steps _ _ _ (T238.setTop (mkF m 243 #[.val (.int p1), .val (.int p2), .val (.int p3), .val (.int p4), .val (.int p5), .val (.int p6), .val (.int m102), .val (.int m104), .val (.ref b105), .val (.ref b204), .val (.ref b223), .val (.ref b227), .val (.int (1 : Int32))] [(.int (1 : Int32)), (.int (own_s p1 p2 m102 m104))])) _
            refine XS.icmpNo X238.here hx rfl (hb hby at_243) rfl (teq (by unfold own_s; exact if_pos ⟨hc218_232, hc224_234⟩)).2 ?_
            refine XS.aload X238.here hx rfl (hb hby at_246) rfl rfl ?_
            refine XS.aload X238.here hx rfl (hb hby at_248) rfl rfl ?_
            refine st239.trans ?_
            show Steps _ _ _ (T239.setTop (mkF m 253 #[.val (.int p1), .val (.int p2), .val (.int p3), .val (.int p4), .val (.int p5), .val (.int p6), .val (.int m102), .val (.int m104), .val (.ref b105), .val (.ref b204), .val (.ref b223), .val (.ref b227), .val (.int (1 : Int32))] [(.int (own_s m102 m104 p1 p2))])) _
            refine XS.iload X239.here hx rfl (hb hby at_253) rfl ?_
            refine XS.icmpNo X239.here hx rfl (hb hby at_255) rfl (teq (by unfold own_s; exact if_pos ⟨hc218_232.symm, hc224_234.symm⟩)).2 ?_
            refine XS.iconst X239.here hx rfl (hb hby at_258) ?_
            refine XS.goto X239.here hx rfl (pc0 := 259) (pc' := 263) rfl (hb hby at_259) (by decide) (by decide) ?_
            show Steps _ _ _ (T239.setTop (mkF m 263 #[.val (.int p1), .val (.int p2), .val (.int p3), .val (.int p4), .val (.int p5), .val (.int p6), .val (.int m102), .val (.int m104), .val (.ref b105), .val (.ref b204), .val (.ref b223), .val (.ref b227), .val (.int (1 : Int32))] [(.int (1 : Int32))])) _
            exact retN X239 hx (t := .boolean) Bd.returns (by simp) (hb hby at_263) hr
          · show Qown_law Z p1 p2 p3 p4 p5 p6 da kd cs h0 n0 _ T239.heap _
            rw [e239]
            exact ⟨rfl, N239⟩
        · skip
          have c240 := ((Fx226.ext E227).keep Kq230 (ninS ne_b223_b227 nin0))
          have c241 := ((Fy226.ext E227).keep Kq230 (ninS ne_b223_b227 nin0))
          have c242 := ((Eq226.ext E227).keep Kq230)
          obtain ⟨cq243, kq243, q243a, q243b, q243c⟩ := isOf hZ rfl c242
          obtain ⟨_, _, ⟨T243, L243, k243, n243⟩, -, X243, ⟨Lc243, hQ243, l243, y243, z243⟩, st243⟩ := X230.virtualBack hx (y := own_m14) (z := own_m14) hown (mvT hZ (own_w103 hw)) (mvT hZ (own_w104 hw)) (notFace_of_selects (args := #[]) (mvT hZ (own_w106 hw))) (mvT hZ (own_w106 hw)) (mvT hZ (own_w105 hw)) (by decide) (backOf (W := 0) (own_sp l Z a0 hw [] b223 b227 p1 p2 m102 m104 T230.heap n0 Z230 c240 c241 Fx230 Fy230) hZ (own_w107 hw) (own_w87 hw) (by decide) (by decide)) q243a q243c (g := (mkF m 238 #[.val (.int p1), .val (.int p2), .val (.int p3), .val (.int p4), .val (.int p5), .val (.int p6), .val (.int m102), .val (.int m104), .val (.ref b105), .val (.ref b204), .val (.ref b223), .val (.ref b227), .val (.int (0 : Int32))] [(.ref b227), (.ref b223)])) rfl (by rw [hml]; rfl) (Steps.refl _) (argsL := [(.ref b227)]) (rest := []) (lenOf own_pd11 rfl) rfl (by show 2 * 0 + _ ≤ _; exact Nat.le_of_eq rfl) (hb hby at_238) (fun _ _ => ⟨rfl, rfl, (by decide : 16 + 0 ≤ _), (by decide : 57 + 0 ≤ _)⟩)
          dsimp only [Pt.U, Pt.locs, Pt.cells, Pt.slots] at X243 l243 y243 z243 st243 hQ243
          subst l243 y243 z243
          obtain ⟨rfl, N243q, e243⟩ := hQ243
          have N243 := Fr.app N230 N243q
          obtain ⟨cq244, kq244, q244a, q244b, q244c⟩ := isOf hZ e243 Eq230
          obtain ⟨_, _, ⟨T244, L244, k244, n244⟩, -, X244, ⟨Lc244, hQ244, l244, y244, z244⟩, st244⟩ := X243.virtualBack hx (y := own_m14) (z := own_m14) hown (mvT hZ (own_w103 hw)) (mvT hZ (own_w104 hw)) (notFace_of_selects (args := #[]) (mvT hZ (own_w106 hw))) (mvT hZ (own_w106 hw)) (mvT hZ (own_w105 hw)) (by decide) (backOf (W := 0) (own_sp l Z a0 hw [] b227 b223 m102 m104 p1 p2 T230.heap n0 Z230 Fx230 Fy230 c240 c241) hZ (own_w107 hw) (own_w87 hw) (by decide) (by decide)) q244a q244c (g := (mkF m 250 #[.val (.int p1), .val (.int p2), .val (.int p3), .val (.int p4), .val (.int p5), .val (.int p6), .val (.int m102), .val (.int m104), .val (.ref b105), .val (.ref b204), .val (.ref b223), .val (.ref b227), .val (.int (0 : Int32))] [(.ref b223), (.ref b227)])) rfl (by rw [hml]; rfl) (Steps.refl _) (argsL := [(.ref b223)]) (rest := []) (lenOf own_pd11 rfl) rfl (by show 2 * 0 + _ ≤ _; exact Nat.le_of_eq rfl) (hb hby at_250) (fun _ _ => ⟨rfl, e243, (by decide : 16 + 0 ≤ _), (by decide : 57 + 0 ≤ _)⟩)
          dsimp only [Pt.U, Pt.locs, Pt.cells, Pt.slots] at X244 l244 y244 z244 st244 hQ244
          subst l244 y244 z244
          obtain ⟨rfl, N244q, e244⟩ := hQ244
          have N244 := Fr.app N243 N244q
          obtain ⟨fs, hr, hrun, hended, hW, hsame⟩ := X244.leave (v := some (.int (1 : Int32))) (fun h => by rw [Bd.returns] at h; cases h)
          refine ⟨_, _, pre233 _ ?_, hrun, hended, _, _, rfl, ?_, ⟨_, rfl⟩, hW, hsame.mono (by decide) (by decide)⟩
          · show Steps _ _ _ (T230.setTop (mkF m 224 #[.val (.int p1), .val (.int p2), .val (.int p3), .val (.int p4), .val (.int p5), .val (.int p6), .val (.int m102), .val (.int m104), .val (.ref b105), .val (.ref b204), .val (.ref b223), .val (.ref b227), .unset] [(.int m104), (.int p2)])) _
            refine XS.icmpYes X230.here hx rfl (pc0 := 224) (pc' := 231) rfl (hb hby at_224) rfl (feq hc224_234).2 (by decide) (by decide) ?_
            refine XS.iconst X230.here hx rfl (hb hby at_231) ?_
            refine XS.istore X230.here hx rfl (hb hby at_232) rfl (l' := #[.val (.int p1), .val (.int p2), .val (.int p3), .val (.int p4), .val (.int p5), .val (.int p6), .val (.int m102), .val (.int m104), .val (.ref b105), .val (.ref b204), .val (.ref b223), .val (.ref b227), .val (.int (0 : Int32))]) rfl ?_
            refine XS.aload X230.here hx rfl (hb hby at_234) rfl rfl ?_
            show Steps _ _ _ (T230.setTop (mkF m 236 #[.val (.int p1), .val (.int p2), .val (.int p3), .val (.int p4), .val (.int p5), .val (.int p6), .val (.int m102), .val (.int m104), .val (.ref b105), .val (.ref b204), .val (.ref b223), .val (.ref b227), .val (.int (0 : Int32))] [(.ref b223)])) _
            refine XS.aload X230.here hx rfl (hb hby at_236) rfl rfl ?_
            refine st243.trans ?_
            refine XS.iload X243.here hx rfl (hb hby at_241) rfl ?_
            refine XS.icmpNo X243.here hx rfl (hb hby at_243) rfl (teq (by unfold own_s; exact if_neg (fun r => hc224_234 r.2))).2 ?_
            show Steps _ _ _ (T243.setTop (mkF m 246 #[.val (.int p1), .val (.int p2), .val (.int p3), .val (.int p4), .val (.int p5), .val (.int p6), .val (.int m102), .val (.int m104), .val (.ref b105), .val (.ref b204), .val (.ref b223), .val (.ref b227), .val (.int (0 : Int32))] [])) _
            refine XS.aload X243.here hx rfl (hb hby at_246) rfl rfl ?_
            refine XS.aload X243.here hx rfl (hb hby at_248) rfl rfl ?_
            refine st244.trans ?_
            refine XS.iload X244.here hx rfl (hb hby at_253) rfl ?_
            show Steps _ _ _ (T244.setTop (mkF m 255 #[.val (.int p1), .val (.int p2), .val (.int p3), .val (.int p4), .val (.int p5), .val (.int p6), .val (.int m102), .val (.int m104), .val (.ref b105), .val (.ref b204), .val (.ref b223), .val (.ref b227), .val (.int (0 : Int32))] [(.int (0 : Int32)), (.int (own_s m102 m104 p1 p2))])) _
            refine XS.icmpNo X244.here hx rfl (hb hby at_255) rfl (teq (by unfold own_s; exact if_neg (fun r => hc224_234 r.2.symm))).2 ?_
            refine XS.iconst X244.here hx rfl (hb hby at_258) ?_
            refine XS.goto X244.here hx rfl (pc0 := 259) (pc' := 263) rfl (hb hby at_259) (by decide) (by decide) ?_
            show Steps _ _ _ (T244.setTop (mkF m 263 #[.val (.int p1), .val (.int p2), .val (.int p3), .val (.int p4), .val (.int p5), .val (.int p6), .val (.int m102), .val (.int m104), .val (.ref b105), .val (.ref b204), .val (.ref b223), .val (.ref b227), .val (.int (0 : Int32))] [(.int (1 : Int32))])) _
            exact retN X244 hx (t := .boolean) Bd.returns (by simp) (hb hby at_263) hr
          · show Qown_law Z p1 p2 p3 p4 p5 p6 da kd cs h0 n0 _ T244.heap _
            rw [e244]
            exact ⟨rfl, N244⟩
      · skip
        have c245 := ((Fx226.ext E227).keep Kq230 (ninS ne_b223_b227 nin0))
        have c246 := ((Fy226.ext E227).keep Kq230 (ninS ne_b223_b227 nin0))
        have c247 := ((Eq226.ext E227).keep Kq230)
        obtain ⟨cq248, kq248, q248a, q248b, q248c⟩ := isOf hZ rfl c247
        obtain ⟨_, _, ⟨T248, L248, k248, n248⟩, -, X248, ⟨Lc248, hQ248, l248, y248, z248⟩, st248⟩ := X230.virtualBack hx (y := own_m14) (z := own_m14) hown (mvT hZ (own_w103 hw)) (mvT hZ (own_w104 hw)) (notFace_of_selects (args := #[]) (mvT hZ (own_w106 hw))) (mvT hZ (own_w106 hw)) (mvT hZ (own_w105 hw)) (by decide) (backOf (W := 0) (own_sp l Z a0 hw [] b223 b227 p1 p2 m102 m104 T230.heap n0 Z230 c245 c246 Fx230 Fy230) hZ (own_w107 hw) (own_w87 hw) (by decide) (by decide)) q248a q248c (g := (mkF m 238 #[.val (.int p1), .val (.int p2), .val (.int p3), .val (.int p4), .val (.int p5), .val (.int p6), .val (.int m102), .val (.int m104), .val (.ref b105), .val (.ref b204), .val (.ref b223), .val (.ref b227), .val (.int (0 : Int32))] [(.ref b227), (.ref b223)])) rfl (by rw [hml]; rfl) (Steps.refl _) (argsL := [(.ref b227)]) (rest := []) (lenOf own_pd11 rfl) rfl (by show 2 * 0 + _ ≤ _; exact Nat.le_of_eq rfl) (hb hby at_238) (fun _ _ => ⟨rfl, rfl, (by decide : 16 + 0 ≤ _), (by decide : 57 + 0 ≤ _)⟩)
        dsimp only [Pt.U, Pt.locs, Pt.cells, Pt.slots] at X248 l248 y248 z248 st248 hQ248
        subst l248 y248 z248
        obtain ⟨rfl, N248q, e248⟩ := hQ248
        have N248 := Fr.app N230 N248q
        obtain ⟨cq249, kq249, q249a, q249b, q249c⟩ := isOf hZ e248 Eq230
        obtain ⟨_, _, ⟨T249, L249, k249, n249⟩, -, X249, ⟨Lc249, hQ249, l249, y249, z249⟩, st249⟩ := X248.virtualBack hx (y := own_m14) (z := own_m14) hown (mvT hZ (own_w103 hw)) (mvT hZ (own_w104 hw)) (notFace_of_selects (args := #[]) (mvT hZ (own_w106 hw))) (mvT hZ (own_w106 hw)) (mvT hZ (own_w105 hw)) (by decide) (backOf (W := 0) (own_sp l Z a0 hw [] b227 b223 m102 m104 p1 p2 T230.heap n0 Z230 Fx230 Fy230 c245 c246) hZ (own_w107 hw) (own_w87 hw) (by decide) (by decide)) q249a q249c (g := (mkF m 250 #[.val (.int p1), .val (.int p2), .val (.int p3), .val (.int p4), .val (.int p5), .val (.int p6), .val (.int m102), .val (.int m104), .val (.ref b105), .val (.ref b204), .val (.ref b223), .val (.ref b227), .val (.int (0 : Int32))] [(.ref b223), (.ref b227)])) rfl (by rw [hml]; rfl) (Steps.refl _) (argsL := [(.ref b223)]) (rest := []) (lenOf own_pd11 rfl) rfl (by show 2 * 0 + _ ≤ _; exact Nat.le_of_eq rfl) (hb hby at_250) (fun _ _ => ⟨rfl, e248, (by decide : 16 + 0 ≤ _), (by decide : 57 + 0 ≤ _)⟩)
        dsimp only [Pt.U, Pt.locs, Pt.cells, Pt.slots] at X249 l249 y249 z249 st249 hQ249
        subst l249 y249 z249
        obtain ⟨rfl, N249q, e249⟩ := hQ249
        have N249 := Fr.app N248 N249q
        obtain ⟨fs, hr, hrun, hended, hW, hsame⟩ := X249.leave (v := some (.int (1 : Int32))) (fun h => by rw [Bd.returns] at h; cases h)
        refine ⟨_, _, pre231 _ ?_, hrun, hended, _, _, rfl, ?_, ⟨_, rfl⟩, hW, hsame.mono (by decide) (by decide)⟩
        · show Steps _ _ _ (T230.setTop (mkF m 218 #[.val (.int p1), .val (.int p2), .val (.int p3), .val (.int p4), .val (.int p5), .val (.int p6), .val (.int m102), .val (.int m104), .val (.ref b105), .val (.ref b204), .val (.ref b223), .val (.ref b227), .unset] [(.int m102), (.int p1)])) _
          refine XS.icmpYes X230.here hx rfl (pc0 := 218) (pc' := 231) rfl (hb hby at_218) rfl (feq hc218_232).2 (by decide) (by decide) ?_
          refine XS.iconst X230.here hx rfl (hb hby at_231) ?_
          refine XS.istore X230.here hx rfl (hb hby at_232) rfl (l' := #[.val (.int p1), .val (.int p2), .val (.int p3), .val (.int p4), .val (.int p5), .val (.int p6), .val (.int m102), .val (.int m104), .val (.ref b105), .val (.ref b204), .val (.ref b223), .val (.ref b227), .val (.int (0 : Int32))]) rfl ?_
          refine XS.aload X230.here hx rfl (hb hby at_234) rfl rfl ?_
          show Steps _ _ _ (T230.setTop (mkF m 236 #[.val (.int p1), .val (.int p2), .val (.int p3), .val (.int p4), .val (.int p5), .val (.int p6), .val (.int m102), .val (.int m104), .val (.ref b105), .val (.ref b204), .val (.ref b223), .val (.ref b227), .val (.int (0 : Int32))] [(.ref b223)])) _
          refine XS.aload X230.here hx rfl (hb hby at_236) rfl rfl ?_
          refine st248.trans ?_
          refine XS.iload X248.here hx rfl (hb hby at_241) rfl ?_
          refine XS.icmpNo X248.here hx rfl (hb hby at_243) rfl (teq (by unfold own_s; exact if_neg (fun r => hc218_232 r.1))).2 ?_
          show Steps _ _ _ (T248.setTop (mkF m 246 #[.val (.int p1), .val (.int p2), .val (.int p3), .val (.int p4), .val (.int p5), .val (.int p6), .val (.int m102), .val (.int m104), .val (.ref b105), .val (.ref b204), .val (.ref b223), .val (.ref b227), .val (.int (0 : Int32))] [])) _
          refine XS.aload X248.here hx rfl (hb hby at_246) rfl rfl ?_
          refine XS.aload X248.here hx rfl (hb hby at_248) rfl rfl ?_
          refine st249.trans ?_
          refine XS.iload X249.here hx rfl (hb hby at_253) rfl ?_
          show Steps _ _ _ (T249.setTop (mkF m 255 #[.val (.int p1), .val (.int p2), .val (.int p3), .val (.int p4), .val (.int p5), .val (.int p6), .val (.int m102), .val (.int m104), .val (.ref b105), .val (.ref b204), .val (.ref b223), .val (.ref b227), .val (.int (0 : Int32))] [(.int (0 : Int32)), (.int (own_s m102 m104 p1 p2))])) _
          refine XS.icmpNo X249.here hx rfl (hb hby at_255) rfl (teq (by unfold own_s; exact if_neg (fun r => hc218_232 r.1.symm))).2 ?_
          refine XS.iconst X249.here hx rfl (hb hby at_258) ?_
          refine XS.goto X249.here hx rfl (pc0 := 259) (pc' := 263) rfl (hb hby at_259) (by decide) (by decide) ?_
          show Steps _ _ _ (T249.setTop (mkF m 263 #[.val (.int p1), .val (.int p2), .val (.int p3), .val (.int p4), .val (.int p5), .val (.int p6), .val (.int m102), .val (.int m104), .val (.ref b105), .val (.ref b204), .val (.ref b223), .val (.ref b227), .val (.int (0 : Int32))] [(.int (1 : Int32))])) _
          exact retN X249 hx (t := .boolean) Bd.returns (by simp) (hb hby at_263) hr
        · show Qown_law Z p1 p2 p3 p4 p5 p6 da kd cs h0 n0 _ T249.heap _
          rw [e249]
          exact ⟨rfl, N249⟩
    · skip
      have ihc159_222 := (mt (own_eq (b := (0 : Int32)) (k := 0) rfl).mpr hc159_222)
      have c250 := SC.ext O220.2
      obtain ⟨_, _, ⟨T251, L251, k251, n251⟩, -, X251, ⟨Lc251, hQ251, l251, y251, z251⟩, st251⟩ := Jvm.LawKit.callS X220 hx (y := own_m7) hown (mvT hZ (own_w26 hw)) (mvT hZ (own_w27 hw)) (mvT hZ (own_w28 hw)) (mvT hZ (own_w29 hw)) (by decide) (backOf (W := 1) (own_vo l Z a0 hw [] ((((p6.toUInt32 >>> ((12 : Int32) &&& 31).toUInt32).toInt32) &&& (255 : Int32)).toUInt32.toUInt16.toUInt32.toInt32) cs T220.heap n0 Z220 (own_ch _) c250 hcs) hZ (own_w29 hw) (own_w28 hw) (by decide) (by decide)) (g := (mkF m 174 #[.val (.int p1), .val (.int p2), .val (.int p3), .val (.int p4), .val (.int p5), .val (.int p6), .val (.int m102), .val (.int m104), .val (.ref b105), .val (.ref b204), .unset, .unset, .unset] [(.int ((((p6.toUInt32 >>> ((12 : Int32) &&& 31).toUInt32).toInt32) &&& (255 : Int32)).toUInt32.toUInt16.toUInt32.toInt32)), (.ref b204)])) rfl (by rw [hml]; rfl) (argsL := [(.int ((((p6.toUInt32 >>> ((12 : Int32) &&& 31).toUInt32).toInt32) &&& (255 : Int32)).toUInt32.toUInt16.toUInt32.toInt32))]) (rest := [(.ref b204)]) (lenOf own_pd8 rfl) rfl (by show 2 * 0 + _ ≤ _; exact Nat.le_of_eq rfl) (hb hby at_174) (fun _ _ => ⟨rfl, rfl, (by decide : 14 + 2 ≤ _), (by decide : 51 + 5 ≤ _)⟩)
      dsimp only [Pt.U, Pt.locs, Pt.cells, Pt.slots] at X251 l251 y251 z251 st251 hQ251
      subst l251 y251 z251
      obtain ⟨sb251, rfl, N251q, Kq251, Eq251⟩ := hQ251
      have N251 := Fr.app N220 N251q
      have O251 := O220.keep Kq251 all0
      have Z251 : n0 ≤ T251.heap.size := Nat.le_trans Z220 Kq251.1
      have c252 := (own_al_keep hA220 Kq251)
      have gded216 := c252.2.1
      obtain ⟨cq253, kq253, q253a, q253b, q253c⟩ := isOf hZ rfl c252.2.2.1
      obtain ⟨_, _, ⟨T253, L253, k253, n253⟩, -, X253, ⟨Lc253, hQ253, l253, y253, z253⟩, st253⟩ := X251.interfaceBack hx (xi := own_m15) (y := own_m12) hown (mvT hZ (own_w50 hw)) (mvT hZ (own_w51 hw)) (mvT hZ (own_w52 hw)) (mvT hZ (own_w53 hw)) (mvT hZ (own_w54 hw)) (mvT hZ (own_w55 hw)) (mvT hZ (own_w56 hw)) (mvT hZ (own_w57 hw)) (by decide) (backOf (W := 0) (own_add2 l Z a0 hw [] b204 sb251 ed216 ke216 sb209 sb218 T251.heap n0 Z251 g_b204 Eq251 c252) hZ (own_w58 hw) (own_w2 hw) (by decide) (by decide)) q253a q253b q253c (g := (mkF m 177 #[.val (.int p1), .val (.int p2), .val (.int p3), .val (.int p4), .val (.int p5), .val (.int p6), .val (.int m102), .val (.int m104), .val (.ref b105), .val (.ref b204), .unset, .unset, .unset] [(.ref sb251), (.ref b204)])) rfl (by rw [hml]; rfl) (Steps.refl _) (argsL := [(.ref sb251)]) (rest := []) (lenOf own_pd9 rfl) rfl (by show 2 * 0 + _ ≤ _; exact Nat.le_of_eq rfl) (hb hby at_177) (fun _ _ => ⟨rfl, rfl, (by decide : 16 + 0 ≤ _), (by decide : 56 + 0 ≤ _)⟩)
      dsimp only [Pt.U, Pt.locs, Pt.cells, Pt.slots] at X253 l253 y253 z253 st253 hQ253
      subst l253 y253 z253
      obtain ⟨rfl, N253q, Kq253, hA253⟩ := hQ253
      have N253 := Fr.app N251 N253q
      have O253 := O251.keep Kq253 (allS (P := fun x => n0 ≤ x) g_b204 (allS (P := fun x => n0 ≤ x) gded216 all0))
      have Z253 : n0 ≤ T253.heap.size := Nat.le_trans Z251 Kq253.1
      obtain ⟨T254, h254, X254, e254, E254, A254, D254, -, st254⟩ := newO X253 hx hZ hown (own_w85 hw) (own_w86 hw) (own_w87 hw) rfl (g := (mkF m 183 #[.val (.int p1), .val (.int p2), .val (.int p3), .val (.int p4), .val (.int p5), .val (.int p6), .val (.int m102), .val (.int m104), .val (.ref b105), .val (.ref b204), .unset, .unset, .unset] [])) rfl (hb hby at_183) (by decide) (by decide)
      obtain ⟨b254, g254⟩ : ∃ z, z = T253.heap.size := ⟨_, rfl⟩
      rw [← g254] at A254 D254 st254
      have c255 := ((((((((c205.ext E204).keep Kq207).keep Kq209).keep Kq216).keep Kq218).keep Kq220).keep Kq251).keep Kq253)
      have ne_b105_b254 : b105 ≠ b254 := Nat.ne_of_lt (Nat.lt_of_lt_of_le c255.lt (Nat.le_of_eq g254.symm))
      have c256 := (((((c210.keep Kq216).keep Kq218).keep Kq220).keep Kq251).keep Kq253)
      have ne_b204_b254 : b204 ≠ b254 := Nat.ne_of_lt (Nat.lt_of_lt_of_le c256.lt (Nat.le_of_eq g254.symm))
      have g_b254 : n0 ≤ b254 := Nat.le_trans Z253 (Nat.le_of_eq g254.symm)
      have O254 := O253.ext E254
      have Z254 : n0 ≤ h254.size := Nat.le_trans Z253 E254.1
      have F254_98 : Fld Z h254 b254 "com/example/arpent/arpent/geom/Point" "coordinates" "Ljava/util/List;" .null := D254 (Or.inr (own_w98 hw)) (ty := (.object "java/util/List")) (by decide)
      have F254_100 : Fld Z h254 b254 "com/example/arpent/arpent/geom/Point" "x" "D" (.double (FP.l2d 0)) := (D254 (Or.inr (own_w100 hw)) (ty := .double) (by decide) : Fld Z h254 b254 "com/example/arpent/arpent/geom/Point" "x" "D" (.double 0)).zeroD
      have F254_102 : Fld Z h254 b254 "com/example/arpent/arpent/geom/Point" "y" "D" (.double (FP.l2d 0)) := (D254 (Or.inr (own_w102 hw)) (ty := .double) (by decide) : Fld Z h254 b254 "com/example/arpent/arpent/geom/Point" "y" "D" (.double 0)).zeroD
      obtain ⟨_, _, ⟨T257, L257, k257, n257⟩, -, X257, ⟨Lc257, hQ257, l257, y257, z257⟩, st257⟩ := X254.specialBack hx (y := own_m13) rfl hown (mvT hZ (own_w88 hw)) (mvT hZ (own_w89 hw)) (mvT hZ (own_w90 hw)) (by decide) (backOf (W := 1) (own_pi l Z a0 hw [] b254 b105 (FP.i2d p1) (FP.i2d p2) h254 n0 Z254 g_b254 A254 F254_98 F254_100 F254_102) hZ (own_w90 hw) (own_w87 hw) (by decide) (by decide)) (g := (mkF m 193 #[.val (.int p1), .val (.int p2), .val (.int p3), .val (.int p4), .val (.int p5), .val (.int p6), .val (.int m102), .val (.int m104), .val (.ref b105), .val (.ref b204), .unset, .unset, .unset] [(.double (FP.i2d p2)), (.double (FP.i2d p1)), (.ref b105), (.ref b254), (.ref b254)])) rfl (by rw [hml]; rfl) (Steps.refl _) (a := b254) (argsL := [(.ref b105), (.double (FP.i2d p1)), (.double (FP.i2d p2))]) (rest := [(.ref b254)]) (lenOf own_pd10 rfl) rfl (by show 2 * 0 + _ ≤ _; exact Nat.le_of_eq rfl) (hb hby at_193) (fun _ _ => ⟨rfl, e254, (by decide : 17 + 0 ≤ _), (by decide : 59 + 0 ≤ _)⟩)
      dsimp only [Pt.U, Pt.locs, Pt.cells, Pt.slots] at X257 l257 y257 z257 st257 hQ257
      subst l257 y257 z257
      obtain ⟨rfl, N257q, Kq257, Eq257, Fx257, Fy257⟩ := hQ257
      have N257 := Fr.app N253 N257q
      have O257 := O254.keep Kq257 (allS (P := fun x => n0 ≤ x) g_b254 all0)
      have Z257 : n0 ≤ T257.heap.size := Nat.le_trans Z254 Kq257.1
      obtain ⟨T258, h258, X258, e258, E258, A258, D258, -, st258⟩ := newO X257 hx hZ hown (own_w85 hw) (own_w86 hw) (own_w87 hw) rfl (g := (mkF m 198 #[.val (.int p1), .val (.int p2), .val (.int p3), .val (.int p4), .val (.int p5), .val (.int p6), .val (.int m102), .val (.int m104), .val (.ref b105), .val (.ref b204), .val (.ref b254), .unset, .unset] [])) rfl (hb hby at_198) (by decide) (by decide)
      obtain ⟨b258, g258⟩ : ∃ z, z = T257.heap.size := ⟨_, rfl⟩
      rw [← g258] at A258 D258 st258
      have c259 := ((c255.ext E254).keep Kq257)
      have ne_b105_b258 : b105 ≠ b258 := Nat.ne_of_lt (Nat.lt_of_lt_of_le c259.lt (Nat.le_of_eq g258.symm))
      have c260 := ((c256.ext E254).keep Kq257)
      have ne_b204_b258 : b204 ≠ b258 := Nat.ne_of_lt (Nat.lt_of_lt_of_le c260.lt (Nat.le_of_eq g258.symm))
      have ne_b254_b258 : b254 ≠ b258 := Nat.ne_of_lt (Nat.lt_of_lt_of_le Eq257.lt (Nat.le_of_eq g258.symm))
      have g_b258 : n0 ≤ b258 := Nat.le_trans Z257 (Nat.le_of_eq g258.symm)
      have O258 := O257.ext E258
      have Z258 : n0 ≤ h258.size := Nat.le_trans Z257 E258.1
      have F258_98 : Fld Z h258 b258 "com/example/arpent/arpent/geom/Point" "coordinates" "Ljava/util/List;" .null := D258 (Or.inr (own_w98 hw)) (ty := (.object "java/util/List")) (by decide)
      have F258_100 : Fld Z h258 b258 "com/example/arpent/arpent/geom/Point" "x" "D" (.double (FP.l2d 0)) := (D258 (Or.inr (own_w100 hw)) (ty := .double) (by decide) : Fld Z h258 b258 "com/example/arpent/arpent/geom/Point" "x" "D" (.double 0)).zeroD
      have F258_102 : Fld Z h258 b258 "com/example/arpent/arpent/geom/Point" "y" "D" (.double (FP.l2d 0)) := (D258 (Or.inr (own_w102 hw)) (ty := .double) (by decide) : Fld Z h258 b258 "com/example/arpent/arpent/geom/Point" "y" "D" (.double 0)).zeroD
      obtain ⟨_, _, ⟨T261, L261, k261, n261⟩, -, X261, ⟨Lc261, hQ261, l261, y261, z261⟩, st261⟩ := X258.specialBack hx (y := own_m13) rfl hown (mvT hZ (own_w88 hw)) (mvT hZ (own_w89 hw)) (mvT hZ (own_w90 hw)) (by decide) (backOf (W := 1) (own_pi l Z a0 hw [] b258 b204 (FP.i2d m102) (FP.i2d m104) h258 n0 Z258 g_b258 A258 F258_98 F258_100 F258_102) hZ (own_w90 hw) (own_w87 hw) (by decide) (by decide)) (g := (mkF m 210 #[.val (.int p1), .val (.int p2), .val (.int p3), .val (.int p4), .val (.int p5), .val (.int p6), .val (.int m102), .val (.int m104), .val (.ref b105), .val (.ref b204), .val (.ref b254), .unset, .unset] [(.double (FP.i2d m104)), (.double (FP.i2d m102)), (.ref b204), (.ref b258), (.ref b258)])) rfl (by rw [hml]; rfl) (Steps.refl _) (a := b258) (argsL := [(.ref b204), (.double (FP.i2d m102)), (.double (FP.i2d m104))]) (rest := [(.ref b258)]) (lenOf own_pd10 rfl) rfl (by show 2 * 0 + _ ≤ _; exact Nat.le_of_eq rfl) (hb hby at_210) (fun _ _ => ⟨rfl, e258, (by decide : 18 + 0 ≤ _), (by decide : 62 + 0 ≤ _)⟩)
      dsimp only [Pt.U, Pt.locs, Pt.cells, Pt.slots] at X261 l261 y261 z261 st261 hQ261
      subst l261 y261 z261
      obtain ⟨rfl, N261q, Kq261, Eq261, Fx261, Fy261⟩ := hQ261
      have N261 := Fr.app N257 N261q
      have O261 := O258.keep Kq261 (allS (P := fun x => n0 ≤ x) g_b258 all0)
      have Z261 : n0 ≤ T261.heap.size := Nat.le_trans Z258 Kq261.1
      have pre262 : ∀ t, Steps p.tables e below (T261.setTop (mkF m 218 #[.val (.int p1), .val (.int p2), .val (.int p3), .val (.int p4), .val (.int p5), .val (.int p6), .val (.int m102), .val (.int m104), .val (.ref b105), .val (.ref b204), .val (.ref b254), .val (.ref b258), .unset] [(.int m102), (.int p1)])) t → Steps p.tables e below (s₁.setTop (entryFrame m #[(.int p1), (.int p2), (.int p3), (.int p4), (.int p5), (.int p6)] maxLocals)) t := fun t kt => pre221 t (by
        show Steps _ _ _ (T220.setTop (mkF m 159 #[.val (.int p1), .val (.int p2), .val (.int p3), .val (.int p4), .val (.int p5), .val (.int p6), .val (.int m102), .val (.int m104), .val (.ref b105), .val (.ref b204), .unset, .unset, .unset] [(.int (p5 &&& (8 : Int32)))])) _
        refine XS.ifNo X220.here hx rfl (hb hby at_159) rfl ((if0 _ _).trans (feq hc159_222).1) ?_
        refine XS.aload X220.here hx rfl (hb hby at_162) rfl rfl ?_
        refine XS.iload X220.here hx rfl (hb hby at_164) rfl ?_
        refine XS.bipush X220.here hx rfl (hb hby at_166) ?_
        show Steps _ _ _ (T220.setTop (mkF m 168 #[.val (.int p1), .val (.int p2), .val (.int p3), .val (.int p4), .val (.int p5), .val (.int p6), .val (.int m102), .val (.int m104), .val (.ref b105), .val (.ref b204), .unset, .unset, .unset] [(.int (12 : Int32)), (.int p6), (.ref b204)])) _
        refine XS.iushr X220.here hx rfl (hb hby at_168) rfl ?_
        refine XS.sipush X220.here hx rfl (hb hby at_169) ?_
        refine XS.iand X220.here hx rfl (hb hby at_172) rfl ?_
        refine XS.i2c X220.here hx rfl (hb hby at_173) rfl ?_
        show Steps _ _ _ (T220.setTop (mkF m 174 #[.val (.int p1), .val (.int p2), .val (.int p3), .val (.int p4), .val (.int p5), .val (.int p6), .val (.int m102), .val (.int m104), .val (.ref b105), .val (.ref b204), .unset, .unset, .unset] [(.int ((((p6.toUInt32 >>> ((12 : Int32) &&& 31).toUInt32).toInt32) &&& (255 : Int32)).toUInt32.toUInt16.toUInt32.toInt32)), (.ref b204)])) _
        refine st251 _ ?_
        refine st253.trans ?_
        refine XS.pop X253.here hx rfl (hb hby at_182) rfl rfl ?_
        refine st254 _ ?_
        show Steps _ _ _ (T254.setTop (mkF m 186 #[.val (.int p1), .val (.int p2), .val (.int p3), .val (.int p4), .val (.int p5), .val (.int p6), .val (.int m102), .val (.int m104), .val (.ref b105), .val (.ref b204), .unset, .unset, .unset] [(.ref b254)])) _
        refine XS.dup X254.here hx rfl (hb hby at_186) rfl rfl ?_
        refine XS.aload X254.here hx rfl (hb hby at_187) rfl rfl ?_
        refine XS.iloadN X254.here hx rfl (hb hby at_189) rfl ?_
        refine XS.i2dS X254.here hx rfl (hb hby at_190) rfl rfl ?_
        show Steps _ _ _ (T254.setTop (mkF m 191 #[.val (.int p1), .val (.int p2), .val (.int p3), .val (.int p4), .val (.int p5), .val (.int p6), .val (.int m102), .val (.int m104), .val (.ref b105), .val (.ref b204), .unset, .unset, .unset] [(.double (FP.i2d p1)), (.ref b105), (.ref b254), (.ref b254)])) _
        refine XS.iloadN X254.here hx rfl (hb hby at_191) rfl ?_
        refine XS.i2dS X254.here hx rfl (hb hby at_192) rfl rfl ?_
        refine st257.trans ?_
        refine XS.astore X257.here hx rfl (hb hby at_196) rfl rfl (l' := #[.val (.int p1), .val (.int p2), .val (.int p3), .val (.int p4), .val (.int p5), .val (.int p6), .val (.int m102), .val (.int m104), .val (.ref b105), .val (.ref b204), .val (.ref b254), .unset, .unset]) rfl ?_
        show Steps _ _ _ (T257.setTop (mkF m 198 #[.val (.int p1), .val (.int p2), .val (.int p3), .val (.int p4), .val (.int p5), .val (.int p6), .val (.int m102), .val (.int m104), .val (.ref b105), .val (.ref b204), .val (.ref b254), .unset, .unset] [])) _
        refine st258 _ ?_
        refine XS.dup X258.here hx rfl (hb hby at_201) rfl rfl ?_
        refine XS.aload X258.here hx rfl (hb hby at_202) rfl rfl ?_
        refine XS.iload X258.here hx rfl (hb hby at_204) rfl ?_
        show Steps _ _ _ (T258.setTop (mkF m 206 #[.val (.int p1), .val (.int p2), .val (.int p3), .val (.int p4), .val (.int p5), .val (.int p6), .val (.int m102), .val (.int m104), .val (.ref b105), .val (.ref b204), .val (.ref b254), .unset, .unset] [(.int m102), (.ref b204), (.ref b258), (.ref b258)])) _
        refine XS.i2dS X258.here hx rfl (hb hby at_206) rfl rfl ?_
        refine XS.iload X258.here hx rfl (hb hby at_207) rfl ?_
        refine XS.i2dS X258.here hx rfl (hb hby at_209) rfl rfl ?_
        refine st261.trans ?_
        show Steps _ _ _ (T261.setTop (mkF m 213 #[.val (.int p1), .val (.int p2), .val (.int p3), .val (.int p4), .val (.int p5), .val (.int p6), .val (.int m102), .val (.int m104), .val (.ref b105), .val (.ref b204), .val (.ref b254), .unset, .unset] [(.ref b258)])) _
        refine XS.astore X261.here hx rfl (hb hby at_213) rfl rfl (l' := #[.val (.int p1), .val (.int p2), .val (.int p3), .val (.int p4), .val (.int p5), .val (.int p6), .val (.int m102), .val (.int m104), .val (.ref b105), .val (.ref b204), .val (.ref b254), .val (.ref b258), .unset]) rfl ?_
        refine XS.iloadN X261.here hx rfl (hb hby at_215) rfl ?_
        refine XS.iload X261.here hx rfl (hb hby at_216) rfl ?_
        exact kt)
      by_cases hc218_263 : p1 = m102
      · skip
        have pre264 : ∀ t, Steps p.tables e below (T261.setTop (mkF m 224 #[.val (.int p1), .val (.int p2), .val (.int p3), .val (.int p4), .val (.int p5), .val (.int p6), .val (.int m102), .val (.int m104), .val (.ref b105), .val (.ref b204), .val (.ref b254), .val (.ref b258), .unset] [(.int m104), (.int p2)])) t → Steps p.tables e below (s₁.setTop (entryFrame m #[(.int p1), (.int p2), (.int p3), (.int p4), (.int p5), (.int p6)] maxLocals)) t := fun t kt => pre262 t (by
          show Steps _ _ _ (T261.setTop (mkF m 218 #[.val (.int p1), .val (.int p2), .val (.int p3), .val (.int p4), .val (.int p5), .val (.int p6), .val (.int m102), .val (.int m104), .val (.ref b105), .val (.ref b204), .val (.ref b254), .val (.ref b258), .unset] [(.int m102), (.int p1)])) _
          refine XS.icmpNo X261.here hx rfl (hb hby at_218) rfl (teq hc218_263).2 ?_
          refine XS.iloadN X261.here hx rfl (hb hby at_221) rfl ?_
          refine XS.iload X261.here hx rfl (hb hby at_222) rfl ?_
          exact kt)
        by_cases hc224_265 : p2 = m104
        · skip
          have c266 := ((Fx257.ext E258).keep Kq261 (ninS ne_b254_b258 nin0))
          have c267 := ((Fy257.ext E258).keep Kq261 (ninS ne_b254_b258 nin0))
          have c268 := ((Eq257.ext E258).keep Kq261)
          obtain ⟨cq269, kq269, q269a, q269b, q269c⟩ := isOf hZ rfl c268
          obtain ⟨_, _, ⟨T269, L269, k269, n269⟩, -, X269, ⟨Lc269, hQ269, l269, y269, z269⟩, st269⟩ := X261.virtualBack hx (y := own_m14) (z := own_m14) hown (mvT hZ (own_w103 hw)) (mvT hZ (own_w104 hw)) (notFace_of_selects (args := #[]) (mvT hZ (own_w106 hw))) (mvT hZ (own_w106 hw)) (mvT hZ (own_w105 hw)) (by decide) (backOf (W := 0) (own_sp l Z a0 hw [] b254 b258 p1 p2 m102 m104 T261.heap n0 Z261 c266 c267 Fx261 Fy261) hZ (own_w107 hw) (own_w87 hw) (by decide) (by decide)) q269a q269c (g := (mkF m 238 #[.val (.int p1), .val (.int p2), .val (.int p3), .val (.int p4), .val (.int p5), .val (.int p6), .val (.int m102), .val (.int m104), .val (.ref b105), .val (.ref b204), .val (.ref b254), .val (.ref b258), .val (.int (1 : Int32))] [(.ref b258), (.ref b254)])) rfl (by rw [hml]; rfl) (Steps.refl _) (argsL := [(.ref b258)]) (rest := []) (lenOf own_pd11 rfl) rfl (by show 2 * 0 + _ ≤ _; exact Nat.le_of_eq rfl) (hb hby at_238) (fun _ _ => ⟨rfl, rfl, (by decide : 18 + 0 ≤ _), (by decide : 62 + 0 ≤ _)⟩)
          dsimp only [Pt.U, Pt.locs, Pt.cells, Pt.slots] at X269 l269 y269 z269 st269 hQ269
          subst l269 y269 z269
          obtain ⟨rfl, N269q, e269⟩ := hQ269
          have N269 := Fr.app N261 N269q
          obtain ⟨cq270, kq270, q270a, q270b, q270c⟩ := isOf hZ e269 Eq261
          obtain ⟨_, _, ⟨T270, L270, k270, n270⟩, -, X270, ⟨Lc270, hQ270, l270, y270, z270⟩, st270⟩ := X269.virtualBack hx (y := own_m14) (z := own_m14) hown (mvT hZ (own_w103 hw)) (mvT hZ (own_w104 hw)) (notFace_of_selects (args := #[]) (mvT hZ (own_w106 hw))) (mvT hZ (own_w106 hw)) (mvT hZ (own_w105 hw)) (by decide) (backOf (W := 0) (own_sp l Z a0 hw [] b258 b254 m102 m104 p1 p2 T261.heap n0 Z261 Fx261 Fy261 c266 c267) hZ (own_w107 hw) (own_w87 hw) (by decide) (by decide)) q270a q270c (g := (mkF m 250 #[.val (.int p1), .val (.int p2), .val (.int p3), .val (.int p4), .val (.int p5), .val (.int p6), .val (.int m102), .val (.int m104), .val (.ref b105), .val (.ref b204), .val (.ref b254), .val (.ref b258), .val (.int (1 : Int32))] [(.ref b254), (.ref b258)])) rfl (by rw [hml]; rfl) (Steps.refl _) (argsL := [(.ref b254)]) (rest := []) (lenOf own_pd11 rfl) rfl (by show 2 * 0 + _ ≤ _; exact Nat.le_of_eq rfl) (hb hby at_250) (fun _ _ => ⟨rfl, e269, (by decide : 18 + 0 ≤ _), (by decide : 62 + 0 ≤ _)⟩)
          dsimp only [Pt.U, Pt.locs, Pt.cells, Pt.slots] at X270 l270 y270 z270 st270 hQ270
          subst l270 y270 z270
          obtain ⟨rfl, N270q, e270⟩ := hQ270
          have N270 := Fr.app N269 N270q
          obtain ⟨fs, hr, hrun, hended, hW, hsame⟩ := X270.leave (v := some (.int (1 : Int32))) (fun h => by rw [Bd.returns] at h; cases h)
          refine ⟨_, _, pre264 _ ?_, hrun, hended, _, _, rfl, ?_, ⟨_, rfl⟩, hW, hsame.mono (by decide) (by decide)⟩
          · show Steps _ _ _ (T261.setTop (mkF m 224 #[.val (.int p1), .val (.int p2), .val (.int p3), .val (.int p4), .val (.int p5), .val (.int p6), .val (.int m102), .val (.int m104), .val (.ref b105), .val (.ref b204), .val (.ref b254), .val (.ref b258), .unset] [(.int m104), (.int p2)])) _
            refine XS.icmpNo X261.here hx rfl (hb hby at_224) rfl (teq hc224_265).2 ?_
            refine XS.iconst X261.here hx rfl (hb hby at_227) ?_
            refine XS.goto X261.here hx rfl (pc0 := 228) (pc' := 232) rfl (hb hby at_228) (by decide) (by decide) ?_
            refine XS.istore X261.here hx rfl (hb hby at_232) rfl (l' := #[.val (.int p1), .val (.int p2), .val (.int p3), .val (.int p4), .val (.int p5), .val (.int p6), .val (.int m102), .val (.int m104), .val (.ref b105), .val (.ref b204), .val (.ref b254), .val (.ref b258), .val (.int (1 : Int32))]) rfl ?_
            show Steps _ _ _ (T261.setTop (mkF m 234 #[.val (.int p1), .val (.int p2), .val (.int p3), .val (.int p4), .val (.int p5), .val (.int p6), .val (.int m102), .val (.int m104), .val (.ref b105), .val (.ref b204), .val (.ref b254), .val (.ref b258), .val (.int (1 : Int32))] [])) _
            refine XS.aload X261.here hx rfl (hb hby at_234) rfl rfl ?_
            refine XS.aload X261.here hx rfl (hb hby at_236) rfl rfl ?_
            refine st269.trans ?_
            refine XS.iload X269.here hx rfl (hb hby at_241) rfl ?_
            show Steps _ _ _ (T269.setTop (mkF m 243 #[.val (.int p1), .val (.int p2), .val (.int p3), .val (.int p4), .val (.int p5), .val (.int p6), .val (.int m102), .val (.int m104), .val (.ref b105), .val (.ref b204), .val (.ref b254), .val (.ref b258), .val (.int (1 : Int32))] [(.int (1 : Int32)), (.int (own_s p1 p2 m102 m104))])) _
            refine XS.icmpNo X269.here hx rfl (hb hby at_243) rfl (teq (by unfold own_s; exact if_pos ⟨hc218_263, hc224_265⟩)).2 ?_
            refine XS.aload X269.here hx rfl (hb hby at_246) rfl rfl ?_
            refine XS.aload X269.here hx rfl (hb hby at_248) rfl rfl ?_
            refine st270.trans ?_
            show Steps _ _ _ (T270.setTop (mkF m 253 #[.val (.int p1), .val (.int p2), .val (.int p3), .val (.int p4), .val (.int p5), .val (.int p6), .val (.int m102), .val (.int m104), .val (.ref b105), .val (.ref b204), .val (.ref b254), .val (.ref b258), .val (.int (1 : Int32))] [(.int (own_s m102 m104 p1 p2))])) _
            refine XS.iload X270.here hx rfl (hb hby at_253) rfl ?_
            refine XS.icmpNo X270.here hx rfl (hb hby at_255) rfl (teq (by unfold own_s; exact if_pos ⟨hc218_263.symm, hc224_265.symm⟩)).2 ?_
            refine XS.iconst X270.here hx rfl (hb hby at_258) ?_
            refine XS.goto X270.here hx rfl (pc0 := 259) (pc' := 263) rfl (hb hby at_259) (by decide) (by decide) ?_
            show Steps _ _ _ (T270.setTop (mkF m 263 #[.val (.int p1), .val (.int p2), .val (.int p3), .val (.int p4), .val (.int p5), .val (.int p6), .val (.int m102), .val (.int m104), .val (.ref b105), .val (.ref b204), .val (.ref b254), .val (.ref b258), .val (.int (1 : Int32))] [(.int (1 : Int32))])) _
            exact retN X270 hx (t := .boolean) Bd.returns (by simp) (hb hby at_263) hr
          · show Qown_law Z p1 p2 p3 p4 p5 p6 da kd cs h0 n0 _ T270.heap _
            rw [e270]
            exact ⟨rfl, N270⟩
        · skip
          have c271 := ((Fx257.ext E258).keep Kq261 (ninS ne_b254_b258 nin0))
          have c272 := ((Fy257.ext E258).keep Kq261 (ninS ne_b254_b258 nin0))
          have c273 := ((Eq257.ext E258).keep Kq261)
          obtain ⟨cq274, kq274, q274a, q274b, q274c⟩ := isOf hZ rfl c273
          obtain ⟨_, _, ⟨T274, L274, k274, n274⟩, -, X274, ⟨Lc274, hQ274, l274, y274, z274⟩, st274⟩ := X261.virtualBack hx (y := own_m14) (z := own_m14) hown (mvT hZ (own_w103 hw)) (mvT hZ (own_w104 hw)) (notFace_of_selects (args := #[]) (mvT hZ (own_w106 hw))) (mvT hZ (own_w106 hw)) (mvT hZ (own_w105 hw)) (by decide) (backOf (W := 0) (own_sp l Z a0 hw [] b254 b258 p1 p2 m102 m104 T261.heap n0 Z261 c271 c272 Fx261 Fy261) hZ (own_w107 hw) (own_w87 hw) (by decide) (by decide)) q274a q274c (g := (mkF m 238 #[.val (.int p1), .val (.int p2), .val (.int p3), .val (.int p4), .val (.int p5), .val (.int p6), .val (.int m102), .val (.int m104), .val (.ref b105), .val (.ref b204), .val (.ref b254), .val (.ref b258), .val (.int (0 : Int32))] [(.ref b258), (.ref b254)])) rfl (by rw [hml]; rfl) (Steps.refl _) (argsL := [(.ref b258)]) (rest := []) (lenOf own_pd11 rfl) rfl (by show 2 * 0 + _ ≤ _; exact Nat.le_of_eq rfl) (hb hby at_238) (fun _ _ => ⟨rfl, rfl, (by decide : 18 + 0 ≤ _), (by decide : 62 + 0 ≤ _)⟩)
          dsimp only [Pt.U, Pt.locs, Pt.cells, Pt.slots] at X274 l274 y274 z274 st274 hQ274
          subst l274 y274 z274
          obtain ⟨rfl, N274q, e274⟩ := hQ274
          have N274 := Fr.app N261 N274q
          obtain ⟨cq275, kq275, q275a, q275b, q275c⟩ := isOf hZ e274 Eq261
          obtain ⟨_, _, ⟨T275, L275, k275, n275⟩, -, X275, ⟨Lc275, hQ275, l275, y275, z275⟩, st275⟩ := X274.virtualBack hx (y := own_m14) (z := own_m14) hown (mvT hZ (own_w103 hw)) (mvT hZ (own_w104 hw)) (notFace_of_selects (args := #[]) (mvT hZ (own_w106 hw))) (mvT hZ (own_w106 hw)) (mvT hZ (own_w105 hw)) (by decide) (backOf (W := 0) (own_sp l Z a0 hw [] b258 b254 m102 m104 p1 p2 T261.heap n0 Z261 Fx261 Fy261 c271 c272) hZ (own_w107 hw) (own_w87 hw) (by decide) (by decide)) q275a q275c (g := (mkF m 250 #[.val (.int p1), .val (.int p2), .val (.int p3), .val (.int p4), .val (.int p5), .val (.int p6), .val (.int m102), .val (.int m104), .val (.ref b105), .val (.ref b204), .val (.ref b254), .val (.ref b258), .val (.int (0 : Int32))] [(.ref b254), (.ref b258)])) rfl (by rw [hml]; rfl) (Steps.refl _) (argsL := [(.ref b254)]) (rest := []) (lenOf own_pd11 rfl) rfl (by show 2 * 0 + _ ≤ _; exact Nat.le_of_eq rfl) (hb hby at_250) (fun _ _ => ⟨rfl, e274, (by decide : 18 + 0 ≤ _), (by decide : 62 + 0 ≤ _)⟩)
          dsimp only [Pt.U, Pt.locs, Pt.cells, Pt.slots] at X275 l275 y275 z275 st275 hQ275
          subst l275 y275 z275
          obtain ⟨rfl, N275q, e275⟩ := hQ275
          have N275 := Fr.app N274 N275q
          obtain ⟨fs, hr, hrun, hended, hW, hsame⟩ := X275.leave (v := some (.int (1 : Int32))) (fun h => by rw [Bd.returns] at h; cases h)
          refine ⟨_, _, pre264 _ ?_, hrun, hended, _, _, rfl, ?_, ⟨_, rfl⟩, hW, hsame.mono (by decide) (by decide)⟩
          · show Steps _ _ _ (T261.setTop (mkF m 224 #[.val (.int p1), .val (.int p2), .val (.int p3), .val (.int p4), .val (.int p5), .val (.int p6), .val (.int m102), .val (.int m104), .val (.ref b105), .val (.ref b204), .val (.ref b254), .val (.ref b258), .unset] [(.int m104), (.int p2)])) _
            refine XS.icmpYes X261.here hx rfl (pc0 := 224) (pc' := 231) rfl (hb hby at_224) rfl (feq hc224_265).2 (by decide) (by decide) ?_
            refine XS.iconst X261.here hx rfl (hb hby at_231) ?_
            refine XS.istore X261.here hx rfl (hb hby at_232) rfl (l' := #[.val (.int p1), .val (.int p2), .val (.int p3), .val (.int p4), .val (.int p5), .val (.int p6), .val (.int m102), .val (.int m104), .val (.ref b105), .val (.ref b204), .val (.ref b254), .val (.ref b258), .val (.int (0 : Int32))]) rfl ?_
            refine XS.aload X261.here hx rfl (hb hby at_234) rfl rfl ?_
            show Steps _ _ _ (T261.setTop (mkF m 236 #[.val (.int p1), .val (.int p2), .val (.int p3), .val (.int p4), .val (.int p5), .val (.int p6), .val (.int m102), .val (.int m104), .val (.ref b105), .val (.ref b204), .val (.ref b254), .val (.ref b258), .val (.int (0 : Int32))] [(.ref b254)])) _
            refine XS.aload X261.here hx rfl (hb hby at_236) rfl rfl ?_
            refine st274.trans ?_
            refine XS.iload X274.here hx rfl (hb hby at_241) rfl ?_
            refine XS.icmpNo X274.here hx rfl (hb hby at_243) rfl (teq (by unfold own_s; exact if_neg (fun r => hc224_265 r.2))).2 ?_
            show Steps _ _ _ (T274.setTop (mkF m 246 #[.val (.int p1), .val (.int p2), .val (.int p3), .val (.int p4), .val (.int p5), .val (.int p6), .val (.int m102), .val (.int m104), .val (.ref b105), .val (.ref b204), .val (.ref b254), .val (.ref b258), .val (.int (0 : Int32))] [])) _
            refine XS.aload X274.here hx rfl (hb hby at_246) rfl rfl ?_
            refine XS.aload X274.here hx rfl (hb hby at_248) rfl rfl ?_
            refine st275.trans ?_
            refine XS.iload X275.here hx rfl (hb hby at_253) rfl ?_
            show Steps _ _ _ (T275.setTop (mkF m 255 #[.val (.int p1), .val (.int p2), .val (.int p3), .val (.int p4), .val (.int p5), .val (.int p6), .val (.int m102), .val (.int m104), .val (.ref b105), .val (.ref b204), .val (.ref b254), .val (.ref b258), .val (.int (0 : Int32))] [(.int (0 : Int32)), (.int (own_s m102 m104 p1 p2))])) _
            refine XS.icmpNo X275.here hx rfl (hb hby at_255) rfl (teq (by unfold own_s; exact if_neg (fun r => hc224_265 r.2.symm))).2 ?_
            refine XS.iconst X275.here hx rfl (hb hby at_258) ?_
            refine XS.goto X275.here hx rfl (pc0 := 259) (pc' := 263) rfl (hb hby at_259) (by decide) (by decide) ?_
            show Steps _ _ _ (T275.setTop (mkF m 263 #[.val (.int p1), .val (.int p2), .val (.int p3), .val (.int p4), .val (.int p5), .val (.int p6), .val (.int m102), .val (.int m104), .val (.ref b105), .val (.ref b204), .val (.ref b254), .val (.ref b258), .val (.int (0 : Int32))] [(.int (1 : Int32))])) _
            exact retN X275 hx (t := .boolean) Bd.returns (by simp) (hb hby at_263) hr
          · show Qown_law Z p1 p2 p3 p4 p5 p6 da kd cs h0 n0 _ T275.heap _
            rw [e275]
            exact ⟨rfl, N275⟩
      · skip
        have c276 := ((Fx257.ext E258).keep Kq261 (ninS ne_b254_b258 nin0))
        have c277 := ((Fy257.ext E258).keep Kq261 (ninS ne_b254_b258 nin0))
        have c278 := ((Eq257.ext E258).keep Kq261)
        obtain ⟨cq279, kq279, q279a, q279b, q279c⟩ := isOf hZ rfl c278
        obtain ⟨_, _, ⟨T279, L279, k279, n279⟩, -, X279, ⟨Lc279, hQ279, l279, y279, z279⟩, st279⟩ := X261.virtualBack hx (y := own_m14) (z := own_m14) hown (mvT hZ (own_w103 hw)) (mvT hZ (own_w104 hw)) (notFace_of_selects (args := #[]) (mvT hZ (own_w106 hw))) (mvT hZ (own_w106 hw)) (mvT hZ (own_w105 hw)) (by decide) (backOf (W := 0) (own_sp l Z a0 hw [] b254 b258 p1 p2 m102 m104 T261.heap n0 Z261 c276 c277 Fx261 Fy261) hZ (own_w107 hw) (own_w87 hw) (by decide) (by decide)) q279a q279c (g := (mkF m 238 #[.val (.int p1), .val (.int p2), .val (.int p3), .val (.int p4), .val (.int p5), .val (.int p6), .val (.int m102), .val (.int m104), .val (.ref b105), .val (.ref b204), .val (.ref b254), .val (.ref b258), .val (.int (0 : Int32))] [(.ref b258), (.ref b254)])) rfl (by rw [hml]; rfl) (Steps.refl _) (argsL := [(.ref b258)]) (rest := []) (lenOf own_pd11 rfl) rfl (by show 2 * 0 + _ ≤ _; exact Nat.le_of_eq rfl) (hb hby at_238) (fun _ _ => ⟨rfl, rfl, (by decide : 18 + 0 ≤ _), (by decide : 62 + 0 ≤ _)⟩)
        dsimp only [Pt.U, Pt.locs, Pt.cells, Pt.slots] at X279 l279 y279 z279 st279 hQ279
        subst l279 y279 z279
        obtain ⟨rfl, N279q, e279⟩ := hQ279
        have N279 := Fr.app N261 N279q
        obtain ⟨cq280, kq280, q280a, q280b, q280c⟩ := isOf hZ e279 Eq261
        obtain ⟨_, _, ⟨T280, L280, k280, n280⟩, -, X280, ⟨Lc280, hQ280, l280, y280, z280⟩, st280⟩ := X279.virtualBack hx (y := own_m14) (z := own_m14) hown (mvT hZ (own_w103 hw)) (mvT hZ (own_w104 hw)) (notFace_of_selects (args := #[]) (mvT hZ (own_w106 hw))) (mvT hZ (own_w106 hw)) (mvT hZ (own_w105 hw)) (by decide) (backOf (W := 0) (own_sp l Z a0 hw [] b258 b254 m102 m104 p1 p2 T261.heap n0 Z261 Fx261 Fy261 c276 c277) hZ (own_w107 hw) (own_w87 hw) (by decide) (by decide)) q280a q280c (g := (mkF m 250 #[.val (.int p1), .val (.int p2), .val (.int p3), .val (.int p4), .val (.int p5), .val (.int p6), .val (.int m102), .val (.int m104), .val (.ref b105), .val (.ref b204), .val (.ref b254), .val (.ref b258), .val (.int (0 : Int32))] [(.ref b254), (.ref b258)])) rfl (by rw [hml]; rfl) (Steps.refl _) (argsL := [(.ref b254)]) (rest := []) (lenOf own_pd11 rfl) rfl (by show 2 * 0 + _ ≤ _; exact Nat.le_of_eq rfl) (hb hby at_250) (fun _ _ => ⟨rfl, e279, (by decide : 18 + 0 ≤ _), (by decide : 62 + 0 ≤ _)⟩)
        dsimp only [Pt.U, Pt.locs, Pt.cells, Pt.slots] at X280 l280 y280 z280 st280 hQ280
        subst l280 y280 z280
        obtain ⟨rfl, N280q, e280⟩ := hQ280
        have N280 := Fr.app N279 N280q
        obtain ⟨fs, hr, hrun, hended, hW, hsame⟩ := X280.leave (v := some (.int (1 : Int32))) (fun h => by rw [Bd.returns] at h; cases h)
        refine ⟨_, _, pre262 _ ?_, hrun, hended, _, _, rfl, ?_, ⟨_, rfl⟩, hW, hsame.mono (by decide) (by decide)⟩
        · show Steps _ _ _ (T261.setTop (mkF m 218 #[.val (.int p1), .val (.int p2), .val (.int p3), .val (.int p4), .val (.int p5), .val (.int p6), .val (.int m102), .val (.int m104), .val (.ref b105), .val (.ref b204), .val (.ref b254), .val (.ref b258), .unset] [(.int m102), (.int p1)])) _
          refine XS.icmpYes X261.here hx rfl (pc0 := 218) (pc' := 231) rfl (hb hby at_218) rfl (feq hc218_263).2 (by decide) (by decide) ?_
          refine XS.iconst X261.here hx rfl (hb hby at_231) ?_
          refine XS.istore X261.here hx rfl (hb hby at_232) rfl (l' := #[.val (.int p1), .val (.int p2), .val (.int p3), .val (.int p4), .val (.int p5), .val (.int p6), .val (.int m102), .val (.int m104), .val (.ref b105), .val (.ref b204), .val (.ref b254), .val (.ref b258), .val (.int (0 : Int32))]) rfl ?_
          refine XS.aload X261.here hx rfl (hb hby at_234) rfl rfl ?_
          show Steps _ _ _ (T261.setTop (mkF m 236 #[.val (.int p1), .val (.int p2), .val (.int p3), .val (.int p4), .val (.int p5), .val (.int p6), .val (.int m102), .val (.int m104), .val (.ref b105), .val (.ref b204), .val (.ref b254), .val (.ref b258), .val (.int (0 : Int32))] [(.ref b254)])) _
          refine XS.aload X261.here hx rfl (hb hby at_236) rfl rfl ?_
          refine st279.trans ?_
          refine XS.iload X279.here hx rfl (hb hby at_241) rfl ?_
          refine XS.icmpNo X279.here hx rfl (hb hby at_243) rfl (teq (by unfold own_s; exact if_neg (fun r => hc218_263 r.1))).2 ?_
          show Steps _ _ _ (T279.setTop (mkF m 246 #[.val (.int p1), .val (.int p2), .val (.int p3), .val (.int p4), .val (.int p5), .val (.int p6), .val (.int m102), .val (.int m104), .val (.ref b105), .val (.ref b204), .val (.ref b254), .val (.ref b258), .val (.int (0 : Int32))] [])) _
          refine XS.aload X279.here hx rfl (hb hby at_246) rfl rfl ?_
          refine XS.aload X279.here hx rfl (hb hby at_248) rfl rfl ?_
          refine st280.trans ?_
          refine XS.iload X280.here hx rfl (hb hby at_253) rfl ?_
          show Steps _ _ _ (T280.setTop (mkF m 255 #[.val (.int p1), .val (.int p2), .val (.int p3), .val (.int p4), .val (.int p5), .val (.int p6), .val (.int m102), .val (.int m104), .val (.ref b105), .val (.ref b204), .val (.ref b254), .val (.ref b258), .val (.int (0 : Int32))] [(.int (0 : Int32)), (.int (own_s m102 m104 p1 p2))])) _
          refine XS.icmpNo X280.here hx rfl (hb hby at_255) rfl (teq (by unfold own_s; exact if_neg (fun r => hc218_263 r.1.symm))).2 ?_
          refine XS.iconst X280.here hx rfl (hb hby at_258) ?_
          refine XS.goto X280.here hx rfl (pc0 := 259) (pc' := 263) rfl (hb hby at_259) (by decide) (by decide) ?_
          show Steps _ _ _ (T280.setTop (mkF m 263 #[.val (.int p1), .val (.int p2), .val (.int p3), .val (.int p4), .val (.int p5), .val (.int p6), .val (.int m102), .val (.int m104), .val (.ref b105), .val (.ref b204), .val (.ref b254), .val (.ref b258), .val (.int (0 : Int32))] [(.int (1 : Int32))])) _
          exact retN X280 hx (t := .boolean) Bd.returns (by simp) (hb hby at_263) hr
        · show Qown_law Z p1 p2 p3 p4 p5 p6 da kd cs h0 n0 _ T280.heap _
          rw [e280]
          exact ⟨rfl, N280⟩
set_option maxRecDepth 65536 in
set_option maxHeartbeats 40000000 in
theorem comes_1 {Post : Tables → Env → Array Value → State → Outcome → State → Prop} (hpost : ∀ tb e args s v u, (limb_1_1.after args s (.returned v) u = true ∧ limb_1_2.after args s (.returned v) u = true ∧ True) → FrameEnd s (.returned v) u (Jvm.fieldLocs frame_1_writes args s ++ Jvm.arrayLocs frame_1_arrays args s ++ Jvm.staticLocs frame_1_statics s) 48 192 → Post tb e args s (.returned v) u) :
    ArmFor flags0 classFile x code maxLocals ret World_1 tables_1 room_1 Calls_1 rest_1 Pre_1 Post := by
  intro l hfl _ _ p e ha hc hk s m args below hf hA hF happ hP
  obtain ⟨hcalls, hrest, hpre⟩ := hP
  obtain ⟨-, -, -, hnamed, -, -, -, hat⟩ := (Spec.applies_iff hf).mp happ
  obtain ⟨hg, hn⟩ := and_e (Cond.before_iff.mp (show (Jvm.Cond.and given_1 narrow_1).before args s = true from hpre))
  obtain ⟨gc, gr0⟩ := and_e hg
  obtain ⟨ga0, gr1⟩ := and_e gr0
  obtain ⟨ga1, gr2⟩ := and_e gr1
  obtain ⟨ga2, gr3⟩ := and_e gr2
  obtain ⟨ga3, gr4⟩ := and_e gr3
  obtain ⟨ga4, gr5⟩ := and_e gr4
  have ga5 := gr5
  obtain ⟨w0, w1, w2, w3, w4, w5, rfl⟩ : ∃ w0 w1 w2 w3 w4 w5 : Value, args = #[w0, w1, w2, w3, w4, w5] := by
    have hs : args.size = 6 := by simpa [Cond.value, given_1] using gc
    obtain ⟨L⟩ := args
    match L, hs with
    | [w0, w1, w2, w3, w4, w5], _ => exact ⟨w0, w1, w2, w3, w4, w5, rfl⟩
  have hw := fun d (hd : d ∈ tables_1) => atoms_spec (ws := Jvm.Cond.code x code maxLocals ret :: tables_1) hat d (List.mem_cons_of_mem _ hd)
  have hfit : Fit s := fun {y c} hc i hi => by
    obtain ⟨ha, rfl⟩ := Array.getElem?_eq_some_iff.mp hc
    have q := List.all_eq_true.mp ((Array.all_eq_true_iff_forall_mem.mp hF) _ (Array.getElem_mem ha)) i (List.mem_range.mpr hi)
    simpa [Array.getElem?_eq_getElem hi] using q
  obtain ⟨i0, ei0⟩ := is_v ga0
  obtain rfl : w0 = (.int i0) := Option.some.inj ei0
  obtain ⟨i1, ei1⟩ := is_v ga1
  obtain rfl : w1 = (.int i1) := Option.some.inj ei1
  obtain ⟨i2, ei2⟩ := is_v ga2
  obtain rfl : w2 = (.int i2) := Option.some.inj ei2
  obtain ⟨i3, ei3⟩ := is_v ga3
  obtain rfl : w3 = (.int i3) := Option.some.inj ei3
  obtain ⟨i4, ei4⟩ := is_v ga4
  obtain rfl : w4 = (.int i4) := Option.some.inj ei4
  obtain ⟨i5, ei5⟩ := is_v ga5
  obtain rfl : w5 = (.int i5) := Option.some.inj ei5
  obtain ⟨hsets, hown0⟩ := atoms_of _ (rest_1_c_eq ▸ (show rest_1_c.before _ s = true from hrest))
  obtain ⟨cs, ecs⟩ := is_v (Cond.before_iff.mp (hsets _ (List.mem_of_getElem? (i := 10) rfl)))
  have hcs := own_nz ecs (Cond.before_iff.mp (hsets _ (List.mem_of_getElem? (i := 11) rfl)))
  have SC := Sta.start ecs (Or.inl (hsets _ (List.mem_of_getElem? (i := 9) rfl)))
  obtain ⟨da, dc, vd, AD, zd, ld⟩ := own_arr (Cond.before_iff.mp (hsets _ (List.mem_of_getElem? (i := 6) rfl))) (Cond.before_iff.mp (hsets _ (List.mem_of_getElem? (i := 8) rfl)))
  have SD := Sta.start vd (Or.inr ⟨hw _ (List.mem_of_getElem? (i := 2) rfl), (hsets _ (List.mem_of_getElem? (i := 2) rfl))⟩)
  have VD : Arv s s.heap da dc.cls (.object "java/lang/Object") (0 : Int32) [] .null := Arv.start hfit AD zd ld (by decide) rfl trivial
  obtain ⟨n, o, h1, h2, h3, _, L, rfl, ⟨rfl, N⟩, hq⟩ := own_law l s _ hw tables_1 i0 i1 i2 i3 i4 i5 da dc.cls cs s.heap s.heap.size (Nat.le_refl _) (Old.start s) SD VD SC hcs p e ha hc hk s m _ below hf ((Spec.applies_iff_loose hf).mp happ).1 ⟨rfl, State.Warmed39.refl s, rfl⟩ trivial
  refine ⟨n, _, h1, h2, h3, hpost _ _ _ _ _ _ ⟨Cond.after_iff.mpr rfl, Cond.after_iff.mpr (eq_i res_at (Term.int_eval (1)) rfl), trivial⟩ ⟨hq.1, hq.2.1, (hq.2.2.sift fun y hy => Or.inr (N y hy)).mono (by decide) (by decide)⟩⟩
theorem main_1_1 : Claimed_1_1 := comes_1 fun _ _ _ _ _ _ h hF => ⟨h.1, hF⟩
theorem main_1_2 : Claimed_1_2 := comes_1 fun _ _ _ _ _ _ h hF => ⟨h.2.1, hF⟩
end Jvm.Pilot.@@N@@
namespace Jvm.Pilot.@@N@@
open Jvm Jvm.ClassFile Sem Op Lib Jvm.Free Jvm.Stand Jvm.Pilot.@@N@@.Jvm.D
/-! MADE BY PROGRAM (witnessworld.py) out of the Statement's table words and the real class files: 29 classes; the members and pool entries that the words name. The judged class is class 1, her method 1. -/
namespace start1
open Jvm.ClassFile
def u (s : String) : CpInfo := .utf8 (stringToUtf16 s)
/-- a pool by its gaps: so many unusable entries, then the entry; so many at the end -/
def gap : Nat → List CpInfo → List CpInfo
  | 0, r => r
  | n + 1, r => .unusable :: gap n r
def poolList (es : List (Nat × CpInfo)) (last : Nat) : List CpInfo := es.foldr (fun e r => gap e.1 (e.2 :: r)) (gap last [])
def pool (es : List (Nat × CpInfo)) (last : Nat) : Array CpInfo := ⟨poolList es last⟩
def fileOf (pool : Array CpInfo) (this : Nat) (attrs : Array Attribute := #[]) (ms : Array MethodInfo := #[]) (fl : Nat := 33) (sup : Nat := 0) (ifs : Array Nat := #[]) (fds : Array FieldInfo := #[]) : ClassFile where
  minorVersion := 0
  majorVersion := 65
  constantPool := pool
  accessFlags := fl
  thisClass := this
  superClass := sup
  interfaces := ifs
  fields := fds
  methods := ms
  attributes := attrs
def plain (name : String) (sup : Option ClassId) : Class where
  name := name
  kind := .ordinary
  loader := none
  accessFlags := 33
  super := sup
  interfaces := #[]
  cf := none
  fields := #[]
  methods := #[]
  instanceTypes := #[]
  staticTypes := #[]
  resolved := #[]
  callSites := []
  init := .initialized
  statics := none
  mirror := none

def pool0 : Array CpInfo := pool [(5, u "<init>"), (0, u "()V"), (1, .class_ 10), (1, u "java/lang/Object")] 113

def k0c0 : Code := { maxStack := 0, maxLocals := 1, code := object_method_1_code, exceptionTable := #[], attributes := #[] }
def k0m0 : Method := { name := "<init>", desc := "()V", sig := { parameters := [], returnType := none }, accessFlags := 1, code := some k0c0 }
/-- java/lang/Object -/
def k0 : Class := { plain "java/lang/Object" none with
  accessFlags := 33
  interfaces := #[]
  cf := some (fileOf pool0 8 #[] #[{ accessFlags := 1, nameIndex := 5, descriptorIndex := 6, attributes := #[] }] 33 0 #[] #[])
  fields := #[]
  methods := #[k0m0]
  instanceTypes := #[]
  staticTypes := #[]
  resolved := Array.replicate 124 none
  statics := none }

def pool1 : Array CpInfo := pool [(2, .class_ 4), (0, .nameAndType 5 6), (0, u "java/lang/Object"), (0, u "<init>"), (0, u "()V"), (0, .class_ 8), (0, u "java/util/ArrayList"), (0, .methodref 7 3), (0, .methodref 11 12), (0, .class_ 13), (0, .nameAndType 14 15), (0, u "java/lang/String"), (0, u "valueOf"), (0, u "(C)Ljava/lang/String;"), (0, .interfaceMethodref 17 18), (0, .class_ 19), (0, .nameAndType 20 21), (0, u "java/util/List"), (0, u "add"), (0, u "(Ljava/lang/Object;)Z"), (0, .class_ 23), (0, u "com/example/arpent/arpent/geom/Point"), (0, .methodref 22 25), (0, .nameAndType 5 26), (0, u "(Ljava/util/List;DD)V"), (0, .methodref 22 28), (0, .nameAndType 29 30), (0, u "samePlace"), (0, u "(Lcom/example/arpent/arpent/geom/Point;)Z"), (0, .class_ 32), (0, u "com/example/arpent/arpent/geom/PointSamePlacePinLaw"), (2, u "law"), (0, u "(IIIIII)Z")] 3

def k1m0 : Method := { name := "<init>", desc := "()V", sig := { parameters := [], returnType := none }, accessFlags := 1, code := none }
def k1c1 : Code := { maxStack := 7, maxLocals := 13, code := code, exceptionTable := #[], attributes := #[] }
def k1m1 : Method := { name := "law", desc := "(IIIIII)Z", sig := { parameters := [.int, .int, .int, .int, .int, .int], returnType := some .boolean }, accessFlags := 9, code := some k1c1 }
/-- com/example/arpent/arpent/geom/PointSamePlacePinLaw -/
def k1 : Class := { plain "com/example/arpent/arpent/geom/PointSamePlacePinLaw" (some 0) with
  accessFlags := 49
  interfaces := #[]
  cf := some (fileOf pool1 31 #[] #[{ accessFlags := 1, nameIndex := 5, descriptorIndex := 6, attributes := #[] }, { accessFlags := 9, nameIndex := 35, descriptorIndex := 36, attributes := #[] }] 49 2 #[] #[])
  fields := #[]
  methods := #[k1m0, k1m1]
  instanceTypes := #[]
  staticTypes := #[]
  resolved := Array.replicate 40 none
  statics := none }

def pool2 : Array CpInfo := pool [(8, .class_ 10), (1, u "java/lang/Iterable"), (24, .class_ 36), (0, u "java/lang/Object")] 25

/-- java/lang/Iterable -/
def k2 : Class := { plain "java/lang/Iterable" (some 0) with
  accessFlags := 1537
  interfaces := #[]
  cf := some (fileOf pool2 8 #[] #[] 1537 35 #[] #[])
  fields := #[]
  methods := #[]
  instanceTypes := #[]
  staticTypes := #[]
  resolved := Array.replicate 62 none
  statics := none }

def pool3 : Array CpInfo := pool [(10, .class_ 12), (1, u "java/util/Collection"), (47, .class_ 61), (0, u "java/lang/Object"), (0, .class_ 63), (0, u "java/lang/Iterable")] 51

/-- java/util/Collection -/
def k3 : Class := { plain "java/util/Collection" (some 0) with
  accessFlags := 1537
  interfaces := #[2]
  cf := some (fileOf pool3 10 #[] #[] 1537 60 #[62] #[])
  fields := #[]
  methods := #[]
  instanceTypes := #[]
  staticTypes := #[]
  resolved := Array.replicate 115 none
  statics := none }

def pool4 : Array CpInfo := pool [(1, .methodref 2 3), (0, .class_ 4), (0, .nameAndType 5 6), (0, u "java/lang/Object"), (0, u "<init>"), (0, u "()V"), (1, .class_ 10), (1, u "java/util/AbstractCollection"), (66, .class_ 78), (0, u "java/util/Collection")] 81

def k4c0 : Code := { maxStack := 1, maxLocals := 1, code := jdk_22_method_1_code, exceptionTable := #[], attributes := #[] }
def k4m0 : Method := { name := "<init>", desc := "()V", sig := { parameters := [], returnType := none }, accessFlags := 4, code := some k4c0 }
/-- java/util/AbstractCollection -/
def k4 : Class := { plain "java/util/AbstractCollection" (some 0) with
  accessFlags := 1057
  interfaces := #[3]
  cf := some (fileOf pool4 8 #[] #[{ accessFlags := 4, nameIndex := 5, descriptorIndex := 6, attributes := #[] }] 1057 2 #[77] #[])
  fields := #[]
  methods := #[k4m0]
  instanceTypes := #[]
  staticTypes := #[]
  resolved := Array.replicate 160 none
  statics := none }

def pool5 : Array CpInfo := pool [(8, .class_ 10), (1, u "java/util/SequencedCollection"), (15, .class_ 27), (0, u "java/lang/Object"), (0, .class_ 29), (0, u "java/util/Collection")] 27

/-- java/util/SequencedCollection -/
def k5 : Class := { plain "java/util/SequencedCollection" (some 0) with
  accessFlags := 1537
  interfaces := #[3]
  cf := some (fileOf pool5 8 #[] #[] 1537 26 #[28] #[])
  fields := #[]
  methods := #[]
  instanceTypes := #[]
  staticTypes := #[]
  resolved := Array.replicate 57 none
  statics := none }

def pool6 : Array CpInfo := pool [(8, .class_ 10), (1, u "java/util/List"), (49, u "add"), (3, u "(Ljava/lang/Object;)Z"), (38, .class_ 104), (0, u "java/lang/Object"), (15, .class_ 121), (0, u "java/util/SequencedCollection")] 129

def k6m0 : Method := { name := "add", desc := "(Ljava/lang/Object;)Z", sig := { parameters := [(.object "java/lang/Object")], returnType := some .boolean }, accessFlags := 1025, code := none }
/-- java/util/List -/
def k6 : Class := { plain "java/util/List" (some 0) with
  accessFlags := 1537
  interfaces := #[5]
  cf := some (fileOf pool6 8 #[] #[{ accessFlags := 1025, nameIndex := 60, descriptorIndex := 64, attributes := #[] }] 1537 103 #[120] #[])
  fields := #[]
  methods := #[k6m0]
  instanceTypes := #[]
  staticTypes := #[]
  resolved := Array.replicate 251 none
  statics := none }

def pool7 : Array CpInfo := pool [(1, .methodref 2 3), (0, .class_ 4), (0, .nameAndType 5 6), (0, u "java/util/AbstractCollection"), (0, u "<init>"), (0, u "()V"), (0, .fieldref 8 9), (0, .class_ 10), (0, .nameAndType 11 12), (0, u "java/util/AbstractList"), (0, u "modCount"), (0, u "I"), (64, .class_ 78), (0, u "java/util/AbstractList$Itr"), (3, .class_ 83), (0, u "java/util/AbstractList$ListItr"), (9, .class_ 94), (0, u "java/util/AbstractList$RandomAccessSubList"), (3, .class_ 99), (0, u "java/util/AbstractList$SubList"), (33, .class_ 134), (0, u "java/util/List"), (73, .class_ 209), (0, u "java/util/AbstractList$SubList$1"), (0, .class_ 211), (0, u "java/util/AbstractList$RandomAccessSpliterator")] 6

def k7c0 : Code := { maxStack := 2, maxLocals := 1, code := jdk_39_method_1_code, exceptionTable := #[], attributes := #[] }
def k7m0 : Method := { name := "<init>", desc := "()V", sig := { parameters := [], returnType := none }, accessFlags := 4, code := some k7c0 }
/-- java/util/AbstractList -/
def k7 : Class := { plain "java/util/AbstractList" (some 4) with
  accessFlags := 1057
  interfaces := #[6]
  cf := some (fileOf pool7 8 #[.nestMembers #[93, 98, 208, 210, 82, 77]] #[{ accessFlags := 4, nameIndex := 5, descriptorIndex := 6, attributes := #[] }] 1057 2 #[133] #[{ accessFlags := 132, nameIndex := 11, descriptorIndex := 12, attributes := #[] }])
  fields := #[{ name := "modCount", type := .int, accessFlags := 132, slot := 0, constantValue := 0 }]
  methods := #[k7m0]
  instanceTypes := #[.int]
  staticTypes := #[]
  resolved := Array.replicate 218 none
  statics := none }

def pool8 : Array CpInfo := pool [(1, .class_ 2), (0, u "java/util/RandomAccess"), (0, .class_ 4), (0, u "java/lang/Object")] 2

/-- java/util/RandomAccess -/
def k8 : Class := { plain "java/util/RandomAccess" (some 0) with
  accessFlags := 1537
  interfaces := #[]
  cf := some (fileOf pool8 1 #[] #[] 1537 3 #[] #[])
  fields := #[]
  methods := #[]
  instanceTypes := #[]
  staticTypes := #[]
  resolved := Array.replicate 7 none
  statics := none }

def pool9 : Array CpInfo := pool [(1, .class_ 2), (0, u "java/lang/Cloneable"), (0, .class_ 4), (0, u "java/lang/Object")] 2

/-- java/lang/Cloneable -/
def k9 : Class := { plain "java/lang/Cloneable" (some 0) with
  accessFlags := 1537
  interfaces := #[]
  cf := some (fileOf pool9 1 #[] #[] 1537 3 #[] #[])
  fields := #[]
  methods := #[]
  instanceTypes := #[]
  staticTypes := #[]
  resolved := Array.replicate 7 none
  statics := none }

def pool10 : Array CpInfo := pool [(1, .class_ 2), (0, u "java/io/Serializable"), (0, .class_ 4), (0, u "java/lang/Object")] 2

/-- java/io/Serializable -/
def k10 : Class := { plain "java/io/Serializable" (some 0) with
  accessFlags := 1537
  interfaces := #[]
  cf := some (fileOf pool10 1 #[] #[] 1537 3 #[] #[])
  fields := #[]
  methods := #[]
  instanceTypes := #[]
  staticTypes := #[]
  resolved := Array.replicate 7 none
  statics := none }

def pool11 : Array CpInfo := pool [(1, .methodref 2 3), (0, .class_ 4), (0, .nameAndType 5 6), (0, u "java/util/AbstractList"), (0, u "<init>"), (0, u "()V"), (0, .class_ 8), (0, u "java/lang/Object"), (0, .fieldref 10 11), (0, .class_ 12), (0, .nameAndType 13 14), (0, u "java/util/ArrayList"), (0, u "elementData"), (0, u "[Ljava/lang/Object;"), (2, u "EMPTY_ELEMENTDATA"), (21, .fieldref 10 40), (0, .nameAndType 41 14), (0, u "DEFAULTCAPACITY_EMPTY_ELEMENTDATA"), (5, u "()[Ljava/lang/Object;"), (0, .fieldref 10 49), (0, .nameAndType 50 51), (0, u "size"), (0, u "I"), (11, .fieldref 10 64), (0, .nameAndType 65 51), (0, u "modCount"), (3, .methodref 10 70), (0, .nameAndType 71 72), (0, u "grow"), (0, u "(I)[Ljava/lang/Object;"), (6, .methodref 80 81), (0, .class_ 82), (0, .nameAndType 83 84), (0, u "java/lang/Math"), (0, u "max"), (0, u "(II)I"), (11, u "(Ljava/lang/Object;)Z"), (32, .methodref 10 130), (0, .nameAndType 71 47), (0, .methodref 10 132), (0, .nameAndType 133 134), (0, u "add"), (0, u "(Ljava/lang/Object;[Ljava/lang/Object;I)V"), (13, .class_ 149), (0, u "java/util/List"), (112, .class_ 263), (0, u "java/util/ArrayList$ListItr"), (3, .class_ 268), (0, u "java/util/ArrayList$Itr"), (7, .class_ 277), (0, u "java/util/ArrayList$SubList"), (12, .class_ 291), (0, u "java/util/ArrayList$ArrayListSpliterator"), (37, .class_ 330), (0, u "java/util/RandomAccess"), (0, .class_ 332), (0, u "java/lang/Cloneable"), (0, .class_ 334), (0, u "java/io/Serializable"), (0, u "serialVersionUID"), (0, u "J"), (3, u "DEFAULT_CAPACITY"), (159, .class_ 501), (0, u "java/util/ArrayList$SubList$2"), (0, .class_ 503), (0, u "java/util/ArrayList$SubList$1")] 5

def k11c0 : Code := { maxStack := 2, maxLocals := 1, code := jdk_38_method_2_code, exceptionTable := #[], attributes := #[] }
def k11m0 : Method := { name := "<init>", desc := "()V", sig := { parameters := [], returnType := none }, accessFlags := 1, code := some k11c0 }
def k11c1 : Code := { maxStack := 4, maxLocals := 4, code := jdk_38_method_6_code, exceptionTable := #[], attributes := #[] }
def k11m1 : Method := { name := "grow", desc := "(I)[Ljava/lang/Object;", sig := { parameters := [.int], returnType := some (.array (.object "java/lang/Object")) }, accessFlags := 2, code := some k11c1 }
def k11c2 : Code := { maxStack := 3, maxLocals := 1, code := jdk_38_method_7_code, exceptionTable := #[], attributes := #[] }
def k11m2 : Method := { name := "grow", desc := "()[Ljava/lang/Object;", sig := { parameters := [], returnType := some (.array (.object "java/lang/Object")) }, accessFlags := 2, code := some k11c2 }
def k11c3 : Code := { maxStack := 3, maxLocals := 4, code := jdk_38_method_24_code, exceptionTable := #[], attributes := #[] }
def k11m3 : Method := { name := "add", desc := "(Ljava/lang/Object;[Ljava/lang/Object;I)V", sig := { parameters := [(.object "java/lang/Object"), (.array (.object "java/lang/Object")), .int], returnType := none }, accessFlags := 2, code := some k11c3 }
def k11c4 : Code := { maxStack := 4, maxLocals := 2, code := jdk_38_method_25_code, exceptionTable := #[], attributes := #[] }
def k11m4 : Method := { name := "add", desc := "(Ljava/lang/Object;)Z", sig := { parameters := [(.object "java/lang/Object")], returnType := some .boolean }, accessFlags := 1, code := some k11c4 }
/-- java/util/ArrayList -/
def k11 : Class := { plain "java/util/ArrayList" (some 7) with
  accessFlags := 33
  interfaces := #[6, 8, 9, 10]
  cf := some (fileOf pool11 10 #[.nestMembers #[290, 276, 500, 502, 262, 267]] #[{ accessFlags := 1, nameIndex := 5, descriptorIndex := 6, attributes := #[] }, { accessFlags := 2, nameIndex := 71, descriptorIndex := 72, attributes := #[] }, { accessFlags := 2, nameIndex := 71, descriptorIndex := 47, attributes := #[] }, { accessFlags := 2, nameIndex := 133, descriptorIndex := 134, attributes := #[] }, { accessFlags := 1, nameIndex := 133, descriptorIndex := 96, attributes := #[] }] 33 2 #[148, 329, 331, 333] #[{ accessFlags := 26, nameIndex := 335, descriptorIndex := 336, attributes := #[] }, { accessFlags := 26, nameIndex := 340, descriptorIndex := 51, attributes := #[] }, { accessFlags := 26, nameIndex := 17, descriptorIndex := 14, attributes := #[] }, { accessFlags := 26, nameIndex := 41, descriptorIndex := 14, attributes := #[] }, { accessFlags := 128, nameIndex := 13, descriptorIndex := 14, attributes := #[] }, { accessFlags := 2, nameIndex := 50, descriptorIndex := 51, attributes := #[] }])
  fields := #[{ name := "serialVersionUID", type := .long, accessFlags := 26, slot := 0, constantValue := 0 }, { name := "DEFAULT_CAPACITY", type := .int, accessFlags := 26, slot := 1, constantValue := 0 }, { name := "EMPTY_ELEMENTDATA", type := (.array (.object "java/lang/Object")), accessFlags := 26, slot := 2, constantValue := 0 }, { name := "DEFAULTCAPACITY_EMPTY_ELEMENTDATA", type := (.array (.object "java/lang/Object")), accessFlags := 26, slot := 3, constantValue := 0 }, { name := "elementData", type := (.array (.object "java/lang/Object")), accessFlags := 128, slot := 1, constantValue := 0 }, { name := "size", type := .int, accessFlags := 2, slot := 2, constantValue := 0 }]
  methods := #[k11m0, k11m1, k11m2, k11m3, k11m4]
  instanceTypes := #[.int, (.array (.object "java/lang/Object")), .int]
  staticTypes := #[.long, .int, (.array (.object "java/lang/Object")), (.array (.object "java/lang/Object"))]
  resolved := Array.replicate 509 none
  statics := some 0 }

def pool12 : Array CpInfo := pool [(1, .class_ 2), (0, u "java/lang/Comparable"), (0, .class_ 4), (0, u "java/lang/Object")] 7

/-- java/lang/Comparable -/
def k12 : Class := { plain "java/lang/Comparable" (some 0) with
  accessFlags := 1537
  interfaces := #[]
  cf := some (fileOf pool12 1 #[] #[] 1537 3 #[] #[])
  fields := #[]
  methods := #[]
  instanceTypes := #[]
  staticTypes := #[]
  resolved := Array.replicate 12 none
  statics := none }

def pool13 : Array CpInfo := pool [(2, .class_ 4), (1, u "java/lang/CharSequence"), (42, .class_ 48), (0, u "java/lang/CharSequence$1CodePointIterator"), (10, .class_ 60), (0, u "java/lang/CharSequence$1CharIterator"), (5, .class_ 67), (0, u "java/lang/Object")] 63

/-- java/lang/CharSequence -/
def k13 : Class := { plain "java/lang/CharSequence" (some 0) with
  accessFlags := 1537
  interfaces := #[]
  cf := some (fileOf pool13 2 #[.nestMembers #[47, 59]] #[] 1537 66 #[] #[])
  fields := #[]
  methods := #[]
  instanceTypes := #[]
  staticTypes := #[]
  resolved := Array.replicate 131 none
  statics := none }

def pool14 : Array CpInfo := pool [(1, .class_ 2), (0, u "java/lang/constant/Constable"), (0, .class_ 4), (0, u "java/lang/Object")] 6

/-- java/lang/constant/Constable -/
def k14 : Class := { plain "java/lang/constant/Constable" (some 0) with
  accessFlags := 1537
  interfaces := #[]
  cf := some (fileOf pool14 1 #[] #[] 1537 3 #[] #[])
  fields := #[]
  methods := #[]
  instanceTypes := #[]
  staticTypes := #[]
  resolved := Array.replicate 11 none
  statics := none }

def pool15 : Array CpInfo := pool [(1, .class_ 2), (0, u "java/lang/constant/ConstantDesc"), (0, .class_ 4), (0, u "java/lang/Object")] 32

/-- java/lang/constant/ConstantDesc -/
def k15 : Class := { plain "java/lang/constant/ConstantDesc" (some 0) with
  accessFlags := 1537
  interfaces := #[]
  cf := some (fileOf pool15 1 #[] #[] 1537 3 #[] #[])
  fields := #[]
  methods := #[]
  instanceTypes := #[]
  staticTypes := #[]
  resolved := Array.replicate 37 none
  statics := none }

def pool16 : Array CpInfo := pool [(1, .methodref 2 3), (0, .class_ 4), (0, .nameAndType 5 6), (0, u "java/lang/Object"), (0, u "<init>"), (0, u "()V"), (2, .fieldref 10 11), (0, .class_ 12), (0, .nameAndType 13 14), (0, u "java/lang/String"), (0, u "value"), (0, u "[B"), (0, .fieldref 10 16), (0, .nameAndType 17 18), (0, u "coder"), (0, u "B"), (2, u "hash"), (0, u "I"), (2, u "hashIsZero"), (0, u "Z"), (11, .fieldref 10 39), (0, .nameAndType 40 26), (0, u "COMPACT_STRINGS"), (12, u "toBytes"), (53, .class_ 109), (1, u "java/lang/StringLatin1"), (99, .methodref 10 210), (0, .nameAndType 5 211), (0, u "([BB)V"), (157, u "(C)Z"), (205, .class_ 576), (0, u "java/lang/CharSequence"), (22, u "CASE_INSENSITIVE_ORDER"), (0, u "Ljava/util/Comparator;"), (181, u "valueOf"), (0, u "(C)Ljava/lang/String;"), (231, .methodref 107 1016), (0, .nameAndType 1017 369), (0, u "canEncode"), (0, .methodref 107 1019), (0, .nameAndType 53 1020), (0, u "(C)[B"), (80, u "serialPersistentFields"), (0, u "[Ljava/io/ObjectStreamField;"), (0, .class_ 1104), (0, u "java/lang/String$CaseInsensitiveComparator"), (1, .class_ 1107), (0, u "java/io/Serializable"), (0, .class_ 1109), (0, u "java/lang/Comparable"), (0, .class_ 1111), (0, u "java/lang/constant/Constable"), (0, .class_ 1113), (0, u "java/lang/constant/ConstantDesc"), (2, u "serialVersionUID"), (0, u "J"), (3, u "REPL"), (0, u "C"), (2, u "LATIN1"), (1, u "UTF16")] 323

def k16m0 : Method := { name := "<init>", desc := "()V", sig := { parameters := [], returnType := none }, accessFlags := 1, code := none }
def k16c1 : Code := { maxStack := 4, maxLocals := 1, code := jdk_42_method_139_code, exceptionTable := #[], attributes := #[] }
def k16m1 : Method := { name := "valueOf", desc := "(C)Ljava/lang/String;", sig := { parameters := [.char], returnType := some (.object "java/lang/String") }, accessFlags := 9, code := some k16c1 }
def k16c2 : Code := { maxStack := 2, maxLocals := 3, code := jdk_42_method_151_code, exceptionTable := #[], attributes := #[] }
def k16m2 : Method := { name := "<init>", desc := "([BB)V", sig := { parameters := [(.array .byte), .byte], returnType := none }, accessFlags := 0, code := some k16c2 }
/-- java/lang/String -/
def k16 : Class := { plain "java/lang/String" (some 0) with
  accessFlags := 49
  interfaces := #[10, 12, 13, 14, 15]
  cf := some (fileOf pool16 10 #[.nestMembers #[1103]] #[{ accessFlags := 1, nameIndex := 5, descriptorIndex := 6, attributes := #[] }, { accessFlags := 9, nameIndex := 782, descriptorIndex := 783, attributes := #[] }, { accessFlags := 0, nameIndex := 5, descriptorIndex := 211, attributes := #[] }] 49 2 #[1106, 1108, 575, 1110, 1112] #[{ accessFlags := 18, nameIndex := 13, descriptorIndex := 14, attributes := #[] }, { accessFlags := 18, nameIndex := 17, descriptorIndex := 18, attributes := #[] }, { accessFlags := 2, nameIndex := 21, descriptorIndex := 22, attributes := #[] }, { accessFlags := 2, nameIndex := 25, descriptorIndex := 26, attributes := #[] }, { accessFlags := 26, nameIndex := 1116, descriptorIndex := 1117, attributes := #[] }, { accessFlags := 24, nameIndex := 40, descriptorIndex := 26, attributes := #[] }, { accessFlags := 26, nameIndex := 1101, descriptorIndex := 1102, attributes := #[] }, { accessFlags := 26, nameIndex := 1121, descriptorIndex := 1122, attributes := #[] }, { accessFlags := 25, nameIndex := 599, descriptorIndex := 600, attributes := #[] }, { accessFlags := 24, nameIndex := 1125, descriptorIndex := 18, attributes := #[] }, { accessFlags := 24, nameIndex := 1127, descriptorIndex := 18, attributes := #[] }])
  fields := #[{ name := "value", type := (.array .byte), accessFlags := 18, slot := 0, constantValue := 0 }, { name := "coder", type := .byte, accessFlags := 18, slot := 1, constantValue := 0 }, { name := "hash", type := .int, accessFlags := 2, slot := 2, constantValue := 0 }, { name := "hashIsZero", type := .boolean, accessFlags := 2, slot := 3, constantValue := 0 }, { name := "serialVersionUID", type := .long, accessFlags := 26, slot := 0, constantValue := 0 }, { name := "COMPACT_STRINGS", type := .boolean, accessFlags := 24, slot := 1, constantValue := 0 }, { name := "serialPersistentFields", type := (.array (.object "java/io/ObjectStreamField")), accessFlags := 26, slot := 2, constantValue := 0 }, { name := "REPL", type := .char, accessFlags := 26, slot := 3, constantValue := 0 }, { name := "CASE_INSENSITIVE_ORDER", type := (.object "java/util/Comparator"), accessFlags := 25, slot := 4, constantValue := 0 }, { name := "LATIN1", type := .byte, accessFlags := 24, slot := 5, constantValue := 0 }, { name := "UTF16", type := .byte, accessFlags := 24, slot := 6, constantValue := 0 }]
  methods := #[k16m0, k16m1, k16m2]
  instanceTypes := #[(.array .byte), .byte, .int, .boolean]
  staticTypes := #[.long, .boolean, (.array (.object "java/io/ObjectStreamField")), .char, (.object "java/util/Comparator"), .byte, .byte]
  resolved := Array.replicate 1451 none
  statics := some 1 }

def pool17 : Array CpInfo := pool [(4, .class_ 6), (1, u "java/lang/Object"), (0, u "<init>"), (0, u "()V"), (5, .class_ 16), (1, u "java/lang/StringLatin1"), (73, u "canEncode"), (14, u "(C)Z"), (15, u "$assertionsDisabled"), (0, u "Z"), (98, .class_ 223), (1, u "java/lang/StringLatin1$LinesSpliterator"), (156, u "toBytes"), (1, u "(C)[B"), (7, .class_ 391), (0, u "java/lang/StringLatin1$CharsSpliterator")] 3

def k17m0 : Method := { name := "<init>", desc := "()V", sig := { parameters := [], returnType := none }, accessFlags := 0, code := none }
def k17c1 : Code := { maxStack := 2, maxLocals := 1, code := jdk_43_method_3_code, exceptionTable := #[], attributes := #[] }
def k17m1 : Method := { name := "canEncode", desc := "(C)Z", sig := { parameters := [.char], returnType := some .boolean }, accessFlags := 9, code := some k17c1 }
def k17c2 : Code := { maxStack := 4, maxLocals := 1, code := jdk_43_method_46_code, exceptionTable := #[], attributes := #[] }
def k17m2 : Method := { name := "toBytes", desc := "(C)[B", sig := { parameters := [.char], returnType := some (.array .byte) }, accessFlags := 9, code := some k17c2 }
/-- java/lang/StringLatin1 -/
def k17 : Class := { plain "java/lang/StringLatin1" (some 0) with
  accessFlags := 48
  interfaces := #[]
  cf := some (fileOf pool17 14 #[.nestMembers #[390, 221]] #[{ accessFlags := 0, nameIndex := 7, descriptorIndex := 8, attributes := #[] }, { accessFlags := 9, nameIndex := 90, descriptorIndex := 105, attributes := #[] }, { accessFlags := 9, nameIndex := 380, descriptorIndex := 382, attributes := #[] }] 48 4 #[] #[{ accessFlags := 4120, nameIndex := 121, descriptorIndex := 122, attributes := #[] }])
  fields := #[{ name := "$assertionsDisabled", type := .boolean, accessFlags := 4120, slot := 0, constantValue := 0 }]
  methods := #[k17m0, k17m1, k17m2]
  instanceTypes := #[]
  staticTypes := #[.boolean]
  resolved := Array.replicate 395 none
  statics := none }

def pool18 : Array CpInfo := pool [(1, .class_ 2), (0, u "java/lang/Math"), (1, .class_ 6), (1, u "java/lang/Object"), (0, u "<init>"), (0, u "()V"), (89, .class_ 100), (1, u "java/lang/Math$RandomNumberGeneratorHolder"), (71, u "negativeZeroFloatBits"), (0, u "J"), (2, u "negativeZeroDoubleBits"), (21, u "max"), (46, u "$assertionsDisabled"), (0, u "Z"), (88, u "(II)I"), (2, u "twoToTheDoubleScaleDown"), (0, u "D"), (4, u "twoToTheDoubleScaleUp"), (9, u "E"), (3, u "PI"), (2, u "TAU"), (2, u "DEGREES_TO_RADIANS"), (0, u "RADIANS_TO_DEGREES")] 94

def k18m0 : Method := { name := "<init>", desc := "()V", sig := { parameters := [], returnType := none }, accessFlags := 2, code := none }
def k18c1 : Code := { maxStack := 2, maxLocals := 2, code := jdk_29_method_65_code, exceptionTable := #[], attributes := #[] }
def k18m1 : Method := { name := "max", desc := "(II)I", sig := { parameters := [.int, .int], returnType := some .int }, accessFlags := 9, code := some k18c1 }
/-- java/lang/Math -/
def k18 : Class := { plain "java/lang/Math" (some 0) with
  accessFlags := 49
  interfaces := #[]
  cf := some (fileOf pool18 1 #[.nestMembers #[98]] #[{ accessFlags := 2, nameIndex := 7, descriptorIndex := 8, attributes := #[] }, { accessFlags := 9, nameIndex := 198, descriptorIndex := 335, attributes := #[] }] 49 4 #[] #[{ accessFlags := 25, nameIndex := 354, descriptorIndex := 339, attributes := #[] }, { accessFlags := 25, nameIndex := 358, descriptorIndex := 339, attributes := #[] }, { accessFlags := 25, nameIndex := 361, descriptorIndex := 339, attributes := #[] }, { accessFlags := 26, nameIndex := 364, descriptorIndex := 339, attributes := #[] }, { accessFlags := 26, nameIndex := 365, descriptorIndex := 339, attributes := #[] }, { accessFlags := 26, nameIndex := 172, descriptorIndex := 173, attributes := #[] }, { accessFlags := 26, nameIndex := 176, descriptorIndex := 173, attributes := #[] }, { accessFlags := 8, nameIndex := 344, descriptorIndex := 339, attributes := #[] }, { accessFlags := 8, nameIndex := 338, descriptorIndex := 339, attributes := #[] }, { accessFlags := 4120, nameIndex := 245, descriptorIndex := 246, attributes := #[] }])
  fields := #[{ name := "E", type := .double, accessFlags := 25, slot := 0, constantValue := 0 }, { name := "PI", type := .double, accessFlags := 25, slot := 1, constantValue := 0 }, { name := "TAU", type := .double, accessFlags := 25, slot := 2, constantValue := 0 }, { name := "DEGREES_TO_RADIANS", type := .double, accessFlags := 26, slot := 3, constantValue := 0 }, { name := "RADIANS_TO_DEGREES", type := .double, accessFlags := 26, slot := 4, constantValue := 0 }, { name := "negativeZeroFloatBits", type := .long, accessFlags := 26, slot := 5, constantValue := 0 }, { name := "negativeZeroDoubleBits", type := .long, accessFlags := 26, slot := 6, constantValue := 0 }, { name := "twoToTheDoubleScaleUp", type := .double, accessFlags := 8, slot := 7, constantValue := 0 }, { name := "twoToTheDoubleScaleDown", type := .double, accessFlags := 8, slot := 8, constantValue := 0 }, { name := "$assertionsDisabled", type := .boolean, accessFlags := 4120, slot := 9, constantValue := 0 }]
  methods := #[k18m0, k18m1]
  instanceTypes := #[]
  staticTypes := #[.double, .double, .double, .double, .double, .long, .long, .double, .double, .boolean]
  resolved := Array.replicate 460 none
  statics := none }

def pool19 : Array CpInfo := pool [(1, .methodref 2 3), (0, .class_ 4), (0, .nameAndType 5 6), (0, u "java/lang/Object"), (0, u "<init>"), (0, u "()V"), (0, .class_ 8), (0, u "java/lang/Record")] 13

def k19c0 : Code := { maxStack := 1, maxLocals := 1, code := jdk_30_method_1_code, exceptionTable := #[], attributes := #[] }
def k19m0 : Method := { name := "<init>", desc := "()V", sig := { parameters := [], returnType := none }, accessFlags := 4, code := some k19c0 }
/-- java/lang/Record -/
def k19 : Class := { plain "java/lang/Record" (some 0) with
  accessFlags := 1057
  interfaces := #[]
  cf := some (fileOf pool19 7 #[] #[{ accessFlags := 4, nameIndex := 5, descriptorIndex := 6, attributes := #[] }] 1057 2 #[] #[])
  fields := #[]
  methods := #[k19m0]
  instanceTypes := #[]
  staticTypes := #[]
  resolved := Array.replicate 22 none
  statics := none }

def pool20 : Array CpInfo := pool [(1, .class_ 2), (0, u "com/example/arpent/arpent/geom/Geometry"), (0, .class_ 4), (0, u "java/lang/Object")] 11

/-- com/example/arpent/arpent/geom/Geometry -/
def k20 : Class := { plain "com/example/arpent/arpent/geom/Geometry" (some 0) with
  accessFlags := 1537
  interfaces := #[]
  cf := some (fileOf pool20 1 #[] #[] 1537 3 #[] #[])
  fields := #[]
  methods := #[]
  instanceTypes := #[]
  staticTypes := #[]
  resolved := Array.replicate 16 none
  statics := none }

def pool21 : Array CpInfo := pool [(1, .methodref 2 3), (0, .class_ 4), (0, .nameAndType 5 6), (0, u "java/lang/Record"), (0, u "<init>"), (0, u "()V"), (0, .fieldref 8 9), (0, .class_ 10), (0, .nameAndType 11 12), (0, u "com/example/arpent/arpent/geom/Point"), (0, u "coordinates"), (0, u "Ljava/util/List;"), (0, .fieldref 8 14), (0, .nameAndType 15 16), (0, u "x"), (0, u "D"), (0, .fieldref 8 18), (0, .nameAndType 19 16), (0, u "y"), (54, u "(Ljava/util/List;DD)V"), (26, .class_ 102), (0, u "com/example/arpent/arpent/geom/Geometry"), (11, u "samePlace"), (0, u "(Lcom/example/arpent/arpent/geom/Point;)Z")] 37

def k21c0 : Code := { maxStack := 3, maxLocals := 6, code := prog_57_method_1_code, exceptionTable := #[], attributes := #[] }
def k21m0 : Method := { name := "<init>", desc := "(Ljava/util/List;DD)V", sig := { parameters := [(.object "java/util/List"), .double, .double], returnType := none }, accessFlags := 1, code := some k21c0 }
def k21c1 : Code := { maxStack := 4, maxLocals := 2, code := prog_57_method_4_code, exceptionTable := #[], attributes := #[] }
def k21m1 : Method := { name := "samePlace", desc := "(Lcom/example/arpent/arpent/geom/Point;)Z", sig := { parameters := [(.object "com/example/arpent/arpent/geom/Point")], returnType := some .boolean }, accessFlags := 1, code := some k21c1 }
/-- com/example/arpent/arpent/geom/Point -/
def k21 : Class := { plain "com/example/arpent/arpent/geom/Point" (some 19) with
  accessFlags := 49
  interfaces := #[20]
  cf := some (fileOf pool21 8 #[] #[{ accessFlags := 1, nameIndex := 5, descriptorIndex := 74, attributes := #[] }, { accessFlags := 1, nameIndex := 114, descriptorIndex := 115, attributes := #[] }] 49 2 #[101] #[{ accessFlags := 18, nameIndex := 11, descriptorIndex := 12, attributes := #[] }, { accessFlags := 18, nameIndex := 15, descriptorIndex := 16, attributes := #[] }, { accessFlags := 18, nameIndex := 19, descriptorIndex := 16, attributes := #[] }])
  fields := #[{ name := "coordinates", type := (.object "java/util/List"), accessFlags := 18, slot := 0, constantValue := 0 }, { name := "x", type := .double, accessFlags := 18, slot := 1, constantValue := 0 }, { name := "y", type := .double, accessFlags := 18, slot := 2, constantValue := 0 }]
  methods := #[k21m0, k21m1]
  instanceTypes := #[(.object "java/util/List"), .double, .double]
  staticTypes := #[]
  resolved := Array.replicate 153 none
  statics := none }

def pool22 : Array CpInfo := pool [(2, .class_ 4), (1, u "java/lang/Object"), (0, u "<init>"), (0, u "()V"), (17, .class_ 26), (1, u "jdk/internal/util/Preconditions"), (28, .class_ 56), (0, u "jdk/internal/util/Preconditions$4"), (57, .class_ 115), (0, u "jdk/internal/util/Preconditions$1"), (7, u "SIOOBE_FORMATTER"), (0, u "Ljava/util/function/BiFunction;"), (0, .class_ 126), (0, u "jdk/internal/util/Preconditions$2"), (3, u "AIOOBE_FORMATTER"), (0, .class_ 132), (0, u "jdk/internal/util/Preconditions$3"), (3, u "IOOBE_FORMATTER")] 57

def k22m0 : Method := { name := "<init>", desc := "()V", sig := { parameters := [], returnType := none }, accessFlags := 1, code := none }
/-- jdk/internal/util/Preconditions -/
def k22 : Class := { plain "jdk/internal/util/Preconditions" (some 0) with
  accessFlags := 33
  interfaces := #[]
  cf := some (fileOf pool22 24 #[.nestMembers #[55, 131, 125, 114]] #[{ accessFlags := 1, nameIndex := 5, descriptorIndex := 6, attributes := #[] }] 33 2 #[] #[{ accessFlags := 25, nameIndex := 123, descriptorIndex := 124, attributes := #[] }, { accessFlags := 25, nameIndex := 130, descriptorIndex := 124, attributes := #[] }, { accessFlags := 25, nameIndex := 136, descriptorIndex := 124, attributes := #[] }])
  fields := #[{ name := "SIOOBE_FORMATTER", type := (.object "java/util/function/BiFunction"), accessFlags := 25, slot := 0, constantValue := 0 }, { name := "AIOOBE_FORMATTER", type := (.object "java/util/function/BiFunction"), accessFlags := 25, slot := 1, constantValue := 0 }, { name := "IOOBE_FORMATTER", type := (.object "java/util/function/BiFunction"), accessFlags := 25, slot := 2, constantValue := 0 }]
  methods := #[k22m0]
  instanceTypes := #[]
  staticTypes := #[(.object "java/util/function/BiFunction"), (.object "java/util/function/BiFunction"), (.object "java/util/function/BiFunction")]
  resolved := Array.replicate 194 none
  statics := some 2 }

def pool23 : Array CpInfo := pool [(9, u "<init>"), (6, .class_ 18), (1, u "java/lang/Object"), (0, u "()V"), (1, .class_ 23), (1, u "jdk/internal/util/ArraysSupport"), (0, u "LOG2_ARRAY_LONG_INDEX_SCALE"), (0, u "I"), (2, u "U"), (0, u "Ljdk/internal/misc/Unsafe;"), (8, u "BIG_ENDIAN"), (0, u "Z"), (8, u "LOG2_BYTE_BIT_SIZE"), (4, u "LOG2_ARRAY_INT_INDEX_SCALE"), (54, u "JLA"), (0, u "Ljdk/internal/access/JavaLangAccess;"), (11, u "LOG2_ARRAY_BOOLEAN_INDEX_SCALE"), (9, u "LOG2_ARRAY_BYTE_INDEX_SCALE"), (5, u "LOG2_ARRAY_CHAR_INDEX_SCALE"), (5, u "LOG2_ARRAY_SHORT_INDEX_SCALE"), (18, u "LOG2_ARRAY_FLOAT_INDEX_SCALE"), (24, u "LOG2_ARRAY_DOUBLE_INDEX_SCALE"), (89, u "T_BOOLEAN"), (2, u "T_CHAR"), (1, u "T_FLOAT"), (1, u "T_DOUBLE"), (1, u "T_BYTE"), (1, u "T_SHORT"), (1, u "T_INT"), (1, u "T_LONG"), (1, u "SOFT_MAX_ARRAY_LENGTH")] 83

def k23m0 : Method := { name := "<init>", desc := "()V", sig := { parameters := [], returnType := none }, accessFlags := 2, code := none }
/-- jdk/internal/util/ArraysSupport -/
def k23 : Class := { plain "jdk/internal/util/ArraysSupport" (some 0) with
  accessFlags := 33
  interfaces := #[]
  cf := some (fileOf pool23 21 #[] #[{ accessFlags := 2, nameIndex := 9, descriptorIndex := 19, attributes := #[] }] 33 16 #[] #[{ accessFlags := 24, nameIndex := 28, descriptorIndex := 29, attributes := #[] }, { accessFlags := 26, nameIndex := 38, descriptorIndex := 39, attributes := #[] }, { accessFlags := 25, nameIndex := 121, descriptorIndex := 25, attributes := #[] }, { accessFlags := 25, nameIndex := 131, descriptorIndex := 25, attributes := #[] }, { accessFlags := 25, nameIndex := 137, descriptorIndex := 25, attributes := #[] }, { accessFlags := 25, nameIndex := 143, descriptorIndex := 25, attributes := #[] }, { accessFlags := 25, nameIndex := 53, descriptorIndex := 25, attributes := #[] }, { accessFlags := 25, nameIndex := 24, descriptorIndex := 25, attributes := #[] }, { accessFlags := 25, nameIndex := 162, descriptorIndex := 25, attributes := #[] }, { accessFlags := 25, nameIndex := 187, descriptorIndex := 25, attributes := #[] }, { accessFlags := 26, nameIndex := 48, descriptorIndex := 25, attributes := #[] }, { accessFlags := 25, nameIndex := 277, descriptorIndex := 25, attributes := #[] }, { accessFlags := 25, nameIndex := 280, descriptorIndex := 25, attributes := #[] }, { accessFlags := 25, nameIndex := 282, descriptorIndex := 25, attributes := #[] }, { accessFlags := 25, nameIndex := 284, descriptorIndex := 25, attributes := #[] }, { accessFlags := 25, nameIndex := 286, descriptorIndex := 25, attributes := #[] }, { accessFlags := 25, nameIndex := 288, descriptorIndex := 25, attributes := #[] }, { accessFlags := 25, nameIndex := 290, descriptorIndex := 25, attributes := #[] }, { accessFlags := 25, nameIndex := 292, descriptorIndex := 25, attributes := #[] }, { accessFlags := 26, nameIndex := 108, descriptorIndex := 109, attributes := #[] }, { accessFlags := 25, nameIndex := 294, descriptorIndex := 25, attributes := #[] }])
  fields := #[{ name := "U", type := (.object "jdk/internal/misc/Unsafe"), accessFlags := 24, slot := 0, constantValue := 0 }, { name := "BIG_ENDIAN", type := .boolean, accessFlags := 26, slot := 1, constantValue := 0 }, { name := "LOG2_ARRAY_BOOLEAN_INDEX_SCALE", type := .int, accessFlags := 25, slot := 2, constantValue := 0 }, { name := "LOG2_ARRAY_BYTE_INDEX_SCALE", type := .int, accessFlags := 25, slot := 3, constantValue := 0 }, { name := "LOG2_ARRAY_CHAR_INDEX_SCALE", type := .int, accessFlags := 25, slot := 4, constantValue := 0 }, { name := "LOG2_ARRAY_SHORT_INDEX_SCALE", type := .int, accessFlags := 25, slot := 5, constantValue := 0 }, { name := "LOG2_ARRAY_INT_INDEX_SCALE", type := .int, accessFlags := 25, slot := 6, constantValue := 0 }, { name := "LOG2_ARRAY_LONG_INDEX_SCALE", type := .int, accessFlags := 25, slot := 7, constantValue := 0 }, { name := "LOG2_ARRAY_FLOAT_INDEX_SCALE", type := .int, accessFlags := 25, slot := 8, constantValue := 0 }, { name := "LOG2_ARRAY_DOUBLE_INDEX_SCALE", type := .int, accessFlags := 25, slot := 9, constantValue := 0 }, { name := "LOG2_BYTE_BIT_SIZE", type := .int, accessFlags := 26, slot := 10, constantValue := 0 }, { name := "T_BOOLEAN", type := .int, accessFlags := 25, slot := 11, constantValue := 0 }, { name := "T_CHAR", type := .int, accessFlags := 25, slot := 12, constantValue := 0 }, { name := "T_FLOAT", type := .int, accessFlags := 25, slot := 13, constantValue := 0 }, { name := "T_DOUBLE", type := .int, accessFlags := 25, slot := 14, constantValue := 0 }, { name := "T_BYTE", type := .int, accessFlags := 25, slot := 15, constantValue := 0 }, { name := "T_SHORT", type := .int, accessFlags := 25, slot := 16, constantValue := 0 }, { name := "T_INT", type := .int, accessFlags := 25, slot := 17, constantValue := 0 }, { name := "T_LONG", type := .int, accessFlags := 25, slot := 18, constantValue := 0 }, { name := "JLA", type := (.object "jdk/internal/access/JavaLangAccess"), accessFlags := 26, slot := 19, constantValue := 0 }, { name := "SOFT_MAX_ARRAY_LENGTH", type := .int, accessFlags := 25, slot := 20, constantValue := 0 }]
  methods := #[k23m0]
  instanceTypes := #[]
  staticTypes := #[(.object "jdk/internal/misc/Unsafe"), .boolean, .int, .int, .int, .int, .int, .int, .int, .int, .int, .int, .int, .int, .int, .int, .int, .int, .int, (.object "jdk/internal/access/JavaLangAccess"), .int]
  resolved := Array.replicate 378 none
  statics := none }

/-- the primitive byte -/
def k24 : Class := { plain "byte" none with kind := .primitive 'B', accessFlags := 0x411 }
/-- [B -/
def k25 : Class := { plain "[B" (some 0) with kind := .array 24 .byte, interfaces := #[9, 10], accessFlags := 1041 }

/-- the primitive int -/
def k26 : Class := { plain "int" none with kind := .primitive 'I', accessFlags := 0x411 }
/-- [I -/
def k27 : Class := { plain "[I" (some 0) with kind := .array 26 .int, interfaces := #[9, 10], accessFlags := 1041 }

/-- [Ljava/lang/Object; -/
def k28 : Class := { plain "[Ljava/lang/Object;" (some 0) with kind := .array 0 (.object "java/lang/Object"), interfaces := #[9, 10], accessFlags := 1041 }

def heap : Heap := #[{ cls := 11, slots := #[.long 0, .int 0, .ref 3, .ref 4], vm := .statics 11 },
  { cls := 16, slots := #[.long 0, .int 1, .null, .int 0, .null, .int 0, .int 0], vm := .statics 16 },
  { cls := 22, slots := #[.null, .null, .null], vm := .statics 22 },
  { cls := 28, slots := #[], vm := .none },
  { cls := 28, slots := #[], vm := .none }]
def classes : Array Class := #[k0, k1, k2, k3, k4, k5, k6, k7, k8, k9, k10, k11, k12, k13, k14, k15, k16, k17, k18, k19, k20, k21, k22, k23, k24, k25, k26, k27, k28]
def interned : List (Array UInt16 × Addr) := []
def slotsUsed : Nat := 14
def theMethod : MethodId := ⟨1, 1⟩
def args0 : Array Value := #[.int 1, .int 2, .int 3, .int 4, .int 5, .int 6]
def aboutOver (below : List Frame) : State where
  vm := { classes := classes, interned := interned.toArray }
  heap := heap
  slotsUsed := slotsUsed
  threads := #[{ frames := .invoking theMethod args0 :: below }]
def below0 : List Frame := [.native { method := ⟨0, 0⟩, args := #[] }]
def about1 : State := aboutOver below0
def p0 : Program := .bare "" "" ""
def e0 : Env := launch0.env 0 0 0
theorem w_frames : about1.frames = Frame.invoking theMethod args0 :: below0 := rfl
set_option maxRecDepth 65536 in
theorem w_args : argsFit about1.vm theMethod args0 = true := by decide +kernel
set_option maxRecDepth 65536 in
theorem w_heap : heapFits about1 = true := by decide +kernel
set_option maxRecDepth 65536 in
theorem w_runnable : about1.curStatus? = some .runnable := by decide +kernel
set_option maxRecDepth 65536 in
theorem w_alone : about1.alone = true := by decide +kernel
set_option maxRecDepth 65536 in
theorem w_named : about1.methodNamed? x = some theMethod := by decide +kernel
set_option maxRecDepth 65536 in
theorem w_hears : about1.hears theMethod below0 = true := by decide +kernel
set_option maxRecDepth 65536 in
theorem w_ripe : about1.ripe theMethod args0 below0 = true := by decide +kernel
theorem w_running : about1.status = .running := rfl
set_option maxRecDepth 65536 in
theorem w_room : about1.hasRoom e0.platform room_1 = true :=
  launch0.hasRoom_least _ room_1 (by decide +kernel) (by decide +kernel) (by decide +kernel) (by decide +kernel) (by decide +kernel) (by decide +kernel)
theorem allAtoms_all (ts : List Jvm.Cond) (a : Array Jvm.Value) (st : Jvm.State) : (allAtoms ts).before a st = ts.all (fun c => c.before a st) := by
  induction ts with
  | nil => rfl
  | cons c t ih =>
    show (Jvm.Cond.and c (allAtoms t)).before a st = _
    rw [Jvm.Cond.before_and, ih, List.all_cons]
def words1 : List Jvm.Cond := Jvm.Cond.code x code maxLocals ret :: tables_1
/-- a 'code' word, met by the world's own term for the bytes: nothing is compared byte by byte -/
theorem code_word {y : MethodName} {bytes : ByteArray} {mx : Nat} {rt : Option FieldType} {a : Array Value} {s : State} {m : MethodId} {meth : Method} {c : Code} (h1 : s.methodNamed? y = some m) (h2 : s.vm.method? m = some meth) (h3 : meth.code = some c) (h4 : c.code = bytes)
    (h5 : (c.maxLocals == mx && c.exceptionTable.isEmpty && decide (c.maxStack ≤ mostOperands) && decide (meth.sig.returnType = rt) && !meth.locks && decide (parseMethodDescriptor y.desc = some meth.sig)) = true) : (Jvm.Cond.code y bytes mx rt).before a s = true := by
  simp only [Bool.and_eq_true, beq_iff_eq, Bool.not_eq_true', decide_eq_true_eq] at h5
  obtain ⟨⟨⟨⟨⟨g1, g2⟩, g3⟩, g4⟩, g5⟩, g6⟩ := h5
  simp [Cond.before, Cond.holds, Cond.value, h1, h2, h3, h4, g1, g2, g3, g4, g5, g6]
def isCode : Jvm.Cond → Bool
  | .code _ _ _ _ => true
  | _ => false
theorem all_split {L : List Jvm.Cond} {P : Jvm.Cond → Bool} (h1 : L.all (fun c => isCode c || P c) = true) (h2 : ∀ c ∈ L.filter isCode, P c = true) : L.all P = true := by
  refine List.all_eq_true.mpr fun c hc => ?_
  have h := List.all_eq_true.mp h1 c hc
  rcases Bool.eq_false_or_eq_true (isCode c) with hi | hi
  · exact h2 c (List.mem_filter.mpr ⟨hc, hi⟩)
  · simpa [hi] using h
set_option maxRecDepth 65536 in
theorem w_c0 : (Jvm.Cond.code x code maxLocals ret).before args0 about1 = true := code_word (m := ⟨1, 1⟩) (meth := k1m1) (c := k1c1) (by decide +kernel) rfl rfl rfl (by decide +kernel)
set_option maxRecDepth 65536 in
theorem w_c1 : (Jvm.Cond.code ({ cls := "java/util/ArrayList", name := "<init>", desc := "()V" } : Jvm.MethodName) jdk_38_method_2_code (1 : Nat) (Option.none : Option Jvm.ClassFile.FieldType)).before args0 about1 = true := code_word (m := ⟨11, 0⟩) (meth := k11m0) (c := k11c0) (by decide +kernel) rfl rfl rfl (by decide +kernel)
set_option maxRecDepth 65536 in
theorem w_c2 : (Jvm.Cond.code ({ cls := "java/util/AbstractList", name := "<init>", desc := "()V" } : Jvm.MethodName) jdk_39_method_1_code (1 : Nat) (Option.none : Option Jvm.ClassFile.FieldType)).before args0 about1 = true := code_word (m := ⟨7, 0⟩) (meth := k7m0) (c := k7c0) (by decide +kernel) rfl rfl rfl (by decide +kernel)
set_option maxRecDepth 65536 in
theorem w_c3 : (Jvm.Cond.code ({ cls := "java/util/AbstractCollection", name := "<init>", desc := "()V" } : Jvm.MethodName) jdk_22_method_1_code (1 : Nat) (Option.none : Option Jvm.ClassFile.FieldType)).before args0 about1 = true := code_word (m := ⟨4, 0⟩) (meth := k4m0) (c := k4c0) (by decide +kernel) rfl rfl rfl (by decide +kernel)
set_option maxRecDepth 65536 in
theorem w_c4 : (Jvm.Cond.code ({ cls := "java/lang/Object", name := "<init>", desc := "()V" } : Jvm.MethodName) object_method_1_code (1 : Nat) (Option.none : Option Jvm.ClassFile.FieldType)).before args0 about1 = true := code_word (m := ⟨0, 0⟩) (meth := k0m0) (c := k0c0) (by decide +kernel) rfl rfl rfl (by decide +kernel)
set_option maxRecDepth 65536 in
theorem w_c5 : (Jvm.Cond.code ({ cls := "java/lang/String", name := "valueOf", desc := "(C)Ljava/lang/String;" } : Jvm.MethodName) jdk_42_method_139_code (1 : Nat) (Option.some (Jvm.ClassFile.FieldType.object "java/lang/String"))).before args0 about1 = true := code_word (m := ⟨16, 1⟩) (meth := k16m1) (c := k16c1) (by decide +kernel) rfl rfl rfl (by decide +kernel)
set_option maxRecDepth 65536 in
theorem w_c6 : (Jvm.Cond.code ({ cls := "java/lang/StringLatin1", name := "canEncode", desc := "(C)Z" } : Jvm.MethodName) jdk_43_method_3_code (1 : Nat) (Option.some Jvm.ClassFile.FieldType.boolean)).before args0 about1 = true := code_word (m := ⟨17, 1⟩) (meth := k17m1) (c := k17c1) (by decide +kernel) rfl rfl rfl (by decide +kernel)
set_option maxRecDepth 65536 in
theorem w_c7 : (Jvm.Cond.code ({ cls := "java/lang/StringLatin1", name := "toBytes", desc := "(C)[B" } : Jvm.MethodName) jdk_43_method_46_code (1 : Nat) (Option.some (Jvm.ClassFile.FieldType.array Jvm.ClassFile.FieldType.byte))).before args0 about1 = true := code_word (m := ⟨17, 2⟩) (meth := k17m2) (c := k17c2) (by decide +kernel) rfl rfl rfl (by decide +kernel)
set_option maxRecDepth 65536 in
theorem w_c8 : (Jvm.Cond.code ({ cls := "java/lang/String", name := "<init>", desc := "([BB)V" } : Jvm.MethodName) jdk_42_method_151_code (3 : Nat) (Option.none : Option Jvm.ClassFile.FieldType)).before args0 about1 = true := code_word (m := ⟨16, 2⟩) (meth := k16m2) (c := k16c2) (by decide +kernel) rfl rfl rfl (by decide +kernel)
set_option maxRecDepth 65536 in
theorem w_c9 : (Jvm.Cond.code ({ cls := "java/util/ArrayList", name := "add", desc := "(Ljava/lang/Object;)Z" } : Jvm.MethodName) jdk_38_method_25_code (2 : Nat) (Option.some Jvm.ClassFile.FieldType.boolean)).before args0 about1 = true := code_word (m := ⟨11, 4⟩) (meth := k11m4) (c := k11c4) (by decide +kernel) rfl rfl rfl (by decide +kernel)
set_option maxRecDepth 65536 in
theorem w_c10 : (Jvm.Cond.code ({ cls := "java/util/ArrayList", name := "add", desc := "(Ljava/lang/Object;[Ljava/lang/Object;I)V" } : Jvm.MethodName) jdk_38_method_24_code (4 : Nat) (Option.none : Option Jvm.ClassFile.FieldType)).before args0 about1 = true := code_word (m := ⟨11, 3⟩) (meth := k11m3) (c := k11c3) (by decide +kernel) rfl rfl rfl (by decide +kernel)
set_option maxRecDepth 65536 in
theorem w_c11 : (Jvm.Cond.code ({ cls := "java/util/ArrayList", name := "grow", desc := "()[Ljava/lang/Object;" } : Jvm.MethodName) jdk_38_method_7_code (1 : Nat) (Option.some (Jvm.ClassFile.FieldType.array (Jvm.ClassFile.FieldType.object "java/lang/Object")))).before args0 about1 = true := code_word (m := ⟨11, 2⟩) (meth := k11m2) (c := k11c2) (by decide +kernel) rfl rfl rfl (by decide +kernel)
set_option maxRecDepth 65536 in
theorem w_c12 : (Jvm.Cond.code ({ cls := "java/util/ArrayList", name := "grow", desc := "(I)[Ljava/lang/Object;" } : Jvm.MethodName) jdk_38_method_6_code (4 : Nat) (Option.some (Jvm.ClassFile.FieldType.array (Jvm.ClassFile.FieldType.object "java/lang/Object")))).before args0 about1 = true := code_word (m := ⟨11, 1⟩) (meth := k11m1) (c := k11c1) (by decide +kernel) rfl rfl rfl (by decide +kernel)
set_option maxRecDepth 65536 in
theorem w_c13 : (Jvm.Cond.code ({ cls := "java/lang/Math", name := "max", desc := "(II)I" } : Jvm.MethodName) jdk_29_method_65_code (2 : Nat) (Option.some Jvm.ClassFile.FieldType.int)).before args0 about1 = true := code_word (m := ⟨18, 1⟩) (meth := k18m1) (c := k18c1) (by decide +kernel) rfl rfl rfl (by decide +kernel)
set_option maxRecDepth 65536 in
theorem w_c14 : (Jvm.Cond.code ({ cls := "com/example/arpent/arpent/geom/Point", name := "<init>", desc := "(Ljava/util/List;DD)V" } : Jvm.MethodName) prog_57_method_1_code (6 : Nat) (Option.none : Option Jvm.ClassFile.FieldType)).before args0 about1 = true := code_word (m := ⟨21, 0⟩) (meth := k21m0) (c := k21c0) (by decide +kernel) rfl rfl rfl (by decide +kernel)
set_option maxRecDepth 65536 in
theorem w_c15 : (Jvm.Cond.code ({ cls := "java/lang/Record", name := "<init>", desc := "()V" } : Jvm.MethodName) jdk_30_method_1_code (1 : Nat) (Option.none : Option Jvm.ClassFile.FieldType)).before args0 about1 = true := code_word (m := ⟨19, 0⟩) (meth := k19m0) (c := k19c0) (by decide +kernel) rfl rfl rfl (by decide +kernel)
set_option maxRecDepth 65536 in
theorem w_c16 : (Jvm.Cond.code ({ cls := "com/example/arpent/arpent/geom/Point", name := "samePlace", desc := "(Lcom/example/arpent/arpent/geom/Point;)Z" } : Jvm.MethodName) prog_57_method_4_code (2 : Nat) (Option.some Jvm.ClassFile.FieldType.boolean)).before args0 about1 = true := code_word (m := ⟨21, 1⟩) (meth := k21m1) (c := k21c1) (by decide +kernel) rfl rfl rfl (by decide +kernel)
def codes1 : List Jvm.Cond := [Jvm.Cond.code x code maxLocals ret, Jvm.Cond.code ({ cls := "java/util/ArrayList", name := "<init>", desc := "()V" } : Jvm.MethodName) jdk_38_method_2_code (1 : Nat) (Option.none : Option Jvm.ClassFile.FieldType), Jvm.Cond.code ({ cls := "java/util/AbstractList", name := "<init>", desc := "()V" } : Jvm.MethodName) jdk_39_method_1_code (1 : Nat) (Option.none : Option Jvm.ClassFile.FieldType), Jvm.Cond.code ({ cls := "java/util/AbstractCollection", name := "<init>", desc := "()V" } : Jvm.MethodName) jdk_22_method_1_code (1 : Nat) (Option.none : Option Jvm.ClassFile.FieldType), Jvm.Cond.code ({ cls := "java/lang/Object", name := "<init>", desc := "()V" } : Jvm.MethodName) object_method_1_code (1 : Nat) (Option.none : Option Jvm.ClassFile.FieldType), Jvm.Cond.code ({ cls := "java/lang/String", name := "valueOf", desc := "(C)Ljava/lang/String;" } : Jvm.MethodName) jdk_42_method_139_code (1 : Nat) (Option.some (Jvm.ClassFile.FieldType.object "java/lang/String")), Jvm.Cond.code ({ cls := "java/lang/StringLatin1", name := "canEncode", desc := "(C)Z" } : Jvm.MethodName) jdk_43_method_3_code (1 : Nat) (Option.some Jvm.ClassFile.FieldType.boolean), Jvm.Cond.code ({ cls := "java/lang/StringLatin1", name := "toBytes", desc := "(C)[B" } : Jvm.MethodName) jdk_43_method_46_code (1 : Nat) (Option.some (Jvm.ClassFile.FieldType.array Jvm.ClassFile.FieldType.byte)), Jvm.Cond.code ({ cls := "java/lang/String", name := "<init>", desc := "([BB)V" } : Jvm.MethodName) jdk_42_method_151_code (3 : Nat) (Option.none : Option Jvm.ClassFile.FieldType), Jvm.Cond.code ({ cls := "java/util/ArrayList", name := "add", desc := "(Ljava/lang/Object;)Z" } : Jvm.MethodName) jdk_38_method_25_code (2 : Nat) (Option.some Jvm.ClassFile.FieldType.boolean), Jvm.Cond.code ({ cls := "java/util/ArrayList", name := "add", desc := "(Ljava/lang/Object;[Ljava/lang/Object;I)V" } : Jvm.MethodName) jdk_38_method_24_code (4 : Nat) (Option.none : Option Jvm.ClassFile.FieldType), Jvm.Cond.code ({ cls := "java/util/ArrayList", name := "grow", desc := "()[Ljava/lang/Object;" } : Jvm.MethodName) jdk_38_method_7_code (1 : Nat) (Option.some (Jvm.ClassFile.FieldType.array (Jvm.ClassFile.FieldType.object "java/lang/Object"))), Jvm.Cond.code ({ cls := "java/util/ArrayList", name := "grow", desc := "(I)[Ljava/lang/Object;" } : Jvm.MethodName) jdk_38_method_6_code (4 : Nat) (Option.some (Jvm.ClassFile.FieldType.array (Jvm.ClassFile.FieldType.object "java/lang/Object"))), Jvm.Cond.code ({ cls := "java/lang/Math", name := "max", desc := "(II)I" } : Jvm.MethodName) jdk_29_method_65_code (2 : Nat) (Option.some Jvm.ClassFile.FieldType.int), Jvm.Cond.code ({ cls := "com/example/arpent/arpent/geom/Point", name := "<init>", desc := "(Ljava/util/List;DD)V" } : Jvm.MethodName) prog_57_method_1_code (6 : Nat) (Option.none : Option Jvm.ClassFile.FieldType), Jvm.Cond.code ({ cls := "java/lang/Record", name := "<init>", desc := "()V" } : Jvm.MethodName) jdk_30_method_1_code (1 : Nat) (Option.none : Option Jvm.ClassFile.FieldType), Jvm.Cond.code ({ cls := "com/example/arpent/arpent/geom/Point", name := "samePlace", desc := "(Lcom/example/arpent/arpent/geom/Point;)Z" } : Jvm.MethodName) prog_57_method_4_code (2 : Nat) (Option.some Jvm.ClassFile.FieldType.boolean)]
set_option maxRecDepth 65536 in
theorem codes_eq : words1.filter isCode = codes1 := rfl
theorem w_codes : ∀ c ∈ words1.filter isCode, c.before args0 about1 = true := by
  rw [codes_eq]
  intro c hc
  simp only [codes1, List.mem_cons, List.not_mem_nil, or_false] at hc
  rcases hc with rfl | rfl | rfl | rfl | rfl | rfl | rfl | rfl | rfl | rfl | rfl | rfl | rfl | rfl | rfl | rfl | rfl
  · exact w_c0
  · exact w_c1
  · exact w_c2
  · exact w_c3
  · exact w_c4
  · exact w_c5
  · exact w_c6
  · exact w_c7
  · exact w_c8
  · exact w_c9
  · exact w_c10
  · exact w_c11
  · exact w_c12
  · exact w_c13
  · exact w_c14
  · exact w_c15
  · exact w_c16
set_option maxRecDepth 65536 in
theorem w_t1 : (words1.take 24).all (fun c => isCode c || c.before args0 about1) = true := by decide +kernel
set_option maxRecDepth 65536 in
theorem w_t2 : ((words1.drop 24).take 24).all (fun c => isCode c || c.before args0 about1) = true := by decide +kernel
set_option maxRecDepth 65536 in
theorem w_t3 : (((words1.drop 24).drop 24).take 24).all (fun c => isCode c || c.before args0 about1) = true := by decide +kernel
set_option maxRecDepth 65536 in
theorem w_t4 : ((((words1.drop 24).drop 24).drop 24).take 24).all (fun c => isCode c || c.before args0 about1) = true := by decide +kernel
set_option maxRecDepth 65536 in
theorem w_t5 : ((((words1.drop 24).drop 24).drop 24).drop 24).all (fun c => isCode c || c.before args0 about1) = true := by decide +kernel
theorem w_tables : (allAtoms (Jvm.Cond.code x code maxLocals ret :: tables_1)).before args0 about1 = true := by
  rw [allAtoms_all]
  show words1.all (fun c => c.before args0 about1) = true
  refine all_split ?_ w_codes
  rw [← List.take_append_drop 24 words1, List.all_append, w_t1, ← List.take_append_drop 24 (words1.drop 24), List.all_append, w_t2, ← List.take_append_drop 24 ((words1.drop 24).drop 24), List.all_append, w_t3, ← List.take_append_drop 24 (((words1.drop 24).drop 24).drop 24), List.all_append, w_t4, w_t5]
  rfl
set_option maxRecDepth 65536 in
theorem w_rest : rest_1_c.before args0 about1 = true := by decide +kernel
set_option maxRecDepth 65536 in
theorem w_case : (Jvm.Cond.and given_1 narrow_1).before args0 about1 = true := by decide +kernel
theorem w_applies : (headSpec (Jvm.Cond.code x code maxLocals ret :: tables_1) room_1).applies x e0.platform about1 = true :=
  (Spec.applies_iff w_frames).mpr ⟨w_running, w_runnable, w_alone, w_named, w_hears, w_ripe, w_room, w_tables⟩
theorem atStart : AtStart classFile x code maxLocals ret World_1 tables_1 room_1 Calls_1 rest_1 Pre_1 launch0 p0 e0 about1 theMethod args0 below0 :=
  ⟨lists_1, trivial, launch0.admits_env _ _ _, launch0.least_env, fairChoices_fair.cas, fairChoices_fair.clock, w_frames, w_args, w_heap, w_applies, trivial, w_rest, w_case⟩
end start1
theorem witness_1 : WitnessClaimed_1 := ⟨start1.p0, start1.e0, start1.about1, start1.theMethod, start1.args0, start1.below0, start1.atStart⟩
end Jvm.Pilot.@@N@@
